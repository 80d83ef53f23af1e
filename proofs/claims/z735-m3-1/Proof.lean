import JvmDerived
import JvmDerived.Pilot.@@N@@Statement
import JvmDerived.Pilot.@@N@@Code
set_option maxRecDepth 65536
set_option maxHeartbeats 40000000
set_option linter.unusedVariables false
set_option linter.unusedSimpArgs false
namespace Jvm.RoadKit
open Sem ClassFile Op Lib Jvm.Stand Jvm.Free Jvm.LawKit
section New
variable {p : Program} {l : Launch} {e : Env} {R : Room} {s : State} {m : MethodId} {args : Array Value} {below : List Frame} {meth : Method} {c : Code} {T : State} {locs : List Loc} {cells slots : Nat}
theorem retI (X : Stand p l e R s m args below meth c T locs cells slots) (hx : p.tables.exec = Jvm.exec) {pc : Nat} {Ls : Array Slot} {z : Int32} {rest : List Value} (hret : meth.sig.returnType = some .int) (hd : decode c.code pc = .ok (.ireturn, 1)) {fs : List Frame}
    (hl : ∀ (f : JFrame) (acts : List Action), f.method = m → f.locked = none → f.entered = [] → (doReturn e (T.setTop f) acts (some (.int z))).1 = T.setFrames fs) : Steps p.tables e below (T.setTop (mkF m pc Ls (.int z :: rest))) (T.setFrames fs) :=
  retOut X hx hret rfl (Or.inl ⟨rfl, Or.inl rfl, z, rfl⟩) hd hl
end New
end Jvm.RoadKit
namespace Jvm.Pilot.@@N@@
open Jvm Jvm.ClassFile Sem Op Lib Jvm.Free Jvm.Stand Jvm.LawKit Jvm.RoadKit Bundle Jvm.Pilot.@@N@@.Jvm.D
abbrev HW (a0 : Array Value) (Z : State) : Prop := ∀ d ∈ tables_1, d.before a0 Z = true
theorem wk {r W k : Nat} (h0 : r = 0) (h : k = W) : 2 * r + k ≤ W := by omega
theorem nvS {r : Option FieldType} {ty : FieldType} {v : Option Value} (hret : r = some ty) : r = none → v = none := fun h => by rw [hret] at h; cases h
abbrev vi (x : Int32) : Slot := .val (.int x)
abbrev vr (a : Addr) : Slot := .val (.ref a)
section OwnKit
variable {p : Program} {l : Launch} {e : Env} {R : Room} {s s' : State} {m : MethodId} {args : Array Value} {below : List Frame} {meth : Method} {c : Code} {T T' : State} {locs : List Loc} {cells slots : Nat} {g g' : JFrame} {Z : State} {a0 : Array Value} {h : Heap} {Q : Option Value → Heap → List Loc → Prop} {k n : Nat} {E : State → Outcome → State → List Loc → Nat → Nat → Prop}
/-- the run goes on from here to its end, and the end is as Q and the frame E say -/
def Fin (E : State → Outcome → State → List Loc → Nat → Nat → Prop) (p : Program) (e : Env) (below : List Frame) (s : State) (Q : Option Value → Heap → List Loc → Prop) (k n : Nat) (T : State) (g : JFrame) : Prop :=
  ∃ (s₂ : State) (o : Outcome), Steps p.tables e below (T.setTop g) s₂ ∧ s₂.status = .running ∧ Ended s₂ below o ∧ ∃ v L, o = .returned v ∧ Q v s₂.heap L ∧ E s o s₂ L k n
theorem Fin.go (st : ∀ t, Steps p.tables e below (T'.setTop g') t → Steps p.tables e below (T.setTop g) t) (w : Fin E p e below s Q k n T' g') : Fin E p e below s Q k n T g := by
  obtain ⟨s₂, o, h1, r⟩ := w
  exact ⟨s₂, o, st _ h1, r⟩
theorem Fin.came (st : Steps p.tables e below (T.setTop g) (T'.setTop g')) (w : Fin E p e below s Q k n T' g') : Fin E p e below s Q k n T g := by
  obtain ⟨s₂, o, h1, r⟩ := w
  exact ⟨s₂, o, st.trans h1, r⟩
theorem Fin.leaveN (X : Stand p l e R s m args below meth c T locs cells slots) (eT : T.heap = h) (hlk : meth.locks = false) {v : Option Value} (hv : meth.sig.returnType = none → v = none) (hk : cells ≤ k) (hn : slots ≤ n) (hq : Q v h locs)
    (st : ∀ fs, (∀ (f : JFrame) (acts : List Action), f.method = m → f.locked = none → f.entered = [] → (doReturn e (T.setTop f) acts v).1 = T.setFrames fs) → Steps p.tables e below (T.setTop g) (T.setFrames fs)) : Fin FrameEnd p e below s Q k n T g := by
  subst eT
  obtain ⟨fs, hr, hrun, hended, hW, hsame⟩ := X.leave hv hlk
  exact ⟨_, _, st fs hr, hrun, hended, v, locs, rfl, hq, ⟨v, rfl⟩, hW, hsame.mono hk hn⟩
/-- a body's contract: called with these arguments at this heap, it comes back as Q says -/
abbrev ConW (E : State → Outcome → State → List Loc → Nat → Nat → Prop) (l : Launch) (Z : State) (ws : List Jvm.Cond) (y : MethodName) (bytes : ByteArray) (maxL : Nat) (ret : Option FieldType) (rm : Room) (as' : Array Value) (h : Heap) (Q : Option Value → Heap → List Loc → Prop) : Prop :=
  MetFree l y (head1 (Jvm.Cond.code y bytes maxL ret :: ws) rm) (fun a U => a = as' ∧ Z.Warmed39 U.vm ∧ U.heap = h) (fun _ _ _ _ _ => True) (fun _ U o U' => ∃ v L, o = .returned v ∧ Q v U'.heap L ∧ E U o U' L rm.cells rm.slots)
abbrev Con (E : State → Outcome → State → List Loc → Nat → Nat → Prop) (l : Launch) (Z : State) (y : MethodName) (bytes : ByteArray) (maxL : Nat) (ret : Option FieldType) (rm : Room) (as' : Array Value) (h : Heap) (Q : Option Value → Heap → List Loc → Prop) : Prop := ConW E l Z [] y bytes maxL ret rm as' h Q
theorem conOf {ws : List Jvm.Cond} {y : MethodName} {bytes : ByteArray} {maxL : Nat} {ret : Option FieldType} {rm : Room} {as' : Array Value} (hpn : plainFor y = true)
    (body : ∀ (p : Program) (e : Env) (s : State) (m : MethodId) (below : List Frame) (meth : Method) (c : Code) (s₁ : State), Stand p l e rm s m as' below meth c s₁ [] 0 0 → p.tables.exec = Jvm.exec → c.code = bytes → c.maxLocals = maxL → s.vm.findClass y.cls = some m.cls → meth.name = y.name →
      meth.sig.returnType = ret → meth.locks = false → Z.Warmed39 s.vm → s₁.heap = h → Fin E p e below s Q rm.cells rm.slots s₁ (entryFrame m as' maxL)) : ConW E l Z ws y bytes maxL ret rm as' h Q := by
  refine MetFree.of_bodySF hpn hisR ?_
  intro p e s m args below meth c s₁ Bd hml hP hK
  obtain ⟨rfl, hZ, hh⟩ := hP
  exact body p e s m below meth c s₁ (Stand.of_body Bd) Bd.exec Bd.bytes hml (findClass_of_methodNamed Bd.named) (name_of_methodNamed Bd.named Bd.method).1 Bd.returns (BodyLoose.notSynchronized Bd) hZ (by rw [← hh, Bd.state]; rfl)
/-- nothing moved; r is returned -/
abbrev Pure (h0 : Heap) (r : Option Value) : Option Value → Heap → List Loc → Prop := fun v h L => v = r ∧ h = h0 ∧ L = []
theorem nar_refv {v : Value} {t : FieldType} (h : v.isRef = true) (ht : t.isReference = true) : narrow t v = v := by
  rcases ref_cases h with rfl | ⟨a, rfl⟩ <;> cases t <;> first | rfl | (simp [FieldType.isReference] at ht)
theorem fits_refv {v : Value} {t : FieldType} (h : v.isRef = true) (ht : t.isReference = true) : fits t v = true := by
  rcases ref_cases h with rfl | ⟨a, rfl⟩ <;> cases t <;> first | rfl | (simp [FieldType.isReference] at ht)
theorem nar_b8 (x : Int32) : nar .byte ((Int32.toInt8 x).toInt32) = (Int32.toInt8 x).toInt32 := by simp [nar]
theorem nar_c16 (x : Int32) : nar .char ((Int32.toUInt32 x).toUInt16.toUInt32.toInt32) = (Int32.toUInt32 x).toUInt16.toUInt32.toInt32 := by simp only [nar, UInt32.toUInt32_toInt32, UInt16.toUInt16_toUInt32]
section Calls
variable {own : String} {index : Nat} {y z : MethodName} {bytes : ByteArray} {maxL : Nat} {ret : Option FieldType} {rm : Room} {W : Nat} {Qc : Option Value → Heap → List Loc → Prop} {argsL rest : List Value}
theorem callSt (X : Stand p l e R s m args below meth c T locs cells slots) (hx : p.tables.exec = Jvm.exec) (hZ : Z.Warmed39 s.vm) (hown : s.vm.findClass own = some m.cls)
    (w1 : (Jvm.Cond.methodLink own index y).before a0 Z = true) (w2 : (Jvm.Cond.static y).before a0 Z = true) (w3 : (Jvm.Cond.initialized y.cls).before a0 Z = true) (w4 : (Jvm.Cond.code y bytes maxL ret).before a0 Z = true) (hy : y.cls ≠ "java/lang/invoke/MethodHandle" ∧ y.cls ≠ "java/lang/invoke/VarHandle")
    (hC : Con FrameEnd l Z y bytes maxL ret rm argsL.toArray h Qc) (eT : T.heap = h) (hf : rm.frames + 1 ≤ R.frames) (hl : W + (maxL + 11) + rm.locals ≤ R.locals) (hc : cells + rm.cells ≤ R.cells) (hs : slots + rm.slots ≤ R.slots)
    (hg : g.method = m) (hsize : g.locals.size = c.maxLocals) (hlen : ∀ sig, parseMethodDescriptor y.desc = some sig → argsL.length = sig.parameters.length) (hstack : g.stack = argsL.reverse ++ rest) (hW : 2 * g.monitorRoom + (rest.map fun v => v.category).sum ≤ W) (hdg : decode c.code g.pc = .ok (.invokestatic index, 3)) :
    ∃ (v : Option Value) (T' : State) (L : List Loc), Stand p l e R s m args below meth c T' (locs ++ L) (cells + rm.cells) (slots + rm.slots) ∧ Qc v T'.heap L ∧ ∀ target, Steps p.tables e below (T'.setTop { g with pc := g.pc + 3, stack := v.toList ++ rest }) target → Steps p.tables e below (T.setTop g) target := by
  obtain ⟨v, _, ⟨T2, L2, k2, n2⟩, -, X2, ⟨Lc2, hQ2, l2, y2, z2⟩, st2⟩ := Jvm.LawKit.callS X hx hown (mvT hZ w1) (mvT hZ w2) (mvT hZ w3) (mvT hZ w4) hy (backOf (W := W) hC hZ w4 w3 hf hl) hg hsize hlen hstack hW hdg (fun _ _ => ⟨rfl, eT, hc, hs⟩)
  dsimp only [Pt.U, Pt.locs, Pt.cells, Pt.slots] at X2 l2 y2 z2 st2 hQ2
  subst l2 y2 z2
  exact ⟨v, T2, Lc2, X2, hQ2, st2⟩
theorem callCt (X : Stand p l e R s m args below meth c T locs cells slots) (hx : p.tables.exec = Jvm.exec) (hZ : Z.Warmed39 s.vm) (hy1 : y.name = "<init>") (hown : s.vm.findClass own = some m.cls)
    (w1 : (Jvm.Cond.methodLink own index y).before a0 Z = true) (w2 : (Jvm.Cond.instanceMethod y).before a0 Z = true) (w3 : (Jvm.Cond.initialized y.cls).before a0 Z = true) (w4 : (Jvm.Cond.code y bytes maxL none).before a0 Z = true) (hy : y.cls ≠ "java/lang/invoke/MethodHandle" ∧ y.cls ≠ "java/lang/invoke/VarHandle")
    {a : Addr} (hC : Con FrameEnd l Z y bytes maxL none rm (.ref a :: argsL).toArray h Qc) (eT : T.heap = h) (hf : rm.frames + 1 ≤ R.frames) (hl : W + (maxL + 11) + rm.locals ≤ R.locals) (hc : cells + rm.cells ≤ R.cells) (hs : slots + rm.slots ≤ R.slots)
    (hg : g.method = m) (hsize : g.locals.size = c.maxLocals) (hlen : ∀ sig, parseMethodDescriptor y.desc = some sig → argsL.length = sig.parameters.length) (hstack : g.stack = argsL.reverse ++ .ref a :: rest) (hW : 2 * g.monitorRoom + (rest.map fun v => v.category).sum ≤ W) (hdg : decode c.code g.pc = .ok (.invokespecial index, 3)) :
    ∃ (v : Option Value) (T' : State) (L : List Loc), Stand p l e R s m args below meth c T' (locs ++ L) (cells + rm.cells) (slots + rm.slots) ∧ Qc v T'.heap L ∧ ∀ target, Steps p.tables e below (T'.setTop { g with pc := g.pc + 3, stack := v.toList ++ rest }) target → Steps p.tables e below (T.setTop g) target := by
  obtain ⟨v, _, ⟨T2, L2, k2, n2⟩, -, X2, ⟨Lc2, hQ2, l2, y2, z2⟩, st2⟩ := X.specialBack hx hy1 hown (mvT hZ w1) (mvT hZ w2) (mvT hZ w4) hy (backOf (W := W) hC hZ w4 w3 hf hl) hg hsize (Steps.refl _) hlen hstack hW hdg (fun _ _ => ⟨rfl, eT, hc, hs⟩)
  dsimp only [Pt.U, Pt.locs, Pt.cells, Pt.slots] at X2 l2 y2 z2 st2 hQ2
  subst l2 y2 z2
  exact ⟨v, T2, Lc2, X2, hQ2, fun _ k => st2.trans k⟩
theorem callVt {C : String} (X : Stand p l e R s m args below meth c T locs cells slots) (hx : p.tables.exec = Jvm.exec) (hZ : Z.Warmed39 s.vm) (hown : s.vm.findClass own = some m.cls)
    (w1 : (Jvm.Cond.methodLink own index y).before a0 Z = true) (w2 : (Jvm.Cond.declares y).before a0 Z = true) (w3 : (Jvm.Cond.selects C y y).before a0 Z = true) (w4 : (Jvm.Cond.instanceMethod y).before a0 Z = true) (w5 : (Jvm.Cond.initialized y.cls).before a0 Z = true) (w6 : (Jvm.Cond.code y bytes maxL ret).before a0 Z = true)
    (hy : y.cls ≠ "java/lang/invoke/MethodHandle" ∧ y.cls ≠ "java/lang/invoke/VarHandle")
    {a : Addr} (hC : Con FrameEnd l Z y bytes maxL ret rm (.ref a :: argsL).toArray h Qc) (eT : T.heap = h) (EA : Exa Z h a C) (hf : rm.frames + 1 ≤ R.frames) (hl : W + (maxL + 11) + rm.locals ≤ R.locals) (hc : cells + rm.cells ≤ R.cells) (hs : slots + rm.slots ≤ R.slots)
    (hg : g.method = m) (hsize : g.locals.size = c.maxLocals) (hlen : ∀ sig, parseMethodDescriptor y.desc = some sig → argsL.length = sig.parameters.length) (hstack : g.stack = argsL.reverse ++ .ref a :: rest) (hW : 2 * g.monitorRoom + (rest.map fun v => v.category).sum ≤ W) (hdg : decode c.code g.pc = .ok (.invokevirtual index, 3)) :
    ∃ (v : Option Value) (T' : State) (L : List Loc), Stand p l e R s m args below meth c T' (locs ++ L) (cells + rm.cells) (slots + rm.slots) ∧ Qc v T'.heap L ∧ ∀ target, Steps p.tables e below (T'.setTop { g with pc := g.pc + 3, stack := v.toList ++ rest }) target → Steps p.tables e below (T.setTop g) target := by
  obtain ⟨cq, kq, qa, qb, qc⟩ := isOf hZ eT EA
  obtain ⟨v, _, ⟨T2, L2, k2, n2⟩, -, X2, ⟨Lc2, hQ2, l2, y2, z2⟩, st2⟩ := X.virtualBack hx hown (mvT hZ w1) (mvT hZ w2) (notFace_of_selects (args := #[]) (mvT hZ w3)) (mvT hZ w3) (mvT hZ w4) hy (backOf (W := W) hC hZ w6 w5 hf hl) qa qc hg hsize (Steps.refl _) hlen hstack hW hdg (fun _ _ => ⟨rfl, eT, hc, hs⟩)
  dsimp only [Pt.U, Pt.locs, Pt.cells, Pt.slots] at X2 l2 y2 z2 st2 hQ2
  subst l2 y2 z2
  exact ⟨v, T2, Lc2, X2, hQ2, fun _ k => st2.trans k⟩
end Calls
end OwnKit
section OwnWide
variable {p : Program} {l : Launch} {e : Env} {R : Room} {s s' : State} {m : MethodId} {args : Array Value} {below : List Frame} {meth : Method} {c : Code} {T T' : State} {locs : List Loc} {cells slots : Nat} {g g' : JFrame} {Z : State} {a0 : Array Value} {h : Heap} {Q : Option Value → Heap → List Loc → Prop} {k n : Nat} {vm0 : Vm} {k0 : Nat} {EL : List (String × Nat)}
/-- the wide frame, with the invariant on the String constants -/
def EH (Z : State) (EL : List (String × Nat)) : State → Outcome → State → List Loc → Nat → Nat → Prop := fun s o t L k n => CHr Z EL s.vm s.heap t.vm t.heap ∧ ReturnedEndW s o t L k n
abbrev ConHW (l : Launch) (Z : State) (EL : List (String × Nat)) (ws : List Jvm.Cond) (y : MethodName) (bytes : ByteArray) (maxL : Nat) (ret : Option FieldType) (rm : Room) (as' : Array Value) (h : Heap) (Q : Option Value → Heap → List Loc → Prop) : Prop :=
  MetFree l y (head1 (Jvm.Cond.code y bytes maxL ret :: ws) rm) (fun a U => a = as' ∧ Z.Warmed39 U.vm ∧ U.heap = h ∧ CHv Z EL U.vm h) (fun _ _ _ _ _ => True) (fun _ U o U' => ∃ v L, o = .returned v ∧ Q v U'.heap L ∧ CHr Z EL U.vm U.heap U'.vm U'.heap ∧ ReturnedEndW U o U' L rm.cells rm.slots)
abbrev ConH (l : Launch) (Z : State) (EL : List (String × Nat)) (y : MethodName) (bytes : ByteArray) (maxL : Nat) (ret : Option FieldType) (rm : Room) (as' : Array Value) (h : Heap) (Q : Option Value → Heap → List Loc → Prop) : Prop := ConHW l Z EL [] y bytes maxL ret rm as' h Q
theorem conOfH {ws : List Jvm.Cond} {y : MethodName} {bytes : ByteArray} {maxL : Nat} {ret : Option FieldType} {rm : Room} {as' : Array Value} (hpn : plainFor y = true)
    (body : ∀ (p : Program) (e : Env) (s : State) (m : MethodId) (below : List Frame) (meth : Method) (c : Code) (s₁ : State), Stand p l e rm (s.setVm s.vm) m as' below meth c s₁ [] 0 0 → p.tables.exec = Jvm.exec → c.code = bytes → c.maxLocals = maxL → (s.setVm s.vm).vm.findClass y.cls = some m.cls → meth.name = y.name →
      meth.sig.returnType = ret → meth.locks = false → Z.Warmed39 (s.setVm s.vm).vm → s₁.heap = h → s.Since s.vm 0 → CHr Z EL s.vm s.heap s.vm h → Fin (EH Z EL) p e below s Q rm.cells rm.slots s₁ (entryFrame m as' maxL)) : ConHW l Z EL ws y bytes maxL ret rm as' h Q := by
  refine MetFree.of_bodySF hpn hisR ?_
  intro p e s m args below meth c s₁ Bd hml hP hK
  obtain ⟨rfl, hZ, rfl, hC⟩ := hP
  exact body p e s m below meth c s₁ (Stand.of_body Bd) Bd.exec Bd.bytes hml (findClass_of_methodNamed Bd.named) (name_of_methodNamed Bd.named Bd.method).1 Bd.returns (BodyLoose.notSynchronized Bd) hZ (by rw [Bd.state]; rfl) ((State.WarmedH.refl s).since 0) (CHr.refl hC)
theorem Fin.leaveH (X : Stand p l e R (s.setVm vm0) m args below meth c T locs cells slots) (hS : s.Since vm0 k0) (hk0 : k0 ≤ h.size) (hZ : Z.Warmed39 (s.setVm vm0).vm) (hEL : EW Z a0 EL) (eT : T.heap = h) (RR : CHr Z EL s.vm s.heap vm0 h) (hlk : meth.locks = false) {v : Option Value} (hv : meth.sig.returnType = none → v = none) (hk : cells ≤ k) (hn : slots ≤ n) (hq : Q v h locs)
    (st : ∀ fs, (∀ (f : JFrame) (acts : List Action), f.method = m → f.locked = none → f.entered = [] → (doReturn e (T.setTop f) acts v).1 = T.setFrames fs) → Steps p.tables e below (T.setTop g) (T.setFrames fs)) : Fin (EH Z EL) p e below s Q k n T g := by
  subst eT
  obtain ⟨fs, hr, hrun, hended, h1, h2, h3, h4⟩ := X.leaveW hS hk0 hv hlk
  exact ⟨_, _, st fs hr, hrun, hended, v, locs, rfl, hq, RR.trans (CHv.at X hZ hEL RR.1 : CHr Z EL vm0 T.heap T.vm T.heap), h1, h2, h3, h4.mono hk hn⟩
section CallsH
variable {own : String} {index : Nat} {y z : MethodName} {bytes : ByteArray} {maxL : Nat} {ret : Option FieldType} {rm : Room} {W : Nat} {Qc : Option Value → Heap → List Loc → Prop} {argsL rest : List Value}
theorem callStH (X : Stand p l e R (s.setVm vm0) m args below meth c T locs cells slots) (hx : p.tables.exec = Jvm.exec) (hZ : Z.Warmed39 (s.setVm vm0).vm) (hown : (s.setVm vm0).vm.findClass own = some m.cls)
    (w1 : (Jvm.Cond.methodLink own index y).before a0 Z = true) (w2 : (Jvm.Cond.static y).before a0 Z = true) (w3 : (Jvm.Cond.initialized y.cls).before a0 Z = true) (w4 : (Jvm.Cond.code y bytes maxL ret).before a0 Z = true) (hy : y.cls ≠ "java/lang/invoke/MethodHandle" ∧ y.cls ≠ "java/lang/invoke/VarHandle")
    (hC : ConH l Z EL y bytes maxL ret rm argsL.toArray h Qc) (eT : T.heap = h) (hS : s.Since vm0 k0) (hk : k0 ≤ h.size) (hEL : EW Z a0 EL) (H : CHv Z EL vm0 h) (hf : rm.frames + 1 ≤ R.frames) (hl : W + (maxL + 11) + rm.locals ≤ R.locals) (hc : cells + rm.cells ≤ R.cells) (hs : slots + rm.slots ≤ R.slots)
    (hg : g.method = m) (hsize : g.locals.size = c.maxLocals) (hlen : ∀ sig, parseMethodDescriptor y.desc = some sig → argsL.length = sig.parameters.length) (hstack : g.stack = argsL.reverse ++ rest) (hW : 2 * g.monitorRoom + (rest.map fun v => v.category).sum ≤ W) (hdg : decode c.code g.pc = .ok (.invokestatic index, 3)) :
    ∃ (v : Option Value) (T' : State) (L : List Loc), Stand p l e R (s.setVm T'.vm) m args below meth c T' (locs ++ L) (cells + rm.cells) (slots + rm.slots) ∧ s.Since T'.vm T'.heap.size ∧ Z.Warmed39 (s.setVm T'.vm).vm ∧ (s.setVm T'.vm).vm.findClass own = some m.cls ∧ CHr Z EL vm0 h T'.vm T'.heap ∧ Qc v T'.heap L ∧
      ∀ target, Steps p.tables e below (T'.setTop { g with pc := g.pc + 3, stack := v.toList ++ rest }) target → Steps p.tables e below (T.setTop g) target := by
  obtain ⟨v, _, ⟨T2, L2, k2, n2⟩, -, X2, hS2, hg2, ⟨Lc2, hQ2, l2, y2, z2, hC2⟩, st2⟩ := callSS X hx hown (mvT hZ w1) (mvT hZ w2) (mvT hZ w3) (mvT hZ w4) hy (backOfSH (W := W) hC hZ w4 w3 hf hl hEL H) hg hsize hlen hstack hW hdg (fun _ _ => ⟨rfl, eT, hc, hs⟩)
  dsimp only [Pt.U, Pt.locs, Pt.cells, Pt.slots] at X2 hS2 hg2 l2 y2 z2 st2 hQ2 hC2
  subst l2 y2 z2 eT
  obtain ⟨X3, hS3, hZ3, hown3⟩ := rebS hS hk X2 hS2 hg2 hZ hown
  exact ⟨v, T2, Lc2, X3, hS3, hZ3, hown3, hC2, hQ2, fun _ k => st2.trans k⟩
theorem callCtH (X : Stand p l e R (s.setVm vm0) m args below meth c T locs cells slots) (hx : p.tables.exec = Jvm.exec) (hZ : Z.Warmed39 (s.setVm vm0).vm) (hy1 : y.name = "<init>") (hown : (s.setVm vm0).vm.findClass own = some m.cls)
    (w1 : (Jvm.Cond.methodLink own index y).before a0 Z = true) (w2 : (Jvm.Cond.instanceMethod y).before a0 Z = true) (w3 : (Jvm.Cond.initialized y.cls).before a0 Z = true) (w4 : (Jvm.Cond.code y bytes maxL none).before a0 Z = true) (hy : y.cls ≠ "java/lang/invoke/MethodHandle" ∧ y.cls ≠ "java/lang/invoke/VarHandle")
    {a : Addr} (hC : ConH l Z EL y bytes maxL none rm (.ref a :: argsL).toArray h Qc) (eT : T.heap = h) (hS : s.Since vm0 k0) (hk : k0 ≤ h.size) (hEL : EW Z a0 EL) (H : CHv Z EL vm0 h) (hf : rm.frames + 1 ≤ R.frames) (hl : W + (maxL + 11) + rm.locals ≤ R.locals) (hc : cells + rm.cells ≤ R.cells) (hs : slots + rm.slots ≤ R.slots)
    (hg : g.method = m) (hsize : g.locals.size = c.maxLocals) (hlen : ∀ sig, parseMethodDescriptor y.desc = some sig → argsL.length = sig.parameters.length) (hstack : g.stack = argsL.reverse ++ .ref a :: rest) (hW : 2 * g.monitorRoom + (rest.map fun v => v.category).sum ≤ W) (hdg : decode c.code g.pc = .ok (.invokespecial index, 3)) :
    ∃ (v : Option Value) (T' : State) (L : List Loc), Stand p l e R (s.setVm T'.vm) m args below meth c T' (locs ++ L) (cells + rm.cells) (slots + rm.slots) ∧ s.Since T'.vm T'.heap.size ∧ Z.Warmed39 (s.setVm T'.vm).vm ∧ (s.setVm T'.vm).vm.findClass own = some m.cls ∧ CHr Z EL vm0 h T'.vm T'.heap ∧ Qc v T'.heap L ∧
      ∀ target, Steps p.tables e below (T'.setTop { g with pc := g.pc + 3, stack := v.toList ++ rest }) target → Steps p.tables e below (T.setTop g) target := by
  obtain ⟨v, _, ⟨T2, L2, k2, n2⟩, -, X2, hS2, hg2, ⟨Lc2, hQ2, l2, y2, z2, hC2⟩, st2⟩ := X.specialBackS hx hy1 hown (mvT hZ w1) (mvT hZ w2) (mvT hZ w4) hy (backOfSH (W := W) hC hZ w4 w3 hf hl hEL H) hg hsize (Steps.refl _) hlen hstack hW hdg (fun _ _ => ⟨rfl, eT, hc, hs⟩)
  dsimp only [Pt.U, Pt.locs, Pt.cells, Pt.slots] at X2 hS2 hg2 l2 y2 z2 st2 hQ2 hC2
  subst l2 y2 z2 eT
  obtain ⟨X3, hS3, hZ3, hown3⟩ := rebS hS hk X2 hS2 hg2 hZ hown
  exact ⟨v, T2, Lc2, X3, hS3, hZ3, hown3, hC2, hQ2, fun _ k => st2.trans k⟩
end CallsH
end OwnWide
theorem safe_of_null {Z : State} {EL : List (String × Nat)} {vm : Vm} {h : Heap} {a : Addr} (hal : Z.vm.Alike vm) (E : Exa Z h a "java/lang/String") (F : Fld Z h a "java/lang/String" "value" "[B" .null) : Safe Z EL vm h a := fun B => by
  obtain ⟨p, hp, u, a', hb, q, hq, G, hy⟩ := B
  have g1 := G.ha
  have g2 := G.hd
  obtain ⟨cS, ⟨⟨-, -, -, ⟨c1, k1, i1, f1, -⟩, -, -, -, v1, -⟩, -⟩, -, fB, -⟩ := G
  rcases hy with rfl | rfl
  · obtain ⟨cell, cf, k, i, f, e1, e2, -, -, -, -, e7⟩ := F
    cases g1.symm.trans e1
    obtain ⟨k3, e3, -⟩ := State.fieldFound?_setVm (s := Z) hal e2
    have e4 := (show (Wst Z vm h).fieldFound? _ _ _ = _ from e3).symm.trans f1
    simp only [Option.some.injEq, Prod.mk.injEq] at e4
    rw [← e4.2.2.2, e7] at v1
    simp at v1
  · obtain ⟨cell, k, e1, e2, -⟩ := E
    cases g2.symm.trans e1
    have fB' : Z.vm.findClass "[B" = some q.SA.cls := by rw [← hal.findClass]; exact fB
    obtain ⟨k1, q1, q2⟩ := Vm.findClass_spec fB'
    obtain ⟨k2, q3, q4⟩ := Vm.findClass_spec e2
    cases q1.symm.trans q3
    exact absurd (q2.symm.trans q4) (by decide)
theorem mT {d : Jvm.Cond} (i : Nat) (h : tables_1[i]? = some d) : d ∈ tables_1 := List.mem_of_getElem? h
theorem w_0 : (Jvm.Cond.methodLink "com/example/muster/muster/campaign/TextOrderComparePinLaw" (7 : Nat) ({ cls := "com/example/muster/muster/campaign/TextOrderComparePinLaw", name := "mk", desc := "(I)C" } : Jvm.MethodName)) ∈ tables_1 := mT 0 rfl
theorem w_1 : (Jvm.Cond.static ({ cls := "com/example/muster/muster/campaign/TextOrderComparePinLaw", name := "mk", desc := "(I)C" } : Jvm.MethodName)) ∈ tables_1 := mT 1 rfl
theorem w_2 : (Jvm.Cond.initialized "com/example/muster/muster/campaign/TextOrderComparePinLaw") ∈ tables_1 := mT 2 rfl
theorem w_3 : (Jvm.Cond.code ({ cls := "com/example/muster/muster/campaign/TextOrderComparePinLaw", name := "mk", desc := "(I)C" } : Jvm.MethodName) method_3_code (3 : Nat) (Option.some Jvm.ClassFile.FieldType.char)) ∈ tables_1 := mT 3 rfl
theorem w_4 : (Jvm.Cond.constant "com/example/muster/muster/campaign/TextOrderComparePinLaw" (33 : Nat) (65535 : Int32)) ∈ tables_1 := mT 4 rfl
theorem w_5 : (Jvm.Cond.constant "com/example/muster/muster/campaign/TextOrderComparePinLaw" (32 : Nat) (56320 : Int32)) ∈ tables_1 := mT 5 rfl
theorem w_6 : (Jvm.Cond.arrayClass Jvm.ClassFile.FieldType.char) ∈ tables_1 := mT 6 rfl
theorem w_7 : (Jvm.Cond.methodLink "com/example/muster/muster/campaign/TextOrderComparePinLaw" (13 : Nat) ({ cls := "com/example/muster/muster/campaign/TextOrderComparePinLaw", name := "str", desc := "(CCCI)Ljava/lang/String;" } : Jvm.MethodName)) ∈ tables_1 := mT 7 rfl
theorem w_8 : (Jvm.Cond.static ({ cls := "com/example/muster/muster/campaign/TextOrderComparePinLaw", name := "str", desc := "(CCCI)Ljava/lang/String;" } : Jvm.MethodName)) ∈ tables_1 := mT 8 rfl
theorem w_9 : (Jvm.Cond.code ({ cls := "com/example/muster/muster/campaign/TextOrderComparePinLaw", name := "str", desc := "(CCCI)Ljava/lang/String;" } : Jvm.MethodName) method_4_code (4 : Nat) (Option.some (Jvm.ClassFile.FieldType.object "java/lang/String"))) ∈ tables_1 := mT 9 rfl
theorem w_10 : (Jvm.Cond.classLink "com/example/muster/muster/campaign/TextOrderComparePinLaw" (34 : Nat) "java/lang/String") ∈ tables_1 := mT 10 rfl
theorem w_11 : (Jvm.Cond.instantiable "java/lang/String" (4 : Nat)) ∈ tables_1 := mT 11 rfl
theorem w_12 : (Jvm.Cond.initialized "java/lang/String") ∈ tables_1 := mT 12 rfl
theorem w_13 : (Jvm.Cond.methodLink "com/example/muster/muster/campaign/TextOrderComparePinLaw" (36 : Nat) ({ cls := "java/lang/String", name := "<init>", desc := "([C)V" } : Jvm.MethodName)) ∈ tables_1 := mT 13 rfl
theorem w_14 : (Jvm.Cond.instanceMethod ({ cls := "java/lang/String", name := "<init>", desc := "([C)V" } : Jvm.MethodName)) ∈ tables_1 := mT 14 rfl
theorem w_15 : (Jvm.Cond.code ({ cls := "java/lang/String", name := "<init>", desc := "([C)V" } : Jvm.MethodName) jdk_42_method_3_code (2 : Nat) (Option.none : Option Jvm.ClassFile.FieldType)) ∈ tables_1 := mT 15 rfl
theorem w_16 : (Jvm.Cond.methodLink "java/lang/String" (27 : Nat) ({ cls := "java/lang/String", name := "<init>", desc := "([CIILjava/lang/Void;)V" } : Jvm.MethodName)) ∈ tables_1 := mT 16 rfl
theorem w_17 : (Jvm.Cond.instanceMethod ({ cls := "java/lang/String", name := "<init>", desc := "([CIILjava/lang/Void;)V" } : Jvm.MethodName)) ∈ tables_1 := mT 17 rfl
theorem w_19 : (Jvm.Cond.code ({ cls := "java/lang/String", name := "<init>", desc := "([CIILjava/lang/Void;)V" } : Jvm.MethodName) jdk_42_method_149_code (6 : Nat) (Option.none : Option Jvm.ClassFile.FieldType)) ∈ tables_1 := mT 19 rfl
theorem w_20 : (Jvm.Cond.methodLink "java/lang/String" (1 : Nat) ({ cls := "java/lang/Object", name := "<init>", desc := "()V" } : Jvm.MethodName)) ∈ tables_1 := mT 20 rfl
theorem w_21 : (Jvm.Cond.instanceMethod ({ cls := "java/lang/Object", name := "<init>", desc := "()V" } : Jvm.MethodName)) ∈ tables_1 := mT 21 rfl
theorem w_22 : (Jvm.Cond.code ({ cls := "java/lang/Object", name := "<init>", desc := "()V" } : Jvm.MethodName) object_method_1_code (1 : Nat) (Option.none : Option Jvm.ClassFile.FieldType)) ∈ tables_1 := mT 22 rfl
theorem w_23 : (Jvm.Cond.fieldLink "java/lang/String" (38 : Nat) "java/lang/String" "COMPACT_STRINGS" "Z") ∈ tables_1 := mT 23 rfl
theorem w_24 : (Jvm.Cond.methodLink "java/lang/String" (177 : Nat) ({ cls := "java/lang/StringUTF16", name := "compress", desc := "([CII)[B" } : Jvm.MethodName)) ∈ tables_1 := mT 24 rfl
theorem w_25 : (Jvm.Cond.static ({ cls := "java/lang/StringUTF16", name := "compress", desc := "([CII)[B" } : Jvm.MethodName)) ∈ tables_1 := mT 25 rfl
theorem w_26 : (Jvm.Cond.initialized "java/lang/StringUTF16") ∈ tables_1 := mT 26 rfl
theorem w_27 : (Jvm.Cond.code ({ cls := "java/lang/StringUTF16", name := "compress", desc := "([CII)[B" } : Jvm.MethodName) jdk_52_method_16_code (6 : Nat) (Option.some (Jvm.ClassFile.FieldType.array Jvm.ClassFile.FieldType.byte))) ∈ tables_1 := mT 27 rfl
theorem w_28 : (Jvm.Cond.arrayClass Jvm.ClassFile.FieldType.byte) ∈ tables_1 := mT 28 rfl
theorem w_29 : (Jvm.Cond.methodLink "java/lang/StringUTF16" (115 : Nat) ({ cls := "java/lang/StringUTF16", name := "compress", desc := "([CI[BII)I" } : Jvm.MethodName)) ∈ tables_1 := mT 29 rfl
theorem w_30 : (Jvm.Cond.static ({ cls := "java/lang/StringUTF16", name := "compress", desc := "([CI[BII)I" } : Jvm.MethodName)) ∈ tables_1 := mT 30 rfl
theorem w_31 : (Jvm.Cond.code ({ cls := "java/lang/StringUTF16", name := "compress", desc := "([CI[BII)I" } : Jvm.MethodName) jdk_52_method_21_code (7 : Nat) (Option.some Jvm.ClassFile.FieldType.int)) ∈ tables_1 := mT 31 rfl
theorem w_32 : (Jvm.Cond.methodLink "java/lang/String" (47 : Nat) ({ cls := "java/lang/StringUTF16", name := "coderFromArrayLen", desc := "([BI)B" } : Jvm.MethodName)) ∈ tables_1 := mT 32 rfl
theorem w_33 : (Jvm.Cond.static ({ cls := "java/lang/StringUTF16", name := "coderFromArrayLen", desc := "([BI)B" } : Jvm.MethodName)) ∈ tables_1 := mT 33 rfl
theorem w_34 : (Jvm.Cond.code ({ cls := "java/lang/StringUTF16", name := "coderFromArrayLen", desc := "([BI)B" } : Jvm.MethodName) jdk_52_method_15_code (2 : Nat) (Option.some Jvm.ClassFile.FieldType.byte)) ∈ tables_1 := mT 34 rfl
theorem w_35 : (Jvm.Cond.fieldLink "java/lang/String" (15 : Nat) "java/lang/String" "coder" "B") ∈ tables_1 := mT 35 rfl
theorem w_36 : (Jvm.Cond.laysFinal "java/lang/String" "java/lang/String" "coder" "B") ∈ tables_1 := mT 36 rfl
theorem w_37 : (Jvm.Cond.fieldLink "java/lang/String" (9 : Nat) "java/lang/String" "value" "[B") ∈ tables_1 := mT 37 rfl
theorem w_38 : (Jvm.Cond.laysFinal "java/lang/String" "java/lang/String" "value" "[B") ∈ tables_1 := mT 38 rfl
theorem w_39 : (Jvm.Cond.stringLink "java/lang/String" (7 : Nat) "") ∈ tables_1 := mT 39 rfl
theorem w_42 : (Jvm.Cond.methodLink "com/example/muster/muster/campaign/TextOrderComparePinLaw" (17 : Nat) ({ cls := "com/example/muster/muster/campaign/TextOrder", name := "compare", desc := "(Ljava/lang/String;Ljava/lang/String;)I" } : Jvm.MethodName)) ∈ tables_1 := mT 42 rfl
theorem w_43 : (Jvm.Cond.static ({ cls := "com/example/muster/muster/campaign/TextOrder", name := "compare", desc := "(Ljava/lang/String;Ljava/lang/String;)I" } : Jvm.MethodName)) ∈ tables_1 := mT 43 rfl
theorem w_44 : (Jvm.Cond.initialized "com/example/muster/muster/campaign/TextOrder") ∈ tables_1 := mT 44 rfl
theorem w_45 : (Jvm.Cond.code ({ cls := "com/example/muster/muster/campaign/TextOrder", name := "compare", desc := "(Ljava/lang/String;Ljava/lang/String;)I" } : Jvm.MethodName) prog_9_method_2_code (6 : Nat) (Option.some Jvm.ClassFile.FieldType.int)) ∈ tables_1 := mT 45 rfl
theorem w_46 : (Jvm.Cond.methodLink "com/example/muster/muster/campaign/TextOrder" (7 : Nat) ({ cls := "java/lang/String", name := "length", desc := "()I" } : Jvm.MethodName)) ∈ tables_1 := mT 46 rfl
theorem w_47 : (Jvm.Cond.declares ({ cls := "java/lang/String", name := "length", desc := "()I" } : Jvm.MethodName)) ∈ tables_1 := mT 47 rfl
theorem w_48 : (Jvm.Cond.instanceMethod ({ cls := "java/lang/String", name := "length", desc := "()I" } : Jvm.MethodName)) ∈ tables_1 := mT 48 rfl
theorem w_49 : (Jvm.Cond.selects "java/lang/String" ({ cls := "java/lang/String", name := "length", desc := "()I" } : Jvm.MethodName) ({ cls := "java/lang/String", name := "length", desc := "()I" } : Jvm.MethodName)) ∈ tables_1 := mT 49 rfl
theorem w_50 : (Jvm.Cond.code ({ cls := "java/lang/String", name := "length", desc := "()I" } : Jvm.MethodName) jdk_42_method_54_code (1 : Nat) (Option.some Jvm.ClassFile.FieldType.int)) ∈ tables_1 := mT 50 rfl
theorem w_51 : (Jvm.Cond.methodLink "java/lang/String" (335 : Nat) ({ cls := "java/lang/String", name := "coder", desc := "()B" } : Jvm.MethodName)) ∈ tables_1 := mT 51 rfl
theorem w_52 : (Jvm.Cond.declares ({ cls := "java/lang/String", name := "coder", desc := "()B" } : Jvm.MethodName)) ∈ tables_1 := mT 52 rfl
theorem w_53 : (Jvm.Cond.instanceMethod ({ cls := "java/lang/String", name := "coder", desc := "()B" } : Jvm.MethodName)) ∈ tables_1 := mT 53 rfl
theorem w_54 : (Jvm.Cond.selects "java/lang/String" ({ cls := "java/lang/String", name := "coder", desc := "()B" } : Jvm.MethodName) ({ cls := "java/lang/String", name := "coder", desc := "()B" } : Jvm.MethodName)) ∈ tables_1 := mT 54 rfl
theorem w_55 : (Jvm.Cond.code ({ cls := "java/lang/String", name := "coder", desc := "()B" } : Jvm.MethodName) jdk_42_method_152_code (1 : Nat) (Option.some Jvm.ClassFile.FieldType.byte)) ∈ tables_1 := mT 55 rfl
theorem w_56 : (Jvm.Cond.methodLink "com/example/muster/muster/campaign/TextOrder" (17 : Nat) ({ cls := "java/lang/Integer", name := "compare", desc := "(II)I" } : Jvm.MethodName)) ∈ tables_1 := mT 56 rfl
theorem w_57 : (Jvm.Cond.static ({ cls := "java/lang/Integer", name := "compare", desc := "(II)I" } : Jvm.MethodName)) ∈ tables_1 := mT 57 rfl
theorem w_58 : (Jvm.Cond.initialized "java/lang/Integer") ∈ tables_1 := mT 58 rfl
theorem w_59 : (Jvm.Cond.code ({ cls := "java/lang/Integer", name := "compare", desc := "(II)I" } : Jvm.MethodName) jdk_33_method_40_code (2 : Nat) (Option.some Jvm.ClassFile.FieldType.int)) ∈ tables_1 := mT 59 rfl
theorem w_60 : (Jvm.Cond.methodLink "com/example/muster/muster/campaign/TextOrderComparePinLaw" (23 : Nat) ({ cls := "com/example/muster/muster/campaign/TextOrderComparePinLaw", name := "ref", desc := "([CI[CI)I" } : Jvm.MethodName)) ∈ tables_1 := mT 60 rfl
theorem w_61 : (Jvm.Cond.static ({ cls := "com/example/muster/muster/campaign/TextOrderComparePinLaw", name := "ref", desc := "([CI[CI)I" } : Jvm.MethodName)) ∈ tables_1 := mT 61 rfl
theorem w_62 : (Jvm.Cond.code ({ cls := "com/example/muster/muster/campaign/TextOrderComparePinLaw", name := "ref", desc := "([CI[CI)I" } : Jvm.MethodName) method_11_code (14 : Nat) (Option.some Jvm.ClassFile.FieldType.int)) ∈ tables_1 := mT 62 rfl
theorem w_63 : (Jvm.Cond.methodLink "com/example/muster/muster/campaign/TextOrderComparePinLaw" (53 : Nat) ({ cls := "com/example/muster/muster/campaign/TextOrderComparePinLaw", name := "at", desc := "([CII)I" } : Jvm.MethodName)) ∈ tables_1 := mT 63 rfl
theorem w_64 : (Jvm.Cond.static ({ cls := "com/example/muster/muster/campaign/TextOrderComparePinLaw", name := "at", desc := "([CII)I" } : Jvm.MethodName)) ∈ tables_1 := mT 64 rfl
theorem w_65 : (Jvm.Cond.code ({ cls := "com/example/muster/muster/campaign/TextOrderComparePinLaw", name := "at", desc := "([CII)I" } : Jvm.MethodName) method_9_code (3 : Nat) (Option.some Jvm.ClassFile.FieldType.int)) ∈ tables_1 := mT 65 rfl
theorem w_66 : (Jvm.Cond.methodLink "com/example/muster/muster/campaign/TextOrderComparePinLaw" (48 : Nat) ({ cls := "com/example/muster/muster/campaign/TextOrderComparePinLaw", name := "pairAt", desc := "([CII)Z" } : Jvm.MethodName)) ∈ tables_1 := mT 66 rfl
theorem w_67 : (Jvm.Cond.static ({ cls := "com/example/muster/muster/campaign/TextOrderComparePinLaw", name := "pairAt", desc := "([CII)Z" } : Jvm.MethodName)) ∈ tables_1 := mT 67 rfl
theorem w_68 : (Jvm.Cond.code ({ cls := "com/example/muster/muster/campaign/TextOrderComparePinLaw", name := "pairAt", desc := "([CII)Z" } : Jvm.MethodName) method_7_code (3 : Nat) (Option.some Jvm.ClassFile.FieldType.boolean)) ∈ tables_1 := mT 68 rfl
theorem w_69 : (Jvm.Cond.methodLink "com/example/muster/muster/campaign/TextOrderComparePinLaw" (41 : Nat) ({ cls := "com/example/muster/muster/campaign/TextOrderComparePinLaw", name := "high", desc := "(C)Z" } : Jvm.MethodName)) ∈ tables_1 := mT 69 rfl
theorem w_70 : (Jvm.Cond.static ({ cls := "com/example/muster/muster/campaign/TextOrderComparePinLaw", name := "high", desc := "(C)Z" } : Jvm.MethodName)) ∈ tables_1 := mT 70 rfl
theorem w_71 : (Jvm.Cond.code ({ cls := "com/example/muster/muster/campaign/TextOrderComparePinLaw", name := "high", desc := "(C)Z" } : Jvm.MethodName) method_5_code (1 : Nat) (Option.some Jvm.ClassFile.FieldType.boolean)) ∈ tables_1 := mT 71 rfl
theorem w_72 : (Jvm.Cond.constant "com/example/muster/muster/campaign/TextOrderComparePinLaw" (31 : Nat) (55296 : Int32)) ∈ tables_1 := mT 72 rfl
theorem w_73 : (Jvm.Cond.methodLink "com/example/muster/muster/campaign/TextOrderComparePinLaw" (57 : Nat) ({ cls := "com/example/muster/muster/campaign/TextOrderComparePinLaw", name := "wid", desc := "([CII)I" } : Jvm.MethodName)) ∈ tables_1 := mT 73 rfl
theorem w_74 : (Jvm.Cond.static ({ cls := "com/example/muster/muster/campaign/TextOrderComparePinLaw", name := "wid", desc := "([CII)I" } : Jvm.MethodName)) ∈ tables_1 := mT 74 rfl
theorem w_75 : (Jvm.Cond.code ({ cls := "com/example/muster/muster/campaign/TextOrderComparePinLaw", name := "wid", desc := "([CII)I" } : Jvm.MethodName) method_8_code (3 : Nat) (Option.some Jvm.ClassFile.FieldType.int)) ∈ tables_1 := mT 75 rfl
theorem w_76 : (Jvm.Cond.methodLink "com/example/muster/muster/campaign/TextOrderComparePinLaw" (60 : Nat) ({ cls := "com/example/muster/muster/campaign/TextOrderComparePinLaw", name := "cmp", desc := "(II)I" } : Jvm.MethodName)) ∈ tables_1 := mT 76 rfl
theorem w_77 : (Jvm.Cond.static ({ cls := "com/example/muster/muster/campaign/TextOrderComparePinLaw", name := "cmp", desc := "(II)I" } : Jvm.MethodName)) ∈ tables_1 := mT 77 rfl
theorem w_78 : (Jvm.Cond.code ({ cls := "com/example/muster/muster/campaign/TextOrderComparePinLaw", name := "cmp", desc := "(II)I" } : Jvm.MethodName) method_10_code (2 : Nat) (Option.some Jvm.ClassFile.FieldType.int)) ∈ tables_1 := mT 78 rfl
theorem w_79 : (Jvm.Cond.methodLink "com/example/muster/muster/campaign/TextOrderComparePinLaw" (27 : Nat) ({ cls := "com/example/muster/muster/campaign/TextOrderComparePinLaw", name := "sgn", desc := "(I)I" } : Jvm.MethodName)) ∈ tables_1 := mT 79 rfl
theorem w_80 : (Jvm.Cond.static ({ cls := "com/example/muster/muster/campaign/TextOrderComparePinLaw", name := "sgn", desc := "(I)I" } : Jvm.MethodName)) ∈ tables_1 := mT 80 rfl
theorem w_81 : (Jvm.Cond.code ({ cls := "com/example/muster/muster/campaign/TextOrderComparePinLaw", name := "sgn", desc := "(I)I" } : Jvm.MethodName) method_12_code (1 : Nat) (Option.some Jvm.ClassFile.FieldType.int)) ∈ tables_1 := mT 81 rfl
theorem w_82 : (Jvm.Cond.methodLink "java/lang/StringUTF16" (119 : Nat) ({ cls := "java/lang/StringUTF16", name := "toBytes", desc := "([CII)[B" } : Jvm.MethodName)) ∈ tables_1 := mT 82 rfl
theorem w_83 : (Jvm.Cond.static ({ cls := "java/lang/StringUTF16", name := "toBytes", desc := "([CII)[B" } : Jvm.MethodName)) ∈ tables_1 := mT 83 rfl
theorem w_84 : (Jvm.Cond.code ({ cls := "java/lang/StringUTF16", name := "toBytes", desc := "([CII)[B" } : Jvm.MethodName) jdk_52_method_14_code (5 : Nat) (Option.some (Jvm.ClassFile.FieldType.array Jvm.ClassFile.FieldType.byte))) ∈ tables_1 := mT 84 rfl
theorem w_85 : (Jvm.Cond.methodLink "java/lang/StringUTF16" (107 : Nat) ({ cls := "java/lang/StringUTF16", name := "newBytesFor", desc := "(I)[B" } : Jvm.MethodName)) ∈ tables_1 := mT 85 rfl
theorem w_86 : (Jvm.Cond.static ({ cls := "java/lang/StringUTF16", name := "newBytesFor", desc := "(I)[B" } : Jvm.MethodName)) ∈ tables_1 := mT 86 rfl
theorem w_87 : (Jvm.Cond.code ({ cls := "java/lang/StringUTF16", name := "newBytesFor", desc := "(I)[B" } : Jvm.MethodName) jdk_52_method_2_code (1 : Nat) (Option.some (Jvm.ClassFile.FieldType.array Jvm.ClassFile.FieldType.byte))) ∈ tables_1 := mT 87 rfl
theorem w_88 : (Jvm.Cond.methodLink "java/lang/StringUTF16" (11 : Nat) ({ cls := "java/lang/StringUTF16", name := "newBytesLength", desc := "(I)I" } : Jvm.MethodName)) ∈ tables_1 := mT 88 rfl
theorem w_89 : (Jvm.Cond.static ({ cls := "java/lang/StringUTF16", name := "newBytesLength", desc := "(I)I" } : Jvm.MethodName)) ∈ tables_1 := mT 89 rfl
theorem w_90 : (Jvm.Cond.code ({ cls := "java/lang/StringUTF16", name := "newBytesLength", desc := "(I)I" } : Jvm.MethodName) jdk_52_method_3_code (1 : Nat) (Option.some Jvm.ClassFile.FieldType.int)) ∈ tables_1 := mT 90 rfl
theorem w_91 : (Jvm.Cond.constant "java/lang/StringUTF16" (20 : Nat) (1073741823 : Int32)) ∈ tables_1 := mT 91 rfl
theorem w_92 : (Jvm.Cond.methodLink "java/lang/StringUTF16" (111 : Nat) ({ cls := "java/lang/StringUTF16", name := "putChar", desc := "([BII)V" } : Jvm.MethodName)) ∈ tables_1 := mT 92 rfl
theorem w_93 : (Jvm.Cond.static ({ cls := "java/lang/StringUTF16", name := "putChar", desc := "([BII)V" } : Jvm.MethodName)) ∈ tables_1 := mT 93 rfl
theorem w_94 : (Jvm.Cond.code ({ cls := "java/lang/StringUTF16", name := "putChar", desc := "([BII)V" } : Jvm.MethodName) jdk_52_method_4_code (3 : Nat) (Option.none : Option Jvm.ClassFile.FieldType)) ∈ tables_1 := mT 94 rfl
theorem w_95 : (Jvm.Cond.fieldLink "java/lang/StringUTF16" (44 : Nat) "java/lang/StringUTF16" "$assertionsDisabled" "Z") ∈ tables_1 := mT 95 rfl
theorem w_96 : (Jvm.Cond.fieldLink "java/lang/StringUTF16" (59 : Nat) "java/lang/StringUTF16" "HI_BYTE_SHIFT" "I") ∈ tables_1 := mT 96 rfl
theorem w_97 : (Jvm.Cond.fieldLink "java/lang/StringUTF16" (63 : Nat) "java/lang/StringUTF16" "LO_BYTE_SHIFT" "I") ∈ tables_1 := mT 97 rfl
theorem w_98 : (Jvm.Cond.methodLink "java/lang/StringUTF16" (71 : Nat) ({ cls := "java/lang/StringUTF16", name := "getChar", desc := "([BI)C" } : Jvm.MethodName)) ∈ tables_1 := mT 98 rfl
theorem w_99 : (Jvm.Cond.static ({ cls := "java/lang/StringUTF16", name := "getChar", desc := "([BI)C" } : Jvm.MethodName)) ∈ tables_1 := mT 99 rfl
theorem w_100 : (Jvm.Cond.code ({ cls := "java/lang/StringUTF16", name := "getChar", desc := "([BI)C" } : Jvm.MethodName) jdk_52_method_5_code (2 : Nat) (Option.some Jvm.ClassFile.FieldType.char)) ∈ tables_1 := mT 100 rfl
theorem w_101 : (Jvm.Cond.methodLink "com/example/muster/muster/campaign/TextOrder" (13 : Nat) ({ cls := "java/lang/String", name := "codePointAt", desc := "(I)I" } : Jvm.MethodName)) ∈ tables_1 := mT 101 rfl
theorem w_102 : (Jvm.Cond.declares ({ cls := "java/lang/String", name := "codePointAt", desc := "(I)I" } : Jvm.MethodName)) ∈ tables_1 := mT 102 rfl
theorem w_103 : (Jvm.Cond.instanceMethod ({ cls := "java/lang/String", name := "codePointAt", desc := "(I)I" } : Jvm.MethodName)) ∈ tables_1 := mT 103 rfl
theorem w_104 : (Jvm.Cond.selects "java/lang/String" ({ cls := "java/lang/String", name := "codePointAt", desc := "(I)I" } : Jvm.MethodName) ({ cls := "java/lang/String", name := "codePointAt", desc := "(I)I" } : Jvm.MethodName)) ∈ tables_1 := mT 104 rfl
theorem w_105 : (Jvm.Cond.code ({ cls := "java/lang/String", name := "codePointAt", desc := "(I)I" } : Jvm.MethodName) jdk_42_method_57_code (3 : Nat) (Option.some Jvm.ClassFile.FieldType.int)) ∈ tables_1 := mT 105 rfl
theorem w_106 : (Jvm.Cond.methodLink "java/lang/String" (492 : Nat) ({ cls := "java/lang/String", name := "isLatin1", desc := "()Z" } : Jvm.MethodName)) ∈ tables_1 := mT 106 rfl
theorem w_107 : (Jvm.Cond.declares ({ cls := "java/lang/String", name := "isLatin1", desc := "()Z" } : Jvm.MethodName)) ∈ tables_1 := mT 107 rfl
theorem w_108 : (Jvm.Cond.instanceMethod ({ cls := "java/lang/String", name := "isLatin1", desc := "()Z" } : Jvm.MethodName)) ∈ tables_1 := mT 108 rfl
theorem w_109 : (Jvm.Cond.selects "java/lang/String" ({ cls := "java/lang/String", name := "isLatin1", desc := "()Z" } : Jvm.MethodName) ({ cls := "java/lang/String", name := "isLatin1", desc := "()Z" } : Jvm.MethodName)) ∈ tables_1 := mT 109 rfl
theorem w_110 : (Jvm.Cond.code ({ cls := "java/lang/String", name := "isLatin1", desc := "()Z" } : Jvm.MethodName) jdk_42_method_154_code (1 : Nat) (Option.some Jvm.ClassFile.FieldType.boolean)) ∈ tables_1 := mT 110 rfl
theorem w_111 : (Jvm.Cond.methodLink "java/lang/String" (499 : Nat) ({ cls := "java/lang/String", name := "checkIndex", desc := "(II)V" } : Jvm.MethodName)) ∈ tables_1 := mT 111 rfl
theorem w_112 : (Jvm.Cond.static ({ cls := "java/lang/String", name := "checkIndex", desc := "(II)V" } : Jvm.MethodName)) ∈ tables_1 := mT 112 rfl
theorem w_113 : (Jvm.Cond.code ({ cls := "java/lang/String", name := "checkIndex", desc := "(II)V" } : Jvm.MethodName) jdk_42_method_155_code (2 : Nat) (Option.none : Option Jvm.ClassFile.FieldType)) ∈ tables_1 := mT 113 rfl
theorem w_114 : (Jvm.Cond.fieldLink "java/lang/String" (1053 : Nat) "jdk/internal/util/Preconditions" "SIOOBE_FORMATTER" "Ljava/util/function/BiFunction;") ∈ tables_1 := mT 114 rfl
theorem w_115 : (Jvm.Cond.initialized "jdk/internal/util/Preconditions") ∈ tables_1 := mT 115 rfl
theorem w_116 : (Jvm.Cond.methodLink "java/lang/String" (1059 : Nat) ({ cls := "jdk/internal/util/Preconditions", name := "checkIndex", desc := "(IILjava/util/function/BiFunction;)I" } : Jvm.MethodName)) ∈ tables_1 := mT 116 rfl
theorem w_117 : (Jvm.Cond.static ({ cls := "jdk/internal/util/Preconditions", name := "checkIndex", desc := "(IILjava/util/function/BiFunction;)I" } : Jvm.MethodName)) ∈ tables_1 := mT 117 rfl
theorem w_118 : (Jvm.Cond.code ({ cls := "jdk/internal/util/Preconditions", name := "checkIndex", desc := "(IILjava/util/function/BiFunction;)I" } : Jvm.MethodName) jdk_41_method_11_code (3 : Nat) (Option.some Jvm.ClassFile.FieldType.int)) ∈ tables_1 := mT 118 rfl
theorem w_119 : (Jvm.Cond.methodLink "java/lang/String" (502 : Nat) ({ cls := "java/lang/StringUTF16", name := "codePointAt", desc := "([BII)I" } : Jvm.MethodName)) ∈ tables_1 := mT 119 rfl
theorem w_120 : (Jvm.Cond.static ({ cls := "java/lang/StringUTF16", name := "codePointAt", desc := "([BII)I" } : Jvm.MethodName)) ∈ tables_1 := mT 120 rfl
theorem w_121 : (Jvm.Cond.code ({ cls := "java/lang/StringUTF16", name := "codePointAt", desc := "([BII)I" } : Jvm.MethodName) jdk_52_method_8_code (3 : Nat) (Option.some Jvm.ClassFile.FieldType.int)) ∈ tables_1 := mT 121 rfl
theorem w_122 : (Jvm.Cond.methodLink "java/lang/StringUTF16" (88 : Nat) ({ cls := "java/lang/StringUTF16", name := "codePointAt", desc := "([BIIZ)I" } : Jvm.MethodName)) ∈ tables_1 := mT 122 rfl
theorem w_123 : (Jvm.Cond.static ({ cls := "java/lang/StringUTF16", name := "codePointAt", desc := "([BIIZ)I" } : Jvm.MethodName)) ∈ tables_1 := mT 123 rfl
theorem w_124 : (Jvm.Cond.code ({ cls := "java/lang/StringUTF16", name := "codePointAt", desc := "([BIIZ)I" } : Jvm.MethodName) jdk_52_method_7_code (6 : Nat) (Option.some Jvm.ClassFile.FieldType.int)) ∈ tables_1 := mT 124 rfl
theorem w_125 : (Jvm.Cond.methodLink "java/lang/StringUTF16" (75 : Nat) ({ cls := "java/lang/Character", name := "isHighSurrogate", desc := "(C)Z" } : Jvm.MethodName)) ∈ tables_1 := mT 125 rfl
theorem w_126 : (Jvm.Cond.static ({ cls := "java/lang/Character", name := "isHighSurrogate", desc := "(C)Z" } : Jvm.MethodName)) ∈ tables_1 := mT 126 rfl
theorem w_127 : (Jvm.Cond.initialized "java/lang/Character") ∈ tables_1 := mT 127 rfl
theorem w_128 : (Jvm.Cond.code ({ cls := "java/lang/Character", name := "isHighSurrogate", desc := "(C)Z" } : Jvm.MethodName) jdk_89_method_14_code (1 : Nat) (Option.some Jvm.ClassFile.FieldType.boolean)) ∈ tables_1 := mT 128 rfl
theorem w_129 : (Jvm.Cond.constant "java/lang/Character" (75 : Nat) (55296 : Int32)) ∈ tables_1 := mT 129 rfl
theorem w_130 : (Jvm.Cond.constant "java/lang/Character" (76 : Nat) (56320 : Int32)) ∈ tables_1 := mT 130 rfl
theorem w_131 : (Jvm.Cond.methodLink "java/lang/StringUTF16" (81 : Nat) ({ cls := "java/lang/Character", name := "isLowSurrogate", desc := "(C)Z" } : Jvm.MethodName)) ∈ tables_1 := mT 131 rfl
theorem w_132 : (Jvm.Cond.static ({ cls := "java/lang/Character", name := "isLowSurrogate", desc := "(C)Z" } : Jvm.MethodName)) ∈ tables_1 := mT 132 rfl
theorem w_133 : (Jvm.Cond.code ({ cls := "java/lang/Character", name := "isLowSurrogate", desc := "(C)Z" } : Jvm.MethodName) jdk_89_method_15_code (1 : Nat) (Option.some Jvm.ClassFile.FieldType.boolean)) ∈ tables_1 := mT 133 rfl
theorem w_134 : (Jvm.Cond.constant "com/example/muster/muster/campaign/TextOrderComparePinLaw" (39 : Nat) (56319 : Int32)) ∈ tables_1 := mT 134 rfl
theorem w_135 : (Jvm.Cond.methodLink "com/example/muster/muster/campaign/TextOrderComparePinLaw" (45 : Nat) ({ cls := "com/example/muster/muster/campaign/TextOrderComparePinLaw", name := "low", desc := "(C)Z" } : Jvm.MethodName)) ∈ tables_1 := mT 135 rfl
theorem w_136 : (Jvm.Cond.static ({ cls := "com/example/muster/muster/campaign/TextOrderComparePinLaw", name := "low", desc := "(C)Z" } : Jvm.MethodName)) ∈ tables_1 := mT 136 rfl
theorem w_137 : (Jvm.Cond.code ({ cls := "com/example/muster/muster/campaign/TextOrderComparePinLaw", name := "low", desc := "(C)Z" } : Jvm.MethodName) method_6_code (1 : Nat) (Option.some Jvm.ClassFile.FieldType.boolean)) ∈ tables_1 := mT 137 rfl
theorem w_138 : (Jvm.Cond.constant "java/lang/Character" (77 : Nat) (57344 : Int32)) ∈ tables_1 := mT 138 rfl
theorem w_139 : (Jvm.Cond.methodLink "com/example/muster/muster/campaign/TextOrder" (23 : Nat) ({ cls := "java/lang/Character", name := "charCount", desc := "(I)I" } : Jvm.MethodName)) ∈ tables_1 := mT 139 rfl
theorem w_140 : (Jvm.Cond.static ({ cls := "java/lang/Character", name := "charCount", desc := "(I)I" } : Jvm.MethodName)) ∈ tables_1 := mT 140 rfl
theorem w_141 : (Jvm.Cond.code ({ cls := "java/lang/Character", name := "charCount", desc := "(I)I" } : Jvm.MethodName) jdk_89_method_18_code (1 : Nat) (Option.some Jvm.ClassFile.FieldType.int)) ∈ tables_1 := mT 141 rfl
theorem w_142 : (Jvm.Cond.constant "java/lang/Character" (73 : Nat) (65536 : Int32)) ∈ tables_1 := mT 142 rfl
theorem w_143 : (Jvm.Cond.constant "com/example/muster/muster/campaign/TextOrderComparePinLaw" (40 : Nat) (57343 : Int32)) ∈ tables_1 := mT 143 rfl
theorem w_144 : (Jvm.Cond.constant "com/example/muster/muster/campaign/TextOrderComparePinLaw" (52 : Nat) (65536 : Int32)) ∈ tables_1 := mT 144 rfl
theorem w_145 : (Jvm.Cond.methodLink "java/lang/StringUTF16" (84 : Nat) ({ cls := "java/lang/Character", name := "toCodePoint", desc := "(CC)I" } : Jvm.MethodName)) ∈ tables_1 := mT 145 rfl
theorem w_146 : (Jvm.Cond.static ({ cls := "java/lang/Character", name := "toCodePoint", desc := "(CC)I" } : Jvm.MethodName)) ∈ tables_1 := mT 146 rfl
theorem w_147 : (Jvm.Cond.code ({ cls := "java/lang/Character", name := "toCodePoint", desc := "(CC)I" } : Jvm.MethodName) jdk_89_method_19_code (2 : Nat) (Option.some Jvm.ClassFile.FieldType.int)) ∈ tables_1 := mT 147 rfl
theorem w_148 : (Jvm.Cond.constant "java/lang/Character" (85 : Nat) (-56613888 : Int32)) ∈ tables_1 := mT 148 rfl
theorem pn_java_lang_StringUTF16 : plainName "java/lang/StringUTF16" = true := by first | (simp [plainName, overriddenIn]; done) | decide +kernel
abbrev kb24 := jdk_52_method_5_code
theorem d24_0 : decode kb24 0 = .ok (.getstatic 44, 3) := by decide +kernel
theorem d24_3 : decode kb24 3 = .ok (.ifCond .ne 25, 3) := by decide +kernel
theorem d24_28 : decode kb24 28 = .ok (.iload_n 1, 1) := by decide +kernel
theorem d24_29 : decode kb24 29 = .ok (.iconst 1, 1) := by decide +kernel
theorem d24_30 : decode kb24 30 = .ok (.ishl, 1) := by decide +kernel
theorem d24_31 : decode kb24 31 = .ok (.istore_n 1, 1) := by decide +kernel
theorem d24_32 : decode kb24 32 = .ok (.aload_n 0, 1) := by decide +kernel
theorem d24_33 : decode kb24 33 = .ok (.iload_n 1, 1) := by decide +kernel
theorem d24_34 : decode kb24 34 = .ok (.iinc 1 1, 3) := by decide +kernel
theorem d24_37 : decode kb24 37 = .ok (.baload, 1) := by decide +kernel
theorem d24_38 : decode kb24 38 = .ok (.sipush 255, 3) := by decide +kernel
theorem d24_41 : decode kb24 41 = .ok (.iand, 1) := by decide +kernel
theorem d24_42 : decode kb24 42 = .ok (.getstatic 59, 3) := by decide +kernel
theorem d24_45 : decode kb24 45 = .ok (.ishl, 1) := by decide +kernel
theorem d24_46 : decode kb24 46 = .ok (.aload_n 0, 1) := by decide +kernel
theorem d24_47 : decode kb24 47 = .ok (.iload_n 1, 1) := by decide +kernel
theorem d24_48 : decode kb24 48 = .ok (.baload, 1) := by decide +kernel
theorem d24_49 : decode kb24 49 = .ok (.sipush 255, 3) := by decide +kernel
theorem d24_52 : decode kb24 52 = .ok (.iand, 1) := by decide +kernel
theorem d24_53 : decode kb24 53 = .ok (.getstatic 63, 3) := by decide +kernel
theorem d24_56 : decode kb24 56 = .ok (.ishl, 1) := by decide +kernel
theorem d24_57 : decode kb24 57 = .ok (.ior, 1) := by decide +kernel
theorem d24_58 : decode kb24 58 = .ok (.i2c, 1) := by decide +kernel
theorem d24_59 : decode kb24 59 = .ok (.ireturn, 1) := by decide +kernel
abbrev kb23 := jdk_52_method_4_code
theorem d23_0 : decode kb23 0 = .ok (.getstatic 44, 3) := by decide +kernel
theorem d23_3 : decode kb23 3 = .ok (.ifCond .ne 25, 3) := by decide +kernel
theorem d23_28 : decode kb23 28 = .ok (.iload_n 1, 1) := by decide +kernel
theorem d23_29 : decode kb23 29 = .ok (.iconst 1, 1) := by decide +kernel
theorem d23_30 : decode kb23 30 = .ok (.ishl, 1) := by decide +kernel
theorem d23_31 : decode kb23 31 = .ok (.istore_n 1, 1) := by decide +kernel
theorem d23_32 : decode kb23 32 = .ok (.aload_n 0, 1) := by decide +kernel
theorem d23_33 : decode kb23 33 = .ok (.iload_n 1, 1) := by decide +kernel
theorem d23_34 : decode kb23 34 = .ok (.iinc 1 1, 3) := by decide +kernel
theorem d23_37 : decode kb23 37 = .ok (.iload_n 2, 1) := by decide +kernel
theorem d23_38 : decode kb23 38 = .ok (.getstatic 59, 3) := by decide +kernel
theorem d23_41 : decode kb23 41 = .ok (.ishr, 1) := by decide +kernel
theorem d23_42 : decode kb23 42 = .ok (.i2b, 1) := by decide +kernel
theorem d23_43 : decode kb23 43 = .ok (.bastore, 1) := by decide +kernel
theorem d23_44 : decode kb23 44 = .ok (.aload_n 0, 1) := by decide +kernel
theorem d23_45 : decode kb23 45 = .ok (.iload_n 1, 1) := by decide +kernel
theorem d23_46 : decode kb23 46 = .ok (.iload_n 2, 1) := by decide +kernel
theorem d23_47 : decode kb23 47 = .ok (.getstatic 63, 3) := by decide +kernel
theorem d23_50 : decode kb23 50 = .ok (.ishr, 1) := by decide +kernel
theorem d23_51 : decode kb23 51 = .ok (.i2b, 1) := by decide +kernel
theorem d23_52 : decode kb23 52 = .ok (.bastore, 1) := by decide +kernel
theorem d23_53 : decode kb23 53 = .ok (.return_, 1) := by decide +kernel
abbrev kb22 := jdk_52_method_3_code
theorem d22_0 : decode kb22 0 = .ok (.iload_n 0, 1) := by decide +kernel
theorem d22_1 : decode kb22 1 = .ok (.ifCond .ge 11, 3) := by decide +kernel
theorem d22_12 : decode kb22 12 = .ok (.iload_n 0, 1) := by decide +kernel
theorem d22_13 : decode kb22 13 = .ok (.ldc 20, 2) := by decide +kernel
theorem d22_15 : decode kb22 15 = .ok (.if_icmp .lt 40, 3) := by decide +kernel
theorem d22_55 : decode kb22 55 = .ok (.iload_n 0, 1) := by decide +kernel
theorem d22_56 : decode kb22 56 = .ok (.iconst 1, 1) := by decide +kernel
theorem d22_57 : decode kb22 57 = .ok (.ishl, 1) := by decide +kernel
theorem d22_58 : decode kb22 58 = .ok (.ireturn, 1) := by decide +kernel
abbrev kb21 := jdk_52_method_2_code
theorem d21_0 : decode kb21 0 = .ok (.iload_n 0, 1) := by decide +kernel
theorem d21_1 : decode kb21 1 = .ok (.invokestatic 11, 3) := by decide +kernel
theorem pd_oIcI : parseMethodDescriptor "(I)I" = some ⟨[.int], some .int⟩ := by decide +kernel
theorem d21_4 : decode kb21 4 = .ok (.newarray .byte, 2) := by decide +kernel
theorem d21_6 : decode kb21 6 = .ok (.areturn, 1) := by decide +kernel
abbrev kb20 := jdk_52_method_14_code
theorem d20_0 : decode kb20 0 = .ok (.iload_n 2, 1) := by decide +kernel
theorem d20_1 : decode kb20 1 = .ok (.invokestatic 107, 3) := by decide +kernel
theorem pd_oIcAB : parseMethodDescriptor "(I)[B" = some ⟨[.int], some (.array .byte)⟩ := by decide +kernel
theorem d20_4 : decode kb20 4 = .ok (.astore_n 3, 1) := by decide +kernel
theorem d20_5 : decode kb20 5 = .ok (.iconst 0, 1) := by decide +kernel
theorem d20_6 : decode kb20 6 = .ok (.istore 4, 2) := by decide +kernel
theorem d20_8 : decode kb20 8 = .ok (.iload 4, 2) := by decide +kernel
theorem d20_10 : decode kb20 10 = .ok (.iload_n 2, 1) := by decide +kernel
theorem d20_11 : decode kb20 11 = .ok (.if_icmp .ge 21, 3) := by decide +kernel
theorem d20_14 : decode kb20 14 = .ok (.aload_n 3, 1) := by decide +kernel
theorem d20_15 : decode kb20 15 = .ok (.iload 4, 2) := by decide +kernel
theorem d20_17 : decode kb20 17 = .ok (.aload_n 0, 1) := by decide +kernel
theorem d20_18 : decode kb20 18 = .ok (.iload_n 1, 1) := by decide +kernel
theorem d20_19 : decode kb20 19 = .ok (.caload, 1) := by decide +kernel
theorem d20_20 : decode kb20 20 = .ok (.invokestatic 111, 3) := by decide +kernel
theorem pd_oABIIcV : parseMethodDescriptor "([BII)V" = some ⟨[(.array .byte), .int, .int], none⟩ := by decide +kernel
theorem d20_23 : decode kb20 23 = .ok (.iinc 1 1, 3) := by decide +kernel
theorem d20_26 : decode kb20 26 = .ok (.iinc 4 1, 3) := by decide +kernel
theorem d20_29 : decode kb20 29 = .ok (.goto (-21), 3) := by decide +kernel
theorem d20_32 : decode kb20 32 = .ok (.aload_n 3, 1) := by decide +kernel
theorem d20_33 : decode kb20 33 = .ok (.areturn, 1) := by decide +kernel
abbrev kb7 := jdk_52_method_21_code
theorem d7_0 : decode kb7 0 = .ok (.iconst 0, 1) := by decide +kernel
theorem d7_1 : decode kb7 1 = .ok (.istore 5, 2) := by decide +kernel
theorem d7_3 : decode kb7 3 = .ok (.iload 5, 2) := by decide +kernel
theorem d7_5 : decode kb7 5 = .ok (.iload 4, 2) := by decide +kernel
theorem d7_7 : decode kb7 7 = .ok (.if_icmp .ge 37, 3) := by decide +kernel
theorem d7_10 : decode kb7 10 = .ok (.aload_n 0, 1) := by decide +kernel
theorem d7_11 : decode kb7 11 = .ok (.iload_n 1, 1) := by decide +kernel
theorem d7_12 : decode kb7 12 = .ok (.caload, 1) := by decide +kernel
theorem d7_13 : decode kb7 13 = .ok (.istore 6, 2) := by decide +kernel
theorem d7_15 : decode kb7 15 = .ok (.iload 6, 2) := by decide +kernel
theorem d7_17 : decode kb7 17 = .ok (.sipush 255, 3) := by decide +kernel
theorem d7_20 : decode kb7 20 = .ok (.if_icmp .le 6, 3) := by decide +kernel
theorem d7_23 : decode kb7 23 = .ok (.iload 5, 2) := by decide +kernel
theorem d7_25 : decode kb7 25 = .ok (.ireturn, 1) := by decide +kernel
abbrev kb6 := jdk_52_method_16_code
theorem d6_0 : decode kb6 0 = .ok (.iload_n 2, 1) := by decide +kernel
theorem d6_1 : decode kb6 1 = .ok (.newarray .byte, 2) := by decide +kernel
theorem d6_3 : decode kb6 3 = .ok (.astore_n 3, 1) := by decide +kernel
theorem d6_4 : decode kb6 4 = .ok (.aload_n 0, 1) := by decide +kernel
theorem d6_5 : decode kb6 5 = .ok (.iload_n 1, 1) := by decide +kernel
theorem d6_6 : decode kb6 6 = .ok (.aload_n 3, 1) := by decide +kernel
theorem d6_7 : decode kb6 7 = .ok (.iconst 0, 1) := by decide +kernel
theorem d6_8 : decode kb6 8 = .ok (.iload_n 2, 1) := by decide +kernel
theorem d6_9 : decode kb6 9 = .ok (.invokestatic 115, 3) := by decide +kernel
theorem pd_oACIABIIcI : parseMethodDescriptor "([CI[BII)I" = some ⟨[(.array .char), .int, (.array .byte), .int, .int], some .int⟩ := by decide +kernel
theorem d6_12 : decode kb6 12 = .ok (.istore 4, 2) := by decide +kernel
theorem d6_14 : decode kb6 14 = .ok (.iload 4, 2) := by decide +kernel
theorem d6_16 : decode kb6 16 = .ok (.iload_n 2, 1) := by decide +kernel
theorem d6_17 : decode kb6 17 = .ok (.if_icmp .eq 40, 3) := by decide +kernel
theorem d6_20 : decode kb6 20 = .ok (.aload_n 0, 1) := by decide +kernel
theorem d6_21 : decode kb6 21 = .ok (.iload_n 1, 1) := by decide +kernel
theorem d6_22 : decode kb6 22 = .ok (.iload_n 2, 1) := by decide +kernel
theorem d6_23 : decode kb6 23 = .ok (.invokestatic 119, 3) := by decide +kernel
theorem pd_oACIIcAB : parseMethodDescriptor "([CII)[B" = some ⟨[(.array .char), .int, .int], some (.array .byte)⟩ := by decide +kernel
theorem d6_26 : decode kb6 26 = .ok (.astore 5, 2) := by decide +kernel
theorem d6_28 : decode kb6 28 = .ok (.aload 5, 2) := by decide +kernel
theorem d6_30 : decode kb6 30 = .ok (.iload 4, 2) := by decide +kernel
theorem d6_32 : decode kb6 32 = .ok (.invokestatic 71, 3) := by decide +kernel
theorem pd_oABIcC : parseMethodDescriptor "([BI)C" = some ⟨[(.array .byte), .int], some .char⟩ := by decide +kernel
theorem d6_35 : decode kb6 35 = .ok (.sipush 255, 3) := by decide +kernel
theorem d6_38 : decode kb6 38 = .ok (.if_icmp .gt 16, 3) := by decide +kernel
theorem d6_54 : decode kb6 54 = .ok (.aload 5, 2) := by decide +kernel
theorem d6_56 : decode kb6 56 = .ok (.areturn, 1) := by decide +kernel
abbrev kb8 := jdk_52_method_15_code
theorem d8_0 : decode kb8 0 = .ok (.iload_n 1, 1) := by decide +kernel
theorem d8_1 : decode kb8 1 = .ok (.aload_n 0, 1) := by decide +kernel
theorem d8_2 : decode kb8 2 = .ok (.arraylength, 1) := by decide +kernel
theorem d8_3 : decode kb8 3 = .ok (.isub, 1) := by decide +kernel
theorem d8_4 : decode kb8 4 = .ok (.bipush 31, 2) := by decide +kernel
theorem d8_6 : decode kb8 6 = .ok (.iushr, 1) := by decide +kernel
theorem d8_7 : decode kb8 7 = .ok (.i2b, 1) := by decide +kernel
theorem d8_8 : decode kb8 8 = .ok (.ireturn, 1) := by decide +kernel
theorem pn_java_lang_String : plainName "java/lang/String" = true := by first | (simp [plainName, overriddenIn]; done) | decide +kernel
abbrev kb4 := jdk_42_method_149_code
theorem d4_0 : decode kb4 0 = .ok (.aload_n 0, 1) := by decide +kernel
theorem d4_1 : decode kb4 1 = .ok (.invokespecial 1, 3) := by decide +kernel
theorem d4_4 : decode kb4 4 = .ok (.iload_n 3, 1) := by decide +kernel
theorem d4_5 : decode kb4 5 = .ok (.ifCond .ne 22, 3) := by decide +kernel
theorem d4_27 : decode kb4 27 = .ok (.getstatic 38, 3) := by decide +kernel
theorem d4_30 : decode kb4 30 = .ok (.ifCond .eq 28, 3) := by decide +kernel
theorem d4_33 : decode kb4 33 = .ok (.aload_n 1, 1) := by decide +kernel
theorem d4_34 : decode kb4 34 = .ok (.iload_n 2, 1) := by decide +kernel
theorem d4_35 : decode kb4 35 = .ok (.iload_n 3, 1) := by decide +kernel
theorem d4_36 : decode kb4 36 = .ok (.invokestatic 177, 3) := by decide +kernel
theorem d4_39 : decode kb4 39 = .ok (.astore 5, 2) := by decide +kernel
theorem d4_41 : decode kb4 41 = .ok (.aload_n 0, 1) := by decide +kernel
theorem d4_42 : decode kb4 42 = .ok (.aload 5, 2) := by decide +kernel
theorem d4_44 : decode kb4 44 = .ok (.iload_n 3, 1) := by decide +kernel
theorem d4_45 : decode kb4 45 = .ok (.invokestatic 47, 3) := by decide +kernel
theorem pd_oABIcB : parseMethodDescriptor "([BI)B" = some ⟨[(.array .byte), .int], some .byte⟩ := by decide +kernel
theorem d4_48 : decode kb4 48 = .ok (.putfield 15, 3) := by decide +kernel
theorem d4_51 : decode kb4 51 = .ok (.aload_n 0, 1) := by decide +kernel
theorem d4_52 : decode kb4 52 = .ok (.aload 5, 2) := by decide +kernel
theorem d4_54 : decode kb4 54 = .ok (.putfield 9, 3) := by decide +kernel
theorem d4_57 : decode kb4 57 = .ok (.return_, 1) := by decide +kernel
abbrev kb3 := jdk_42_method_3_code
theorem d3_0 : decode kb3 0 = .ok (.aload_n 0, 1) := by decide +kernel
theorem d3_1 : decode kb3 1 = .ok (.aload_n 1, 1) := by decide +kernel
theorem d3_2 : decode kb3 2 = .ok (.iconst 0, 1) := by decide +kernel
theorem d3_3 : decode kb3 3 = .ok (.aload_n 1, 1) := by decide +kernel
theorem d3_4 : decode kb3 4 = .ok (.arraylength, 1) := by decide +kernel
theorem d3_5 : decode kb3 5 = .ok (.aconst_null, 1) := by decide +kernel
theorem d3_6 : decode kb3 6 = .ok (.invokespecial 27, 3) := by decide +kernel
theorem pd_oACIILjava_lang_Void_cV : parseMethodDescriptor "([CIILjava/lang/Void;)V" = some ⟨[(.array .char), .int, .int, (.object "java/lang/Void")], none⟩ := by decide +kernel
theorem d3_9 : decode kb3 9 = .ok (.return_, 1) := by decide +kernel
theorem d7_26 : decode kb7 26 = .ok (.aload_n 2, 1) := by decide +kernel
theorem d7_27 : decode kb7 27 = .ok (.iload_n 3, 1) := by decide +kernel
theorem d7_28 : decode kb7 28 = .ok (.iload 6, 2) := by decide +kernel
theorem d7_30 : decode kb7 30 = .ok (.i2b, 1) := by decide +kernel
theorem d7_31 : decode kb7 31 = .ok (.bastore, 1) := by decide +kernel
theorem d7_32 : decode kb7 32 = .ok (.iinc 1 1, 3) := by decide +kernel
theorem d7_35 : decode kb7 35 = .ok (.iinc 3 1, 3) := by decide +kernel
theorem d7_38 : decode kb7 38 = .ok (.iinc 5 1, 3) := by decide +kernel
theorem d7_41 : decode kb7 41 = .ok (.goto (-38), 3) := by decide +kernel
abbrev kb11 := jdk_42_method_152_code
theorem d11_0 : decode kb11 0 = .ok (.getstatic 38, 3) := by decide +kernel
theorem d11_3 : decode kb11 3 = .ok (.ifCond .eq 10, 3) := by decide +kernel
theorem d11_6 : decode kb11 6 = .ok (.aload_n 0, 1) := by decide +kernel
theorem d11_7 : decode kb11 7 = .ok (.getfield 15, 3) := by decide +kernel
theorem d11_10 : decode kb11 10 = .ok (.goto 4, 3) := by decide +kernel
theorem d11_14 : decode kb11 14 = .ok (.ireturn, 1) := by decide +kernel
abbrev kb26 := jdk_42_method_154_code
theorem d26_0 : decode kb26 0 = .ok (.getstatic 38, 3) := by decide +kernel
theorem d26_3 : decode kb26 3 = .ok (.ifCond .eq 14, 3) := by decide +kernel
theorem d26_6 : decode kb26 6 = .ok (.aload_n 0, 1) := by decide +kernel
theorem d26_7 : decode kb26 7 = .ok (.getfield 15, 3) := by decide +kernel
theorem d26_10 : decode kb26 10 = .ok (.ifCond .ne 7, 3) := by decide +kernel
theorem d26_13 : decode kb26 13 = .ok (.iconst 1, 1) := by decide +kernel
theorem d26_14 : decode kb26 14 = .ok (.goto 4, 3) := by decide +kernel
theorem d26_18 : decode kb26 18 = .ok (.ireturn, 1) := by decide +kernel
theorem d26_17 : decode kb26 17 = .ok (.iconst 0, 1) := by decide +kernel
abbrev kb10 := jdk_42_method_54_code
theorem d10_0 : decode kb10 0 = .ok (.aload_n 0, 1) := by decide +kernel
theorem d10_1 : decode kb10 1 = .ok (.getfield 9, 3) := by decide +kernel
theorem d10_4 : decode kb10 4 = .ok (.arraylength, 1) := by decide +kernel
theorem d10_5 : decode kb10 5 = .ok (.aload_n 0, 1) := by decide +kernel
theorem d10_6 : decode kb10 6 = .ok (.invokevirtual 335, 3) := by decide +kernel
theorem pd_ocB : parseMethodDescriptor "()B" = some ⟨[], some .byte⟩ := by decide +kernel
theorem d10_9 : decode kb10 9 = .ok (.ishr, 1) := by decide +kernel
theorem d10_10 : decode kb10 10 = .ok (.ireturn, 1) := by decide +kernel
theorem pn_jdk_internal_util_Preconditions : plainName "jdk/internal/util/Preconditions" = true := by first | (simp [plainName, overriddenIn]; done) | decide +kernel
abbrev kb28 := jdk_41_method_11_code
theorem d28_0 : decode kb28 0 = .ok (.iload_n 0, 1) := by decide +kernel
theorem d28_1 : decode kb28 1 = .ok (.ifCond .lt 8, 3) := by decide +kernel
theorem d28_4 : decode kb28 4 = .ok (.iload_n 0, 1) := by decide +kernel
theorem d28_5 : decode kb28 5 = .ok (.iload_n 1, 1) := by decide +kernel
theorem d28_6 : decode kb28 6 = .ok (.if_icmp .lt 10, 3) := by decide +kernel
theorem d28_16 : decode kb28 16 = .ok (.iload_n 0, 1) := by decide +kernel
theorem d28_17 : decode kb28 17 = .ok (.ireturn, 1) := by decide +kernel
abbrev kb27 := jdk_42_method_155_code
theorem d27_0 : decode kb27 0 = .ok (.iload_n 0, 1) := by decide +kernel
theorem d27_1 : decode kb27 1 = .ok (.iload_n 1, 1) := by decide +kernel
theorem d27_2 : decode kb27 2 = .ok (.getstatic 1053, 3) := by decide +kernel
theorem d27_5 : decode kb27 5 = .ok (.invokestatic 1059, 3) := by decide +kernel
theorem pd_oIILjava_util_function_BiFunction_cI : parseMethodDescriptor "(IILjava/util/function/BiFunction;)I" = some ⟨[.int, .int, (.object "java/util/function/BiFunction")], some .int⟩ := by decide +kernel
theorem d27_8 : decode kb27 8 = .ok (.pop, 1) := by decide +kernel
theorem d27_9 : decode kb27 9 = .ok (.return_, 1) := by decide +kernel
theorem pn_java_lang_Character : plainName "java/lang/Character" = true := by first | (simp [plainName, overriddenIn]; done) | decide +kernel
abbrev kb31 := jdk_89_method_14_code
theorem d31_0 : decode kb31 0 = .ok (.iload_n 0, 1) := by decide +kernel
theorem d31_1 : decode kb31 1 = .ok (.ldc 75, 2) := by decide +kernel
theorem d31_3 : decode kb31 3 = .ok (.if_icmp .lt 13, 3) := by decide +kernel
theorem d31_16 : decode kb31 16 = .ok (.iconst 0, 1) := by decide +kernel
theorem d31_17 : decode kb31 17 = .ok (.ireturn, 1) := by decide +kernel
theorem d31_6 : decode kb31 6 = .ok (.iload_n 0, 1) := by decide +kernel
theorem d31_7 : decode kb31 7 = .ok (.ldc 76, 2) := by decide +kernel
theorem d31_9 : decode kb31 9 = .ok (.if_icmp .ge 7, 3) := by decide +kernel
theorem d31_12 : decode kb31 12 = .ok (.iconst 1, 1) := by decide +kernel
theorem d31_13 : decode kb31 13 = .ok (.goto 4, 3) := by decide +kernel
abbrev kb32 := jdk_89_method_15_code
theorem d32_0 : decode kb32 0 = .ok (.iload_n 0, 1) := by decide +kernel
theorem d32_1 : decode kb32 1 = .ok (.ldc 76, 2) := by decide +kernel
theorem d32_3 : decode kb32 3 = .ok (.if_icmp .lt 13, 3) := by decide +kernel
theorem d32_16 : decode kb32 16 = .ok (.iconst 0, 1) := by decide +kernel
theorem d32_17 : decode kb32 17 = .ok (.ireturn, 1) := by decide +kernel
theorem d32_6 : decode kb32 6 = .ok (.iload_n 0, 1) := by decide +kernel
theorem d32_7 : decode kb32 7 = .ok (.ldc 77, 2) := by decide +kernel
theorem d32_9 : decode kb32 9 = .ok (.if_icmp .ge 7, 3) := by decide +kernel
theorem d32_12 : decode kb32 12 = .ok (.iconst 1, 1) := by decide +kernel
theorem d32_13 : decode kb32 13 = .ok (.goto 4, 3) := by decide +kernel
abbrev kb35 := jdk_89_method_19_code
theorem d35_0 : decode kb35 0 = .ok (.iload_n 0, 1) := by decide +kernel
theorem d35_1 : decode kb35 1 = .ok (.bipush 10, 2) := by decide +kernel
theorem d35_3 : decode kb35 3 = .ok (.ishl, 1) := by decide +kernel
theorem d35_4 : decode kb35 4 = .ok (.iload_n 1, 1) := by decide +kernel
theorem d35_5 : decode kb35 5 = .ok (.iadd, 1) := by decide +kernel
theorem d35_6 : decode kb35 6 = .ok (.ldc 85, 2) := by decide +kernel
theorem d35_8 : decode kb35 8 = .ok (.iadd, 1) := by decide +kernel
theorem d35_9 : decode kb35 9 = .ok (.ireturn, 1) := by decide +kernel
abbrev kb30 := jdk_52_method_7_code
theorem d30_0 : decode kb30 0 = .ok (.getstatic 44, 3) := by decide +kernel
theorem d30_3 : decode kb30 3 = .ok (.ifCond .ne 16, 3) := by decide +kernel
theorem d30_19 : decode kb30 19 = .ok (.iload_n 3, 1) := by decide +kernel
theorem d30_20 : decode kb30 20 = .ok (.ifCond .eq 8, 3) := by decide +kernel
theorem d30_28 : decode kb30 28 = .ok (.aload_n 0, 1) := by decide +kernel
theorem d30_29 : decode kb30 29 = .ok (.iload_n 1, 1) := by decide +kernel
theorem d30_30 : decode kb30 30 = .ok (.invokestatic 71, 3) := by decide +kernel
theorem d30_33 : decode kb30 33 = .ok (.istore 4, 2) := by decide +kernel
theorem d30_35 : decode kb30 35 = .ok (.iload 4, 2) := by decide +kernel
theorem d30_37 : decode kb30 37 = .ok (.invokestatic 75, 3) := by decide +kernel
theorem pd_oCcZ : parseMethodDescriptor "(C)Z" = some ⟨[.char], some .boolean⟩ := by decide +kernel
theorem d30_40 : decode kb30 40 = .ok (.ifCond .eq 43, 3) := by decide +kernel
theorem d30_83 : decode kb30 83 = .ok (.iload 4, 2) := by decide +kernel
theorem d30_85 : decode kb30 85 = .ok (.ireturn, 1) := by decide +kernel
theorem d30_43 : decode kb30 43 = .ok (.iinc 1 1, 3) := by decide +kernel
theorem d30_46 : decode kb30 46 = .ok (.iload_n 1, 1) := by decide +kernel
theorem d30_47 : decode kb30 47 = .ok (.iload_n 2, 1) := by decide +kernel
theorem d30_48 : decode kb30 48 = .ok (.if_icmp .ge 35, 3) := by decide +kernel
theorem d30_51 : decode kb30 51 = .ok (.iload_n 3, 1) := by decide +kernel
theorem d30_52 : decode kb30 52 = .ok (.ifCond .eq 8, 3) := by decide +kernel
theorem d30_60 : decode kb30 60 = .ok (.aload_n 0, 1) := by decide +kernel
theorem d30_61 : decode kb30 61 = .ok (.iload_n 1, 1) := by decide +kernel
theorem d30_62 : decode kb30 62 = .ok (.invokestatic 71, 3) := by decide +kernel
theorem d30_65 : decode kb30 65 = .ok (.istore 5, 2) := by decide +kernel
theorem d30_67 : decode kb30 67 = .ok (.iload 5, 2) := by decide +kernel
theorem d30_69 : decode kb30 69 = .ok (.invokestatic 81, 3) := by decide +kernel
theorem d30_72 : decode kb30 72 = .ok (.ifCond .eq 11, 3) := by decide +kernel
theorem d30_75 : decode kb30 75 = .ok (.iload 4, 2) := by decide +kernel
theorem d30_77 : decode kb30 77 = .ok (.iload 5, 2) := by decide +kernel
theorem d30_79 : decode kb30 79 = .ok (.invokestatic 84, 3) := by decide +kernel
theorem pd_oCCcI : parseMethodDescriptor "(CC)I" = some ⟨[.char, .char], some .int⟩ := by decide +kernel
theorem d30_82 : decode kb30 82 = .ok (.ireturn, 1) := by decide +kernel
abbrev kb29 := jdk_52_method_8_code
theorem d29_0 : decode kb29 0 = .ok (.aload_n 0, 1) := by decide +kernel
theorem d29_1 : decode kb29 1 = .ok (.iload_n 1, 1) := by decide +kernel
theorem d29_2 : decode kb29 2 = .ok (.iload_n 2, 1) := by decide +kernel
theorem d29_3 : decode kb29 3 = .ok (.iconst 0, 1) := by decide +kernel
theorem d29_4 : decode kb29 4 = .ok (.invokestatic 88, 3) := by decide +kernel
theorem pd_oABIIZcI : parseMethodDescriptor "([BIIZ)I" = some ⟨[(.array .byte), .int, .int, .boolean], some .int⟩ := by decide +kernel
theorem d29_7 : decode kb29 7 = .ok (.ireturn, 1) := by decide +kernel
abbrev kb25 := jdk_42_method_57_code
theorem d25_0 : decode kb25 0 = .ok (.aload_n 0, 1) := by decide +kernel
theorem d25_1 : decode kb25 1 = .ok (.invokevirtual 492, 3) := by decide +kernel
theorem pd_ocZ : parseMethodDescriptor "()Z" = some ⟨[], some .boolean⟩ := by decide +kernel
theorem d25_4 : decode kb25 4 = .ok (.ifCond .eq 23, 3) := by decide +kernel
theorem d25_27 : decode kb25 27 = .ok (.aload_n 0, 1) := by decide +kernel
theorem d25_28 : decode kb25 28 = .ok (.getfield 9, 3) := by decide +kernel
theorem d25_31 : decode kb25 31 = .ok (.arraylength, 1) := by decide +kernel
theorem d25_32 : decode kb25 32 = .ok (.iconst 1, 1) := by decide +kernel
theorem d25_33 : decode kb25 33 = .ok (.ishr, 1) := by decide +kernel
theorem d25_34 : decode kb25 34 = .ok (.istore_n 2, 1) := by decide +kernel
theorem d25_35 : decode kb25 35 = .ok (.iload_n 1, 1) := by decide +kernel
theorem d25_36 : decode kb25 36 = .ok (.iload_n 2, 1) := by decide +kernel
theorem d25_37 : decode kb25 37 = .ok (.invokestatic 499, 3) := by decide +kernel
theorem pd_oIIcV : parseMethodDescriptor "(II)V" = some ⟨[.int, .int], none⟩ := by decide +kernel
theorem d25_40 : decode kb25 40 = .ok (.aload_n 0, 1) := by decide +kernel
theorem d25_41 : decode kb25 41 = .ok (.getfield 9, 3) := by decide +kernel
theorem d25_44 : decode kb25 44 = .ok (.iload_n 1, 1) := by decide +kernel
theorem d25_45 : decode kb25 45 = .ok (.iload_n 2, 1) := by decide +kernel
theorem d25_46 : decode kb25 46 = .ok (.invokestatic 502, 3) := by decide +kernel
theorem pd_oABIIcI : parseMethodDescriptor "([BII)I" = some ⟨[(.array .byte), .int, .int], some .int⟩ := by decide +kernel
theorem d25_49 : decode kb25 49 = .ok (.ireturn, 1) := by decide +kernel
theorem d25_7 : decode kb25 7 = .ok (.iload_n 1, 1) := by decide +kernel
theorem d25_8 : decode kb25 8 = .ok (.aload_n 0, 1) := by decide +kernel
theorem d25_9 : decode kb25 9 = .ok (.getfield 9, 3) := by decide +kernel
theorem d25_12 : decode kb25 12 = .ok (.arraylength, 1) := by decide +kernel
theorem d25_13 : decode kb25 13 = .ok (.invokestatic 499, 3) := by decide +kernel
theorem d25_16 : decode kb25 16 = .ok (.aload_n 0, 1) := by decide +kernel
theorem d25_17 : decode kb25 17 = .ok (.getfield 9, 3) := by decide +kernel
theorem d25_20 : decode kb25 20 = .ok (.iload_n 1, 1) := by decide +kernel
theorem d25_21 : decode kb25 21 = .ok (.baload, 1) := by decide +kernel
theorem d25_22 : decode kb25 22 = .ok (.sipush 255, 3) := by decide +kernel
theorem d25_25 : decode kb25 25 = .ok (.iand, 1) := by decide +kernel
theorem d25_26 : decode kb25 26 = .ok (.ireturn, 1) := by decide +kernel
theorem d7_44 : decode kb7 44 = .ok (.iload 4, 2) := by decide +kernel
theorem d7_46 : decode kb7 46 = .ok (.ireturn, 1) := by decide +kernel
theorem d6_57 : decode kb6 57 = .ok (.aload_n 3, 1) := by decide +kernel
theorem d6_58 : decode kb6 58 = .ok (.areturn, 1) := by decide +kernel
theorem d4_8 : decode kb4 8 = .ok (.aload_n 0, 1) := by decide +kernel
theorem d4_9 : decode kb4 9 = .ok (.ldc 7, 2) := by decide +kernel
theorem d4_11 : decode kb4 11 = .ok (.getfield 9, 3) := by decide +kernel
theorem d4_14 : decode kb4 14 = .ok (.putfield 9, 3) := by decide +kernel
theorem d4_17 : decode kb4 17 = .ok (.aload_n 0, 1) := by decide +kernel
theorem d4_18 : decode kb4 18 = .ok (.ldc 7, 2) := by decide +kernel
theorem d4_20 : decode kb4 20 = .ok (.getfield 15, 3) := by decide +kernel
theorem d4_23 : decode kb4 23 = .ok (.putfield 15, 3) := by decide +kernel
theorem d4_26 : decode kb4 26 = .ok (.return_, 1) := by decide +kernel
theorem pn_java_lang_Integer : plainName "java/lang/Integer" = true := by first | (simp [plainName, overriddenIn]; done) | decide +kernel
abbrev kb12 := jdk_33_method_40_code
theorem d12_0 : decode kb12 0 = .ok (.iload_n 0, 1) := by decide +kernel
theorem d12_1 : decode kb12 1 = .ok (.iload_n 1, 1) := by decide +kernel
theorem d12_2 : decode kb12 2 = .ok (.if_icmp .ge 7, 3) := by decide +kernel
theorem d12_5 : decode kb12 5 = .ok (.iconst (-1), 1) := by decide +kernel
theorem d12_6 : decode kb12 6 = .ok (.goto 13, 3) := by decide +kernel
theorem d12_19 : decode kb12 19 = .ok (.ireturn, 1) := by decide +kernel
theorem d12_9 : decode kb12 9 = .ok (.iload_n 0, 1) := by decide +kernel
theorem d12_10 : decode kb12 10 = .ok (.iload_n 1, 1) := by decide +kernel
theorem d12_11 : decode kb12 11 = .ok (.if_icmp .ne 7, 3) := by decide +kernel
theorem d12_14 : decode kb12 14 = .ok (.iconst 0, 1) := by decide +kernel
theorem d12_15 : decode kb12 15 = .ok (.goto 4, 3) := by decide +kernel
theorem d12_18 : decode kb12 18 = .ok (.iconst 1, 1) := by decide +kernel
abbrev kb34 := jdk_89_method_18_code
theorem d34_0 : decode kb34 0 = .ok (.iload_n 0, 1) := by decide +kernel
theorem d34_1 : decode kb34 1 = .ok (.ldc 73, 2) := by decide +kernel
theorem d34_3 : decode kb34 3 = .ok (.if_icmp .lt 7, 3) := by decide +kernel
theorem d34_10 : decode kb34 10 = .ok (.iconst 1, 1) := by decide +kernel
theorem d34_11 : decode kb34 11 = .ok (.ireturn, 1) := by decide +kernel
theorem d34_6 : decode kb34 6 = .ok (.iconst 2, 1) := by decide +kernel
theorem d34_7 : decode kb34 7 = .ok (.goto 4, 3) := by decide +kernel
theorem pn_com_example_muster_muster_campaign_TextOrder : plainName "com/example/muster/muster/campaign/TextOrder" = true := by first | (simp [plainName, overriddenIn]; done) | decide +kernel
abbrev kb9 := prog_9_method_2_code
theorem d9_0 : decode kb9 0 = .ok (.iconst 0, 1) := by decide +kernel
theorem d9_1 : decode kb9 1 = .ok (.istore_n 2, 1) := by decide +kernel
theorem d9_2 : decode kb9 2 = .ok (.iconst 0, 1) := by decide +kernel
theorem d9_3 : decode kb9 3 = .ok (.istore_n 3, 1) := by decide +kernel
theorem d9_68 : decode kb9 68 = .ok (.aload_n 0, 1) := by decide +kernel
theorem d9_69 : decode kb9 69 = .ok (.invokevirtual 7, 3) := by decide +kernel
theorem pd_ocI : parseMethodDescriptor "()I" = some ⟨[], some .int⟩ := by decide +kernel
theorem d9_72 : decode kb9 72 = .ok (.iload_n 2, 1) := by decide +kernel
theorem d9_73 : decode kb9 73 = .ok (.isub, 1) := by decide +kernel
theorem d9_74 : decode kb9 74 = .ok (.aload_n 1, 1) := by decide +kernel
theorem d9_75 : decode kb9 75 = .ok (.invokevirtual 7, 3) := by decide +kernel
theorem d9_78 : decode kb9 78 = .ok (.iload_n 3, 1) := by decide +kernel
theorem d9_79 : decode kb9 79 = .ok (.isub, 1) := by decide +kernel
theorem d9_80 : decode kb9 80 = .ok (.invokestatic 17, 3) := by decide +kernel
theorem pd_oIIcI : parseMethodDescriptor "(II)I" = some ⟨[.int, .int], some .int⟩ := by decide +kernel
theorem d9_83 : decode kb9 83 = .ok (.ireturn, 1) := by decide +kernel
theorem d9_4 : decode kb9 4 = .ok (.iload_n 2, 1) := by decide +kernel
theorem d9_5 : decode kb9 5 = .ok (.aload_n 0, 1) := by decide +kernel
theorem d9_6 : decode kb9 6 = .ok (.invokevirtual 7, 3) := by decide +kernel
theorem d9_9 : decode kb9 9 = .ok (.if_icmp .ge 59, 3) := by decide +kernel
theorem d9_12 : decode kb9 12 = .ok (.iload_n 3, 1) := by decide +kernel
theorem d9_13 : decode kb9 13 = .ok (.aload_n 1, 1) := by decide +kernel
theorem d9_14 : decode kb9 14 = .ok (.invokevirtual 7, 3) := by decide +kernel
theorem d9_17 : decode kb9 17 = .ok (.if_icmp .ge 51, 3) := by decide +kernel
theorem d9_20 : decode kb9 20 = .ok (.aload_n 0, 1) := by decide +kernel
theorem d9_21 : decode kb9 21 = .ok (.iload_n 2, 1) := by decide +kernel
theorem d9_22 : decode kb9 22 = .ok (.invokevirtual 13, 3) := by decide +kernel
theorem d9_25 : decode kb9 25 = .ok (.istore 4, 2) := by decide +kernel
theorem d9_27 : decode kb9 27 = .ok (.aload_n 1, 1) := by decide +kernel
theorem d9_28 : decode kb9 28 = .ok (.iload_n 3, 1) := by decide +kernel
theorem d9_29 : decode kb9 29 = .ok (.invokevirtual 13, 3) := by decide +kernel
theorem d9_32 : decode kb9 32 = .ok (.istore 5, 2) := by decide +kernel
theorem d9_34 : decode kb9 34 = .ok (.iload 4, 2) := by decide +kernel
theorem d9_36 : decode kb9 36 = .ok (.iload 5, 2) := by decide +kernel
theorem d9_38 : decode kb9 38 = .ok (.if_icmp .eq 11, 3) := by decide +kernel
theorem d9_49 : decode kb9 49 = .ok (.iload_n 2, 1) := by decide +kernel
theorem d9_50 : decode kb9 50 = .ok (.iload 4, 2) := by decide +kernel
theorem d9_52 : decode kb9 52 = .ok (.invokestatic 23, 3) := by decide +kernel
theorem d9_55 : decode kb9 55 = .ok (.iadd, 1) := by decide +kernel
theorem d9_56 : decode kb9 56 = .ok (.istore_n 2, 1) := by decide +kernel
theorem d9_57 : decode kb9 57 = .ok (.iload_n 3, 1) := by decide +kernel
theorem d9_58 : decode kb9 58 = .ok (.iload 5, 2) := by decide +kernel
theorem d9_60 : decode kb9 60 = .ok (.invokestatic 23, 3) := by decide +kernel
theorem d9_63 : decode kb9 63 = .ok (.iadd, 1) := by decide +kernel
theorem d9_64 : decode kb9 64 = .ok (.istore_n 3, 1) := by decide +kernel
theorem d9_65 : decode kb9 65 = .ok (.goto (-61), 3) := by decide +kernel
theorem d9_41 : decode kb9 41 = .ok (.iload 4, 2) := by decide +kernel
theorem d9_43 : decode kb9 43 = .ok (.iload 5, 2) := by decide +kernel
theorem d9_45 : decode kb9 45 = .ok (.invokestatic 17, 3) := by decide +kernel
theorem d9_48 : decode kb9 48 = .ok (.ireturn, 1) := by decide +kernel
theorem pn_com_example_muster_muster_campaign_TextOrderComparePinLaw : plainName "com/example/muster/muster/campaign/TextOrderComparePinLaw" = true := by first | (simp [plainName, overriddenIn]; done) | decide +kernel
abbrev kb16 := method_5_code
theorem d16_0 : decode kb16 0 = .ok (.iload_n 0, 1) := by decide +kernel
theorem d16_1 : decode kb16 1 = .ok (.ldc 31, 2) := by decide +kernel
theorem d16_3 : decode kb16 3 = .ok (.if_icmp .lt 13, 3) := by decide +kernel
theorem d16_16 : decode kb16 16 = .ok (.iconst 0, 1) := by decide +kernel
theorem d16_17 : decode kb16 17 = .ok (.ireturn, 1) := by decide +kernel
theorem d16_6 : decode kb16 6 = .ok (.iload_n 0, 1) := by decide +kernel
theorem d16_7 : decode kb16 7 = .ok (.ldc 39, 2) := by decide +kernel
theorem d16_9 : decode kb16 9 = .ok (.if_icmp .gt 7, 3) := by decide +kernel
theorem d16_12 : decode kb16 12 = .ok (.iconst 1, 1) := by decide +kernel
theorem d16_13 : decode kb16 13 = .ok (.goto 4, 3) := by decide +kernel
abbrev kb33 := method_6_code
theorem d33_0 : decode kb33 0 = .ok (.iload_n 0, 1) := by decide +kernel
theorem d33_1 : decode kb33 1 = .ok (.ldc 32, 2) := by decide +kernel
theorem d33_3 : decode kb33 3 = .ok (.if_icmp .lt 13, 3) := by decide +kernel
theorem d33_16 : decode kb33 16 = .ok (.iconst 0, 1) := by decide +kernel
theorem d33_17 : decode kb33 17 = .ok (.ireturn, 1) := by decide +kernel
theorem d33_6 : decode kb33 6 = .ok (.iload_n 0, 1) := by decide +kernel
theorem d33_7 : decode kb33 7 = .ok (.ldc 40, 2) := by decide +kernel
theorem d33_9 : decode kb33 9 = .ok (.if_icmp .gt 7, 3) := by decide +kernel
theorem d33_12 : decode kb33 12 = .ok (.iconst 1, 1) := by decide +kernel
theorem d33_13 : decode kb33 13 = .ok (.goto 4, 3) := by decide +kernel
abbrev kb18 := method_10_code
theorem d18_0 : decode kb18 0 = .ok (.iload_n 0, 1) := by decide +kernel
theorem d18_1 : decode kb18 1 = .ok (.iload_n 1, 1) := by decide +kernel
theorem d18_2 : decode kb18 2 = .ok (.if_icmp .ge 5, 3) := by decide +kernel
theorem d18_5 : decode kb18 5 = .ok (.iconst (-1), 1) := by decide +kernel
theorem d18_6 : decode kb18 6 = .ok (.ireturn, 1) := by decide +kernel
theorem d18_7 : decode kb18 7 = .ok (.iload_n 0, 1) := by decide +kernel
theorem d18_8 : decode kb18 8 = .ok (.iload_n 1, 1) := by decide +kernel
theorem d18_9 : decode kb18 9 = .ok (.if_icmp .le 5, 3) := by decide +kernel
theorem d18_12 : decode kb18 12 = .ok (.iconst 1, 1) := by decide +kernel
theorem d18_13 : decode kb18 13 = .ok (.ireturn, 1) := by decide +kernel
theorem d18_14 : decode kb18 14 = .ok (.iconst 0, 1) := by decide +kernel
theorem d18_15 : decode kb18 15 = .ok (.ireturn, 1) := by decide +kernel
abbrev kb19 := method_12_code
theorem d19_0 : decode kb19 0 = .ok (.iload_n 0, 1) := by decide +kernel
theorem d19_1 : decode kb19 1 = .ok (.ifCond .ge 5, 3) := by decide +kernel
theorem d19_4 : decode kb19 4 = .ok (.iconst (-1), 1) := by decide +kernel
theorem d19_5 : decode kb19 5 = .ok (.ireturn, 1) := by decide +kernel
theorem d19_6 : decode kb19 6 = .ok (.iload_n 0, 1) := by decide +kernel
theorem d19_7 : decode kb19 7 = .ok (.ifCond .le 5, 3) := by decide +kernel
theorem d19_10 : decode kb19 10 = .ok (.iconst 1, 1) := by decide +kernel
theorem d19_11 : decode kb19 11 = .ok (.ireturn, 1) := by decide +kernel
theorem d19_12 : decode kb19 12 = .ok (.iconst 0, 1) := by decide +kernel
theorem d19_13 : decode kb19 13 = .ok (.ireturn, 1) := by decide +kernel
abbrev kb1 := method_3_code
theorem d1_0 : decode kb1 0 = .ok (.iload_n 0, 1) := by decide +kernel
theorem d1_1 : decode kb1 1 = .ok (.iconst 3, 1) := by decide +kernel
theorem d1_2 : decode kb1 2 = .ok (.iand, 1) := by decide +kernel
theorem d1_3 : decode kb1 3 = .ok (.istore_n 1, 1) := by decide +kernel
theorem d1_4 : decode kb1 4 = .ok (.iload_n 0, 1) := by decide +kernel
theorem d1_5 : decode kb1 5 = .ok (.iconst 2, 1) := by decide +kernel
theorem d1_6 : decode kb1 6 = .ok (.iushr, 1) := by decide +kernel
theorem d1_7 : decode kb1 7 = .ok (.istore_n 2, 1) := by decide +kernel
theorem d1_8 : decode kb1 8 = .ok (.iload_n 1, 1) := by decide +kernel
theorem d1_9 : decode kb1 9 = .ok (.ifCond .ne 9, 3) := by decide +kernel
theorem d1_12 : decode kb1 12 = .ok (.iload_n 2, 1) := by decide +kernel
theorem d1_13 : decode kb1 13 = .ok (.bipush 127, 2) := by decide +kernel
theorem d1_15 : decode kb1 15 = .ok (.iand, 1) := by decide +kernel
theorem d1_16 : decode kb1 16 = .ok (.i2c, 1) := by decide +kernel
theorem d1_17 : decode kb1 17 = .ok (.ireturn, 1) := by decide +kernel
theorem d1_18 : decode kb1 18 = .ok (.iload_n 1, 1) := by decide +kernel
theorem d1_19 : decode kb1 19 = .ok (.iconst 1, 1) := by decide +kernel
theorem d1_20 : decode kb1 20 = .ok (.if_icmp .ne 13, 3) := by decide +kernel
theorem d1_23 : decode kb1 23 = .ok (.ldc 31, 2) := by decide +kernel
theorem d1_25 : decode kb1 25 = .ok (.iload_n 2, 1) := by decide +kernel
theorem d1_26 : decode kb1 26 = .ok (.sipush 1023, 3) := by decide +kernel
theorem d1_29 : decode kb1 29 = .ok (.iand, 1) := by decide +kernel
theorem d1_30 : decode kb1 30 = .ok (.ior, 1) := by decide +kernel
theorem d1_31 : decode kb1 31 = .ok (.i2c, 1) := by decide +kernel
theorem d1_32 : decode kb1 32 = .ok (.ireturn, 1) := by decide +kernel
theorem d1_33 : decode kb1 33 = .ok (.iload_n 1, 1) := by decide +kernel
theorem d1_34 : decode kb1 34 = .ok (.iconst 2, 1) := by decide +kernel
theorem d1_35 : decode kb1 35 = .ok (.if_icmp .ne 13, 3) := by decide +kernel
theorem d1_38 : decode kb1 38 = .ok (.ldc 32, 2) := by decide +kernel
theorem d1_40 : decode kb1 40 = .ok (.iload_n 2, 1) := by decide +kernel
theorem d1_41 : decode kb1 41 = .ok (.sipush 1023, 3) := by decide +kernel
theorem d1_44 : decode kb1 44 = .ok (.iand, 1) := by decide +kernel
theorem d1_45 : decode kb1 45 = .ok (.ior, 1) := by decide +kernel
theorem d1_46 : decode kb1 46 = .ok (.i2c, 1) := by decide +kernel
theorem d1_47 : decode kb1 47 = .ok (.ireturn, 1) := by decide +kernel
theorem d1_48 : decode kb1 48 = .ok (.iload_n 2, 1) := by decide +kernel
theorem d1_49 : decode kb1 49 = .ok (.ldc 33, 2) := by decide +kernel
theorem d1_51 : decode kb1 51 = .ok (.iand, 1) := by decide +kernel
theorem d1_52 : decode kb1 52 = .ok (.i2c, 1) := by decide +kernel
theorem d1_53 : decode kb1 53 = .ok (.ireturn, 1) := by decide +kernel
abbrev kb15 := method_7_code
theorem d15_0 : decode kb15 0 = .ok (.iload_n 2, 1) := by decide +kernel
theorem d15_1 : decode kb15 1 = .ok (.iconst 1, 1) := by decide +kernel
theorem d15_2 : decode kb15 2 = .ok (.iadd, 1) := by decide +kernel
theorem d15_3 : decode kb15 3 = .ok (.iload_n 1, 1) := by decide +kernel
theorem d15_4 : decode kb15 4 = .ok (.if_icmp .ge 27, 3) := by decide +kernel
theorem d15_7 : decode kb15 7 = .ok (.aload_n 0, 1) := by decide +kernel
theorem d15_8 : decode kb15 8 = .ok (.iload_n 2, 1) := by decide +kernel
theorem d15_9 : decode kb15 9 = .ok (.caload, 1) := by decide +kernel
theorem d15_10 : decode kb15 10 = .ok (.invokestatic 41, 3) := by decide +kernel
theorem d15_13 : decode kb15 13 = .ok (.ifCond .eq 18, 3) := by decide +kernel
theorem d15_31 : decode kb15 31 = .ok (.iconst 0, 1) := by decide +kernel
theorem d15_32 : decode kb15 32 = .ok (.ireturn, 1) := by decide +kernel
theorem d15_16 : decode kb15 16 = .ok (.aload_n 0, 1) := by decide +kernel
theorem d15_17 : decode kb15 17 = .ok (.iload_n 2, 1) := by decide +kernel
theorem d15_18 : decode kb15 18 = .ok (.iconst 1, 1) := by decide +kernel
theorem d15_19 : decode kb15 19 = .ok (.iadd, 1) := by decide +kernel
theorem d15_20 : decode kb15 20 = .ok (.caload, 1) := by decide +kernel
theorem d15_21 : decode kb15 21 = .ok (.invokestatic 45, 3) := by decide +kernel
theorem d15_24 : decode kb15 24 = .ok (.ifCond .eq 7, 3) := by decide +kernel
theorem d15_27 : decode kb15 27 = .ok (.iconst 1, 1) := by decide +kernel
theorem d15_28 : decode kb15 28 = .ok (.goto 4, 3) := by decide +kernel
abbrev kb17 := method_8_code
theorem d17_0 : decode kb17 0 = .ok (.aload_n 0, 1) := by decide +kernel
theorem d17_1 : decode kb17 1 = .ok (.iload_n 1, 1) := by decide +kernel
theorem d17_2 : decode kb17 2 = .ok (.iload_n 2, 1) := by decide +kernel
theorem d17_3 : decode kb17 3 = .ok (.invokestatic 48, 3) := by decide +kernel
theorem pd_oACIIcZ : parseMethodDescriptor "([CII)Z" = some ⟨[(.array .char), .int, .int], some .boolean⟩ := by decide +kernel
theorem d17_6 : decode kb17 6 = .ok (.ifCond .eq 5, 3) := by decide +kernel
theorem d17_11 : decode kb17 11 = .ok (.iconst 1, 1) := by decide +kernel
theorem d17_12 : decode kb17 12 = .ok (.ireturn, 1) := by decide +kernel
theorem d17_9 : decode kb17 9 = .ok (.iconst 2, 1) := by decide +kernel
theorem d17_10 : decode kb17 10 = .ok (.ireturn, 1) := by decide +kernel
abbrev kb14 := method_9_code
theorem d14_0 : decode kb14 0 = .ok (.iload_n 2, 1) := by decide +kernel
theorem d14_1 : decode kb14 1 = .ok (.iload_n 1, 1) := by decide +kernel
theorem d14_2 : decode kb14 2 = .ok (.if_icmp .lt 5, 3) := by decide +kernel
theorem d14_7 : decode kb14 7 = .ok (.aload_n 0, 1) := by decide +kernel
theorem d14_8 : decode kb14 8 = .ok (.iload_n 1, 1) := by decide +kernel
theorem d14_9 : decode kb14 9 = .ok (.iload_n 2, 1) := by decide +kernel
theorem d14_10 : decode kb14 10 = .ok (.invokestatic 48, 3) := by decide +kernel
theorem d14_13 : decode kb14 13 = .ok (.ifCond .eq 25, 3) := by decide +kernel
theorem d14_38 : decode kb14 38 = .ok (.aload_n 0, 1) := by decide +kernel
theorem d14_39 : decode kb14 39 = .ok (.iload_n 2, 1) := by decide +kernel
theorem d14_40 : decode kb14 40 = .ok (.caload, 1) := by decide +kernel
theorem d14_41 : decode kb14 41 = .ok (.ireturn, 1) := by decide +kernel
theorem d14_16 : decode kb14 16 = .ok (.aload_n 0, 1) := by decide +kernel
theorem d14_17 : decode kb14 17 = .ok (.iload_n 2, 1) := by decide +kernel
theorem d14_18 : decode kb14 18 = .ok (.caload, 1) := by decide +kernel
theorem d14_19 : decode kb14 19 = .ok (.ldc 31, 2) := by decide +kernel
theorem d14_21 : decode kb14 21 = .ok (.isub, 1) := by decide +kernel
theorem d14_22 : decode kb14 22 = .ok (.bipush 10, 2) := by decide +kernel
theorem d14_24 : decode kb14 24 = .ok (.ishl, 1) := by decide +kernel
theorem d14_25 : decode kb14 25 = .ok (.aload_n 0, 1) := by decide +kernel
theorem d14_26 : decode kb14 26 = .ok (.iload_n 2, 1) := by decide +kernel
theorem d14_27 : decode kb14 27 = .ok (.iconst 1, 1) := by decide +kernel
theorem d14_28 : decode kb14 28 = .ok (.iadd, 1) := by decide +kernel
theorem d14_29 : decode kb14 29 = .ok (.caload, 1) := by decide +kernel
theorem d14_30 : decode kb14 30 = .ok (.ldc 32, 2) := by decide +kernel
theorem d14_32 : decode kb14 32 = .ok (.isub, 1) := by decide +kernel
theorem d14_33 : decode kb14 33 = .ok (.iadd, 1) := by decide +kernel
theorem d14_34 : decode kb14 34 = .ok (.ldc 52, 2) := by decide +kernel
theorem d14_36 : decode kb14 36 = .ok (.iadd, 1) := by decide +kernel
theorem d14_37 : decode kb14 37 = .ok (.ireturn, 1) := by decide +kernel
theorem d14_5 : decode kb14 5 = .ok (.iconst (-1), 1) := by decide +kernel
theorem d14_6 : decode kb14 6 = .ok (.ireturn, 1) := by decide +kernel
abbrev kb13 := method_11_code
theorem d13_92 : decode kb13 92 = .ok (.iload 4, 2) := by decide +kernel
theorem d13_94 : decode kb13 94 = .ok (.iload 9, 2) := by decide +kernel
theorem d13_96 : decode kb13 96 = .ok (.if_icmp .eq 11, 3) := by decide +kernel
theorem d13_107 : decode kb13 107 = .ok (.iload 6, 2) := by decide +kernel
theorem d13_109 : decode kb13 109 = .ok (.iload 11, 2) := by decide +kernel
theorem d13_111 : decode kb13 111 = .ok (.if_icmp .eq 11, 3) := by decide +kernel
theorem d13_122 : decode kb13 122 = .ok (.iload 8, 2) := by decide +kernel
theorem d13_124 : decode kb13 124 = .ok (.iload 13, 2) := by decide +kernel
theorem d13_126 : decode kb13 126 = .ok (.invokestatic 60, 3) := by decide +kernel
theorem d13_129 : decode kb13 129 = .ok (.ireturn, 1) := by decide +kernel
theorem d13_114 : decode kb13 114 = .ok (.iload 6, 2) := by decide +kernel
theorem d13_116 : decode kb13 116 = .ok (.iload 11, 2) := by decide +kernel
theorem d13_118 : decode kb13 118 = .ok (.invokestatic 60, 3) := by decide +kernel
theorem d13_121 : decode kb13 121 = .ok (.ireturn, 1) := by decide +kernel
theorem d13_99 : decode kb13 99 = .ok (.iload 4, 2) := by decide +kernel
theorem d13_101 : decode kb13 101 = .ok (.iload 9, 2) := by decide +kernel
theorem d13_103 : decode kb13 103 = .ok (.invokestatic 60, 3) := by decide +kernel
theorem d13_106 : decode kb13 106 = .ok (.ireturn, 1) := by decide +kernel
theorem d13_46 : decode kb13 46 = .ok (.aload_n 2, 1) := by decide +kernel
theorem d13_47 : decode kb13 47 = .ok (.iload_n 3, 1) := by decide +kernel
theorem d13_48 : decode kb13 48 = .ok (.iconst 0, 1) := by decide +kernel
theorem d13_49 : decode kb13 49 = .ok (.invokestatic 53, 3) := by decide +kernel
theorem pd_oACIIcI : parseMethodDescriptor "([CII)I" = some ⟨[(.array .char), .int, .int], some .int⟩ := by decide +kernel
theorem d13_52 : decode kb13 52 = .ok (.istore 9, 2) := by decide +kernel
theorem d13_54 : decode kb13 54 = .ok (.aload_n 2, 1) := by decide +kernel
theorem d13_55 : decode kb13 55 = .ok (.iload_n 3, 1) := by decide +kernel
theorem d13_56 : decode kb13 56 = .ok (.iconst 0, 1) := by decide +kernel
theorem d13_57 : decode kb13 57 = .ok (.invokestatic 57, 3) := by decide +kernel
theorem d13_60 : decode kb13 60 = .ok (.istore 10, 2) := by decide +kernel
theorem d13_62 : decode kb13 62 = .ok (.aload_n 2, 1) := by decide +kernel
theorem d13_63 : decode kb13 63 = .ok (.iload_n 3, 1) := by decide +kernel
theorem d13_64 : decode kb13 64 = .ok (.iload 10, 2) := by decide +kernel
theorem d13_66 : decode kb13 66 = .ok (.invokestatic 53, 3) := by decide +kernel
theorem d13_69 : decode kb13 69 = .ok (.istore 11, 2) := by decide +kernel
theorem d13_71 : decode kb13 71 = .ok (.iload 10, 2) := by decide +kernel
theorem d13_73 : decode kb13 73 = .ok (.aload_n 2, 1) := by decide +kernel
theorem d13_74 : decode kb13 74 = .ok (.iload_n 3, 1) := by decide +kernel
theorem d13_75 : decode kb13 75 = .ok (.iload 10, 2) := by decide +kernel
theorem d13_77 : decode kb13 77 = .ok (.invokestatic 57, 3) := by decide +kernel
theorem d13_80 : decode kb13 80 = .ok (.iadd, 1) := by decide +kernel
theorem d13_81 : decode kb13 81 = .ok (.istore 12, 2) := by decide +kernel
theorem d13_83 : decode kb13 83 = .ok (.aload_n 2, 1) := by decide +kernel
theorem d13_84 : decode kb13 84 = .ok (.iload_n 3, 1) := by decide +kernel
theorem d13_85 : decode kb13 85 = .ok (.iload 12, 2) := by decide +kernel
theorem d13_87 : decode kb13 87 = .ok (.invokestatic 53, 3) := by decide +kernel
theorem d13_90 : decode kb13 90 = .ok (.istore 13, 2) := by decide +kernel
theorem d13_0 : decode kb13 0 = .ok (.aload_n 0, 1) := by decide +kernel
theorem d13_1 : decode kb13 1 = .ok (.iload_n 1, 1) := by decide +kernel
theorem d13_2 : decode kb13 2 = .ok (.iconst 0, 1) := by decide +kernel
theorem d13_3 : decode kb13 3 = .ok (.invokestatic 53, 3) := by decide +kernel
theorem d13_6 : decode kb13 6 = .ok (.istore 4, 2) := by decide +kernel
theorem d13_8 : decode kb13 8 = .ok (.aload_n 0, 1) := by decide +kernel
theorem d13_9 : decode kb13 9 = .ok (.iload_n 1, 1) := by decide +kernel
theorem d13_10 : decode kb13 10 = .ok (.iconst 0, 1) := by decide +kernel
theorem d13_11 : decode kb13 11 = .ok (.invokestatic 57, 3) := by decide +kernel
theorem d13_14 : decode kb13 14 = .ok (.istore 5, 2) := by decide +kernel
theorem d13_16 : decode kb13 16 = .ok (.aload_n 0, 1) := by decide +kernel
theorem d13_17 : decode kb13 17 = .ok (.iload_n 1, 1) := by decide +kernel
theorem d13_18 : decode kb13 18 = .ok (.iload 5, 2) := by decide +kernel
theorem d13_20 : decode kb13 20 = .ok (.invokestatic 53, 3) := by decide +kernel
theorem d13_23 : decode kb13 23 = .ok (.istore 6, 2) := by decide +kernel
theorem d13_25 : decode kb13 25 = .ok (.iload 5, 2) := by decide +kernel
theorem d13_27 : decode kb13 27 = .ok (.aload_n 0, 1) := by decide +kernel
theorem d13_28 : decode kb13 28 = .ok (.iload_n 1, 1) := by decide +kernel
theorem d13_29 : decode kb13 29 = .ok (.iload 5, 2) := by decide +kernel
theorem d13_31 : decode kb13 31 = .ok (.invokestatic 57, 3) := by decide +kernel
theorem d13_34 : decode kb13 34 = .ok (.iadd, 1) := by decide +kernel
theorem d13_35 : decode kb13 35 = .ok (.istore 7, 2) := by decide +kernel
theorem d13_37 : decode kb13 37 = .ok (.aload_n 0, 1) := by decide +kernel
theorem d13_38 : decode kb13 38 = .ok (.iload_n 1, 1) := by decide +kernel
theorem d13_39 : decode kb13 39 = .ok (.iload 7, 2) := by decide +kernel
theorem d13_41 : decode kb13 41 = .ok (.invokestatic 53, 3) := by decide +kernel
theorem d13_44 : decode kb13 44 = .ok (.istore 8, 2) := by decide +kernel
abbrev kb2 := method_4_code
theorem d2_0 : decode kb2 0 = .ok (.iload_n 3, 1) := by decide +kernel
theorem d2_1 : decode kb2 1 = .ok (.ifCond .ne 14, 3) := by decide +kernel
theorem d2_4 : decode kb2 4 = .ok (.new 34, 3) := by decide +kernel
theorem d2_7 : decode kb2 7 = .ok (.dup, 1) := by decide +kernel
theorem d2_8 : decode kb2 8 = .ok (.iconst 0, 1) := by decide +kernel
theorem d2_9 : decode kb2 9 = .ok (.newarray .char, 2) := by decide +kernel
theorem d2_11 : decode kb2 11 = .ok (.invokespecial 36, 3) := by decide +kernel
theorem pd_oACcV : parseMethodDescriptor "([C)V" = some ⟨[(.array .char)], none⟩ := by decide +kernel
theorem d2_14 : decode kb2 14 = .ok (.areturn, 1) := by decide +kernel
theorem d2_15 : decode kb2 15 = .ok (.iload_n 3, 1) := by decide +kernel
theorem d2_16 : decode kb2 16 = .ok (.iconst 1, 1) := by decide +kernel
theorem d2_17 : decode kb2 17 = .ok (.if_icmp .ne 18, 3) := by decide +kernel
theorem d2_20 : decode kb2 20 = .ok (.new 34, 3) := by decide +kernel
theorem d2_23 : decode kb2 23 = .ok (.dup, 1) := by decide +kernel
theorem d2_24 : decode kb2 24 = .ok (.iconst 1, 1) := by decide +kernel
theorem d2_25 : decode kb2 25 = .ok (.newarray .char, 2) := by decide +kernel
theorem d2_27 : decode kb2 27 = .ok (.dup, 1) := by decide +kernel
theorem d2_28 : decode kb2 28 = .ok (.iconst 0, 1) := by decide +kernel
theorem d2_29 : decode kb2 29 = .ok (.iload_n 0, 1) := by decide +kernel
theorem d2_30 : decode kb2 30 = .ok (.castore, 1) := by decide +kernel
theorem d2_31 : decode kb2 31 = .ok (.invokespecial 36, 3) := by decide +kernel
theorem d2_34 : decode kb2 34 = .ok (.areturn, 1) := by decide +kernel
theorem d2_35 : decode kb2 35 = .ok (.iload_n 3, 1) := by decide +kernel
theorem d2_36 : decode kb2 36 = .ok (.iconst 2, 1) := by decide +kernel
theorem d2_37 : decode kb2 37 = .ok (.if_icmp .ne 22, 3) := by decide +kernel
theorem d2_40 : decode kb2 40 = .ok (.new 34, 3) := by decide +kernel
theorem d2_43 : decode kb2 43 = .ok (.dup, 1) := by decide +kernel
theorem d2_44 : decode kb2 44 = .ok (.iconst 2, 1) := by decide +kernel
theorem d2_45 : decode kb2 45 = .ok (.newarray .char, 2) := by decide +kernel
theorem d2_47 : decode kb2 47 = .ok (.dup, 1) := by decide +kernel
theorem d2_48 : decode kb2 48 = .ok (.iconst 0, 1) := by decide +kernel
theorem d2_49 : decode kb2 49 = .ok (.iload_n 0, 1) := by decide +kernel
theorem d2_50 : decode kb2 50 = .ok (.castore, 1) := by decide +kernel
theorem d2_51 : decode kb2 51 = .ok (.dup, 1) := by decide +kernel
theorem d2_52 : decode kb2 52 = .ok (.iconst 1, 1) := by decide +kernel
theorem d2_53 : decode kb2 53 = .ok (.iload_n 1, 1) := by decide +kernel
theorem d2_54 : decode kb2 54 = .ok (.castore, 1) := by decide +kernel
theorem d2_55 : decode kb2 55 = .ok (.invokespecial 36, 3) := by decide +kernel
theorem d2_58 : decode kb2 58 = .ok (.areturn, 1) := by decide +kernel
theorem d2_59 : decode kb2 59 = .ok (.new 34, 3) := by decide +kernel
theorem d2_62 : decode kb2 62 = .ok (.dup, 1) := by decide +kernel
theorem d2_63 : decode kb2 63 = .ok (.iconst 3, 1) := by decide +kernel
theorem d2_64 : decode kb2 64 = .ok (.newarray .char, 2) := by decide +kernel
theorem d2_66 : decode kb2 66 = .ok (.dup, 1) := by decide +kernel
theorem d2_67 : decode kb2 67 = .ok (.iconst 0, 1) := by decide +kernel
theorem d2_68 : decode kb2 68 = .ok (.iload_n 0, 1) := by decide +kernel
theorem d2_69 : decode kb2 69 = .ok (.castore, 1) := by decide +kernel
theorem d2_70 : decode kb2 70 = .ok (.dup, 1) := by decide +kernel
theorem d2_71 : decode kb2 71 = .ok (.iconst 1, 1) := by decide +kernel
theorem d2_72 : decode kb2 72 = .ok (.iload_n 1, 1) := by decide +kernel
theorem d2_73 : decode kb2 73 = .ok (.castore, 1) := by decide +kernel
theorem d2_74 : decode kb2 74 = .ok (.dup, 1) := by decide +kernel
theorem d2_75 : decode kb2 75 = .ok (.iconst 2, 1) := by decide +kernel
theorem d2_76 : decode kb2 76 = .ok (.iload_n 2, 1) := by decide +kernel
theorem d2_77 : decode kb2 77 = .ok (.castore, 1) := by decide +kernel
theorem d2_78 : decode kb2 78 = .ok (.invokespecial 36, 3) := by decide +kernel
theorem d2_81 : decode kb2 81 = .ok (.areturn, 1) := by decide +kernel
theorem pd_oIcC : parseMethodDescriptor "(I)C" = some ⟨[.int], some .char⟩ := by decide +kernel
theorem pd_oCCCIcLjava_lang_String_ : parseMethodDescriptor "(CCCI)Ljava/lang/String;" = some ⟨[.char, .char, .char, .int], some (.object "java/lang/String")⟩ := by decide +kernel
theorem pd_oLjava_lang_String_Ljava_lang_String_cI : parseMethodDescriptor "(Ljava/lang/String;Ljava/lang/String;)I" = some ⟨[(.object "java/lang/String"), (.object "java/lang/String")], some .int⟩ := by decide +kernel
theorem pd_oACIACIcI : parseMethodDescriptor "([CI[CI)I" = some ⟨[(.array .char), .int, (.array .char), .int], some .int⟩ := by decide +kernel
abbrev EL : List (String × Nat) := [("java/lang/String", 7)]
theorem strW {Z : State} {a0 : Array Value} (hw : ∀ d ∈ tables_1, d.before a0 Z = true) : ∀ a ∈ Bundle.stringAtoms, a.before a0 Z = true := fun d hd => hw d ((by decide +kernel : ∀ d ∈ Bundle.stringAtoms, d ∈ tables_1) d hd)
theorem elW {Z : State} {a0 : Array Value} (hw : ∀ d ∈ tables_1, d.before a0 Z = true) : EW Z a0 EL := (EW.cons (hw _ w_39) (by decide +kernel) EW.nil)
def ChI (r : Int32) : Prop := 0 ≤ r.toInt ∧ r.toInt ≤ 65535
abbrev lo8 (x : Int32) : Int32 := ((Int32.toInt8 (x >>> ((0 : Int32) &&& 31))).toInt32)
abbrev hi8 (x : Int32) : Int32 := ((Int32.toInt8 (x >>> ((8 : Int32) &&& 31))).toInt32)
theorem gch (x : Int32) (hx : ChI x) : ((Int32.toUInt32 (((lo8 x &&& (255 : Int32)) <<< ((0 : Int32) &&& 31)) ||| ((hi8 x &&& (255 : Int32)) <<< ((8 : Int32) &&& 31)))).toUInt16.toUInt32.toInt32) = x := by
  have := hx.1; have := hx.2
  have a1 := c_ishr x 0 0 (by decide)
  have a2 := c_i2b (x >>> ((0 : Int32) &&& 31))
  have a3 := c_mask (lo8 x) 255 8 (by decide) (by decide)
  have a4 := c_ishl (lo8 x &&& 255) 0 0 (by decide)
  have b1 := c_ishr x 8 8 (by decide)
  have b2 := c_i2b (x >>> ((8 : Int32) &&& 31))
  have b3 := c_mask (hi8 x) 255 8 (by decide) (by decide)
  have b4 := c_ishl (hi8 x &&& 255) 8 8 (by decide)
  have r1 := Int32.le_toInt (((lo8 x) &&& 255) <<< ((0 : Int32) &&& 31))
  have r2 := Int32.toInt_lt (((lo8 x) &&& 255) <<< ((0 : Int32) &&& 31))
  have r3 := Int32.le_toInt (((hi8 x) &&& 255) <<< ((8 : Int32) &&& 31))
  have r4 := Int32.toInt_lt (((hi8 x) &&& 255) <<< ((8 : Int32) &&& 31))
  have e1 : (lo8 x).toInt = ((x >>> ((0 : Int32) &&& 31)).toInt8.toInt32).toInt := rfl
  have e2 : (hi8 x).toInt = ((x >>> ((8 : Int32) &&& 31)).toInt8.toInt32).toInt := rfl
  have c1 := c_or' (((lo8 x) &&& 255) <<< ((0 : Int32) &&& 31)) (((hi8 x) &&& 255) <<< ((8 : Int32) &&& 31)) 8 (by decide) 256 (by decide) (by omega) (by omega) (by omega)
  have c2 := c_i2c ((((lo8 x) &&& 255) <<< ((0 : Int32) &&& 31)) ||| (((hi8 x) &&& 255) <<< ((8 : Int32) &&& 31)))
  apply Int32.toInt_inj.mp
  omega
theorem b8and (x : Int32) (hx : ChI x) (hp : ¬ (255 : Int32) < x) : (((Int32.toInt8 x).toInt32) &&& (255 : Int32)) = x := by
  have := hx.1; have := hx.2
  rw [Int32.lt_iff_toInt_lt] at hp
  have h255 : (255 : Int32).toInt = 255 := rfl
  rw [h255] at hp
  have a2 := c_i2b x
  have a3 := c_mask (Int32.toInt8 x).toInt32 255 8 (by decide) (by decide)
  apply Int32.toInt_inj.mp
  omega
theorem narC (x : Int32) (hx : ChI x) : nar .char x = x := by
  have := hx.1; have := hx.2
  have h : nar .char x = (Int32.toUInt32 x).toUInt16.toUInt32.toInt32 := rfl
  have := c_i2c x
  rw [h]; apply Int32.toInt_inj.mp; omega
theorem chC16 (x : Int32) : ChI ((Int32.toUInt32 x).toUInt16.toUInt32.toInt32) := by
  have := c_i2c x; constructor <;> omega
theorem chNar (x : Int32) : ChI (nar .char x) := chC16 x
theorem combG (x y a b c q K : Int32) (k1 : a.toInt = 55296) (k2 : b.toInt = 56320) (k3 : c.toInt = 65536) (k4 : K.toInt = -56613888) (hq : q.toBitVec.toNat % 32 = 10) : (((x - a) <<< (q &&& 31)) + (y - b)) + c = ((x <<< (q &&& 31)) + y) + K := by
  have a1 := c_ishl (x - a) q 10 hq
  have a' := c_isub x a
  have b1 := c_ishl x q 10 hq
  have c' := c_isub y b
  have d := c_iadd ((x - a) <<< (q &&& 31)) (y - b)
  have e := c_iadd (((x - a) <<< (q &&& 31)) + (y - b)) c
  have f := c_iadd (x <<< (q &&& 31)) y
  have g := c_iadd ((x <<< (q &&& 31)) + y) K
  apply Int32.toInt_inj.mp
  have r1 := Int32.le_toInt ((((x - a) <<< (q &&& 31)) + (y - b)) + c)
  have r2 := Int32.toInt_lt ((((x - a) <<< (q &&& 31)) + (y - b)) + c)
  have r3 := Int32.le_toInt (((x <<< (q &&& 31)) + y) + K)
  have r4 := Int32.toInt_lt (((x <<< (q &&& 31)) + y) + K)
  generalize ((((x - a) <<< (q &&& 31)) + (y - b)) + c).toInt = A at *
  generalize (((x <<< (q &&& 31)) + y) + K).toInt = B at *
  generalize (((x - a) <<< (q &&& 31)) + (y - b)).toInt = C at *
  generalize ((x <<< (q &&& 31)) + y).toInt = D at *
  generalize ((x - a) <<< (q &&& 31)).toInt = E at *
  generalize (x <<< (q &&& 31)).toInt = F at *
  generalize (x - a).toInt = G at *
  generalize (y - b).toInt = H at *
  omega
theorem k566 : (-56613888 : Int32).toInt = -56613888 := by
  have h := c_ineg 56613888
  have r1 := Int32.le_toInt (-56613888)
  have r2 := Int32.toInt_lt (-56613888)
  have e : (56613888 : Int32).toInt = 56613888 := rfl
  rw [e] at h
  generalize (-56613888 : Int32).toInt = A at *
  omega
theorem comb (x y : Int32) : (((x - (55296 : Int32)) <<< ((10 : Int32) &&& 31)) + (y - (56320 : Int32))) + (65536 : Int32) = ((x <<< ((10 : Int32) &&& 31)) + y) + (-56613888 : Int32) :=
  combG x y _ _ _ 10 _ rfl rfl rfl k566 (by decide)
theorem combBG (x y a b c q K u : Int32) (k1 : a.toInt = 55296) (k2 : b.toInt = 56320) (k3 : c.toInt = 65536) (k4 : K.toInt = -56613888) (k5 : u.toInt = 57344) (hq : q.toBitVec.toNat % 32 = 10) (hx : ¬ x < a) (hx' : x < b) (hy : ¬ y < b) (hy' : y < u) : ¬ (((x <<< (q &&& 31)) + y) + K) < c := by
  have b1 := c_ishl x q 10 hq
  have f := c_iadd (x <<< (q &&& 31)) y
  have g := c_iadd ((x <<< (q &&& 31)) + y) K
  rw [Int32.lt_iff_toInt_lt] at *
  have r1 := Int32.le_toInt (x <<< (q &&& 31))
  have r2 := Int32.toInt_lt (x <<< (q &&& 31))
  have r3 := Int32.le_toInt (((x <<< (q &&& 31)) + y) + K)
  have r4 := Int32.toInt_lt (((x <<< (q &&& 31)) + y) + K)
  generalize (((x <<< (q &&& 31)) + y) + K).toInt = B at *
  generalize ((x <<< (q &&& 31)) + y).toInt = D at *
  generalize (x <<< (q &&& 31)).toInt = F at *
  omega
theorem combB (x y : Int32) (hx : ¬ x < (55296 : Int32)) (hx' : x < (56320 : Int32)) (hy : ¬ y < (56320 : Int32)) (hy' : y < (57344 : Int32)) : ¬ (((x <<< ((10 : Int32) &&& 31)) + y) + (-56613888 : Int32)) < (65536 : Int32) :=
  combBG x y _ _ _ 10 _ _ rfl rfl rfl k566 rfl (by decide) hx hx' hy hy'

def Enc (co z : Int32) (bs : List Value) (n x1 x2 x3 : Int32) : Prop := (n = 0 ∧ co = 0 ∧ z = 0 ∧ bs = []) ∨ (n = 1 ∧ co = 0 ∧ z = 1 ∧ bs = [.int ((Int32.toInt8 x1).toInt32)] ∧ ¬ (255 : Int32) < x1) ∨ (n = 2 ∧ co = 0 ∧ z = 2 ∧ bs = [.int ((Int32.toInt8 x1).toInt32), .int ((Int32.toInt8 x2).toInt32)] ∧ ¬ (255 : Int32) < x1 ∧ ¬ (255 : Int32) < x2) ∨ (n = 3 ∧ co = 0 ∧ z = 3 ∧ bs = [.int ((Int32.toInt8 x1).toInt32), .int ((Int32.toInt8 x2).toInt32), .int ((Int32.toInt8 x3).toInt32)] ∧ ¬ (255 : Int32) < x1 ∧ ¬ (255 : Int32) < x2 ∧ ¬ (255 : Int32) < x3) ∨ (n = 1 ∧ co = 1 ∧ z = 2 ∧ bs = [.int (lo8 x1), .int (hi8 x1)]) ∨ (n = 2 ∧ co = 1 ∧ z = 4 ∧ bs = [.int (lo8 x1), .int (hi8 x1), .int (lo8 x2), .int (hi8 x2)]) ∨ (n = 3 ∧ co = 1 ∧ z = 6 ∧ bs = [.int (lo8 x1), .int (hi8 x1), .int (lo8 x2), .int (hi8 x2), .int (lo8 x3), .int (hi8 x3)])
/-- the String at a is of n chars (x1 x2 x3); it and its bytes lie below B -/
def TS (Z : State) (h : Heap) (a : Addr) (n x1 x2 x3 : Int32) (B : Nat) : Prop := B ≤ h.size ∧ a < B ∧ Exa Z h a "java/lang/String" ∧ ∃ co d kd z bs, d < B ∧ Fld Z h a "java/lang/String" "coder" "B" (.int co) ∧ Fld Z h a "java/lang/String" "value" "[B" (.ref d) ∧ Arv Z h d kd .byte z bs (.int (0 : Int32)) ∧ Enc co z bs n x1 x2 x3
section TSs
variable {Z : State} {h h' : Heap} {a b : Addr} {n x1 x2 x3 : Int32} {B sl : Nat} {v : Value} {ws : List Addr}
theorem TS.le (F : TS Z h a n x1 x2 x3 B) : B ≤ h.size := F.1
theorem TS.lt (F : TS Z h a n x1 x2 x3 B) : a < h.size := Nat.lt_of_lt_of_le F.2.1 F.1
theorem TS.exa (F : TS Z h a n x1 x2 x3 B) : Exa Z h a "java/lang/String" := F.2.2.1
theorem TS.ext (F : TS Z h a n x1 x2 x3 B) (E : Ext h h') : TS Z h' a n x1 x2 x3 B := by
  obtain ⟨h1, h2, h3, co, d, kd, z, bs, h5, h4, h6, h7, h8⟩ := F
  exact ⟨Nat.le_trans h1 E.1, h2, h3.ext E, co, d, kd, z, bs, h5, h4.ext E, h6.ext E, h7.ext E, h8⟩
theorem TS.keep (F : TS Z h a n x1 x2 x3 B) (K : Keep h h' ws) (q : ∀ x ∈ ws, B ≤ x) : TS Z h' a n x1 x2 x3 B := by
  obtain ⟨h1, h2, h3, co, d, kd, z, bs, h5, h4, h6, h7, h8⟩ := F
  have na : a ∉ ws := fun m => absurd h2 (Nat.not_lt.mpr (q _ m))
  have nd : d ∉ ws := fun m => absurd h5 (Nat.not_lt.mpr (q _ m))
  exact ⟨Nat.le_trans h1 K.1, h2, h3.keep K, co, d, kd, z, bs, h5, h4.keep K na, h6.keep K na, h7.keep K nd, h8⟩
end TSs
def hs (x : Int32) : Int32 := if x < 55296 then 0 else if x < 56320 then 1 else 0
def lsu (x : Int32) : Int32 := if x < 56320 then 0 else if x < 57344 then 1 else 0
def cp2 (x y : Int32) : Int32 := if hs x = 0 then x else if lsu y = 0 then x else (((x <<< ((10 : Int32) &&& 31)) + y) + (-56613888 : Int32))
def cpN (k n x y : Int32) : Int32 := if k < n then cp2 x y else x
theorem hs_l {x : Int32} (h : ¬ (255 : Int32) < x) : hs x = 0 := by
  have k1 : (255 : Int32).toInt = 255 := rfl
  have k2 : (55296 : Int32).toInt = 55296 := rfl
  have : x < 55296 := by rw [Int32.lt_iff_toInt_lt] at *; omega
  simp [hs, this]
theorem cpN_l {k n x y : Int32} (h : ¬ (255 : Int32) < x) : cpN k n x y = x := by unfold cpN cp2; simp [hs_l h]
theorem narB_hs (x : Int32) : nar .boolean (hs x) = hs x := by unfold hs; split <;> (try split) <;> rfl
theorem narB_ls (x : Int32) : nar .boolean (lsu x) = lsu x := by unfold lsu; split <;> (try split) <;> rfl
abbrev SAs (Z : State) : Prop := Sta Z Z.heap "java/lang/StringUTF16" "$assertionsDisabled" "Z" (.int (1 : Int32))
abbrev SHb (Z : State) : Prop := Sta Z Z.heap "java/lang/StringUTF16" "HI_BYTE_SHIFT" "I" (.int (0 : Int32))
abbrev SLb (Z : State) : Prop := Sta Z Z.heap "java/lang/StringUTF16" "LO_BYTE_SHIFT" "I" (.int (8 : Int32))
abbrev SFm (Z : State) (fm : Value) : Prop := Sta Z Z.heap "jdk/internal/util/Preconditions" "SIOOBE_FORMATTER" "Ljava/util/function/BiFunction;" fm
theorem rmGet1_0 (l : Launch) (Z : State) (a0 : Array Value) (hw : HW a0 Z) (n0 : Nat) (h0 : Heap) (O : Old Z n0 h0) (d : Addr) (kd : ClassId) (x1 : Int32) (hc : ChI x1) (VD : Arv Z h0 d kd .byte (2 : Int32) [(.int (lo8 x1)), (.int (hi8 x1))] (.int (0 : Int32))) (S_as : SAs Z) (S_hb : SHb Z) (S_lb : SLb Z) :
    ConW FrameEnd l Z [] (⟨"java/lang/StringUTF16", "getChar", "([BI)C"⟩ : MethodName) jdk_52_method_5_code 2 (some .char) ({ frames := 0, cells := 0, slots := 0, locals := 0 } : Room) #[(.ref d), (.int (0 : Int32))] h0 (Pure h0 (some (.int x1))) := by
  refine conOf (plainFor_of_name pn_java_lang_StringUTF16) ?_
  intro p e s m below mth cc s₁ X0 hx hby hml hown hnm hret hlk hZ e0
  have N0 := Fr.nil n0
  refine Fin.came (castTop (t := _) (by first | (simp [entryFrame, mkF, argsToLocals, Value.category]; done) | rfl) (Steps.refl _) : Steps p.tables e below (s₁.setTop (entryFrame m #[(.ref d), (.int (0 : Int32))] 2)) (s₁.setTop (mkF m 0 #[vr d, vi (0 : Int32)] []))) ?_
  obtain ⟨T11, X11, e11, st11⟩ := getS2 X0 hx hZ hown (host := "") (Or.inl (hw _ w_95)) Via.refl e0 (S_as.ext O.2) (g := (mkF m 0 #[vr d, vi (0 : Int32)] [])) rfl (hb hby d24_0)
  refine Fin.go st11 ?_
  show Fin _ _ _ _ _ _ _ _ T11 (mkF m 3 #[vr d, vi (0 : Int32)] [(.int (1 : Int32))])
  refine .go (fun _ k => XS.ifYes X11.here hx rfl (pc0 := 3) (pc' := 28) rfl (hb hby d24_3) rfl (XT.i0_ne_t (by decide)) (by decide) (by decide) k) ?_
  show Fin _ _ _ _ _ _ _ _ T11 (mkF m 28 #[vr d, vi (0 : Int32)] [])
  refine .go (fun _ k => XS.iloadN X11.here hx rfl (hb hby d24_28) rfl k) ?_
  refine .go (fun _ k => XS.iconst X11.here hx rfl (hb hby d24_29) k) ?_
  refine .go (fun _ k => XT.ishl X11.here hx rfl (hb hby d24_30) rfl k) ?_
  refine .go (fun _ k => XS.istoreN X11.here hx rfl (hb hby d24_31) rfl (l' := #[vr d, vi ((0 : Int32) <<< ((1 : Int32) &&& 31))]) rfl k) ?_
  show Fin _ _ _ _ _ _ _ _ T11 (mkF m 32 #[vr d, vi ((0 : Int32) <<< ((1 : Int32) &&& 31))] [])
  rw [show ((0 : Int32) <<< ((1 : Int32) &&& 31)) = (0 : Int32) from by decide]
  show Fin _ _ _ _ _ _ _ _ T11 (mkF m 32 #[vr d, vi (0 : Int32)] [])
  refine .go (fun _ k => XS.aloadN X11.here hx rfl (hb hby d24_32) rfl rfl k) ?_
  refine .go (fun _ k => XS.iloadN X11.here hx rfl (hb hby d24_33) rfl k) ?_
  refine .go (fun _ k => XS.iinc X11.here hx rfl (hb hby d24_34) rfl (l' := #[vr d, vi ((0 : Int32) + (1 : Int32))]) rfl k) ?_
  obtain ⟨cz12, B12, q12, S12, M12, H12, G12⟩ := id VD
  have i12 := inb_of S12 ⟨(by decide : ¬ ((0 : Int32) < (0 : Int32))), (by decide : (0 : Int32) < (2 : Int32))⟩
  refine Fin.go (fun _ k => X11.baloadBytes hx (j := (0 : Int32)) (v := (.int (lo8 x1))) (by rw [e11]; exact B12.1) (State.isArrayOf_alike hZ.alike B12.2.1) B12.2.2 i12 (Has.at H12 i12 rfl) (g := (mkF m 37 #[vr d, vi ((0 : Int32) + (1 : Int32))] [(.int (0 : Int32)), (.ref d)])) rfl rfl (hb hby d24_37) _ k) ?_
  show Fin _ _ _ _ _ _ _ _ T11 (mkF m 38 #[vr d, vi ((0 : Int32) + (1 : Int32))] [(.int (lo8 x1))])
  refine .go (fun _ k => XS.sipush X11.here hx rfl (hb hby d24_38) k) ?_
  refine .go (fun _ k => XS.iand X11.here hx rfl (hb hby d24_41) rfl k) ?_
  obtain ⟨T13, X13, e13, st13⟩ := getS2 X11 hx hZ hown (host := "") (Or.inl (hw _ w_96)) Via.refl e11 (S_hb.ext O.2) (g := (mkF m 42 #[vr d, vi ((0 : Int32) + (1 : Int32))] [(.int ((lo8 x1) &&& (255 : Int32)))])) rfl (hb hby d24_42)
  refine Fin.go st13 ?_
  show Fin _ _ _ _ _ _ _ _ T13 (mkF m 45 #[vr d, vi ((0 : Int32) + (1 : Int32))] [(.int (0 : Int32)), (.int ((lo8 x1) &&& (255 : Int32)))])
  refine .go (fun _ k => XT.ishl X13.here hx rfl (hb hby d24_45) rfl k) ?_
  refine .go (fun _ k => XS.aloadN X13.here hx rfl (hb hby d24_46) rfl rfl k) ?_
  refine .go (fun _ k => XS.iloadN X13.here hx rfl (hb hby d24_47) rfl k) ?_
  obtain ⟨cz14, B14, q14, S14, M14, H14, G14⟩ := id VD
  have i14 := inb_of S14 ⟨(by decide : ¬ (((0 : Int32) + (1 : Int32)) < (0 : Int32))), (by decide : ((0 : Int32) + (1 : Int32)) < (2 : Int32))⟩
  refine Fin.go (fun _ k => X13.baloadBytes hx (j := ((0 : Int32) + (1 : Int32))) (v := (.int (hi8 x1))) (by rw [e13]; exact B14.1) (State.isArrayOf_alike hZ.alike B14.2.1) B14.2.2 i14 (Has.at H14 i14 rfl) (g := (mkF m 48 #[vr d, vi ((0 : Int32) + (1 : Int32))] [(.int ((0 : Int32) + (1 : Int32))), (.ref d), (.int (((lo8 x1) &&& (255 : Int32)) <<< ((0 : Int32) &&& 31)))])) rfl rfl (hb hby d24_48) _ k) ?_
  show Fin _ _ _ _ _ _ _ _ T13 (mkF m 49 #[vr d, vi ((0 : Int32) + (1 : Int32))] [(.int (hi8 x1)), (.int (((lo8 x1) &&& (255 : Int32)) <<< ((0 : Int32) &&& 31)))])
  refine .go (fun _ k => XS.sipush X13.here hx rfl (hb hby d24_49) k) ?_
  refine .go (fun _ k => XS.iand X13.here hx rfl (hb hby d24_52) rfl k) ?_
  obtain ⟨T15, X15, e15, st15⟩ := getS2 X13 hx hZ hown (host := "") (Or.inl (hw _ w_97)) Via.refl e13 (S_lb.ext O.2) (g := (mkF m 53 #[vr d, vi ((0 : Int32) + (1 : Int32))] [(.int ((hi8 x1) &&& (255 : Int32))), (.int (((lo8 x1) &&& (255 : Int32)) <<< ((0 : Int32) &&& 31)))])) rfl (hb hby d24_53)
  refine Fin.go st15 ?_
  show Fin _ _ _ _ _ _ _ _ T15 (mkF m 56 #[vr d, vi ((0 : Int32) + (1 : Int32))] [(.int (8 : Int32)), (.int ((hi8 x1) &&& (255 : Int32))), (.int (((lo8 x1) &&& (255 : Int32)) <<< ((0 : Int32) &&& 31)))])
  refine .go (fun _ k => XT.ishl X15.here hx rfl (hb hby d24_56) rfl k) ?_
  refine .go (fun _ k => XT.ior X15.here hx rfl (hb hby d24_57) rfl k) ?_
  refine .go (fun _ k => XT.i2c X15.here hx rfl (hb hby d24_58) rfl k) ?_
  exact Fin.leaveN X15 e15 hlk (v := some (.int (nar .char ((Int32.toUInt32 ((((lo8 x1) &&& (255 : Int32)) <<< ((0 : Int32) &&& 31)) ||| (((hi8 x1) &&& (255 : Int32)) <<< ((8 : Int32) &&& 31)))).toUInt16.toUInt32.toInt32)))) (nvS hret) (by decide) (by decide) ⟨by rw [nar_c16, gch _ hc], rfl, rfl⟩ (fun fs hr => retN X15 hx (t := .char) hret (by simp) (hb hby d24_59) hr)
theorem rmPut1_0 (l : Launch) (Z : State) (a0 : Array Value) (hw : HW a0 Z) (n0 : Nat) (h0 : Heap) (O : Old Z n0 h0) (d : Addr) (kd : ClassId) (x y1 y2 : Int32) (VD : Arv Z h0 d kd .byte (2 : Int32) [(.int y1), (.int y2)] (.int (0 : Int32))) (nd : n0 ≤ d) (S_as : SAs Z) (S_hb : SHb Z) (S_lb : SLb Z) :
    ConW FrameEnd l Z [] (⟨"java/lang/StringUTF16", "putChar", "([BII)V"⟩ : MethodName) jdk_52_method_4_code 3 none ({ frames := 0, cells := 0, slots := 0, locals := 0 } : Room) #[(.ref d), (.int (0 : Int32)), (.int x)] h0 (fun v h L => v = none ∧ Fr n0 L ∧ Keep h0 h [d] ∧ Arv Z h d kd .byte (2 : Int32) [(.int (lo8 x)), (.int (hi8 x))] (.int (0 : Int32))) := by
  refine conOf (plainFor_of_name pn_java_lang_StringUTF16) ?_
  intro p e s m below mth cc s₁ X0 hx hby hml hown hnm hret hlk hZ e0
  have N0 := Fr.nil n0
  have K0 := Keep.refl h0 ([d] : List Addr)
  refine Fin.came (castTop (t := _) (by first | (simp [entryFrame, mkF, argsToLocals, Value.category]; done) | rfl) (Steps.refl _) : Steps p.tables e below (s₁.setTop (entryFrame m #[(.ref d), (.int (0 : Int32)), (.int x)] 3)) (s₁.setTop (mkF m 0 #[vr d, vi (0 : Int32), vi x] []))) ?_
  obtain ⟨T11, X11, e11, st11⟩ := getS2 X0 hx hZ hown (host := "") (Or.inl (hw _ w_95)) Via.refl e0 (S_as.ext O.2) (g := (mkF m 0 #[vr d, vi (0 : Int32), vi x] [])) rfl (hb hby d23_0)
  refine Fin.go st11 ?_
  show Fin _ _ _ _ _ _ _ _ T11 (mkF m 3 #[vr d, vi (0 : Int32), vi x] [(.int (1 : Int32))])
  refine .go (fun _ k => XS.ifYes X11.here hx rfl (pc0 := 3) (pc' := 28) rfl (hb hby d23_3) rfl (XT.i0_ne_t (by decide)) (by decide) (by decide) k) ?_
  show Fin _ _ _ _ _ _ _ _ T11 (mkF m 28 #[vr d, vi (0 : Int32), vi x] [])
  refine .go (fun _ k => XS.iloadN X11.here hx rfl (hb hby d23_28) rfl k) ?_
  refine .go (fun _ k => XS.iconst X11.here hx rfl (hb hby d23_29) k) ?_
  refine .go (fun _ k => XT.ishl X11.here hx rfl (hb hby d23_30) rfl k) ?_
  refine .go (fun _ k => XS.istoreN X11.here hx rfl (hb hby d23_31) rfl (l' := #[vr d, vi ((0 : Int32) <<< ((1 : Int32) &&& 31)), vi x]) rfl k) ?_
  show Fin _ _ _ _ _ _ _ _ T11 (mkF m 32 #[vr d, vi ((0 : Int32) <<< ((1 : Int32) &&& 31)), vi x] [])
  rw [show ((0 : Int32) <<< ((1 : Int32) &&& 31)) = (0 : Int32) from by decide]
  show Fin _ _ _ _ _ _ _ _ T11 (mkF m 32 #[vr d, vi (0 : Int32), vi x] [])
  refine .go (fun _ k => XS.aloadN X11.here hx rfl (hb hby d23_32) rfl rfl k) ?_
  refine .go (fun _ k => XS.iloadN X11.here hx rfl (hb hby d23_33) rfl k) ?_
  refine .go (fun _ k => XS.iinc X11.here hx rfl (hb hby d23_34) rfl (l' := #[vr d, vi ((0 : Int32) + (1 : Int32)), vi x]) rfl k) ?_
  refine .go (fun _ k => XS.iloadN X11.here hx rfl (hb hby d23_37) rfl k) ?_
  obtain ⟨T12, X12, e12, st12⟩ := getS2 X11 hx hZ hown (host := "") (Or.inl (hw _ w_96)) Via.refl e11 (S_hb.ext O.2) (g := (mkF m 38 #[vr d, vi ((0 : Int32) + (1 : Int32)), vi x] [(.int x), (.int (0 : Int32)), (.ref d)])) rfl (hb hby d23_38)
  refine Fin.go st12 ?_
  show Fin _ _ _ _ _ _ _ _ T12 (mkF m 41 #[vr d, vi ((0 : Int32) + (1 : Int32)), vi x] [(.int (0 : Int32)), (.int x), (.int (0 : Int32)), (.ref d)])
  refine .go (fun _ k => XT.ishr X12.here hx rfl (hb hby d23_41) rfl k) ?_
  refine .go (fun _ k => XT.i2b X12.here hx rfl (hb hby d23_42) rfl k) ?_
  obtain ⟨cz13, B13, q13, S13, M13, H13, G13⟩ := id VD
  obtain ⟨T13, h13, X13, e13, W13, st13⟩ := stB X12 hx hZ e12 B13 (j := (0 : Int32)) (inb_of S13 ⟨(by decide : ¬ ((0 : Int32) < (0 : Int32))), (by decide : (0 : Int32) < (2 : Int32))⟩) (g := (mkF m 43 #[vr d, vi ((0 : Int32) + (1 : Int32)), vi x] [(.int ((Int32.toInt8 (x >>> ((0 : Int32) &&& 31))).toInt32)), (.int (0 : Int32)), (.ref d)])) rfl rfl (hb hby d23_43)
  refine Fin.go st13 ?_
  have V13 : Arv Z h13 d kd .byte (2 : Int32) [(.int ((Int32.toInt8 (x >>> ((0 : Int32) &&& 31))).toInt32)), (.int y2)] (.int (0 : Int32)) := (by have q : Arv Z h13 d kd .byte (2 : Int32) [(.int (nar .byte ((Int32.toInt8 (x >>> ((0 : Int32) &&& 31))).toInt32))), (.int y2)] (.int (0 : Int32)) := (Arv.set B13 q13 S13 M13 H13 G13 (fits_nar_byte _) W13 0 rfl (Nat.le_of_ble_eq_true rfl)); rwa [nar_b8] at q)
  have N13 := Fr.snoc X13 N0 nd
  have O13 := O.wr W13 nd
  have K13 := K0.wr W13 (Or.inl (List.mem_of_getElem? (i := 0) rfl))
  show Fin _ _ _ _ _ _ _ _ T13 (mkF m 44 #[vr d, vi ((0 : Int32) + (1 : Int32)), vi x] [])
  refine .go (fun _ k => XS.aloadN X13.here hx rfl (hb hby d23_44) rfl rfl k) ?_
  refine .go (fun _ k => XS.iloadN X13.here hx rfl (hb hby d23_45) rfl k) ?_
  refine .go (fun _ k => XS.iloadN X13.here hx rfl (hb hby d23_46) rfl k) ?_
  obtain ⟨T14, X14, e14, st14⟩ := getS2 X13 hx hZ hown (host := "") (Or.inl (hw _ w_97)) Via.refl e13 (S_lb.ext O13.2) (g := (mkF m 47 #[vr d, vi ((0 : Int32) + (1 : Int32)), vi x] [(.int x), (.int ((0 : Int32) + (1 : Int32))), (.ref d)])) rfl (hb hby d23_47)
  refine Fin.go st14 ?_
  show Fin _ _ _ _ _ _ _ _ T14 (mkF m 50 #[vr d, vi ((0 : Int32) + (1 : Int32)), vi x] [(.int (8 : Int32)), (.int x), (.int ((0 : Int32) + (1 : Int32))), (.ref d)])
  refine .go (fun _ k => XT.ishr X14.here hx rfl (hb hby d23_50) rfl k) ?_
  refine .go (fun _ k => XT.i2b X14.here hx rfl (hb hby d23_51) rfl k) ?_
  obtain ⟨cz15, B15, q15, S15, M15, H15, G15⟩ := id V13
  obtain ⟨T15, h15, X15, e15, W15, st15⟩ := stB X14 hx hZ e14 B15 (j := ((0 : Int32) + (1 : Int32))) (inb_of S15 ⟨(by decide : ¬ (((0 : Int32) + (1 : Int32)) < (0 : Int32))), (by decide : ((0 : Int32) + (1 : Int32)) < (2 : Int32))⟩) (g := (mkF m 52 #[vr d, vi ((0 : Int32) + (1 : Int32)), vi x] [(.int ((Int32.toInt8 (x >>> ((8 : Int32) &&& 31))).toInt32)), (.int ((0 : Int32) + (1 : Int32))), (.ref d)])) rfl rfl (hb hby d23_52)
  refine Fin.go st15 ?_
  have V15 : Arv Z h15 d kd .byte (2 : Int32) [(.int ((Int32.toInt8 (x >>> ((0 : Int32) &&& 31))).toInt32)), (.int ((Int32.toInt8 (x >>> ((8 : Int32) &&& 31))).toInt32))] (.int (0 : Int32)) := (by have q : Arv Z h15 d kd .byte (2 : Int32) [(.int ((Int32.toInt8 (x >>> ((0 : Int32) &&& 31))).toInt32)), (.int (nar .byte ((Int32.toInt8 (x >>> ((8 : Int32) &&& 31))).toInt32)))] (.int (0 : Int32)) := (Arv.set B15 q15 S15 M15 H15 G15 (fits_nar_byte _) W15 1 rfl (Nat.le_of_ble_eq_true rfl)); rwa [nar_b8] at q)
  have N15 := Fr.snoc X15 N13 nd
  have O15 := O13.wr W15 nd
  have K15 := K13.wr W15 (Or.inl (List.mem_of_getElem? (i := 0) rfl))
  show Fin _ _ _ _ _ _ _ _ T15 (mkF m 53 #[vr d, vi ((0 : Int32) + (1 : Int32)), vi x] [])
  exact Fin.leaveN X15 e15 hlk (v := none) (fun _ => rfl) (by decide) (by decide) ⟨rfl, N15, K15, V15⟩ (fun fs hr => X15.returnOut hx hret (hb hby d23_53) hr)
theorem rmNBL1 (l : Launch) (Z : State) (a0 : Array Value) (hw : HW a0 Z) (n0 : Nat) (h0 : Heap) (O : Old Z n0 h0)  :
    ConW FrameEnd l Z [] (⟨"java/lang/StringUTF16", "newBytesLength", "(I)I"⟩ : MethodName) jdk_52_method_3_code 1 (some .int) ({ frames := 0, cells := 0, slots := 0, locals := 0 } : Room) #[(.int (1 : Int32))] h0 (Pure h0 (some (.int (2 : Int32)))) := by
  refine conOf (plainFor_of_name pn_java_lang_StringUTF16) ?_
  intro p e s m below mth cc s₁ X0 hx hby hml hown hnm hret hlk hZ e0
  have N0 := Fr.nil n0
  refine Fin.came (castTop (t := _) (by first | (simp [entryFrame, mkF, argsToLocals, Value.category]; done) | rfl) (Steps.refl _) : Steps p.tables e below (s₁.setTop (entryFrame m #[(.int (1 : Int32))] 1)) (s₁.setTop (mkF m 0 #[vi (1 : Int32)] []))) ?_
  refine .go (fun _ k => XS.iloadN X0.here hx rfl (hb hby d22_0) rfl k) ?_
  refine .go (fun _ k => XS.ifYes X0.here hx rfl (pc0 := 1) (pc' := 12) rfl (hb hby d22_1) rfl (XT.i0_ge_t (by decide)) (by decide) (by decide) k) ?_
  show Fin _ _ _ _ _ _ _ _ s₁ (mkF m 12 #[vi (1 : Int32)] [])
  refine .go (fun _ k => XS.iloadN X0.here hx rfl (hb hby d22_12) rfl k) ?_
  refine .go (fun _ k => X0.ldcI hx hown (mvT hZ (hw _ w_91)) rfl (hb hby d22_13) k) ?_
  refine .go (fun _ k => XS.icmpYes X0.here hx rfl (pc0 := 15) (pc' := 55) rfl (hb hby d22_15) rfl (XT.ii_lt_t (by decide)) (by decide) (by decide) k) ?_
  show Fin _ _ _ _ _ _ _ _ s₁ (mkF m 55 #[vi (1 : Int32)] [])
  refine .go (fun _ k => XS.iloadN X0.here hx rfl (hb hby d22_55) rfl k) ?_
  refine .go (fun _ k => XS.iconst X0.here hx rfl (hb hby d22_56) k) ?_
  refine .go (fun _ k => XT.ishl X0.here hx rfl (hb hby d22_57) rfl k) ?_
  exact Fin.leaveN X0 e0 hlk (v := some (.int ((1 : Int32) <<< ((1 : Int32) &&& 31)))) (nvS hret) (by decide) (by decide) ⟨by decide +kernel, rfl, rfl⟩ (fun fs hr => retI X0 hx hret (hb hby d22_58) hr)
theorem rmNBF1 (l : Launch) (Z : State) (a0 : Array Value) (hw : HW a0 Z) (n0 : Nat) (h0 : Heap) (O : Old Z n0 h0)  :
    ConW FrameEnd l Z [] (⟨"java/lang/StringUTF16", "newBytesFor", "(I)[B"⟩ : MethodName) jdk_52_method_2_code 1 (some (.array .byte)) ({ frames := 1, cells := 1, slots := 2, locals := 12 } : Room) #[(.int (1 : Int32))] h0 (fun v h L => ∃ d kd, v = some (.ref d) ∧ Fr n0 L ∧ Keep h0 h [] ∧ Arv Z h d kd .byte (2 : Int32) [(.int (0 : Int32)), (.int (0 : Int32))] (.int (0 : Int32)) ∧ h0.size ≤ d) := by
  refine conOf (plainFor_of_name pn_java_lang_StringUTF16) ?_
  intro p e s m below mth cc s₁ X0 hx hby hml hown hnm hret hlk hZ e0
  have N0 := Fr.nil n0
  have K0 := Keep.refl h0 ([] : List Addr)
  refine Fin.came (castTop (t := _) (by first | (simp [entryFrame, mkF, argsToLocals, Value.category]; done) | rfl) (Steps.refl _) : Steps p.tables e below (s₁.setTop (entryFrame m #[(.int (1 : Int32))] 1)) (s₁.setTop (mkF m 0 #[vi (1 : Int32)] []))) ?_
  refine .go (fun _ k => XS.iloadN X0.here hx rfl (hb hby d21_0) rfl k) ?_
  obtain ⟨v11, T11, L11, X11, q11, st11⟩ := callSt X0 hx hZ hown (hw _ w_88) (hw _ w_89) (hw _ w_26) (hw _ w_90) (by decide) (W := 0) (rmNBL1 l Z a0 hw n0 h0 O) e0 (by decide) (by decide) (by decide) (by decide) (g := (mkF m 1 #[vi (1 : Int32)] [(.int (1 : Int32))])) rfl (by rw [hml]; rfl) (argsL := [(.int (1 : Int32))]) (rest := []) (lenOf pd_oIcI rfl) rfl (wk rfl rfl) (hb hby d21_1)
  obtain ⟨rfl, e11, rfl⟩ := q11
  have N11 := Fr.app N0 (Fr.nil n0)
  refine Fin.go st11 ?_
  show Fin _ _ _ _ _ _ _ _ T11 (mkF m 4 #[vi (1 : Int32)] [(.int (2 : Int32))])
  obtain ⟨T12, h12, k12, X12, e12, E12, A12, st12⟩ := newP X11 hx hZ (aty := .byte) (hw _ w_28) e11 (g := (mkF m 4 #[vi (1 : Int32)] [(.int (2 : Int32))])) rfl (hb hby d21_4) rfl (by decide : ¬ ((2 : Int32) < (0 : Int32))) (cap := 2) (by decide) (by decide) (by decide) (by decide)
  obtain ⟨a12, g12⟩ : ∃ z, z = h0.size := ⟨_, rfl⟩
  rw [← g12] at A12 st12
  refine Fin.go st12 ?_
  have O12 := O.ext E12
  have K12 := K0.ext E12
  have n12 : n0 ≤ a12 := by have := O.2.1; have := O.1; omega
  have z12 : h0.size ≤ a12 := by have := K0.1; omega
  have V12 : Arv Z h12 a12 k12 .byte (2 : Int32) [(.int (0 : Int32)), (.int (0 : Int32))] (.int (0 : Int32)) := (Arv.new A12 (by decide)).pad (pad_rep [] (.int (0 : Int32)) 2)
  show Fin _ _ _ _ _ _ _ _ T12 (mkF m 6 #[vi (1 : Int32)] [(.ref a12)])
  exact Fin.leaveN X12 e12 hlk (v := some (.ref a12)) (nvS hret) (by decide) (by decide) ⟨a12, k12, rfl, N11, K12, V12, z12⟩ (fun fs hr => retOut X12 hx hret rfl (Or.inr (Or.inr (Or.inr (Or.inr ⟨rfl, rfl, rfl⟩)))) (hb hby d21_6) hr)
theorem rmTBs1 (l : Launch) (Z : State) (a0 : Array Value) (hw : HW a0 Z) (n0 : Nat) (h0 : Heap) (O : Old Z n0 h0) (b : Addr) (kb : ClassId) (x1 : Int32) (VB : Arv Z h0 b kb .char (1 : Int32) [(.int x1)] (.int (0 : Int32))) (S_as : SAs Z) (S_hb : SHb Z) (S_lb : SLb Z) :
    ConW FrameEnd l Z [] (⟨"java/lang/StringUTF16", "toBytes", "([CII)[B"⟩ : MethodName) jdk_52_method_14_code 5 (some (.array .byte)) ({ frames := 2, cells := 1, slots := 2, locals := 24 } : Room) #[(.ref b), (.int (0 : Int32)), (.int (1 : Int32))] h0 (fun v h L => ∃ d kd, v = some (.ref d) ∧ Fr n0 L ∧ Keep h0 h [] ∧ Arv Z h d kd .byte (2 : Int32) [(.int (lo8 x1)), (.int (hi8 x1))] (.int (0 : Int32)) ∧ h0.size ≤ d) := by
  refine conOf (plainFor_of_name pn_java_lang_StringUTF16) ?_
  intro p e s m below mth cc s₁ X0 hx hby hml hown hnm hret hlk hZ e0
  have N0 := Fr.nil n0
  have K0 := Keep.refl h0 ([] : List Addr)
  refine Fin.came (castTop (t := _) (by first | (simp [entryFrame, mkF, argsToLocals, Value.category]; done) | rfl) (Steps.refl _) : Steps p.tables e below (s₁.setTop (entryFrame m #[(.ref b), (.int (0 : Int32)), (.int (1 : Int32))] 5)) (s₁.setTop (mkF m 0 #[vr b, vi (0 : Int32), vi (1 : Int32), .unset, .unset] []))) ?_
  refine .go (fun _ k => XS.iloadN X0.here hx rfl (hb hby d20_0) rfl k) ?_
  obtain ⟨v11, T11, L11, X11, q11, st11⟩ := callSt X0 hx hZ hown (hw _ w_85) (hw _ w_86) (hw _ w_26) (hw _ w_87) (by decide) (W := 0) (rmNBF1 l Z a0 hw n0 h0 O) e0 (by decide) (by decide) (by decide) (by decide) (g := (mkF m 1 #[vr b, vi (0 : Int32), vi (1 : Int32), .unset, .unset] [(.int (1 : Int32))])) rfl (by rw [hml]; rfl) (argsL := [(.int (1 : Int32))]) (rest := []) (lenOf pd_oIcAB rfl) rfl (wk rfl rfl) (hb hby d20_1)
  obtain ⟨d11, kd11, rfl, Nq11, Kq11, V11, zd11⟩ := q11
  have N11 := Fr.app N0 Nq11
  have O11 := O.keep Kq11 all0
  have K11 := K0.trans Kq11 all0
  refine Fin.go st11 ?_
  show Fin _ _ _ _ _ _ _ _ T11 (mkF m 4 #[vr b, vi (0 : Int32), vi (1 : Int32), .unset, .unset] [(.ref d11)])
  have nzd11 : n0 ≤ d11 := Nat.le_trans (by have := O.1; have := O.2.1; omega) zd11
  have hzd11 : h0.size ≤ d11 := Nat.le_trans K0.1 zd11
  refine .go (fun _ k => XS.astoreN X11.here hx rfl (hb hby d20_4) rfl rfl (l' := #[vr b, vi (0 : Int32), vi (1 : Int32), vr d11, .unset]) rfl k) ?_
  refine .go (fun _ k => XS.iconst X11.here hx rfl (hb hby d20_5) k) ?_
  refine .go (fun _ k => XS.istore X11.here hx rfl (hb hby d20_6) rfl (l' := #[vr b, vi (0 : Int32), vi (1 : Int32), vr d11, vi (0 : Int32)]) rfl k) ?_
  show Fin _ _ _ _ _ _ _ _ T11 (mkF m 8 #[vr b, vi (0 : Int32), vi (1 : Int32), vr d11, vi (0 : Int32)] [])
  refine .go (fun _ k => XS.iload X11.here hx rfl (hb hby d20_8) rfl k) ?_
  refine .go (fun _ k => XS.iloadN X11.here hx rfl (hb hby d20_10) rfl k) ?_
  refine .go (fun _ k => XS.icmpNo X11.here hx rfl (hb hby d20_11) rfl (XT.ii_ge_f (by decide)) k) ?_
  show Fin _ _ _ _ _ _ _ _ T11 (mkF m 14 #[vr b, vi (0 : Int32), vi (1 : Int32), vr d11, vi (0 : Int32)] [])
  refine .go (fun _ k => XS.aloadN X11.here hx rfl (hb hby d20_14) rfl rfl k) ?_
  refine .go (fun _ k => XS.iload X11.here hx rfl (hb hby d20_15) rfl k) ?_
  refine .go (fun _ k => XS.aloadN X11.here hx rfl (hb hby d20_17) rfl rfl k) ?_
  refine .go (fun _ k => XS.iloadN X11.here hx rfl (hb hby d20_18) rfl k) ?_
  obtain ⟨cz12, B12, q12, S12, M12, H12, G12⟩ := id (VB.keep Kq11 nin0)
  have i12 := inb_of S12 ⟨(by decide : ¬ ((0 : Int32) < (0 : Int32))), (by decide : (0 : Int32) < (1 : Int32))⟩
  refine Fin.go (fun _ k => X11.caload hx (j := (0 : Int32)) (v := (.int x1)) (by rw [(rfl : T11.heap = T11.heap)]; exact B12.1) (State.isArrayOf_alike hZ.alike B12.2.1) B12.2.2 i12 (Has.at H12 i12 rfl) (g := (mkF m 19 #[vr b, vi (0 : Int32), vi (1 : Int32), vr d11, vi (0 : Int32)] [(.int (0 : Int32)), (.ref b), (.int (0 : Int32)), (.ref d11)])) rfl rfl (hb hby d20_19) _ k) ?_
  show Fin _ _ _ _ _ _ _ _ T11 (mkF m 20 #[vr b, vi (0 : Int32), vi (1 : Int32), vr d11, vi (0 : Int32)] [(.int x1), (.int (0 : Int32)), (.ref d11)])
  obtain ⟨v13, T13, L13, X13, q13, st13⟩ := callSt X11 hx hZ hown (hw _ w_92) (hw _ w_93) (hw _ w_26) (hw _ w_94) (by decide) (W := 0) (rmPut1_0 l Z a0 hw n0 T11.heap O11 d11 kd11 x1 (0 : Int32) (0 : Int32) V11 nzd11 S_as S_hb S_lb) (rfl : T11.heap = T11.heap) (by decide) (by decide) (by decide) (by decide) (g := (mkF m 20 #[vr b, vi (0 : Int32), vi (1 : Int32), vr d11, vi (0 : Int32)] [(.int x1), (.int (0 : Int32)), (.ref d11)])) rfl (by rw [hml]; rfl) (argsL := [(.ref d11), (.int (0 : Int32)), (.int x1)]) (rest := []) (lenOf pd_oABIIcV rfl) rfl (wk rfl rfl) (hb hby d20_20)
  obtain ⟨rfl, Nq13, Kq13, V13⟩ := q13
  have N13 := Fr.app N11 Nq13
  have O13 := O11.keep Kq13 (allS nzd11 all0)
  have K13 := K11.trans Kq13 (allS (Or.inr hzd11) all0)
  refine Fin.go st13 ?_
  have V13_b := ((VB.keep Kq11 nin0).keep Kq13 (ninS (Nat.ne_of_lt (Nat.lt_of_lt_of_le VB.lt zd11)) nin0))
  show Fin _ _ _ _ _ _ _ _ T13 (mkF m 23 #[vr b, vi (0 : Int32), vi (1 : Int32), vr d11, vi (0 : Int32)] [])
  refine .go (fun _ k => XS.iinc X13.here hx rfl (hb hby d20_23) rfl (l' := #[vr b, vi ((0 : Int32) + (1 : Int32)), vi (1 : Int32), vr d11, vi (0 : Int32)]) rfl k) ?_
  refine .go (fun _ k => XS.iinc X13.here hx rfl (hb hby d20_26) rfl (l' := #[vr b, vi ((0 : Int32) + (1 : Int32)), vi (1 : Int32), vr d11, vi ((0 : Int32) + (1 : Int32))]) rfl k) ?_
  refine .go (fun _ k => XS.goto X13.here hx rfl (pc0 := 29) (pc' := 8) rfl (hb hby d20_29) (by decide) (by decide) k) ?_
  show Fin _ _ _ _ _ _ _ _ T13 (mkF m 8 #[vr b, vi ((0 : Int32) + (1 : Int32)), vi (1 : Int32), vr d11, vi ((0 : Int32) + (1 : Int32))] [])
  rw [show ((0 : Int32) + (1 : Int32)) = (1 : Int32) from by decide]
  show Fin _ _ _ _ _ _ _ _ T13 (mkF m 8 #[vr b, vi ((0 : Int32) + (1 : Int32)), vi (1 : Int32), vr d11, vi (1 : Int32)] [])
  rw [show ((0 : Int32) + (1 : Int32)) = (1 : Int32) from by decide]
  show Fin _ _ _ _ _ _ _ _ T13 (mkF m 8 #[vr b, vi (1 : Int32), vi (1 : Int32), vr d11, vi (1 : Int32)] [])
  refine .go (fun _ k => XS.iload X13.here hx rfl (hb hby d20_8) rfl k) ?_
  refine .go (fun _ k => XS.iloadN X13.here hx rfl (hb hby d20_10) rfl k) ?_
  refine .go (fun _ k => XS.icmpYes X13.here hx rfl (pc0 := 11) (pc' := 32) rfl (hb hby d20_11) rfl (XT.ii_ge_t (by decide)) (by decide) (by decide) k) ?_
  show Fin _ _ _ _ _ _ _ _ T13 (mkF m 32 #[vr b, vi (1 : Int32), vi (1 : Int32), vr d11, vi (1 : Int32)] [])
  refine .go (fun _ k => XS.aloadN X13.here hx rfl (hb hby d20_32) rfl rfl k) ?_
  exact Fin.leaveN X13 (rfl : T13.heap = T13.heap) hlk (v := some (.ref d11)) (nvS hret) (by decide) (by decide) ⟨d11, kd11, rfl, N13, K13, V13, hzd11⟩ (fun fs hr => retOut X13 hx hret rfl (Or.inr (Or.inr (Or.inr (Or.inr ⟨rfl, rfl, rfl⟩)))) (hb hby d20_33) hr)
theorem rmCBu1_0 (l : Launch) (Z : State) (a0 : Array Value) (hw : HW a0 Z) (n0 : Nat) (h0 : Heap) (O : Old Z n0 h0) (b d : Addr) (kb kd : ClassId) (x1 : Int32) (VB : Arv Z h0 b kb .char (1 : Int32) [(.int x1)] (.int (0 : Int32))) (VD : Arv Z h0 d kd .byte (1 : Int32) [(.int (0 : Int32))] (.int (0 : Int32)))  (hq : (255 : Int32) < x1) (nd : n0 ≤ d) (nbd : b ≠ d) :
    ConW FrameEnd l Z [] (⟨"java/lang/StringUTF16", "compress", "([CI[BII)I"⟩ : MethodName) jdk_52_method_21_code 7 (some .int) ({ frames := 0, cells := 0, slots := 0, locals := 0 } : Room) #[(.ref b), (.int (0 : Int32)), (.ref d), (.int (0 : Int32)), (.int (1 : Int32))] h0 (fun v h L => v = some (.int (0 : Int32)) ∧ Fr n0 L ∧ Keep h0 h [d]) := by
  refine conOf (plainFor_of_name pn_java_lang_StringUTF16) ?_
  intro p e s m below mth cc s₁ X0 hx hby hml hown hnm hret hlk hZ e0
  have N0 := Fr.nil n0
  have K0 := Keep.refl h0 ([d] : List Addr)
  refine Fin.came (castTop (t := _) (by first | (simp [entryFrame, mkF, argsToLocals, Value.category]; done) | rfl) (Steps.refl _) : Steps p.tables e below (s₁.setTop (entryFrame m #[(.ref b), (.int (0 : Int32)), (.ref d), (.int (0 : Int32)), (.int (1 : Int32))] 7)) (s₁.setTop (mkF m 0 #[vr b, vi (0 : Int32), vr d, vi (0 : Int32), vi (1 : Int32), .unset, .unset] []))) ?_
  refine .go (fun _ k => XS.iconst X0.here hx rfl (hb hby d7_0) k) ?_
  refine .go (fun _ k => XS.istore X0.here hx rfl (hb hby d7_1) rfl (l' := #[vr b, vi (0 : Int32), vr d, vi (0 : Int32), vi (1 : Int32), vi (0 : Int32), .unset]) rfl k) ?_
  refine .go (fun _ k => XS.iload X0.here hx rfl (hb hby d7_3) rfl k) ?_
  refine .go (fun _ k => XS.iload X0.here hx rfl (hb hby d7_5) rfl k) ?_
  refine .go (fun _ k => XS.icmpNo X0.here hx rfl (hb hby d7_7) rfl (XT.ii_ge_f (by decide)) k) ?_
  show Fin _ _ _ _ _ _ _ _ s₁ (mkF m 10 #[vr b, vi (0 : Int32), vr d, vi (0 : Int32), vi (1 : Int32), vi (0 : Int32), .unset] [])
  refine .go (fun _ k => XS.aloadN X0.here hx rfl (hb hby d7_10) rfl rfl k) ?_
  refine .go (fun _ k => XS.iloadN X0.here hx rfl (hb hby d7_11) rfl k) ?_
  obtain ⟨cz11, B11, q11, S11, M11, H11, G11⟩ := id VB
  have i11 := inb_of S11 ⟨(by decide : ¬ ((0 : Int32) < (0 : Int32))), (by decide : (0 : Int32) < (1 : Int32))⟩
  refine Fin.go (fun _ k => X0.caload hx (j := (0 : Int32)) (v := (.int x1)) (by rw [e0]; exact B11.1) (State.isArrayOf_alike hZ.alike B11.2.1) B11.2.2 i11 (Has.at H11 i11 rfl) (g := (mkF m 12 #[vr b, vi (0 : Int32), vr d, vi (0 : Int32), vi (1 : Int32), vi (0 : Int32), .unset] [(.int (0 : Int32)), (.ref b)])) rfl rfl (hb hby d7_12) _ k) ?_
  show Fin _ _ _ _ _ _ _ _ s₁ (mkF m 13 #[vr b, vi (0 : Int32), vr d, vi (0 : Int32), vi (1 : Int32), vi (0 : Int32), .unset] [(.int x1)])
  refine .go (fun _ k => XS.istore X0.here hx rfl (hb hby d7_13) rfl (l' := #[vr b, vi (0 : Int32), vr d, vi (0 : Int32), vi (1 : Int32), vi (0 : Int32), vi x1]) rfl k) ?_
  refine .go (fun _ k => XS.iload X0.here hx rfl (hb hby d7_15) rfl k) ?_
  refine .go (fun _ k => XS.sipush X0.here hx rfl (hb hby d7_17) k) ?_
  refine .go (fun _ k => XS.icmpNo X0.here hx rfl (hb hby d7_20) rfl (XT.ii_le_f hq) k) ?_
  show Fin _ _ _ _ _ _ _ _ s₁ (mkF m 23 #[vr b, vi (0 : Int32), vr d, vi (0 : Int32), vi (1 : Int32), vi (0 : Int32), vi x1] [])
  refine .go (fun _ k => XS.iload X0.here hx rfl (hb hby d7_23) rfl k) ?_
  exact Fin.leaveN X0 e0 hlk (v := some (.int (0 : Int32))) (nvS hret) (by decide) (by decide) ⟨by decide +kernel, N0, K0⟩ (fun fs hr => retI X0 hx hret (hb hby d7_25) hr)
theorem rmCAu1_0 (l : Launch) (Z : State) (a0 : Array Value) (hw : HW a0 Z) (n0 : Nat) (h0 : Heap) (O : Old Z n0 h0) (b : Addr) (kb : ClassId) (x1 : Int32) (VB : Arv Z h0 b kb .char (1 : Int32) [(.int x1)] (.int (0 : Int32))) (hc1 : ChI x1)  (hq : (255 : Int32) < x1) (S_as : SAs Z) (S_hb : SHb Z) (S_lb : SLb Z) :
    ConW FrameEnd l Z [] (⟨"java/lang/StringUTF16", "compress", "([CII)[B"⟩ : MethodName) jdk_52_method_16_code 6 (some (.array .byte)) ({ frames := 3, cells := 2, slots := 3, locals := 40 } : Room) #[(.ref b), (.int (0 : Int32)), (.int (1 : Int32))] h0 (fun v h L => ∃ d kd, v = some (.ref d) ∧ Fr n0 L ∧ Keep h0 h [] ∧ Arv Z h d kd .byte (2 : Int32) [(.int (lo8 x1)), (.int (hi8 x1))] (.int (0 : Int32)) ∧ h0.size ≤ d) := by
  refine conOf (plainFor_of_name pn_java_lang_StringUTF16) ?_
  intro p e s m below mth cc s₁ X0 hx hby hml hown hnm hret hlk hZ e0
  have N0 := Fr.nil n0
  have K0 := Keep.refl h0 ([] : List Addr)
  refine Fin.came (castTop (t := _) (by first | (simp [entryFrame, mkF, argsToLocals, Value.category]; done) | rfl) (Steps.refl _) : Steps p.tables e below (s₁.setTop (entryFrame m #[(.ref b), (.int (0 : Int32)), (.int (1 : Int32))] 6)) (s₁.setTop (mkF m 0 #[vr b, vi (0 : Int32), vi (1 : Int32), .unset, .unset, .unset] []))) ?_
  refine .go (fun _ k => XS.iloadN X0.here hx rfl (hb hby d6_0) rfl k) ?_
  obtain ⟨T11, h11, k11, X11, e11, E11, A11, st11⟩ := newP X0 hx hZ (aty := .byte) (hw _ w_28) e0 (g := (mkF m 1 #[vr b, vi (0 : Int32), vi (1 : Int32), .unset, .unset, .unset] [(.int (1 : Int32))])) rfl (hb hby d6_1) rfl (by decide : ¬ ((1 : Int32) < (0 : Int32))) (cap := 1) (by decide) (by decide) (by decide) (by decide)
  obtain ⟨a11, g11⟩ : ∃ z, z = h0.size := ⟨_, rfl⟩
  rw [← g11] at A11 st11
  refine Fin.go st11 ?_
  have O11 := O.ext E11
  have K11 := K0.ext E11
  have n11 : n0 ≤ a11 := by have := O.2.1; have := O.1; omega
  have z11 : h0.size ≤ a11 := by have := K0.1; omega
  have V11 : Arv Z h11 a11 k11 .byte (1 : Int32) [(.int (0 : Int32))] (.int (0 : Int32)) := (Arv.new A11 (by decide)).pad (pad_rep [] (.int (0 : Int32)) 1)
  show Fin _ _ _ _ _ _ _ _ T11 (mkF m 3 #[vr b, vi (0 : Int32), vi (1 : Int32), .unset, .unset, .unset] [(.ref a11)])
  refine .go (fun _ k => XS.astoreN X11.here hx rfl (hb hby d6_3) rfl rfl (l' := #[vr b, vi (0 : Int32), vi (1 : Int32), vr a11, .unset, .unset]) rfl k) ?_
  refine .go (fun _ k => XS.aloadN X11.here hx rfl (hb hby d6_4) rfl rfl k) ?_
  refine .go (fun _ k => XS.iloadN X11.here hx rfl (hb hby d6_5) rfl k) ?_
  refine .go (fun _ k => XS.aloadN X11.here hx rfl (hb hby d6_6) rfl rfl k) ?_
  refine .go (fun _ k => XS.iconst X11.here hx rfl (hb hby d6_7) k) ?_
  refine .go (fun _ k => XS.iloadN X11.here hx rfl (hb hby d6_8) rfl k) ?_
  obtain ⟨v12, T12, L12, X12, q12, st12⟩ := callSt X11 hx hZ hown (hw _ w_29) (hw _ w_30) (hw _ w_26) (hw _ w_31) (by decide) (W := 0) (rmCBu1_0 l Z a0 hw n0 h11 O11 b a11 kb k11 x1 (VB.ext E11) V11  hq n11 (Nat.ne_of_lt (Nat.lt_of_lt_of_eq VB.lt g11.symm))) e11 (by decide) (by decide) (by decide) (by decide) (g := (mkF m 9 #[vr b, vi (0 : Int32), vi (1 : Int32), vr a11, .unset, .unset] [(.int (1 : Int32)), (.int (0 : Int32)), (.ref a11), (.int (0 : Int32)), (.ref b)])) rfl (by rw [hml]; rfl) (argsL := [(.ref b), (.int (0 : Int32)), (.ref a11), (.int (0 : Int32)), (.int (1 : Int32))]) (rest := []) (lenOf pd_oACIABIIcI rfl) rfl (wk rfl rfl) (hb hby d6_9)
  obtain ⟨rfl, Nq12, Kq12⟩ := q12
  have N12 := Fr.app N0 Nq12
  have O12 := O11.keep Kq12 (allS n11 all0)
  have K12 := K11.trans Kq12 (allS (Or.inr z11) all0)
  refine Fin.go st12 ?_
  have V12_b := ((VB.ext E11).keep Kq12 (ninS (Nat.ne_of_lt (Nat.lt_of_lt_of_eq VB.lt g11.symm)) nin0))
  show Fin _ _ _ _ _ _ _ _ T12 (mkF m 12 #[vr b, vi (0 : Int32), vi (1 : Int32), vr a11, .unset, .unset] [(.int (0 : Int32))])
  refine .go (fun _ k => XS.istore X12.here hx rfl (hb hby d6_12) rfl (l' := #[vr b, vi (0 : Int32), vi (1 : Int32), vr a11, vi (0 : Int32), .unset]) rfl k) ?_
  refine .go (fun _ k => XS.iload X12.here hx rfl (hb hby d6_14) rfl k) ?_
  refine .go (fun _ k => XS.iloadN X12.here hx rfl (hb hby d6_16) rfl k) ?_
  refine .go (fun _ k => XS.icmpNo X12.here hx rfl (hb hby d6_17) rfl (XT.ii_eq_f (by decide)) k) ?_
  show Fin _ _ _ _ _ _ _ _ T12 (mkF m 20 #[vr b, vi (0 : Int32), vi (1 : Int32), vr a11, vi (0 : Int32), .unset] [])
  refine .go (fun _ k => XS.aloadN X12.here hx rfl (hb hby d6_20) rfl rfl k) ?_
  refine .go (fun _ k => XS.iloadN X12.here hx rfl (hb hby d6_21) rfl k) ?_
  refine .go (fun _ k => XS.iloadN X12.here hx rfl (hb hby d6_22) rfl k) ?_
  obtain ⟨v13, T13, L13, X13, q13, st13⟩ := callSt X12 hx hZ hown (hw _ w_82) (hw _ w_83) (hw _ w_26) (hw _ w_84) (by decide) (W := 0) (rmTBs1 l Z a0 hw n0 T12.heap O12 b kb x1 V12_b S_as S_hb S_lb) (rfl : T12.heap = T12.heap) (by decide) (by decide) (by decide) (by decide) (g := (mkF m 23 #[vr b, vi (0 : Int32), vi (1 : Int32), vr a11, vi (0 : Int32), .unset] [(.int (1 : Int32)), (.int (0 : Int32)), (.ref b)])) rfl (by rw [hml]; rfl) (argsL := [(.ref b), (.int (0 : Int32)), (.int (1 : Int32))]) (rest := []) (lenOf pd_oACIIcAB rfl) rfl (wk rfl rfl) (hb hby d6_23)
  obtain ⟨d13, kd13, rfl, Nq13, Kq13, V13, zd13⟩ := q13
  have N13 := Fr.app N12 Nq13
  have O13 := O12.keep Kq13 all0
  have K13 := K12.trans Kq13 all0
  refine Fin.go st13 ?_
  show Fin _ _ _ _ _ _ _ _ T13 (mkF m 26 #[vr b, vi (0 : Int32), vi (1 : Int32), vr a11, vi (0 : Int32), .unset] [(.ref d13)])
  have nzd13 : n0 ≤ d13 := Nat.le_trans (by have := O12.1; have := O12.2.1; omega) zd13
  have hzd13 : h0.size ≤ d13 := Nat.le_trans K12.1 zd13
  refine .go (fun _ k => XS.astore X13.here hx rfl (hb hby d6_26) rfl rfl (l' := #[vr b, vi (0 : Int32), vi (1 : Int32), vr a11, vi (0 : Int32), vr d13]) rfl k) ?_
  refine .go (fun _ k => XS.aload X13.here hx rfl (hb hby d6_28) rfl rfl k) ?_
  refine .go (fun _ k => XS.iload X13.here hx rfl (hb hby d6_30) rfl k) ?_
  obtain ⟨v14, T14, L14, X14, q14, st14⟩ := callSt X13 hx hZ hown (hw _ w_98) (hw _ w_99) (hw _ w_26) (hw _ w_100) (by decide) (W := 0) (rmGet1_0 l Z a0 hw n0 T13.heap O13 d13 kd13 x1 hc1 V13 S_as S_hb S_lb) (rfl : T13.heap = T13.heap) (by decide) (by decide) (by decide) (by decide) (g := (mkF m 32 #[vr b, vi (0 : Int32), vi (1 : Int32), vr a11, vi (0 : Int32), vr d13] [(.int (0 : Int32)), (.ref d13)])) rfl (by rw [hml]; rfl) (argsL := [(.ref d13), (.int (0 : Int32))]) (rest := []) (lenOf pd_oABIcC rfl) rfl (wk rfl rfl) (hb hby d6_32)
  obtain ⟨rfl, e14, rfl⟩ := q14
  have N14 := Fr.app N13 (Fr.nil n0)
  refine Fin.go st14 ?_
  show Fin _ _ _ _ _ _ _ _ T14 (mkF m 35 #[vr b, vi (0 : Int32), vi (1 : Int32), vr a11, vi (0 : Int32), vr d13] [(.int x1)])
  refine .go (fun _ k => XS.sipush X14.here hx rfl (hb hby d6_35) k) ?_
  refine .go (fun _ k => XS.icmpYes X14.here hx rfl (pc0 := 38) (pc' := 54) rfl (hb hby d6_38) rfl (XT.ii_gt_t hq) (by decide) (by decide) k) ?_
  show Fin _ _ _ _ _ _ _ _ T14 (mkF m 54 #[vr b, vi (0 : Int32), vi (1 : Int32), vr a11, vi (0 : Int32), vr d13] [])
  refine .go (fun _ k => XS.aload X14.here hx rfl (hb hby d6_54) rfl rfl k) ?_
  exact Fin.leaveN X14 e14 hlk (v := some (.ref d13)) (nvS hret) (by decide) (by decide) ⟨d13, kd13, rfl, N14, K13, V13, hzd13⟩ (fun fs hr => retOut X14 hx hret rfl (Or.inr (Or.inr (Or.inr (Or.inr ⟨rfl, rfl, rfl⟩)))) (hb hby d6_56) hr)
theorem rmCAu1 (l : Launch) (Z : State) (a0 : Array Value) (hw : HW a0 Z) (n0 : Nat) (h0 : Heap) (O : Old Z n0 h0) (b : Addr) (kb : ClassId) (x1 : Int32) (VB : Arv Z h0 b kb .char (1 : Int32) [(.int x1)] (.int (0 : Int32))) (hc1 : ChI x1) (hU : ((255 : Int32) < x1)) (S_as : SAs Z) (S_hb : SHb Z) (S_lb : SLb Z) : Con FrameEnd l Z (⟨"java/lang/StringUTF16", "compress", "([CII)[B"⟩ : MethodName) jdk_52_method_16_code 6 (some (.array .byte)) ({ frames := 3, cells := 2, slots := 3, locals := 40 } : Room) #[(.ref b), (.int (0 : Int32)), (.int (1 : Int32))] h0 (fun v h L => ∃ d kd, v = some (.ref d) ∧ Fr n0 L ∧ Keep h0 h [] ∧ Arv Z h d kd .byte (2 : Int32) [(.int (lo8 x1)), (.int (hi8 x1))] (.int (0 : Int32)) ∧ h0.size ≤ d) := by
  have hq := hU
  · exact rmCAu1_0 l Z a0 hw n0 h0 O b kb x1 VB hc1  hq S_as S_hb S_lb
theorem rmCodU1 (l : Launch) (Z : State) (a0 : Array Value) (hw : HW a0 Z) (n0 : Nat) (h0 : Heap) (O : Old Z n0 h0) (d : Addr) (kd : ClassId) (x1 x2 : Int32) (VD : Arv Z h0 d kd .byte (2 : Int32) [(.int x1), (.int x2)] (.int (0 : Int32))) :
    ConW FrameEnd l Z [] (⟨"java/lang/StringUTF16", "coderFromArrayLen", "([BI)B"⟩ : MethodName) jdk_52_method_15_code 2 (some .byte) ({ frames := 0, cells := 0, slots := 0, locals := 0 } : Room) #[(.ref d), (.int (1 : Int32))] h0 (Pure h0 (some (.int (1 : Int32)))) := by
  refine conOf (plainFor_of_name pn_java_lang_StringUTF16) ?_
  intro p e s m below mth cc s₁ X0 hx hby hml hown hnm hret hlk hZ e0
  have N0 := Fr.nil n0
  refine Fin.came (castTop (t := _) (by first | (simp [entryFrame, mkF, argsToLocals, Value.category]; done) | rfl) (Steps.refl _) : Steps p.tables e below (s₁.setTop (entryFrame m #[(.ref d), (.int (1 : Int32))] 2)) (s₁.setTop (mkF m 0 #[vr d, vi (1 : Int32)] []))) ?_
  refine .go (fun _ k => XS.iloadN X0.here hx rfl (hb hby d8_0) rfl k) ?_
  refine .go (fun _ k => XS.aloadN X0.here hx rfl (hb hby d8_1) rfl rfl k) ?_
  obtain ⟨cz11, B11, q11, S11, M11, H11, G11⟩ := id VD
  refine Fin.go (fun _ k => X0.arraylength hx (by rw [e0]; exact B11.1) (State.isArrayOf_alike hZ.alike B11.2.1) (g := (mkF m 2 #[vr d, vi (1 : Int32)] [(.ref d), (.int (1 : Int32))])) rfl rfl (hb hby d8_2) _ k) ?_
  rw [len_of S11 M11]
  show Fin _ _ _ _ _ _ _ _ s₁ (mkF m 3 #[vr d, vi (1 : Int32)] [(.int (2 : Int32)), (.int (1 : Int32))])
  refine .go (fun _ k => XS.isub X0.here hx rfl (hb hby d8_3) rfl k) ?_
  refine .go (fun _ k => XS.bipush X0.here hx rfl (hb hby d8_4) k) ?_
  refine .go (fun _ k => XT.iushr X0.here hx rfl (hb hby d8_6) rfl k) ?_
  refine .go (fun _ k => XT.i2b X0.here hx rfl (hb hby d8_7) rfl k) ?_
  exact Fin.leaveN X0 e0 hlk (v := some (.int (nar .byte ((Int32.toInt8 (XT.ushr ((1 : Int32) - (2 : Int32)) (31 : Int32))).toInt32)))) (nvS hret) (by decide) (by decide) ⟨by decide +kernel, rfl, rfl⟩ (fun fs hr => retN X0 hx (t := .byte) hret (by simp) (hb hby d8_8) hr)
theorem rmUV1 (l : Launch) (Z : State) (a0 : Array Value) (hw : HW a0 Z) (n0 : Nat) (h0 : Heap) (O : Old Z n0 h0) (a b : Addr) (kb : ClassId) (x1 : Int32) (cs : Int32) (S_cs : Sta Z Z.heap "java/lang/String" "COMPACT_STRINGS" "Z" (.int cs)) (hcs : ¬ cs = 0) (VB : Arv Z h0 b kb .char (1 : Int32) [(.int x1)] (.int (0 : Int32))) (A : Exa Z h0 a "java/lang/String") (F1 : Fld Z h0 a "java/lang/String" "coder" "B" (.int (0 : Int32))) (F2 : Fld Z h0 a "java/lang/String" "value" "[B" .null) (hc1 : ChI x1) (hU : ((255 : Int32) < x1)) (S_as : SAs Z) (S_hb : SHb Z) (S_lb : SLb Z) (na : n0 ≤ a) (nba : b ≠ a) :
    ConW FrameEnd l Z [] (⟨"java/lang/String", "<init>", "([CIILjava/lang/Void;)V"⟩ : MethodName) jdk_42_method_149_code 6 none ({ frames := 4, cells := 2, slots := 3, locals := 57 } : Room) #[(.ref a), (.ref b), (.int (0 : Int32)), (.int (1 : Int32)), .null] h0 (fun v h L => v = none ∧ Fr n0 L ∧ Keep h0 h [a] ∧ Exa Z h a "java/lang/String" ∧ Fld Z h a "java/lang/String" "coder" "B" (.int (1 : Int32)) ∧ ∃ d kd, Fld Z h a "java/lang/String" "value" "[B" (.ref d) ∧ Arv Z h d kd .byte (2 : Int32) [(.int (lo8 x1)), (.int (hi8 x1))] (.int (0 : Int32)) ∧ h0.size ≤ d) := by
  refine conOf (plainFor_of_name pn_java_lang_String) ?_
  intro p e s m below mth cc s₁ X0 hx hby hml hown hnm hret hlk hZ e0
  have N0 := Fr.nil n0
  have K0 := Keep.refl h0 ([a] : List Addr)
  refine Fin.came (castTop (t := _) (by first | (simp [entryFrame, mkF, argsToLocals, Value.category]; done) | rfl) (Steps.refl _) : Steps p.tables e below (s₁.setTop (entryFrame m #[(.ref a), (.ref b), (.int (0 : Int32)), (.int (1 : Int32)), .null] 6)) (s₁.setTop (mkF m 0 #[vr a, vr b, vi (0 : Int32), vi (1 : Int32), .val .null, .unset] []))) ?_
  refine .go (fun _ k => XS.aloadN X0.here hx rfl (hb hby d4_0) rfl rfl k) ?_
  obtain ⟨T11, X11, e11, st11⟩ := initO X0 hx hZ hown (hw _ w_20) (hw _ w_21) (hw _ w_22) e0 (g := (mkF m 1 #[vr a, vr b, vi (0 : Int32), vi (1 : Int32), .val .null, .unset] [(.ref a)])) rfl (by rw [hml]; rfl) rfl (hb hby d4_1) (by decide) (W := 0) (wk rfl rfl) (by decide)
  refine Fin.go st11 ?_
  show Fin _ _ _ _ _ _ _ _ T11 (mkF m 4 #[vr a, vr b, vi (0 : Int32), vi (1 : Int32), .val .null, .unset] [])
  refine .go (fun _ k => XS.iloadN X11.here hx rfl (hb hby d4_4) rfl k) ?_
  refine .go (fun _ k => XS.ifYes X11.here hx rfl (pc0 := 5) (pc' := 27) rfl (hb hby d4_5) rfl (XT.i0_ne_t (by decide)) (by decide) (by decide) k) ?_
  show Fin _ _ _ _ _ _ _ _ T11 (mkF m 27 #[vr a, vr b, vi (0 : Int32), vi (1 : Int32), .val .null, .unset] [])
  obtain ⟨T12, X12, e12, st12⟩ := getS2 X11 hx hZ hown (host := "") (Or.inl (hw _ w_23)) Via.refl e11 (S_cs.ext O.2) (g := (mkF m 27 #[vr a, vr b, vi (0 : Int32), vi (1 : Int32), .val .null, .unset] [])) rfl (hb hby d4_27)
  refine Fin.go st12 ?_
  show Fin _ _ _ _ _ _ _ _ T12 (mkF m 30 #[vr a, vr b, vi (0 : Int32), vi (1 : Int32), .val .null, .unset] [(.int cs)])
  refine .go (fun _ k => XS.ifNo X12.here hx rfl (hb hby d4_30) rfl (XT.i0_eq_f hcs) k) ?_
  show Fin _ _ _ _ _ _ _ _ T12 (mkF m 33 #[vr a, vr b, vi (0 : Int32), vi (1 : Int32), .val .null, .unset] [])
  refine .go (fun _ k => XS.aloadN X12.here hx rfl (hb hby d4_33) rfl rfl k) ?_
  refine .go (fun _ k => XS.iloadN X12.here hx rfl (hb hby d4_34) rfl k) ?_
  refine .go (fun _ k => XS.iloadN X12.here hx rfl (hb hby d4_35) rfl k) ?_
  obtain ⟨v13, T13, L13, X13, q13, st13⟩ := callSt X12 hx hZ hown (hw _ w_24) (hw _ w_25) (hw _ w_26) (hw _ w_27) (by decide) (W := 0) (rmCAu1 l Z a0 hw n0 h0 O b kb x1 VB hc1 hU S_as S_hb S_lb) e12 (by decide) (by decide) (by decide) (by decide) (g := (mkF m 36 #[vr a, vr b, vi (0 : Int32), vi (1 : Int32), .val .null, .unset] [(.int (1 : Int32)), (.int (0 : Int32)), (.ref b)])) rfl (by rw [hml]; rfl) (argsL := [(.ref b), (.int (0 : Int32)), (.int (1 : Int32))]) (rest := []) (lenOf pd_oACIIcAB rfl) rfl (wk rfl rfl) (hb hby d4_36)
  obtain ⟨d13, kd13, rfl, Nq13, Kq13, V13, zd13⟩ := q13
  have N13 := Fr.app N0 Nq13
  have O13 := O.keep Kq13 all0
  have K13 := K0.trans Kq13 all0
  refine Fin.go st13 ?_
  show Fin _ _ _ _ _ _ _ _ T13 (mkF m 39 #[vr a, vr b, vi (0 : Int32), vi (1 : Int32), .val .null, .unset] [(.ref d13)])
  have nzd13 : n0 ≤ d13 := Nat.le_trans (by have := O.1; have := O.2.1; omega) zd13
  have hzd13 : h0.size ≤ d13 := Nat.le_trans K0.1 zd13
  refine .go (fun _ k => XS.astore X13.here hx rfl (hb hby d4_39) rfl rfl (l' := #[vr a, vr b, vi (0 : Int32), vi (1 : Int32), .val .null, vr d13]) rfl k) ?_
  refine .go (fun _ k => XS.aloadN X13.here hx rfl (hb hby d4_41) rfl rfl k) ?_
  refine .go (fun _ k => XS.aload X13.here hx rfl (hb hby d4_42) rfl rfl k) ?_
  refine .go (fun _ k => XS.iloadN X13.here hx rfl (hb hby d4_44) rfl k) ?_
  obtain ⟨v14, T14, L14, X14, q14, st14⟩ := callSt X13 hx hZ hown (hw _ w_32) (hw _ w_33) (hw _ w_26) (hw _ w_34) (by decide) (W := 1) (rmCodU1 l Z a0 hw n0 T13.heap O13 d13 kd13 (lo8 x1) (hi8 x1) V13) (rfl : T13.heap = T13.heap) (by decide) (by decide) (by decide) (by decide) (g := (mkF m 45 #[vr a, vr b, vi (0 : Int32), vi (1 : Int32), .val .null, vr d13] [(.int (1 : Int32)), (.ref d13), (.ref a)])) rfl (by rw [hml]; rfl) (argsL := [(.ref d13), (.int (1 : Int32))]) (rest := [(.ref a)]) (lenOf pd_oABIcB rfl) rfl (wk rfl rfl) (hb hby d4_45)
  obtain ⟨rfl, e14, rfl⟩ := q14
  have N14 := Fr.app N13 (Fr.nil n0)
  refine Fin.go st14 ?_
  show Fin _ _ _ _ _ _ _ _ T14 (mkF m 48 #[vr a, vr b, vi (0 : Int32), vi (1 : Int32), .val .null, vr d13] [(.int (1 : Int32)), (.ref a)])
  obtain ⟨T15, h15, X15, e15, W15, st15⟩ := putF X14 hx hZ hown (host := "") (Or.inl (hw _ w_35)) Via.refl e14 (F1.keep Kq13 nin0) (A.keep Kq13) (Or.inr ⟨(hw _ w_36), rfl, hnm⟩) (hw _ w_11) (ty := .byte) (by decide) rfl rfl (g := (mkF m 48 #[vr a, vr b, vi (0 : Int32), vi (1 : Int32), .val .null, vr d13] [(.int (1 : Int32)), (.ref a)])) rfl rfl (hb hby d4_48)
  refine Fin.go st15 ?_
  have N15 := Fr.snoc X15 N14 na
  have O15 := O13.wr W15 na
  have K15 := K13.wr W15 (Or.inl (List.mem_of_getElem? (i := 0) rfl))
  have F15_a_value := ((F2.keep Kq13 nin0).other W15 (Or.inr (slot_ne (Or.inr (hw _ w_38)) (Or.inr (hw _ w_36)) (by decide) (t := (.array .byte)) (t' := .byte) (by decide) (by decide))))
  have V15_d13 := (V13.other W15 (Ne.symm (Nat.ne_of_lt (Nat.lt_of_lt_of_le F2.lt zd13))))
  show Fin _ _ _ _ _ _ _ _ T15 (mkF m 51 #[vr a, vr b, vi (0 : Int32), vi (1 : Int32), .val .null, vr d13] [])
  refine .go (fun _ k => XS.aloadN X15.here hx rfl (hb hby d4_51) rfl rfl k) ?_
  refine .go (fun _ k => XS.aload X15.here hx rfl (hb hby d4_52) rfl rfl k) ?_
  obtain ⟨T16, h16, X16, e16, W16, st16⟩ := putF X15 hx hZ hown (host := "") (Or.inl (hw _ w_37)) Via.refl e15 F15_a_value ((A.keep Kq13).wr W15) (Or.inr ⟨(hw _ w_38), rfl, hnm⟩) (hw _ w_11) (ty := (.array .byte)) (by decide) rfl rfl (g := (mkF m 54 #[vr a, vr b, vi (0 : Int32), vi (1 : Int32), .val .null, vr d13] [(.ref d13), (.ref a)])) rfl rfl (hb hby d4_54)
  refine Fin.go st16 ?_
  have N16 := Fr.snoc X16 N15 na
  have O16 := O15.wr W16 na
  have K16 := K15.wr W16 (Or.inl (List.mem_of_getElem? (i := 0) rfl))
  have F16_a_coder := (((F1.keep Kq13 nin0).same W15).other W16 (Or.inr (slot_ne (Or.inr (hw _ w_36)) (Or.inr (hw _ w_38)) (by decide) (t := .byte) (t' := (.array .byte)) (by decide) (by decide))))
  have V16_d13 := (V15_d13.other W16 (Ne.symm (Nat.ne_of_lt (Nat.lt_of_lt_of_le F2.lt zd13))))
  show Fin _ _ _ _ _ _ _ _ T16 (mkF m 57 #[vr a, vr b, vi (0 : Int32), vi (1 : Int32), .val .null, vr d13] [])
  exact Fin.leaveN X16 e16 hlk (v := none) (fun _ => rfl) (by decide) (by decide) ⟨rfl, N16, K16, (((A.keep Kq13).wr W15).wr W16), F16_a_coder, d13, kd13, (F15_a_value.same W16), V16_d13, hzd13⟩ (fun fs hr => X16.returnOut hx hret (hb hby d4_57) hr)
theorem lu1 (x1 : Int32) : (¬ (255 : Int32) < x1) ∨ (((255 : Int32) < x1)) := by by_cases q1 : (255 : Int32) < x1 <;> simp_all
theorem rmU1 (l : Launch) (Z : State) (a0 : Array Value) (hw : HW a0 Z) (n0 : Nat) (h0 : Heap) (O : Old Z n0 h0) (a b : Addr) (kb : ClassId) (x1 : Int32) (cs : Int32) (S_cs : Sta Z Z.heap "java/lang/String" "COMPACT_STRINGS" "Z" (.int cs)) (hcs : ¬ cs = 0) (VB : Arv Z h0 b kb .char (1 : Int32) [(.int x1)] (.int (0 : Int32))) (A : Exa Z h0 a "java/lang/String") (F1 : Fld Z h0 a "java/lang/String" "coder" "B" (.int (0 : Int32))) (F2 : Fld Z h0 a "java/lang/String" "value" "[B" .null) (hc1 : ChI x1) (hU : ((255 : Int32) < x1)) (S_as : SAs Z) (S_hb : SHb Z) (S_lb : SLb Z) (na : n0 ≤ a) (nba : b ≠ a) :
    ConW FrameEnd l Z [] (⟨"java/lang/String", "<init>", "([C)V"⟩ : MethodName) jdk_42_method_3_code 2 none ({ frames := 5, cells := 2, slots := 3, locals := 74 } : Room) #[(.ref a), (.ref b)] h0 (fun v h L => v = none ∧ Fr n0 L ∧ Keep h0 h [a] ∧ Exa Z h a "java/lang/String" ∧ Fld Z h a "java/lang/String" "coder" "B" (.int (1 : Int32)) ∧ ∃ d kd, Fld Z h a "java/lang/String" "value" "[B" (.ref d) ∧ Arv Z h d kd .byte (2 : Int32) [(.int (lo8 x1)), (.int (hi8 x1))] (.int (0 : Int32)) ∧ h0.size ≤ d) := by
  refine conOf (plainFor_of_name pn_java_lang_String) ?_
  intro p e s m below mth cc s₁ X0 hx hby hml hown hnm hret hlk hZ e0
  have N0 := Fr.nil n0
  have K0 := Keep.refl h0 ([a] : List Addr)
  refine Fin.came (castTop (t := _) (by first | (simp [entryFrame, mkF, argsToLocals, Value.category]; done) | rfl) (Steps.refl _) : Steps p.tables e below (s₁.setTop (entryFrame m #[(.ref a), (.ref b)] 2)) (s₁.setTop (mkF m 0 #[vr a, vr b] []))) ?_
  refine .go (fun _ k => XS.aloadN X0.here hx rfl (hb hby d3_0) rfl rfl k) ?_
  refine .go (fun _ k => XS.aloadN X0.here hx rfl (hb hby d3_1) rfl rfl k) ?_
  refine .go (fun _ k => XS.iconst X0.here hx rfl (hb hby d3_2) k) ?_
  refine .go (fun _ k => XS.aloadN X0.here hx rfl (hb hby d3_3) rfl rfl k) ?_
  obtain ⟨cz11, B11, q11, S11, M11, H11, G11⟩ := id VB
  refine Fin.go (fun _ k => X0.arraylength hx (by rw [e0]; exact B11.1) (State.isArrayOf_alike hZ.alike B11.2.1) (g := (mkF m 4 #[vr a, vr b] [(.ref b), (.int (0 : Int32)), (.ref b), (.ref a)])) rfl rfl (hb hby d3_4) _ k) ?_
  rw [len_of S11 M11]
  show Fin _ _ _ _ _ _ _ _ s₁ (mkF m 5 #[vr a, vr b] [(.int (1 : Int32)), (.int (0 : Int32)), (.ref b), (.ref a)])
  refine .go (fun _ k => XS.aconstNull X0.here hx rfl (hb hby d3_5) k) ?_
  obtain ⟨v12, T12, L12, X12, q12, st12⟩ := callCt X0 hx hZ (y := (⟨"java/lang/String", "<init>", "([CIILjava/lang/Void;)V"⟩ : MethodName)) rfl hown (hw _ w_16) (hw _ w_17) (hw _ w_12) (hw _ w_19) (by decide) (W := 0) (rmUV1 l Z a0 hw n0 h0 O a b kb x1 cs S_cs hcs VB A F1 F2 hc1 hU S_as S_hb S_lb na nba) e0 (by decide) (by decide) (by decide) (by decide) (g := (mkF m 6 #[vr a, vr b] [.null, (.int (1 : Int32)), (.int (0 : Int32)), (.ref b), (.ref a)])) rfl (by rw [hml]; rfl) (a := a) (argsL := [(.ref b), (.int (0 : Int32)), (.int (1 : Int32)), .null]) (rest := []) (lenOf pd_oACIILjava_lang_Void_cV rfl) rfl (wk rfl rfl) (hb hby d3_6)
  obtain ⟨rfl, Nq12, Kq12, A12, C12, d12, kd12, F12, V12, zd12⟩ := q12
  have N12 := Fr.app N0 Nq12
  have O12 := O.keep Kq12 (allS na all0)
  have K12 := K0.trans Kq12 (allS (Or.inl (List.mem_of_getElem? (i := 0) rfl)) all0)
  refine Fin.go st12 ?_
  show Fin _ _ _ _ _ _ _ _ T12 (mkF m 9 #[vr a, vr b] [])
  exact Fin.leaveN X12 (rfl : T12.heap = T12.heap) hlk (v := none) (fun _ => rfl) (by decide) (by decide) ⟨rfl, N12, K12, A12, C12, d12, kd12, F12, V12, zd12⟩ (fun fs hr => X12.returnOut hx hret (hb hby d3_9) hr)
theorem rmGet2_0 (l : Launch) (Z : State) (a0 : Array Value) (hw : HW a0 Z) (n0 : Nat) (h0 : Heap) (O : Old Z n0 h0) (d : Addr) (kd : ClassId) (x1 x2 : Int32) (hc : ChI x1) (VD : Arv Z h0 d kd .byte (4 : Int32) [(.int (lo8 x1)), (.int (hi8 x1)), (.int (lo8 x2)), (.int (hi8 x2))] (.int (0 : Int32))) (S_as : SAs Z) (S_hb : SHb Z) (S_lb : SLb Z) :
    ConW FrameEnd l Z [] (⟨"java/lang/StringUTF16", "getChar", "([BI)C"⟩ : MethodName) jdk_52_method_5_code 2 (some .char) ({ frames := 0, cells := 0, slots := 0, locals := 0 } : Room) #[(.ref d), (.int (0 : Int32))] h0 (Pure h0 (some (.int x1))) := by
  refine conOf (plainFor_of_name pn_java_lang_StringUTF16) ?_
  intro p e s m below mth cc s₁ X0 hx hby hml hown hnm hret hlk hZ e0
  have N0 := Fr.nil n0
  refine Fin.came (castTop (t := _) (by first | (simp [entryFrame, mkF, argsToLocals, Value.category]; done) | rfl) (Steps.refl _) : Steps p.tables e below (s₁.setTop (entryFrame m #[(.ref d), (.int (0 : Int32))] 2)) (s₁.setTop (mkF m 0 #[vr d, vi (0 : Int32)] []))) ?_
  obtain ⟨T11, X11, e11, st11⟩ := getS2 X0 hx hZ hown (host := "") (Or.inl (hw _ w_95)) Via.refl e0 (S_as.ext O.2) (g := (mkF m 0 #[vr d, vi (0 : Int32)] [])) rfl (hb hby d24_0)
  refine Fin.go st11 ?_
  show Fin _ _ _ _ _ _ _ _ T11 (mkF m 3 #[vr d, vi (0 : Int32)] [(.int (1 : Int32))])
  refine .go (fun _ k => XS.ifYes X11.here hx rfl (pc0 := 3) (pc' := 28) rfl (hb hby d24_3) rfl (XT.i0_ne_t (by decide)) (by decide) (by decide) k) ?_
  show Fin _ _ _ _ _ _ _ _ T11 (mkF m 28 #[vr d, vi (0 : Int32)] [])
  refine .go (fun _ k => XS.iloadN X11.here hx rfl (hb hby d24_28) rfl k) ?_
  refine .go (fun _ k => XS.iconst X11.here hx rfl (hb hby d24_29) k) ?_
  refine .go (fun _ k => XT.ishl X11.here hx rfl (hb hby d24_30) rfl k) ?_
  refine .go (fun _ k => XS.istoreN X11.here hx rfl (hb hby d24_31) rfl (l' := #[vr d, vi ((0 : Int32) <<< ((1 : Int32) &&& 31))]) rfl k) ?_
  show Fin _ _ _ _ _ _ _ _ T11 (mkF m 32 #[vr d, vi ((0 : Int32) <<< ((1 : Int32) &&& 31))] [])
  rw [show ((0 : Int32) <<< ((1 : Int32) &&& 31)) = (0 : Int32) from by decide]
  show Fin _ _ _ _ _ _ _ _ T11 (mkF m 32 #[vr d, vi (0 : Int32)] [])
  refine .go (fun _ k => XS.aloadN X11.here hx rfl (hb hby d24_32) rfl rfl k) ?_
  refine .go (fun _ k => XS.iloadN X11.here hx rfl (hb hby d24_33) rfl k) ?_
  refine .go (fun _ k => XS.iinc X11.here hx rfl (hb hby d24_34) rfl (l' := #[vr d, vi ((0 : Int32) + (1 : Int32))]) rfl k) ?_
  obtain ⟨cz12, B12, q12, S12, M12, H12, G12⟩ := id VD
  have i12 := inb_of S12 ⟨(by decide : ¬ ((0 : Int32) < (0 : Int32))), (by decide : (0 : Int32) < (4 : Int32))⟩
  refine Fin.go (fun _ k => X11.baloadBytes hx (j := (0 : Int32)) (v := (.int (lo8 x1))) (by rw [e11]; exact B12.1) (State.isArrayOf_alike hZ.alike B12.2.1) B12.2.2 i12 (Has.at H12 i12 rfl) (g := (mkF m 37 #[vr d, vi ((0 : Int32) + (1 : Int32))] [(.int (0 : Int32)), (.ref d)])) rfl rfl (hb hby d24_37) _ k) ?_
  show Fin _ _ _ _ _ _ _ _ T11 (mkF m 38 #[vr d, vi ((0 : Int32) + (1 : Int32))] [(.int (lo8 x1))])
  refine .go (fun _ k => XS.sipush X11.here hx rfl (hb hby d24_38) k) ?_
  refine .go (fun _ k => XS.iand X11.here hx rfl (hb hby d24_41) rfl k) ?_
  obtain ⟨T13, X13, e13, st13⟩ := getS2 X11 hx hZ hown (host := "") (Or.inl (hw _ w_96)) Via.refl e11 (S_hb.ext O.2) (g := (mkF m 42 #[vr d, vi ((0 : Int32) + (1 : Int32))] [(.int ((lo8 x1) &&& (255 : Int32)))])) rfl (hb hby d24_42)
  refine Fin.go st13 ?_
  show Fin _ _ _ _ _ _ _ _ T13 (mkF m 45 #[vr d, vi ((0 : Int32) + (1 : Int32))] [(.int (0 : Int32)), (.int ((lo8 x1) &&& (255 : Int32)))])
  refine .go (fun _ k => XT.ishl X13.here hx rfl (hb hby d24_45) rfl k) ?_
  refine .go (fun _ k => XS.aloadN X13.here hx rfl (hb hby d24_46) rfl rfl k) ?_
  refine .go (fun _ k => XS.iloadN X13.here hx rfl (hb hby d24_47) rfl k) ?_
  obtain ⟨cz14, B14, q14, S14, M14, H14, G14⟩ := id VD
  have i14 := inb_of S14 ⟨(by decide : ¬ (((0 : Int32) + (1 : Int32)) < (0 : Int32))), (by decide : ((0 : Int32) + (1 : Int32)) < (4 : Int32))⟩
  refine Fin.go (fun _ k => X13.baloadBytes hx (j := ((0 : Int32) + (1 : Int32))) (v := (.int (hi8 x1))) (by rw [e13]; exact B14.1) (State.isArrayOf_alike hZ.alike B14.2.1) B14.2.2 i14 (Has.at H14 i14 rfl) (g := (mkF m 48 #[vr d, vi ((0 : Int32) + (1 : Int32))] [(.int ((0 : Int32) + (1 : Int32))), (.ref d), (.int (((lo8 x1) &&& (255 : Int32)) <<< ((0 : Int32) &&& 31)))])) rfl rfl (hb hby d24_48) _ k) ?_
  show Fin _ _ _ _ _ _ _ _ T13 (mkF m 49 #[vr d, vi ((0 : Int32) + (1 : Int32))] [(.int (hi8 x1)), (.int (((lo8 x1) &&& (255 : Int32)) <<< ((0 : Int32) &&& 31)))])
  refine .go (fun _ k => XS.sipush X13.here hx rfl (hb hby d24_49) k) ?_
  refine .go (fun _ k => XS.iand X13.here hx rfl (hb hby d24_52) rfl k) ?_
  obtain ⟨T15, X15, e15, st15⟩ := getS2 X13 hx hZ hown (host := "") (Or.inl (hw _ w_97)) Via.refl e13 (S_lb.ext O.2) (g := (mkF m 53 #[vr d, vi ((0 : Int32) + (1 : Int32))] [(.int ((hi8 x1) &&& (255 : Int32))), (.int (((lo8 x1) &&& (255 : Int32)) <<< ((0 : Int32) &&& 31)))])) rfl (hb hby d24_53)
  refine Fin.go st15 ?_
  show Fin _ _ _ _ _ _ _ _ T15 (mkF m 56 #[vr d, vi ((0 : Int32) + (1 : Int32))] [(.int (8 : Int32)), (.int ((hi8 x1) &&& (255 : Int32))), (.int (((lo8 x1) &&& (255 : Int32)) <<< ((0 : Int32) &&& 31)))])
  refine .go (fun _ k => XT.ishl X15.here hx rfl (hb hby d24_56) rfl k) ?_
  refine .go (fun _ k => XT.ior X15.here hx rfl (hb hby d24_57) rfl k) ?_
  refine .go (fun _ k => XT.i2c X15.here hx rfl (hb hby d24_58) rfl k) ?_
  exact Fin.leaveN X15 e15 hlk (v := some (.int (nar .char ((Int32.toUInt32 ((((lo8 x1) &&& (255 : Int32)) <<< ((0 : Int32) &&& 31)) ||| (((hi8 x1) &&& (255 : Int32)) <<< ((8 : Int32) &&& 31)))).toUInt16.toUInt32.toInt32)))) (nvS hret) (by decide) (by decide) ⟨by rw [nar_c16, gch _ hc], rfl, rfl⟩ (fun fs hr => retN X15 hx (t := .char) hret (by simp) (hb hby d24_59) hr)
theorem rmGet2_1 (l : Launch) (Z : State) (a0 : Array Value) (hw : HW a0 Z) (n0 : Nat) (h0 : Heap) (O : Old Z n0 h0) (d : Addr) (kd : ClassId) (x1 x2 : Int32) (hc : ChI x2) (VD : Arv Z h0 d kd .byte (4 : Int32) [(.int (lo8 x1)), (.int (hi8 x1)), (.int (lo8 x2)), (.int (hi8 x2))] (.int (0 : Int32))) (S_as : SAs Z) (S_hb : SHb Z) (S_lb : SLb Z) :
    ConW FrameEnd l Z [] (⟨"java/lang/StringUTF16", "getChar", "([BI)C"⟩ : MethodName) jdk_52_method_5_code 2 (some .char) ({ frames := 0, cells := 0, slots := 0, locals := 0 } : Room) #[(.ref d), (.int (1 : Int32))] h0 (Pure h0 (some (.int x2))) := by
  refine conOf (plainFor_of_name pn_java_lang_StringUTF16) ?_
  intro p e s m below mth cc s₁ X0 hx hby hml hown hnm hret hlk hZ e0
  have N0 := Fr.nil n0
  refine Fin.came (castTop (t := _) (by first | (simp [entryFrame, mkF, argsToLocals, Value.category]; done) | rfl) (Steps.refl _) : Steps p.tables e below (s₁.setTop (entryFrame m #[(.ref d), (.int (1 : Int32))] 2)) (s₁.setTop (mkF m 0 #[vr d, vi (1 : Int32)] []))) ?_
  obtain ⟨T11, X11, e11, st11⟩ := getS2 X0 hx hZ hown (host := "") (Or.inl (hw _ w_95)) Via.refl e0 (S_as.ext O.2) (g := (mkF m 0 #[vr d, vi (1 : Int32)] [])) rfl (hb hby d24_0)
  refine Fin.go st11 ?_
  show Fin _ _ _ _ _ _ _ _ T11 (mkF m 3 #[vr d, vi (1 : Int32)] [(.int (1 : Int32))])
  refine .go (fun _ k => XS.ifYes X11.here hx rfl (pc0 := 3) (pc' := 28) rfl (hb hby d24_3) rfl (XT.i0_ne_t (by decide)) (by decide) (by decide) k) ?_
  show Fin _ _ _ _ _ _ _ _ T11 (mkF m 28 #[vr d, vi (1 : Int32)] [])
  refine .go (fun _ k => XS.iloadN X11.here hx rfl (hb hby d24_28) rfl k) ?_
  refine .go (fun _ k => XS.iconst X11.here hx rfl (hb hby d24_29) k) ?_
  refine .go (fun _ k => XT.ishl X11.here hx rfl (hb hby d24_30) rfl k) ?_
  refine .go (fun _ k => XS.istoreN X11.here hx rfl (hb hby d24_31) rfl (l' := #[vr d, vi ((1 : Int32) <<< ((1 : Int32) &&& 31))]) rfl k) ?_
  show Fin _ _ _ _ _ _ _ _ T11 (mkF m 32 #[vr d, vi ((1 : Int32) <<< ((1 : Int32) &&& 31))] [])
  rw [show ((1 : Int32) <<< ((1 : Int32) &&& 31)) = (2 : Int32) from by decide]
  show Fin _ _ _ _ _ _ _ _ T11 (mkF m 32 #[vr d, vi (2 : Int32)] [])
  refine .go (fun _ k => XS.aloadN X11.here hx rfl (hb hby d24_32) rfl rfl k) ?_
  refine .go (fun _ k => XS.iloadN X11.here hx rfl (hb hby d24_33) rfl k) ?_
  refine .go (fun _ k => XS.iinc X11.here hx rfl (hb hby d24_34) rfl (l' := #[vr d, vi ((2 : Int32) + (1 : Int32))]) rfl k) ?_
  obtain ⟨cz12, B12, q12, S12, M12, H12, G12⟩ := id VD
  have i12 := inb_of S12 ⟨(by decide : ¬ ((2 : Int32) < (0 : Int32))), (by decide : (2 : Int32) < (4 : Int32))⟩
  refine Fin.go (fun _ k => X11.baloadBytes hx (j := (2 : Int32)) (v := (.int (lo8 x2))) (by rw [e11]; exact B12.1) (State.isArrayOf_alike hZ.alike B12.2.1) B12.2.2 i12 (Has.at H12 i12 rfl) (g := (mkF m 37 #[vr d, vi ((2 : Int32) + (1 : Int32))] [(.int (2 : Int32)), (.ref d)])) rfl rfl (hb hby d24_37) _ k) ?_
  show Fin _ _ _ _ _ _ _ _ T11 (mkF m 38 #[vr d, vi ((2 : Int32) + (1 : Int32))] [(.int (lo8 x2))])
  refine .go (fun _ k => XS.sipush X11.here hx rfl (hb hby d24_38) k) ?_
  refine .go (fun _ k => XS.iand X11.here hx rfl (hb hby d24_41) rfl k) ?_
  obtain ⟨T13, X13, e13, st13⟩ := getS2 X11 hx hZ hown (host := "") (Or.inl (hw _ w_96)) Via.refl e11 (S_hb.ext O.2) (g := (mkF m 42 #[vr d, vi ((2 : Int32) + (1 : Int32))] [(.int ((lo8 x2) &&& (255 : Int32)))])) rfl (hb hby d24_42)
  refine Fin.go st13 ?_
  show Fin _ _ _ _ _ _ _ _ T13 (mkF m 45 #[vr d, vi ((2 : Int32) + (1 : Int32))] [(.int (0 : Int32)), (.int ((lo8 x2) &&& (255 : Int32)))])
  refine .go (fun _ k => XT.ishl X13.here hx rfl (hb hby d24_45) rfl k) ?_
  refine .go (fun _ k => XS.aloadN X13.here hx rfl (hb hby d24_46) rfl rfl k) ?_
  refine .go (fun _ k => XS.iloadN X13.here hx rfl (hb hby d24_47) rfl k) ?_
  obtain ⟨cz14, B14, q14, S14, M14, H14, G14⟩ := id VD
  have i14 := inb_of S14 ⟨(by decide : ¬ (((2 : Int32) + (1 : Int32)) < (0 : Int32))), (by decide : ((2 : Int32) + (1 : Int32)) < (4 : Int32))⟩
  refine Fin.go (fun _ k => X13.baloadBytes hx (j := ((2 : Int32) + (1 : Int32))) (v := (.int (hi8 x2))) (by rw [e13]; exact B14.1) (State.isArrayOf_alike hZ.alike B14.2.1) B14.2.2 i14 (Has.at H14 i14 rfl) (g := (mkF m 48 #[vr d, vi ((2 : Int32) + (1 : Int32))] [(.int ((2 : Int32) + (1 : Int32))), (.ref d), (.int (((lo8 x2) &&& (255 : Int32)) <<< ((0 : Int32) &&& 31)))])) rfl rfl (hb hby d24_48) _ k) ?_
  show Fin _ _ _ _ _ _ _ _ T13 (mkF m 49 #[vr d, vi ((2 : Int32) + (1 : Int32))] [(.int (hi8 x2)), (.int (((lo8 x2) &&& (255 : Int32)) <<< ((0 : Int32) &&& 31)))])
  refine .go (fun _ k => XS.sipush X13.here hx rfl (hb hby d24_49) k) ?_
  refine .go (fun _ k => XS.iand X13.here hx rfl (hb hby d24_52) rfl k) ?_
  obtain ⟨T15, X15, e15, st15⟩ := getS2 X13 hx hZ hown (host := "") (Or.inl (hw _ w_97)) Via.refl e13 (S_lb.ext O.2) (g := (mkF m 53 #[vr d, vi ((2 : Int32) + (1 : Int32))] [(.int ((hi8 x2) &&& (255 : Int32))), (.int (((lo8 x2) &&& (255 : Int32)) <<< ((0 : Int32) &&& 31)))])) rfl (hb hby d24_53)
  refine Fin.go st15 ?_
  show Fin _ _ _ _ _ _ _ _ T15 (mkF m 56 #[vr d, vi ((2 : Int32) + (1 : Int32))] [(.int (8 : Int32)), (.int ((hi8 x2) &&& (255 : Int32))), (.int (((lo8 x2) &&& (255 : Int32)) <<< ((0 : Int32) &&& 31)))])
  refine .go (fun _ k => XT.ishl X15.here hx rfl (hb hby d24_56) rfl k) ?_
  refine .go (fun _ k => XT.ior X15.here hx rfl (hb hby d24_57) rfl k) ?_
  refine .go (fun _ k => XT.i2c X15.here hx rfl (hb hby d24_58) rfl k) ?_
  exact Fin.leaveN X15 e15 hlk (v := some (.int (nar .char ((Int32.toUInt32 ((((lo8 x2) &&& (255 : Int32)) <<< ((0 : Int32) &&& 31)) ||| (((hi8 x2) &&& (255 : Int32)) <<< ((8 : Int32) &&& 31)))).toUInt16.toUInt32.toInt32)))) (nvS hret) (by decide) (by decide) ⟨by rw [nar_c16, gch _ hc], rfl, rfl⟩ (fun fs hr => retN X15 hx (t := .char) hret (by simp) (hb hby d24_59) hr)
theorem rmPut2_0 (l : Launch) (Z : State) (a0 : Array Value) (hw : HW a0 Z) (n0 : Nat) (h0 : Heap) (O : Old Z n0 h0) (d : Addr) (kd : ClassId) (x y1 y2 y3 y4 : Int32) (VD : Arv Z h0 d kd .byte (4 : Int32) [(.int y1), (.int y2), (.int y3), (.int y4)] (.int (0 : Int32))) (nd : n0 ≤ d) (S_as : SAs Z) (S_hb : SHb Z) (S_lb : SLb Z) :
    ConW FrameEnd l Z [] (⟨"java/lang/StringUTF16", "putChar", "([BII)V"⟩ : MethodName) jdk_52_method_4_code 3 none ({ frames := 0, cells := 0, slots := 0, locals := 0 } : Room) #[(.ref d), (.int (0 : Int32)), (.int x)] h0 (fun v h L => v = none ∧ Fr n0 L ∧ Keep h0 h [d] ∧ Arv Z h d kd .byte (4 : Int32) [(.int (lo8 x)), (.int (hi8 x)), (.int y3), (.int y4)] (.int (0 : Int32))) := by
  refine conOf (plainFor_of_name pn_java_lang_StringUTF16) ?_
  intro p e s m below mth cc s₁ X0 hx hby hml hown hnm hret hlk hZ e0
  have N0 := Fr.nil n0
  have K0 := Keep.refl h0 ([d] : List Addr)
  refine Fin.came (castTop (t := _) (by first | (simp [entryFrame, mkF, argsToLocals, Value.category]; done) | rfl) (Steps.refl _) : Steps p.tables e below (s₁.setTop (entryFrame m #[(.ref d), (.int (0 : Int32)), (.int x)] 3)) (s₁.setTop (mkF m 0 #[vr d, vi (0 : Int32), vi x] []))) ?_
  obtain ⟨T11, X11, e11, st11⟩ := getS2 X0 hx hZ hown (host := "") (Or.inl (hw _ w_95)) Via.refl e0 (S_as.ext O.2) (g := (mkF m 0 #[vr d, vi (0 : Int32), vi x] [])) rfl (hb hby d23_0)
  refine Fin.go st11 ?_
  show Fin _ _ _ _ _ _ _ _ T11 (mkF m 3 #[vr d, vi (0 : Int32), vi x] [(.int (1 : Int32))])
  refine .go (fun _ k => XS.ifYes X11.here hx rfl (pc0 := 3) (pc' := 28) rfl (hb hby d23_3) rfl (XT.i0_ne_t (by decide)) (by decide) (by decide) k) ?_
  show Fin _ _ _ _ _ _ _ _ T11 (mkF m 28 #[vr d, vi (0 : Int32), vi x] [])
  refine .go (fun _ k => XS.iloadN X11.here hx rfl (hb hby d23_28) rfl k) ?_
  refine .go (fun _ k => XS.iconst X11.here hx rfl (hb hby d23_29) k) ?_
  refine .go (fun _ k => XT.ishl X11.here hx rfl (hb hby d23_30) rfl k) ?_
  refine .go (fun _ k => XS.istoreN X11.here hx rfl (hb hby d23_31) rfl (l' := #[vr d, vi ((0 : Int32) <<< ((1 : Int32) &&& 31)), vi x]) rfl k) ?_
  show Fin _ _ _ _ _ _ _ _ T11 (mkF m 32 #[vr d, vi ((0 : Int32) <<< ((1 : Int32) &&& 31)), vi x] [])
  rw [show ((0 : Int32) <<< ((1 : Int32) &&& 31)) = (0 : Int32) from by decide]
  show Fin _ _ _ _ _ _ _ _ T11 (mkF m 32 #[vr d, vi (0 : Int32), vi x] [])
  refine .go (fun _ k => XS.aloadN X11.here hx rfl (hb hby d23_32) rfl rfl k) ?_
  refine .go (fun _ k => XS.iloadN X11.here hx rfl (hb hby d23_33) rfl k) ?_
  refine .go (fun _ k => XS.iinc X11.here hx rfl (hb hby d23_34) rfl (l' := #[vr d, vi ((0 : Int32) + (1 : Int32)), vi x]) rfl k) ?_
  refine .go (fun _ k => XS.iloadN X11.here hx rfl (hb hby d23_37) rfl k) ?_
  obtain ⟨T12, X12, e12, st12⟩ := getS2 X11 hx hZ hown (host := "") (Or.inl (hw _ w_96)) Via.refl e11 (S_hb.ext O.2) (g := (mkF m 38 #[vr d, vi ((0 : Int32) + (1 : Int32)), vi x] [(.int x), (.int (0 : Int32)), (.ref d)])) rfl (hb hby d23_38)
  refine Fin.go st12 ?_
  show Fin _ _ _ _ _ _ _ _ T12 (mkF m 41 #[vr d, vi ((0 : Int32) + (1 : Int32)), vi x] [(.int (0 : Int32)), (.int x), (.int (0 : Int32)), (.ref d)])
  refine .go (fun _ k => XT.ishr X12.here hx rfl (hb hby d23_41) rfl k) ?_
  refine .go (fun _ k => XT.i2b X12.here hx rfl (hb hby d23_42) rfl k) ?_
  obtain ⟨cz13, B13, q13, S13, M13, H13, G13⟩ := id VD
  obtain ⟨T13, h13, X13, e13, W13, st13⟩ := stB X12 hx hZ e12 B13 (j := (0 : Int32)) (inb_of S13 ⟨(by decide : ¬ ((0 : Int32) < (0 : Int32))), (by decide : (0 : Int32) < (4 : Int32))⟩) (g := (mkF m 43 #[vr d, vi ((0 : Int32) + (1 : Int32)), vi x] [(.int ((Int32.toInt8 (x >>> ((0 : Int32) &&& 31))).toInt32)), (.int (0 : Int32)), (.ref d)])) rfl rfl (hb hby d23_43)
  refine Fin.go st13 ?_
  have V13 : Arv Z h13 d kd .byte (4 : Int32) [(.int ((Int32.toInt8 (x >>> ((0 : Int32) &&& 31))).toInt32)), (.int y2), (.int y3), (.int y4)] (.int (0 : Int32)) := (by have q : Arv Z h13 d kd .byte (4 : Int32) [(.int (nar .byte ((Int32.toInt8 (x >>> ((0 : Int32) &&& 31))).toInt32))), (.int y2), (.int y3), (.int y4)] (.int (0 : Int32)) := (Arv.set B13 q13 S13 M13 H13 G13 (fits_nar_byte _) W13 0 rfl (Nat.le_of_ble_eq_true rfl)); rwa [nar_b8] at q)
  have N13 := Fr.snoc X13 N0 nd
  have O13 := O.wr W13 nd
  have K13 := K0.wr W13 (Or.inl (List.mem_of_getElem? (i := 0) rfl))
  show Fin _ _ _ _ _ _ _ _ T13 (mkF m 44 #[vr d, vi ((0 : Int32) + (1 : Int32)), vi x] [])
  refine .go (fun _ k => XS.aloadN X13.here hx rfl (hb hby d23_44) rfl rfl k) ?_
  refine .go (fun _ k => XS.iloadN X13.here hx rfl (hb hby d23_45) rfl k) ?_
  refine .go (fun _ k => XS.iloadN X13.here hx rfl (hb hby d23_46) rfl k) ?_
  obtain ⟨T14, X14, e14, st14⟩ := getS2 X13 hx hZ hown (host := "") (Or.inl (hw _ w_97)) Via.refl e13 (S_lb.ext O13.2) (g := (mkF m 47 #[vr d, vi ((0 : Int32) + (1 : Int32)), vi x] [(.int x), (.int ((0 : Int32) + (1 : Int32))), (.ref d)])) rfl (hb hby d23_47)
  refine Fin.go st14 ?_
  show Fin _ _ _ _ _ _ _ _ T14 (mkF m 50 #[vr d, vi ((0 : Int32) + (1 : Int32)), vi x] [(.int (8 : Int32)), (.int x), (.int ((0 : Int32) + (1 : Int32))), (.ref d)])
  refine .go (fun _ k => XT.ishr X14.here hx rfl (hb hby d23_50) rfl k) ?_
  refine .go (fun _ k => XT.i2b X14.here hx rfl (hb hby d23_51) rfl k) ?_
  obtain ⟨cz15, B15, q15, S15, M15, H15, G15⟩ := id V13
  obtain ⟨T15, h15, X15, e15, W15, st15⟩ := stB X14 hx hZ e14 B15 (j := ((0 : Int32) + (1 : Int32))) (inb_of S15 ⟨(by decide : ¬ (((0 : Int32) + (1 : Int32)) < (0 : Int32))), (by decide : ((0 : Int32) + (1 : Int32)) < (4 : Int32))⟩) (g := (mkF m 52 #[vr d, vi ((0 : Int32) + (1 : Int32)), vi x] [(.int ((Int32.toInt8 (x >>> ((8 : Int32) &&& 31))).toInt32)), (.int ((0 : Int32) + (1 : Int32))), (.ref d)])) rfl rfl (hb hby d23_52)
  refine Fin.go st15 ?_
  have V15 : Arv Z h15 d kd .byte (4 : Int32) [(.int ((Int32.toInt8 (x >>> ((0 : Int32) &&& 31))).toInt32)), (.int ((Int32.toInt8 (x >>> ((8 : Int32) &&& 31))).toInt32)), (.int y3), (.int y4)] (.int (0 : Int32)) := (by have q : Arv Z h15 d kd .byte (4 : Int32) [(.int ((Int32.toInt8 (x >>> ((0 : Int32) &&& 31))).toInt32)), (.int (nar .byte ((Int32.toInt8 (x >>> ((8 : Int32) &&& 31))).toInt32))), (.int y3), (.int y4)] (.int (0 : Int32)) := (Arv.set B15 q15 S15 M15 H15 G15 (fits_nar_byte _) W15 1 rfl (Nat.le_of_ble_eq_true rfl)); rwa [nar_b8] at q)
  have N15 := Fr.snoc X15 N13 nd
  have O15 := O13.wr W15 nd
  have K15 := K13.wr W15 (Or.inl (List.mem_of_getElem? (i := 0) rfl))
  show Fin _ _ _ _ _ _ _ _ T15 (mkF m 53 #[vr d, vi ((0 : Int32) + (1 : Int32)), vi x] [])
  exact Fin.leaveN X15 e15 hlk (v := none) (fun _ => rfl) (by decide) (by decide) ⟨rfl, N15, K15, V15⟩ (fun fs hr => X15.returnOut hx hret (hb hby d23_53) hr)
theorem rmPut2_1 (l : Launch) (Z : State) (a0 : Array Value) (hw : HW a0 Z) (n0 : Nat) (h0 : Heap) (O : Old Z n0 h0) (d : Addr) (kd : ClassId) (x y1 y2 y3 y4 : Int32) (VD : Arv Z h0 d kd .byte (4 : Int32) [(.int y1), (.int y2), (.int y3), (.int y4)] (.int (0 : Int32))) (nd : n0 ≤ d) (S_as : SAs Z) (S_hb : SHb Z) (S_lb : SLb Z) :
    ConW FrameEnd l Z [] (⟨"java/lang/StringUTF16", "putChar", "([BII)V"⟩ : MethodName) jdk_52_method_4_code 3 none ({ frames := 0, cells := 0, slots := 0, locals := 0 } : Room) #[(.ref d), (.int (1 : Int32)), (.int x)] h0 (fun v h L => v = none ∧ Fr n0 L ∧ Keep h0 h [d] ∧ Arv Z h d kd .byte (4 : Int32) [(.int y1), (.int y2), (.int (lo8 x)), (.int (hi8 x))] (.int (0 : Int32))) := by
  refine conOf (plainFor_of_name pn_java_lang_StringUTF16) ?_
  intro p e s m below mth cc s₁ X0 hx hby hml hown hnm hret hlk hZ e0
  have N0 := Fr.nil n0
  have K0 := Keep.refl h0 ([d] : List Addr)
  refine Fin.came (castTop (t := _) (by first | (simp [entryFrame, mkF, argsToLocals, Value.category]; done) | rfl) (Steps.refl _) : Steps p.tables e below (s₁.setTop (entryFrame m #[(.ref d), (.int (1 : Int32)), (.int x)] 3)) (s₁.setTop (mkF m 0 #[vr d, vi (1 : Int32), vi x] []))) ?_
  obtain ⟨T11, X11, e11, st11⟩ := getS2 X0 hx hZ hown (host := "") (Or.inl (hw _ w_95)) Via.refl e0 (S_as.ext O.2) (g := (mkF m 0 #[vr d, vi (1 : Int32), vi x] [])) rfl (hb hby d23_0)
  refine Fin.go st11 ?_
  show Fin _ _ _ _ _ _ _ _ T11 (mkF m 3 #[vr d, vi (1 : Int32), vi x] [(.int (1 : Int32))])
  refine .go (fun _ k => XS.ifYes X11.here hx rfl (pc0 := 3) (pc' := 28) rfl (hb hby d23_3) rfl (XT.i0_ne_t (by decide)) (by decide) (by decide) k) ?_
  show Fin _ _ _ _ _ _ _ _ T11 (mkF m 28 #[vr d, vi (1 : Int32), vi x] [])
  refine .go (fun _ k => XS.iloadN X11.here hx rfl (hb hby d23_28) rfl k) ?_
  refine .go (fun _ k => XS.iconst X11.here hx rfl (hb hby d23_29) k) ?_
  refine .go (fun _ k => XT.ishl X11.here hx rfl (hb hby d23_30) rfl k) ?_
  refine .go (fun _ k => XS.istoreN X11.here hx rfl (hb hby d23_31) rfl (l' := #[vr d, vi ((1 : Int32) <<< ((1 : Int32) &&& 31)), vi x]) rfl k) ?_
  show Fin _ _ _ _ _ _ _ _ T11 (mkF m 32 #[vr d, vi ((1 : Int32) <<< ((1 : Int32) &&& 31)), vi x] [])
  rw [show ((1 : Int32) <<< ((1 : Int32) &&& 31)) = (2 : Int32) from by decide]
  show Fin _ _ _ _ _ _ _ _ T11 (mkF m 32 #[vr d, vi (2 : Int32), vi x] [])
  refine .go (fun _ k => XS.aloadN X11.here hx rfl (hb hby d23_32) rfl rfl k) ?_
  refine .go (fun _ k => XS.iloadN X11.here hx rfl (hb hby d23_33) rfl k) ?_
  refine .go (fun _ k => XS.iinc X11.here hx rfl (hb hby d23_34) rfl (l' := #[vr d, vi ((2 : Int32) + (1 : Int32)), vi x]) rfl k) ?_
  refine .go (fun _ k => XS.iloadN X11.here hx rfl (hb hby d23_37) rfl k) ?_
  obtain ⟨T12, X12, e12, st12⟩ := getS2 X11 hx hZ hown (host := "") (Or.inl (hw _ w_96)) Via.refl e11 (S_hb.ext O.2) (g := (mkF m 38 #[vr d, vi ((2 : Int32) + (1 : Int32)), vi x] [(.int x), (.int (2 : Int32)), (.ref d)])) rfl (hb hby d23_38)
  refine Fin.go st12 ?_
  show Fin _ _ _ _ _ _ _ _ T12 (mkF m 41 #[vr d, vi ((2 : Int32) + (1 : Int32)), vi x] [(.int (0 : Int32)), (.int x), (.int (2 : Int32)), (.ref d)])
  refine .go (fun _ k => XT.ishr X12.here hx rfl (hb hby d23_41) rfl k) ?_
  refine .go (fun _ k => XT.i2b X12.here hx rfl (hb hby d23_42) rfl k) ?_
  obtain ⟨cz13, B13, q13, S13, M13, H13, G13⟩ := id VD
  obtain ⟨T13, h13, X13, e13, W13, st13⟩ := stB X12 hx hZ e12 B13 (j := (2 : Int32)) (inb_of S13 ⟨(by decide : ¬ ((2 : Int32) < (0 : Int32))), (by decide : (2 : Int32) < (4 : Int32))⟩) (g := (mkF m 43 #[vr d, vi ((2 : Int32) + (1 : Int32)), vi x] [(.int ((Int32.toInt8 (x >>> ((0 : Int32) &&& 31))).toInt32)), (.int (2 : Int32)), (.ref d)])) rfl rfl (hb hby d23_43)
  refine Fin.go st13 ?_
  have V13 : Arv Z h13 d kd .byte (4 : Int32) [(.int y1), (.int y2), (.int ((Int32.toInt8 (x >>> ((0 : Int32) &&& 31))).toInt32)), (.int y4)] (.int (0 : Int32)) := (by have q : Arv Z h13 d kd .byte (4 : Int32) [(.int y1), (.int y2), (.int (nar .byte ((Int32.toInt8 (x >>> ((0 : Int32) &&& 31))).toInt32))), (.int y4)] (.int (0 : Int32)) := (Arv.set B13 q13 S13 M13 H13 G13 (fits_nar_byte _) W13 2 rfl (Nat.le_of_ble_eq_true rfl)); rwa [nar_b8] at q)
  have N13 := Fr.snoc X13 N0 nd
  have O13 := O.wr W13 nd
  have K13 := K0.wr W13 (Or.inl (List.mem_of_getElem? (i := 0) rfl))
  show Fin _ _ _ _ _ _ _ _ T13 (mkF m 44 #[vr d, vi ((2 : Int32) + (1 : Int32)), vi x] [])
  refine .go (fun _ k => XS.aloadN X13.here hx rfl (hb hby d23_44) rfl rfl k) ?_
  refine .go (fun _ k => XS.iloadN X13.here hx rfl (hb hby d23_45) rfl k) ?_
  refine .go (fun _ k => XS.iloadN X13.here hx rfl (hb hby d23_46) rfl k) ?_
  obtain ⟨T14, X14, e14, st14⟩ := getS2 X13 hx hZ hown (host := "") (Or.inl (hw _ w_97)) Via.refl e13 (S_lb.ext O13.2) (g := (mkF m 47 #[vr d, vi ((2 : Int32) + (1 : Int32)), vi x] [(.int x), (.int ((2 : Int32) + (1 : Int32))), (.ref d)])) rfl (hb hby d23_47)
  refine Fin.go st14 ?_
  show Fin _ _ _ _ _ _ _ _ T14 (mkF m 50 #[vr d, vi ((2 : Int32) + (1 : Int32)), vi x] [(.int (8 : Int32)), (.int x), (.int ((2 : Int32) + (1 : Int32))), (.ref d)])
  refine .go (fun _ k => XT.ishr X14.here hx rfl (hb hby d23_50) rfl k) ?_
  refine .go (fun _ k => XT.i2b X14.here hx rfl (hb hby d23_51) rfl k) ?_
  obtain ⟨cz15, B15, q15, S15, M15, H15, G15⟩ := id V13
  obtain ⟨T15, h15, X15, e15, W15, st15⟩ := stB X14 hx hZ e14 B15 (j := ((2 : Int32) + (1 : Int32))) (inb_of S15 ⟨(by decide : ¬ (((2 : Int32) + (1 : Int32)) < (0 : Int32))), (by decide : ((2 : Int32) + (1 : Int32)) < (4 : Int32))⟩) (g := (mkF m 52 #[vr d, vi ((2 : Int32) + (1 : Int32)), vi x] [(.int ((Int32.toInt8 (x >>> ((8 : Int32) &&& 31))).toInt32)), (.int ((2 : Int32) + (1 : Int32))), (.ref d)])) rfl rfl (hb hby d23_52)
  refine Fin.go st15 ?_
  have V15 : Arv Z h15 d kd .byte (4 : Int32) [(.int y1), (.int y2), (.int ((Int32.toInt8 (x >>> ((0 : Int32) &&& 31))).toInt32)), (.int ((Int32.toInt8 (x >>> ((8 : Int32) &&& 31))).toInt32))] (.int (0 : Int32)) := (by have q : Arv Z h15 d kd .byte (4 : Int32) [(.int y1), (.int y2), (.int ((Int32.toInt8 (x >>> ((0 : Int32) &&& 31))).toInt32)), (.int (nar .byte ((Int32.toInt8 (x >>> ((8 : Int32) &&& 31))).toInt32)))] (.int (0 : Int32)) := (Arv.set B15 q15 S15 M15 H15 G15 (fits_nar_byte _) W15 3 rfl (Nat.le_of_ble_eq_true rfl)); rwa [nar_b8] at q)
  have N15 := Fr.snoc X15 N13 nd
  have O15 := O13.wr W15 nd
  have K15 := K13.wr W15 (Or.inl (List.mem_of_getElem? (i := 0) rfl))
  show Fin _ _ _ _ _ _ _ _ T15 (mkF m 53 #[vr d, vi ((2 : Int32) + (1 : Int32)), vi x] [])
  exact Fin.leaveN X15 e15 hlk (v := none) (fun _ => rfl) (by decide) (by decide) ⟨rfl, N15, K15, V15⟩ (fun fs hr => X15.returnOut hx hret (hb hby d23_53) hr)
theorem rmNBL2 (l : Launch) (Z : State) (a0 : Array Value) (hw : HW a0 Z) (n0 : Nat) (h0 : Heap) (O : Old Z n0 h0)  :
    ConW FrameEnd l Z [] (⟨"java/lang/StringUTF16", "newBytesLength", "(I)I"⟩ : MethodName) jdk_52_method_3_code 1 (some .int) ({ frames := 0, cells := 0, slots := 0, locals := 0 } : Room) #[(.int (2 : Int32))] h0 (Pure h0 (some (.int (4 : Int32)))) := by
  refine conOf (plainFor_of_name pn_java_lang_StringUTF16) ?_
  intro p e s m below mth cc s₁ X0 hx hby hml hown hnm hret hlk hZ e0
  have N0 := Fr.nil n0
  refine Fin.came (castTop (t := _) (by first | (simp [entryFrame, mkF, argsToLocals, Value.category]; done) | rfl) (Steps.refl _) : Steps p.tables e below (s₁.setTop (entryFrame m #[(.int (2 : Int32))] 1)) (s₁.setTop (mkF m 0 #[vi (2 : Int32)] []))) ?_
  refine .go (fun _ k => XS.iloadN X0.here hx rfl (hb hby d22_0) rfl k) ?_
  refine .go (fun _ k => XS.ifYes X0.here hx rfl (pc0 := 1) (pc' := 12) rfl (hb hby d22_1) rfl (XT.i0_ge_t (by decide)) (by decide) (by decide) k) ?_
  show Fin _ _ _ _ _ _ _ _ s₁ (mkF m 12 #[vi (2 : Int32)] [])
  refine .go (fun _ k => XS.iloadN X0.here hx rfl (hb hby d22_12) rfl k) ?_
  refine .go (fun _ k => X0.ldcI hx hown (mvT hZ (hw _ w_91)) rfl (hb hby d22_13) k) ?_
  refine .go (fun _ k => XS.icmpYes X0.here hx rfl (pc0 := 15) (pc' := 55) rfl (hb hby d22_15) rfl (XT.ii_lt_t (by decide)) (by decide) (by decide) k) ?_
  show Fin _ _ _ _ _ _ _ _ s₁ (mkF m 55 #[vi (2 : Int32)] [])
  refine .go (fun _ k => XS.iloadN X0.here hx rfl (hb hby d22_55) rfl k) ?_
  refine .go (fun _ k => XS.iconst X0.here hx rfl (hb hby d22_56) k) ?_
  refine .go (fun _ k => XT.ishl X0.here hx rfl (hb hby d22_57) rfl k) ?_
  exact Fin.leaveN X0 e0 hlk (v := some (.int ((2 : Int32) <<< ((1 : Int32) &&& 31)))) (nvS hret) (by decide) (by decide) ⟨by decide +kernel, rfl, rfl⟩ (fun fs hr => retI X0 hx hret (hb hby d22_58) hr)
theorem rmNBF2 (l : Launch) (Z : State) (a0 : Array Value) (hw : HW a0 Z) (n0 : Nat) (h0 : Heap) (O : Old Z n0 h0)  :
    ConW FrameEnd l Z [] (⟨"java/lang/StringUTF16", "newBytesFor", "(I)[B"⟩ : MethodName) jdk_52_method_2_code 1 (some (.array .byte)) ({ frames := 1, cells := 1, slots := 4, locals := 12 } : Room) #[(.int (2 : Int32))] h0 (fun v h L => ∃ d kd, v = some (.ref d) ∧ Fr n0 L ∧ Keep h0 h [] ∧ Arv Z h d kd .byte (4 : Int32) [(.int (0 : Int32)), (.int (0 : Int32)), (.int (0 : Int32)), (.int (0 : Int32))] (.int (0 : Int32)) ∧ h0.size ≤ d) := by
  refine conOf (plainFor_of_name pn_java_lang_StringUTF16) ?_
  intro p e s m below mth cc s₁ X0 hx hby hml hown hnm hret hlk hZ e0
  have N0 := Fr.nil n0
  have K0 := Keep.refl h0 ([] : List Addr)
  refine Fin.came (castTop (t := _) (by first | (simp [entryFrame, mkF, argsToLocals, Value.category]; done) | rfl) (Steps.refl _) : Steps p.tables e below (s₁.setTop (entryFrame m #[(.int (2 : Int32))] 1)) (s₁.setTop (mkF m 0 #[vi (2 : Int32)] []))) ?_
  refine .go (fun _ k => XS.iloadN X0.here hx rfl (hb hby d21_0) rfl k) ?_
  obtain ⟨v11, T11, L11, X11, q11, st11⟩ := callSt X0 hx hZ hown (hw _ w_88) (hw _ w_89) (hw _ w_26) (hw _ w_90) (by decide) (W := 0) (rmNBL2 l Z a0 hw n0 h0 O) e0 (by decide) (by decide) (by decide) (by decide) (g := (mkF m 1 #[vi (2 : Int32)] [(.int (2 : Int32))])) rfl (by rw [hml]; rfl) (argsL := [(.int (2 : Int32))]) (rest := []) (lenOf pd_oIcI rfl) rfl (wk rfl rfl) (hb hby d21_1)
  obtain ⟨rfl, e11, rfl⟩ := q11
  have N11 := Fr.app N0 (Fr.nil n0)
  refine Fin.go st11 ?_
  show Fin _ _ _ _ _ _ _ _ T11 (mkF m 4 #[vi (2 : Int32)] [(.int (4 : Int32))])
  obtain ⟨T12, h12, k12, X12, e12, E12, A12, st12⟩ := newP X11 hx hZ (aty := .byte) (hw _ w_28) e11 (g := (mkF m 4 #[vi (2 : Int32)] [(.int (4 : Int32))])) rfl (hb hby d21_4) rfl (by decide : ¬ ((4 : Int32) < (0 : Int32))) (cap := 4) (by decide) (by decide) (by decide) (by decide)
  obtain ⟨a12, g12⟩ : ∃ z, z = h0.size := ⟨_, rfl⟩
  rw [← g12] at A12 st12
  refine Fin.go st12 ?_
  have O12 := O.ext E12
  have K12 := K0.ext E12
  have n12 : n0 ≤ a12 := by have := O.2.1; have := O.1; omega
  have z12 : h0.size ≤ a12 := by have := K0.1; omega
  have V12 : Arv Z h12 a12 k12 .byte (4 : Int32) [(.int (0 : Int32)), (.int (0 : Int32)), (.int (0 : Int32)), (.int (0 : Int32))] (.int (0 : Int32)) := (Arv.new A12 (by decide)).pad (pad_rep [] (.int (0 : Int32)) 4)
  show Fin _ _ _ _ _ _ _ _ T12 (mkF m 6 #[vi (2 : Int32)] [(.ref a12)])
  exact Fin.leaveN X12 e12 hlk (v := some (.ref a12)) (nvS hret) (by decide) (by decide) ⟨a12, k12, rfl, N11, K12, V12, z12⟩ (fun fs hr => retOut X12 hx hret rfl (Or.inr (Or.inr (Or.inr (Or.inr ⟨rfl, rfl, rfl⟩)))) (hb hby d21_6) hr)
theorem rmTBs2 (l : Launch) (Z : State) (a0 : Array Value) (hw : HW a0 Z) (n0 : Nat) (h0 : Heap) (O : Old Z n0 h0) (b : Addr) (kb : ClassId) (x1 x2 : Int32) (VB : Arv Z h0 b kb .char (2 : Int32) [(.int x1), (.int x2)] (.int (0 : Int32))) (S_as : SAs Z) (S_hb : SHb Z) (S_lb : SLb Z) :
    ConW FrameEnd l Z [] (⟨"java/lang/StringUTF16", "toBytes", "([CII)[B"⟩ : MethodName) jdk_52_method_14_code 5 (some (.array .byte)) ({ frames := 2, cells := 1, slots := 4, locals := 24 } : Room) #[(.ref b), (.int (0 : Int32)), (.int (2 : Int32))] h0 (fun v h L => ∃ d kd, v = some (.ref d) ∧ Fr n0 L ∧ Keep h0 h [] ∧ Arv Z h d kd .byte (4 : Int32) [(.int (lo8 x1)), (.int (hi8 x1)), (.int (lo8 x2)), (.int (hi8 x2))] (.int (0 : Int32)) ∧ h0.size ≤ d) := by
  refine conOf (plainFor_of_name pn_java_lang_StringUTF16) ?_
  intro p e s m below mth cc s₁ X0 hx hby hml hown hnm hret hlk hZ e0
  have N0 := Fr.nil n0
  have K0 := Keep.refl h0 ([] : List Addr)
  refine Fin.came (castTop (t := _) (by first | (simp [entryFrame, mkF, argsToLocals, Value.category]; done) | rfl) (Steps.refl _) : Steps p.tables e below (s₁.setTop (entryFrame m #[(.ref b), (.int (0 : Int32)), (.int (2 : Int32))] 5)) (s₁.setTop (mkF m 0 #[vr b, vi (0 : Int32), vi (2 : Int32), .unset, .unset] []))) ?_
  refine .go (fun _ k => XS.iloadN X0.here hx rfl (hb hby d20_0) rfl k) ?_
  obtain ⟨v11, T11, L11, X11, q11, st11⟩ := callSt X0 hx hZ hown (hw _ w_85) (hw _ w_86) (hw _ w_26) (hw _ w_87) (by decide) (W := 0) (rmNBF2 l Z a0 hw n0 h0 O) e0 (by decide) (by decide) (by decide) (by decide) (g := (mkF m 1 #[vr b, vi (0 : Int32), vi (2 : Int32), .unset, .unset] [(.int (2 : Int32))])) rfl (by rw [hml]; rfl) (argsL := [(.int (2 : Int32))]) (rest := []) (lenOf pd_oIcAB rfl) rfl (wk rfl rfl) (hb hby d20_1)
  obtain ⟨d11, kd11, rfl, Nq11, Kq11, V11, zd11⟩ := q11
  have N11 := Fr.app N0 Nq11
  have O11 := O.keep Kq11 all0
  have K11 := K0.trans Kq11 all0
  refine Fin.go st11 ?_
  show Fin _ _ _ _ _ _ _ _ T11 (mkF m 4 #[vr b, vi (0 : Int32), vi (2 : Int32), .unset, .unset] [(.ref d11)])
  have nzd11 : n0 ≤ d11 := Nat.le_trans (by have := O.1; have := O.2.1; omega) zd11
  have hzd11 : h0.size ≤ d11 := Nat.le_trans K0.1 zd11
  refine .go (fun _ k => XS.astoreN X11.here hx rfl (hb hby d20_4) rfl rfl (l' := #[vr b, vi (0 : Int32), vi (2 : Int32), vr d11, .unset]) rfl k) ?_
  refine .go (fun _ k => XS.iconst X11.here hx rfl (hb hby d20_5) k) ?_
  refine .go (fun _ k => XS.istore X11.here hx rfl (hb hby d20_6) rfl (l' := #[vr b, vi (0 : Int32), vi (2 : Int32), vr d11, vi (0 : Int32)]) rfl k) ?_
  show Fin _ _ _ _ _ _ _ _ T11 (mkF m 8 #[vr b, vi (0 : Int32), vi (2 : Int32), vr d11, vi (0 : Int32)] [])
  refine .go (fun _ k => XS.iload X11.here hx rfl (hb hby d20_8) rfl k) ?_
  refine .go (fun _ k => XS.iloadN X11.here hx rfl (hb hby d20_10) rfl k) ?_
  refine .go (fun _ k => XS.icmpNo X11.here hx rfl (hb hby d20_11) rfl (XT.ii_ge_f (by decide)) k) ?_
  show Fin _ _ _ _ _ _ _ _ T11 (mkF m 14 #[vr b, vi (0 : Int32), vi (2 : Int32), vr d11, vi (0 : Int32)] [])
  refine .go (fun _ k => XS.aloadN X11.here hx rfl (hb hby d20_14) rfl rfl k) ?_
  refine .go (fun _ k => XS.iload X11.here hx rfl (hb hby d20_15) rfl k) ?_
  refine .go (fun _ k => XS.aloadN X11.here hx rfl (hb hby d20_17) rfl rfl k) ?_
  refine .go (fun _ k => XS.iloadN X11.here hx rfl (hb hby d20_18) rfl k) ?_
  obtain ⟨cz12, B12, q12, S12, M12, H12, G12⟩ := id (VB.keep Kq11 nin0)
  have i12 := inb_of S12 ⟨(by decide : ¬ ((0 : Int32) < (0 : Int32))), (by decide : (0 : Int32) < (2 : Int32))⟩
  refine Fin.go (fun _ k => X11.caload hx (j := (0 : Int32)) (v := (.int x1)) (by rw [(rfl : T11.heap = T11.heap)]; exact B12.1) (State.isArrayOf_alike hZ.alike B12.2.1) B12.2.2 i12 (Has.at H12 i12 rfl) (g := (mkF m 19 #[vr b, vi (0 : Int32), vi (2 : Int32), vr d11, vi (0 : Int32)] [(.int (0 : Int32)), (.ref b), (.int (0 : Int32)), (.ref d11)])) rfl rfl (hb hby d20_19) _ k) ?_
  show Fin _ _ _ _ _ _ _ _ T11 (mkF m 20 #[vr b, vi (0 : Int32), vi (2 : Int32), vr d11, vi (0 : Int32)] [(.int x1), (.int (0 : Int32)), (.ref d11)])
  obtain ⟨v13, T13, L13, X13, q13, st13⟩ := callSt X11 hx hZ hown (hw _ w_92) (hw _ w_93) (hw _ w_26) (hw _ w_94) (by decide) (W := 0) (rmPut2_0 l Z a0 hw n0 T11.heap O11 d11 kd11 x1 (0 : Int32) (0 : Int32) (0 : Int32) (0 : Int32) V11 nzd11 S_as S_hb S_lb) (rfl : T11.heap = T11.heap) (by decide) (by decide) (by decide) (by decide) (g := (mkF m 20 #[vr b, vi (0 : Int32), vi (2 : Int32), vr d11, vi (0 : Int32)] [(.int x1), (.int (0 : Int32)), (.ref d11)])) rfl (by rw [hml]; rfl) (argsL := [(.ref d11), (.int (0 : Int32)), (.int x1)]) (rest := []) (lenOf pd_oABIIcV rfl) rfl (wk rfl rfl) (hb hby d20_20)
  obtain ⟨rfl, Nq13, Kq13, V13⟩ := q13
  have N13 := Fr.app N11 Nq13
  have O13 := O11.keep Kq13 (allS nzd11 all0)
  have K13 := K11.trans Kq13 (allS (Or.inr hzd11) all0)
  refine Fin.go st13 ?_
  have V13_b := ((VB.keep Kq11 nin0).keep Kq13 (ninS (Nat.ne_of_lt (Nat.lt_of_lt_of_le VB.lt zd11)) nin0))
  show Fin _ _ _ _ _ _ _ _ T13 (mkF m 23 #[vr b, vi (0 : Int32), vi (2 : Int32), vr d11, vi (0 : Int32)] [])
  refine .go (fun _ k => XS.iinc X13.here hx rfl (hb hby d20_23) rfl (l' := #[vr b, vi ((0 : Int32) + (1 : Int32)), vi (2 : Int32), vr d11, vi (0 : Int32)]) rfl k) ?_
  refine .go (fun _ k => XS.iinc X13.here hx rfl (hb hby d20_26) rfl (l' := #[vr b, vi ((0 : Int32) + (1 : Int32)), vi (2 : Int32), vr d11, vi ((0 : Int32) + (1 : Int32))]) rfl k) ?_
  refine .go (fun _ k => XS.goto X13.here hx rfl (pc0 := 29) (pc' := 8) rfl (hb hby d20_29) (by decide) (by decide) k) ?_
  show Fin _ _ _ _ _ _ _ _ T13 (mkF m 8 #[vr b, vi ((0 : Int32) + (1 : Int32)), vi (2 : Int32), vr d11, vi ((0 : Int32) + (1 : Int32))] [])
  rw [show ((0 : Int32) + (1 : Int32)) = (1 : Int32) from by decide]
  show Fin _ _ _ _ _ _ _ _ T13 (mkF m 8 #[vr b, vi ((0 : Int32) + (1 : Int32)), vi (2 : Int32), vr d11, vi (1 : Int32)] [])
  rw [show ((0 : Int32) + (1 : Int32)) = (1 : Int32) from by decide]
  show Fin _ _ _ _ _ _ _ _ T13 (mkF m 8 #[vr b, vi (1 : Int32), vi (2 : Int32), vr d11, vi (1 : Int32)] [])
  refine .go (fun _ k => XS.iload X13.here hx rfl (hb hby d20_8) rfl k) ?_
  refine .go (fun _ k => XS.iloadN X13.here hx rfl (hb hby d20_10) rfl k) ?_
  refine .go (fun _ k => XS.icmpNo X13.here hx rfl (hb hby d20_11) rfl (XT.ii_ge_f (by decide)) k) ?_
  show Fin _ _ _ _ _ _ _ _ T13 (mkF m 14 #[vr b, vi (1 : Int32), vi (2 : Int32), vr d11, vi (1 : Int32)] [])
  refine .go (fun _ k => XS.aloadN X13.here hx rfl (hb hby d20_14) rfl rfl k) ?_
  refine .go (fun _ k => XS.iload X13.here hx rfl (hb hby d20_15) rfl k) ?_
  refine .go (fun _ k => XS.aloadN X13.here hx rfl (hb hby d20_17) rfl rfl k) ?_
  refine .go (fun _ k => XS.iloadN X13.here hx rfl (hb hby d20_18) rfl k) ?_
  obtain ⟨cz14, B14, q14, S14, M14, H14, G14⟩ := id V13_b
  have i14 := inb_of S14 ⟨(by decide : ¬ ((1 : Int32) < (0 : Int32))), (by decide : (1 : Int32) < (2 : Int32))⟩
  refine Fin.go (fun _ k => X13.caload hx (j := (1 : Int32)) (v := (.int x2)) (by rw [(rfl : T13.heap = T13.heap)]; exact B14.1) (State.isArrayOf_alike hZ.alike B14.2.1) B14.2.2 i14 (Has.at H14 i14 rfl) (g := (mkF m 19 #[vr b, vi (1 : Int32), vi (2 : Int32), vr d11, vi (1 : Int32)] [(.int (1 : Int32)), (.ref b), (.int (1 : Int32)), (.ref d11)])) rfl rfl (hb hby d20_19) _ k) ?_
  show Fin _ _ _ _ _ _ _ _ T13 (mkF m 20 #[vr b, vi (1 : Int32), vi (2 : Int32), vr d11, vi (1 : Int32)] [(.int x2), (.int (1 : Int32)), (.ref d11)])
  obtain ⟨v15, T15, L15, X15, q15, st15⟩ := callSt X13 hx hZ hown (hw _ w_92) (hw _ w_93) (hw _ w_26) (hw _ w_94) (by decide) (W := 0) (rmPut2_1 l Z a0 hw n0 T13.heap O13 d11 kd11 x2 (lo8 x1) (hi8 x1) (0 : Int32) (0 : Int32) V13 nzd11 S_as S_hb S_lb) (rfl : T13.heap = T13.heap) (by decide) (by decide) (by decide) (by decide) (g := (mkF m 20 #[vr b, vi (1 : Int32), vi (2 : Int32), vr d11, vi (1 : Int32)] [(.int x2), (.int (1 : Int32)), (.ref d11)])) rfl (by rw [hml]; rfl) (argsL := [(.ref d11), (.int (1 : Int32)), (.int x2)]) (rest := []) (lenOf pd_oABIIcV rfl) rfl (wk rfl rfl) (hb hby d20_20)
  obtain ⟨rfl, Nq15, Kq15, V15⟩ := q15
  have N15 := Fr.app N13 Nq15
  have O15 := O13.keep Kq15 (allS nzd11 all0)
  have K15 := K13.trans Kq15 (allS (Or.inr hzd11) all0)
  refine Fin.go st15 ?_
  have V15_b := (V13_b.keep Kq15 (ninS (Nat.ne_of_lt (Nat.lt_of_lt_of_le VB.lt zd11)) nin0))
  show Fin _ _ _ _ _ _ _ _ T15 (mkF m 23 #[vr b, vi (1 : Int32), vi (2 : Int32), vr d11, vi (1 : Int32)] [])
  refine .go (fun _ k => XS.iinc X15.here hx rfl (hb hby d20_23) rfl (l' := #[vr b, vi ((1 : Int32) + (1 : Int32)), vi (2 : Int32), vr d11, vi (1 : Int32)]) rfl k) ?_
  refine .go (fun _ k => XS.iinc X15.here hx rfl (hb hby d20_26) rfl (l' := #[vr b, vi ((1 : Int32) + (1 : Int32)), vi (2 : Int32), vr d11, vi ((1 : Int32) + (1 : Int32))]) rfl k) ?_
  refine .go (fun _ k => XS.goto X15.here hx rfl (pc0 := 29) (pc' := 8) rfl (hb hby d20_29) (by decide) (by decide) k) ?_
  show Fin _ _ _ _ _ _ _ _ T15 (mkF m 8 #[vr b, vi ((1 : Int32) + (1 : Int32)), vi (2 : Int32), vr d11, vi ((1 : Int32) + (1 : Int32))] [])
  rw [show ((1 : Int32) + (1 : Int32)) = (2 : Int32) from by decide]
  show Fin _ _ _ _ _ _ _ _ T15 (mkF m 8 #[vr b, vi ((1 : Int32) + (1 : Int32)), vi (2 : Int32), vr d11, vi (2 : Int32)] [])
  rw [show ((1 : Int32) + (1 : Int32)) = (2 : Int32) from by decide]
  show Fin _ _ _ _ _ _ _ _ T15 (mkF m 8 #[vr b, vi (2 : Int32), vi (2 : Int32), vr d11, vi (2 : Int32)] [])
  refine .go (fun _ k => XS.iload X15.here hx rfl (hb hby d20_8) rfl k) ?_
  refine .go (fun _ k => XS.iloadN X15.here hx rfl (hb hby d20_10) rfl k) ?_
  refine .go (fun _ k => XS.icmpYes X15.here hx rfl (pc0 := 11) (pc' := 32) rfl (hb hby d20_11) rfl (XT.ii_ge_t (by decide)) (by decide) (by decide) k) ?_
  show Fin _ _ _ _ _ _ _ _ T15 (mkF m 32 #[vr b, vi (2 : Int32), vi (2 : Int32), vr d11, vi (2 : Int32)] [])
  refine .go (fun _ k => XS.aloadN X15.here hx rfl (hb hby d20_32) rfl rfl k) ?_
  exact Fin.leaveN X15 (rfl : T15.heap = T15.heap) hlk (v := some (.ref d11)) (nvS hret) (by decide) (by decide) ⟨d11, kd11, rfl, N15, K15, V15, hzd11⟩ (fun fs hr => retOut X15 hx hret rfl (Or.inr (Or.inr (Or.inr (Or.inr ⟨rfl, rfl, rfl⟩)))) (hb hby d20_33) hr)
theorem rmCBu2_0 (l : Launch) (Z : State) (a0 : Array Value) (hw : HW a0 Z) (n0 : Nat) (h0 : Heap) (O : Old Z n0 h0) (b d : Addr) (kb kd : ClassId) (x1 x2 : Int32) (VB : Arv Z h0 b kb .char (2 : Int32) [(.int x1), (.int x2)] (.int (0 : Int32))) (VD : Arv Z h0 d kd .byte (2 : Int32) [(.int (0 : Int32)), (.int (0 : Int32))] (.int (0 : Int32)))  (hq : (255 : Int32) < x1) (nd : n0 ≤ d) (nbd : b ≠ d) :
    ConW FrameEnd l Z [] (⟨"java/lang/StringUTF16", "compress", "([CI[BII)I"⟩ : MethodName) jdk_52_method_21_code 7 (some .int) ({ frames := 0, cells := 0, slots := 0, locals := 0 } : Room) #[(.ref b), (.int (0 : Int32)), (.ref d), (.int (0 : Int32)), (.int (2 : Int32))] h0 (fun v h L => v = some (.int (0 : Int32)) ∧ Fr n0 L ∧ Keep h0 h [d]) := by
  refine conOf (plainFor_of_name pn_java_lang_StringUTF16) ?_
  intro p e s m below mth cc s₁ X0 hx hby hml hown hnm hret hlk hZ e0
  have N0 := Fr.nil n0
  have K0 := Keep.refl h0 ([d] : List Addr)
  refine Fin.came (castTop (t := _) (by first | (simp [entryFrame, mkF, argsToLocals, Value.category]; done) | rfl) (Steps.refl _) : Steps p.tables e below (s₁.setTop (entryFrame m #[(.ref b), (.int (0 : Int32)), (.ref d), (.int (0 : Int32)), (.int (2 : Int32))] 7)) (s₁.setTop (mkF m 0 #[vr b, vi (0 : Int32), vr d, vi (0 : Int32), vi (2 : Int32), .unset, .unset] []))) ?_
  refine .go (fun _ k => XS.iconst X0.here hx rfl (hb hby d7_0) k) ?_
  refine .go (fun _ k => XS.istore X0.here hx rfl (hb hby d7_1) rfl (l' := #[vr b, vi (0 : Int32), vr d, vi (0 : Int32), vi (2 : Int32), vi (0 : Int32), .unset]) rfl k) ?_
  refine .go (fun _ k => XS.iload X0.here hx rfl (hb hby d7_3) rfl k) ?_
  refine .go (fun _ k => XS.iload X0.here hx rfl (hb hby d7_5) rfl k) ?_
  refine .go (fun _ k => XS.icmpNo X0.here hx rfl (hb hby d7_7) rfl (XT.ii_ge_f (by decide)) k) ?_
  show Fin _ _ _ _ _ _ _ _ s₁ (mkF m 10 #[vr b, vi (0 : Int32), vr d, vi (0 : Int32), vi (2 : Int32), vi (0 : Int32), .unset] [])
  refine .go (fun _ k => XS.aloadN X0.here hx rfl (hb hby d7_10) rfl rfl k) ?_
  refine .go (fun _ k => XS.iloadN X0.here hx rfl (hb hby d7_11) rfl k) ?_
  obtain ⟨cz11, B11, q11, S11, M11, H11, G11⟩ := id VB
  have i11 := inb_of S11 ⟨(by decide : ¬ ((0 : Int32) < (0 : Int32))), (by decide : (0 : Int32) < (2 : Int32))⟩
  refine Fin.go (fun _ k => X0.caload hx (j := (0 : Int32)) (v := (.int x1)) (by rw [e0]; exact B11.1) (State.isArrayOf_alike hZ.alike B11.2.1) B11.2.2 i11 (Has.at H11 i11 rfl) (g := (mkF m 12 #[vr b, vi (0 : Int32), vr d, vi (0 : Int32), vi (2 : Int32), vi (0 : Int32), .unset] [(.int (0 : Int32)), (.ref b)])) rfl rfl (hb hby d7_12) _ k) ?_
  show Fin _ _ _ _ _ _ _ _ s₁ (mkF m 13 #[vr b, vi (0 : Int32), vr d, vi (0 : Int32), vi (2 : Int32), vi (0 : Int32), .unset] [(.int x1)])
  refine .go (fun _ k => XS.istore X0.here hx rfl (hb hby d7_13) rfl (l' := #[vr b, vi (0 : Int32), vr d, vi (0 : Int32), vi (2 : Int32), vi (0 : Int32), vi x1]) rfl k) ?_
  refine .go (fun _ k => XS.iload X0.here hx rfl (hb hby d7_15) rfl k) ?_
  refine .go (fun _ k => XS.sipush X0.here hx rfl (hb hby d7_17) k) ?_
  refine .go (fun _ k => XS.icmpNo X0.here hx rfl (hb hby d7_20) rfl (XT.ii_le_f hq) k) ?_
  show Fin _ _ _ _ _ _ _ _ s₁ (mkF m 23 #[vr b, vi (0 : Int32), vr d, vi (0 : Int32), vi (2 : Int32), vi (0 : Int32), vi x1] [])
  refine .go (fun _ k => XS.iload X0.here hx rfl (hb hby d7_23) rfl k) ?_
  exact Fin.leaveN X0 e0 hlk (v := some (.int (0 : Int32))) (nvS hret) (by decide) (by decide) ⟨by decide +kernel, N0, K0⟩ (fun fs hr => retI X0 hx hret (hb hby d7_25) hr)
theorem rmCAu2_0 (l : Launch) (Z : State) (a0 : Array Value) (hw : HW a0 Z) (n0 : Nat) (h0 : Heap) (O : Old Z n0 h0) (b : Addr) (kb : ClassId) (x1 x2 : Int32) (VB : Arv Z h0 b kb .char (2 : Int32) [(.int x1), (.int x2)] (.int (0 : Int32))) (hc1 : ChI x1) (hc2 : ChI x2)  (hq : (255 : Int32) < x1) (S_as : SAs Z) (S_hb : SHb Z) (S_lb : SLb Z) :
    ConW FrameEnd l Z [] (⟨"java/lang/StringUTF16", "compress", "([CII)[B"⟩ : MethodName) jdk_52_method_16_code 6 (some (.array .byte)) ({ frames := 3, cells := 2, slots := 6, locals := 40 } : Room) #[(.ref b), (.int (0 : Int32)), (.int (2 : Int32))] h0 (fun v h L => ∃ d kd, v = some (.ref d) ∧ Fr n0 L ∧ Keep h0 h [] ∧ Arv Z h d kd .byte (4 : Int32) [(.int (lo8 x1)), (.int (hi8 x1)), (.int (lo8 x2)), (.int (hi8 x2))] (.int (0 : Int32)) ∧ h0.size ≤ d) := by
  refine conOf (plainFor_of_name pn_java_lang_StringUTF16) ?_
  intro p e s m below mth cc s₁ X0 hx hby hml hown hnm hret hlk hZ e0
  have N0 := Fr.nil n0
  have K0 := Keep.refl h0 ([] : List Addr)
  refine Fin.came (castTop (t := _) (by first | (simp [entryFrame, mkF, argsToLocals, Value.category]; done) | rfl) (Steps.refl _) : Steps p.tables e below (s₁.setTop (entryFrame m #[(.ref b), (.int (0 : Int32)), (.int (2 : Int32))] 6)) (s₁.setTop (mkF m 0 #[vr b, vi (0 : Int32), vi (2 : Int32), .unset, .unset, .unset] []))) ?_
  refine .go (fun _ k => XS.iloadN X0.here hx rfl (hb hby d6_0) rfl k) ?_
  obtain ⟨T11, h11, k11, X11, e11, E11, A11, st11⟩ := newP X0 hx hZ (aty := .byte) (hw _ w_28) e0 (g := (mkF m 1 #[vr b, vi (0 : Int32), vi (2 : Int32), .unset, .unset, .unset] [(.int (2 : Int32))])) rfl (hb hby d6_1) rfl (by decide : ¬ ((2 : Int32) < (0 : Int32))) (cap := 2) (by decide) (by decide) (by decide) (by decide)
  obtain ⟨a11, g11⟩ : ∃ z, z = h0.size := ⟨_, rfl⟩
  rw [← g11] at A11 st11
  refine Fin.go st11 ?_
  have O11 := O.ext E11
  have K11 := K0.ext E11
  have n11 : n0 ≤ a11 := by have := O.2.1; have := O.1; omega
  have z11 : h0.size ≤ a11 := by have := K0.1; omega
  have V11 : Arv Z h11 a11 k11 .byte (2 : Int32) [(.int (0 : Int32)), (.int (0 : Int32))] (.int (0 : Int32)) := (Arv.new A11 (by decide)).pad (pad_rep [] (.int (0 : Int32)) 2)
  show Fin _ _ _ _ _ _ _ _ T11 (mkF m 3 #[vr b, vi (0 : Int32), vi (2 : Int32), .unset, .unset, .unset] [(.ref a11)])
  refine .go (fun _ k => XS.astoreN X11.here hx rfl (hb hby d6_3) rfl rfl (l' := #[vr b, vi (0 : Int32), vi (2 : Int32), vr a11, .unset, .unset]) rfl k) ?_
  refine .go (fun _ k => XS.aloadN X11.here hx rfl (hb hby d6_4) rfl rfl k) ?_
  refine .go (fun _ k => XS.iloadN X11.here hx rfl (hb hby d6_5) rfl k) ?_
  refine .go (fun _ k => XS.aloadN X11.here hx rfl (hb hby d6_6) rfl rfl k) ?_
  refine .go (fun _ k => XS.iconst X11.here hx rfl (hb hby d6_7) k) ?_
  refine .go (fun _ k => XS.iloadN X11.here hx rfl (hb hby d6_8) rfl k) ?_
  obtain ⟨v12, T12, L12, X12, q12, st12⟩ := callSt X11 hx hZ hown (hw _ w_29) (hw _ w_30) (hw _ w_26) (hw _ w_31) (by decide) (W := 0) (rmCBu2_0 l Z a0 hw n0 h11 O11 b a11 kb k11 x1 x2 (VB.ext E11) V11  hq n11 (Nat.ne_of_lt (Nat.lt_of_lt_of_eq VB.lt g11.symm))) e11 (by decide) (by decide) (by decide) (by decide) (g := (mkF m 9 #[vr b, vi (0 : Int32), vi (2 : Int32), vr a11, .unset, .unset] [(.int (2 : Int32)), (.int (0 : Int32)), (.ref a11), (.int (0 : Int32)), (.ref b)])) rfl (by rw [hml]; rfl) (argsL := [(.ref b), (.int (0 : Int32)), (.ref a11), (.int (0 : Int32)), (.int (2 : Int32))]) (rest := []) (lenOf pd_oACIABIIcI rfl) rfl (wk rfl rfl) (hb hby d6_9)
  obtain ⟨rfl, Nq12, Kq12⟩ := q12
  have N12 := Fr.app N0 Nq12
  have O12 := O11.keep Kq12 (allS n11 all0)
  have K12 := K11.trans Kq12 (allS (Or.inr z11) all0)
  refine Fin.go st12 ?_
  have V12_b := ((VB.ext E11).keep Kq12 (ninS (Nat.ne_of_lt (Nat.lt_of_lt_of_eq VB.lt g11.symm)) nin0))
  show Fin _ _ _ _ _ _ _ _ T12 (mkF m 12 #[vr b, vi (0 : Int32), vi (2 : Int32), vr a11, .unset, .unset] [(.int (0 : Int32))])
  refine .go (fun _ k => XS.istore X12.here hx rfl (hb hby d6_12) rfl (l' := #[vr b, vi (0 : Int32), vi (2 : Int32), vr a11, vi (0 : Int32), .unset]) rfl k) ?_
  refine .go (fun _ k => XS.iload X12.here hx rfl (hb hby d6_14) rfl k) ?_
  refine .go (fun _ k => XS.iloadN X12.here hx rfl (hb hby d6_16) rfl k) ?_
  refine .go (fun _ k => XS.icmpNo X12.here hx rfl (hb hby d6_17) rfl (XT.ii_eq_f (by decide)) k) ?_
  show Fin _ _ _ _ _ _ _ _ T12 (mkF m 20 #[vr b, vi (0 : Int32), vi (2 : Int32), vr a11, vi (0 : Int32), .unset] [])
  refine .go (fun _ k => XS.aloadN X12.here hx rfl (hb hby d6_20) rfl rfl k) ?_
  refine .go (fun _ k => XS.iloadN X12.here hx rfl (hb hby d6_21) rfl k) ?_
  refine .go (fun _ k => XS.iloadN X12.here hx rfl (hb hby d6_22) rfl k) ?_
  obtain ⟨v13, T13, L13, X13, q13, st13⟩ := callSt X12 hx hZ hown (hw _ w_82) (hw _ w_83) (hw _ w_26) (hw _ w_84) (by decide) (W := 0) (rmTBs2 l Z a0 hw n0 T12.heap O12 b kb x1 x2 V12_b S_as S_hb S_lb) (rfl : T12.heap = T12.heap) (by decide) (by decide) (by decide) (by decide) (g := (mkF m 23 #[vr b, vi (0 : Int32), vi (2 : Int32), vr a11, vi (0 : Int32), .unset] [(.int (2 : Int32)), (.int (0 : Int32)), (.ref b)])) rfl (by rw [hml]; rfl) (argsL := [(.ref b), (.int (0 : Int32)), (.int (2 : Int32))]) (rest := []) (lenOf pd_oACIIcAB rfl) rfl (wk rfl rfl) (hb hby d6_23)
  obtain ⟨d13, kd13, rfl, Nq13, Kq13, V13, zd13⟩ := q13
  have N13 := Fr.app N12 Nq13
  have O13 := O12.keep Kq13 all0
  have K13 := K12.trans Kq13 all0
  refine Fin.go st13 ?_
  show Fin _ _ _ _ _ _ _ _ T13 (mkF m 26 #[vr b, vi (0 : Int32), vi (2 : Int32), vr a11, vi (0 : Int32), .unset] [(.ref d13)])
  have nzd13 : n0 ≤ d13 := Nat.le_trans (by have := O12.1; have := O12.2.1; omega) zd13
  have hzd13 : h0.size ≤ d13 := Nat.le_trans K12.1 zd13
  refine .go (fun _ k => XS.astore X13.here hx rfl (hb hby d6_26) rfl rfl (l' := #[vr b, vi (0 : Int32), vi (2 : Int32), vr a11, vi (0 : Int32), vr d13]) rfl k) ?_
  refine .go (fun _ k => XS.aload X13.here hx rfl (hb hby d6_28) rfl rfl k) ?_
  refine .go (fun _ k => XS.iload X13.here hx rfl (hb hby d6_30) rfl k) ?_
  obtain ⟨v14, T14, L14, X14, q14, st14⟩ := callSt X13 hx hZ hown (hw _ w_98) (hw _ w_99) (hw _ w_26) (hw _ w_100) (by decide) (W := 0) (rmGet2_0 l Z a0 hw n0 T13.heap O13 d13 kd13 x1 x2 hc1 V13 S_as S_hb S_lb) (rfl : T13.heap = T13.heap) (by decide) (by decide) (by decide) (by decide) (g := (mkF m 32 #[vr b, vi (0 : Int32), vi (2 : Int32), vr a11, vi (0 : Int32), vr d13] [(.int (0 : Int32)), (.ref d13)])) rfl (by rw [hml]; rfl) (argsL := [(.ref d13), (.int (0 : Int32))]) (rest := []) (lenOf pd_oABIcC rfl) rfl (wk rfl rfl) (hb hby d6_32)
  obtain ⟨rfl, e14, rfl⟩ := q14
  have N14 := Fr.app N13 (Fr.nil n0)
  refine Fin.go st14 ?_
  show Fin _ _ _ _ _ _ _ _ T14 (mkF m 35 #[vr b, vi (0 : Int32), vi (2 : Int32), vr a11, vi (0 : Int32), vr d13] [(.int x1)])
  refine .go (fun _ k => XS.sipush X14.here hx rfl (hb hby d6_35) k) ?_
  refine .go (fun _ k => XS.icmpYes X14.here hx rfl (pc0 := 38) (pc' := 54) rfl (hb hby d6_38) rfl (XT.ii_gt_t hq) (by decide) (by decide) k) ?_
  show Fin _ _ _ _ _ _ _ _ T14 (mkF m 54 #[vr b, vi (0 : Int32), vi (2 : Int32), vr a11, vi (0 : Int32), vr d13] [])
  refine .go (fun _ k => XS.aload X14.here hx rfl (hb hby d6_54) rfl rfl k) ?_
  exact Fin.leaveN X14 e14 hlk (v := some (.ref d13)) (nvS hret) (by decide) (by decide) ⟨d13, kd13, rfl, N14, K13, V13, hzd13⟩ (fun fs hr => retOut X14 hx hret rfl (Or.inr (Or.inr (Or.inr (Or.inr ⟨rfl, rfl, rfl⟩)))) (hb hby d6_56) hr)
theorem rmCBu2_1 (l : Launch) (Z : State) (a0 : Array Value) (hw : HW a0 Z) (n0 : Nat) (h0 : Heap) (O : Old Z n0 h0) (b d : Addr) (kb kd : ClassId) (x1 x2 : Int32) (VB : Arv Z h0 b kb .char (2 : Int32) [(.int x1), (.int x2)] (.int (0 : Int32))) (VD : Arv Z h0 d kd .byte (2 : Int32) [(.int (0 : Int32)), (.int (0 : Int32))] (.int (0 : Int32))) (hp1 : ¬ (255 : Int32) < x1) (hq : (255 : Int32) < x2) (nd : n0 ≤ d) (nbd : b ≠ d) :
    ConW FrameEnd l Z [] (⟨"java/lang/StringUTF16", "compress", "([CI[BII)I"⟩ : MethodName) jdk_52_method_21_code 7 (some .int) ({ frames := 0, cells := 0, slots := 0, locals := 0 } : Room) #[(.ref b), (.int (0 : Int32)), (.ref d), (.int (0 : Int32)), (.int (2 : Int32))] h0 (fun v h L => v = some (.int (1 : Int32)) ∧ Fr n0 L ∧ Keep h0 h [d]) := by
  refine conOf (plainFor_of_name pn_java_lang_StringUTF16) ?_
  intro p e s m below mth cc s₁ X0 hx hby hml hown hnm hret hlk hZ e0
  have N0 := Fr.nil n0
  have K0 := Keep.refl h0 ([d] : List Addr)
  refine Fin.came (castTop (t := _) (by first | (simp [entryFrame, mkF, argsToLocals, Value.category]; done) | rfl) (Steps.refl _) : Steps p.tables e below (s₁.setTop (entryFrame m #[(.ref b), (.int (0 : Int32)), (.ref d), (.int (0 : Int32)), (.int (2 : Int32))] 7)) (s₁.setTop (mkF m 0 #[vr b, vi (0 : Int32), vr d, vi (0 : Int32), vi (2 : Int32), .unset, .unset] []))) ?_
  refine .go (fun _ k => XS.iconst X0.here hx rfl (hb hby d7_0) k) ?_
  refine .go (fun _ k => XS.istore X0.here hx rfl (hb hby d7_1) rfl (l' := #[vr b, vi (0 : Int32), vr d, vi (0 : Int32), vi (2 : Int32), vi (0 : Int32), .unset]) rfl k) ?_
  refine .go (fun _ k => XS.iload X0.here hx rfl (hb hby d7_3) rfl k) ?_
  refine .go (fun _ k => XS.iload X0.here hx rfl (hb hby d7_5) rfl k) ?_
  refine .go (fun _ k => XS.icmpNo X0.here hx rfl (hb hby d7_7) rfl (XT.ii_ge_f (by decide)) k) ?_
  show Fin _ _ _ _ _ _ _ _ s₁ (mkF m 10 #[vr b, vi (0 : Int32), vr d, vi (0 : Int32), vi (2 : Int32), vi (0 : Int32), .unset] [])
  refine .go (fun _ k => XS.aloadN X0.here hx rfl (hb hby d7_10) rfl rfl k) ?_
  refine .go (fun _ k => XS.iloadN X0.here hx rfl (hb hby d7_11) rfl k) ?_
  obtain ⟨cz11, B11, q11, S11, M11, H11, G11⟩ := id VB
  have i11 := inb_of S11 ⟨(by decide : ¬ ((0 : Int32) < (0 : Int32))), (by decide : (0 : Int32) < (2 : Int32))⟩
  refine Fin.go (fun _ k => X0.caload hx (j := (0 : Int32)) (v := (.int x1)) (by rw [e0]; exact B11.1) (State.isArrayOf_alike hZ.alike B11.2.1) B11.2.2 i11 (Has.at H11 i11 rfl) (g := (mkF m 12 #[vr b, vi (0 : Int32), vr d, vi (0 : Int32), vi (2 : Int32), vi (0 : Int32), .unset] [(.int (0 : Int32)), (.ref b)])) rfl rfl (hb hby d7_12) _ k) ?_
  show Fin _ _ _ _ _ _ _ _ s₁ (mkF m 13 #[vr b, vi (0 : Int32), vr d, vi (0 : Int32), vi (2 : Int32), vi (0 : Int32), .unset] [(.int x1)])
  refine .go (fun _ k => XS.istore X0.here hx rfl (hb hby d7_13) rfl (l' := #[vr b, vi (0 : Int32), vr d, vi (0 : Int32), vi (2 : Int32), vi (0 : Int32), vi x1]) rfl k) ?_
  refine .go (fun _ k => XS.iload X0.here hx rfl (hb hby d7_15) rfl k) ?_
  refine .go (fun _ k => XS.sipush X0.here hx rfl (hb hby d7_17) k) ?_
  refine .go (fun _ k => XS.icmpYes X0.here hx rfl (pc0 := 20) (pc' := 26) rfl (hb hby d7_20) rfl (XT.ii_le_t hp1) (by decide) (by decide) k) ?_
  show Fin _ _ _ _ _ _ _ _ s₁ (mkF m 26 #[vr b, vi (0 : Int32), vr d, vi (0 : Int32), vi (2 : Int32), vi (0 : Int32), vi x1] [])
  refine .go (fun _ k => XS.aloadN X0.here hx rfl (hb hby d7_26) rfl rfl k) ?_
  refine .go (fun _ k => XS.iloadN X0.here hx rfl (hb hby d7_27) rfl k) ?_
  refine .go (fun _ k => XS.iload X0.here hx rfl (hb hby d7_28) rfl k) ?_
  refine .go (fun _ k => XT.i2b X0.here hx rfl (hb hby d7_30) rfl k) ?_
  obtain ⟨cz12, B12, q12, S12, M12, H12, G12⟩ := id VD
  obtain ⟨T12, h12, X12, e12, W12, st12⟩ := stB X0 hx hZ e0 B12 (j := (0 : Int32)) (inb_of S12 ⟨(by decide : ¬ ((0 : Int32) < (0 : Int32))), (by decide : (0 : Int32) < (2 : Int32))⟩) (g := (mkF m 31 #[vr b, vi (0 : Int32), vr d, vi (0 : Int32), vi (2 : Int32), vi (0 : Int32), vi x1] [(.int ((Int32.toInt8 x1).toInt32)), (.int (0 : Int32)), (.ref d)])) rfl rfl (hb hby d7_31)
  refine Fin.go st12 ?_
  have V12 : Arv Z h12 d kd .byte (2 : Int32) [(.int ((Int32.toInt8 x1).toInt32)), (.int (0 : Int32))] (.int (0 : Int32)) := (by have q : Arv Z h12 d kd .byte (2 : Int32) [(.int (nar .byte ((Int32.toInt8 x1).toInt32))), (.int (0 : Int32))] (.int (0 : Int32)) := (Arv.set B12 q12 S12 M12 H12 G12 (fits_nar_byte _) W12 0 rfl (Nat.le_of_ble_eq_true rfl)); rwa [nar_b8] at q)
  have N12 := Fr.snoc X12 N0 nd
  have O12 := O.wr W12 nd
  have K12 := K0.wr W12 (Or.inl (List.mem_of_getElem? (i := 0) rfl))
  show Fin _ _ _ _ _ _ _ _ T12 (mkF m 32 #[vr b, vi (0 : Int32), vr d, vi (0 : Int32), vi (2 : Int32), vi (0 : Int32), vi x1] [])
  refine .go (fun _ k => XS.iinc X12.here hx rfl (hb hby d7_32) rfl (l' := #[vr b, vi ((0 : Int32) + (1 : Int32)), vr d, vi (0 : Int32), vi (2 : Int32), vi (0 : Int32), vi x1]) rfl k) ?_
  refine .go (fun _ k => XS.iinc X12.here hx rfl (hb hby d7_35) rfl (l' := #[vr b, vi ((0 : Int32) + (1 : Int32)), vr d, vi ((0 : Int32) + (1 : Int32)), vi (2 : Int32), vi (0 : Int32), vi x1]) rfl k) ?_
  refine .go (fun _ k => XS.iinc X12.here hx rfl (hb hby d7_38) rfl (l' := #[vr b, vi ((0 : Int32) + (1 : Int32)), vr d, vi ((0 : Int32) + (1 : Int32)), vi (2 : Int32), vi ((0 : Int32) + (1 : Int32)), vi x1]) rfl k) ?_
  refine .go (fun _ k => XS.goto X12.here hx rfl (pc0 := 41) (pc' := 3) rfl (hb hby d7_41) (by decide) (by decide) k) ?_
  refine .go (fun _ k => XS.iload X12.here hx rfl (hb hby d7_3) rfl k) ?_
  refine .go (fun _ k => XS.iload X12.here hx rfl (hb hby d7_5) rfl k) ?_
  refine .go (fun _ k => XS.icmpNo X12.here hx rfl (hb hby d7_7) rfl (XT.ii_ge_f (by decide)) k) ?_
  show Fin _ _ _ _ _ _ _ _ T12 (mkF m 10 #[vr b, vi ((0 : Int32) + (1 : Int32)), vr d, vi ((0 : Int32) + (1 : Int32)), vi (2 : Int32), vi ((0 : Int32) + (1 : Int32)), vi x1] [])
  refine .go (fun _ k => XS.aloadN X12.here hx rfl (hb hby d7_10) rfl rfl k) ?_
  refine .go (fun _ k => XS.iloadN X12.here hx rfl (hb hby d7_11) rfl k) ?_
  obtain ⟨cz13, B13, q13, S13, M13, H13, G13⟩ := id (VB.other W12 nbd)
  have i13 := inb_of S13 ⟨(by decide : ¬ (((0 : Int32) + (1 : Int32)) < (0 : Int32))), (by decide : ((0 : Int32) + (1 : Int32)) < (2 : Int32))⟩
  refine Fin.go (fun _ k => X12.caload hx (j := ((0 : Int32) + (1 : Int32))) (v := (.int x2)) (by rw [e12]; exact B13.1) (State.isArrayOf_alike hZ.alike B13.2.1) B13.2.2 i13 (Has.at H13 i13 rfl) (g := (mkF m 12 #[vr b, vi ((0 : Int32) + (1 : Int32)), vr d, vi ((0 : Int32) + (1 : Int32)), vi (2 : Int32), vi ((0 : Int32) + (1 : Int32)), vi x1] [(.int ((0 : Int32) + (1 : Int32))), (.ref b)])) rfl rfl (hb hby d7_12) _ k) ?_
  show Fin _ _ _ _ _ _ _ _ T12 (mkF m 13 #[vr b, vi ((0 : Int32) + (1 : Int32)), vr d, vi ((0 : Int32) + (1 : Int32)), vi (2 : Int32), vi ((0 : Int32) + (1 : Int32)), vi x1] [(.int x2)])
  refine .go (fun _ k => XS.istore X12.here hx rfl (hb hby d7_13) rfl (l' := #[vr b, vi ((0 : Int32) + (1 : Int32)), vr d, vi ((0 : Int32) + (1 : Int32)), vi (2 : Int32), vi ((0 : Int32) + (1 : Int32)), vi x2]) rfl k) ?_
  refine .go (fun _ k => XS.iload X12.here hx rfl (hb hby d7_15) rfl k) ?_
  refine .go (fun _ k => XS.sipush X12.here hx rfl (hb hby d7_17) k) ?_
  refine .go (fun _ k => XS.icmpNo X12.here hx rfl (hb hby d7_20) rfl (XT.ii_le_f hq) k) ?_
  show Fin _ _ _ _ _ _ _ _ T12 (mkF m 23 #[vr b, vi ((0 : Int32) + (1 : Int32)), vr d, vi ((0 : Int32) + (1 : Int32)), vi (2 : Int32), vi ((0 : Int32) + (1 : Int32)), vi x2] [])
  refine .go (fun _ k => XS.iload X12.here hx rfl (hb hby d7_23) rfl k) ?_
  exact Fin.leaveN X12 e12 hlk (v := some (.int ((0 : Int32) + (1 : Int32)))) (nvS hret) (by decide) (by decide) ⟨by decide +kernel, N12, K12⟩ (fun fs hr => retI X12 hx hret (hb hby d7_25) hr)
theorem rmCAu2_1 (l : Launch) (Z : State) (a0 : Array Value) (hw : HW a0 Z) (n0 : Nat) (h0 : Heap) (O : Old Z n0 h0) (b : Addr) (kb : ClassId) (x1 x2 : Int32) (VB : Arv Z h0 b kb .char (2 : Int32) [(.int x1), (.int x2)] (.int (0 : Int32))) (hc1 : ChI x1) (hc2 : ChI x2) (hp1 : ¬ (255 : Int32) < x1) (hq : (255 : Int32) < x2) (S_as : SAs Z) (S_hb : SHb Z) (S_lb : SLb Z) :
    ConW FrameEnd l Z [] (⟨"java/lang/StringUTF16", "compress", "([CII)[B"⟩ : MethodName) jdk_52_method_16_code 6 (some (.array .byte)) ({ frames := 3, cells := 2, slots := 6, locals := 40 } : Room) #[(.ref b), (.int (0 : Int32)), (.int (2 : Int32))] h0 (fun v h L => ∃ d kd, v = some (.ref d) ∧ Fr n0 L ∧ Keep h0 h [] ∧ Arv Z h d kd .byte (4 : Int32) [(.int (lo8 x1)), (.int (hi8 x1)), (.int (lo8 x2)), (.int (hi8 x2))] (.int (0 : Int32)) ∧ h0.size ≤ d) := by
  refine conOf (plainFor_of_name pn_java_lang_StringUTF16) ?_
  intro p e s m below mth cc s₁ X0 hx hby hml hown hnm hret hlk hZ e0
  have N0 := Fr.nil n0
  have K0 := Keep.refl h0 ([] : List Addr)
  refine Fin.came (castTop (t := _) (by first | (simp [entryFrame, mkF, argsToLocals, Value.category]; done) | rfl) (Steps.refl _) : Steps p.tables e below (s₁.setTop (entryFrame m #[(.ref b), (.int (0 : Int32)), (.int (2 : Int32))] 6)) (s₁.setTop (mkF m 0 #[vr b, vi (0 : Int32), vi (2 : Int32), .unset, .unset, .unset] []))) ?_
  refine .go (fun _ k => XS.iloadN X0.here hx rfl (hb hby d6_0) rfl k) ?_
  obtain ⟨T11, h11, k11, X11, e11, E11, A11, st11⟩ := newP X0 hx hZ (aty := .byte) (hw _ w_28) e0 (g := (mkF m 1 #[vr b, vi (0 : Int32), vi (2 : Int32), .unset, .unset, .unset] [(.int (2 : Int32))])) rfl (hb hby d6_1) rfl (by decide : ¬ ((2 : Int32) < (0 : Int32))) (cap := 2) (by decide) (by decide) (by decide) (by decide)
  obtain ⟨a11, g11⟩ : ∃ z, z = h0.size := ⟨_, rfl⟩
  rw [← g11] at A11 st11
  refine Fin.go st11 ?_
  have O11 := O.ext E11
  have K11 := K0.ext E11
  have n11 : n0 ≤ a11 := by have := O.2.1; have := O.1; omega
  have z11 : h0.size ≤ a11 := by have := K0.1; omega
  have V11 : Arv Z h11 a11 k11 .byte (2 : Int32) [(.int (0 : Int32)), (.int (0 : Int32))] (.int (0 : Int32)) := (Arv.new A11 (by decide)).pad (pad_rep [] (.int (0 : Int32)) 2)
  show Fin _ _ _ _ _ _ _ _ T11 (mkF m 3 #[vr b, vi (0 : Int32), vi (2 : Int32), .unset, .unset, .unset] [(.ref a11)])
  refine .go (fun _ k => XS.astoreN X11.here hx rfl (hb hby d6_3) rfl rfl (l' := #[vr b, vi (0 : Int32), vi (2 : Int32), vr a11, .unset, .unset]) rfl k) ?_
  refine .go (fun _ k => XS.aloadN X11.here hx rfl (hb hby d6_4) rfl rfl k) ?_
  refine .go (fun _ k => XS.iloadN X11.here hx rfl (hb hby d6_5) rfl k) ?_
  refine .go (fun _ k => XS.aloadN X11.here hx rfl (hb hby d6_6) rfl rfl k) ?_
  refine .go (fun _ k => XS.iconst X11.here hx rfl (hb hby d6_7) k) ?_
  refine .go (fun _ k => XS.iloadN X11.here hx rfl (hb hby d6_8) rfl k) ?_
  obtain ⟨v12, T12, L12, X12, q12, st12⟩ := callSt X11 hx hZ hown (hw _ w_29) (hw _ w_30) (hw _ w_26) (hw _ w_31) (by decide) (W := 0) (rmCBu2_1 l Z a0 hw n0 h11 O11 b a11 kb k11 x1 x2 (VB.ext E11) V11 hp1 hq n11 (Nat.ne_of_lt (Nat.lt_of_lt_of_eq VB.lt g11.symm))) e11 (by decide) (by decide) (by decide) (by decide) (g := (mkF m 9 #[vr b, vi (0 : Int32), vi (2 : Int32), vr a11, .unset, .unset] [(.int (2 : Int32)), (.int (0 : Int32)), (.ref a11), (.int (0 : Int32)), (.ref b)])) rfl (by rw [hml]; rfl) (argsL := [(.ref b), (.int (0 : Int32)), (.ref a11), (.int (0 : Int32)), (.int (2 : Int32))]) (rest := []) (lenOf pd_oACIABIIcI rfl) rfl (wk rfl rfl) (hb hby d6_9)
  obtain ⟨rfl, Nq12, Kq12⟩ := q12
  have N12 := Fr.app N0 Nq12
  have O12 := O11.keep Kq12 (allS n11 all0)
  have K12 := K11.trans Kq12 (allS (Or.inr z11) all0)
  refine Fin.go st12 ?_
  have V12_b := ((VB.ext E11).keep Kq12 (ninS (Nat.ne_of_lt (Nat.lt_of_lt_of_eq VB.lt g11.symm)) nin0))
  show Fin _ _ _ _ _ _ _ _ T12 (mkF m 12 #[vr b, vi (0 : Int32), vi (2 : Int32), vr a11, .unset, .unset] [(.int (1 : Int32))])
  refine .go (fun _ k => XS.istore X12.here hx rfl (hb hby d6_12) rfl (l' := #[vr b, vi (0 : Int32), vi (2 : Int32), vr a11, vi (1 : Int32), .unset]) rfl k) ?_
  refine .go (fun _ k => XS.iload X12.here hx rfl (hb hby d6_14) rfl k) ?_
  refine .go (fun _ k => XS.iloadN X12.here hx rfl (hb hby d6_16) rfl k) ?_
  refine .go (fun _ k => XS.icmpNo X12.here hx rfl (hb hby d6_17) rfl (XT.ii_eq_f (by decide)) k) ?_
  show Fin _ _ _ _ _ _ _ _ T12 (mkF m 20 #[vr b, vi (0 : Int32), vi (2 : Int32), vr a11, vi (1 : Int32), .unset] [])
  refine .go (fun _ k => XS.aloadN X12.here hx rfl (hb hby d6_20) rfl rfl k) ?_
  refine .go (fun _ k => XS.iloadN X12.here hx rfl (hb hby d6_21) rfl k) ?_
  refine .go (fun _ k => XS.iloadN X12.here hx rfl (hb hby d6_22) rfl k) ?_
  obtain ⟨v13, T13, L13, X13, q13, st13⟩ := callSt X12 hx hZ hown (hw _ w_82) (hw _ w_83) (hw _ w_26) (hw _ w_84) (by decide) (W := 0) (rmTBs2 l Z a0 hw n0 T12.heap O12 b kb x1 x2 V12_b S_as S_hb S_lb) (rfl : T12.heap = T12.heap) (by decide) (by decide) (by decide) (by decide) (g := (mkF m 23 #[vr b, vi (0 : Int32), vi (2 : Int32), vr a11, vi (1 : Int32), .unset] [(.int (2 : Int32)), (.int (0 : Int32)), (.ref b)])) rfl (by rw [hml]; rfl) (argsL := [(.ref b), (.int (0 : Int32)), (.int (2 : Int32))]) (rest := []) (lenOf pd_oACIIcAB rfl) rfl (wk rfl rfl) (hb hby d6_23)
  obtain ⟨d13, kd13, rfl, Nq13, Kq13, V13, zd13⟩ := q13
  have N13 := Fr.app N12 Nq13
  have O13 := O12.keep Kq13 all0
  have K13 := K12.trans Kq13 all0
  refine Fin.go st13 ?_
  show Fin _ _ _ _ _ _ _ _ T13 (mkF m 26 #[vr b, vi (0 : Int32), vi (2 : Int32), vr a11, vi (1 : Int32), .unset] [(.ref d13)])
  have nzd13 : n0 ≤ d13 := Nat.le_trans (by have := O12.1; have := O12.2.1; omega) zd13
  have hzd13 : h0.size ≤ d13 := Nat.le_trans K12.1 zd13
  refine .go (fun _ k => XS.astore X13.here hx rfl (hb hby d6_26) rfl rfl (l' := #[vr b, vi (0 : Int32), vi (2 : Int32), vr a11, vi (1 : Int32), vr d13]) rfl k) ?_
  refine .go (fun _ k => XS.aload X13.here hx rfl (hb hby d6_28) rfl rfl k) ?_
  refine .go (fun _ k => XS.iload X13.here hx rfl (hb hby d6_30) rfl k) ?_
  obtain ⟨v14, T14, L14, X14, q14, st14⟩ := callSt X13 hx hZ hown (hw _ w_98) (hw _ w_99) (hw _ w_26) (hw _ w_100) (by decide) (W := 0) (rmGet2_1 l Z a0 hw n0 T13.heap O13 d13 kd13 x1 x2 hc2 V13 S_as S_hb S_lb) (rfl : T13.heap = T13.heap) (by decide) (by decide) (by decide) (by decide) (g := (mkF m 32 #[vr b, vi (0 : Int32), vi (2 : Int32), vr a11, vi (1 : Int32), vr d13] [(.int (1 : Int32)), (.ref d13)])) rfl (by rw [hml]; rfl) (argsL := [(.ref d13), (.int (1 : Int32))]) (rest := []) (lenOf pd_oABIcC rfl) rfl (wk rfl rfl) (hb hby d6_32)
  obtain ⟨rfl, e14, rfl⟩ := q14
  have N14 := Fr.app N13 (Fr.nil n0)
  refine Fin.go st14 ?_
  show Fin _ _ _ _ _ _ _ _ T14 (mkF m 35 #[vr b, vi (0 : Int32), vi (2 : Int32), vr a11, vi (1 : Int32), vr d13] [(.int x2)])
  refine .go (fun _ k => XS.sipush X14.here hx rfl (hb hby d6_35) k) ?_
  refine .go (fun _ k => XS.icmpYes X14.here hx rfl (pc0 := 38) (pc' := 54) rfl (hb hby d6_38) rfl (XT.ii_gt_t hq) (by decide) (by decide) k) ?_
  show Fin _ _ _ _ _ _ _ _ T14 (mkF m 54 #[vr b, vi (0 : Int32), vi (2 : Int32), vr a11, vi (1 : Int32), vr d13] [])
  refine .go (fun _ k => XS.aload X14.here hx rfl (hb hby d6_54) rfl rfl k) ?_
  exact Fin.leaveN X14 e14 hlk (v := some (.ref d13)) (nvS hret) (by decide) (by decide) ⟨d13, kd13, rfl, N14, K13, V13, hzd13⟩ (fun fs hr => retOut X14 hx hret rfl (Or.inr (Or.inr (Or.inr (Or.inr ⟨rfl, rfl, rfl⟩)))) (hb hby d6_56) hr)
theorem rmCAu2 (l : Launch) (Z : State) (a0 : Array Value) (hw : HW a0 Z) (n0 : Nat) (h0 : Heap) (O : Old Z n0 h0) (b : Addr) (kb : ClassId) (x1 x2 : Int32) (VB : Arv Z h0 b kb .char (2 : Int32) [(.int x1), (.int x2)] (.int (0 : Int32))) (hc1 : ChI x1) (hc2 : ChI x2) (hU : ((255 : Int32) < x1) ∨ (¬ (255 : Int32) < x1 ∧ (255 : Int32) < x2)) (S_as : SAs Z) (S_hb : SHb Z) (S_lb : SLb Z) : Con FrameEnd l Z (⟨"java/lang/StringUTF16", "compress", "([CII)[B"⟩ : MethodName) jdk_52_method_16_code 6 (some (.array .byte)) ({ frames := 3, cells := 2, slots := 6, locals := 40 } : Room) #[(.ref b), (.int (0 : Int32)), (.int (2 : Int32))] h0 (fun v h L => ∃ d kd, v = some (.ref d) ∧ Fr n0 L ∧ Keep h0 h [] ∧ Arv Z h d kd .byte (4 : Int32) [(.int (lo8 x1)), (.int (hi8 x1)), (.int (lo8 x2)), (.int (hi8 x2))] (.int (0 : Int32)) ∧ h0.size ≤ d) := by
  rcases hU with hq | ⟨hp1, hq⟩
  · exact rmCAu2_0 l Z a0 hw n0 h0 O b kb x1 x2 VB hc1 hc2  hq S_as S_hb S_lb
  · exact rmCAu2_1 l Z a0 hw n0 h0 O b kb x1 x2 VB hc1 hc2 hp1 hq S_as S_hb S_lb
theorem rmCodU2 (l : Launch) (Z : State) (a0 : Array Value) (hw : HW a0 Z) (n0 : Nat) (h0 : Heap) (O : Old Z n0 h0) (d : Addr) (kd : ClassId) (x1 x2 x3 x4 : Int32) (VD : Arv Z h0 d kd .byte (4 : Int32) [(.int x1), (.int x2), (.int x3), (.int x4)] (.int (0 : Int32))) :
    ConW FrameEnd l Z [] (⟨"java/lang/StringUTF16", "coderFromArrayLen", "([BI)B"⟩ : MethodName) jdk_52_method_15_code 2 (some .byte) ({ frames := 0, cells := 0, slots := 0, locals := 0 } : Room) #[(.ref d), (.int (2 : Int32))] h0 (Pure h0 (some (.int (1 : Int32)))) := by
  refine conOf (plainFor_of_name pn_java_lang_StringUTF16) ?_
  intro p e s m below mth cc s₁ X0 hx hby hml hown hnm hret hlk hZ e0
  have N0 := Fr.nil n0
  refine Fin.came (castTop (t := _) (by first | (simp [entryFrame, mkF, argsToLocals, Value.category]; done) | rfl) (Steps.refl _) : Steps p.tables e below (s₁.setTop (entryFrame m #[(.ref d), (.int (2 : Int32))] 2)) (s₁.setTop (mkF m 0 #[vr d, vi (2 : Int32)] []))) ?_
  refine .go (fun _ k => XS.iloadN X0.here hx rfl (hb hby d8_0) rfl k) ?_
  refine .go (fun _ k => XS.aloadN X0.here hx rfl (hb hby d8_1) rfl rfl k) ?_
  obtain ⟨cz11, B11, q11, S11, M11, H11, G11⟩ := id VD
  refine Fin.go (fun _ k => X0.arraylength hx (by rw [e0]; exact B11.1) (State.isArrayOf_alike hZ.alike B11.2.1) (g := (mkF m 2 #[vr d, vi (2 : Int32)] [(.ref d), (.int (2 : Int32))])) rfl rfl (hb hby d8_2) _ k) ?_
  rw [len_of S11 M11]
  show Fin _ _ _ _ _ _ _ _ s₁ (mkF m 3 #[vr d, vi (2 : Int32)] [(.int (4 : Int32)), (.int (2 : Int32))])
  refine .go (fun _ k => XS.isub X0.here hx rfl (hb hby d8_3) rfl k) ?_
  refine .go (fun _ k => XS.bipush X0.here hx rfl (hb hby d8_4) k) ?_
  refine .go (fun _ k => XT.iushr X0.here hx rfl (hb hby d8_6) rfl k) ?_
  refine .go (fun _ k => XT.i2b X0.here hx rfl (hb hby d8_7) rfl k) ?_
  exact Fin.leaveN X0 e0 hlk (v := some (.int (nar .byte ((Int32.toInt8 (XT.ushr ((2 : Int32) - (4 : Int32)) (31 : Int32))).toInt32)))) (nvS hret) (by decide) (by decide) ⟨by decide +kernel, rfl, rfl⟩ (fun fs hr => retN X0 hx (t := .byte) hret (by simp) (hb hby d8_8) hr)
theorem rmUV2 (l : Launch) (Z : State) (a0 : Array Value) (hw : HW a0 Z) (n0 : Nat) (h0 : Heap) (O : Old Z n0 h0) (a b : Addr) (kb : ClassId) (x1 x2 : Int32) (cs : Int32) (S_cs : Sta Z Z.heap "java/lang/String" "COMPACT_STRINGS" "Z" (.int cs)) (hcs : ¬ cs = 0) (VB : Arv Z h0 b kb .char (2 : Int32) [(.int x1), (.int x2)] (.int (0 : Int32))) (A : Exa Z h0 a "java/lang/String") (F1 : Fld Z h0 a "java/lang/String" "coder" "B" (.int (0 : Int32))) (F2 : Fld Z h0 a "java/lang/String" "value" "[B" .null) (hc1 : ChI x1) (hc2 : ChI x2) (hU : ((255 : Int32) < x1) ∨ (¬ (255 : Int32) < x1 ∧ (255 : Int32) < x2)) (S_as : SAs Z) (S_hb : SHb Z) (S_lb : SLb Z) (na : n0 ≤ a) (nba : b ≠ a) :
    ConW FrameEnd l Z [] (⟨"java/lang/String", "<init>", "([CIILjava/lang/Void;)V"⟩ : MethodName) jdk_42_method_149_code 6 none ({ frames := 4, cells := 2, slots := 6, locals := 57 } : Room) #[(.ref a), (.ref b), (.int (0 : Int32)), (.int (2 : Int32)), .null] h0 (fun v h L => v = none ∧ Fr n0 L ∧ Keep h0 h [a] ∧ Exa Z h a "java/lang/String" ∧ Fld Z h a "java/lang/String" "coder" "B" (.int (1 : Int32)) ∧ ∃ d kd, Fld Z h a "java/lang/String" "value" "[B" (.ref d) ∧ Arv Z h d kd .byte (4 : Int32) [(.int (lo8 x1)), (.int (hi8 x1)), (.int (lo8 x2)), (.int (hi8 x2))] (.int (0 : Int32)) ∧ h0.size ≤ d) := by
  refine conOf (plainFor_of_name pn_java_lang_String) ?_
  intro p e s m below mth cc s₁ X0 hx hby hml hown hnm hret hlk hZ e0
  have N0 := Fr.nil n0
  have K0 := Keep.refl h0 ([a] : List Addr)
  refine Fin.came (castTop (t := _) (by first | (simp [entryFrame, mkF, argsToLocals, Value.category]; done) | rfl) (Steps.refl _) : Steps p.tables e below (s₁.setTop (entryFrame m #[(.ref a), (.ref b), (.int (0 : Int32)), (.int (2 : Int32)), .null] 6)) (s₁.setTop (mkF m 0 #[vr a, vr b, vi (0 : Int32), vi (2 : Int32), .val .null, .unset] []))) ?_
  refine .go (fun _ k => XS.aloadN X0.here hx rfl (hb hby d4_0) rfl rfl k) ?_
  obtain ⟨T11, X11, e11, st11⟩ := initO X0 hx hZ hown (hw _ w_20) (hw _ w_21) (hw _ w_22) e0 (g := (mkF m 1 #[vr a, vr b, vi (0 : Int32), vi (2 : Int32), .val .null, .unset] [(.ref a)])) rfl (by rw [hml]; rfl) rfl (hb hby d4_1) (by decide) (W := 0) (wk rfl rfl) (by decide)
  refine Fin.go st11 ?_
  show Fin _ _ _ _ _ _ _ _ T11 (mkF m 4 #[vr a, vr b, vi (0 : Int32), vi (2 : Int32), .val .null, .unset] [])
  refine .go (fun _ k => XS.iloadN X11.here hx rfl (hb hby d4_4) rfl k) ?_
  refine .go (fun _ k => XS.ifYes X11.here hx rfl (pc0 := 5) (pc' := 27) rfl (hb hby d4_5) rfl (XT.i0_ne_t (by decide)) (by decide) (by decide) k) ?_
  show Fin _ _ _ _ _ _ _ _ T11 (mkF m 27 #[vr a, vr b, vi (0 : Int32), vi (2 : Int32), .val .null, .unset] [])
  obtain ⟨T12, X12, e12, st12⟩ := getS2 X11 hx hZ hown (host := "") (Or.inl (hw _ w_23)) Via.refl e11 (S_cs.ext O.2) (g := (mkF m 27 #[vr a, vr b, vi (0 : Int32), vi (2 : Int32), .val .null, .unset] [])) rfl (hb hby d4_27)
  refine Fin.go st12 ?_
  show Fin _ _ _ _ _ _ _ _ T12 (mkF m 30 #[vr a, vr b, vi (0 : Int32), vi (2 : Int32), .val .null, .unset] [(.int cs)])
  refine .go (fun _ k => XS.ifNo X12.here hx rfl (hb hby d4_30) rfl (XT.i0_eq_f hcs) k) ?_
  show Fin _ _ _ _ _ _ _ _ T12 (mkF m 33 #[vr a, vr b, vi (0 : Int32), vi (2 : Int32), .val .null, .unset] [])
  refine .go (fun _ k => XS.aloadN X12.here hx rfl (hb hby d4_33) rfl rfl k) ?_
  refine .go (fun _ k => XS.iloadN X12.here hx rfl (hb hby d4_34) rfl k) ?_
  refine .go (fun _ k => XS.iloadN X12.here hx rfl (hb hby d4_35) rfl k) ?_
  obtain ⟨v13, T13, L13, X13, q13, st13⟩ := callSt X12 hx hZ hown (hw _ w_24) (hw _ w_25) (hw _ w_26) (hw _ w_27) (by decide) (W := 0) (rmCAu2 l Z a0 hw n0 h0 O b kb x1 x2 VB hc1 hc2 hU S_as S_hb S_lb) e12 (by decide) (by decide) (by decide) (by decide) (g := (mkF m 36 #[vr a, vr b, vi (0 : Int32), vi (2 : Int32), .val .null, .unset] [(.int (2 : Int32)), (.int (0 : Int32)), (.ref b)])) rfl (by rw [hml]; rfl) (argsL := [(.ref b), (.int (0 : Int32)), (.int (2 : Int32))]) (rest := []) (lenOf pd_oACIIcAB rfl) rfl (wk rfl rfl) (hb hby d4_36)
  obtain ⟨d13, kd13, rfl, Nq13, Kq13, V13, zd13⟩ := q13
  have N13 := Fr.app N0 Nq13
  have O13 := O.keep Kq13 all0
  have K13 := K0.trans Kq13 all0
  refine Fin.go st13 ?_
  show Fin _ _ _ _ _ _ _ _ T13 (mkF m 39 #[vr a, vr b, vi (0 : Int32), vi (2 : Int32), .val .null, .unset] [(.ref d13)])
  have nzd13 : n0 ≤ d13 := Nat.le_trans (by have := O.1; have := O.2.1; omega) zd13
  have hzd13 : h0.size ≤ d13 := Nat.le_trans K0.1 zd13
  refine .go (fun _ k => XS.astore X13.here hx rfl (hb hby d4_39) rfl rfl (l' := #[vr a, vr b, vi (0 : Int32), vi (2 : Int32), .val .null, vr d13]) rfl k) ?_
  refine .go (fun _ k => XS.aloadN X13.here hx rfl (hb hby d4_41) rfl rfl k) ?_
  refine .go (fun _ k => XS.aload X13.here hx rfl (hb hby d4_42) rfl rfl k) ?_
  refine .go (fun _ k => XS.iloadN X13.here hx rfl (hb hby d4_44) rfl k) ?_
  obtain ⟨v14, T14, L14, X14, q14, st14⟩ := callSt X13 hx hZ hown (hw _ w_32) (hw _ w_33) (hw _ w_26) (hw _ w_34) (by decide) (W := 1) (rmCodU2 l Z a0 hw n0 T13.heap O13 d13 kd13 (lo8 x1) (hi8 x1) (lo8 x2) (hi8 x2) V13) (rfl : T13.heap = T13.heap) (by decide) (by decide) (by decide) (by decide) (g := (mkF m 45 #[vr a, vr b, vi (0 : Int32), vi (2 : Int32), .val .null, vr d13] [(.int (2 : Int32)), (.ref d13), (.ref a)])) rfl (by rw [hml]; rfl) (argsL := [(.ref d13), (.int (2 : Int32))]) (rest := [(.ref a)]) (lenOf pd_oABIcB rfl) rfl (wk rfl rfl) (hb hby d4_45)
  obtain ⟨rfl, e14, rfl⟩ := q14
  have N14 := Fr.app N13 (Fr.nil n0)
  refine Fin.go st14 ?_
  show Fin _ _ _ _ _ _ _ _ T14 (mkF m 48 #[vr a, vr b, vi (0 : Int32), vi (2 : Int32), .val .null, vr d13] [(.int (1 : Int32)), (.ref a)])
  obtain ⟨T15, h15, X15, e15, W15, st15⟩ := putF X14 hx hZ hown (host := "") (Or.inl (hw _ w_35)) Via.refl e14 (F1.keep Kq13 nin0) (A.keep Kq13) (Or.inr ⟨(hw _ w_36), rfl, hnm⟩) (hw _ w_11) (ty := .byte) (by decide) rfl rfl (g := (mkF m 48 #[vr a, vr b, vi (0 : Int32), vi (2 : Int32), .val .null, vr d13] [(.int (1 : Int32)), (.ref a)])) rfl rfl (hb hby d4_48)
  refine Fin.go st15 ?_
  have N15 := Fr.snoc X15 N14 na
  have O15 := O13.wr W15 na
  have K15 := K13.wr W15 (Or.inl (List.mem_of_getElem? (i := 0) rfl))
  have F15_a_value := ((F2.keep Kq13 nin0).other W15 (Or.inr (slot_ne (Or.inr (hw _ w_38)) (Or.inr (hw _ w_36)) (by decide) (t := (.array .byte)) (t' := .byte) (by decide) (by decide))))
  have V15_d13 := (V13.other W15 (Ne.symm (Nat.ne_of_lt (Nat.lt_of_lt_of_le F2.lt zd13))))
  show Fin _ _ _ _ _ _ _ _ T15 (mkF m 51 #[vr a, vr b, vi (0 : Int32), vi (2 : Int32), .val .null, vr d13] [])
  refine .go (fun _ k => XS.aloadN X15.here hx rfl (hb hby d4_51) rfl rfl k) ?_
  refine .go (fun _ k => XS.aload X15.here hx rfl (hb hby d4_52) rfl rfl k) ?_
  obtain ⟨T16, h16, X16, e16, W16, st16⟩ := putF X15 hx hZ hown (host := "") (Or.inl (hw _ w_37)) Via.refl e15 F15_a_value ((A.keep Kq13).wr W15) (Or.inr ⟨(hw _ w_38), rfl, hnm⟩) (hw _ w_11) (ty := (.array .byte)) (by decide) rfl rfl (g := (mkF m 54 #[vr a, vr b, vi (0 : Int32), vi (2 : Int32), .val .null, vr d13] [(.ref d13), (.ref a)])) rfl rfl (hb hby d4_54)
  refine Fin.go st16 ?_
  have N16 := Fr.snoc X16 N15 na
  have O16 := O15.wr W16 na
  have K16 := K15.wr W16 (Or.inl (List.mem_of_getElem? (i := 0) rfl))
  have F16_a_coder := (((F1.keep Kq13 nin0).same W15).other W16 (Or.inr (slot_ne (Or.inr (hw _ w_36)) (Or.inr (hw _ w_38)) (by decide) (t := .byte) (t' := (.array .byte)) (by decide) (by decide))))
  have V16_d13 := (V15_d13.other W16 (Ne.symm (Nat.ne_of_lt (Nat.lt_of_lt_of_le F2.lt zd13))))
  show Fin _ _ _ _ _ _ _ _ T16 (mkF m 57 #[vr a, vr b, vi (0 : Int32), vi (2 : Int32), .val .null, vr d13] [])
  exact Fin.leaveN X16 e16 hlk (v := none) (fun _ => rfl) (by decide) (by decide) ⟨rfl, N16, K16, (((A.keep Kq13).wr W15).wr W16), F16_a_coder, d13, kd13, (F15_a_value.same W16), V16_d13, hzd13⟩ (fun fs hr => X16.returnOut hx hret (hb hby d4_57) hr)
theorem lu2 (x1 x2 : Int32) : (¬ (255 : Int32) < x1 ∧ ¬ (255 : Int32) < x2) ∨ (((255 : Int32) < x1) ∨ (¬ (255 : Int32) < x1 ∧ (255 : Int32) < x2)) := by by_cases q1 : (255 : Int32) < x1 <;> by_cases q2 : (255 : Int32) < x2 <;> simp_all
theorem rmU2 (l : Launch) (Z : State) (a0 : Array Value) (hw : HW a0 Z) (n0 : Nat) (h0 : Heap) (O : Old Z n0 h0) (a b : Addr) (kb : ClassId) (x1 x2 : Int32) (cs : Int32) (S_cs : Sta Z Z.heap "java/lang/String" "COMPACT_STRINGS" "Z" (.int cs)) (hcs : ¬ cs = 0) (VB : Arv Z h0 b kb .char (2 : Int32) [(.int x1), (.int x2)] (.int (0 : Int32))) (A : Exa Z h0 a "java/lang/String") (F1 : Fld Z h0 a "java/lang/String" "coder" "B" (.int (0 : Int32))) (F2 : Fld Z h0 a "java/lang/String" "value" "[B" .null) (hc1 : ChI x1) (hc2 : ChI x2) (hU : ((255 : Int32) < x1) ∨ (¬ (255 : Int32) < x1 ∧ (255 : Int32) < x2)) (S_as : SAs Z) (S_hb : SHb Z) (S_lb : SLb Z) (na : n0 ≤ a) (nba : b ≠ a) :
    ConW FrameEnd l Z [] (⟨"java/lang/String", "<init>", "([C)V"⟩ : MethodName) jdk_42_method_3_code 2 none ({ frames := 5, cells := 2, slots := 6, locals := 74 } : Room) #[(.ref a), (.ref b)] h0 (fun v h L => v = none ∧ Fr n0 L ∧ Keep h0 h [a] ∧ Exa Z h a "java/lang/String" ∧ Fld Z h a "java/lang/String" "coder" "B" (.int (1 : Int32)) ∧ ∃ d kd, Fld Z h a "java/lang/String" "value" "[B" (.ref d) ∧ Arv Z h d kd .byte (4 : Int32) [(.int (lo8 x1)), (.int (hi8 x1)), (.int (lo8 x2)), (.int (hi8 x2))] (.int (0 : Int32)) ∧ h0.size ≤ d) := by
  refine conOf (plainFor_of_name pn_java_lang_String) ?_
  intro p e s m below mth cc s₁ X0 hx hby hml hown hnm hret hlk hZ e0
  have N0 := Fr.nil n0
  have K0 := Keep.refl h0 ([a] : List Addr)
  refine Fin.came (castTop (t := _) (by first | (simp [entryFrame, mkF, argsToLocals, Value.category]; done) | rfl) (Steps.refl _) : Steps p.tables e below (s₁.setTop (entryFrame m #[(.ref a), (.ref b)] 2)) (s₁.setTop (mkF m 0 #[vr a, vr b] []))) ?_
  refine .go (fun _ k => XS.aloadN X0.here hx rfl (hb hby d3_0) rfl rfl k) ?_
  refine .go (fun _ k => XS.aloadN X0.here hx rfl (hb hby d3_1) rfl rfl k) ?_
  refine .go (fun _ k => XS.iconst X0.here hx rfl (hb hby d3_2) k) ?_
  refine .go (fun _ k => XS.aloadN X0.here hx rfl (hb hby d3_3) rfl rfl k) ?_
  obtain ⟨cz11, B11, q11, S11, M11, H11, G11⟩ := id VB
  refine Fin.go (fun _ k => X0.arraylength hx (by rw [e0]; exact B11.1) (State.isArrayOf_alike hZ.alike B11.2.1) (g := (mkF m 4 #[vr a, vr b] [(.ref b), (.int (0 : Int32)), (.ref b), (.ref a)])) rfl rfl (hb hby d3_4) _ k) ?_
  rw [len_of S11 M11]
  show Fin _ _ _ _ _ _ _ _ s₁ (mkF m 5 #[vr a, vr b] [(.int (2 : Int32)), (.int (0 : Int32)), (.ref b), (.ref a)])
  refine .go (fun _ k => XS.aconstNull X0.here hx rfl (hb hby d3_5) k) ?_
  obtain ⟨v12, T12, L12, X12, q12, st12⟩ := callCt X0 hx hZ (y := (⟨"java/lang/String", "<init>", "([CIILjava/lang/Void;)V"⟩ : MethodName)) rfl hown (hw _ w_16) (hw _ w_17) (hw _ w_12) (hw _ w_19) (by decide) (W := 0) (rmUV2 l Z a0 hw n0 h0 O a b kb x1 x2 cs S_cs hcs VB A F1 F2 hc1 hc2 hU S_as S_hb S_lb na nba) e0 (by decide) (by decide) (by decide) (by decide) (g := (mkF m 6 #[vr a, vr b] [.null, (.int (2 : Int32)), (.int (0 : Int32)), (.ref b), (.ref a)])) rfl (by rw [hml]; rfl) (a := a) (argsL := [(.ref b), (.int (0 : Int32)), (.int (2 : Int32)), .null]) (rest := []) (lenOf pd_oACIILjava_lang_Void_cV rfl) rfl (wk rfl rfl) (hb hby d3_6)
  obtain ⟨rfl, Nq12, Kq12, A12, C12, d12, kd12, F12, V12, zd12⟩ := q12
  have N12 := Fr.app N0 Nq12
  have O12 := O.keep Kq12 (allS na all0)
  have K12 := K0.trans Kq12 (allS (Or.inl (List.mem_of_getElem? (i := 0) rfl)) all0)
  refine Fin.go st12 ?_
  show Fin _ _ _ _ _ _ _ _ T12 (mkF m 9 #[vr a, vr b] [])
  exact Fin.leaveN X12 (rfl : T12.heap = T12.heap) hlk (v := none) (fun _ => rfl) (by decide) (by decide) ⟨rfl, N12, K12, A12, C12, d12, kd12, F12, V12, zd12⟩ (fun fs hr => X12.returnOut hx hret (hb hby d3_9) hr)
theorem rmGet3_0 (l : Launch) (Z : State) (a0 : Array Value) (hw : HW a0 Z) (n0 : Nat) (h0 : Heap) (O : Old Z n0 h0) (d : Addr) (kd : ClassId) (x1 x2 x3 : Int32) (hc : ChI x1) (VD : Arv Z h0 d kd .byte (6 : Int32) [(.int (lo8 x1)), (.int (hi8 x1)), (.int (lo8 x2)), (.int (hi8 x2)), (.int (lo8 x3)), (.int (hi8 x3))] (.int (0 : Int32))) (S_as : SAs Z) (S_hb : SHb Z) (S_lb : SLb Z) :
    ConW FrameEnd l Z [] (⟨"java/lang/StringUTF16", "getChar", "([BI)C"⟩ : MethodName) jdk_52_method_5_code 2 (some .char) ({ frames := 0, cells := 0, slots := 0, locals := 0 } : Room) #[(.ref d), (.int (0 : Int32))] h0 (Pure h0 (some (.int x1))) := by
  refine conOf (plainFor_of_name pn_java_lang_StringUTF16) ?_
  intro p e s m below mth cc s₁ X0 hx hby hml hown hnm hret hlk hZ e0
  have N0 := Fr.nil n0
  refine Fin.came (castTop (t := _) (by first | (simp [entryFrame, mkF, argsToLocals, Value.category]; done) | rfl) (Steps.refl _) : Steps p.tables e below (s₁.setTop (entryFrame m #[(.ref d), (.int (0 : Int32))] 2)) (s₁.setTop (mkF m 0 #[vr d, vi (0 : Int32)] []))) ?_
  obtain ⟨T11, X11, e11, st11⟩ := getS2 X0 hx hZ hown (host := "") (Or.inl (hw _ w_95)) Via.refl e0 (S_as.ext O.2) (g := (mkF m 0 #[vr d, vi (0 : Int32)] [])) rfl (hb hby d24_0)
  refine Fin.go st11 ?_
  show Fin _ _ _ _ _ _ _ _ T11 (mkF m 3 #[vr d, vi (0 : Int32)] [(.int (1 : Int32))])
  refine .go (fun _ k => XS.ifYes X11.here hx rfl (pc0 := 3) (pc' := 28) rfl (hb hby d24_3) rfl (XT.i0_ne_t (by decide)) (by decide) (by decide) k) ?_
  show Fin _ _ _ _ _ _ _ _ T11 (mkF m 28 #[vr d, vi (0 : Int32)] [])
  refine .go (fun _ k => XS.iloadN X11.here hx rfl (hb hby d24_28) rfl k) ?_
  refine .go (fun _ k => XS.iconst X11.here hx rfl (hb hby d24_29) k) ?_
  refine .go (fun _ k => XT.ishl X11.here hx rfl (hb hby d24_30) rfl k) ?_
  refine .go (fun _ k => XS.istoreN X11.here hx rfl (hb hby d24_31) rfl (l' := #[vr d, vi ((0 : Int32) <<< ((1 : Int32) &&& 31))]) rfl k) ?_
  show Fin _ _ _ _ _ _ _ _ T11 (mkF m 32 #[vr d, vi ((0 : Int32) <<< ((1 : Int32) &&& 31))] [])
  rw [show ((0 : Int32) <<< ((1 : Int32) &&& 31)) = (0 : Int32) from by decide]
  show Fin _ _ _ _ _ _ _ _ T11 (mkF m 32 #[vr d, vi (0 : Int32)] [])
  refine .go (fun _ k => XS.aloadN X11.here hx rfl (hb hby d24_32) rfl rfl k) ?_
  refine .go (fun _ k => XS.iloadN X11.here hx rfl (hb hby d24_33) rfl k) ?_
  refine .go (fun _ k => XS.iinc X11.here hx rfl (hb hby d24_34) rfl (l' := #[vr d, vi ((0 : Int32) + (1 : Int32))]) rfl k) ?_
  obtain ⟨cz12, B12, q12, S12, M12, H12, G12⟩ := id VD
  have i12 := inb_of S12 ⟨(by decide : ¬ ((0 : Int32) < (0 : Int32))), (by decide : (0 : Int32) < (6 : Int32))⟩
  refine Fin.go (fun _ k => X11.baloadBytes hx (j := (0 : Int32)) (v := (.int (lo8 x1))) (by rw [e11]; exact B12.1) (State.isArrayOf_alike hZ.alike B12.2.1) B12.2.2 i12 (Has.at H12 i12 rfl) (g := (mkF m 37 #[vr d, vi ((0 : Int32) + (1 : Int32))] [(.int (0 : Int32)), (.ref d)])) rfl rfl (hb hby d24_37) _ k) ?_
  show Fin _ _ _ _ _ _ _ _ T11 (mkF m 38 #[vr d, vi ((0 : Int32) + (1 : Int32))] [(.int (lo8 x1))])
  refine .go (fun _ k => XS.sipush X11.here hx rfl (hb hby d24_38) k) ?_
  refine .go (fun _ k => XS.iand X11.here hx rfl (hb hby d24_41) rfl k) ?_
  obtain ⟨T13, X13, e13, st13⟩ := getS2 X11 hx hZ hown (host := "") (Or.inl (hw _ w_96)) Via.refl e11 (S_hb.ext O.2) (g := (mkF m 42 #[vr d, vi ((0 : Int32) + (1 : Int32))] [(.int ((lo8 x1) &&& (255 : Int32)))])) rfl (hb hby d24_42)
  refine Fin.go st13 ?_
  show Fin _ _ _ _ _ _ _ _ T13 (mkF m 45 #[vr d, vi ((0 : Int32) + (1 : Int32))] [(.int (0 : Int32)), (.int ((lo8 x1) &&& (255 : Int32)))])
  refine .go (fun _ k => XT.ishl X13.here hx rfl (hb hby d24_45) rfl k) ?_
  refine .go (fun _ k => XS.aloadN X13.here hx rfl (hb hby d24_46) rfl rfl k) ?_
  refine .go (fun _ k => XS.iloadN X13.here hx rfl (hb hby d24_47) rfl k) ?_
  obtain ⟨cz14, B14, q14, S14, M14, H14, G14⟩ := id VD
  have i14 := inb_of S14 ⟨(by decide : ¬ (((0 : Int32) + (1 : Int32)) < (0 : Int32))), (by decide : ((0 : Int32) + (1 : Int32)) < (6 : Int32))⟩
  refine Fin.go (fun _ k => X13.baloadBytes hx (j := ((0 : Int32) + (1 : Int32))) (v := (.int (hi8 x1))) (by rw [e13]; exact B14.1) (State.isArrayOf_alike hZ.alike B14.2.1) B14.2.2 i14 (Has.at H14 i14 rfl) (g := (mkF m 48 #[vr d, vi ((0 : Int32) + (1 : Int32))] [(.int ((0 : Int32) + (1 : Int32))), (.ref d), (.int (((lo8 x1) &&& (255 : Int32)) <<< ((0 : Int32) &&& 31)))])) rfl rfl (hb hby d24_48) _ k) ?_
  show Fin _ _ _ _ _ _ _ _ T13 (mkF m 49 #[vr d, vi ((0 : Int32) + (1 : Int32))] [(.int (hi8 x1)), (.int (((lo8 x1) &&& (255 : Int32)) <<< ((0 : Int32) &&& 31)))])
  refine .go (fun _ k => XS.sipush X13.here hx rfl (hb hby d24_49) k) ?_
  refine .go (fun _ k => XS.iand X13.here hx rfl (hb hby d24_52) rfl k) ?_
  obtain ⟨T15, X15, e15, st15⟩ := getS2 X13 hx hZ hown (host := "") (Or.inl (hw _ w_97)) Via.refl e13 (S_lb.ext O.2) (g := (mkF m 53 #[vr d, vi ((0 : Int32) + (1 : Int32))] [(.int ((hi8 x1) &&& (255 : Int32))), (.int (((lo8 x1) &&& (255 : Int32)) <<< ((0 : Int32) &&& 31)))])) rfl (hb hby d24_53)
  refine Fin.go st15 ?_
  show Fin _ _ _ _ _ _ _ _ T15 (mkF m 56 #[vr d, vi ((0 : Int32) + (1 : Int32))] [(.int (8 : Int32)), (.int ((hi8 x1) &&& (255 : Int32))), (.int (((lo8 x1) &&& (255 : Int32)) <<< ((0 : Int32) &&& 31)))])
  refine .go (fun _ k => XT.ishl X15.here hx rfl (hb hby d24_56) rfl k) ?_
  refine .go (fun _ k => XT.ior X15.here hx rfl (hb hby d24_57) rfl k) ?_
  refine .go (fun _ k => XT.i2c X15.here hx rfl (hb hby d24_58) rfl k) ?_
  exact Fin.leaveN X15 e15 hlk (v := some (.int (nar .char ((Int32.toUInt32 ((((lo8 x1) &&& (255 : Int32)) <<< ((0 : Int32) &&& 31)) ||| (((hi8 x1) &&& (255 : Int32)) <<< ((8 : Int32) &&& 31)))).toUInt16.toUInt32.toInt32)))) (nvS hret) (by decide) (by decide) ⟨by rw [nar_c16, gch _ hc], rfl, rfl⟩ (fun fs hr => retN X15 hx (t := .char) hret (by simp) (hb hby d24_59) hr)
theorem rmGet3_1 (l : Launch) (Z : State) (a0 : Array Value) (hw : HW a0 Z) (n0 : Nat) (h0 : Heap) (O : Old Z n0 h0) (d : Addr) (kd : ClassId) (x1 x2 x3 : Int32) (hc : ChI x2) (VD : Arv Z h0 d kd .byte (6 : Int32) [(.int (lo8 x1)), (.int (hi8 x1)), (.int (lo8 x2)), (.int (hi8 x2)), (.int (lo8 x3)), (.int (hi8 x3))] (.int (0 : Int32))) (S_as : SAs Z) (S_hb : SHb Z) (S_lb : SLb Z) :
    ConW FrameEnd l Z [] (⟨"java/lang/StringUTF16", "getChar", "([BI)C"⟩ : MethodName) jdk_52_method_5_code 2 (some .char) ({ frames := 0, cells := 0, slots := 0, locals := 0 } : Room) #[(.ref d), (.int (1 : Int32))] h0 (Pure h0 (some (.int x2))) := by
  refine conOf (plainFor_of_name pn_java_lang_StringUTF16) ?_
  intro p e s m below mth cc s₁ X0 hx hby hml hown hnm hret hlk hZ e0
  have N0 := Fr.nil n0
  refine Fin.came (castTop (t := _) (by first | (simp [entryFrame, mkF, argsToLocals, Value.category]; done) | rfl) (Steps.refl _) : Steps p.tables e below (s₁.setTop (entryFrame m #[(.ref d), (.int (1 : Int32))] 2)) (s₁.setTop (mkF m 0 #[vr d, vi (1 : Int32)] []))) ?_
  obtain ⟨T11, X11, e11, st11⟩ := getS2 X0 hx hZ hown (host := "") (Or.inl (hw _ w_95)) Via.refl e0 (S_as.ext O.2) (g := (mkF m 0 #[vr d, vi (1 : Int32)] [])) rfl (hb hby d24_0)
  refine Fin.go st11 ?_
  show Fin _ _ _ _ _ _ _ _ T11 (mkF m 3 #[vr d, vi (1 : Int32)] [(.int (1 : Int32))])
  refine .go (fun _ k => XS.ifYes X11.here hx rfl (pc0 := 3) (pc' := 28) rfl (hb hby d24_3) rfl (XT.i0_ne_t (by decide)) (by decide) (by decide) k) ?_
  show Fin _ _ _ _ _ _ _ _ T11 (mkF m 28 #[vr d, vi (1 : Int32)] [])
  refine .go (fun _ k => XS.iloadN X11.here hx rfl (hb hby d24_28) rfl k) ?_
  refine .go (fun _ k => XS.iconst X11.here hx rfl (hb hby d24_29) k) ?_
  refine .go (fun _ k => XT.ishl X11.here hx rfl (hb hby d24_30) rfl k) ?_
  refine .go (fun _ k => XS.istoreN X11.here hx rfl (hb hby d24_31) rfl (l' := #[vr d, vi ((1 : Int32) <<< ((1 : Int32) &&& 31))]) rfl k) ?_
  show Fin _ _ _ _ _ _ _ _ T11 (mkF m 32 #[vr d, vi ((1 : Int32) <<< ((1 : Int32) &&& 31))] [])
  rw [show ((1 : Int32) <<< ((1 : Int32) &&& 31)) = (2 : Int32) from by decide]
  show Fin _ _ _ _ _ _ _ _ T11 (mkF m 32 #[vr d, vi (2 : Int32)] [])
  refine .go (fun _ k => XS.aloadN X11.here hx rfl (hb hby d24_32) rfl rfl k) ?_
  refine .go (fun _ k => XS.iloadN X11.here hx rfl (hb hby d24_33) rfl k) ?_
  refine .go (fun _ k => XS.iinc X11.here hx rfl (hb hby d24_34) rfl (l' := #[vr d, vi ((2 : Int32) + (1 : Int32))]) rfl k) ?_
  obtain ⟨cz12, B12, q12, S12, M12, H12, G12⟩ := id VD
  have i12 := inb_of S12 ⟨(by decide : ¬ ((2 : Int32) < (0 : Int32))), (by decide : (2 : Int32) < (6 : Int32))⟩
  refine Fin.go (fun _ k => X11.baloadBytes hx (j := (2 : Int32)) (v := (.int (lo8 x2))) (by rw [e11]; exact B12.1) (State.isArrayOf_alike hZ.alike B12.2.1) B12.2.2 i12 (Has.at H12 i12 rfl) (g := (mkF m 37 #[vr d, vi ((2 : Int32) + (1 : Int32))] [(.int (2 : Int32)), (.ref d)])) rfl rfl (hb hby d24_37) _ k) ?_
  show Fin _ _ _ _ _ _ _ _ T11 (mkF m 38 #[vr d, vi ((2 : Int32) + (1 : Int32))] [(.int (lo8 x2))])
  refine .go (fun _ k => XS.sipush X11.here hx rfl (hb hby d24_38) k) ?_
  refine .go (fun _ k => XS.iand X11.here hx rfl (hb hby d24_41) rfl k) ?_
  obtain ⟨T13, X13, e13, st13⟩ := getS2 X11 hx hZ hown (host := "") (Or.inl (hw _ w_96)) Via.refl e11 (S_hb.ext O.2) (g := (mkF m 42 #[vr d, vi ((2 : Int32) + (1 : Int32))] [(.int ((lo8 x2) &&& (255 : Int32)))])) rfl (hb hby d24_42)
  refine Fin.go st13 ?_
  show Fin _ _ _ _ _ _ _ _ T13 (mkF m 45 #[vr d, vi ((2 : Int32) + (1 : Int32))] [(.int (0 : Int32)), (.int ((lo8 x2) &&& (255 : Int32)))])
  refine .go (fun _ k => XT.ishl X13.here hx rfl (hb hby d24_45) rfl k) ?_
  refine .go (fun _ k => XS.aloadN X13.here hx rfl (hb hby d24_46) rfl rfl k) ?_
  refine .go (fun _ k => XS.iloadN X13.here hx rfl (hb hby d24_47) rfl k) ?_
  obtain ⟨cz14, B14, q14, S14, M14, H14, G14⟩ := id VD
  have i14 := inb_of S14 ⟨(by decide : ¬ (((2 : Int32) + (1 : Int32)) < (0 : Int32))), (by decide : ((2 : Int32) + (1 : Int32)) < (6 : Int32))⟩
  refine Fin.go (fun _ k => X13.baloadBytes hx (j := ((2 : Int32) + (1 : Int32))) (v := (.int (hi8 x2))) (by rw [e13]; exact B14.1) (State.isArrayOf_alike hZ.alike B14.2.1) B14.2.2 i14 (Has.at H14 i14 rfl) (g := (mkF m 48 #[vr d, vi ((2 : Int32) + (1 : Int32))] [(.int ((2 : Int32) + (1 : Int32))), (.ref d), (.int (((lo8 x2) &&& (255 : Int32)) <<< ((0 : Int32) &&& 31)))])) rfl rfl (hb hby d24_48) _ k) ?_
  show Fin _ _ _ _ _ _ _ _ T13 (mkF m 49 #[vr d, vi ((2 : Int32) + (1 : Int32))] [(.int (hi8 x2)), (.int (((lo8 x2) &&& (255 : Int32)) <<< ((0 : Int32) &&& 31)))])
  refine .go (fun _ k => XS.sipush X13.here hx rfl (hb hby d24_49) k) ?_
  refine .go (fun _ k => XS.iand X13.here hx rfl (hb hby d24_52) rfl k) ?_
  obtain ⟨T15, X15, e15, st15⟩ := getS2 X13 hx hZ hown (host := "") (Or.inl (hw _ w_97)) Via.refl e13 (S_lb.ext O.2) (g := (mkF m 53 #[vr d, vi ((2 : Int32) + (1 : Int32))] [(.int ((hi8 x2) &&& (255 : Int32))), (.int (((lo8 x2) &&& (255 : Int32)) <<< ((0 : Int32) &&& 31)))])) rfl (hb hby d24_53)
  refine Fin.go st15 ?_
  show Fin _ _ _ _ _ _ _ _ T15 (mkF m 56 #[vr d, vi ((2 : Int32) + (1 : Int32))] [(.int (8 : Int32)), (.int ((hi8 x2) &&& (255 : Int32))), (.int (((lo8 x2) &&& (255 : Int32)) <<< ((0 : Int32) &&& 31)))])
  refine .go (fun _ k => XT.ishl X15.here hx rfl (hb hby d24_56) rfl k) ?_
  refine .go (fun _ k => XT.ior X15.here hx rfl (hb hby d24_57) rfl k) ?_
  refine .go (fun _ k => XT.i2c X15.here hx rfl (hb hby d24_58) rfl k) ?_
  exact Fin.leaveN X15 e15 hlk (v := some (.int (nar .char ((Int32.toUInt32 ((((lo8 x2) &&& (255 : Int32)) <<< ((0 : Int32) &&& 31)) ||| (((hi8 x2) &&& (255 : Int32)) <<< ((8 : Int32) &&& 31)))).toUInt16.toUInt32.toInt32)))) (nvS hret) (by decide) (by decide) ⟨by rw [nar_c16, gch _ hc], rfl, rfl⟩ (fun fs hr => retN X15 hx (t := .char) hret (by simp) (hb hby d24_59) hr)
theorem rmGet3_2 (l : Launch) (Z : State) (a0 : Array Value) (hw : HW a0 Z) (n0 : Nat) (h0 : Heap) (O : Old Z n0 h0) (d : Addr) (kd : ClassId) (x1 x2 x3 : Int32) (hc : ChI x3) (VD : Arv Z h0 d kd .byte (6 : Int32) [(.int (lo8 x1)), (.int (hi8 x1)), (.int (lo8 x2)), (.int (hi8 x2)), (.int (lo8 x3)), (.int (hi8 x3))] (.int (0 : Int32))) (S_as : SAs Z) (S_hb : SHb Z) (S_lb : SLb Z) :
    ConW FrameEnd l Z [] (⟨"java/lang/StringUTF16", "getChar", "([BI)C"⟩ : MethodName) jdk_52_method_5_code 2 (some .char) ({ frames := 0, cells := 0, slots := 0, locals := 0 } : Room) #[(.ref d), (.int (2 : Int32))] h0 (Pure h0 (some (.int x3))) := by
  refine conOf (plainFor_of_name pn_java_lang_StringUTF16) ?_
  intro p e s m below mth cc s₁ X0 hx hby hml hown hnm hret hlk hZ e0
  have N0 := Fr.nil n0
  refine Fin.came (castTop (t := _) (by first | (simp [entryFrame, mkF, argsToLocals, Value.category]; done) | rfl) (Steps.refl _) : Steps p.tables e below (s₁.setTop (entryFrame m #[(.ref d), (.int (2 : Int32))] 2)) (s₁.setTop (mkF m 0 #[vr d, vi (2 : Int32)] []))) ?_
  obtain ⟨T11, X11, e11, st11⟩ := getS2 X0 hx hZ hown (host := "") (Or.inl (hw _ w_95)) Via.refl e0 (S_as.ext O.2) (g := (mkF m 0 #[vr d, vi (2 : Int32)] [])) rfl (hb hby d24_0)
  refine Fin.go st11 ?_
  show Fin _ _ _ _ _ _ _ _ T11 (mkF m 3 #[vr d, vi (2 : Int32)] [(.int (1 : Int32))])
  refine .go (fun _ k => XS.ifYes X11.here hx rfl (pc0 := 3) (pc' := 28) rfl (hb hby d24_3) rfl (XT.i0_ne_t (by decide)) (by decide) (by decide) k) ?_
  show Fin _ _ _ _ _ _ _ _ T11 (mkF m 28 #[vr d, vi (2 : Int32)] [])
  refine .go (fun _ k => XS.iloadN X11.here hx rfl (hb hby d24_28) rfl k) ?_
  refine .go (fun _ k => XS.iconst X11.here hx rfl (hb hby d24_29) k) ?_
  refine .go (fun _ k => XT.ishl X11.here hx rfl (hb hby d24_30) rfl k) ?_
  refine .go (fun _ k => XS.istoreN X11.here hx rfl (hb hby d24_31) rfl (l' := #[vr d, vi ((2 : Int32) <<< ((1 : Int32) &&& 31))]) rfl k) ?_
  show Fin _ _ _ _ _ _ _ _ T11 (mkF m 32 #[vr d, vi ((2 : Int32) <<< ((1 : Int32) &&& 31))] [])
  rw [show ((2 : Int32) <<< ((1 : Int32) &&& 31)) = (4 : Int32) from by decide]
  show Fin _ _ _ _ _ _ _ _ T11 (mkF m 32 #[vr d, vi (4 : Int32)] [])
  refine .go (fun _ k => XS.aloadN X11.here hx rfl (hb hby d24_32) rfl rfl k) ?_
  refine .go (fun _ k => XS.iloadN X11.here hx rfl (hb hby d24_33) rfl k) ?_
  refine .go (fun _ k => XS.iinc X11.here hx rfl (hb hby d24_34) rfl (l' := #[vr d, vi ((4 : Int32) + (1 : Int32))]) rfl k) ?_
  obtain ⟨cz12, B12, q12, S12, M12, H12, G12⟩ := id VD
  have i12 := inb_of S12 ⟨(by decide : ¬ ((4 : Int32) < (0 : Int32))), (by decide : (4 : Int32) < (6 : Int32))⟩
  refine Fin.go (fun _ k => X11.baloadBytes hx (j := (4 : Int32)) (v := (.int (lo8 x3))) (by rw [e11]; exact B12.1) (State.isArrayOf_alike hZ.alike B12.2.1) B12.2.2 i12 (Has.at H12 i12 rfl) (g := (mkF m 37 #[vr d, vi ((4 : Int32) + (1 : Int32))] [(.int (4 : Int32)), (.ref d)])) rfl rfl (hb hby d24_37) _ k) ?_
  show Fin _ _ _ _ _ _ _ _ T11 (mkF m 38 #[vr d, vi ((4 : Int32) + (1 : Int32))] [(.int (lo8 x3))])
  refine .go (fun _ k => XS.sipush X11.here hx rfl (hb hby d24_38) k) ?_
  refine .go (fun _ k => XS.iand X11.here hx rfl (hb hby d24_41) rfl k) ?_
  obtain ⟨T13, X13, e13, st13⟩ := getS2 X11 hx hZ hown (host := "") (Or.inl (hw _ w_96)) Via.refl e11 (S_hb.ext O.2) (g := (mkF m 42 #[vr d, vi ((4 : Int32) + (1 : Int32))] [(.int ((lo8 x3) &&& (255 : Int32)))])) rfl (hb hby d24_42)
  refine Fin.go st13 ?_
  show Fin _ _ _ _ _ _ _ _ T13 (mkF m 45 #[vr d, vi ((4 : Int32) + (1 : Int32))] [(.int (0 : Int32)), (.int ((lo8 x3) &&& (255 : Int32)))])
  refine .go (fun _ k => XT.ishl X13.here hx rfl (hb hby d24_45) rfl k) ?_
  refine .go (fun _ k => XS.aloadN X13.here hx rfl (hb hby d24_46) rfl rfl k) ?_
  refine .go (fun _ k => XS.iloadN X13.here hx rfl (hb hby d24_47) rfl k) ?_
  obtain ⟨cz14, B14, q14, S14, M14, H14, G14⟩ := id VD
  have i14 := inb_of S14 ⟨(by decide : ¬ (((4 : Int32) + (1 : Int32)) < (0 : Int32))), (by decide : ((4 : Int32) + (1 : Int32)) < (6 : Int32))⟩
  refine Fin.go (fun _ k => X13.baloadBytes hx (j := ((4 : Int32) + (1 : Int32))) (v := (.int (hi8 x3))) (by rw [e13]; exact B14.1) (State.isArrayOf_alike hZ.alike B14.2.1) B14.2.2 i14 (Has.at H14 i14 rfl) (g := (mkF m 48 #[vr d, vi ((4 : Int32) + (1 : Int32))] [(.int ((4 : Int32) + (1 : Int32))), (.ref d), (.int (((lo8 x3) &&& (255 : Int32)) <<< ((0 : Int32) &&& 31)))])) rfl rfl (hb hby d24_48) _ k) ?_
  show Fin _ _ _ _ _ _ _ _ T13 (mkF m 49 #[vr d, vi ((4 : Int32) + (1 : Int32))] [(.int (hi8 x3)), (.int (((lo8 x3) &&& (255 : Int32)) <<< ((0 : Int32) &&& 31)))])
  refine .go (fun _ k => XS.sipush X13.here hx rfl (hb hby d24_49) k) ?_
  refine .go (fun _ k => XS.iand X13.here hx rfl (hb hby d24_52) rfl k) ?_
  obtain ⟨T15, X15, e15, st15⟩ := getS2 X13 hx hZ hown (host := "") (Or.inl (hw _ w_97)) Via.refl e13 (S_lb.ext O.2) (g := (mkF m 53 #[vr d, vi ((4 : Int32) + (1 : Int32))] [(.int ((hi8 x3) &&& (255 : Int32))), (.int (((lo8 x3) &&& (255 : Int32)) <<< ((0 : Int32) &&& 31)))])) rfl (hb hby d24_53)
  refine Fin.go st15 ?_
  show Fin _ _ _ _ _ _ _ _ T15 (mkF m 56 #[vr d, vi ((4 : Int32) + (1 : Int32))] [(.int (8 : Int32)), (.int ((hi8 x3) &&& (255 : Int32))), (.int (((lo8 x3) &&& (255 : Int32)) <<< ((0 : Int32) &&& 31)))])
  refine .go (fun _ k => XT.ishl X15.here hx rfl (hb hby d24_56) rfl k) ?_
  refine .go (fun _ k => XT.ior X15.here hx rfl (hb hby d24_57) rfl k) ?_
  refine .go (fun _ k => XT.i2c X15.here hx rfl (hb hby d24_58) rfl k) ?_
  exact Fin.leaveN X15 e15 hlk (v := some (.int (nar .char ((Int32.toUInt32 ((((lo8 x3) &&& (255 : Int32)) <<< ((0 : Int32) &&& 31)) ||| (((hi8 x3) &&& (255 : Int32)) <<< ((8 : Int32) &&& 31)))).toUInt16.toUInt32.toInt32)))) (nvS hret) (by decide) (by decide) ⟨by rw [nar_c16, gch _ hc], rfl, rfl⟩ (fun fs hr => retN X15 hx (t := .char) hret (by simp) (hb hby d24_59) hr)
theorem rmPut3_0 (l : Launch) (Z : State) (a0 : Array Value) (hw : HW a0 Z) (n0 : Nat) (h0 : Heap) (O : Old Z n0 h0) (d : Addr) (kd : ClassId) (x y1 y2 y3 y4 y5 y6 : Int32) (VD : Arv Z h0 d kd .byte (6 : Int32) [(.int y1), (.int y2), (.int y3), (.int y4), (.int y5), (.int y6)] (.int (0 : Int32))) (nd : n0 ≤ d) (S_as : SAs Z) (S_hb : SHb Z) (S_lb : SLb Z) :
    ConW FrameEnd l Z [] (⟨"java/lang/StringUTF16", "putChar", "([BII)V"⟩ : MethodName) jdk_52_method_4_code 3 none ({ frames := 0, cells := 0, slots := 0, locals := 0 } : Room) #[(.ref d), (.int (0 : Int32)), (.int x)] h0 (fun v h L => v = none ∧ Fr n0 L ∧ Keep h0 h [d] ∧ Arv Z h d kd .byte (6 : Int32) [(.int (lo8 x)), (.int (hi8 x)), (.int y3), (.int y4), (.int y5), (.int y6)] (.int (0 : Int32))) := by
  refine conOf (plainFor_of_name pn_java_lang_StringUTF16) ?_
  intro p e s m below mth cc s₁ X0 hx hby hml hown hnm hret hlk hZ e0
  have N0 := Fr.nil n0
  have K0 := Keep.refl h0 ([d] : List Addr)
  refine Fin.came (castTop (t := _) (by first | (simp [entryFrame, mkF, argsToLocals, Value.category]; done) | rfl) (Steps.refl _) : Steps p.tables e below (s₁.setTop (entryFrame m #[(.ref d), (.int (0 : Int32)), (.int x)] 3)) (s₁.setTop (mkF m 0 #[vr d, vi (0 : Int32), vi x] []))) ?_
  obtain ⟨T11, X11, e11, st11⟩ := getS2 X0 hx hZ hown (host := "") (Or.inl (hw _ w_95)) Via.refl e0 (S_as.ext O.2) (g := (mkF m 0 #[vr d, vi (0 : Int32), vi x] [])) rfl (hb hby d23_0)
  refine Fin.go st11 ?_
  show Fin _ _ _ _ _ _ _ _ T11 (mkF m 3 #[vr d, vi (0 : Int32), vi x] [(.int (1 : Int32))])
  refine .go (fun _ k => XS.ifYes X11.here hx rfl (pc0 := 3) (pc' := 28) rfl (hb hby d23_3) rfl (XT.i0_ne_t (by decide)) (by decide) (by decide) k) ?_
  show Fin _ _ _ _ _ _ _ _ T11 (mkF m 28 #[vr d, vi (0 : Int32), vi x] [])
  refine .go (fun _ k => XS.iloadN X11.here hx rfl (hb hby d23_28) rfl k) ?_
  refine .go (fun _ k => XS.iconst X11.here hx rfl (hb hby d23_29) k) ?_
  refine .go (fun _ k => XT.ishl X11.here hx rfl (hb hby d23_30) rfl k) ?_
  refine .go (fun _ k => XS.istoreN X11.here hx rfl (hb hby d23_31) rfl (l' := #[vr d, vi ((0 : Int32) <<< ((1 : Int32) &&& 31)), vi x]) rfl k) ?_
  show Fin _ _ _ _ _ _ _ _ T11 (mkF m 32 #[vr d, vi ((0 : Int32) <<< ((1 : Int32) &&& 31)), vi x] [])
  rw [show ((0 : Int32) <<< ((1 : Int32) &&& 31)) = (0 : Int32) from by decide]
  show Fin _ _ _ _ _ _ _ _ T11 (mkF m 32 #[vr d, vi (0 : Int32), vi x] [])
  refine .go (fun _ k => XS.aloadN X11.here hx rfl (hb hby d23_32) rfl rfl k) ?_
  refine .go (fun _ k => XS.iloadN X11.here hx rfl (hb hby d23_33) rfl k) ?_
  refine .go (fun _ k => XS.iinc X11.here hx rfl (hb hby d23_34) rfl (l' := #[vr d, vi ((0 : Int32) + (1 : Int32)), vi x]) rfl k) ?_
  refine .go (fun _ k => XS.iloadN X11.here hx rfl (hb hby d23_37) rfl k) ?_
  obtain ⟨T12, X12, e12, st12⟩ := getS2 X11 hx hZ hown (host := "") (Or.inl (hw _ w_96)) Via.refl e11 (S_hb.ext O.2) (g := (mkF m 38 #[vr d, vi ((0 : Int32) + (1 : Int32)), vi x] [(.int x), (.int (0 : Int32)), (.ref d)])) rfl (hb hby d23_38)
  refine Fin.go st12 ?_
  show Fin _ _ _ _ _ _ _ _ T12 (mkF m 41 #[vr d, vi ((0 : Int32) + (1 : Int32)), vi x] [(.int (0 : Int32)), (.int x), (.int (0 : Int32)), (.ref d)])
  refine .go (fun _ k => XT.ishr X12.here hx rfl (hb hby d23_41) rfl k) ?_
  refine .go (fun _ k => XT.i2b X12.here hx rfl (hb hby d23_42) rfl k) ?_
  obtain ⟨cz13, B13, q13, S13, M13, H13, G13⟩ := id VD
  obtain ⟨T13, h13, X13, e13, W13, st13⟩ := stB X12 hx hZ e12 B13 (j := (0 : Int32)) (inb_of S13 ⟨(by decide : ¬ ((0 : Int32) < (0 : Int32))), (by decide : (0 : Int32) < (6 : Int32))⟩) (g := (mkF m 43 #[vr d, vi ((0 : Int32) + (1 : Int32)), vi x] [(.int ((Int32.toInt8 (x >>> ((0 : Int32) &&& 31))).toInt32)), (.int (0 : Int32)), (.ref d)])) rfl rfl (hb hby d23_43)
  refine Fin.go st13 ?_
  have V13 : Arv Z h13 d kd .byte (6 : Int32) [(.int ((Int32.toInt8 (x >>> ((0 : Int32) &&& 31))).toInt32)), (.int y2), (.int y3), (.int y4), (.int y5), (.int y6)] (.int (0 : Int32)) := (by have q : Arv Z h13 d kd .byte (6 : Int32) [(.int (nar .byte ((Int32.toInt8 (x >>> ((0 : Int32) &&& 31))).toInt32))), (.int y2), (.int y3), (.int y4), (.int y5), (.int y6)] (.int (0 : Int32)) := (Arv.set B13 q13 S13 M13 H13 G13 (fits_nar_byte _) W13 0 rfl (Nat.le_of_ble_eq_true rfl)); rwa [nar_b8] at q)
  have N13 := Fr.snoc X13 N0 nd
  have O13 := O.wr W13 nd
  have K13 := K0.wr W13 (Or.inl (List.mem_of_getElem? (i := 0) rfl))
  show Fin _ _ _ _ _ _ _ _ T13 (mkF m 44 #[vr d, vi ((0 : Int32) + (1 : Int32)), vi x] [])
  refine .go (fun _ k => XS.aloadN X13.here hx rfl (hb hby d23_44) rfl rfl k) ?_
  refine .go (fun _ k => XS.iloadN X13.here hx rfl (hb hby d23_45) rfl k) ?_
  refine .go (fun _ k => XS.iloadN X13.here hx rfl (hb hby d23_46) rfl k) ?_
  obtain ⟨T14, X14, e14, st14⟩ := getS2 X13 hx hZ hown (host := "") (Or.inl (hw _ w_97)) Via.refl e13 (S_lb.ext O13.2) (g := (mkF m 47 #[vr d, vi ((0 : Int32) + (1 : Int32)), vi x] [(.int x), (.int ((0 : Int32) + (1 : Int32))), (.ref d)])) rfl (hb hby d23_47)
  refine Fin.go st14 ?_
  show Fin _ _ _ _ _ _ _ _ T14 (mkF m 50 #[vr d, vi ((0 : Int32) + (1 : Int32)), vi x] [(.int (8 : Int32)), (.int x), (.int ((0 : Int32) + (1 : Int32))), (.ref d)])
  refine .go (fun _ k => XT.ishr X14.here hx rfl (hb hby d23_50) rfl k) ?_
  refine .go (fun _ k => XT.i2b X14.here hx rfl (hb hby d23_51) rfl k) ?_
  obtain ⟨cz15, B15, q15, S15, M15, H15, G15⟩ := id V13
  obtain ⟨T15, h15, X15, e15, W15, st15⟩ := stB X14 hx hZ e14 B15 (j := ((0 : Int32) + (1 : Int32))) (inb_of S15 ⟨(by decide : ¬ (((0 : Int32) + (1 : Int32)) < (0 : Int32))), (by decide : ((0 : Int32) + (1 : Int32)) < (6 : Int32))⟩) (g := (mkF m 52 #[vr d, vi ((0 : Int32) + (1 : Int32)), vi x] [(.int ((Int32.toInt8 (x >>> ((8 : Int32) &&& 31))).toInt32)), (.int ((0 : Int32) + (1 : Int32))), (.ref d)])) rfl rfl (hb hby d23_52)
  refine Fin.go st15 ?_
  have V15 : Arv Z h15 d kd .byte (6 : Int32) [(.int ((Int32.toInt8 (x >>> ((0 : Int32) &&& 31))).toInt32)), (.int ((Int32.toInt8 (x >>> ((8 : Int32) &&& 31))).toInt32)), (.int y3), (.int y4), (.int y5), (.int y6)] (.int (0 : Int32)) := (by have q : Arv Z h15 d kd .byte (6 : Int32) [(.int ((Int32.toInt8 (x >>> ((0 : Int32) &&& 31))).toInt32)), (.int (nar .byte ((Int32.toInt8 (x >>> ((8 : Int32) &&& 31))).toInt32))), (.int y3), (.int y4), (.int y5), (.int y6)] (.int (0 : Int32)) := (Arv.set B15 q15 S15 M15 H15 G15 (fits_nar_byte _) W15 1 rfl (Nat.le_of_ble_eq_true rfl)); rwa [nar_b8] at q)
  have N15 := Fr.snoc X15 N13 nd
  have O15 := O13.wr W15 nd
  have K15 := K13.wr W15 (Or.inl (List.mem_of_getElem? (i := 0) rfl))
  show Fin _ _ _ _ _ _ _ _ T15 (mkF m 53 #[vr d, vi ((0 : Int32) + (1 : Int32)), vi x] [])
  exact Fin.leaveN X15 e15 hlk (v := none) (fun _ => rfl) (by decide) (by decide) ⟨rfl, N15, K15, V15⟩ (fun fs hr => X15.returnOut hx hret (hb hby d23_53) hr)
theorem rmPut3_1 (l : Launch) (Z : State) (a0 : Array Value) (hw : HW a0 Z) (n0 : Nat) (h0 : Heap) (O : Old Z n0 h0) (d : Addr) (kd : ClassId) (x y1 y2 y3 y4 y5 y6 : Int32) (VD : Arv Z h0 d kd .byte (6 : Int32) [(.int y1), (.int y2), (.int y3), (.int y4), (.int y5), (.int y6)] (.int (0 : Int32))) (nd : n0 ≤ d) (S_as : SAs Z) (S_hb : SHb Z) (S_lb : SLb Z) :
    ConW FrameEnd l Z [] (⟨"java/lang/StringUTF16", "putChar", "([BII)V"⟩ : MethodName) jdk_52_method_4_code 3 none ({ frames := 0, cells := 0, slots := 0, locals := 0 } : Room) #[(.ref d), (.int (1 : Int32)), (.int x)] h0 (fun v h L => v = none ∧ Fr n0 L ∧ Keep h0 h [d] ∧ Arv Z h d kd .byte (6 : Int32) [(.int y1), (.int y2), (.int (lo8 x)), (.int (hi8 x)), (.int y5), (.int y6)] (.int (0 : Int32))) := by
  refine conOf (plainFor_of_name pn_java_lang_StringUTF16) ?_
  intro p e s m below mth cc s₁ X0 hx hby hml hown hnm hret hlk hZ e0
  have N0 := Fr.nil n0
  have K0 := Keep.refl h0 ([d] : List Addr)
  refine Fin.came (castTop (t := _) (by first | (simp [entryFrame, mkF, argsToLocals, Value.category]; done) | rfl) (Steps.refl _) : Steps p.tables e below (s₁.setTop (entryFrame m #[(.ref d), (.int (1 : Int32)), (.int x)] 3)) (s₁.setTop (mkF m 0 #[vr d, vi (1 : Int32), vi x] []))) ?_
  obtain ⟨T11, X11, e11, st11⟩ := getS2 X0 hx hZ hown (host := "") (Or.inl (hw _ w_95)) Via.refl e0 (S_as.ext O.2) (g := (mkF m 0 #[vr d, vi (1 : Int32), vi x] [])) rfl (hb hby d23_0)
  refine Fin.go st11 ?_
  show Fin _ _ _ _ _ _ _ _ T11 (mkF m 3 #[vr d, vi (1 : Int32), vi x] [(.int (1 : Int32))])
  refine .go (fun _ k => XS.ifYes X11.here hx rfl (pc0 := 3) (pc' := 28) rfl (hb hby d23_3) rfl (XT.i0_ne_t (by decide)) (by decide) (by decide) k) ?_
  show Fin _ _ _ _ _ _ _ _ T11 (mkF m 28 #[vr d, vi (1 : Int32), vi x] [])
  refine .go (fun _ k => XS.iloadN X11.here hx rfl (hb hby d23_28) rfl k) ?_
  refine .go (fun _ k => XS.iconst X11.here hx rfl (hb hby d23_29) k) ?_
  refine .go (fun _ k => XT.ishl X11.here hx rfl (hb hby d23_30) rfl k) ?_
  refine .go (fun _ k => XS.istoreN X11.here hx rfl (hb hby d23_31) rfl (l' := #[vr d, vi ((1 : Int32) <<< ((1 : Int32) &&& 31)), vi x]) rfl k) ?_
  show Fin _ _ _ _ _ _ _ _ T11 (mkF m 32 #[vr d, vi ((1 : Int32) <<< ((1 : Int32) &&& 31)), vi x] [])
  rw [show ((1 : Int32) <<< ((1 : Int32) &&& 31)) = (2 : Int32) from by decide]
  show Fin _ _ _ _ _ _ _ _ T11 (mkF m 32 #[vr d, vi (2 : Int32), vi x] [])
  refine .go (fun _ k => XS.aloadN X11.here hx rfl (hb hby d23_32) rfl rfl k) ?_
  refine .go (fun _ k => XS.iloadN X11.here hx rfl (hb hby d23_33) rfl k) ?_
  refine .go (fun _ k => XS.iinc X11.here hx rfl (hb hby d23_34) rfl (l' := #[vr d, vi ((2 : Int32) + (1 : Int32)), vi x]) rfl k) ?_
  refine .go (fun _ k => XS.iloadN X11.here hx rfl (hb hby d23_37) rfl k) ?_
  obtain ⟨T12, X12, e12, st12⟩ := getS2 X11 hx hZ hown (host := "") (Or.inl (hw _ w_96)) Via.refl e11 (S_hb.ext O.2) (g := (mkF m 38 #[vr d, vi ((2 : Int32) + (1 : Int32)), vi x] [(.int x), (.int (2 : Int32)), (.ref d)])) rfl (hb hby d23_38)
  refine Fin.go st12 ?_
  show Fin _ _ _ _ _ _ _ _ T12 (mkF m 41 #[vr d, vi ((2 : Int32) + (1 : Int32)), vi x] [(.int (0 : Int32)), (.int x), (.int (2 : Int32)), (.ref d)])
  refine .go (fun _ k => XT.ishr X12.here hx rfl (hb hby d23_41) rfl k) ?_
  refine .go (fun _ k => XT.i2b X12.here hx rfl (hb hby d23_42) rfl k) ?_
  obtain ⟨cz13, B13, q13, S13, M13, H13, G13⟩ := id VD
  obtain ⟨T13, h13, X13, e13, W13, st13⟩ := stB X12 hx hZ e12 B13 (j := (2 : Int32)) (inb_of S13 ⟨(by decide : ¬ ((2 : Int32) < (0 : Int32))), (by decide : (2 : Int32) < (6 : Int32))⟩) (g := (mkF m 43 #[vr d, vi ((2 : Int32) + (1 : Int32)), vi x] [(.int ((Int32.toInt8 (x >>> ((0 : Int32) &&& 31))).toInt32)), (.int (2 : Int32)), (.ref d)])) rfl rfl (hb hby d23_43)
  refine Fin.go st13 ?_
  have V13 : Arv Z h13 d kd .byte (6 : Int32) [(.int y1), (.int y2), (.int ((Int32.toInt8 (x >>> ((0 : Int32) &&& 31))).toInt32)), (.int y4), (.int y5), (.int y6)] (.int (0 : Int32)) := (by have q : Arv Z h13 d kd .byte (6 : Int32) [(.int y1), (.int y2), (.int (nar .byte ((Int32.toInt8 (x >>> ((0 : Int32) &&& 31))).toInt32))), (.int y4), (.int y5), (.int y6)] (.int (0 : Int32)) := (Arv.set B13 q13 S13 M13 H13 G13 (fits_nar_byte _) W13 2 rfl (Nat.le_of_ble_eq_true rfl)); rwa [nar_b8] at q)
  have N13 := Fr.snoc X13 N0 nd
  have O13 := O.wr W13 nd
  have K13 := K0.wr W13 (Or.inl (List.mem_of_getElem? (i := 0) rfl))
  show Fin _ _ _ _ _ _ _ _ T13 (mkF m 44 #[vr d, vi ((2 : Int32) + (1 : Int32)), vi x] [])
  refine .go (fun _ k => XS.aloadN X13.here hx rfl (hb hby d23_44) rfl rfl k) ?_
  refine .go (fun _ k => XS.iloadN X13.here hx rfl (hb hby d23_45) rfl k) ?_
  refine .go (fun _ k => XS.iloadN X13.here hx rfl (hb hby d23_46) rfl k) ?_
  obtain ⟨T14, X14, e14, st14⟩ := getS2 X13 hx hZ hown (host := "") (Or.inl (hw _ w_97)) Via.refl e13 (S_lb.ext O13.2) (g := (mkF m 47 #[vr d, vi ((2 : Int32) + (1 : Int32)), vi x] [(.int x), (.int ((2 : Int32) + (1 : Int32))), (.ref d)])) rfl (hb hby d23_47)
  refine Fin.go st14 ?_
  show Fin _ _ _ _ _ _ _ _ T14 (mkF m 50 #[vr d, vi ((2 : Int32) + (1 : Int32)), vi x] [(.int (8 : Int32)), (.int x), (.int ((2 : Int32) + (1 : Int32))), (.ref d)])
  refine .go (fun _ k => XT.ishr X14.here hx rfl (hb hby d23_50) rfl k) ?_
  refine .go (fun _ k => XT.i2b X14.here hx rfl (hb hby d23_51) rfl k) ?_
  obtain ⟨cz15, B15, q15, S15, M15, H15, G15⟩ := id V13
  obtain ⟨T15, h15, X15, e15, W15, st15⟩ := stB X14 hx hZ e14 B15 (j := ((2 : Int32) + (1 : Int32))) (inb_of S15 ⟨(by decide : ¬ (((2 : Int32) + (1 : Int32)) < (0 : Int32))), (by decide : ((2 : Int32) + (1 : Int32)) < (6 : Int32))⟩) (g := (mkF m 52 #[vr d, vi ((2 : Int32) + (1 : Int32)), vi x] [(.int ((Int32.toInt8 (x >>> ((8 : Int32) &&& 31))).toInt32)), (.int ((2 : Int32) + (1 : Int32))), (.ref d)])) rfl rfl (hb hby d23_52)
  refine Fin.go st15 ?_
  have V15 : Arv Z h15 d kd .byte (6 : Int32) [(.int y1), (.int y2), (.int ((Int32.toInt8 (x >>> ((0 : Int32) &&& 31))).toInt32)), (.int ((Int32.toInt8 (x >>> ((8 : Int32) &&& 31))).toInt32)), (.int y5), (.int y6)] (.int (0 : Int32)) := (by have q : Arv Z h15 d kd .byte (6 : Int32) [(.int y1), (.int y2), (.int ((Int32.toInt8 (x >>> ((0 : Int32) &&& 31))).toInt32)), (.int (nar .byte ((Int32.toInt8 (x >>> ((8 : Int32) &&& 31))).toInt32))), (.int y5), (.int y6)] (.int (0 : Int32)) := (Arv.set B15 q15 S15 M15 H15 G15 (fits_nar_byte _) W15 3 rfl (Nat.le_of_ble_eq_true rfl)); rwa [nar_b8] at q)
  have N15 := Fr.snoc X15 N13 nd
  have O15 := O13.wr W15 nd
  have K15 := K13.wr W15 (Or.inl (List.mem_of_getElem? (i := 0) rfl))
  show Fin _ _ _ _ _ _ _ _ T15 (mkF m 53 #[vr d, vi ((2 : Int32) + (1 : Int32)), vi x] [])
  exact Fin.leaveN X15 e15 hlk (v := none) (fun _ => rfl) (by decide) (by decide) ⟨rfl, N15, K15, V15⟩ (fun fs hr => X15.returnOut hx hret (hb hby d23_53) hr)
theorem rmPut3_2 (l : Launch) (Z : State) (a0 : Array Value) (hw : HW a0 Z) (n0 : Nat) (h0 : Heap) (O : Old Z n0 h0) (d : Addr) (kd : ClassId) (x y1 y2 y3 y4 y5 y6 : Int32) (VD : Arv Z h0 d kd .byte (6 : Int32) [(.int y1), (.int y2), (.int y3), (.int y4), (.int y5), (.int y6)] (.int (0 : Int32))) (nd : n0 ≤ d) (S_as : SAs Z) (S_hb : SHb Z) (S_lb : SLb Z) :
    ConW FrameEnd l Z [] (⟨"java/lang/StringUTF16", "putChar", "([BII)V"⟩ : MethodName) jdk_52_method_4_code 3 none ({ frames := 0, cells := 0, slots := 0, locals := 0 } : Room) #[(.ref d), (.int (2 : Int32)), (.int x)] h0 (fun v h L => v = none ∧ Fr n0 L ∧ Keep h0 h [d] ∧ Arv Z h d kd .byte (6 : Int32) [(.int y1), (.int y2), (.int y3), (.int y4), (.int (lo8 x)), (.int (hi8 x))] (.int (0 : Int32))) := by
  refine conOf (plainFor_of_name pn_java_lang_StringUTF16) ?_
  intro p e s m below mth cc s₁ X0 hx hby hml hown hnm hret hlk hZ e0
  have N0 := Fr.nil n0
  have K0 := Keep.refl h0 ([d] : List Addr)
  refine Fin.came (castTop (t := _) (by first | (simp [entryFrame, mkF, argsToLocals, Value.category]; done) | rfl) (Steps.refl _) : Steps p.tables e below (s₁.setTop (entryFrame m #[(.ref d), (.int (2 : Int32)), (.int x)] 3)) (s₁.setTop (mkF m 0 #[vr d, vi (2 : Int32), vi x] []))) ?_
  obtain ⟨T11, X11, e11, st11⟩ := getS2 X0 hx hZ hown (host := "") (Or.inl (hw _ w_95)) Via.refl e0 (S_as.ext O.2) (g := (mkF m 0 #[vr d, vi (2 : Int32), vi x] [])) rfl (hb hby d23_0)
  refine Fin.go st11 ?_
  show Fin _ _ _ _ _ _ _ _ T11 (mkF m 3 #[vr d, vi (2 : Int32), vi x] [(.int (1 : Int32))])
  refine .go (fun _ k => XS.ifYes X11.here hx rfl (pc0 := 3) (pc' := 28) rfl (hb hby d23_3) rfl (XT.i0_ne_t (by decide)) (by decide) (by decide) k) ?_
  show Fin _ _ _ _ _ _ _ _ T11 (mkF m 28 #[vr d, vi (2 : Int32), vi x] [])
  refine .go (fun _ k => XS.iloadN X11.here hx rfl (hb hby d23_28) rfl k) ?_
  refine .go (fun _ k => XS.iconst X11.here hx rfl (hb hby d23_29) k) ?_
  refine .go (fun _ k => XT.ishl X11.here hx rfl (hb hby d23_30) rfl k) ?_
  refine .go (fun _ k => XS.istoreN X11.here hx rfl (hb hby d23_31) rfl (l' := #[vr d, vi ((2 : Int32) <<< ((1 : Int32) &&& 31)), vi x]) rfl k) ?_
  show Fin _ _ _ _ _ _ _ _ T11 (mkF m 32 #[vr d, vi ((2 : Int32) <<< ((1 : Int32) &&& 31)), vi x] [])
  rw [show ((2 : Int32) <<< ((1 : Int32) &&& 31)) = (4 : Int32) from by decide]
  show Fin _ _ _ _ _ _ _ _ T11 (mkF m 32 #[vr d, vi (4 : Int32), vi x] [])
  refine .go (fun _ k => XS.aloadN X11.here hx rfl (hb hby d23_32) rfl rfl k) ?_
  refine .go (fun _ k => XS.iloadN X11.here hx rfl (hb hby d23_33) rfl k) ?_
  refine .go (fun _ k => XS.iinc X11.here hx rfl (hb hby d23_34) rfl (l' := #[vr d, vi ((4 : Int32) + (1 : Int32)), vi x]) rfl k) ?_
  refine .go (fun _ k => XS.iloadN X11.here hx rfl (hb hby d23_37) rfl k) ?_
  obtain ⟨T12, X12, e12, st12⟩ := getS2 X11 hx hZ hown (host := "") (Or.inl (hw _ w_96)) Via.refl e11 (S_hb.ext O.2) (g := (mkF m 38 #[vr d, vi ((4 : Int32) + (1 : Int32)), vi x] [(.int x), (.int (4 : Int32)), (.ref d)])) rfl (hb hby d23_38)
  refine Fin.go st12 ?_
  show Fin _ _ _ _ _ _ _ _ T12 (mkF m 41 #[vr d, vi ((4 : Int32) + (1 : Int32)), vi x] [(.int (0 : Int32)), (.int x), (.int (4 : Int32)), (.ref d)])
  refine .go (fun _ k => XT.ishr X12.here hx rfl (hb hby d23_41) rfl k) ?_
  refine .go (fun _ k => XT.i2b X12.here hx rfl (hb hby d23_42) rfl k) ?_
  obtain ⟨cz13, B13, q13, S13, M13, H13, G13⟩ := id VD
  obtain ⟨T13, h13, X13, e13, W13, st13⟩ := stB X12 hx hZ e12 B13 (j := (4 : Int32)) (inb_of S13 ⟨(by decide : ¬ ((4 : Int32) < (0 : Int32))), (by decide : (4 : Int32) < (6 : Int32))⟩) (g := (mkF m 43 #[vr d, vi ((4 : Int32) + (1 : Int32)), vi x] [(.int ((Int32.toInt8 (x >>> ((0 : Int32) &&& 31))).toInt32)), (.int (4 : Int32)), (.ref d)])) rfl rfl (hb hby d23_43)
  refine Fin.go st13 ?_
  have V13 : Arv Z h13 d kd .byte (6 : Int32) [(.int y1), (.int y2), (.int y3), (.int y4), (.int ((Int32.toInt8 (x >>> ((0 : Int32) &&& 31))).toInt32)), (.int y6)] (.int (0 : Int32)) := (by have q : Arv Z h13 d kd .byte (6 : Int32) [(.int y1), (.int y2), (.int y3), (.int y4), (.int (nar .byte ((Int32.toInt8 (x >>> ((0 : Int32) &&& 31))).toInt32))), (.int y6)] (.int (0 : Int32)) := (Arv.set B13 q13 S13 M13 H13 G13 (fits_nar_byte _) W13 4 rfl (Nat.le_of_ble_eq_true rfl)); rwa [nar_b8] at q)
  have N13 := Fr.snoc X13 N0 nd
  have O13 := O.wr W13 nd
  have K13 := K0.wr W13 (Or.inl (List.mem_of_getElem? (i := 0) rfl))
  show Fin _ _ _ _ _ _ _ _ T13 (mkF m 44 #[vr d, vi ((4 : Int32) + (1 : Int32)), vi x] [])
  refine .go (fun _ k => XS.aloadN X13.here hx rfl (hb hby d23_44) rfl rfl k) ?_
  refine .go (fun _ k => XS.iloadN X13.here hx rfl (hb hby d23_45) rfl k) ?_
  refine .go (fun _ k => XS.iloadN X13.here hx rfl (hb hby d23_46) rfl k) ?_
  obtain ⟨T14, X14, e14, st14⟩ := getS2 X13 hx hZ hown (host := "") (Or.inl (hw _ w_97)) Via.refl e13 (S_lb.ext O13.2) (g := (mkF m 47 #[vr d, vi ((4 : Int32) + (1 : Int32)), vi x] [(.int x), (.int ((4 : Int32) + (1 : Int32))), (.ref d)])) rfl (hb hby d23_47)
  refine Fin.go st14 ?_
  show Fin _ _ _ _ _ _ _ _ T14 (mkF m 50 #[vr d, vi ((4 : Int32) + (1 : Int32)), vi x] [(.int (8 : Int32)), (.int x), (.int ((4 : Int32) + (1 : Int32))), (.ref d)])
  refine .go (fun _ k => XT.ishr X14.here hx rfl (hb hby d23_50) rfl k) ?_
  refine .go (fun _ k => XT.i2b X14.here hx rfl (hb hby d23_51) rfl k) ?_
  obtain ⟨cz15, B15, q15, S15, M15, H15, G15⟩ := id V13
  obtain ⟨T15, h15, X15, e15, W15, st15⟩ := stB X14 hx hZ e14 B15 (j := ((4 : Int32) + (1 : Int32))) (inb_of S15 ⟨(by decide : ¬ (((4 : Int32) + (1 : Int32)) < (0 : Int32))), (by decide : ((4 : Int32) + (1 : Int32)) < (6 : Int32))⟩) (g := (mkF m 52 #[vr d, vi ((4 : Int32) + (1 : Int32)), vi x] [(.int ((Int32.toInt8 (x >>> ((8 : Int32) &&& 31))).toInt32)), (.int ((4 : Int32) + (1 : Int32))), (.ref d)])) rfl rfl (hb hby d23_52)
  refine Fin.go st15 ?_
  have V15 : Arv Z h15 d kd .byte (6 : Int32) [(.int y1), (.int y2), (.int y3), (.int y4), (.int ((Int32.toInt8 (x >>> ((0 : Int32) &&& 31))).toInt32)), (.int ((Int32.toInt8 (x >>> ((8 : Int32) &&& 31))).toInt32))] (.int (0 : Int32)) := (by have q : Arv Z h15 d kd .byte (6 : Int32) [(.int y1), (.int y2), (.int y3), (.int y4), (.int ((Int32.toInt8 (x >>> ((0 : Int32) &&& 31))).toInt32)), (.int (nar .byte ((Int32.toInt8 (x >>> ((8 : Int32) &&& 31))).toInt32)))] (.int (0 : Int32)) := (Arv.set B15 q15 S15 M15 H15 G15 (fits_nar_byte _) W15 5 rfl (Nat.le_of_ble_eq_true rfl)); rwa [nar_b8] at q)
  have N15 := Fr.snoc X15 N13 nd
  have O15 := O13.wr W15 nd
  have K15 := K13.wr W15 (Or.inl (List.mem_of_getElem? (i := 0) rfl))
  show Fin _ _ _ _ _ _ _ _ T15 (mkF m 53 #[vr d, vi ((4 : Int32) + (1 : Int32)), vi x] [])
  exact Fin.leaveN X15 e15 hlk (v := none) (fun _ => rfl) (by decide) (by decide) ⟨rfl, N15, K15, V15⟩ (fun fs hr => X15.returnOut hx hret (hb hby d23_53) hr)
theorem rmNBL3 (l : Launch) (Z : State) (a0 : Array Value) (hw : HW a0 Z) (n0 : Nat) (h0 : Heap) (O : Old Z n0 h0)  :
    ConW FrameEnd l Z [] (⟨"java/lang/StringUTF16", "newBytesLength", "(I)I"⟩ : MethodName) jdk_52_method_3_code 1 (some .int) ({ frames := 0, cells := 0, slots := 0, locals := 0 } : Room) #[(.int (3 : Int32))] h0 (Pure h0 (some (.int (6 : Int32)))) := by
  refine conOf (plainFor_of_name pn_java_lang_StringUTF16) ?_
  intro p e s m below mth cc s₁ X0 hx hby hml hown hnm hret hlk hZ e0
  have N0 := Fr.nil n0
  refine Fin.came (castTop (t := _) (by first | (simp [entryFrame, mkF, argsToLocals, Value.category]; done) | rfl) (Steps.refl _) : Steps p.tables e below (s₁.setTop (entryFrame m #[(.int (3 : Int32))] 1)) (s₁.setTop (mkF m 0 #[vi (3 : Int32)] []))) ?_
  refine .go (fun _ k => XS.iloadN X0.here hx rfl (hb hby d22_0) rfl k) ?_
  refine .go (fun _ k => XS.ifYes X0.here hx rfl (pc0 := 1) (pc' := 12) rfl (hb hby d22_1) rfl (XT.i0_ge_t (by decide)) (by decide) (by decide) k) ?_
  show Fin _ _ _ _ _ _ _ _ s₁ (mkF m 12 #[vi (3 : Int32)] [])
  refine .go (fun _ k => XS.iloadN X0.here hx rfl (hb hby d22_12) rfl k) ?_
  refine .go (fun _ k => X0.ldcI hx hown (mvT hZ (hw _ w_91)) rfl (hb hby d22_13) k) ?_
  refine .go (fun _ k => XS.icmpYes X0.here hx rfl (pc0 := 15) (pc' := 55) rfl (hb hby d22_15) rfl (XT.ii_lt_t (by decide)) (by decide) (by decide) k) ?_
  show Fin _ _ _ _ _ _ _ _ s₁ (mkF m 55 #[vi (3 : Int32)] [])
  refine .go (fun _ k => XS.iloadN X0.here hx rfl (hb hby d22_55) rfl k) ?_
  refine .go (fun _ k => XS.iconst X0.here hx rfl (hb hby d22_56) k) ?_
  refine .go (fun _ k => XT.ishl X0.here hx rfl (hb hby d22_57) rfl k) ?_
  exact Fin.leaveN X0 e0 hlk (v := some (.int ((3 : Int32) <<< ((1 : Int32) &&& 31)))) (nvS hret) (by decide) (by decide) ⟨by decide +kernel, rfl, rfl⟩ (fun fs hr => retI X0 hx hret (hb hby d22_58) hr)
theorem rmNBF3 (l : Launch) (Z : State) (a0 : Array Value) (hw : HW a0 Z) (n0 : Nat) (h0 : Heap) (O : Old Z n0 h0)  :
    ConW FrameEnd l Z [] (⟨"java/lang/StringUTF16", "newBytesFor", "(I)[B"⟩ : MethodName) jdk_52_method_2_code 1 (some (.array .byte)) ({ frames := 1, cells := 1, slots := 6, locals := 12 } : Room) #[(.int (3 : Int32))] h0 (fun v h L => ∃ d kd, v = some (.ref d) ∧ Fr n0 L ∧ Keep h0 h [] ∧ Arv Z h d kd .byte (6 : Int32) [(.int (0 : Int32)), (.int (0 : Int32)), (.int (0 : Int32)), (.int (0 : Int32)), (.int (0 : Int32)), (.int (0 : Int32))] (.int (0 : Int32)) ∧ h0.size ≤ d) := by
  refine conOf (plainFor_of_name pn_java_lang_StringUTF16) ?_
  intro p e s m below mth cc s₁ X0 hx hby hml hown hnm hret hlk hZ e0
  have N0 := Fr.nil n0
  have K0 := Keep.refl h0 ([] : List Addr)
  refine Fin.came (castTop (t := _) (by first | (simp [entryFrame, mkF, argsToLocals, Value.category]; done) | rfl) (Steps.refl _) : Steps p.tables e below (s₁.setTop (entryFrame m #[(.int (3 : Int32))] 1)) (s₁.setTop (mkF m 0 #[vi (3 : Int32)] []))) ?_
  refine .go (fun _ k => XS.iloadN X0.here hx rfl (hb hby d21_0) rfl k) ?_
  obtain ⟨v11, T11, L11, X11, q11, st11⟩ := callSt X0 hx hZ hown (hw _ w_88) (hw _ w_89) (hw _ w_26) (hw _ w_90) (by decide) (W := 0) (rmNBL3 l Z a0 hw n0 h0 O) e0 (by decide) (by decide) (by decide) (by decide) (g := (mkF m 1 #[vi (3 : Int32)] [(.int (3 : Int32))])) rfl (by rw [hml]; rfl) (argsL := [(.int (3 : Int32))]) (rest := []) (lenOf pd_oIcI rfl) rfl (wk rfl rfl) (hb hby d21_1)
  obtain ⟨rfl, e11, rfl⟩ := q11
  have N11 := Fr.app N0 (Fr.nil n0)
  refine Fin.go st11 ?_
  show Fin _ _ _ _ _ _ _ _ T11 (mkF m 4 #[vi (3 : Int32)] [(.int (6 : Int32))])
  obtain ⟨T12, h12, k12, X12, e12, E12, A12, st12⟩ := newP X11 hx hZ (aty := .byte) (hw _ w_28) e11 (g := (mkF m 4 #[vi (3 : Int32)] [(.int (6 : Int32))])) rfl (hb hby d21_4) rfl (by decide : ¬ ((6 : Int32) < (0 : Int32))) (cap := 6) (by decide) (by decide) (by decide) (by decide)
  obtain ⟨a12, g12⟩ : ∃ z, z = h0.size := ⟨_, rfl⟩
  rw [← g12] at A12 st12
  refine Fin.go st12 ?_
  have O12 := O.ext E12
  have K12 := K0.ext E12
  have n12 : n0 ≤ a12 := by have := O.2.1; have := O.1; omega
  have z12 : h0.size ≤ a12 := by have := K0.1; omega
  have V12 : Arv Z h12 a12 k12 .byte (6 : Int32) [(.int (0 : Int32)), (.int (0 : Int32)), (.int (0 : Int32)), (.int (0 : Int32)), (.int (0 : Int32)), (.int (0 : Int32))] (.int (0 : Int32)) := (Arv.new A12 (by decide)).pad (pad_rep [] (.int (0 : Int32)) 6)
  show Fin _ _ _ _ _ _ _ _ T12 (mkF m 6 #[vi (3 : Int32)] [(.ref a12)])
  exact Fin.leaveN X12 e12 hlk (v := some (.ref a12)) (nvS hret) (by decide) (by decide) ⟨a12, k12, rfl, N11, K12, V12, z12⟩ (fun fs hr => retOut X12 hx hret rfl (Or.inr (Or.inr (Or.inr (Or.inr ⟨rfl, rfl, rfl⟩)))) (hb hby d21_6) hr)
theorem rmTBs3 (l : Launch) (Z : State) (a0 : Array Value) (hw : HW a0 Z) (n0 : Nat) (h0 : Heap) (O : Old Z n0 h0) (b : Addr) (kb : ClassId) (x1 x2 x3 : Int32) (VB : Arv Z h0 b kb .char (3 : Int32) [(.int x1), (.int x2), (.int x3)] (.int (0 : Int32))) (S_as : SAs Z) (S_hb : SHb Z) (S_lb : SLb Z) :
    ConW FrameEnd l Z [] (⟨"java/lang/StringUTF16", "toBytes", "([CII)[B"⟩ : MethodName) jdk_52_method_14_code 5 (some (.array .byte)) ({ frames := 2, cells := 1, slots := 6, locals := 24 } : Room) #[(.ref b), (.int (0 : Int32)), (.int (3 : Int32))] h0 (fun v h L => ∃ d kd, v = some (.ref d) ∧ Fr n0 L ∧ Keep h0 h [] ∧ Arv Z h d kd .byte (6 : Int32) [(.int (lo8 x1)), (.int (hi8 x1)), (.int (lo8 x2)), (.int (hi8 x2)), (.int (lo8 x3)), (.int (hi8 x3))] (.int (0 : Int32)) ∧ h0.size ≤ d) := by
  refine conOf (plainFor_of_name pn_java_lang_StringUTF16) ?_
  intro p e s m below mth cc s₁ X0 hx hby hml hown hnm hret hlk hZ e0
  have N0 := Fr.nil n0
  have K0 := Keep.refl h0 ([] : List Addr)
  refine Fin.came (castTop (t := _) (by first | (simp [entryFrame, mkF, argsToLocals, Value.category]; done) | rfl) (Steps.refl _) : Steps p.tables e below (s₁.setTop (entryFrame m #[(.ref b), (.int (0 : Int32)), (.int (3 : Int32))] 5)) (s₁.setTop (mkF m 0 #[vr b, vi (0 : Int32), vi (3 : Int32), .unset, .unset] []))) ?_
  refine .go (fun _ k => XS.iloadN X0.here hx rfl (hb hby d20_0) rfl k) ?_
  obtain ⟨v11, T11, L11, X11, q11, st11⟩ := callSt X0 hx hZ hown (hw _ w_85) (hw _ w_86) (hw _ w_26) (hw _ w_87) (by decide) (W := 0) (rmNBF3 l Z a0 hw n0 h0 O) e0 (by decide) (by decide) (by decide) (by decide) (g := (mkF m 1 #[vr b, vi (0 : Int32), vi (3 : Int32), .unset, .unset] [(.int (3 : Int32))])) rfl (by rw [hml]; rfl) (argsL := [(.int (3 : Int32))]) (rest := []) (lenOf pd_oIcAB rfl) rfl (wk rfl rfl) (hb hby d20_1)
  obtain ⟨d11, kd11, rfl, Nq11, Kq11, V11, zd11⟩ := q11
  have N11 := Fr.app N0 Nq11
  have O11 := O.keep Kq11 all0
  have K11 := K0.trans Kq11 all0
  refine Fin.go st11 ?_
  show Fin _ _ _ _ _ _ _ _ T11 (mkF m 4 #[vr b, vi (0 : Int32), vi (3 : Int32), .unset, .unset] [(.ref d11)])
  have nzd11 : n0 ≤ d11 := Nat.le_trans (by have := O.1; have := O.2.1; omega) zd11
  have hzd11 : h0.size ≤ d11 := Nat.le_trans K0.1 zd11
  refine .go (fun _ k => XS.astoreN X11.here hx rfl (hb hby d20_4) rfl rfl (l' := #[vr b, vi (0 : Int32), vi (3 : Int32), vr d11, .unset]) rfl k) ?_
  refine .go (fun _ k => XS.iconst X11.here hx rfl (hb hby d20_5) k) ?_
  refine .go (fun _ k => XS.istore X11.here hx rfl (hb hby d20_6) rfl (l' := #[vr b, vi (0 : Int32), vi (3 : Int32), vr d11, vi (0 : Int32)]) rfl k) ?_
  show Fin _ _ _ _ _ _ _ _ T11 (mkF m 8 #[vr b, vi (0 : Int32), vi (3 : Int32), vr d11, vi (0 : Int32)] [])
  refine .go (fun _ k => XS.iload X11.here hx rfl (hb hby d20_8) rfl k) ?_
  refine .go (fun _ k => XS.iloadN X11.here hx rfl (hb hby d20_10) rfl k) ?_
  refine .go (fun _ k => XS.icmpNo X11.here hx rfl (hb hby d20_11) rfl (XT.ii_ge_f (by decide)) k) ?_
  show Fin _ _ _ _ _ _ _ _ T11 (mkF m 14 #[vr b, vi (0 : Int32), vi (3 : Int32), vr d11, vi (0 : Int32)] [])
  refine .go (fun _ k => XS.aloadN X11.here hx rfl (hb hby d20_14) rfl rfl k) ?_
  refine .go (fun _ k => XS.iload X11.here hx rfl (hb hby d20_15) rfl k) ?_
  refine .go (fun _ k => XS.aloadN X11.here hx rfl (hb hby d20_17) rfl rfl k) ?_
  refine .go (fun _ k => XS.iloadN X11.here hx rfl (hb hby d20_18) rfl k) ?_
  obtain ⟨cz12, B12, q12, S12, M12, H12, G12⟩ := id (VB.keep Kq11 nin0)
  have i12 := inb_of S12 ⟨(by decide : ¬ ((0 : Int32) < (0 : Int32))), (by decide : (0 : Int32) < (3 : Int32))⟩
  refine Fin.go (fun _ k => X11.caload hx (j := (0 : Int32)) (v := (.int x1)) (by rw [(rfl : T11.heap = T11.heap)]; exact B12.1) (State.isArrayOf_alike hZ.alike B12.2.1) B12.2.2 i12 (Has.at H12 i12 rfl) (g := (mkF m 19 #[vr b, vi (0 : Int32), vi (3 : Int32), vr d11, vi (0 : Int32)] [(.int (0 : Int32)), (.ref b), (.int (0 : Int32)), (.ref d11)])) rfl rfl (hb hby d20_19) _ k) ?_
  show Fin _ _ _ _ _ _ _ _ T11 (mkF m 20 #[vr b, vi (0 : Int32), vi (3 : Int32), vr d11, vi (0 : Int32)] [(.int x1), (.int (0 : Int32)), (.ref d11)])
  obtain ⟨v13, T13, L13, X13, q13, st13⟩ := callSt X11 hx hZ hown (hw _ w_92) (hw _ w_93) (hw _ w_26) (hw _ w_94) (by decide) (W := 0) (rmPut3_0 l Z a0 hw n0 T11.heap O11 d11 kd11 x1 (0 : Int32) (0 : Int32) (0 : Int32) (0 : Int32) (0 : Int32) (0 : Int32) V11 nzd11 S_as S_hb S_lb) (rfl : T11.heap = T11.heap) (by decide) (by decide) (by decide) (by decide) (g := (mkF m 20 #[vr b, vi (0 : Int32), vi (3 : Int32), vr d11, vi (0 : Int32)] [(.int x1), (.int (0 : Int32)), (.ref d11)])) rfl (by rw [hml]; rfl) (argsL := [(.ref d11), (.int (0 : Int32)), (.int x1)]) (rest := []) (lenOf pd_oABIIcV rfl) rfl (wk rfl rfl) (hb hby d20_20)
  obtain ⟨rfl, Nq13, Kq13, V13⟩ := q13
  have N13 := Fr.app N11 Nq13
  have O13 := O11.keep Kq13 (allS nzd11 all0)
  have K13 := K11.trans Kq13 (allS (Or.inr hzd11) all0)
  refine Fin.go st13 ?_
  have V13_b := ((VB.keep Kq11 nin0).keep Kq13 (ninS (Nat.ne_of_lt (Nat.lt_of_lt_of_le VB.lt zd11)) nin0))
  show Fin _ _ _ _ _ _ _ _ T13 (mkF m 23 #[vr b, vi (0 : Int32), vi (3 : Int32), vr d11, vi (0 : Int32)] [])
  refine .go (fun _ k => XS.iinc X13.here hx rfl (hb hby d20_23) rfl (l' := #[vr b, vi ((0 : Int32) + (1 : Int32)), vi (3 : Int32), vr d11, vi (0 : Int32)]) rfl k) ?_
  refine .go (fun _ k => XS.iinc X13.here hx rfl (hb hby d20_26) rfl (l' := #[vr b, vi ((0 : Int32) + (1 : Int32)), vi (3 : Int32), vr d11, vi ((0 : Int32) + (1 : Int32))]) rfl k) ?_
  refine .go (fun _ k => XS.goto X13.here hx rfl (pc0 := 29) (pc' := 8) rfl (hb hby d20_29) (by decide) (by decide) k) ?_
  show Fin _ _ _ _ _ _ _ _ T13 (mkF m 8 #[vr b, vi ((0 : Int32) + (1 : Int32)), vi (3 : Int32), vr d11, vi ((0 : Int32) + (1 : Int32))] [])
  rw [show ((0 : Int32) + (1 : Int32)) = (1 : Int32) from by decide]
  show Fin _ _ _ _ _ _ _ _ T13 (mkF m 8 #[vr b, vi ((0 : Int32) + (1 : Int32)), vi (3 : Int32), vr d11, vi (1 : Int32)] [])
  rw [show ((0 : Int32) + (1 : Int32)) = (1 : Int32) from by decide]
  show Fin _ _ _ _ _ _ _ _ T13 (mkF m 8 #[vr b, vi (1 : Int32), vi (3 : Int32), vr d11, vi (1 : Int32)] [])
  refine .go (fun _ k => XS.iload X13.here hx rfl (hb hby d20_8) rfl k) ?_
  refine .go (fun _ k => XS.iloadN X13.here hx rfl (hb hby d20_10) rfl k) ?_
  refine .go (fun _ k => XS.icmpNo X13.here hx rfl (hb hby d20_11) rfl (XT.ii_ge_f (by decide)) k) ?_
  show Fin _ _ _ _ _ _ _ _ T13 (mkF m 14 #[vr b, vi (1 : Int32), vi (3 : Int32), vr d11, vi (1 : Int32)] [])
  refine .go (fun _ k => XS.aloadN X13.here hx rfl (hb hby d20_14) rfl rfl k) ?_
  refine .go (fun _ k => XS.iload X13.here hx rfl (hb hby d20_15) rfl k) ?_
  refine .go (fun _ k => XS.aloadN X13.here hx rfl (hb hby d20_17) rfl rfl k) ?_
  refine .go (fun _ k => XS.iloadN X13.here hx rfl (hb hby d20_18) rfl k) ?_
  obtain ⟨cz14, B14, q14, S14, M14, H14, G14⟩ := id V13_b
  have i14 := inb_of S14 ⟨(by decide : ¬ ((1 : Int32) < (0 : Int32))), (by decide : (1 : Int32) < (3 : Int32))⟩
  refine Fin.go (fun _ k => X13.caload hx (j := (1 : Int32)) (v := (.int x2)) (by rw [(rfl : T13.heap = T13.heap)]; exact B14.1) (State.isArrayOf_alike hZ.alike B14.2.1) B14.2.2 i14 (Has.at H14 i14 rfl) (g := (mkF m 19 #[vr b, vi (1 : Int32), vi (3 : Int32), vr d11, vi (1 : Int32)] [(.int (1 : Int32)), (.ref b), (.int (1 : Int32)), (.ref d11)])) rfl rfl (hb hby d20_19) _ k) ?_
  show Fin _ _ _ _ _ _ _ _ T13 (mkF m 20 #[vr b, vi (1 : Int32), vi (3 : Int32), vr d11, vi (1 : Int32)] [(.int x2), (.int (1 : Int32)), (.ref d11)])
  obtain ⟨v15, T15, L15, X15, q15, st15⟩ := callSt X13 hx hZ hown (hw _ w_92) (hw _ w_93) (hw _ w_26) (hw _ w_94) (by decide) (W := 0) (rmPut3_1 l Z a0 hw n0 T13.heap O13 d11 kd11 x2 (lo8 x1) (hi8 x1) (0 : Int32) (0 : Int32) (0 : Int32) (0 : Int32) V13 nzd11 S_as S_hb S_lb) (rfl : T13.heap = T13.heap) (by decide) (by decide) (by decide) (by decide) (g := (mkF m 20 #[vr b, vi (1 : Int32), vi (3 : Int32), vr d11, vi (1 : Int32)] [(.int x2), (.int (1 : Int32)), (.ref d11)])) rfl (by rw [hml]; rfl) (argsL := [(.ref d11), (.int (1 : Int32)), (.int x2)]) (rest := []) (lenOf pd_oABIIcV rfl) rfl (wk rfl rfl) (hb hby d20_20)
  obtain ⟨rfl, Nq15, Kq15, V15⟩ := q15
  have N15 := Fr.app N13 Nq15
  have O15 := O13.keep Kq15 (allS nzd11 all0)
  have K15 := K13.trans Kq15 (allS (Or.inr hzd11) all0)
  refine Fin.go st15 ?_
  have V15_b := (V13_b.keep Kq15 (ninS (Nat.ne_of_lt (Nat.lt_of_lt_of_le VB.lt zd11)) nin0))
  show Fin _ _ _ _ _ _ _ _ T15 (mkF m 23 #[vr b, vi (1 : Int32), vi (3 : Int32), vr d11, vi (1 : Int32)] [])
  refine .go (fun _ k => XS.iinc X15.here hx rfl (hb hby d20_23) rfl (l' := #[vr b, vi ((1 : Int32) + (1 : Int32)), vi (3 : Int32), vr d11, vi (1 : Int32)]) rfl k) ?_
  refine .go (fun _ k => XS.iinc X15.here hx rfl (hb hby d20_26) rfl (l' := #[vr b, vi ((1 : Int32) + (1 : Int32)), vi (3 : Int32), vr d11, vi ((1 : Int32) + (1 : Int32))]) rfl k) ?_
  refine .go (fun _ k => XS.goto X15.here hx rfl (pc0 := 29) (pc' := 8) rfl (hb hby d20_29) (by decide) (by decide) k) ?_
  show Fin _ _ _ _ _ _ _ _ T15 (mkF m 8 #[vr b, vi ((1 : Int32) + (1 : Int32)), vi (3 : Int32), vr d11, vi ((1 : Int32) + (1 : Int32))] [])
  rw [show ((1 : Int32) + (1 : Int32)) = (2 : Int32) from by decide]
  show Fin _ _ _ _ _ _ _ _ T15 (mkF m 8 #[vr b, vi ((1 : Int32) + (1 : Int32)), vi (3 : Int32), vr d11, vi (2 : Int32)] [])
  rw [show ((1 : Int32) + (1 : Int32)) = (2 : Int32) from by decide]
  show Fin _ _ _ _ _ _ _ _ T15 (mkF m 8 #[vr b, vi (2 : Int32), vi (3 : Int32), vr d11, vi (2 : Int32)] [])
  refine .go (fun _ k => XS.iload X15.here hx rfl (hb hby d20_8) rfl k) ?_
  refine .go (fun _ k => XS.iloadN X15.here hx rfl (hb hby d20_10) rfl k) ?_
  refine .go (fun _ k => XS.icmpNo X15.here hx rfl (hb hby d20_11) rfl (XT.ii_ge_f (by decide)) k) ?_
  show Fin _ _ _ _ _ _ _ _ T15 (mkF m 14 #[vr b, vi (2 : Int32), vi (3 : Int32), vr d11, vi (2 : Int32)] [])
  refine .go (fun _ k => XS.aloadN X15.here hx rfl (hb hby d20_14) rfl rfl k) ?_
  refine .go (fun _ k => XS.iload X15.here hx rfl (hb hby d20_15) rfl k) ?_
  refine .go (fun _ k => XS.aloadN X15.here hx rfl (hb hby d20_17) rfl rfl k) ?_
  refine .go (fun _ k => XS.iloadN X15.here hx rfl (hb hby d20_18) rfl k) ?_
  obtain ⟨cz16, B16, q16, S16, M16, H16, G16⟩ := id V15_b
  have i16 := inb_of S16 ⟨(by decide : ¬ ((2 : Int32) < (0 : Int32))), (by decide : (2 : Int32) < (3 : Int32))⟩
  refine Fin.go (fun _ k => X15.caload hx (j := (2 : Int32)) (v := (.int x3)) (by rw [(rfl : T15.heap = T15.heap)]; exact B16.1) (State.isArrayOf_alike hZ.alike B16.2.1) B16.2.2 i16 (Has.at H16 i16 rfl) (g := (mkF m 19 #[vr b, vi (2 : Int32), vi (3 : Int32), vr d11, vi (2 : Int32)] [(.int (2 : Int32)), (.ref b), (.int (2 : Int32)), (.ref d11)])) rfl rfl (hb hby d20_19) _ k) ?_
  show Fin _ _ _ _ _ _ _ _ T15 (mkF m 20 #[vr b, vi (2 : Int32), vi (3 : Int32), vr d11, vi (2 : Int32)] [(.int x3), (.int (2 : Int32)), (.ref d11)])
  obtain ⟨v17, T17, L17, X17, q17, st17⟩ := callSt X15 hx hZ hown (hw _ w_92) (hw _ w_93) (hw _ w_26) (hw _ w_94) (by decide) (W := 0) (rmPut3_2 l Z a0 hw n0 T15.heap O15 d11 kd11 x3 (lo8 x1) (hi8 x1) (lo8 x2) (hi8 x2) (0 : Int32) (0 : Int32) V15 nzd11 S_as S_hb S_lb) (rfl : T15.heap = T15.heap) (by decide) (by decide) (by decide) (by decide) (g := (mkF m 20 #[vr b, vi (2 : Int32), vi (3 : Int32), vr d11, vi (2 : Int32)] [(.int x3), (.int (2 : Int32)), (.ref d11)])) rfl (by rw [hml]; rfl) (argsL := [(.ref d11), (.int (2 : Int32)), (.int x3)]) (rest := []) (lenOf pd_oABIIcV rfl) rfl (wk rfl rfl) (hb hby d20_20)
  obtain ⟨rfl, Nq17, Kq17, V17⟩ := q17
  have N17 := Fr.app N15 Nq17
  have O17 := O15.keep Kq17 (allS nzd11 all0)
  have K17 := K15.trans Kq17 (allS (Or.inr hzd11) all0)
  refine Fin.go st17 ?_
  have V17_b := (V15_b.keep Kq17 (ninS (Nat.ne_of_lt (Nat.lt_of_lt_of_le VB.lt zd11)) nin0))
  show Fin _ _ _ _ _ _ _ _ T17 (mkF m 23 #[vr b, vi (2 : Int32), vi (3 : Int32), vr d11, vi (2 : Int32)] [])
  refine .go (fun _ k => XS.iinc X17.here hx rfl (hb hby d20_23) rfl (l' := #[vr b, vi ((2 : Int32) + (1 : Int32)), vi (3 : Int32), vr d11, vi (2 : Int32)]) rfl k) ?_
  refine .go (fun _ k => XS.iinc X17.here hx rfl (hb hby d20_26) rfl (l' := #[vr b, vi ((2 : Int32) + (1 : Int32)), vi (3 : Int32), vr d11, vi ((2 : Int32) + (1 : Int32))]) rfl k) ?_
  refine .go (fun _ k => XS.goto X17.here hx rfl (pc0 := 29) (pc' := 8) rfl (hb hby d20_29) (by decide) (by decide) k) ?_
  show Fin _ _ _ _ _ _ _ _ T17 (mkF m 8 #[vr b, vi ((2 : Int32) + (1 : Int32)), vi (3 : Int32), vr d11, vi ((2 : Int32) + (1 : Int32))] [])
  rw [show ((2 : Int32) + (1 : Int32)) = (3 : Int32) from by decide]
  show Fin _ _ _ _ _ _ _ _ T17 (mkF m 8 #[vr b, vi ((2 : Int32) + (1 : Int32)), vi (3 : Int32), vr d11, vi (3 : Int32)] [])
  rw [show ((2 : Int32) + (1 : Int32)) = (3 : Int32) from by decide]
  show Fin _ _ _ _ _ _ _ _ T17 (mkF m 8 #[vr b, vi (3 : Int32), vi (3 : Int32), vr d11, vi (3 : Int32)] [])
  refine .go (fun _ k => XS.iload X17.here hx rfl (hb hby d20_8) rfl k) ?_
  refine .go (fun _ k => XS.iloadN X17.here hx rfl (hb hby d20_10) rfl k) ?_
  refine .go (fun _ k => XS.icmpYes X17.here hx rfl (pc0 := 11) (pc' := 32) rfl (hb hby d20_11) rfl (XT.ii_ge_t (by decide)) (by decide) (by decide) k) ?_
  show Fin _ _ _ _ _ _ _ _ T17 (mkF m 32 #[vr b, vi (3 : Int32), vi (3 : Int32), vr d11, vi (3 : Int32)] [])
  refine .go (fun _ k => XS.aloadN X17.here hx rfl (hb hby d20_32) rfl rfl k) ?_
  exact Fin.leaveN X17 (rfl : T17.heap = T17.heap) hlk (v := some (.ref d11)) (nvS hret) (by decide) (by decide) ⟨d11, kd11, rfl, N17, K17, V17, hzd11⟩ (fun fs hr => retOut X17 hx hret rfl (Or.inr (Or.inr (Or.inr (Or.inr ⟨rfl, rfl, rfl⟩)))) (hb hby d20_33) hr)
theorem rmCBu3_0 (l : Launch) (Z : State) (a0 : Array Value) (hw : HW a0 Z) (n0 : Nat) (h0 : Heap) (O : Old Z n0 h0) (b d : Addr) (kb kd : ClassId) (x1 x2 x3 : Int32) (VB : Arv Z h0 b kb .char (3 : Int32) [(.int x1), (.int x2), (.int x3)] (.int (0 : Int32))) (VD : Arv Z h0 d kd .byte (3 : Int32) [(.int (0 : Int32)), (.int (0 : Int32)), (.int (0 : Int32))] (.int (0 : Int32)))  (hq : (255 : Int32) < x1) (nd : n0 ≤ d) (nbd : b ≠ d) :
    ConW FrameEnd l Z [] (⟨"java/lang/StringUTF16", "compress", "([CI[BII)I"⟩ : MethodName) jdk_52_method_21_code 7 (some .int) ({ frames := 0, cells := 0, slots := 0, locals := 0 } : Room) #[(.ref b), (.int (0 : Int32)), (.ref d), (.int (0 : Int32)), (.int (3 : Int32))] h0 (fun v h L => v = some (.int (0 : Int32)) ∧ Fr n0 L ∧ Keep h0 h [d]) := by
  refine conOf (plainFor_of_name pn_java_lang_StringUTF16) ?_
  intro p e s m below mth cc s₁ X0 hx hby hml hown hnm hret hlk hZ e0
  have N0 := Fr.nil n0
  have K0 := Keep.refl h0 ([d] : List Addr)
  refine Fin.came (castTop (t := _) (by first | (simp [entryFrame, mkF, argsToLocals, Value.category]; done) | rfl) (Steps.refl _) : Steps p.tables e below (s₁.setTop (entryFrame m #[(.ref b), (.int (0 : Int32)), (.ref d), (.int (0 : Int32)), (.int (3 : Int32))] 7)) (s₁.setTop (mkF m 0 #[vr b, vi (0 : Int32), vr d, vi (0 : Int32), vi (3 : Int32), .unset, .unset] []))) ?_
  refine .go (fun _ k => XS.iconst X0.here hx rfl (hb hby d7_0) k) ?_
  refine .go (fun _ k => XS.istore X0.here hx rfl (hb hby d7_1) rfl (l' := #[vr b, vi (0 : Int32), vr d, vi (0 : Int32), vi (3 : Int32), vi (0 : Int32), .unset]) rfl k) ?_
  refine .go (fun _ k => XS.iload X0.here hx rfl (hb hby d7_3) rfl k) ?_
  refine .go (fun _ k => XS.iload X0.here hx rfl (hb hby d7_5) rfl k) ?_
  refine .go (fun _ k => XS.icmpNo X0.here hx rfl (hb hby d7_7) rfl (XT.ii_ge_f (by decide)) k) ?_
  show Fin _ _ _ _ _ _ _ _ s₁ (mkF m 10 #[vr b, vi (0 : Int32), vr d, vi (0 : Int32), vi (3 : Int32), vi (0 : Int32), .unset] [])
  refine .go (fun _ k => XS.aloadN X0.here hx rfl (hb hby d7_10) rfl rfl k) ?_
  refine .go (fun _ k => XS.iloadN X0.here hx rfl (hb hby d7_11) rfl k) ?_
  obtain ⟨cz11, B11, q11, S11, M11, H11, G11⟩ := id VB
  have i11 := inb_of S11 ⟨(by decide : ¬ ((0 : Int32) < (0 : Int32))), (by decide : (0 : Int32) < (3 : Int32))⟩
  refine Fin.go (fun _ k => X0.caload hx (j := (0 : Int32)) (v := (.int x1)) (by rw [e0]; exact B11.1) (State.isArrayOf_alike hZ.alike B11.2.1) B11.2.2 i11 (Has.at H11 i11 rfl) (g := (mkF m 12 #[vr b, vi (0 : Int32), vr d, vi (0 : Int32), vi (3 : Int32), vi (0 : Int32), .unset] [(.int (0 : Int32)), (.ref b)])) rfl rfl (hb hby d7_12) _ k) ?_
  show Fin _ _ _ _ _ _ _ _ s₁ (mkF m 13 #[vr b, vi (0 : Int32), vr d, vi (0 : Int32), vi (3 : Int32), vi (0 : Int32), .unset] [(.int x1)])
  refine .go (fun _ k => XS.istore X0.here hx rfl (hb hby d7_13) rfl (l' := #[vr b, vi (0 : Int32), vr d, vi (0 : Int32), vi (3 : Int32), vi (0 : Int32), vi x1]) rfl k) ?_
  refine .go (fun _ k => XS.iload X0.here hx rfl (hb hby d7_15) rfl k) ?_
  refine .go (fun _ k => XS.sipush X0.here hx rfl (hb hby d7_17) k) ?_
  refine .go (fun _ k => XS.icmpNo X0.here hx rfl (hb hby d7_20) rfl (XT.ii_le_f hq) k) ?_
  show Fin _ _ _ _ _ _ _ _ s₁ (mkF m 23 #[vr b, vi (0 : Int32), vr d, vi (0 : Int32), vi (3 : Int32), vi (0 : Int32), vi x1] [])
  refine .go (fun _ k => XS.iload X0.here hx rfl (hb hby d7_23) rfl k) ?_
  exact Fin.leaveN X0 e0 hlk (v := some (.int (0 : Int32))) (nvS hret) (by decide) (by decide) ⟨by decide +kernel, N0, K0⟩ (fun fs hr => retI X0 hx hret (hb hby d7_25) hr)
theorem rmCAu3_0 (l : Launch) (Z : State) (a0 : Array Value) (hw : HW a0 Z) (n0 : Nat) (h0 : Heap) (O : Old Z n0 h0) (b : Addr) (kb : ClassId) (x1 x2 x3 : Int32) (VB : Arv Z h0 b kb .char (3 : Int32) [(.int x1), (.int x2), (.int x3)] (.int (0 : Int32))) (hc1 : ChI x1) (hc2 : ChI x2) (hc3 : ChI x3)  (hq : (255 : Int32) < x1) (S_as : SAs Z) (S_hb : SHb Z) (S_lb : SLb Z) :
    ConW FrameEnd l Z [] (⟨"java/lang/StringUTF16", "compress", "([CII)[B"⟩ : MethodName) jdk_52_method_16_code 6 (some (.array .byte)) ({ frames := 3, cells := 2, slots := 9, locals := 40 } : Room) #[(.ref b), (.int (0 : Int32)), (.int (3 : Int32))] h0 (fun v h L => ∃ d kd, v = some (.ref d) ∧ Fr n0 L ∧ Keep h0 h [] ∧ Arv Z h d kd .byte (6 : Int32) [(.int (lo8 x1)), (.int (hi8 x1)), (.int (lo8 x2)), (.int (hi8 x2)), (.int (lo8 x3)), (.int (hi8 x3))] (.int (0 : Int32)) ∧ h0.size ≤ d) := by
  refine conOf (plainFor_of_name pn_java_lang_StringUTF16) ?_
  intro p e s m below mth cc s₁ X0 hx hby hml hown hnm hret hlk hZ e0
  have N0 := Fr.nil n0
  have K0 := Keep.refl h0 ([] : List Addr)
  refine Fin.came (castTop (t := _) (by first | (simp [entryFrame, mkF, argsToLocals, Value.category]; done) | rfl) (Steps.refl _) : Steps p.tables e below (s₁.setTop (entryFrame m #[(.ref b), (.int (0 : Int32)), (.int (3 : Int32))] 6)) (s₁.setTop (mkF m 0 #[vr b, vi (0 : Int32), vi (3 : Int32), .unset, .unset, .unset] []))) ?_
  refine .go (fun _ k => XS.iloadN X0.here hx rfl (hb hby d6_0) rfl k) ?_
  obtain ⟨T11, h11, k11, X11, e11, E11, A11, st11⟩ := newP X0 hx hZ (aty := .byte) (hw _ w_28) e0 (g := (mkF m 1 #[vr b, vi (0 : Int32), vi (3 : Int32), .unset, .unset, .unset] [(.int (3 : Int32))])) rfl (hb hby d6_1) rfl (by decide : ¬ ((3 : Int32) < (0 : Int32))) (cap := 3) (by decide) (by decide) (by decide) (by decide)
  obtain ⟨a11, g11⟩ : ∃ z, z = h0.size := ⟨_, rfl⟩
  rw [← g11] at A11 st11
  refine Fin.go st11 ?_
  have O11 := O.ext E11
  have K11 := K0.ext E11
  have n11 : n0 ≤ a11 := by have := O.2.1; have := O.1; omega
  have z11 : h0.size ≤ a11 := by have := K0.1; omega
  have V11 : Arv Z h11 a11 k11 .byte (3 : Int32) [(.int (0 : Int32)), (.int (0 : Int32)), (.int (0 : Int32))] (.int (0 : Int32)) := (Arv.new A11 (by decide)).pad (pad_rep [] (.int (0 : Int32)) 3)
  show Fin _ _ _ _ _ _ _ _ T11 (mkF m 3 #[vr b, vi (0 : Int32), vi (3 : Int32), .unset, .unset, .unset] [(.ref a11)])
  refine .go (fun _ k => XS.astoreN X11.here hx rfl (hb hby d6_3) rfl rfl (l' := #[vr b, vi (0 : Int32), vi (3 : Int32), vr a11, .unset, .unset]) rfl k) ?_
  refine .go (fun _ k => XS.aloadN X11.here hx rfl (hb hby d6_4) rfl rfl k) ?_
  refine .go (fun _ k => XS.iloadN X11.here hx rfl (hb hby d6_5) rfl k) ?_
  refine .go (fun _ k => XS.aloadN X11.here hx rfl (hb hby d6_6) rfl rfl k) ?_
  refine .go (fun _ k => XS.iconst X11.here hx rfl (hb hby d6_7) k) ?_
  refine .go (fun _ k => XS.iloadN X11.here hx rfl (hb hby d6_8) rfl k) ?_
  obtain ⟨v12, T12, L12, X12, q12, st12⟩ := callSt X11 hx hZ hown (hw _ w_29) (hw _ w_30) (hw _ w_26) (hw _ w_31) (by decide) (W := 0) (rmCBu3_0 l Z a0 hw n0 h11 O11 b a11 kb k11 x1 x2 x3 (VB.ext E11) V11  hq n11 (Nat.ne_of_lt (Nat.lt_of_lt_of_eq VB.lt g11.symm))) e11 (by decide) (by decide) (by decide) (by decide) (g := (mkF m 9 #[vr b, vi (0 : Int32), vi (3 : Int32), vr a11, .unset, .unset] [(.int (3 : Int32)), (.int (0 : Int32)), (.ref a11), (.int (0 : Int32)), (.ref b)])) rfl (by rw [hml]; rfl) (argsL := [(.ref b), (.int (0 : Int32)), (.ref a11), (.int (0 : Int32)), (.int (3 : Int32))]) (rest := []) (lenOf pd_oACIABIIcI rfl) rfl (wk rfl rfl) (hb hby d6_9)
  obtain ⟨rfl, Nq12, Kq12⟩ := q12
  have N12 := Fr.app N0 Nq12
  have O12 := O11.keep Kq12 (allS n11 all0)
  have K12 := K11.trans Kq12 (allS (Or.inr z11) all0)
  refine Fin.go st12 ?_
  have V12_b := ((VB.ext E11).keep Kq12 (ninS (Nat.ne_of_lt (Nat.lt_of_lt_of_eq VB.lt g11.symm)) nin0))
  show Fin _ _ _ _ _ _ _ _ T12 (mkF m 12 #[vr b, vi (0 : Int32), vi (3 : Int32), vr a11, .unset, .unset] [(.int (0 : Int32))])
  refine .go (fun _ k => XS.istore X12.here hx rfl (hb hby d6_12) rfl (l' := #[vr b, vi (0 : Int32), vi (3 : Int32), vr a11, vi (0 : Int32), .unset]) rfl k) ?_
  refine .go (fun _ k => XS.iload X12.here hx rfl (hb hby d6_14) rfl k) ?_
  refine .go (fun _ k => XS.iloadN X12.here hx rfl (hb hby d6_16) rfl k) ?_
  refine .go (fun _ k => XS.icmpNo X12.here hx rfl (hb hby d6_17) rfl (XT.ii_eq_f (by decide)) k) ?_
  show Fin _ _ _ _ _ _ _ _ T12 (mkF m 20 #[vr b, vi (0 : Int32), vi (3 : Int32), vr a11, vi (0 : Int32), .unset] [])
  refine .go (fun _ k => XS.aloadN X12.here hx rfl (hb hby d6_20) rfl rfl k) ?_
  refine .go (fun _ k => XS.iloadN X12.here hx rfl (hb hby d6_21) rfl k) ?_
  refine .go (fun _ k => XS.iloadN X12.here hx rfl (hb hby d6_22) rfl k) ?_
  obtain ⟨v13, T13, L13, X13, q13, st13⟩ := callSt X12 hx hZ hown (hw _ w_82) (hw _ w_83) (hw _ w_26) (hw _ w_84) (by decide) (W := 0) (rmTBs3 l Z a0 hw n0 T12.heap O12 b kb x1 x2 x3 V12_b S_as S_hb S_lb) (rfl : T12.heap = T12.heap) (by decide) (by decide) (by decide) (by decide) (g := (mkF m 23 #[vr b, vi (0 : Int32), vi (3 : Int32), vr a11, vi (0 : Int32), .unset] [(.int (3 : Int32)), (.int (0 : Int32)), (.ref b)])) rfl (by rw [hml]; rfl) (argsL := [(.ref b), (.int (0 : Int32)), (.int (3 : Int32))]) (rest := []) (lenOf pd_oACIIcAB rfl) rfl (wk rfl rfl) (hb hby d6_23)
  obtain ⟨d13, kd13, rfl, Nq13, Kq13, V13, zd13⟩ := q13
  have N13 := Fr.app N12 Nq13
  have O13 := O12.keep Kq13 all0
  have K13 := K12.trans Kq13 all0
  refine Fin.go st13 ?_
  show Fin _ _ _ _ _ _ _ _ T13 (mkF m 26 #[vr b, vi (0 : Int32), vi (3 : Int32), vr a11, vi (0 : Int32), .unset] [(.ref d13)])
  have nzd13 : n0 ≤ d13 := Nat.le_trans (by have := O12.1; have := O12.2.1; omega) zd13
  have hzd13 : h0.size ≤ d13 := Nat.le_trans K12.1 zd13
  refine .go (fun _ k => XS.astore X13.here hx rfl (hb hby d6_26) rfl rfl (l' := #[vr b, vi (0 : Int32), vi (3 : Int32), vr a11, vi (0 : Int32), vr d13]) rfl k) ?_
  refine .go (fun _ k => XS.aload X13.here hx rfl (hb hby d6_28) rfl rfl k) ?_
  refine .go (fun _ k => XS.iload X13.here hx rfl (hb hby d6_30) rfl k) ?_
  obtain ⟨v14, T14, L14, X14, q14, st14⟩ := callSt X13 hx hZ hown (hw _ w_98) (hw _ w_99) (hw _ w_26) (hw _ w_100) (by decide) (W := 0) (rmGet3_0 l Z a0 hw n0 T13.heap O13 d13 kd13 x1 x2 x3 hc1 V13 S_as S_hb S_lb) (rfl : T13.heap = T13.heap) (by decide) (by decide) (by decide) (by decide) (g := (mkF m 32 #[vr b, vi (0 : Int32), vi (3 : Int32), vr a11, vi (0 : Int32), vr d13] [(.int (0 : Int32)), (.ref d13)])) rfl (by rw [hml]; rfl) (argsL := [(.ref d13), (.int (0 : Int32))]) (rest := []) (lenOf pd_oABIcC rfl) rfl (wk rfl rfl) (hb hby d6_32)
  obtain ⟨rfl, e14, rfl⟩ := q14
  have N14 := Fr.app N13 (Fr.nil n0)
  refine Fin.go st14 ?_
  show Fin _ _ _ _ _ _ _ _ T14 (mkF m 35 #[vr b, vi (0 : Int32), vi (3 : Int32), vr a11, vi (0 : Int32), vr d13] [(.int x1)])
  refine .go (fun _ k => XS.sipush X14.here hx rfl (hb hby d6_35) k) ?_
  refine .go (fun _ k => XS.icmpYes X14.here hx rfl (pc0 := 38) (pc' := 54) rfl (hb hby d6_38) rfl (XT.ii_gt_t hq) (by decide) (by decide) k) ?_
  show Fin _ _ _ _ _ _ _ _ T14 (mkF m 54 #[vr b, vi (0 : Int32), vi (3 : Int32), vr a11, vi (0 : Int32), vr d13] [])
  refine .go (fun _ k => XS.aload X14.here hx rfl (hb hby d6_54) rfl rfl k) ?_
  exact Fin.leaveN X14 e14 hlk (v := some (.ref d13)) (nvS hret) (by decide) (by decide) ⟨d13, kd13, rfl, N14, K13, V13, hzd13⟩ (fun fs hr => retOut X14 hx hret rfl (Or.inr (Or.inr (Or.inr (Or.inr ⟨rfl, rfl, rfl⟩)))) (hb hby d6_56) hr)
theorem rmCBu3_1 (l : Launch) (Z : State) (a0 : Array Value) (hw : HW a0 Z) (n0 : Nat) (h0 : Heap) (O : Old Z n0 h0) (b d : Addr) (kb kd : ClassId) (x1 x2 x3 : Int32) (VB : Arv Z h0 b kb .char (3 : Int32) [(.int x1), (.int x2), (.int x3)] (.int (0 : Int32))) (VD : Arv Z h0 d kd .byte (3 : Int32) [(.int (0 : Int32)), (.int (0 : Int32)), (.int (0 : Int32))] (.int (0 : Int32))) (hp1 : ¬ (255 : Int32) < x1) (hq : (255 : Int32) < x2) (nd : n0 ≤ d) (nbd : b ≠ d) :
    ConW FrameEnd l Z [] (⟨"java/lang/StringUTF16", "compress", "([CI[BII)I"⟩ : MethodName) jdk_52_method_21_code 7 (some .int) ({ frames := 0, cells := 0, slots := 0, locals := 0 } : Room) #[(.ref b), (.int (0 : Int32)), (.ref d), (.int (0 : Int32)), (.int (3 : Int32))] h0 (fun v h L => v = some (.int (1 : Int32)) ∧ Fr n0 L ∧ Keep h0 h [d]) := by
  refine conOf (plainFor_of_name pn_java_lang_StringUTF16) ?_
  intro p e s m below mth cc s₁ X0 hx hby hml hown hnm hret hlk hZ e0
  have N0 := Fr.nil n0
  have K0 := Keep.refl h0 ([d] : List Addr)
  refine Fin.came (castTop (t := _) (by first | (simp [entryFrame, mkF, argsToLocals, Value.category]; done) | rfl) (Steps.refl _) : Steps p.tables e below (s₁.setTop (entryFrame m #[(.ref b), (.int (0 : Int32)), (.ref d), (.int (0 : Int32)), (.int (3 : Int32))] 7)) (s₁.setTop (mkF m 0 #[vr b, vi (0 : Int32), vr d, vi (0 : Int32), vi (3 : Int32), .unset, .unset] []))) ?_
  refine .go (fun _ k => XS.iconst X0.here hx rfl (hb hby d7_0) k) ?_
  refine .go (fun _ k => XS.istore X0.here hx rfl (hb hby d7_1) rfl (l' := #[vr b, vi (0 : Int32), vr d, vi (0 : Int32), vi (3 : Int32), vi (0 : Int32), .unset]) rfl k) ?_
  refine .go (fun _ k => XS.iload X0.here hx rfl (hb hby d7_3) rfl k) ?_
  refine .go (fun _ k => XS.iload X0.here hx rfl (hb hby d7_5) rfl k) ?_
  refine .go (fun _ k => XS.icmpNo X0.here hx rfl (hb hby d7_7) rfl (XT.ii_ge_f (by decide)) k) ?_
  show Fin _ _ _ _ _ _ _ _ s₁ (mkF m 10 #[vr b, vi (0 : Int32), vr d, vi (0 : Int32), vi (3 : Int32), vi (0 : Int32), .unset] [])
  refine .go (fun _ k => XS.aloadN X0.here hx rfl (hb hby d7_10) rfl rfl k) ?_
  refine .go (fun _ k => XS.iloadN X0.here hx rfl (hb hby d7_11) rfl k) ?_
  obtain ⟨cz11, B11, q11, S11, M11, H11, G11⟩ := id VB
  have i11 := inb_of S11 ⟨(by decide : ¬ ((0 : Int32) < (0 : Int32))), (by decide : (0 : Int32) < (3 : Int32))⟩
  refine Fin.go (fun _ k => X0.caload hx (j := (0 : Int32)) (v := (.int x1)) (by rw [e0]; exact B11.1) (State.isArrayOf_alike hZ.alike B11.2.1) B11.2.2 i11 (Has.at H11 i11 rfl) (g := (mkF m 12 #[vr b, vi (0 : Int32), vr d, vi (0 : Int32), vi (3 : Int32), vi (0 : Int32), .unset] [(.int (0 : Int32)), (.ref b)])) rfl rfl (hb hby d7_12) _ k) ?_
  show Fin _ _ _ _ _ _ _ _ s₁ (mkF m 13 #[vr b, vi (0 : Int32), vr d, vi (0 : Int32), vi (3 : Int32), vi (0 : Int32), .unset] [(.int x1)])
  refine .go (fun _ k => XS.istore X0.here hx rfl (hb hby d7_13) rfl (l' := #[vr b, vi (0 : Int32), vr d, vi (0 : Int32), vi (3 : Int32), vi (0 : Int32), vi x1]) rfl k) ?_
  refine .go (fun _ k => XS.iload X0.here hx rfl (hb hby d7_15) rfl k) ?_
  refine .go (fun _ k => XS.sipush X0.here hx rfl (hb hby d7_17) k) ?_
  refine .go (fun _ k => XS.icmpYes X0.here hx rfl (pc0 := 20) (pc' := 26) rfl (hb hby d7_20) rfl (XT.ii_le_t hp1) (by decide) (by decide) k) ?_
  show Fin _ _ _ _ _ _ _ _ s₁ (mkF m 26 #[vr b, vi (0 : Int32), vr d, vi (0 : Int32), vi (3 : Int32), vi (0 : Int32), vi x1] [])
  refine .go (fun _ k => XS.aloadN X0.here hx rfl (hb hby d7_26) rfl rfl k) ?_
  refine .go (fun _ k => XS.iloadN X0.here hx rfl (hb hby d7_27) rfl k) ?_
  refine .go (fun _ k => XS.iload X0.here hx rfl (hb hby d7_28) rfl k) ?_
  refine .go (fun _ k => XT.i2b X0.here hx rfl (hb hby d7_30) rfl k) ?_
  obtain ⟨cz12, B12, q12, S12, M12, H12, G12⟩ := id VD
  obtain ⟨T12, h12, X12, e12, W12, st12⟩ := stB X0 hx hZ e0 B12 (j := (0 : Int32)) (inb_of S12 ⟨(by decide : ¬ ((0 : Int32) < (0 : Int32))), (by decide : (0 : Int32) < (3 : Int32))⟩) (g := (mkF m 31 #[vr b, vi (0 : Int32), vr d, vi (0 : Int32), vi (3 : Int32), vi (0 : Int32), vi x1] [(.int ((Int32.toInt8 x1).toInt32)), (.int (0 : Int32)), (.ref d)])) rfl rfl (hb hby d7_31)
  refine Fin.go st12 ?_
  have V12 : Arv Z h12 d kd .byte (3 : Int32) [(.int ((Int32.toInt8 x1).toInt32)), (.int (0 : Int32)), (.int (0 : Int32))] (.int (0 : Int32)) := (by have q : Arv Z h12 d kd .byte (3 : Int32) [(.int (nar .byte ((Int32.toInt8 x1).toInt32))), (.int (0 : Int32)), (.int (0 : Int32))] (.int (0 : Int32)) := (Arv.set B12 q12 S12 M12 H12 G12 (fits_nar_byte _) W12 0 rfl (Nat.le_of_ble_eq_true rfl)); rwa [nar_b8] at q)
  have N12 := Fr.snoc X12 N0 nd
  have O12 := O.wr W12 nd
  have K12 := K0.wr W12 (Or.inl (List.mem_of_getElem? (i := 0) rfl))
  show Fin _ _ _ _ _ _ _ _ T12 (mkF m 32 #[vr b, vi (0 : Int32), vr d, vi (0 : Int32), vi (3 : Int32), vi (0 : Int32), vi x1] [])
  refine .go (fun _ k => XS.iinc X12.here hx rfl (hb hby d7_32) rfl (l' := #[vr b, vi ((0 : Int32) + (1 : Int32)), vr d, vi (0 : Int32), vi (3 : Int32), vi (0 : Int32), vi x1]) rfl k) ?_
  refine .go (fun _ k => XS.iinc X12.here hx rfl (hb hby d7_35) rfl (l' := #[vr b, vi ((0 : Int32) + (1 : Int32)), vr d, vi ((0 : Int32) + (1 : Int32)), vi (3 : Int32), vi (0 : Int32), vi x1]) rfl k) ?_
  refine .go (fun _ k => XS.iinc X12.here hx rfl (hb hby d7_38) rfl (l' := #[vr b, vi ((0 : Int32) + (1 : Int32)), vr d, vi ((0 : Int32) + (1 : Int32)), vi (3 : Int32), vi ((0 : Int32) + (1 : Int32)), vi x1]) rfl k) ?_
  refine .go (fun _ k => XS.goto X12.here hx rfl (pc0 := 41) (pc' := 3) rfl (hb hby d7_41) (by decide) (by decide) k) ?_
  refine .go (fun _ k => XS.iload X12.here hx rfl (hb hby d7_3) rfl k) ?_
  refine .go (fun _ k => XS.iload X12.here hx rfl (hb hby d7_5) rfl k) ?_
  refine .go (fun _ k => XS.icmpNo X12.here hx rfl (hb hby d7_7) rfl (XT.ii_ge_f (by decide)) k) ?_
  show Fin _ _ _ _ _ _ _ _ T12 (mkF m 10 #[vr b, vi ((0 : Int32) + (1 : Int32)), vr d, vi ((0 : Int32) + (1 : Int32)), vi (3 : Int32), vi ((0 : Int32) + (1 : Int32)), vi x1] [])
  refine .go (fun _ k => XS.aloadN X12.here hx rfl (hb hby d7_10) rfl rfl k) ?_
  refine .go (fun _ k => XS.iloadN X12.here hx rfl (hb hby d7_11) rfl k) ?_
  obtain ⟨cz13, B13, q13, S13, M13, H13, G13⟩ := id (VB.other W12 nbd)
  have i13 := inb_of S13 ⟨(by decide : ¬ (((0 : Int32) + (1 : Int32)) < (0 : Int32))), (by decide : ((0 : Int32) + (1 : Int32)) < (3 : Int32))⟩
  refine Fin.go (fun _ k => X12.caload hx (j := ((0 : Int32) + (1 : Int32))) (v := (.int x2)) (by rw [e12]; exact B13.1) (State.isArrayOf_alike hZ.alike B13.2.1) B13.2.2 i13 (Has.at H13 i13 rfl) (g := (mkF m 12 #[vr b, vi ((0 : Int32) + (1 : Int32)), vr d, vi ((0 : Int32) + (1 : Int32)), vi (3 : Int32), vi ((0 : Int32) + (1 : Int32)), vi x1] [(.int ((0 : Int32) + (1 : Int32))), (.ref b)])) rfl rfl (hb hby d7_12) _ k) ?_
  show Fin _ _ _ _ _ _ _ _ T12 (mkF m 13 #[vr b, vi ((0 : Int32) + (1 : Int32)), vr d, vi ((0 : Int32) + (1 : Int32)), vi (3 : Int32), vi ((0 : Int32) + (1 : Int32)), vi x1] [(.int x2)])
  refine .go (fun _ k => XS.istore X12.here hx rfl (hb hby d7_13) rfl (l' := #[vr b, vi ((0 : Int32) + (1 : Int32)), vr d, vi ((0 : Int32) + (1 : Int32)), vi (3 : Int32), vi ((0 : Int32) + (1 : Int32)), vi x2]) rfl k) ?_
  refine .go (fun _ k => XS.iload X12.here hx rfl (hb hby d7_15) rfl k) ?_
  refine .go (fun _ k => XS.sipush X12.here hx rfl (hb hby d7_17) k) ?_
  refine .go (fun _ k => XS.icmpNo X12.here hx rfl (hb hby d7_20) rfl (XT.ii_le_f hq) k) ?_
  show Fin _ _ _ _ _ _ _ _ T12 (mkF m 23 #[vr b, vi ((0 : Int32) + (1 : Int32)), vr d, vi ((0 : Int32) + (1 : Int32)), vi (3 : Int32), vi ((0 : Int32) + (1 : Int32)), vi x2] [])
  refine .go (fun _ k => XS.iload X12.here hx rfl (hb hby d7_23) rfl k) ?_
  exact Fin.leaveN X12 e12 hlk (v := some (.int ((0 : Int32) + (1 : Int32)))) (nvS hret) (by decide) (by decide) ⟨by decide +kernel, N12, K12⟩ (fun fs hr => retI X12 hx hret (hb hby d7_25) hr)
theorem rmCAu3_1 (l : Launch) (Z : State) (a0 : Array Value) (hw : HW a0 Z) (n0 : Nat) (h0 : Heap) (O : Old Z n0 h0) (b : Addr) (kb : ClassId) (x1 x2 x3 : Int32) (VB : Arv Z h0 b kb .char (3 : Int32) [(.int x1), (.int x2), (.int x3)] (.int (0 : Int32))) (hc1 : ChI x1) (hc2 : ChI x2) (hc3 : ChI x3) (hp1 : ¬ (255 : Int32) < x1) (hq : (255 : Int32) < x2) (S_as : SAs Z) (S_hb : SHb Z) (S_lb : SLb Z) :
    ConW FrameEnd l Z [] (⟨"java/lang/StringUTF16", "compress", "([CII)[B"⟩ : MethodName) jdk_52_method_16_code 6 (some (.array .byte)) ({ frames := 3, cells := 2, slots := 9, locals := 40 } : Room) #[(.ref b), (.int (0 : Int32)), (.int (3 : Int32))] h0 (fun v h L => ∃ d kd, v = some (.ref d) ∧ Fr n0 L ∧ Keep h0 h [] ∧ Arv Z h d kd .byte (6 : Int32) [(.int (lo8 x1)), (.int (hi8 x1)), (.int (lo8 x2)), (.int (hi8 x2)), (.int (lo8 x3)), (.int (hi8 x3))] (.int (0 : Int32)) ∧ h0.size ≤ d) := by
  refine conOf (plainFor_of_name pn_java_lang_StringUTF16) ?_
  intro p e s m below mth cc s₁ X0 hx hby hml hown hnm hret hlk hZ e0
  have N0 := Fr.nil n0
  have K0 := Keep.refl h0 ([] : List Addr)
  refine Fin.came (castTop (t := _) (by first | (simp [entryFrame, mkF, argsToLocals, Value.category]; done) | rfl) (Steps.refl _) : Steps p.tables e below (s₁.setTop (entryFrame m #[(.ref b), (.int (0 : Int32)), (.int (3 : Int32))] 6)) (s₁.setTop (mkF m 0 #[vr b, vi (0 : Int32), vi (3 : Int32), .unset, .unset, .unset] []))) ?_
  refine .go (fun _ k => XS.iloadN X0.here hx rfl (hb hby d6_0) rfl k) ?_
  obtain ⟨T11, h11, k11, X11, e11, E11, A11, st11⟩ := newP X0 hx hZ (aty := .byte) (hw _ w_28) e0 (g := (mkF m 1 #[vr b, vi (0 : Int32), vi (3 : Int32), .unset, .unset, .unset] [(.int (3 : Int32))])) rfl (hb hby d6_1) rfl (by decide : ¬ ((3 : Int32) < (0 : Int32))) (cap := 3) (by decide) (by decide) (by decide) (by decide)
  obtain ⟨a11, g11⟩ : ∃ z, z = h0.size := ⟨_, rfl⟩
  rw [← g11] at A11 st11
  refine Fin.go st11 ?_
  have O11 := O.ext E11
  have K11 := K0.ext E11
  have n11 : n0 ≤ a11 := by have := O.2.1; have := O.1; omega
  have z11 : h0.size ≤ a11 := by have := K0.1; omega
  have V11 : Arv Z h11 a11 k11 .byte (3 : Int32) [(.int (0 : Int32)), (.int (0 : Int32)), (.int (0 : Int32))] (.int (0 : Int32)) := (Arv.new A11 (by decide)).pad (pad_rep [] (.int (0 : Int32)) 3)
  show Fin _ _ _ _ _ _ _ _ T11 (mkF m 3 #[vr b, vi (0 : Int32), vi (3 : Int32), .unset, .unset, .unset] [(.ref a11)])
  refine .go (fun _ k => XS.astoreN X11.here hx rfl (hb hby d6_3) rfl rfl (l' := #[vr b, vi (0 : Int32), vi (3 : Int32), vr a11, .unset, .unset]) rfl k) ?_
  refine .go (fun _ k => XS.aloadN X11.here hx rfl (hb hby d6_4) rfl rfl k) ?_
  refine .go (fun _ k => XS.iloadN X11.here hx rfl (hb hby d6_5) rfl k) ?_
  refine .go (fun _ k => XS.aloadN X11.here hx rfl (hb hby d6_6) rfl rfl k) ?_
  refine .go (fun _ k => XS.iconst X11.here hx rfl (hb hby d6_7) k) ?_
  refine .go (fun _ k => XS.iloadN X11.here hx rfl (hb hby d6_8) rfl k) ?_
  obtain ⟨v12, T12, L12, X12, q12, st12⟩ := callSt X11 hx hZ hown (hw _ w_29) (hw _ w_30) (hw _ w_26) (hw _ w_31) (by decide) (W := 0) (rmCBu3_1 l Z a0 hw n0 h11 O11 b a11 kb k11 x1 x2 x3 (VB.ext E11) V11 hp1 hq n11 (Nat.ne_of_lt (Nat.lt_of_lt_of_eq VB.lt g11.symm))) e11 (by decide) (by decide) (by decide) (by decide) (g := (mkF m 9 #[vr b, vi (0 : Int32), vi (3 : Int32), vr a11, .unset, .unset] [(.int (3 : Int32)), (.int (0 : Int32)), (.ref a11), (.int (0 : Int32)), (.ref b)])) rfl (by rw [hml]; rfl) (argsL := [(.ref b), (.int (0 : Int32)), (.ref a11), (.int (0 : Int32)), (.int (3 : Int32))]) (rest := []) (lenOf pd_oACIABIIcI rfl) rfl (wk rfl rfl) (hb hby d6_9)
  obtain ⟨rfl, Nq12, Kq12⟩ := q12
  have N12 := Fr.app N0 Nq12
  have O12 := O11.keep Kq12 (allS n11 all0)
  have K12 := K11.trans Kq12 (allS (Or.inr z11) all0)
  refine Fin.go st12 ?_
  have V12_b := ((VB.ext E11).keep Kq12 (ninS (Nat.ne_of_lt (Nat.lt_of_lt_of_eq VB.lt g11.symm)) nin0))
  show Fin _ _ _ _ _ _ _ _ T12 (mkF m 12 #[vr b, vi (0 : Int32), vi (3 : Int32), vr a11, .unset, .unset] [(.int (1 : Int32))])
  refine .go (fun _ k => XS.istore X12.here hx rfl (hb hby d6_12) rfl (l' := #[vr b, vi (0 : Int32), vi (3 : Int32), vr a11, vi (1 : Int32), .unset]) rfl k) ?_
  refine .go (fun _ k => XS.iload X12.here hx rfl (hb hby d6_14) rfl k) ?_
  refine .go (fun _ k => XS.iloadN X12.here hx rfl (hb hby d6_16) rfl k) ?_
  refine .go (fun _ k => XS.icmpNo X12.here hx rfl (hb hby d6_17) rfl (XT.ii_eq_f (by decide)) k) ?_
  show Fin _ _ _ _ _ _ _ _ T12 (mkF m 20 #[vr b, vi (0 : Int32), vi (3 : Int32), vr a11, vi (1 : Int32), .unset] [])
  refine .go (fun _ k => XS.aloadN X12.here hx rfl (hb hby d6_20) rfl rfl k) ?_
  refine .go (fun _ k => XS.iloadN X12.here hx rfl (hb hby d6_21) rfl k) ?_
  refine .go (fun _ k => XS.iloadN X12.here hx rfl (hb hby d6_22) rfl k) ?_
  obtain ⟨v13, T13, L13, X13, q13, st13⟩ := callSt X12 hx hZ hown (hw _ w_82) (hw _ w_83) (hw _ w_26) (hw _ w_84) (by decide) (W := 0) (rmTBs3 l Z a0 hw n0 T12.heap O12 b kb x1 x2 x3 V12_b S_as S_hb S_lb) (rfl : T12.heap = T12.heap) (by decide) (by decide) (by decide) (by decide) (g := (mkF m 23 #[vr b, vi (0 : Int32), vi (3 : Int32), vr a11, vi (1 : Int32), .unset] [(.int (3 : Int32)), (.int (0 : Int32)), (.ref b)])) rfl (by rw [hml]; rfl) (argsL := [(.ref b), (.int (0 : Int32)), (.int (3 : Int32))]) (rest := []) (lenOf pd_oACIIcAB rfl) rfl (wk rfl rfl) (hb hby d6_23)
  obtain ⟨d13, kd13, rfl, Nq13, Kq13, V13, zd13⟩ := q13
  have N13 := Fr.app N12 Nq13
  have O13 := O12.keep Kq13 all0
  have K13 := K12.trans Kq13 all0
  refine Fin.go st13 ?_
  show Fin _ _ _ _ _ _ _ _ T13 (mkF m 26 #[vr b, vi (0 : Int32), vi (3 : Int32), vr a11, vi (1 : Int32), .unset] [(.ref d13)])
  have nzd13 : n0 ≤ d13 := Nat.le_trans (by have := O12.1; have := O12.2.1; omega) zd13
  have hzd13 : h0.size ≤ d13 := Nat.le_trans K12.1 zd13
  refine .go (fun _ k => XS.astore X13.here hx rfl (hb hby d6_26) rfl rfl (l' := #[vr b, vi (0 : Int32), vi (3 : Int32), vr a11, vi (1 : Int32), vr d13]) rfl k) ?_
  refine .go (fun _ k => XS.aload X13.here hx rfl (hb hby d6_28) rfl rfl k) ?_
  refine .go (fun _ k => XS.iload X13.here hx rfl (hb hby d6_30) rfl k) ?_
  obtain ⟨v14, T14, L14, X14, q14, st14⟩ := callSt X13 hx hZ hown (hw _ w_98) (hw _ w_99) (hw _ w_26) (hw _ w_100) (by decide) (W := 0) (rmGet3_1 l Z a0 hw n0 T13.heap O13 d13 kd13 x1 x2 x3 hc2 V13 S_as S_hb S_lb) (rfl : T13.heap = T13.heap) (by decide) (by decide) (by decide) (by decide) (g := (mkF m 32 #[vr b, vi (0 : Int32), vi (3 : Int32), vr a11, vi (1 : Int32), vr d13] [(.int (1 : Int32)), (.ref d13)])) rfl (by rw [hml]; rfl) (argsL := [(.ref d13), (.int (1 : Int32))]) (rest := []) (lenOf pd_oABIcC rfl) rfl (wk rfl rfl) (hb hby d6_32)
  obtain ⟨rfl, e14, rfl⟩ := q14
  have N14 := Fr.app N13 (Fr.nil n0)
  refine Fin.go st14 ?_
  show Fin _ _ _ _ _ _ _ _ T14 (mkF m 35 #[vr b, vi (0 : Int32), vi (3 : Int32), vr a11, vi (1 : Int32), vr d13] [(.int x2)])
  refine .go (fun _ k => XS.sipush X14.here hx rfl (hb hby d6_35) k) ?_
  refine .go (fun _ k => XS.icmpYes X14.here hx rfl (pc0 := 38) (pc' := 54) rfl (hb hby d6_38) rfl (XT.ii_gt_t hq) (by decide) (by decide) k) ?_
  show Fin _ _ _ _ _ _ _ _ T14 (mkF m 54 #[vr b, vi (0 : Int32), vi (3 : Int32), vr a11, vi (1 : Int32), vr d13] [])
  refine .go (fun _ k => XS.aload X14.here hx rfl (hb hby d6_54) rfl rfl k) ?_
  exact Fin.leaveN X14 e14 hlk (v := some (.ref d13)) (nvS hret) (by decide) (by decide) ⟨d13, kd13, rfl, N14, K13, V13, hzd13⟩ (fun fs hr => retOut X14 hx hret rfl (Or.inr (Or.inr (Or.inr (Or.inr ⟨rfl, rfl, rfl⟩)))) (hb hby d6_56) hr)
theorem rmCBu3_2 (l : Launch) (Z : State) (a0 : Array Value) (hw : HW a0 Z) (n0 : Nat) (h0 : Heap) (O : Old Z n0 h0) (b d : Addr) (kb kd : ClassId) (x1 x2 x3 : Int32) (VB : Arv Z h0 b kb .char (3 : Int32) [(.int x1), (.int x2), (.int x3)] (.int (0 : Int32))) (VD : Arv Z h0 d kd .byte (3 : Int32) [(.int (0 : Int32)), (.int (0 : Int32)), (.int (0 : Int32))] (.int (0 : Int32))) (hp1 : ¬ (255 : Int32) < x1) (hp2 : ¬ (255 : Int32) < x2) (hq : (255 : Int32) < x3) (nd : n0 ≤ d) (nbd : b ≠ d) :
    ConW FrameEnd l Z [] (⟨"java/lang/StringUTF16", "compress", "([CI[BII)I"⟩ : MethodName) jdk_52_method_21_code 7 (some .int) ({ frames := 0, cells := 0, slots := 0, locals := 0 } : Room) #[(.ref b), (.int (0 : Int32)), (.ref d), (.int (0 : Int32)), (.int (3 : Int32))] h0 (fun v h L => v = some (.int (2 : Int32)) ∧ Fr n0 L ∧ Keep h0 h [d]) := by
  refine conOf (plainFor_of_name pn_java_lang_StringUTF16) ?_
  intro p e s m below mth cc s₁ X0 hx hby hml hown hnm hret hlk hZ e0
  have N0 := Fr.nil n0
  have K0 := Keep.refl h0 ([d] : List Addr)
  refine Fin.came (castTop (t := _) (by first | (simp [entryFrame, mkF, argsToLocals, Value.category]; done) | rfl) (Steps.refl _) : Steps p.tables e below (s₁.setTop (entryFrame m #[(.ref b), (.int (0 : Int32)), (.ref d), (.int (0 : Int32)), (.int (3 : Int32))] 7)) (s₁.setTop (mkF m 0 #[vr b, vi (0 : Int32), vr d, vi (0 : Int32), vi (3 : Int32), .unset, .unset] []))) ?_
  refine .go (fun _ k => XS.iconst X0.here hx rfl (hb hby d7_0) k) ?_
  refine .go (fun _ k => XS.istore X0.here hx rfl (hb hby d7_1) rfl (l' := #[vr b, vi (0 : Int32), vr d, vi (0 : Int32), vi (3 : Int32), vi (0 : Int32), .unset]) rfl k) ?_
  refine .go (fun _ k => XS.iload X0.here hx rfl (hb hby d7_3) rfl k) ?_
  refine .go (fun _ k => XS.iload X0.here hx rfl (hb hby d7_5) rfl k) ?_
  refine .go (fun _ k => XS.icmpNo X0.here hx rfl (hb hby d7_7) rfl (XT.ii_ge_f (by decide)) k) ?_
  show Fin _ _ _ _ _ _ _ _ s₁ (mkF m 10 #[vr b, vi (0 : Int32), vr d, vi (0 : Int32), vi (3 : Int32), vi (0 : Int32), .unset] [])
  refine .go (fun _ k => XS.aloadN X0.here hx rfl (hb hby d7_10) rfl rfl k) ?_
  refine .go (fun _ k => XS.iloadN X0.here hx rfl (hb hby d7_11) rfl k) ?_
  obtain ⟨cz11, B11, q11, S11, M11, H11, G11⟩ := id VB
  have i11 := inb_of S11 ⟨(by decide : ¬ ((0 : Int32) < (0 : Int32))), (by decide : (0 : Int32) < (3 : Int32))⟩
  refine Fin.go (fun _ k => X0.caload hx (j := (0 : Int32)) (v := (.int x1)) (by rw [e0]; exact B11.1) (State.isArrayOf_alike hZ.alike B11.2.1) B11.2.2 i11 (Has.at H11 i11 rfl) (g := (mkF m 12 #[vr b, vi (0 : Int32), vr d, vi (0 : Int32), vi (3 : Int32), vi (0 : Int32), .unset] [(.int (0 : Int32)), (.ref b)])) rfl rfl (hb hby d7_12) _ k) ?_
  show Fin _ _ _ _ _ _ _ _ s₁ (mkF m 13 #[vr b, vi (0 : Int32), vr d, vi (0 : Int32), vi (3 : Int32), vi (0 : Int32), .unset] [(.int x1)])
  refine .go (fun _ k => XS.istore X0.here hx rfl (hb hby d7_13) rfl (l' := #[vr b, vi (0 : Int32), vr d, vi (0 : Int32), vi (3 : Int32), vi (0 : Int32), vi x1]) rfl k) ?_
  refine .go (fun _ k => XS.iload X0.here hx rfl (hb hby d7_15) rfl k) ?_
  refine .go (fun _ k => XS.sipush X0.here hx rfl (hb hby d7_17) k) ?_
  refine .go (fun _ k => XS.icmpYes X0.here hx rfl (pc0 := 20) (pc' := 26) rfl (hb hby d7_20) rfl (XT.ii_le_t hp1) (by decide) (by decide) k) ?_
  show Fin _ _ _ _ _ _ _ _ s₁ (mkF m 26 #[vr b, vi (0 : Int32), vr d, vi (0 : Int32), vi (3 : Int32), vi (0 : Int32), vi x1] [])
  refine .go (fun _ k => XS.aloadN X0.here hx rfl (hb hby d7_26) rfl rfl k) ?_
  refine .go (fun _ k => XS.iloadN X0.here hx rfl (hb hby d7_27) rfl k) ?_
  refine .go (fun _ k => XS.iload X0.here hx rfl (hb hby d7_28) rfl k) ?_
  refine .go (fun _ k => XT.i2b X0.here hx rfl (hb hby d7_30) rfl k) ?_
  obtain ⟨cz12, B12, q12, S12, M12, H12, G12⟩ := id VD
  obtain ⟨T12, h12, X12, e12, W12, st12⟩ := stB X0 hx hZ e0 B12 (j := (0 : Int32)) (inb_of S12 ⟨(by decide : ¬ ((0 : Int32) < (0 : Int32))), (by decide : (0 : Int32) < (3 : Int32))⟩) (g := (mkF m 31 #[vr b, vi (0 : Int32), vr d, vi (0 : Int32), vi (3 : Int32), vi (0 : Int32), vi x1] [(.int ((Int32.toInt8 x1).toInt32)), (.int (0 : Int32)), (.ref d)])) rfl rfl (hb hby d7_31)
  refine Fin.go st12 ?_
  have V12 : Arv Z h12 d kd .byte (3 : Int32) [(.int ((Int32.toInt8 x1).toInt32)), (.int (0 : Int32)), (.int (0 : Int32))] (.int (0 : Int32)) := (by have q : Arv Z h12 d kd .byte (3 : Int32) [(.int (nar .byte ((Int32.toInt8 x1).toInt32))), (.int (0 : Int32)), (.int (0 : Int32))] (.int (0 : Int32)) := (Arv.set B12 q12 S12 M12 H12 G12 (fits_nar_byte _) W12 0 rfl (Nat.le_of_ble_eq_true rfl)); rwa [nar_b8] at q)
  have N12 := Fr.snoc X12 N0 nd
  have O12 := O.wr W12 nd
  have K12 := K0.wr W12 (Or.inl (List.mem_of_getElem? (i := 0) rfl))
  show Fin _ _ _ _ _ _ _ _ T12 (mkF m 32 #[vr b, vi (0 : Int32), vr d, vi (0 : Int32), vi (3 : Int32), vi (0 : Int32), vi x1] [])
  refine .go (fun _ k => XS.iinc X12.here hx rfl (hb hby d7_32) rfl (l' := #[vr b, vi ((0 : Int32) + (1 : Int32)), vr d, vi (0 : Int32), vi (3 : Int32), vi (0 : Int32), vi x1]) rfl k) ?_
  refine .go (fun _ k => XS.iinc X12.here hx rfl (hb hby d7_35) rfl (l' := #[vr b, vi ((0 : Int32) + (1 : Int32)), vr d, vi ((0 : Int32) + (1 : Int32)), vi (3 : Int32), vi (0 : Int32), vi x1]) rfl k) ?_
  refine .go (fun _ k => XS.iinc X12.here hx rfl (hb hby d7_38) rfl (l' := #[vr b, vi ((0 : Int32) + (1 : Int32)), vr d, vi ((0 : Int32) + (1 : Int32)), vi (3 : Int32), vi ((0 : Int32) + (1 : Int32)), vi x1]) rfl k) ?_
  refine .go (fun _ k => XS.goto X12.here hx rfl (pc0 := 41) (pc' := 3) rfl (hb hby d7_41) (by decide) (by decide) k) ?_
  refine .go (fun _ k => XS.iload X12.here hx rfl (hb hby d7_3) rfl k) ?_
  refine .go (fun _ k => XS.iload X12.here hx rfl (hb hby d7_5) rfl k) ?_
  refine .go (fun _ k => XS.icmpNo X12.here hx rfl (hb hby d7_7) rfl (XT.ii_ge_f (by decide)) k) ?_
  show Fin _ _ _ _ _ _ _ _ T12 (mkF m 10 #[vr b, vi ((0 : Int32) + (1 : Int32)), vr d, vi ((0 : Int32) + (1 : Int32)), vi (3 : Int32), vi ((0 : Int32) + (1 : Int32)), vi x1] [])
  refine .go (fun _ k => XS.aloadN X12.here hx rfl (hb hby d7_10) rfl rfl k) ?_
  refine .go (fun _ k => XS.iloadN X12.here hx rfl (hb hby d7_11) rfl k) ?_
  obtain ⟨cz13, B13, q13, S13, M13, H13, G13⟩ := id (VB.other W12 nbd)
  have i13 := inb_of S13 ⟨(by decide : ¬ (((0 : Int32) + (1 : Int32)) < (0 : Int32))), (by decide : ((0 : Int32) + (1 : Int32)) < (3 : Int32))⟩
  refine Fin.go (fun _ k => X12.caload hx (j := ((0 : Int32) + (1 : Int32))) (v := (.int x2)) (by rw [e12]; exact B13.1) (State.isArrayOf_alike hZ.alike B13.2.1) B13.2.2 i13 (Has.at H13 i13 rfl) (g := (mkF m 12 #[vr b, vi ((0 : Int32) + (1 : Int32)), vr d, vi ((0 : Int32) + (1 : Int32)), vi (3 : Int32), vi ((0 : Int32) + (1 : Int32)), vi x1] [(.int ((0 : Int32) + (1 : Int32))), (.ref b)])) rfl rfl (hb hby d7_12) _ k) ?_
  show Fin _ _ _ _ _ _ _ _ T12 (mkF m 13 #[vr b, vi ((0 : Int32) + (1 : Int32)), vr d, vi ((0 : Int32) + (1 : Int32)), vi (3 : Int32), vi ((0 : Int32) + (1 : Int32)), vi x1] [(.int x2)])
  refine .go (fun _ k => XS.istore X12.here hx rfl (hb hby d7_13) rfl (l' := #[vr b, vi ((0 : Int32) + (1 : Int32)), vr d, vi ((0 : Int32) + (1 : Int32)), vi (3 : Int32), vi ((0 : Int32) + (1 : Int32)), vi x2]) rfl k) ?_
  refine .go (fun _ k => XS.iload X12.here hx rfl (hb hby d7_15) rfl k) ?_
  refine .go (fun _ k => XS.sipush X12.here hx rfl (hb hby d7_17) k) ?_
  refine .go (fun _ k => XS.icmpYes X12.here hx rfl (pc0 := 20) (pc' := 26) rfl (hb hby d7_20) rfl (XT.ii_le_t hp2) (by decide) (by decide) k) ?_
  show Fin _ _ _ _ _ _ _ _ T12 (mkF m 26 #[vr b, vi ((0 : Int32) + (1 : Int32)), vr d, vi ((0 : Int32) + (1 : Int32)), vi (3 : Int32), vi ((0 : Int32) + (1 : Int32)), vi x2] [])
  refine .go (fun _ k => XS.aloadN X12.here hx rfl (hb hby d7_26) rfl rfl k) ?_
  refine .go (fun _ k => XS.iloadN X12.here hx rfl (hb hby d7_27) rfl k) ?_
  refine .go (fun _ k => XS.iload X12.here hx rfl (hb hby d7_28) rfl k) ?_
  refine .go (fun _ k => XT.i2b X12.here hx rfl (hb hby d7_30) rfl k) ?_
  obtain ⟨cz14, B14, q14, S14, M14, H14, G14⟩ := id V12
  obtain ⟨T14, h14, X14, e14, W14, st14⟩ := stB X12 hx hZ e12 B14 (j := ((0 : Int32) + (1 : Int32))) (inb_of S14 ⟨(by decide : ¬ (((0 : Int32) + (1 : Int32)) < (0 : Int32))), (by decide : ((0 : Int32) + (1 : Int32)) < (3 : Int32))⟩) (g := (mkF m 31 #[vr b, vi ((0 : Int32) + (1 : Int32)), vr d, vi ((0 : Int32) + (1 : Int32)), vi (3 : Int32), vi ((0 : Int32) + (1 : Int32)), vi x2] [(.int ((Int32.toInt8 x2).toInt32)), (.int ((0 : Int32) + (1 : Int32))), (.ref d)])) rfl rfl (hb hby d7_31)
  refine Fin.go st14 ?_
  have V14 : Arv Z h14 d kd .byte (3 : Int32) [(.int ((Int32.toInt8 x1).toInt32)), (.int ((Int32.toInt8 x2).toInt32)), (.int (0 : Int32))] (.int (0 : Int32)) := (by have q : Arv Z h14 d kd .byte (3 : Int32) [(.int ((Int32.toInt8 x1).toInt32)), (.int (nar .byte ((Int32.toInt8 x2).toInt32))), (.int (0 : Int32))] (.int (0 : Int32)) := (Arv.set B14 q14 S14 M14 H14 G14 (fits_nar_byte _) W14 1 rfl (Nat.le_of_ble_eq_true rfl)); rwa [nar_b8] at q)
  have N14 := Fr.snoc X14 N12 nd
  have O14 := O12.wr W14 nd
  have K14 := K12.wr W14 (Or.inl (List.mem_of_getElem? (i := 0) rfl))
  show Fin _ _ _ _ _ _ _ _ T14 (mkF m 32 #[vr b, vi ((0 : Int32) + (1 : Int32)), vr d, vi ((0 : Int32) + (1 : Int32)), vi (3 : Int32), vi ((0 : Int32) + (1 : Int32)), vi x2] [])
  refine .go (fun _ k => XS.iinc X14.here hx rfl (hb hby d7_32) rfl (l' := #[vr b, vi (((0 : Int32) + (1 : Int32)) + (1 : Int32)), vr d, vi ((0 : Int32) + (1 : Int32)), vi (3 : Int32), vi ((0 : Int32) + (1 : Int32)), vi x2]) rfl k) ?_
  refine .go (fun _ k => XS.iinc X14.here hx rfl (hb hby d7_35) rfl (l' := #[vr b, vi (((0 : Int32) + (1 : Int32)) + (1 : Int32)), vr d, vi (((0 : Int32) + (1 : Int32)) + (1 : Int32)), vi (3 : Int32), vi ((0 : Int32) + (1 : Int32)), vi x2]) rfl k) ?_
  refine .go (fun _ k => XS.iinc X14.here hx rfl (hb hby d7_38) rfl (l' := #[vr b, vi (((0 : Int32) + (1 : Int32)) + (1 : Int32)), vr d, vi (((0 : Int32) + (1 : Int32)) + (1 : Int32)), vi (3 : Int32), vi (((0 : Int32) + (1 : Int32)) + (1 : Int32)), vi x2]) rfl k) ?_
  refine .go (fun _ k => XS.goto X14.here hx rfl (pc0 := 41) (pc' := 3) rfl (hb hby d7_41) (by decide) (by decide) k) ?_
  refine .go (fun _ k => XS.iload X14.here hx rfl (hb hby d7_3) rfl k) ?_
  refine .go (fun _ k => XS.iload X14.here hx rfl (hb hby d7_5) rfl k) ?_
  refine .go (fun _ k => XS.icmpNo X14.here hx rfl (hb hby d7_7) rfl (XT.ii_ge_f (by decide)) k) ?_
  show Fin _ _ _ _ _ _ _ _ T14 (mkF m 10 #[vr b, vi (((0 : Int32) + (1 : Int32)) + (1 : Int32)), vr d, vi (((0 : Int32) + (1 : Int32)) + (1 : Int32)), vi (3 : Int32), vi (((0 : Int32) + (1 : Int32)) + (1 : Int32)), vi x2] [])
  refine .go (fun _ k => XS.aloadN X14.here hx rfl (hb hby d7_10) rfl rfl k) ?_
  refine .go (fun _ k => XS.iloadN X14.here hx rfl (hb hby d7_11) rfl k) ?_
  obtain ⟨cz15, B15, q15, S15, M15, H15, G15⟩ := id ((VB.other W12 nbd).other W14 nbd)
  have i15 := inb_of S15 ⟨(by decide : ¬ ((((0 : Int32) + (1 : Int32)) + (1 : Int32)) < (0 : Int32))), (by decide : (((0 : Int32) + (1 : Int32)) + (1 : Int32)) < (3 : Int32))⟩
  refine Fin.go (fun _ k => X14.caload hx (j := (((0 : Int32) + (1 : Int32)) + (1 : Int32))) (v := (.int x3)) (by rw [e14]; exact B15.1) (State.isArrayOf_alike hZ.alike B15.2.1) B15.2.2 i15 (Has.at H15 i15 rfl) (g := (mkF m 12 #[vr b, vi (((0 : Int32) + (1 : Int32)) + (1 : Int32)), vr d, vi (((0 : Int32) + (1 : Int32)) + (1 : Int32)), vi (3 : Int32), vi (((0 : Int32) + (1 : Int32)) + (1 : Int32)), vi x2] [(.int (((0 : Int32) + (1 : Int32)) + (1 : Int32))), (.ref b)])) rfl rfl (hb hby d7_12) _ k) ?_
  show Fin _ _ _ _ _ _ _ _ T14 (mkF m 13 #[vr b, vi (((0 : Int32) + (1 : Int32)) + (1 : Int32)), vr d, vi (((0 : Int32) + (1 : Int32)) + (1 : Int32)), vi (3 : Int32), vi (((0 : Int32) + (1 : Int32)) + (1 : Int32)), vi x2] [(.int x3)])
  refine .go (fun _ k => XS.istore X14.here hx rfl (hb hby d7_13) rfl (l' := #[vr b, vi (((0 : Int32) + (1 : Int32)) + (1 : Int32)), vr d, vi (((0 : Int32) + (1 : Int32)) + (1 : Int32)), vi (3 : Int32), vi (((0 : Int32) + (1 : Int32)) + (1 : Int32)), vi x3]) rfl k) ?_
  refine .go (fun _ k => XS.iload X14.here hx rfl (hb hby d7_15) rfl k) ?_
  refine .go (fun _ k => XS.sipush X14.here hx rfl (hb hby d7_17) k) ?_
  refine .go (fun _ k => XS.icmpNo X14.here hx rfl (hb hby d7_20) rfl (XT.ii_le_f hq) k) ?_
  show Fin _ _ _ _ _ _ _ _ T14 (mkF m 23 #[vr b, vi (((0 : Int32) + (1 : Int32)) + (1 : Int32)), vr d, vi (((0 : Int32) + (1 : Int32)) + (1 : Int32)), vi (3 : Int32), vi (((0 : Int32) + (1 : Int32)) + (1 : Int32)), vi x3] [])
  refine .go (fun _ k => XS.iload X14.here hx rfl (hb hby d7_23) rfl k) ?_
  exact Fin.leaveN X14 e14 hlk (v := some (.int (((0 : Int32) + (1 : Int32)) + (1 : Int32)))) (nvS hret) (by decide) (by decide) ⟨by decide +kernel, N14, K14⟩ (fun fs hr => retI X14 hx hret (hb hby d7_25) hr)
theorem rmCAu3_2 (l : Launch) (Z : State) (a0 : Array Value) (hw : HW a0 Z) (n0 : Nat) (h0 : Heap) (O : Old Z n0 h0) (b : Addr) (kb : ClassId) (x1 x2 x3 : Int32) (VB : Arv Z h0 b kb .char (3 : Int32) [(.int x1), (.int x2), (.int x3)] (.int (0 : Int32))) (hc1 : ChI x1) (hc2 : ChI x2) (hc3 : ChI x3) (hp1 : ¬ (255 : Int32) < x1) (hp2 : ¬ (255 : Int32) < x2) (hq : (255 : Int32) < x3) (S_as : SAs Z) (S_hb : SHb Z) (S_lb : SLb Z) :
    ConW FrameEnd l Z [] (⟨"java/lang/StringUTF16", "compress", "([CII)[B"⟩ : MethodName) jdk_52_method_16_code 6 (some (.array .byte)) ({ frames := 3, cells := 2, slots := 9, locals := 40 } : Room) #[(.ref b), (.int (0 : Int32)), (.int (3 : Int32))] h0 (fun v h L => ∃ d kd, v = some (.ref d) ∧ Fr n0 L ∧ Keep h0 h [] ∧ Arv Z h d kd .byte (6 : Int32) [(.int (lo8 x1)), (.int (hi8 x1)), (.int (lo8 x2)), (.int (hi8 x2)), (.int (lo8 x3)), (.int (hi8 x3))] (.int (0 : Int32)) ∧ h0.size ≤ d) := by
  refine conOf (plainFor_of_name pn_java_lang_StringUTF16) ?_
  intro p e s m below mth cc s₁ X0 hx hby hml hown hnm hret hlk hZ e0
  have N0 := Fr.nil n0
  have K0 := Keep.refl h0 ([] : List Addr)
  refine Fin.came (castTop (t := _) (by first | (simp [entryFrame, mkF, argsToLocals, Value.category]; done) | rfl) (Steps.refl _) : Steps p.tables e below (s₁.setTop (entryFrame m #[(.ref b), (.int (0 : Int32)), (.int (3 : Int32))] 6)) (s₁.setTop (mkF m 0 #[vr b, vi (0 : Int32), vi (3 : Int32), .unset, .unset, .unset] []))) ?_
  refine .go (fun _ k => XS.iloadN X0.here hx rfl (hb hby d6_0) rfl k) ?_
  obtain ⟨T11, h11, k11, X11, e11, E11, A11, st11⟩ := newP X0 hx hZ (aty := .byte) (hw _ w_28) e0 (g := (mkF m 1 #[vr b, vi (0 : Int32), vi (3 : Int32), .unset, .unset, .unset] [(.int (3 : Int32))])) rfl (hb hby d6_1) rfl (by decide : ¬ ((3 : Int32) < (0 : Int32))) (cap := 3) (by decide) (by decide) (by decide) (by decide)
  obtain ⟨a11, g11⟩ : ∃ z, z = h0.size := ⟨_, rfl⟩
  rw [← g11] at A11 st11
  refine Fin.go st11 ?_
  have O11 := O.ext E11
  have K11 := K0.ext E11
  have n11 : n0 ≤ a11 := by have := O.2.1; have := O.1; omega
  have z11 : h0.size ≤ a11 := by have := K0.1; omega
  have V11 : Arv Z h11 a11 k11 .byte (3 : Int32) [(.int (0 : Int32)), (.int (0 : Int32)), (.int (0 : Int32))] (.int (0 : Int32)) := (Arv.new A11 (by decide)).pad (pad_rep [] (.int (0 : Int32)) 3)
  show Fin _ _ _ _ _ _ _ _ T11 (mkF m 3 #[vr b, vi (0 : Int32), vi (3 : Int32), .unset, .unset, .unset] [(.ref a11)])
  refine .go (fun _ k => XS.astoreN X11.here hx rfl (hb hby d6_3) rfl rfl (l' := #[vr b, vi (0 : Int32), vi (3 : Int32), vr a11, .unset, .unset]) rfl k) ?_
  refine .go (fun _ k => XS.aloadN X11.here hx rfl (hb hby d6_4) rfl rfl k) ?_
  refine .go (fun _ k => XS.iloadN X11.here hx rfl (hb hby d6_5) rfl k) ?_
  refine .go (fun _ k => XS.aloadN X11.here hx rfl (hb hby d6_6) rfl rfl k) ?_
  refine .go (fun _ k => XS.iconst X11.here hx rfl (hb hby d6_7) k) ?_
  refine .go (fun _ k => XS.iloadN X11.here hx rfl (hb hby d6_8) rfl k) ?_
  obtain ⟨v12, T12, L12, X12, q12, st12⟩ := callSt X11 hx hZ hown (hw _ w_29) (hw _ w_30) (hw _ w_26) (hw _ w_31) (by decide) (W := 0) (rmCBu3_2 l Z a0 hw n0 h11 O11 b a11 kb k11 x1 x2 x3 (VB.ext E11) V11 hp1 hp2 hq n11 (Nat.ne_of_lt (Nat.lt_of_lt_of_eq VB.lt g11.symm))) e11 (by decide) (by decide) (by decide) (by decide) (g := (mkF m 9 #[vr b, vi (0 : Int32), vi (3 : Int32), vr a11, .unset, .unset] [(.int (3 : Int32)), (.int (0 : Int32)), (.ref a11), (.int (0 : Int32)), (.ref b)])) rfl (by rw [hml]; rfl) (argsL := [(.ref b), (.int (0 : Int32)), (.ref a11), (.int (0 : Int32)), (.int (3 : Int32))]) (rest := []) (lenOf pd_oACIABIIcI rfl) rfl (wk rfl rfl) (hb hby d6_9)
  obtain ⟨rfl, Nq12, Kq12⟩ := q12
  have N12 := Fr.app N0 Nq12
  have O12 := O11.keep Kq12 (allS n11 all0)
  have K12 := K11.trans Kq12 (allS (Or.inr z11) all0)
  refine Fin.go st12 ?_
  have V12_b := ((VB.ext E11).keep Kq12 (ninS (Nat.ne_of_lt (Nat.lt_of_lt_of_eq VB.lt g11.symm)) nin0))
  show Fin _ _ _ _ _ _ _ _ T12 (mkF m 12 #[vr b, vi (0 : Int32), vi (3 : Int32), vr a11, .unset, .unset] [(.int (2 : Int32))])
  refine .go (fun _ k => XS.istore X12.here hx rfl (hb hby d6_12) rfl (l' := #[vr b, vi (0 : Int32), vi (3 : Int32), vr a11, vi (2 : Int32), .unset]) rfl k) ?_
  refine .go (fun _ k => XS.iload X12.here hx rfl (hb hby d6_14) rfl k) ?_
  refine .go (fun _ k => XS.iloadN X12.here hx rfl (hb hby d6_16) rfl k) ?_
  refine .go (fun _ k => XS.icmpNo X12.here hx rfl (hb hby d6_17) rfl (XT.ii_eq_f (by decide)) k) ?_
  show Fin _ _ _ _ _ _ _ _ T12 (mkF m 20 #[vr b, vi (0 : Int32), vi (3 : Int32), vr a11, vi (2 : Int32), .unset] [])
  refine .go (fun _ k => XS.aloadN X12.here hx rfl (hb hby d6_20) rfl rfl k) ?_
  refine .go (fun _ k => XS.iloadN X12.here hx rfl (hb hby d6_21) rfl k) ?_
  refine .go (fun _ k => XS.iloadN X12.here hx rfl (hb hby d6_22) rfl k) ?_
  obtain ⟨v13, T13, L13, X13, q13, st13⟩ := callSt X12 hx hZ hown (hw _ w_82) (hw _ w_83) (hw _ w_26) (hw _ w_84) (by decide) (W := 0) (rmTBs3 l Z a0 hw n0 T12.heap O12 b kb x1 x2 x3 V12_b S_as S_hb S_lb) (rfl : T12.heap = T12.heap) (by decide) (by decide) (by decide) (by decide) (g := (mkF m 23 #[vr b, vi (0 : Int32), vi (3 : Int32), vr a11, vi (2 : Int32), .unset] [(.int (3 : Int32)), (.int (0 : Int32)), (.ref b)])) rfl (by rw [hml]; rfl) (argsL := [(.ref b), (.int (0 : Int32)), (.int (3 : Int32))]) (rest := []) (lenOf pd_oACIIcAB rfl) rfl (wk rfl rfl) (hb hby d6_23)
  obtain ⟨d13, kd13, rfl, Nq13, Kq13, V13, zd13⟩ := q13
  have N13 := Fr.app N12 Nq13
  have O13 := O12.keep Kq13 all0
  have K13 := K12.trans Kq13 all0
  refine Fin.go st13 ?_
  show Fin _ _ _ _ _ _ _ _ T13 (mkF m 26 #[vr b, vi (0 : Int32), vi (3 : Int32), vr a11, vi (2 : Int32), .unset] [(.ref d13)])
  have nzd13 : n0 ≤ d13 := Nat.le_trans (by have := O12.1; have := O12.2.1; omega) zd13
  have hzd13 : h0.size ≤ d13 := Nat.le_trans K12.1 zd13
  refine .go (fun _ k => XS.astore X13.here hx rfl (hb hby d6_26) rfl rfl (l' := #[vr b, vi (0 : Int32), vi (3 : Int32), vr a11, vi (2 : Int32), vr d13]) rfl k) ?_
  refine .go (fun _ k => XS.aload X13.here hx rfl (hb hby d6_28) rfl rfl k) ?_
  refine .go (fun _ k => XS.iload X13.here hx rfl (hb hby d6_30) rfl k) ?_
  obtain ⟨v14, T14, L14, X14, q14, st14⟩ := callSt X13 hx hZ hown (hw _ w_98) (hw _ w_99) (hw _ w_26) (hw _ w_100) (by decide) (W := 0) (rmGet3_2 l Z a0 hw n0 T13.heap O13 d13 kd13 x1 x2 x3 hc3 V13 S_as S_hb S_lb) (rfl : T13.heap = T13.heap) (by decide) (by decide) (by decide) (by decide) (g := (mkF m 32 #[vr b, vi (0 : Int32), vi (3 : Int32), vr a11, vi (2 : Int32), vr d13] [(.int (2 : Int32)), (.ref d13)])) rfl (by rw [hml]; rfl) (argsL := [(.ref d13), (.int (2 : Int32))]) (rest := []) (lenOf pd_oABIcC rfl) rfl (wk rfl rfl) (hb hby d6_32)
  obtain ⟨rfl, e14, rfl⟩ := q14
  have N14 := Fr.app N13 (Fr.nil n0)
  refine Fin.go st14 ?_
  show Fin _ _ _ _ _ _ _ _ T14 (mkF m 35 #[vr b, vi (0 : Int32), vi (3 : Int32), vr a11, vi (2 : Int32), vr d13] [(.int x3)])
  refine .go (fun _ k => XS.sipush X14.here hx rfl (hb hby d6_35) k) ?_
  refine .go (fun _ k => XS.icmpYes X14.here hx rfl (pc0 := 38) (pc' := 54) rfl (hb hby d6_38) rfl (XT.ii_gt_t hq) (by decide) (by decide) k) ?_
  show Fin _ _ _ _ _ _ _ _ T14 (mkF m 54 #[vr b, vi (0 : Int32), vi (3 : Int32), vr a11, vi (2 : Int32), vr d13] [])
  refine .go (fun _ k => XS.aload X14.here hx rfl (hb hby d6_54) rfl rfl k) ?_
  exact Fin.leaveN X14 e14 hlk (v := some (.ref d13)) (nvS hret) (by decide) (by decide) ⟨d13, kd13, rfl, N14, K13, V13, hzd13⟩ (fun fs hr => retOut X14 hx hret rfl (Or.inr (Or.inr (Or.inr (Or.inr ⟨rfl, rfl, rfl⟩)))) (hb hby d6_56) hr)
theorem rmCAu3 (l : Launch) (Z : State) (a0 : Array Value) (hw : HW a0 Z) (n0 : Nat) (h0 : Heap) (O : Old Z n0 h0) (b : Addr) (kb : ClassId) (x1 x2 x3 : Int32) (VB : Arv Z h0 b kb .char (3 : Int32) [(.int x1), (.int x2), (.int x3)] (.int (0 : Int32))) (hc1 : ChI x1) (hc2 : ChI x2) (hc3 : ChI x3) (hU : ((255 : Int32) < x1) ∨ (¬ (255 : Int32) < x1 ∧ (255 : Int32) < x2) ∨ (¬ (255 : Int32) < x1 ∧ ¬ (255 : Int32) < x2 ∧ (255 : Int32) < x3)) (S_as : SAs Z) (S_hb : SHb Z) (S_lb : SLb Z) : Con FrameEnd l Z (⟨"java/lang/StringUTF16", "compress", "([CII)[B"⟩ : MethodName) jdk_52_method_16_code 6 (some (.array .byte)) ({ frames := 3, cells := 2, slots := 9, locals := 40 } : Room) #[(.ref b), (.int (0 : Int32)), (.int (3 : Int32))] h0 (fun v h L => ∃ d kd, v = some (.ref d) ∧ Fr n0 L ∧ Keep h0 h [] ∧ Arv Z h d kd .byte (6 : Int32) [(.int (lo8 x1)), (.int (hi8 x1)), (.int (lo8 x2)), (.int (hi8 x2)), (.int (lo8 x3)), (.int (hi8 x3))] (.int (0 : Int32)) ∧ h0.size ≤ d) := by
  rcases hU with hq | ⟨hp1, hq⟩ | ⟨hp1, hp2, hq⟩
  · exact rmCAu3_0 l Z a0 hw n0 h0 O b kb x1 x2 x3 VB hc1 hc2 hc3  hq S_as S_hb S_lb
  · exact rmCAu3_1 l Z a0 hw n0 h0 O b kb x1 x2 x3 VB hc1 hc2 hc3 hp1 hq S_as S_hb S_lb
  · exact rmCAu3_2 l Z a0 hw n0 h0 O b kb x1 x2 x3 VB hc1 hc2 hc3 hp1 hp2 hq S_as S_hb S_lb
theorem rmCodU3 (l : Launch) (Z : State) (a0 : Array Value) (hw : HW a0 Z) (n0 : Nat) (h0 : Heap) (O : Old Z n0 h0) (d : Addr) (kd : ClassId) (x1 x2 x3 x4 x5 x6 : Int32) (VD : Arv Z h0 d kd .byte (6 : Int32) [(.int x1), (.int x2), (.int x3), (.int x4), (.int x5), (.int x6)] (.int (0 : Int32))) :
    ConW FrameEnd l Z [] (⟨"java/lang/StringUTF16", "coderFromArrayLen", "([BI)B"⟩ : MethodName) jdk_52_method_15_code 2 (some .byte) ({ frames := 0, cells := 0, slots := 0, locals := 0 } : Room) #[(.ref d), (.int (3 : Int32))] h0 (Pure h0 (some (.int (1 : Int32)))) := by
  refine conOf (plainFor_of_name pn_java_lang_StringUTF16) ?_
  intro p e s m below mth cc s₁ X0 hx hby hml hown hnm hret hlk hZ e0
  have N0 := Fr.nil n0
  refine Fin.came (castTop (t := _) (by first | (simp [entryFrame, mkF, argsToLocals, Value.category]; done) | rfl) (Steps.refl _) : Steps p.tables e below (s₁.setTop (entryFrame m #[(.ref d), (.int (3 : Int32))] 2)) (s₁.setTop (mkF m 0 #[vr d, vi (3 : Int32)] []))) ?_
  refine .go (fun _ k => XS.iloadN X0.here hx rfl (hb hby d8_0) rfl k) ?_
  refine .go (fun _ k => XS.aloadN X0.here hx rfl (hb hby d8_1) rfl rfl k) ?_
  obtain ⟨cz11, B11, q11, S11, M11, H11, G11⟩ := id VD
  refine Fin.go (fun _ k => X0.arraylength hx (by rw [e0]; exact B11.1) (State.isArrayOf_alike hZ.alike B11.2.1) (g := (mkF m 2 #[vr d, vi (3 : Int32)] [(.ref d), (.int (3 : Int32))])) rfl rfl (hb hby d8_2) _ k) ?_
  rw [len_of S11 M11]
  show Fin _ _ _ _ _ _ _ _ s₁ (mkF m 3 #[vr d, vi (3 : Int32)] [(.int (6 : Int32)), (.int (3 : Int32))])
  refine .go (fun _ k => XS.isub X0.here hx rfl (hb hby d8_3) rfl k) ?_
  refine .go (fun _ k => XS.bipush X0.here hx rfl (hb hby d8_4) k) ?_
  refine .go (fun _ k => XT.iushr X0.here hx rfl (hb hby d8_6) rfl k) ?_
  refine .go (fun _ k => XT.i2b X0.here hx rfl (hb hby d8_7) rfl k) ?_
  exact Fin.leaveN X0 e0 hlk (v := some (.int (nar .byte ((Int32.toInt8 (XT.ushr ((3 : Int32) - (6 : Int32)) (31 : Int32))).toInt32)))) (nvS hret) (by decide) (by decide) ⟨by decide +kernel, rfl, rfl⟩ (fun fs hr => retN X0 hx (t := .byte) hret (by simp) (hb hby d8_8) hr)
theorem rmUV3 (l : Launch) (Z : State) (a0 : Array Value) (hw : HW a0 Z) (n0 : Nat) (h0 : Heap) (O : Old Z n0 h0) (a b : Addr) (kb : ClassId) (x1 x2 x3 : Int32) (cs : Int32) (S_cs : Sta Z Z.heap "java/lang/String" "COMPACT_STRINGS" "Z" (.int cs)) (hcs : ¬ cs = 0) (VB : Arv Z h0 b kb .char (3 : Int32) [(.int x1), (.int x2), (.int x3)] (.int (0 : Int32))) (A : Exa Z h0 a "java/lang/String") (F1 : Fld Z h0 a "java/lang/String" "coder" "B" (.int (0 : Int32))) (F2 : Fld Z h0 a "java/lang/String" "value" "[B" .null) (hc1 : ChI x1) (hc2 : ChI x2) (hc3 : ChI x3) (hU : ((255 : Int32) < x1) ∨ (¬ (255 : Int32) < x1 ∧ (255 : Int32) < x2) ∨ (¬ (255 : Int32) < x1 ∧ ¬ (255 : Int32) < x2 ∧ (255 : Int32) < x3)) (S_as : SAs Z) (S_hb : SHb Z) (S_lb : SLb Z) (na : n0 ≤ a) (nba : b ≠ a) :
    ConW FrameEnd l Z [] (⟨"java/lang/String", "<init>", "([CIILjava/lang/Void;)V"⟩ : MethodName) jdk_42_method_149_code 6 none ({ frames := 4, cells := 2, slots := 9, locals := 57 } : Room) #[(.ref a), (.ref b), (.int (0 : Int32)), (.int (3 : Int32)), .null] h0 (fun v h L => v = none ∧ Fr n0 L ∧ Keep h0 h [a] ∧ Exa Z h a "java/lang/String" ∧ Fld Z h a "java/lang/String" "coder" "B" (.int (1 : Int32)) ∧ ∃ d kd, Fld Z h a "java/lang/String" "value" "[B" (.ref d) ∧ Arv Z h d kd .byte (6 : Int32) [(.int (lo8 x1)), (.int (hi8 x1)), (.int (lo8 x2)), (.int (hi8 x2)), (.int (lo8 x3)), (.int (hi8 x3))] (.int (0 : Int32)) ∧ h0.size ≤ d) := by
  refine conOf (plainFor_of_name pn_java_lang_String) ?_
  intro p e s m below mth cc s₁ X0 hx hby hml hown hnm hret hlk hZ e0
  have N0 := Fr.nil n0
  have K0 := Keep.refl h0 ([a] : List Addr)
  refine Fin.came (castTop (t := _) (by first | (simp [entryFrame, mkF, argsToLocals, Value.category]; done) | rfl) (Steps.refl _) : Steps p.tables e below (s₁.setTop (entryFrame m #[(.ref a), (.ref b), (.int (0 : Int32)), (.int (3 : Int32)), .null] 6)) (s₁.setTop (mkF m 0 #[vr a, vr b, vi (0 : Int32), vi (3 : Int32), .val .null, .unset] []))) ?_
  refine .go (fun _ k => XS.aloadN X0.here hx rfl (hb hby d4_0) rfl rfl k) ?_
  obtain ⟨T11, X11, e11, st11⟩ := initO X0 hx hZ hown (hw _ w_20) (hw _ w_21) (hw _ w_22) e0 (g := (mkF m 1 #[vr a, vr b, vi (0 : Int32), vi (3 : Int32), .val .null, .unset] [(.ref a)])) rfl (by rw [hml]; rfl) rfl (hb hby d4_1) (by decide) (W := 0) (wk rfl rfl) (by decide)
  refine Fin.go st11 ?_
  show Fin _ _ _ _ _ _ _ _ T11 (mkF m 4 #[vr a, vr b, vi (0 : Int32), vi (3 : Int32), .val .null, .unset] [])
  refine .go (fun _ k => XS.iloadN X11.here hx rfl (hb hby d4_4) rfl k) ?_
  refine .go (fun _ k => XS.ifYes X11.here hx rfl (pc0 := 5) (pc' := 27) rfl (hb hby d4_5) rfl (XT.i0_ne_t (by decide)) (by decide) (by decide) k) ?_
  show Fin _ _ _ _ _ _ _ _ T11 (mkF m 27 #[vr a, vr b, vi (0 : Int32), vi (3 : Int32), .val .null, .unset] [])
  obtain ⟨T12, X12, e12, st12⟩ := getS2 X11 hx hZ hown (host := "") (Or.inl (hw _ w_23)) Via.refl e11 (S_cs.ext O.2) (g := (mkF m 27 #[vr a, vr b, vi (0 : Int32), vi (3 : Int32), .val .null, .unset] [])) rfl (hb hby d4_27)
  refine Fin.go st12 ?_
  show Fin _ _ _ _ _ _ _ _ T12 (mkF m 30 #[vr a, vr b, vi (0 : Int32), vi (3 : Int32), .val .null, .unset] [(.int cs)])
  refine .go (fun _ k => XS.ifNo X12.here hx rfl (hb hby d4_30) rfl (XT.i0_eq_f hcs) k) ?_
  show Fin _ _ _ _ _ _ _ _ T12 (mkF m 33 #[vr a, vr b, vi (0 : Int32), vi (3 : Int32), .val .null, .unset] [])
  refine .go (fun _ k => XS.aloadN X12.here hx rfl (hb hby d4_33) rfl rfl k) ?_
  refine .go (fun _ k => XS.iloadN X12.here hx rfl (hb hby d4_34) rfl k) ?_
  refine .go (fun _ k => XS.iloadN X12.here hx rfl (hb hby d4_35) rfl k) ?_
  obtain ⟨v13, T13, L13, X13, q13, st13⟩ := callSt X12 hx hZ hown (hw _ w_24) (hw _ w_25) (hw _ w_26) (hw _ w_27) (by decide) (W := 0) (rmCAu3 l Z a0 hw n0 h0 O b kb x1 x2 x3 VB hc1 hc2 hc3 hU S_as S_hb S_lb) e12 (by decide) (by decide) (by decide) (by decide) (g := (mkF m 36 #[vr a, vr b, vi (0 : Int32), vi (3 : Int32), .val .null, .unset] [(.int (3 : Int32)), (.int (0 : Int32)), (.ref b)])) rfl (by rw [hml]; rfl) (argsL := [(.ref b), (.int (0 : Int32)), (.int (3 : Int32))]) (rest := []) (lenOf pd_oACIIcAB rfl) rfl (wk rfl rfl) (hb hby d4_36)
  obtain ⟨d13, kd13, rfl, Nq13, Kq13, V13, zd13⟩ := q13
  have N13 := Fr.app N0 Nq13
  have O13 := O.keep Kq13 all0
  have K13 := K0.trans Kq13 all0
  refine Fin.go st13 ?_
  show Fin _ _ _ _ _ _ _ _ T13 (mkF m 39 #[vr a, vr b, vi (0 : Int32), vi (3 : Int32), .val .null, .unset] [(.ref d13)])
  have nzd13 : n0 ≤ d13 := Nat.le_trans (by have := O.1; have := O.2.1; omega) zd13
  have hzd13 : h0.size ≤ d13 := Nat.le_trans K0.1 zd13
  refine .go (fun _ k => XS.astore X13.here hx rfl (hb hby d4_39) rfl rfl (l' := #[vr a, vr b, vi (0 : Int32), vi (3 : Int32), .val .null, vr d13]) rfl k) ?_
  refine .go (fun _ k => XS.aloadN X13.here hx rfl (hb hby d4_41) rfl rfl k) ?_
  refine .go (fun _ k => XS.aload X13.here hx rfl (hb hby d4_42) rfl rfl k) ?_
  refine .go (fun _ k => XS.iloadN X13.here hx rfl (hb hby d4_44) rfl k) ?_
  obtain ⟨v14, T14, L14, X14, q14, st14⟩ := callSt X13 hx hZ hown (hw _ w_32) (hw _ w_33) (hw _ w_26) (hw _ w_34) (by decide) (W := 1) (rmCodU3 l Z a0 hw n0 T13.heap O13 d13 kd13 (lo8 x1) (hi8 x1) (lo8 x2) (hi8 x2) (lo8 x3) (hi8 x3) V13) (rfl : T13.heap = T13.heap) (by decide) (by decide) (by decide) (by decide) (g := (mkF m 45 #[vr a, vr b, vi (0 : Int32), vi (3 : Int32), .val .null, vr d13] [(.int (3 : Int32)), (.ref d13), (.ref a)])) rfl (by rw [hml]; rfl) (argsL := [(.ref d13), (.int (3 : Int32))]) (rest := [(.ref a)]) (lenOf pd_oABIcB rfl) rfl (wk rfl rfl) (hb hby d4_45)
  obtain ⟨rfl, e14, rfl⟩ := q14
  have N14 := Fr.app N13 (Fr.nil n0)
  refine Fin.go st14 ?_
  show Fin _ _ _ _ _ _ _ _ T14 (mkF m 48 #[vr a, vr b, vi (0 : Int32), vi (3 : Int32), .val .null, vr d13] [(.int (1 : Int32)), (.ref a)])
  obtain ⟨T15, h15, X15, e15, W15, st15⟩ := putF X14 hx hZ hown (host := "") (Or.inl (hw _ w_35)) Via.refl e14 (F1.keep Kq13 nin0) (A.keep Kq13) (Or.inr ⟨(hw _ w_36), rfl, hnm⟩) (hw _ w_11) (ty := .byte) (by decide) rfl rfl (g := (mkF m 48 #[vr a, vr b, vi (0 : Int32), vi (3 : Int32), .val .null, vr d13] [(.int (1 : Int32)), (.ref a)])) rfl rfl (hb hby d4_48)
  refine Fin.go st15 ?_
  have N15 := Fr.snoc X15 N14 na
  have O15 := O13.wr W15 na
  have K15 := K13.wr W15 (Or.inl (List.mem_of_getElem? (i := 0) rfl))
  have F15_a_value := ((F2.keep Kq13 nin0).other W15 (Or.inr (slot_ne (Or.inr (hw _ w_38)) (Or.inr (hw _ w_36)) (by decide) (t := (.array .byte)) (t' := .byte) (by decide) (by decide))))
  have V15_d13 := (V13.other W15 (Ne.symm (Nat.ne_of_lt (Nat.lt_of_lt_of_le F2.lt zd13))))
  show Fin _ _ _ _ _ _ _ _ T15 (mkF m 51 #[vr a, vr b, vi (0 : Int32), vi (3 : Int32), .val .null, vr d13] [])
  refine .go (fun _ k => XS.aloadN X15.here hx rfl (hb hby d4_51) rfl rfl k) ?_
  refine .go (fun _ k => XS.aload X15.here hx rfl (hb hby d4_52) rfl rfl k) ?_
  obtain ⟨T16, h16, X16, e16, W16, st16⟩ := putF X15 hx hZ hown (host := "") (Or.inl (hw _ w_37)) Via.refl e15 F15_a_value ((A.keep Kq13).wr W15) (Or.inr ⟨(hw _ w_38), rfl, hnm⟩) (hw _ w_11) (ty := (.array .byte)) (by decide) rfl rfl (g := (mkF m 54 #[vr a, vr b, vi (0 : Int32), vi (3 : Int32), .val .null, vr d13] [(.ref d13), (.ref a)])) rfl rfl (hb hby d4_54)
  refine Fin.go st16 ?_
  have N16 := Fr.snoc X16 N15 na
  have O16 := O15.wr W16 na
  have K16 := K15.wr W16 (Or.inl (List.mem_of_getElem? (i := 0) rfl))
  have F16_a_coder := (((F1.keep Kq13 nin0).same W15).other W16 (Or.inr (slot_ne (Or.inr (hw _ w_36)) (Or.inr (hw _ w_38)) (by decide) (t := .byte) (t' := (.array .byte)) (by decide) (by decide))))
  have V16_d13 := (V15_d13.other W16 (Ne.symm (Nat.ne_of_lt (Nat.lt_of_lt_of_le F2.lt zd13))))
  show Fin _ _ _ _ _ _ _ _ T16 (mkF m 57 #[vr a, vr b, vi (0 : Int32), vi (3 : Int32), .val .null, vr d13] [])
  exact Fin.leaveN X16 e16 hlk (v := none) (fun _ => rfl) (by decide) (by decide) ⟨rfl, N16, K16, (((A.keep Kq13).wr W15).wr W16), F16_a_coder, d13, kd13, (F15_a_value.same W16), V16_d13, hzd13⟩ (fun fs hr => X16.returnOut hx hret (hb hby d4_57) hr)
theorem lu3 (x1 x2 x3 : Int32) : (¬ (255 : Int32) < x1 ∧ ¬ (255 : Int32) < x2 ∧ ¬ (255 : Int32) < x3) ∨ (((255 : Int32) < x1) ∨ (¬ (255 : Int32) < x1 ∧ (255 : Int32) < x2) ∨ (¬ (255 : Int32) < x1 ∧ ¬ (255 : Int32) < x2 ∧ (255 : Int32) < x3)) := by by_cases q1 : (255 : Int32) < x1 <;> by_cases q2 : (255 : Int32) < x2 <;> by_cases q3 : (255 : Int32) < x3 <;> simp_all
theorem rmU3 (l : Launch) (Z : State) (a0 : Array Value) (hw : HW a0 Z) (n0 : Nat) (h0 : Heap) (O : Old Z n0 h0) (a b : Addr) (kb : ClassId) (x1 x2 x3 : Int32) (cs : Int32) (S_cs : Sta Z Z.heap "java/lang/String" "COMPACT_STRINGS" "Z" (.int cs)) (hcs : ¬ cs = 0) (VB : Arv Z h0 b kb .char (3 : Int32) [(.int x1), (.int x2), (.int x3)] (.int (0 : Int32))) (A : Exa Z h0 a "java/lang/String") (F1 : Fld Z h0 a "java/lang/String" "coder" "B" (.int (0 : Int32))) (F2 : Fld Z h0 a "java/lang/String" "value" "[B" .null) (hc1 : ChI x1) (hc2 : ChI x2) (hc3 : ChI x3) (hU : ((255 : Int32) < x1) ∨ (¬ (255 : Int32) < x1 ∧ (255 : Int32) < x2) ∨ (¬ (255 : Int32) < x1 ∧ ¬ (255 : Int32) < x2 ∧ (255 : Int32) < x3)) (S_as : SAs Z) (S_hb : SHb Z) (S_lb : SLb Z) (na : n0 ≤ a) (nba : b ≠ a) :
    ConW FrameEnd l Z [] (⟨"java/lang/String", "<init>", "([C)V"⟩ : MethodName) jdk_42_method_3_code 2 none ({ frames := 5, cells := 2, slots := 9, locals := 74 } : Room) #[(.ref a), (.ref b)] h0 (fun v h L => v = none ∧ Fr n0 L ∧ Keep h0 h [a] ∧ Exa Z h a "java/lang/String" ∧ Fld Z h a "java/lang/String" "coder" "B" (.int (1 : Int32)) ∧ ∃ d kd, Fld Z h a "java/lang/String" "value" "[B" (.ref d) ∧ Arv Z h d kd .byte (6 : Int32) [(.int (lo8 x1)), (.int (hi8 x1)), (.int (lo8 x2)), (.int (hi8 x2)), (.int (lo8 x3)), (.int (hi8 x3))] (.int (0 : Int32)) ∧ h0.size ≤ d) := by
  refine conOf (plainFor_of_name pn_java_lang_String) ?_
  intro p e s m below mth cc s₁ X0 hx hby hml hown hnm hret hlk hZ e0
  have N0 := Fr.nil n0
  have K0 := Keep.refl h0 ([a] : List Addr)
  refine Fin.came (castTop (t := _) (by first | (simp [entryFrame, mkF, argsToLocals, Value.category]; done) | rfl) (Steps.refl _) : Steps p.tables e below (s₁.setTop (entryFrame m #[(.ref a), (.ref b)] 2)) (s₁.setTop (mkF m 0 #[vr a, vr b] []))) ?_
  refine .go (fun _ k => XS.aloadN X0.here hx rfl (hb hby d3_0) rfl rfl k) ?_
  refine .go (fun _ k => XS.aloadN X0.here hx rfl (hb hby d3_1) rfl rfl k) ?_
  refine .go (fun _ k => XS.iconst X0.here hx rfl (hb hby d3_2) k) ?_
  refine .go (fun _ k => XS.aloadN X0.here hx rfl (hb hby d3_3) rfl rfl k) ?_
  obtain ⟨cz11, B11, q11, S11, M11, H11, G11⟩ := id VB
  refine Fin.go (fun _ k => X0.arraylength hx (by rw [e0]; exact B11.1) (State.isArrayOf_alike hZ.alike B11.2.1) (g := (mkF m 4 #[vr a, vr b] [(.ref b), (.int (0 : Int32)), (.ref b), (.ref a)])) rfl rfl (hb hby d3_4) _ k) ?_
  rw [len_of S11 M11]
  show Fin _ _ _ _ _ _ _ _ s₁ (mkF m 5 #[vr a, vr b] [(.int (3 : Int32)), (.int (0 : Int32)), (.ref b), (.ref a)])
  refine .go (fun _ k => XS.aconstNull X0.here hx rfl (hb hby d3_5) k) ?_
  obtain ⟨v12, T12, L12, X12, q12, st12⟩ := callCt X0 hx hZ (y := (⟨"java/lang/String", "<init>", "([CIILjava/lang/Void;)V"⟩ : MethodName)) rfl hown (hw _ w_16) (hw _ w_17) (hw _ w_12) (hw _ w_19) (by decide) (W := 0) (rmUV3 l Z a0 hw n0 h0 O a b kb x1 x2 x3 cs S_cs hcs VB A F1 F2 hc1 hc2 hc3 hU S_as S_hb S_lb na nba) e0 (by decide) (by decide) (by decide) (by decide) (g := (mkF m 6 #[vr a, vr b] [.null, (.int (3 : Int32)), (.int (0 : Int32)), (.ref b), (.ref a)])) rfl (by rw [hml]; rfl) (a := a) (argsL := [(.ref b), (.int (0 : Int32)), (.int (3 : Int32)), .null]) (rest := []) (lenOf pd_oACIILjava_lang_Void_cV rfl) rfl (wk rfl rfl) (hb hby d3_6)
  obtain ⟨rfl, Nq12, Kq12, A12, C12, d12, kd12, F12, V12, zd12⟩ := q12
  have N12 := Fr.app N0 Nq12
  have O12 := O.keep Kq12 (allS na all0)
  have K12 := K0.trans Kq12 (allS (Or.inl (List.mem_of_getElem? (i := 0) rfl)) all0)
  refine Fin.go st12 ?_
  show Fin _ _ _ _ _ _ _ _ T12 (mkF m 9 #[vr a, vr b] [])
  exact Fin.leaveN X12 (rfl : T12.heap = T12.heap) hlk (v := none) (fun _ => rfl) (by decide) (by decide) ⟨rfl, N12, K12, A12, C12, d12, kd12, F12, V12, zd12⟩ (fun fs hr => X12.returnOut hx hret (hb hby d3_9) hr)
def icmp (x y : Int32) : Int32 := if x < y then -1 else if x = y then 0 else 1
def lcmI (x y : Int32) : Int32 := if x < y then -1 else if y < x then 1 else 0
def ccf (x : Int32) : Int32 := if x < 65536 then 1 else 2
def sgF (x : Int32) : Int32 := if x < 0 then -1 else if 0 < x then 1 else 0
def stp (k n m a b r1 r2 : Int32) : Int32 := if k < n then (if k < m then (if a = b then (if ccf a = 1 then r1 else r2) else icmp a b) else icmp (n - k) (m - k)) else icmp (n - k) (m - k)
def H2 (n x3 m y3 : Int32) : Int32 := stp 2 n m (cpN 3 n x3 x3) (cpN 3 m y3 y3) (icmp (n - 3) (m - 3)) (icmp (n - 4) (m - 4))
def H1 (n x2 x3 m y2 y3 : Int32) : Int32 := stp 1 n m (cpN 2 n x2 x3) (cpN 2 m y2 y3) (H2 n x3 m y3) (icmp (n - 3) (m - 3))
def H0 (n x1 x2 x3 m y1 y2 y3 : Int32) : Int32 := stp 0 n m (cpN 1 n x1 x2) (cpN 1 m y1 y2) (H1 n x2 x3 m y2 y3) (H2 n x3 m y3)
def pa (k n x y : Int32) : Int32 := if k < n then (if hs x = 0 then 0 else if lsu y = 0 then 0 else 1) else 0
def atF (i k n x y : Int32) : Int32 := if i < n then cpN k n x y else -1
def widF (k n x y : Int32) : Int32 := if pa k n x y = 0 then 1 else 2
def s1 (n x1 x2 x3 : Int32) : Int32 := if pa 1 n x1 x2 = 0 then atF 1 2 n x2 x3 else atF 2 3 n x3 x3
def s2 (n x1 x2 x3 : Int32) : Int32 := if pa 1 n x1 x2 = 0 then (if pa 2 n x2 x3 = 0 then atF 2 3 n x3 x3 else -1) else -1
def refF (n x1 x2 x3 m y1 y2 y3 : Int32) : Int32 := if atF 0 1 n x1 x2 = atF 0 1 m y1 y2 then (if s1 n x1 x2 x3 = s1 m y1 y2 y3 then lcmI (s2 n x1 x2 x3) (s2 m y1 y2 y3) else lcmI (s1 n x1 x2 x3) (s1 m y1 y2 y3)) else lcmI (atF 0 1 n x1 x2) (atF 0 1 m y1 y2)
theorem cpN_pa0 {k n x y : Int32} (h : pa k n x y = 0) : cpN k n x y = x := by
  unfold pa at h; unfold cpN cp2
  split
  · rename_i c; rw [if_pos c] at h
    split
    · rfl
    · rename_i d; rw [if_neg d] at h
      split
      · rfl
      · rename_i e; rw [if_neg e] at h; exact absurd h (by decide)
  · rfl
theorem pa_parts {k n x y : Int32} (h : ¬ pa k n x y = 0) : k < n ∧ ¬ hs x = 0 ∧ ¬ lsu y = 0 := by
  unfold pa at h
  by_cases c : k < n
  · rw [if_pos c] at h
    by_cases d : hs x = 0
    · rw [if_pos d] at h; exact absurd rfl h
    · rw [if_neg d] at h
      by_cases e : lsu y = 0
      · rw [if_pos e] at h; exact absurd rfl h
      · exact ⟨c, d, e⟩
  · rw [if_neg c] at h; exact absurd rfl h
theorem cpN_pa1 {k n x y : Int32} (h : ¬ pa k n x y = 0) : cpN k n x y = (((x - (55296 : Int32)) <<< ((10 : Int32) &&& 31)) + (y - (56320 : Int32))) + (65536 : Int32) := by
  obtain ⟨a, b, c⟩ := pa_parts h
  unfold cpN cp2; rw [if_pos a, if_neg b, if_neg c, comb]
theorem hs_parts {x : Int32} (h : ¬ hs x = 0) : ¬ x < 55296 ∧ x < 56320 := by
  unfold hs at h
  by_cases c : x < 55296
  · rw [if_pos c] at h; exact absurd rfl h
  · rw [if_neg c] at h
    by_cases d : x < 56320
    · exact ⟨c, d⟩
    · rw [if_neg d] at h; exact absurd rfl h
theorem ls_parts {x : Int32} (h : ¬ lsu x = 0) : ¬ x < 56320 ∧ x < 57344 := by
  unfold lsu at h
  by_cases c : x < 56320
  · rw [if_pos c] at h; exact absurd rfl h
  · rw [if_neg c] at h
    by_cases d : x < 57344
    · exact ⟨c, d⟩
    · rw [if_neg d] at h; exact absurd rfl h
theorem ch65 {x : Int32} (h : ChI x) : x < 65536 := by
  have k : (65536 : Int32).toInt = 65536 := rfl
  rw [Int32.lt_iff_toInt_lt, k]; have := h.2; omega
theorem ccf0 {k n x y : Int32} (hx : ChI x) (h : pa k n x y = 0) : ccf (cpN k n x y) = 1 := by rw [cpN_pa0 h]; unfold ccf; rw [if_pos (ch65 hx)]
theorem ccf1 {k n x y : Int32} (h : ¬ pa k n x y = 0) : ccf (cpN k n x y) = 2 := by
  obtain ⟨a, b, c⟩ := pa_parts h
  unfold ccf cpN cp2; rw [if_pos a, if_neg b, if_neg c, if_neg (combB _ _ (hs_parts b).1 (hs_parts b).2 (ls_parts c).1 (ls_parts c).2)]
theorem ccf_or (x : Int32) : ccf x = 1 ∨ ccf x = 2 := by unfold ccf; split; exact Or.inl rfl; exact Or.inr rfl
theorem lt32 (x y : Int32) : x < y ↔ x.toInt < y.toInt := Int32.lt_iff_toInt_lt
theorem cpN_pos {k n x y : Int32} (hx : ChI x) : 0 ≤ (cpN k n x y).toInt := by
  by_cases h : pa k n x y = 0
  · rw [cpN_pa0 h]; exact hx.1
  · obtain ⟨a, b, c⟩ := pa_parts h
    have q := combB _ _ (hs_parts b).1 (hs_parts b).2 (ls_parts c).1 (ls_parts c).2
    unfold cpN cp2; rw [if_pos a, if_neg b, if_neg c]
    have k : (65536 : Int32).toInt = 65536 := rfl
    rw [lt32, k] at q
    generalize (((x <<< ((10 : Int32) &&& 31)) + y) + (-56613888 : Int32)).toInt = A at *
    omega
theorem sg_icmp (a b : Int32) : sgF (icmp a b) = lcmI a b := by
  unfold icmp lcmI
  by_cases c : a < b
  · rw [if_pos c, if_pos c]; decide
  · rw [if_neg c, if_neg c]
    by_cases d : a = b
    · subst d; rw [if_pos rfl, if_neg c]; decide
    · have : b < a := by rw [lt32] at *; have e : ¬ a.toInt = b.toInt := fun h => d (Int32.toInt_inj.mp h); omega
      rw [if_neg d, if_pos this]; decide
theorem lcm_self (a : Int32) : lcmI a a = 0 := by unfold lcmI; rw [if_neg Int32.lt_irrefl, if_neg Int32.lt_irrefl]
theorem lcm_lt {a b : Int32} (h : a.toInt < b.toInt) : lcmI a b = -1 := by unfold lcmI; rw [if_pos (Int32.lt_iff_toInt_lt.mpr h)]
theorem lcm_gt {a b : Int32} (h : b.toInt < a.toInt) : lcmI a b = 1 := by unfold lcmI; rw [if_neg (by rw [lt32]; omega), if_pos (Int32.lt_iff_toInt_lt.mpr h)]
theorem m1 : (-1 : Int32).toInt = -1 := by decide
/-- one of them is at its end -/
theorem ends {k n m u v : Int32} {K : Int} (hK : k.toInt = K) (h0 : 0 ≤ K) (hn : K ≤ n.toInt) (hm : K ≤ m.toInt) (n3 : n.toInt ≤ 3) (m3 : m.toInt ≤ 3) (h : ¬ (k < n ∧ k < m)) (hu : 0 ≤ u.toInt) (hv : 0 ≤ v.toInt) :
    sgF (icmp (n - k) (m - k)) = lcmI (if k < n then u else -1) (if k < m then v else -1) := by
  rw [sg_icmp]
  have a := c_isub n k; have b := c_isub m k
  have r1 := Int32.le_toInt (n - k); have r2 := Int32.toInt_lt (n - k); have r3 := Int32.le_toInt (m - k); have r4 := Int32.toInt_lt (m - k)
  have e := m1
  rw [lt32, lt32] at h
  by_cases c : k < n
  · have c' := c; rw [lt32] at c'
    have d : ¬ k < m := by rw [lt32]; omega
    have d' := d; rw [lt32] at d'
    rw [if_pos c, if_neg d, lcm_gt (by omega), lcm_gt (by omega)]
  · have c' := c; rw [lt32] at c'
    rw [if_neg c]
    by_cases d : k < m
    · have d' := d; rw [lt32] at d'
      rw [if_pos d, lcm_lt (by omega), lcm_lt (by omega)]
    · have d' := d; rw [lt32] at d'
      rw [if_neg d, lcm_self]
      have : n - k = m - k := Int32.toInt_inj.mp (by omega)
      rw [this, lcm_self]
theorem L2 {n m x y : Int32} (hn : 2 ≤ n.toInt) (hm : 2 ≤ m.toInt) (n3 : n.toInt ≤ 3) (m3 : m.toInt ≤ 3) (hx : ChI x) (hy : ChI y) : sgF (H2 n x m y) = lcmI (atF 2 3 n x x) (atF 2 3 m y y) := by
  have k2 : (2 : Int32).toInt = 2 := rfl
  have k3 : (3 : Int32).toInt = 3 := rfl
  by_cases h : (2 : Int32) < n ∧ (2 : Int32) < m
  · unfold H2 stp atF
    have np : ∀ z : Int32, z.toInt ≤ 3 → ∀ w, pa 3 z w w = 0 := fun z hz w => by unfold pa; rw [if_neg (by rw [lt32]; omega)]
    rw [if_pos h.1, if_pos h.2, if_pos h.1, if_pos h.2, cpN_pa0 (np n n3 x), cpN_pa0 (np m m3 y)]
    by_cases q : x = y
    · have c1 : ccf x = 1 := by unfold ccf; rw [if_pos (ch65 hx)]
      rw [if_pos q, if_pos c1, sg_icmp, q, lcm_self]
      have e1 := h.1; have e2 := h.2; rw [lt32] at e1 e2
      have : n = m := Int32.toInt_inj.mp (by omega)
      rw [this, lcm_self]
    · rw [if_neg q, sg_icmp]
  · have e := ends (u := cpN 3 n x x) (v := cpN 3 m y y) k2 (by omega) hn hm n3 m3 h (cpN_pos hx) (cpN_pos hy)
    unfold atF; rw [← e]; unfold H2 stp
    by_cases c : (2 : Int32) < n
    · rw [if_pos c, if_neg (fun d => h ⟨c, d⟩)]
    · rw [if_neg c]
theorem pa_eq {k n m x y u v : Int32} (hx : ChI x) (hu : ChI u) (h : cpN k n x y = cpN k m u v) : (pa k n x y = 0) ↔ (pa k m u v = 0) := by
  constructor
  · intro a
    by_cases b : pa k m u v = 0
    · exact b
    · have := ccf0 hx a; rw [h, ccf1 b] at this; exact absurd this (by decide)
  · intro a
    by_cases b : pa k n x y = 0
    · exact b
    · have := ccf0 hu a; rw [← h, ccf1 b] at this; exact absurd this (by decide)
theorem atF_end {i k n x y : Int32} (h : ¬ i < n) : atF i k n x y = -1 := if_neg h
theorem L1 {n m x2 x3 y2 y3 : Int32} (hn : 1 ≤ n.toInt) (hm : 1 ≤ m.toInt) (n3 : n.toInt ≤ 3) (m3 : m.toInt ≤ 3) (hx : ChI x2) (hy : ChI y2) (hx3 : ChI x3) (hy3 : ChI y3) : sgF (H1 n x2 x3 m y2 y3) =
    if atF 1 2 n x2 x3 = atF 1 2 m y2 y3 then lcmI (if pa 2 n x2 x3 = 0 then atF 2 3 n x3 x3 else -1) (if pa 2 m y2 y3 = 0 then atF 2 3 m y3 y3 else -1) else lcmI (atF 1 2 n x2 x3) (atF 1 2 m y2 y3) := by
  have k1 : (1 : Int32).toInt = 1 := rfl
  have k2 : (2 : Int32).toInt = 2 := rfl
  by_cases h : (1 : Int32) < n ∧ (1 : Int32) < m
  · have h1 := h.1; have h2 := h.2; rw [lt32] at h1 h2
    have a1 : atF 1 2 n x2 x3 = cpN 2 n x2 x3 := if_pos h.1
    have a2 : atF 1 2 m y2 y3 = cpN 2 m y2 y3 := if_pos h.2
    unfold H1 stp
    rw [a1, a2, if_pos h.1, if_pos h.2]
    by_cases q : cpN 2 n x2 x3 = cpN 2 m y2 y3
    · rw [if_pos q, if_pos q]
      have pe := pa_eq hx hy q
      by_cases z : pa 2 n x2 x3 = 0
      · rw [if_pos (ccf0 hx z), if_pos z, if_pos (pe.mp z)]
        exact L2 (by omega) (by omega) n3 m3 hx3 hy3
      · have z' : ¬ pa 2 m y2 y3 = 0 := fun w => z (pe.mpr w)
        rw [if_neg (by rw [ccf1 z]; decide), if_neg z, if_neg z', lcm_self, sg_icmp]
        have e1 := (pa_parts z).1; have e2 := (pa_parts z').1; rw [lt32] at e1 e2
        have : n = m := Int32.toInt_inj.mp (by omega)
        rw [this, lcm_self]
    · rw [if_neg q, if_neg q, sg_icmp]
  · have e := ends (u := cpN 2 n x2 x3) (v := cpN 2 m y2 y3) k1 (by omega) hn hm n3 m3 h (cpN_pos hx) (cpN_pos hy)
    have g : sgF (H1 n x2 x3 m y2 y3) = lcmI (atF 1 2 n x2 x3) (atF 1 2 m y2 y3) := by
      unfold atF; rw [← e]; unfold H1 stp
      by_cases c : (1 : Int32) < n
      · rw [if_pos c, if_neg (fun d => h ⟨c, d⟩)]
      · rw [if_neg c]
    rw [g]
    by_cases q : atF 1 2 n x2 x3 = atF 1 2 m y2 y3
    · rw [if_pos q, q, lcm_self]
      -- then both are at their end
      have f1 : ¬ (1 : Int32) < n := fun c => by
        have d : ¬ (1 : Int32) < m := fun d => h ⟨c, d⟩
        rw [atF_end d] at q; unfold atF at q; rw [if_pos c] at q
        have := cpN_pos (k := 2) (n := n) (y := x3) hx; rw [q, m1] at this; omega
      have f2 : ¬ (1 : Int32) < m := fun d => by
        rw [atF_end f1] at q; unfold atF at q; rw [if_pos d] at q
        have := cpN_pos (k := 2) (n := m) (y := y3) hy; rw [← q, m1] at this; omega
      have g1 : ¬ (2 : Int32) < n := by rw [lt32] at *; omega
      have g2 : ¬ (2 : Int32) < m := by rw [lt32] at *; omega
      have p1 : pa 2 n x2 x3 = 0 := by unfold pa; rw [if_neg g1]
      have p2 : pa 2 m y2 y3 = 0 := by unfold pa; rw [if_neg g2]
      rw [if_pos p1, if_pos p2, atF_end g1, atF_end g2, lcm_self]
    · rw [if_neg q]
theorem lawEq {n m x1 x2 x3 y1 y2 y3 : Int32} (hn : 0 ≤ n.toInt ∧ n.toInt ≤ 3) (hm : 0 ≤ m.toInt ∧ m.toInt ≤ 3) (hx1 : ChI x1) (hx2 : ChI x2) (hx3 : ChI x3) (hy1 : ChI y1) (hy2 : ChI y2) (hy3 : ChI y3) : sgF (H0 n x1 x2 x3 m y1 y2 y3) = refF n x1 x2 x3 m y1 y2 y3 := by
  have k0 : (0 : Int32).toInt = 0 := rfl
  have k1 : (1 : Int32).toInt = 1 := rfl
  have k2 : (2 : Int32).toInt = 2 := rfl
  have n0 := hn.1; have n3 := hn.2; have m0 := hm.1; have m3 := hm.2
  by_cases h : (0 : Int32) < n ∧ (0 : Int32) < m
  · have h1 := h.1; have h2 := h.2; rw [lt32] at h1 h2
    have a1 : atF 0 1 n x1 x2 = cpN 1 n x1 x2 := if_pos h.1
    have a2 : atF 0 1 m y1 y2 = cpN 1 m y1 y2 := if_pos h.2
    unfold H0 stp refF
    rw [a1, a2, if_pos h.1, if_pos h.2]
    by_cases q : cpN 1 n x1 x2 = cpN 1 m y1 y2
    · rw [if_pos q, if_pos q]
      have pe := pa_eq hx1 hy1 q
      by_cases z : pa 1 n x1 x2 = 0
      · have e1 : s1 n x1 x2 x3 = atF 1 2 n x2 x3 := if_pos z
        have e2 : s1 m y1 y2 y3 = atF 1 2 m y2 y3 := if_pos (pe.mp z)
        have e3 : s2 n x1 x2 x3 = (if pa 2 n x2 x3 = 0 then atF 2 3 n x3 x3 else -1) := if_pos z
        have e4 : s2 m y1 y2 y3 = (if pa 2 m y2 y3 = 0 then atF 2 3 m y3 y3 else -1) := if_pos (pe.mp z)
        rw [if_pos (ccf0 hx1 z), e1, e2, e3, e4]
        exact L1 (by omega) (by omega) n3 m3 hx2 hy2 hx3 hy3
      · have z' : ¬ pa 1 m y1 y2 = 0 := fun w => z (pe.mpr w)
        have e1 : s1 n x1 x2 x3 = atF 2 3 n x3 x3 := if_neg z
        have e2 : s1 m y1 y2 y3 = atF 2 3 m y3 y3 := if_neg z'
        have e3 : s2 n x1 x2 x3 = -1 := if_neg z
        have e4 : s2 m y1 y2 y3 = -1 := if_neg z'
        have f1 := (pa_parts z).1; have f2 := (pa_parts z').1; rw [lt32] at f1 f2
        rw [if_neg (by rw [ccf1 z]; decide), e1, e2, e3, e4, L2 (by omega) (by omega) n3 m3 hx3 hy3]
        by_cases w : atF 2 3 n x3 x3 = atF 2 3 m y3 y3
        · rw [if_pos w, w, lcm_self, lcm_self]
        · rw [if_neg w]
    · rw [if_neg q, if_neg q, sg_icmp]
  · have e := ends (u := cpN 1 n x1 x2) (v := cpN 1 m y1 y2) k0 (by omega) n0 m0 n3 m3 h (cpN_pos hx1) (cpN_pos hy1)
    have g : sgF (H0 n x1 x2 x3 m y1 y2 y3) = lcmI (atF 0 1 n x1 x2) (atF 0 1 m y1 y2) := by
      unfold atF; rw [← e]; unfold H0 stp
      by_cases c : (0 : Int32) < n
      · rw [if_pos c, if_neg (fun d => h ⟨c, d⟩)]
      · rw [if_neg c]
    rw [g]; unfold refF
    by_cases q : atF 0 1 n x1 x2 = atF 0 1 m y1 y2
    · rw [if_pos q, q, lcm_self]
      have f1 : ¬ (0 : Int32) < n := fun c => by
        have d : ¬ (0 : Int32) < m := fun d => h ⟨c, d⟩
        rw [atF_end d] at q; unfold atF at q; rw [if_pos c] at q
        have := cpN_pos (k := 1) (n := n) (y := x2) hx1; rw [q, m1] at this; omega
      have f2 : ¬ (0 : Int32) < m := fun d => by
        rw [atF_end f1] at q; unfold atF at q; rw [if_pos d] at q
        have := cpN_pos (k := 1) (n := m) (y := y2) hy1; rw [← q, m1] at this; omega
      have g1 : ¬ (1 : Int32) < n := by rw [lt32] at *; omega
      have g2 : ¬ (1 : Int32) < m := by rw [lt32] at *; omega
      have g3 : ¬ (2 : Int32) < n := by rw [lt32] at *; omega
      have g4 : ¬ (2 : Int32) < m := by rw [lt32] at *; omega
      have p1 : pa 1 n x1 x2 = 0 := by unfold pa; rw [if_neg g1]
      have p2 : pa 1 m y1 y2 = 0 := by unfold pa; rw [if_neg g2]
      have p3 : pa 2 n x2 x3 = 0 := by unfold pa; rw [if_neg g3]
      have p4 : pa 2 m y2 y3 = 0 := by unfold pa; rw [if_neg g4]
      unfold s1 s2
      rw [if_pos p1, if_pos p2, if_pos p1, if_pos p3, if_pos p2, if_pos p4, atF_end g1, atF_end g2, atF_end g3, atF_end g4, if_pos rfl, lcm_self]
    · rw [if_neg q]
theorem and3 (x : Int32) : 0 ≤ (x &&& (3 : Int32)).toInt ∧ (x &&& (3 : Int32)).toInt ≤ 3 := by
  have := c_mask x 3 2 (by decide) (by decide); omega
theorem no3 {n : Int32} (h : 0 ≤ n.toInt ∧ n.toInt ≤ 3) : ¬ (3 : Int32) < n := by rw [lt32]; have k : (3 : Int32).toInt = 3 := rfl; omega
theorem no4 {n : Int32} (h : 0 ≤ n.toInt ∧ n.toInt ≤ 3) : ¬ (4 : Int32) < n := by rw [lt32]; have k : (4 : Int32).toInt = 4 := rfl; omega
theorem is3 {n : Int32} (h : 0 ≤ n.toInt ∧ n.toInt ≤ 3) (h0 : ¬ n = 0) (h1 : ¬ n = 1) (h2 : ¬ n = 2) : n = 3 := by
  have k0 : (0 : Int32).toInt = 0 := rfl
  have k1 : (1 : Int32).toInt = 1 := rfl
  have k2 : (2 : Int32).toInt = 2 := rfl
  have k3 : (3 : Int32).toInt = 3 := rfl
  rw [← Int32.toInt_inj] at *; omega
theorem f56 (x : Int32) : ¬ (56319 : Int32) < x ↔ x < 56320 := by
  have k1 : (56319 : Int32).toInt = 56319 := rfl
  have k2 : (56320 : Int32).toInt = 56320 := rfl
  rw [lt32, lt32]; omega
theorem f57 (x : Int32) : ¬ (57343 : Int32) < x ↔ x < 57344 := by
  have k1 : (57343 : Int32).toInt = 57343 := rfl
  have k2 : (57344 : Int32).toInt = 57344 := rfl
  rw [lt32, lt32]; omega

theorem rmCoder0 (l : Launch) (Z : State) (a0 : Array Value) (hw : HW a0 Z) (n0 : Nat) (h0 : Heap) (O : Old Z n0 h0) (a : Addr) (F1 : Fld Z h0 a "java/lang/String" "coder" "B" (.int (0 : Int32))) (cs : Int32) (S_cs : Sta Z Z.heap "java/lang/String" "COMPACT_STRINGS" "Z" (.int cs)) (hcs : ¬ cs = 0) :
    ConW FrameEnd l Z [] (⟨"java/lang/String", "coder", "()B"⟩ : MethodName) jdk_42_method_152_code 1 (some .byte) ({ frames := 0, cells := 0, slots := 0, locals := 0 } : Room) #[(.ref a)] h0 (Pure h0 (some (.int (0 : Int32)))) := by
  refine conOf (plainFor_of_name pn_java_lang_String) ?_
  intro p e s m below mth cc s₁ X0 hx hby hml hown hnm hret hlk hZ e0
  have N0 := Fr.nil n0
  refine Fin.came (castTop (t := _) (by first | (simp [entryFrame, mkF, argsToLocals, Value.category]; done) | rfl) (Steps.refl _) : Steps p.tables e below (s₁.setTop (entryFrame m #[(.ref a)] 1)) (s₁.setTop (mkF m 0 #[vr a] []))) ?_
  obtain ⟨T11, X11, e11, st11⟩ := getS2 X0 hx hZ hown (host := "") (Or.inl (hw _ w_23)) Via.refl e0 (S_cs.ext O.2) (g := (mkF m 0 #[vr a] [])) rfl (hb hby d11_0)
  refine Fin.go st11 ?_
  show Fin _ _ _ _ _ _ _ _ T11 (mkF m 3 #[vr a] [(.int cs)])
  refine .go (fun _ k => XS.ifNo X11.here hx rfl (hb hby d11_3) rfl (XT.i0_eq_f hcs) k) ?_
  show Fin _ _ _ _ _ _ _ _ T11 (mkF m 6 #[vr a] [])
  refine .go (fun _ k => XS.aloadN X11.here hx rfl (hb hby d11_6) rfl rfl k) ?_
  obtain ⟨T12, X12, e12, st12⟩ := getF X11 hx hZ hown (host := "") (Or.inl (hw _ w_35)) Via.refl e11 F1 (g := (mkF m 7 #[vr a] [(.ref a)])) rfl rfl (hb hby d11_7)
  refine Fin.go st12 ?_
  show Fin _ _ _ _ _ _ _ _ T12 (mkF m 10 #[vr a] [(.int (0 : Int32))])
  refine .go (fun _ k => XS.goto X12.here hx rfl (pc0 := 10) (pc' := 14) rfl (hb hby d11_10) (by decide) (by decide) k) ?_
  exact Fin.leaveN X12 e12 hlk (v := some (.int (nar .byte (0 : Int32)))) (nvS hret) (by decide) (by decide) ⟨by decide +kernel, rfl, rfl⟩ (fun fs hr => retN X12 hx (t := .byte) hret (by simp) (hb hby d11_14) hr)
theorem rmIsL0 (l : Launch) (Z : State) (a0 : Array Value) (hw : HW a0 Z) (n0 : Nat) (h0 : Heap) (O : Old Z n0 h0) (a : Addr) (F1 : Fld Z h0 a "java/lang/String" "coder" "B" (.int (0 : Int32))) (cs : Int32) (S_cs : Sta Z Z.heap "java/lang/String" "COMPACT_STRINGS" "Z" (.int cs)) (hcs : ¬ cs = 0) :
    ConW FrameEnd l Z [] (⟨"java/lang/String", "isLatin1", "()Z"⟩ : MethodName) jdk_42_method_154_code 1 (some .boolean) ({ frames := 0, cells := 0, slots := 0, locals := 0 } : Room) #[(.ref a)] h0 (Pure h0 (some (.int (1 : Int32)))) := by
  refine conOf (plainFor_of_name pn_java_lang_String) ?_
  intro p e s m below mth cc s₁ X0 hx hby hml hown hnm hret hlk hZ e0
  have N0 := Fr.nil n0
  refine Fin.came (castTop (t := _) (by first | (simp [entryFrame, mkF, argsToLocals, Value.category]; done) | rfl) (Steps.refl _) : Steps p.tables e below (s₁.setTop (entryFrame m #[(.ref a)] 1)) (s₁.setTop (mkF m 0 #[vr a] []))) ?_
  obtain ⟨T11, X11, e11, st11⟩ := getS2 X0 hx hZ hown (host := "") (Or.inl (hw _ w_23)) Via.refl e0 (S_cs.ext O.2) (g := (mkF m 0 #[vr a] [])) rfl (hb hby d26_0)
  refine Fin.go st11 ?_
  show Fin _ _ _ _ _ _ _ _ T11 (mkF m 3 #[vr a] [(.int cs)])
  refine .go (fun _ k => XS.ifNo X11.here hx rfl (hb hby d26_3) rfl (XT.i0_eq_f hcs) k) ?_
  show Fin _ _ _ _ _ _ _ _ T11 (mkF m 6 #[vr a] [])
  refine .go (fun _ k => XS.aloadN X11.here hx rfl (hb hby d26_6) rfl rfl k) ?_
  obtain ⟨T12, X12, e12, st12⟩ := getF X11 hx hZ hown (host := "") (Or.inl (hw _ w_35)) Via.refl e11 F1 (g := (mkF m 7 #[vr a] [(.ref a)])) rfl rfl (hb hby d26_7)
  refine Fin.go st12 ?_
  show Fin _ _ _ _ _ _ _ _ T12 (mkF m 10 #[vr a] [(.int (0 : Int32))])
  refine .go (fun _ k => XS.ifNo X12.here hx rfl (hb hby d26_10) rfl (XT.i0_ne_f (by decide)) k) ?_
  show Fin _ _ _ _ _ _ _ _ T12 (mkF m 13 #[vr a] [])
  refine .go (fun _ k => XS.iconst X12.here hx rfl (hb hby d26_13) k) ?_
  refine .go (fun _ k => XS.goto X12.here hx rfl (pc0 := 14) (pc' := 18) rfl (hb hby d26_14) (by decide) (by decide) k) ?_
  exact Fin.leaveN X12 e12 hlk (v := some (.int (nar .boolean (1 : Int32)))) (nvS hret) (by decide) (by decide) ⟨by decide +kernel, rfl, rfl⟩ (fun fs hr => retN X12 hx (t := .boolean) hret (by simp) (hb hby d26_18) hr)
theorem rmCoder1 (l : Launch) (Z : State) (a0 : Array Value) (hw : HW a0 Z) (n0 : Nat) (h0 : Heap) (O : Old Z n0 h0) (a : Addr) (F1 : Fld Z h0 a "java/lang/String" "coder" "B" (.int (1 : Int32))) (cs : Int32) (S_cs : Sta Z Z.heap "java/lang/String" "COMPACT_STRINGS" "Z" (.int cs)) (hcs : ¬ cs = 0) :
    ConW FrameEnd l Z [] (⟨"java/lang/String", "coder", "()B"⟩ : MethodName) jdk_42_method_152_code 1 (some .byte) ({ frames := 0, cells := 0, slots := 0, locals := 0 } : Room) #[(.ref a)] h0 (Pure h0 (some (.int (1 : Int32)))) := by
  refine conOf (plainFor_of_name pn_java_lang_String) ?_
  intro p e s m below mth cc s₁ X0 hx hby hml hown hnm hret hlk hZ e0
  have N0 := Fr.nil n0
  refine Fin.came (castTop (t := _) (by first | (simp [entryFrame, mkF, argsToLocals, Value.category]; done) | rfl) (Steps.refl _) : Steps p.tables e below (s₁.setTop (entryFrame m #[(.ref a)] 1)) (s₁.setTop (mkF m 0 #[vr a] []))) ?_
  obtain ⟨T11, X11, e11, st11⟩ := getS2 X0 hx hZ hown (host := "") (Or.inl (hw _ w_23)) Via.refl e0 (S_cs.ext O.2) (g := (mkF m 0 #[vr a] [])) rfl (hb hby d11_0)
  refine Fin.go st11 ?_
  show Fin _ _ _ _ _ _ _ _ T11 (mkF m 3 #[vr a] [(.int cs)])
  refine .go (fun _ k => XS.ifNo X11.here hx rfl (hb hby d11_3) rfl (XT.i0_eq_f hcs) k) ?_
  show Fin _ _ _ _ _ _ _ _ T11 (mkF m 6 #[vr a] [])
  refine .go (fun _ k => XS.aloadN X11.here hx rfl (hb hby d11_6) rfl rfl k) ?_
  obtain ⟨T12, X12, e12, st12⟩ := getF X11 hx hZ hown (host := "") (Or.inl (hw _ w_35)) Via.refl e11 F1 (g := (mkF m 7 #[vr a] [(.ref a)])) rfl rfl (hb hby d11_7)
  refine Fin.go st12 ?_
  show Fin _ _ _ _ _ _ _ _ T12 (mkF m 10 #[vr a] [(.int (1 : Int32))])
  refine .go (fun _ k => XS.goto X12.here hx rfl (pc0 := 10) (pc' := 14) rfl (hb hby d11_10) (by decide) (by decide) k) ?_
  exact Fin.leaveN X12 e12 hlk (v := some (.int (nar .byte (1 : Int32)))) (nvS hret) (by decide) (by decide) ⟨by decide +kernel, rfl, rfl⟩ (fun fs hr => retN X12 hx (t := .byte) hret (by simp) (hb hby d11_14) hr)
theorem rmIsL1 (l : Launch) (Z : State) (a0 : Array Value) (hw : HW a0 Z) (n0 : Nat) (h0 : Heap) (O : Old Z n0 h0) (a : Addr) (F1 : Fld Z h0 a "java/lang/String" "coder" "B" (.int (1 : Int32))) (cs : Int32) (S_cs : Sta Z Z.heap "java/lang/String" "COMPACT_STRINGS" "Z" (.int cs)) (hcs : ¬ cs = 0) :
    ConW FrameEnd l Z [] (⟨"java/lang/String", "isLatin1", "()Z"⟩ : MethodName) jdk_42_method_154_code 1 (some .boolean) ({ frames := 0, cells := 0, slots := 0, locals := 0 } : Room) #[(.ref a)] h0 (Pure h0 (some (.int (0 : Int32)))) := by
  refine conOf (plainFor_of_name pn_java_lang_String) ?_
  intro p e s m below mth cc s₁ X0 hx hby hml hown hnm hret hlk hZ e0
  have N0 := Fr.nil n0
  refine Fin.came (castTop (t := _) (by first | (simp [entryFrame, mkF, argsToLocals, Value.category]; done) | rfl) (Steps.refl _) : Steps p.tables e below (s₁.setTop (entryFrame m #[(.ref a)] 1)) (s₁.setTop (mkF m 0 #[vr a] []))) ?_
  obtain ⟨T11, X11, e11, st11⟩ := getS2 X0 hx hZ hown (host := "") (Or.inl (hw _ w_23)) Via.refl e0 (S_cs.ext O.2) (g := (mkF m 0 #[vr a] [])) rfl (hb hby d26_0)
  refine Fin.go st11 ?_
  show Fin _ _ _ _ _ _ _ _ T11 (mkF m 3 #[vr a] [(.int cs)])
  refine .go (fun _ k => XS.ifNo X11.here hx rfl (hb hby d26_3) rfl (XT.i0_eq_f hcs) k) ?_
  show Fin _ _ _ _ _ _ _ _ T11 (mkF m 6 #[vr a] [])
  refine .go (fun _ k => XS.aloadN X11.here hx rfl (hb hby d26_6) rfl rfl k) ?_
  obtain ⟨T12, X12, e12, st12⟩ := getF X11 hx hZ hown (host := "") (Or.inl (hw _ w_35)) Via.refl e11 F1 (g := (mkF m 7 #[vr a] [(.ref a)])) rfl rfl (hb hby d26_7)
  refine Fin.go st12 ?_
  show Fin _ _ _ _ _ _ _ _ T12 (mkF m 10 #[vr a] [(.int (1 : Int32))])
  refine .go (fun _ k => XS.ifYes X12.here hx rfl (pc0 := 10) (pc' := 17) rfl (hb hby d26_10) rfl (XT.i0_ne_t (by decide)) (by decide) (by decide) k) ?_
  show Fin _ _ _ _ _ _ _ _ T12 (mkF m 17 #[vr a] [])
  refine .go (fun _ k => XS.iconst X12.here hx rfl (hb hby d26_17) k) ?_
  exact Fin.leaveN X12 e12 hlk (v := some (.int (nar .boolean (0 : Int32)))) (nvS hret) (by decide) (by decide) ⟨by decide +kernel, rfl, rfl⟩ (fun fs hr => retN X12 hx (t := .boolean) hret (by simp) (hb hby d26_18) hr)
theorem rmLen_z (l : Launch) (Z : State) (a0 : Array Value) (hw : HW a0 Z) (n0 : Nat) (h0 : Heap) (O : Old Z n0 h0) (a d : Addr) (kd : ClassId) (x1 x2 x3 : Int32) (A : Exa Z h0 a "java/lang/String") (F1 : Fld Z h0 a "java/lang/String" "coder" "B" (.int (0 : Int32))) (F2 : Fld Z h0 a "java/lang/String" "value" "[B" (.ref d)) (VD : Arv Z h0 d kd .byte (0 : Int32) [] (.int (0 : Int32))) (cs : Int32) (S_cs : Sta Z Z.heap "java/lang/String" "COMPACT_STRINGS" "Z" (.int cs)) (hcs : ¬ cs = 0) :
    ConW FrameEnd l Z [] (⟨"java/lang/String", "length", "()I"⟩ : MethodName) jdk_42_method_54_code 1 (some .int) ({ frames := 1, cells := 0, slots := 0, locals := 13 } : Room) #[(.ref a)] h0 (Pure h0 (some (.int (0 : Int32)))) := by
  refine conOf (plainFor_of_name pn_java_lang_String) ?_
  intro p e s m below mth cc s₁ X0 hx hby hml hown hnm hret hlk hZ e0
  have N0 := Fr.nil n0
  refine Fin.came (castTop (t := _) (by first | (simp [entryFrame, mkF, argsToLocals, Value.category]; done) | rfl) (Steps.refl _) : Steps p.tables e below (s₁.setTop (entryFrame m #[(.ref a)] 1)) (s₁.setTop (mkF m 0 #[vr a] []))) ?_
  refine .go (fun _ k => XS.aloadN X0.here hx rfl (hb hby d10_0) rfl rfl k) ?_
  obtain ⟨T11, X11, e11, st11⟩ := getF X0 hx hZ hown (host := "") (Or.inl (hw _ w_37)) Via.refl e0 F2 (g := (mkF m 1 #[vr a] [(.ref a)])) rfl rfl (hb hby d10_1)
  refine Fin.go st11 ?_
  show Fin _ _ _ _ _ _ _ _ T11 (mkF m 4 #[vr a] [(.ref d)])
  obtain ⟨cz12, B12, q12, S12, M12, H12, G12⟩ := id VD
  refine Fin.go (fun _ k => X11.arraylength hx (by rw [e11]; exact B12.1) (State.isArrayOf_alike hZ.alike B12.2.1) (g := (mkF m 4 #[vr a] [(.ref d)])) rfl rfl (hb hby d10_4) _ k) ?_
  rw [len_of S12 M12]
  show Fin _ _ _ _ _ _ _ _ T11 (mkF m 5 #[vr a] [(.int (0 : Int32))])
  refine .go (fun _ k => XS.aloadN X11.here hx rfl (hb hby d10_5) rfl rfl k) ?_
  obtain ⟨v13, T13, L13, X13, q13, st13⟩ := callVt X11 hx hZ (y := (⟨"java/lang/String", "coder", "()B"⟩ : MethodName)) hown (hw _ w_51) (hw _ w_52) (hw _ w_54) (hw _ w_53) (hw _ w_12) (hw _ w_55) (by decide) (W := 1) (rmCoder0 l Z a0 hw n0 h0 O a F1 cs S_cs hcs) e11 A (by decide) (by decide) (by decide) (by decide) (g := (mkF m 6 #[vr a] [(.ref a), (.int (0 : Int32))])) rfl (by rw [hml]; rfl) (argsL := []) (rest := [(.int (0 : Int32))]) (lenOf pd_ocB rfl) rfl (wk rfl rfl) (hb hby d10_6)
  obtain ⟨rfl, e13, rfl⟩ := q13
  have N13 := Fr.app N0 (Fr.nil n0)
  refine Fin.go st13 ?_
  show Fin _ _ _ _ _ _ _ _ T13 (mkF m 9 #[vr a] [(.int (0 : Int32)), (.int (0 : Int32))])
  refine .go (fun _ k => XT.ishr X13.here hx rfl (hb hby d10_9) rfl k) ?_
  exact Fin.leaveN X13 e13 hlk (v := some (.int ((0 : Int32) >>> ((0 : Int32) &&& 31)))) (nvS hret) (by decide) (by decide) ⟨by decide +kernel, rfl, rfl⟩ (fun fs hr => retI X13 hx hret (hb hby d10_10) hr)
theorem rmLen_l1 (l : Launch) (Z : State) (a0 : Array Value) (hw : HW a0 Z) (n0 : Nat) (h0 : Heap) (O : Old Z n0 h0) (a d : Addr) (kd : ClassId) (x1 x2 x3 : Int32) (A : Exa Z h0 a "java/lang/String") (F1 : Fld Z h0 a "java/lang/String" "coder" "B" (.int (0 : Int32))) (F2 : Fld Z h0 a "java/lang/String" "value" "[B" (.ref d)) (VD : Arv Z h0 d kd .byte (1 : Int32) [(.int ((Int32.toInt8 x1).toInt32))] (.int (0 : Int32))) (cs : Int32) (S_cs : Sta Z Z.heap "java/lang/String" "COMPACT_STRINGS" "Z" (.int cs)) (hcs : ¬ cs = 0) :
    ConW FrameEnd l Z [] (⟨"java/lang/String", "length", "()I"⟩ : MethodName) jdk_42_method_54_code 1 (some .int) ({ frames := 1, cells := 0, slots := 0, locals := 13 } : Room) #[(.ref a)] h0 (Pure h0 (some (.int (1 : Int32)))) := by
  refine conOf (plainFor_of_name pn_java_lang_String) ?_
  intro p e s m below mth cc s₁ X0 hx hby hml hown hnm hret hlk hZ e0
  have N0 := Fr.nil n0
  refine Fin.came (castTop (t := _) (by first | (simp [entryFrame, mkF, argsToLocals, Value.category]; done) | rfl) (Steps.refl _) : Steps p.tables e below (s₁.setTop (entryFrame m #[(.ref a)] 1)) (s₁.setTop (mkF m 0 #[vr a] []))) ?_
  refine .go (fun _ k => XS.aloadN X0.here hx rfl (hb hby d10_0) rfl rfl k) ?_
  obtain ⟨T11, X11, e11, st11⟩ := getF X0 hx hZ hown (host := "") (Or.inl (hw _ w_37)) Via.refl e0 F2 (g := (mkF m 1 #[vr a] [(.ref a)])) rfl rfl (hb hby d10_1)
  refine Fin.go st11 ?_
  show Fin _ _ _ _ _ _ _ _ T11 (mkF m 4 #[vr a] [(.ref d)])
  obtain ⟨cz12, B12, q12, S12, M12, H12, G12⟩ := id VD
  refine Fin.go (fun _ k => X11.arraylength hx (by rw [e11]; exact B12.1) (State.isArrayOf_alike hZ.alike B12.2.1) (g := (mkF m 4 #[vr a] [(.ref d)])) rfl rfl (hb hby d10_4) _ k) ?_
  rw [len_of S12 M12]
  show Fin _ _ _ _ _ _ _ _ T11 (mkF m 5 #[vr a] [(.int (1 : Int32))])
  refine .go (fun _ k => XS.aloadN X11.here hx rfl (hb hby d10_5) rfl rfl k) ?_
  obtain ⟨v13, T13, L13, X13, q13, st13⟩ := callVt X11 hx hZ (y := (⟨"java/lang/String", "coder", "()B"⟩ : MethodName)) hown (hw _ w_51) (hw _ w_52) (hw _ w_54) (hw _ w_53) (hw _ w_12) (hw _ w_55) (by decide) (W := 1) (rmCoder0 l Z a0 hw n0 h0 O a F1 cs S_cs hcs) e11 A (by decide) (by decide) (by decide) (by decide) (g := (mkF m 6 #[vr a] [(.ref a), (.int (1 : Int32))])) rfl (by rw [hml]; rfl) (argsL := []) (rest := [(.int (1 : Int32))]) (lenOf pd_ocB rfl) rfl (wk rfl rfl) (hb hby d10_6)
  obtain ⟨rfl, e13, rfl⟩ := q13
  have N13 := Fr.app N0 (Fr.nil n0)
  refine Fin.go st13 ?_
  show Fin _ _ _ _ _ _ _ _ T13 (mkF m 9 #[vr a] [(.int (0 : Int32)), (.int (1 : Int32))])
  refine .go (fun _ k => XT.ishr X13.here hx rfl (hb hby d10_9) rfl k) ?_
  exact Fin.leaveN X13 e13 hlk (v := some (.int ((1 : Int32) >>> ((0 : Int32) &&& 31)))) (nvS hret) (by decide) (by decide) ⟨by decide +kernel, rfl, rfl⟩ (fun fs hr => retI X13 hx hret (hb hby d10_10) hr)
theorem rmLen_l2 (l : Launch) (Z : State) (a0 : Array Value) (hw : HW a0 Z) (n0 : Nat) (h0 : Heap) (O : Old Z n0 h0) (a d : Addr) (kd : ClassId) (x1 x2 x3 : Int32) (A : Exa Z h0 a "java/lang/String") (F1 : Fld Z h0 a "java/lang/String" "coder" "B" (.int (0 : Int32))) (F2 : Fld Z h0 a "java/lang/String" "value" "[B" (.ref d)) (VD : Arv Z h0 d kd .byte (2 : Int32) [(.int ((Int32.toInt8 x1).toInt32)), (.int ((Int32.toInt8 x2).toInt32))] (.int (0 : Int32))) (cs : Int32) (S_cs : Sta Z Z.heap "java/lang/String" "COMPACT_STRINGS" "Z" (.int cs)) (hcs : ¬ cs = 0) :
    ConW FrameEnd l Z [] (⟨"java/lang/String", "length", "()I"⟩ : MethodName) jdk_42_method_54_code 1 (some .int) ({ frames := 1, cells := 0, slots := 0, locals := 13 } : Room) #[(.ref a)] h0 (Pure h0 (some (.int (2 : Int32)))) := by
  refine conOf (plainFor_of_name pn_java_lang_String) ?_
  intro p e s m below mth cc s₁ X0 hx hby hml hown hnm hret hlk hZ e0
  have N0 := Fr.nil n0
  refine Fin.came (castTop (t := _) (by first | (simp [entryFrame, mkF, argsToLocals, Value.category]; done) | rfl) (Steps.refl _) : Steps p.tables e below (s₁.setTop (entryFrame m #[(.ref a)] 1)) (s₁.setTop (mkF m 0 #[vr a] []))) ?_
  refine .go (fun _ k => XS.aloadN X0.here hx rfl (hb hby d10_0) rfl rfl k) ?_
  obtain ⟨T11, X11, e11, st11⟩ := getF X0 hx hZ hown (host := "") (Or.inl (hw _ w_37)) Via.refl e0 F2 (g := (mkF m 1 #[vr a] [(.ref a)])) rfl rfl (hb hby d10_1)
  refine Fin.go st11 ?_
  show Fin _ _ _ _ _ _ _ _ T11 (mkF m 4 #[vr a] [(.ref d)])
  obtain ⟨cz12, B12, q12, S12, M12, H12, G12⟩ := id VD
  refine Fin.go (fun _ k => X11.arraylength hx (by rw [e11]; exact B12.1) (State.isArrayOf_alike hZ.alike B12.2.1) (g := (mkF m 4 #[vr a] [(.ref d)])) rfl rfl (hb hby d10_4) _ k) ?_
  rw [len_of S12 M12]
  show Fin _ _ _ _ _ _ _ _ T11 (mkF m 5 #[vr a] [(.int (2 : Int32))])
  refine .go (fun _ k => XS.aloadN X11.here hx rfl (hb hby d10_5) rfl rfl k) ?_
  obtain ⟨v13, T13, L13, X13, q13, st13⟩ := callVt X11 hx hZ (y := (⟨"java/lang/String", "coder", "()B"⟩ : MethodName)) hown (hw _ w_51) (hw _ w_52) (hw _ w_54) (hw _ w_53) (hw _ w_12) (hw _ w_55) (by decide) (W := 1) (rmCoder0 l Z a0 hw n0 h0 O a F1 cs S_cs hcs) e11 A (by decide) (by decide) (by decide) (by decide) (g := (mkF m 6 #[vr a] [(.ref a), (.int (2 : Int32))])) rfl (by rw [hml]; rfl) (argsL := []) (rest := [(.int (2 : Int32))]) (lenOf pd_ocB rfl) rfl (wk rfl rfl) (hb hby d10_6)
  obtain ⟨rfl, e13, rfl⟩ := q13
  have N13 := Fr.app N0 (Fr.nil n0)
  refine Fin.go st13 ?_
  show Fin _ _ _ _ _ _ _ _ T13 (mkF m 9 #[vr a] [(.int (0 : Int32)), (.int (2 : Int32))])
  refine .go (fun _ k => XT.ishr X13.here hx rfl (hb hby d10_9) rfl k) ?_
  exact Fin.leaveN X13 e13 hlk (v := some (.int ((2 : Int32) >>> ((0 : Int32) &&& 31)))) (nvS hret) (by decide) (by decide) ⟨by decide +kernel, rfl, rfl⟩ (fun fs hr => retI X13 hx hret (hb hby d10_10) hr)
theorem rmLen_l3 (l : Launch) (Z : State) (a0 : Array Value) (hw : HW a0 Z) (n0 : Nat) (h0 : Heap) (O : Old Z n0 h0) (a d : Addr) (kd : ClassId) (x1 x2 x3 : Int32) (A : Exa Z h0 a "java/lang/String") (F1 : Fld Z h0 a "java/lang/String" "coder" "B" (.int (0 : Int32))) (F2 : Fld Z h0 a "java/lang/String" "value" "[B" (.ref d)) (VD : Arv Z h0 d kd .byte (3 : Int32) [(.int ((Int32.toInt8 x1).toInt32)), (.int ((Int32.toInt8 x2).toInt32)), (.int ((Int32.toInt8 x3).toInt32))] (.int (0 : Int32))) (cs : Int32) (S_cs : Sta Z Z.heap "java/lang/String" "COMPACT_STRINGS" "Z" (.int cs)) (hcs : ¬ cs = 0) :
    ConW FrameEnd l Z [] (⟨"java/lang/String", "length", "()I"⟩ : MethodName) jdk_42_method_54_code 1 (some .int) ({ frames := 1, cells := 0, slots := 0, locals := 13 } : Room) #[(.ref a)] h0 (Pure h0 (some (.int (3 : Int32)))) := by
  refine conOf (plainFor_of_name pn_java_lang_String) ?_
  intro p e s m below mth cc s₁ X0 hx hby hml hown hnm hret hlk hZ e0
  have N0 := Fr.nil n0
  refine Fin.came (castTop (t := _) (by first | (simp [entryFrame, mkF, argsToLocals, Value.category]; done) | rfl) (Steps.refl _) : Steps p.tables e below (s₁.setTop (entryFrame m #[(.ref a)] 1)) (s₁.setTop (mkF m 0 #[vr a] []))) ?_
  refine .go (fun _ k => XS.aloadN X0.here hx rfl (hb hby d10_0) rfl rfl k) ?_
  obtain ⟨T11, X11, e11, st11⟩ := getF X0 hx hZ hown (host := "") (Or.inl (hw _ w_37)) Via.refl e0 F2 (g := (mkF m 1 #[vr a] [(.ref a)])) rfl rfl (hb hby d10_1)
  refine Fin.go st11 ?_
  show Fin _ _ _ _ _ _ _ _ T11 (mkF m 4 #[vr a] [(.ref d)])
  obtain ⟨cz12, B12, q12, S12, M12, H12, G12⟩ := id VD
  refine Fin.go (fun _ k => X11.arraylength hx (by rw [e11]; exact B12.1) (State.isArrayOf_alike hZ.alike B12.2.1) (g := (mkF m 4 #[vr a] [(.ref d)])) rfl rfl (hb hby d10_4) _ k) ?_
  rw [len_of S12 M12]
  show Fin _ _ _ _ _ _ _ _ T11 (mkF m 5 #[vr a] [(.int (3 : Int32))])
  refine .go (fun _ k => XS.aloadN X11.here hx rfl (hb hby d10_5) rfl rfl k) ?_
  obtain ⟨v13, T13, L13, X13, q13, st13⟩ := callVt X11 hx hZ (y := (⟨"java/lang/String", "coder", "()B"⟩ : MethodName)) hown (hw _ w_51) (hw _ w_52) (hw _ w_54) (hw _ w_53) (hw _ w_12) (hw _ w_55) (by decide) (W := 1) (rmCoder0 l Z a0 hw n0 h0 O a F1 cs S_cs hcs) e11 A (by decide) (by decide) (by decide) (by decide) (g := (mkF m 6 #[vr a] [(.ref a), (.int (3 : Int32))])) rfl (by rw [hml]; rfl) (argsL := []) (rest := [(.int (3 : Int32))]) (lenOf pd_ocB rfl) rfl (wk rfl rfl) (hb hby d10_6)
  obtain ⟨rfl, e13, rfl⟩ := q13
  have N13 := Fr.app N0 (Fr.nil n0)
  refine Fin.go st13 ?_
  show Fin _ _ _ _ _ _ _ _ T13 (mkF m 9 #[vr a] [(.int (0 : Int32)), (.int (3 : Int32))])
  refine .go (fun _ k => XT.ishr X13.here hx rfl (hb hby d10_9) rfl k) ?_
  exact Fin.leaveN X13 e13 hlk (v := some (.int ((3 : Int32) >>> ((0 : Int32) &&& 31)))) (nvS hret) (by decide) (by decide) ⟨by decide +kernel, rfl, rfl⟩ (fun fs hr => retI X13 hx hret (hb hby d10_10) hr)
theorem rmLen_u1 (l : Launch) (Z : State) (a0 : Array Value) (hw : HW a0 Z) (n0 : Nat) (h0 : Heap) (O : Old Z n0 h0) (a d : Addr) (kd : ClassId) (x1 x2 x3 : Int32) (A : Exa Z h0 a "java/lang/String") (F1 : Fld Z h0 a "java/lang/String" "coder" "B" (.int (1 : Int32))) (F2 : Fld Z h0 a "java/lang/String" "value" "[B" (.ref d)) (VD : Arv Z h0 d kd .byte (2 : Int32) [(.int (lo8 x1)), (.int (hi8 x1))] (.int (0 : Int32))) (cs : Int32) (S_cs : Sta Z Z.heap "java/lang/String" "COMPACT_STRINGS" "Z" (.int cs)) (hcs : ¬ cs = 0) :
    ConW FrameEnd l Z [] (⟨"java/lang/String", "length", "()I"⟩ : MethodName) jdk_42_method_54_code 1 (some .int) ({ frames := 1, cells := 0, slots := 0, locals := 13 } : Room) #[(.ref a)] h0 (Pure h0 (some (.int (1 : Int32)))) := by
  refine conOf (plainFor_of_name pn_java_lang_String) ?_
  intro p e s m below mth cc s₁ X0 hx hby hml hown hnm hret hlk hZ e0
  have N0 := Fr.nil n0
  refine Fin.came (castTop (t := _) (by first | (simp [entryFrame, mkF, argsToLocals, Value.category]; done) | rfl) (Steps.refl _) : Steps p.tables e below (s₁.setTop (entryFrame m #[(.ref a)] 1)) (s₁.setTop (mkF m 0 #[vr a] []))) ?_
  refine .go (fun _ k => XS.aloadN X0.here hx rfl (hb hby d10_0) rfl rfl k) ?_
  obtain ⟨T11, X11, e11, st11⟩ := getF X0 hx hZ hown (host := "") (Or.inl (hw _ w_37)) Via.refl e0 F2 (g := (mkF m 1 #[vr a] [(.ref a)])) rfl rfl (hb hby d10_1)
  refine Fin.go st11 ?_
  show Fin _ _ _ _ _ _ _ _ T11 (mkF m 4 #[vr a] [(.ref d)])
  obtain ⟨cz12, B12, q12, S12, M12, H12, G12⟩ := id VD
  refine Fin.go (fun _ k => X11.arraylength hx (by rw [e11]; exact B12.1) (State.isArrayOf_alike hZ.alike B12.2.1) (g := (mkF m 4 #[vr a] [(.ref d)])) rfl rfl (hb hby d10_4) _ k) ?_
  rw [len_of S12 M12]
  show Fin _ _ _ _ _ _ _ _ T11 (mkF m 5 #[vr a] [(.int (2 : Int32))])
  refine .go (fun _ k => XS.aloadN X11.here hx rfl (hb hby d10_5) rfl rfl k) ?_
  obtain ⟨v13, T13, L13, X13, q13, st13⟩ := callVt X11 hx hZ (y := (⟨"java/lang/String", "coder", "()B"⟩ : MethodName)) hown (hw _ w_51) (hw _ w_52) (hw _ w_54) (hw _ w_53) (hw _ w_12) (hw _ w_55) (by decide) (W := 1) (rmCoder1 l Z a0 hw n0 h0 O a F1 cs S_cs hcs) e11 A (by decide) (by decide) (by decide) (by decide) (g := (mkF m 6 #[vr a] [(.ref a), (.int (2 : Int32))])) rfl (by rw [hml]; rfl) (argsL := []) (rest := [(.int (2 : Int32))]) (lenOf pd_ocB rfl) rfl (wk rfl rfl) (hb hby d10_6)
  obtain ⟨rfl, e13, rfl⟩ := q13
  have N13 := Fr.app N0 (Fr.nil n0)
  refine Fin.go st13 ?_
  show Fin _ _ _ _ _ _ _ _ T13 (mkF m 9 #[vr a] [(.int (1 : Int32)), (.int (2 : Int32))])
  refine .go (fun _ k => XT.ishr X13.here hx rfl (hb hby d10_9) rfl k) ?_
  exact Fin.leaveN X13 e13 hlk (v := some (.int ((2 : Int32) >>> ((1 : Int32) &&& 31)))) (nvS hret) (by decide) (by decide) ⟨by decide +kernel, rfl, rfl⟩ (fun fs hr => retI X13 hx hret (hb hby d10_10) hr)
theorem rmLen_u2 (l : Launch) (Z : State) (a0 : Array Value) (hw : HW a0 Z) (n0 : Nat) (h0 : Heap) (O : Old Z n0 h0) (a d : Addr) (kd : ClassId) (x1 x2 x3 : Int32) (A : Exa Z h0 a "java/lang/String") (F1 : Fld Z h0 a "java/lang/String" "coder" "B" (.int (1 : Int32))) (F2 : Fld Z h0 a "java/lang/String" "value" "[B" (.ref d)) (VD : Arv Z h0 d kd .byte (4 : Int32) [(.int (lo8 x1)), (.int (hi8 x1)), (.int (lo8 x2)), (.int (hi8 x2))] (.int (0 : Int32))) (cs : Int32) (S_cs : Sta Z Z.heap "java/lang/String" "COMPACT_STRINGS" "Z" (.int cs)) (hcs : ¬ cs = 0) :
    ConW FrameEnd l Z [] (⟨"java/lang/String", "length", "()I"⟩ : MethodName) jdk_42_method_54_code 1 (some .int) ({ frames := 1, cells := 0, slots := 0, locals := 13 } : Room) #[(.ref a)] h0 (Pure h0 (some (.int (2 : Int32)))) := by
  refine conOf (plainFor_of_name pn_java_lang_String) ?_
  intro p e s m below mth cc s₁ X0 hx hby hml hown hnm hret hlk hZ e0
  have N0 := Fr.nil n0
  refine Fin.came (castTop (t := _) (by first | (simp [entryFrame, mkF, argsToLocals, Value.category]; done) | rfl) (Steps.refl _) : Steps p.tables e below (s₁.setTop (entryFrame m #[(.ref a)] 1)) (s₁.setTop (mkF m 0 #[vr a] []))) ?_
  refine .go (fun _ k => XS.aloadN X0.here hx rfl (hb hby d10_0) rfl rfl k) ?_
  obtain ⟨T11, X11, e11, st11⟩ := getF X0 hx hZ hown (host := "") (Or.inl (hw _ w_37)) Via.refl e0 F2 (g := (mkF m 1 #[vr a] [(.ref a)])) rfl rfl (hb hby d10_1)
  refine Fin.go st11 ?_
  show Fin _ _ _ _ _ _ _ _ T11 (mkF m 4 #[vr a] [(.ref d)])
  obtain ⟨cz12, B12, q12, S12, M12, H12, G12⟩ := id VD
  refine Fin.go (fun _ k => X11.arraylength hx (by rw [e11]; exact B12.1) (State.isArrayOf_alike hZ.alike B12.2.1) (g := (mkF m 4 #[vr a] [(.ref d)])) rfl rfl (hb hby d10_4) _ k) ?_
  rw [len_of S12 M12]
  show Fin _ _ _ _ _ _ _ _ T11 (mkF m 5 #[vr a] [(.int (4 : Int32))])
  refine .go (fun _ k => XS.aloadN X11.here hx rfl (hb hby d10_5) rfl rfl k) ?_
  obtain ⟨v13, T13, L13, X13, q13, st13⟩ := callVt X11 hx hZ (y := (⟨"java/lang/String", "coder", "()B"⟩ : MethodName)) hown (hw _ w_51) (hw _ w_52) (hw _ w_54) (hw _ w_53) (hw _ w_12) (hw _ w_55) (by decide) (W := 1) (rmCoder1 l Z a0 hw n0 h0 O a F1 cs S_cs hcs) e11 A (by decide) (by decide) (by decide) (by decide) (g := (mkF m 6 #[vr a] [(.ref a), (.int (4 : Int32))])) rfl (by rw [hml]; rfl) (argsL := []) (rest := [(.int (4 : Int32))]) (lenOf pd_ocB rfl) rfl (wk rfl rfl) (hb hby d10_6)
  obtain ⟨rfl, e13, rfl⟩ := q13
  have N13 := Fr.app N0 (Fr.nil n0)
  refine Fin.go st13 ?_
  show Fin _ _ _ _ _ _ _ _ T13 (mkF m 9 #[vr a] [(.int (1 : Int32)), (.int (4 : Int32))])
  refine .go (fun _ k => XT.ishr X13.here hx rfl (hb hby d10_9) rfl k) ?_
  exact Fin.leaveN X13 e13 hlk (v := some (.int ((4 : Int32) >>> ((1 : Int32) &&& 31)))) (nvS hret) (by decide) (by decide) ⟨by decide +kernel, rfl, rfl⟩ (fun fs hr => retI X13 hx hret (hb hby d10_10) hr)
theorem rmLen_u3 (l : Launch) (Z : State) (a0 : Array Value) (hw : HW a0 Z) (n0 : Nat) (h0 : Heap) (O : Old Z n0 h0) (a d : Addr) (kd : ClassId) (x1 x2 x3 : Int32) (A : Exa Z h0 a "java/lang/String") (F1 : Fld Z h0 a "java/lang/String" "coder" "B" (.int (1 : Int32))) (F2 : Fld Z h0 a "java/lang/String" "value" "[B" (.ref d)) (VD : Arv Z h0 d kd .byte (6 : Int32) [(.int (lo8 x1)), (.int (hi8 x1)), (.int (lo8 x2)), (.int (hi8 x2)), (.int (lo8 x3)), (.int (hi8 x3))] (.int (0 : Int32))) (cs : Int32) (S_cs : Sta Z Z.heap "java/lang/String" "COMPACT_STRINGS" "Z" (.int cs)) (hcs : ¬ cs = 0) :
    ConW FrameEnd l Z [] (⟨"java/lang/String", "length", "()I"⟩ : MethodName) jdk_42_method_54_code 1 (some .int) ({ frames := 1, cells := 0, slots := 0, locals := 13 } : Room) #[(.ref a)] h0 (Pure h0 (some (.int (3 : Int32)))) := by
  refine conOf (plainFor_of_name pn_java_lang_String) ?_
  intro p e s m below mth cc s₁ X0 hx hby hml hown hnm hret hlk hZ e0
  have N0 := Fr.nil n0
  refine Fin.came (castTop (t := _) (by first | (simp [entryFrame, mkF, argsToLocals, Value.category]; done) | rfl) (Steps.refl _) : Steps p.tables e below (s₁.setTop (entryFrame m #[(.ref a)] 1)) (s₁.setTop (mkF m 0 #[vr a] []))) ?_
  refine .go (fun _ k => XS.aloadN X0.here hx rfl (hb hby d10_0) rfl rfl k) ?_
  obtain ⟨T11, X11, e11, st11⟩ := getF X0 hx hZ hown (host := "") (Or.inl (hw _ w_37)) Via.refl e0 F2 (g := (mkF m 1 #[vr a] [(.ref a)])) rfl rfl (hb hby d10_1)
  refine Fin.go st11 ?_
  show Fin _ _ _ _ _ _ _ _ T11 (mkF m 4 #[vr a] [(.ref d)])
  obtain ⟨cz12, B12, q12, S12, M12, H12, G12⟩ := id VD
  refine Fin.go (fun _ k => X11.arraylength hx (by rw [e11]; exact B12.1) (State.isArrayOf_alike hZ.alike B12.2.1) (g := (mkF m 4 #[vr a] [(.ref d)])) rfl rfl (hb hby d10_4) _ k) ?_
  rw [len_of S12 M12]
  show Fin _ _ _ _ _ _ _ _ T11 (mkF m 5 #[vr a] [(.int (6 : Int32))])
  refine .go (fun _ k => XS.aloadN X11.here hx rfl (hb hby d10_5) rfl rfl k) ?_
  obtain ⟨v13, T13, L13, X13, q13, st13⟩ := callVt X11 hx hZ (y := (⟨"java/lang/String", "coder", "()B"⟩ : MethodName)) hown (hw _ w_51) (hw _ w_52) (hw _ w_54) (hw _ w_53) (hw _ w_12) (hw _ w_55) (by decide) (W := 1) (rmCoder1 l Z a0 hw n0 h0 O a F1 cs S_cs hcs) e11 A (by decide) (by decide) (by decide) (by decide) (g := (mkF m 6 #[vr a] [(.ref a), (.int (6 : Int32))])) rfl (by rw [hml]; rfl) (argsL := []) (rest := [(.int (6 : Int32))]) (lenOf pd_ocB rfl) rfl (wk rfl rfl) (hb hby d10_6)
  obtain ⟨rfl, e13, rfl⟩ := q13
  have N13 := Fr.app N0 (Fr.nil n0)
  refine Fin.go st13 ?_
  show Fin _ _ _ _ _ _ _ _ T13 (mkF m 9 #[vr a] [(.int (1 : Int32)), (.int (6 : Int32))])
  refine .go (fun _ k => XT.ishr X13.here hx rfl (hb hby d10_9) rfl k) ?_
  exact Fin.leaveN X13 e13 hlk (v := some (.int ((6 : Int32) >>> ((1 : Int32) &&& 31)))) (nvS hret) (by decide) (by decide) ⟨by decide +kernel, rfl, rfl⟩ (fun fs hr => retI X13 hx hret (hb hby d10_10) hr)
theorem rmLen (l : Launch) (Z : State) (a0 : Array Value) (hw : HW a0 Z) (n0 : Nat) (h0 : Heap) (O : Old Z n0 h0) (a : Addr) (n x1 x2 x3 : Int32) (B : Nat) (F : TS Z h0 a n x1 x2 x3 B) (cs : Int32) (S_cs : Sta Z Z.heap "java/lang/String" "COMPACT_STRINGS" "Z" (.int cs)) (hcs : ¬ cs = 0) : Con FrameEnd l Z (⟨"java/lang/String", "length", "()I"⟩ : MethodName) jdk_42_method_54_code 1 (some .int) ({ frames := 1, cells := 0, slots := 0, locals := 13 } : Room) #[(.ref a)] h0 (Pure h0 (some (.int n))) := by
  obtain ⟨-, -, A, co, d, kd, z, bs, -, F1, F2, VD, hE⟩ := F
  rcases hE with ⟨rfl, rfl, rfl, rfl⟩ | ⟨rfl, rfl, rfl, rfl, hp1⟩ | ⟨rfl, rfl, rfl, rfl, hp1, hp2⟩ | ⟨rfl, rfl, rfl, rfl, hp1, hp2, hp3⟩ | ⟨rfl, rfl, rfl, rfl⟩ | ⟨rfl, rfl, rfl, rfl⟩ | ⟨rfl, rfl, rfl, rfl⟩
  · exact rmLen_z l Z a0 hw n0 h0 O a d kd x1 x2 x3 A F1 F2 VD cs S_cs hcs
  · exact rmLen_l1 l Z a0 hw n0 h0 O a d kd x1 x2 x3 A F1 F2 VD cs S_cs hcs
  · exact rmLen_l2 l Z a0 hw n0 h0 O a d kd x1 x2 x3 A F1 F2 VD cs S_cs hcs
  · exact rmLen_l3 l Z a0 hw n0 h0 O a d kd x1 x2 x3 A F1 F2 VD cs S_cs hcs
  · exact rmLen_u1 l Z a0 hw n0 h0 O a d kd x1 x2 x3 A F1 F2 VD cs S_cs hcs
  · exact rmLen_u2 l Z a0 hw n0 h0 O a d kd x1 x2 x3 A F1 F2 VD cs S_cs hcs
  · exact rmLen_u3 l Z a0 hw n0 h0 O a d kd x1 x2 x3 A F1 F2 VD cs S_cs hcs
theorem rmPCI (l : Launch) (Z : State) (a0 : Array Value) (hw : HW a0 Z) (n0 : Nat) (h0 : Heap) (O : Old Z n0 h0) (i n : Int32) (hi0 : ¬ i < 0) (hin : i < n) (fm : Value) (hfm : fm.isRef = true) :
    ConW FrameEnd l Z [] (⟨"jdk/internal/util/Preconditions", "checkIndex", "(IILjava/util/function/BiFunction;)I"⟩ : MethodName) jdk_41_method_11_code 3 (some .int) ({ frames := 0, cells := 0, slots := 0, locals := 0 } : Room) #[(.int i), (.int n), fm] h0 (Pure h0 (some (.int i))) := by
  refine conOf (plainFor_of_name pn_jdk_internal_util_Preconditions) ?_
  intro p e s m below mth cc s₁ X0 hx hby hml hown hnm hret hlk hZ e0
  have N0 := Fr.nil n0
  refine Fin.came (castTop (t := _) (by rcases ref_cases hfm with rfl | ⟨_, rfl⟩ <;> rfl) (Steps.refl _) : Steps p.tables e below (s₁.setTop (entryFrame m #[(.int i), (.int n), fm] 3)) (s₁.setTop (mkF m 0 #[vi i, vi n, .val fm] []))) ?_
  refine .go (fun _ k => XS.iloadN X0.here hx rfl (hb hby d28_0) rfl k) ?_
  refine .go (fun _ k => XS.ifNo X0.here hx rfl (hb hby d28_1) rfl (XT.i0_lt_f hi0) k) ?_
  show Fin _ _ _ _ _ _ _ _ s₁ (mkF m 4 #[vi i, vi n, .val fm] [])
  refine .go (fun _ k => XS.iloadN X0.here hx rfl (hb hby d28_4) rfl k) ?_
  refine .go (fun _ k => XS.iloadN X0.here hx rfl (hb hby d28_5) rfl k) ?_
  refine .go (fun _ k => XS.icmpYes X0.here hx rfl (pc0 := 6) (pc' := 16) rfl (hb hby d28_6) rfl (XT.ii_lt_t hin) (by decide) (by decide) k) ?_
  show Fin _ _ _ _ _ _ _ _ s₁ (mkF m 16 #[vi i, vi n, .val fm] [])
  refine .go (fun _ k => XS.iloadN X0.here hx rfl (hb hby d28_16) rfl k) ?_
  exact Fin.leaveN X0 e0 hlk (v := some (.int i)) (nvS hret) (by decide) (by decide) ⟨rfl, rfl, rfl⟩ (fun fs hr => retI X0 hx hret (hb hby d28_17) hr)
theorem rmSCI (l : Launch) (Z : State) (a0 : Array Value) (hw : HW a0 Z) (n0 : Nat) (h0 : Heap) (O : Old Z n0 h0) (i n : Int32) (hi0 : ¬ i < 0) (hin : i < n) (fm : Value) (hfm : fm.isRef = true) (S_fm : SFm Z fm) :
    ConW FrameEnd l Z [] (⟨"java/lang/String", "checkIndex", "(II)V"⟩ : MethodName) jdk_42_method_155_code 2 none ({ frames := 1, cells := 0, slots := 0, locals := 14 } : Room) #[(.int i), (.int n)] h0 (Pure h0 none) := by
  refine conOf (plainFor_of_name pn_java_lang_String) ?_
  intro p e s m below mth cc s₁ X0 hx hby hml hown hnm hret hlk hZ e0
  have N0 := Fr.nil n0
  refine Fin.came (castTop (t := _) (by first | (simp [entryFrame, mkF, argsToLocals, Value.category]; done) | rfl) (Steps.refl _) : Steps p.tables e below (s₁.setTop (entryFrame m #[(.int i), (.int n)] 2)) (s₁.setTop (mkF m 0 #[vi i, vi n] []))) ?_
  refine .go (fun _ k => XS.iloadN X0.here hx rfl (hb hby d27_0) rfl k) ?_
  refine .go (fun _ k => XS.iloadN X0.here hx rfl (hb hby d27_1) rfl k) ?_
  obtain ⟨T11, X11, e11, st11⟩ := getS2 X0 hx hZ hown (host := "") (Or.inl (hw _ w_114)) Via.refl e0 (S_fm.ext O.2) (g := (mkF m 2 #[vi i, vi n] [(.int n), (.int i)])) rfl (hb hby d27_2)
  refine Fin.go st11 ?_
  show Fin _ _ _ _ _ _ _ _ T11 (mkF m 5 #[vi i, vi n] [fm, (.int n), (.int i)])
  obtain ⟨v12, T12, L12, X12, q12, st12⟩ := callSt X11 hx hZ hown (hw _ w_116) (hw _ w_117) (hw _ w_115) (hw _ w_118) (by decide) (W := 0) (rmPCI l Z a0 hw n0 h0 O i n hi0 hin fm hfm) e11 (by decide) (by decide) (by decide) (by decide) (g := (mkF m 5 #[vi i, vi n] [fm, (.int n), (.int i)])) rfl (by rw [hml]; rfl) (argsL := [(.int i), (.int n), fm]) (rest := []) (lenOf pd_oIILjava_util_function_BiFunction_cI rfl) rfl (wk rfl rfl) (hb hby d27_5)
  obtain ⟨rfl, e12, rfl⟩ := q12
  have N12 := Fr.app N0 (Fr.nil n0)
  refine Fin.go st12 ?_
  show Fin _ _ _ _ _ _ _ _ T12 (mkF m 8 #[vi i, vi n] [(.int i)])
  refine .go (fun _ k => XT.pop X12.here hx rfl (hb hby d27_8) rfl rfl k) ?_
  exact Fin.leaveN X12 e12 hlk (v := none) (fun _ => rfl) (by decide) (by decide) ⟨rfl, rfl, rfl⟩ (fun fs hr => X12.returnOut hx hret (hb hby d27_9) hr)
theorem rmHS (l : Launch) (Z : State) (a0 : Array Value) (hw : HW a0 Z) (n0 : Nat) (h0 : Heap) (O : Old Z n0 h0) (x : Int32) :
    ConW FrameEnd l Z [] (⟨"java/lang/Character", "isHighSurrogate", "(C)Z"⟩ : MethodName) jdk_89_method_14_code 1 (some .boolean) ({ frames := 0, cells := 0, slots := 0, locals := 0 } : Room) #[(.int x)] h0 (Pure h0 (some (.int (hs x)))) := by
  refine conOf (plainFor_of_name pn_java_lang_Character) ?_
  intro p e s m below mth cc s₁ X0 hx hby hml hown hnm hret hlk hZ e0
  have N0 := Fr.nil n0
  refine Fin.came (castTop (t := _) (by first | (simp [entryFrame, mkF, argsToLocals, Value.category]; done) | rfl) (Steps.refl _) : Steps p.tables e below (s₁.setTop (entryFrame m #[(.int x)] 1)) (s₁.setTop (mkF m 0 #[vi x] []))) ?_
  refine .go (fun _ k => XS.iloadN X0.here hx rfl (hb hby d31_0) rfl k) ?_
  refine .go (fun _ k => X0.ldcI hx hown (mvT hZ (hw _ w_129)) rfl (hb hby d31_1) k) ?_
  by_cases c3 : x < (55296 : Int32)
  · refine .go (fun _ k => XS.icmpYes X0.here hx rfl (pc0 := 3) (pc' := 16) rfl (hb hby d31_3) rfl (XT.ii_lt_t c3) (by decide) (by decide) k) ?_
    show Fin _ _ _ _ _ _ _ _ s₁ (mkF m 16 #[vi x] [])
    refine .go (fun _ k => XS.iconst X0.here hx rfl (hb hby d31_16) k) ?_
    exact Fin.leaveN X0 e0 hlk (v := some (.int (nar .boolean (0 : Int32)))) (nvS hret) (by decide) (by decide) ⟨by simp [hs, nar, c3], rfl, rfl⟩ (fun fs hr => retN X0 hx (t := .boolean) hret (by simp) (hb hby d31_17) hr)
  · refine .go (fun _ k => XS.icmpNo X0.here hx rfl (hb hby d31_3) rfl (XT.ii_lt_f c3) k) ?_
    show Fin _ _ _ _ _ _ _ _ s₁ (mkF m 6 #[vi x] [])
    refine .go (fun _ k => XS.iloadN X0.here hx rfl (hb hby d31_6) rfl k) ?_
    refine .go (fun _ k => X0.ldcI hx hown (mvT hZ (hw _ w_130)) rfl (hb hby d31_7) k) ?_
    by_cases c9 : x < (56320 : Int32)
    · refine .go (fun _ k => XS.icmpNo X0.here hx rfl (hb hby d31_9) rfl (XT.ii_ge_f c9) k) ?_
      show Fin _ _ _ _ _ _ _ _ s₁ (mkF m 12 #[vi x] [])
      refine .go (fun _ k => XS.iconst X0.here hx rfl (hb hby d31_12) k) ?_
      refine .go (fun _ k => XS.goto X0.here hx rfl (pc0 := 13) (pc' := 17) rfl (hb hby d31_13) (by decide) (by decide) k) ?_
      exact Fin.leaveN X0 e0 hlk (v := some (.int (nar .boolean (1 : Int32)))) (nvS hret) (by decide) (by decide) ⟨by simp [hs, nar, c3, c9], rfl, rfl⟩ (fun fs hr => retN X0 hx (t := .boolean) hret (by simp) (hb hby d31_17) hr)
    · refine .go (fun _ k => XS.icmpYes X0.here hx rfl (pc0 := 9) (pc' := 16) rfl (hb hby d31_9) rfl (XT.ii_ge_t c9) (by decide) (by decide) k) ?_
      show Fin _ _ _ _ _ _ _ _ s₁ (mkF m 16 #[vi x] [])
      refine .go (fun _ k => XS.iconst X0.here hx rfl (hb hby d31_16) k) ?_
      exact Fin.leaveN X0 e0 hlk (v := some (.int (nar .boolean (0 : Int32)))) (nvS hret) (by decide) (by decide) ⟨by simp [hs, nar, c3, c9], rfl, rfl⟩ (fun fs hr => retN X0 hx (t := .boolean) hret (by simp) (hb hby d31_17) hr)
theorem rmLS (l : Launch) (Z : State) (a0 : Array Value) (hw : HW a0 Z) (n0 : Nat) (h0 : Heap) (O : Old Z n0 h0) (x : Int32) :
    ConW FrameEnd l Z [] (⟨"java/lang/Character", "isLowSurrogate", "(C)Z"⟩ : MethodName) jdk_89_method_15_code 1 (some .boolean) ({ frames := 0, cells := 0, slots := 0, locals := 0 } : Room) #[(.int x)] h0 (Pure h0 (some (.int (lsu x)))) := by
  refine conOf (plainFor_of_name pn_java_lang_Character) ?_
  intro p e s m below mth cc s₁ X0 hx hby hml hown hnm hret hlk hZ e0
  have N0 := Fr.nil n0
  refine Fin.came (castTop (t := _) (by first | (simp [entryFrame, mkF, argsToLocals, Value.category]; done) | rfl) (Steps.refl _) : Steps p.tables e below (s₁.setTop (entryFrame m #[(.int x)] 1)) (s₁.setTop (mkF m 0 #[vi x] []))) ?_
  refine .go (fun _ k => XS.iloadN X0.here hx rfl (hb hby d32_0) rfl k) ?_
  refine .go (fun _ k => X0.ldcI hx hown (mvT hZ (hw _ w_130)) rfl (hb hby d32_1) k) ?_
  by_cases c3 : x < (56320 : Int32)
  · refine .go (fun _ k => XS.icmpYes X0.here hx rfl (pc0 := 3) (pc' := 16) rfl (hb hby d32_3) rfl (XT.ii_lt_t c3) (by decide) (by decide) k) ?_
    show Fin _ _ _ _ _ _ _ _ s₁ (mkF m 16 #[vi x] [])
    refine .go (fun _ k => XS.iconst X0.here hx rfl (hb hby d32_16) k) ?_
    exact Fin.leaveN X0 e0 hlk (v := some (.int (nar .boolean (0 : Int32)))) (nvS hret) (by decide) (by decide) ⟨by simp [lsu, nar, c3], rfl, rfl⟩ (fun fs hr => retN X0 hx (t := .boolean) hret (by simp) (hb hby d32_17) hr)
  · refine .go (fun _ k => XS.icmpNo X0.here hx rfl (hb hby d32_3) rfl (XT.ii_lt_f c3) k) ?_
    show Fin _ _ _ _ _ _ _ _ s₁ (mkF m 6 #[vi x] [])
    refine .go (fun _ k => XS.iloadN X0.here hx rfl (hb hby d32_6) rfl k) ?_
    refine .go (fun _ k => X0.ldcI hx hown (mvT hZ (hw _ w_138)) rfl (hb hby d32_7) k) ?_
    by_cases c9 : x < (57344 : Int32)
    · refine .go (fun _ k => XS.icmpNo X0.here hx rfl (hb hby d32_9) rfl (XT.ii_ge_f c9) k) ?_
      show Fin _ _ _ _ _ _ _ _ s₁ (mkF m 12 #[vi x] [])
      refine .go (fun _ k => XS.iconst X0.here hx rfl (hb hby d32_12) k) ?_
      refine .go (fun _ k => XS.goto X0.here hx rfl (pc0 := 13) (pc' := 17) rfl (hb hby d32_13) (by decide) (by decide) k) ?_
      exact Fin.leaveN X0 e0 hlk (v := some (.int (nar .boolean (1 : Int32)))) (nvS hret) (by decide) (by decide) ⟨by simp [lsu, nar, c3, c9], rfl, rfl⟩ (fun fs hr => retN X0 hx (t := .boolean) hret (by simp) (hb hby d32_17) hr)
    · refine .go (fun _ k => XS.icmpYes X0.here hx rfl (pc0 := 9) (pc' := 16) rfl (hb hby d32_9) rfl (XT.ii_ge_t c9) (by decide) (by decide) k) ?_
      show Fin _ _ _ _ _ _ _ _ s₁ (mkF m 16 #[vi x] [])
      refine .go (fun _ k => XS.iconst X0.here hx rfl (hb hby d32_16) k) ?_
      exact Fin.leaveN X0 e0 hlk (v := some (.int (nar .boolean (0 : Int32)))) (nvS hret) (by decide) (by decide) ⟨by simp [lsu, nar, c3, c9], rfl, rfl⟩ (fun fs hr => retN X0 hx (t := .boolean) hret (by simp) (hb hby d32_17) hr)
theorem rmTCP (l : Launch) (Z : State) (a0 : Array Value) (hw : HW a0 Z) (n0 : Nat) (h0 : Heap) (O : Old Z n0 h0) (x y : Int32) :
    ConW FrameEnd l Z [] (⟨"java/lang/Character", "toCodePoint", "(CC)I"⟩ : MethodName) jdk_89_method_19_code 2 (some .int) ({ frames := 0, cells := 0, slots := 0, locals := 0 } : Room) #[(.int x), (.int y)] h0 (Pure h0 (some (.int (((x <<< ((10 : Int32) &&& 31)) + y) + (-56613888 : Int32))))) := by
  refine conOf (plainFor_of_name pn_java_lang_Character) ?_
  intro p e s m below mth cc s₁ X0 hx hby hml hown hnm hret hlk hZ e0
  have N0 := Fr.nil n0
  refine Fin.came (castTop (t := _) (by first | (simp [entryFrame, mkF, argsToLocals, Value.category]; done) | rfl) (Steps.refl _) : Steps p.tables e below (s₁.setTop (entryFrame m #[(.int x), (.int y)] 2)) (s₁.setTop (mkF m 0 #[vi x, vi y] []))) ?_
  refine .go (fun _ k => XS.iloadN X0.here hx rfl (hb hby d35_0) rfl k) ?_
  refine .go (fun _ k => XS.bipush X0.here hx rfl (hb hby d35_1) k) ?_
  refine .go (fun _ k => XT.ishl X0.here hx rfl (hb hby d35_3) rfl k) ?_
  refine .go (fun _ k => XS.iloadN X0.here hx rfl (hb hby d35_4) rfl k) ?_
  refine .go (fun _ k => XS.iadd X0.here hx rfl (hb hby d35_5) rfl k) ?_
  refine .go (fun _ k => X0.ldcI hx hown (mvT hZ (hw _ w_148)) rfl (hb hby d35_6) k) ?_
  refine .go (fun _ k => XS.iadd X0.here hx rfl (hb hby d35_8) rfl k) ?_
  exact Fin.leaveN X0 e0 hlk (v := some (.int (((x <<< ((10 : Int32) &&& 31)) + y) + (-56613888 : Int32)))) (nvS hret) (by decide) (by decide) ⟨rfl, rfl, rfl⟩ (fun fs hr => retI X0 hx hret (hb hby d35_9) hr)
theorem rmC4_3_0 (l : Launch) (Z : State) (a0 : Array Value) (hw : HW a0 Z) (n0 : Nat) (h0 : Heap) (O : Old Z n0 h0) (d : Addr) (kd : ClassId) (x1 x2 x3 : Int32) (hc1 : ChI x1) (hc2 : ChI x2) (hc3 : ChI x3) (VD : Arv Z h0 d kd .byte (6 : Int32) [(.int (lo8 x1)), (.int (hi8 x1)), (.int (lo8 x2)), (.int (hi8 x2)), (.int (lo8 x3)), (.int (hi8 x3))] (.int (0 : Int32))) (S_as : SAs Z) (S_hb : SHb Z) (S_lb : SLb Z) :
    ConW FrameEnd l Z [] (⟨"java/lang/StringUTF16", "codePointAt", "([BIIZ)I"⟩ : MethodName) jdk_52_method_7_code 6 (some .int) ({ frames := 1, cells := 0, slots := 0, locals := 13 } : Room) #[(.ref d), (.int (0 : Int32)), (.int (3 : Int32)), (.int (0 : Int32))] h0 (Pure h0 (some (.int (cpN (1 : Int32) (3 : Int32) x1 x2)))) := by
  refine conOf (plainFor_of_name pn_java_lang_StringUTF16) ?_
  intro p e s m below mth cc s₁ X0 hx hby hml hown hnm hret hlk hZ e0
  have N0 := Fr.nil n0
  refine Fin.came (castTop (t := _) (by first | (simp [entryFrame, mkF, argsToLocals, Value.category]; done) | rfl) (Steps.refl _) : Steps p.tables e below (s₁.setTop (entryFrame m #[(.ref d), (.int (0 : Int32)), (.int (3 : Int32)), (.int (0 : Int32))] 6)) (s₁.setTop (mkF m 0 #[vr d, vi (0 : Int32), vi (3 : Int32), vi (0 : Int32), .unset, .unset] []))) ?_
  obtain ⟨T11, X11, e11, st11⟩ := getS2 X0 hx hZ hown (host := "") (Or.inl (hw _ w_95)) Via.refl e0 (S_as.ext O.2) (g := (mkF m 0 #[vr d, vi (0 : Int32), vi (3 : Int32), vi (0 : Int32), .unset, .unset] [])) rfl (hb hby d30_0)
  refine Fin.go st11 ?_
  show Fin _ _ _ _ _ _ _ _ T11 (mkF m 3 #[vr d, vi (0 : Int32), vi (3 : Int32), vi (0 : Int32), .unset, .unset] [(.int (1 : Int32))])
  refine .go (fun _ k => XS.ifYes X11.here hx rfl (pc0 := 3) (pc' := 19) rfl (hb hby d30_3) rfl (XT.i0_ne_t (by decide)) (by decide) (by decide) k) ?_
  show Fin _ _ _ _ _ _ _ _ T11 (mkF m 19 #[vr d, vi (0 : Int32), vi (3 : Int32), vi (0 : Int32), .unset, .unset] [])
  refine .go (fun _ k => XS.iloadN X11.here hx rfl (hb hby d30_19) rfl k) ?_
  refine .go (fun _ k => XS.ifYes X11.here hx rfl (pc0 := 20) (pc' := 28) rfl (hb hby d30_20) rfl (XT.i0_eq_t (by decide)) (by decide) (by decide) k) ?_
  show Fin _ _ _ _ _ _ _ _ T11 (mkF m 28 #[vr d, vi (0 : Int32), vi (3 : Int32), vi (0 : Int32), .unset, .unset] [])
  refine .go (fun _ k => XS.aloadN X11.here hx rfl (hb hby d30_28) rfl rfl k) ?_
  refine .go (fun _ k => XS.iloadN X11.here hx rfl (hb hby d30_29) rfl k) ?_
  obtain ⟨v12, T12, L12, X12, q12, st12⟩ := callSt X11 hx hZ hown (hw _ w_98) (hw _ w_99) (hw _ w_26) (hw _ w_100) (by decide) (W := 0) (rmGet3_0 l Z a0 hw n0 h0 O d kd x1 x2 x3 hc1 VD S_as S_hb S_lb) e11 (by decide) (by decide) (by decide) (by decide) (g := (mkF m 30 #[vr d, vi (0 : Int32), vi (3 : Int32), vi (0 : Int32), .unset, .unset] [(.int (0 : Int32)), (.ref d)])) rfl (by rw [hml]; rfl) (argsL := [(.ref d), (.int (0 : Int32))]) (rest := []) (lenOf pd_oABIcC rfl) rfl (wk rfl rfl) (hb hby d30_30)
  obtain ⟨rfl, e12, rfl⟩ := q12
  have N12 := Fr.app N0 (Fr.nil n0)
  refine Fin.go st12 ?_
  show Fin _ _ _ _ _ _ _ _ T12 (mkF m 33 #[vr d, vi (0 : Int32), vi (3 : Int32), vi (0 : Int32), .unset, .unset] [(.int x1)])
  refine .go (fun _ k => XS.istore X12.here hx rfl (hb hby d30_33) rfl (l' := #[vr d, vi (0 : Int32), vi (3 : Int32), vi (0 : Int32), vi x1, .unset]) rfl k) ?_
  refine .go (fun _ k => XS.iload X12.here hx rfl (hb hby d30_35) rfl k) ?_
  obtain ⟨v13, T13, L13, X13, q13, st13⟩ := callSt X12 hx hZ hown (hw _ w_125) (hw _ w_126) (hw _ w_127) (hw _ w_128) (by decide) (W := 0) (rmHS l Z a0 hw n0 h0 O x1) e12 (by decide) (by decide) (by decide) (by decide) (g := (mkF m 37 #[vr d, vi (0 : Int32), vi (3 : Int32), vi (0 : Int32), vi x1, .unset] [(.int x1)])) rfl (by rw [hml]; rfl) (argsL := [(.int x1)]) (rest := []) (lenOf pd_oCcZ rfl) rfl (wk rfl rfl) (hb hby d30_37)
  obtain ⟨rfl, e13, rfl⟩ := q13
  have N13 := Fr.app N12 (Fr.nil n0)
  refine Fin.go st13 ?_
  show Fin _ _ _ _ _ _ _ _ T13 (mkF m 40 #[vr d, vi (0 : Int32), vi (3 : Int32), vi (0 : Int32), vi x1, .unset] [(.int (hs x1))])
  by_cases c40 : (hs x1) = 0
  · refine .go (fun _ k => XS.ifYes X13.here hx rfl (pc0 := 40) (pc' := 83) rfl (hb hby d30_40) rfl (XT.i0_eq_t c40) (by decide) (by decide) k) ?_
    show Fin _ _ _ _ _ _ _ _ T13 (mkF m 83 #[vr d, vi (0 : Int32), vi (3 : Int32), vi (0 : Int32), vi x1, .unset] [])
    refine .go (fun _ k => XS.iload X13.here hx rfl (hb hby d30_83) rfl k) ?_
    exact Fin.leaveN X13 e13 hlk (v := some (.int x1)) (nvS hret) (by decide) (by decide) ⟨by simp [cpN, cp2, c40], rfl, rfl⟩ (fun fs hr => retI X13 hx hret (hb hby d30_85) hr)
  · refine .go (fun _ k => XS.ifNo X13.here hx rfl (hb hby d30_40) rfl (XT.i0_eq_f c40) k) ?_
    show Fin _ _ _ _ _ _ _ _ T13 (mkF m 43 #[vr d, vi (0 : Int32), vi (3 : Int32), vi (0 : Int32), vi x1, .unset] [])
    refine .go (fun _ k => XS.iinc X13.here hx rfl (hb hby d30_43) rfl (l' := #[vr d, vi ((0 : Int32) + (1 : Int32)), vi (3 : Int32), vi (0 : Int32), vi x1, .unset]) rfl k) ?_
    show Fin _ _ _ _ _ _ _ _ T13 (mkF m 46 #[vr d, vi ((0 : Int32) + (1 : Int32)), vi (3 : Int32), vi (0 : Int32), vi x1, .unset] [])
    rw [show ((0 : Int32) + (1 : Int32)) = (1 : Int32) from by decide]
    show Fin _ _ _ _ _ _ _ _ T13 (mkF m 46 #[vr d, vi (1 : Int32), vi (3 : Int32), vi (0 : Int32), vi x1, .unset] [])
    refine .go (fun _ k => XS.iloadN X13.here hx rfl (hb hby d30_46) rfl k) ?_
    refine .go (fun _ k => XS.iloadN X13.here hx rfl (hb hby d30_47) rfl k) ?_
    refine .go (fun _ k => XS.icmpNo X13.here hx rfl (hb hby d30_48) rfl (XT.ii_ge_f (by decide)) k) ?_
    show Fin _ _ _ _ _ _ _ _ T13 (mkF m 51 #[vr d, vi (1 : Int32), vi (3 : Int32), vi (0 : Int32), vi x1, .unset] [])
    refine .go (fun _ k => XS.iloadN X13.here hx rfl (hb hby d30_51) rfl k) ?_
    refine .go (fun _ k => XS.ifYes X13.here hx rfl (pc0 := 52) (pc' := 60) rfl (hb hby d30_52) rfl (XT.i0_eq_t (by decide)) (by decide) (by decide) k) ?_
    show Fin _ _ _ _ _ _ _ _ T13 (mkF m 60 #[vr d, vi (1 : Int32), vi (3 : Int32), vi (0 : Int32), vi x1, .unset] [])
    refine .go (fun _ k => XS.aloadN X13.here hx rfl (hb hby d30_60) rfl rfl k) ?_
    refine .go (fun _ k => XS.iloadN X13.here hx rfl (hb hby d30_61) rfl k) ?_
    obtain ⟨v14, T14, L14, X14, q14, st14⟩ := callSt X13 hx hZ hown (hw _ w_98) (hw _ w_99) (hw _ w_26) (hw _ w_100) (by decide) (W := 0) (rmGet3_1 l Z a0 hw n0 h0 O d kd x1 x2 x3 hc2 VD S_as S_hb S_lb) e13 (by decide) (by decide) (by decide) (by decide) (g := (mkF m 62 #[vr d, vi (1 : Int32), vi (3 : Int32), vi (0 : Int32), vi x1, .unset] [(.int (1 : Int32)), (.ref d)])) rfl (by rw [hml]; rfl) (argsL := [(.ref d), (.int (1 : Int32))]) (rest := []) (lenOf pd_oABIcC rfl) rfl (wk rfl rfl) (hb hby d30_62)
    obtain ⟨rfl, e14, rfl⟩ := q14
    have N14 := Fr.app N13 (Fr.nil n0)
    refine Fin.go st14 ?_
    show Fin _ _ _ _ _ _ _ _ T14 (mkF m 65 #[vr d, vi (1 : Int32), vi (3 : Int32), vi (0 : Int32), vi x1, .unset] [(.int x2)])
    refine .go (fun _ k => XS.istore X14.here hx rfl (hb hby d30_65) rfl (l' := #[vr d, vi (1 : Int32), vi (3 : Int32), vi (0 : Int32), vi x1, vi x2]) rfl k) ?_
    refine .go (fun _ k => XS.iload X14.here hx rfl (hb hby d30_67) rfl k) ?_
    obtain ⟨v15, T15, L15, X15, q15, st15⟩ := callSt X14 hx hZ hown (hw _ w_131) (hw _ w_132) (hw _ w_127) (hw _ w_133) (by decide) (W := 0) (rmLS l Z a0 hw n0 h0 O x2) e14 (by decide) (by decide) (by decide) (by decide) (g := (mkF m 69 #[vr d, vi (1 : Int32), vi (3 : Int32), vi (0 : Int32), vi x1, vi x2] [(.int x2)])) rfl (by rw [hml]; rfl) (argsL := [(.int x2)]) (rest := []) (lenOf pd_oCcZ rfl) rfl (wk rfl rfl) (hb hby d30_69)
    obtain ⟨rfl, e15, rfl⟩ := q15
    have N15 := Fr.app N14 (Fr.nil n0)
    refine Fin.go st15 ?_
    show Fin _ _ _ _ _ _ _ _ T15 (mkF m 72 #[vr d, vi (1 : Int32), vi (3 : Int32), vi (0 : Int32), vi x1, vi x2] [(.int (lsu x2))])
    by_cases c72 : (lsu x2) = 0
    · refine .go (fun _ k => XS.ifYes X15.here hx rfl (pc0 := 72) (pc' := 83) rfl (hb hby d30_72) rfl (XT.i0_eq_t c72) (by decide) (by decide) k) ?_
      show Fin _ _ _ _ _ _ _ _ T15 (mkF m 83 #[vr d, vi (1 : Int32), vi (3 : Int32), vi (0 : Int32), vi x1, vi x2] [])
      refine .go (fun _ k => XS.iload X15.here hx rfl (hb hby d30_83) rfl k) ?_
      exact Fin.leaveN X15 e15 hlk (v := some (.int x1)) (nvS hret) (by decide) (by decide) ⟨by simp [cpN, cp2, c40, c72], rfl, rfl⟩ (fun fs hr => retI X15 hx hret (hb hby d30_85) hr)
    · refine .go (fun _ k => XS.ifNo X15.here hx rfl (hb hby d30_72) rfl (XT.i0_eq_f c72) k) ?_
      show Fin _ _ _ _ _ _ _ _ T15 (mkF m 75 #[vr d, vi (1 : Int32), vi (3 : Int32), vi (0 : Int32), vi x1, vi x2] [])
      refine .go (fun _ k => XS.iload X15.here hx rfl (hb hby d30_75) rfl k) ?_
      refine .go (fun _ k => XS.iload X15.here hx rfl (hb hby d30_77) rfl k) ?_
      obtain ⟨v16, T16, L16, X16, q16, st16⟩ := callSt X15 hx hZ hown (hw _ w_145) (hw _ w_146) (hw _ w_127) (hw _ w_147) (by decide) (W := 0) (rmTCP l Z a0 hw n0 h0 O x1 x2) e15 (by decide) (by decide) (by decide) (by decide) (g := (mkF m 79 #[vr d, vi (1 : Int32), vi (3 : Int32), vi (0 : Int32), vi x1, vi x2] [(.int x2), (.int x1)])) rfl (by rw [hml]; rfl) (argsL := [(.int x1), (.int x2)]) (rest := []) (lenOf pd_oCCcI rfl) rfl (wk rfl rfl) (hb hby d30_79)
      obtain ⟨rfl, e16, rfl⟩ := q16
      have N16 := Fr.app N15 (Fr.nil n0)
      refine Fin.go st16 ?_
      show Fin _ _ _ _ _ _ _ _ T16 (mkF m 82 #[vr d, vi (1 : Int32), vi (3 : Int32), vi (0 : Int32), vi x1, vi x2] [(.int (((x1 <<< ((10 : Int32) &&& 31)) + x2) + (-56613888 : Int32)))])
      exact Fin.leaveN X16 e16 hlk (v := some (.int (((x1 <<< ((10 : Int32) &&& 31)) + x2) + (-56613888 : Int32)))) (nvS hret) (by decide) (by decide) ⟨by simp [cpN, cp2, c40, c72], rfl, rfl⟩ (fun fs hr => retI X16 hx hret (hb hby d30_82) hr)
theorem rmC3_3_0 (l : Launch) (Z : State) (a0 : Array Value) (hw : HW a0 Z) (n0 : Nat) (h0 : Heap) (O : Old Z n0 h0) (d : Addr) (kd : ClassId) (x1 x2 x3 : Int32) (hc1 : ChI x1) (hc2 : ChI x2) (hc3 : ChI x3) (VD : Arv Z h0 d kd .byte (6 : Int32) [(.int (lo8 x1)), (.int (hi8 x1)), (.int (lo8 x2)), (.int (hi8 x2)), (.int (lo8 x3)), (.int (hi8 x3))] (.int (0 : Int32))) (S_as : SAs Z) (S_hb : SHb Z) (S_lb : SLb Z) :
    ConW FrameEnd l Z [] (⟨"java/lang/StringUTF16", "codePointAt", "([BII)I"⟩ : MethodName) jdk_52_method_8_code 3 (some .int) ({ frames := 2, cells := 0, slots := 0, locals := 30 } : Room) #[(.ref d), (.int (0 : Int32)), (.int (3 : Int32))] h0 (Pure h0 (some (.int (cpN (1 : Int32) (3 : Int32) x1 x2)))) := by
  refine conOf (plainFor_of_name pn_java_lang_StringUTF16) ?_
  intro p e s m below mth cc s₁ X0 hx hby hml hown hnm hret hlk hZ e0
  have N0 := Fr.nil n0
  refine Fin.came (castTop (t := _) (by first | (simp [entryFrame, mkF, argsToLocals, Value.category]; done) | rfl) (Steps.refl _) : Steps p.tables e below (s₁.setTop (entryFrame m #[(.ref d), (.int (0 : Int32)), (.int (3 : Int32))] 3)) (s₁.setTop (mkF m 0 #[vr d, vi (0 : Int32), vi (3 : Int32)] []))) ?_
  refine .go (fun _ k => XS.aloadN X0.here hx rfl (hb hby d29_0) rfl rfl k) ?_
  refine .go (fun _ k => XS.iloadN X0.here hx rfl (hb hby d29_1) rfl k) ?_
  refine .go (fun _ k => XS.iloadN X0.here hx rfl (hb hby d29_2) rfl k) ?_
  refine .go (fun _ k => XS.iconst X0.here hx rfl (hb hby d29_3) k) ?_
  obtain ⟨v11, T11, L11, X11, q11, st11⟩ := callSt X0 hx hZ hown (hw _ w_122) (hw _ w_123) (hw _ w_26) (hw _ w_124) (by decide) (W := 0) (rmC4_3_0 l Z a0 hw n0 h0 O d kd x1 x2 x3 hc1 hc2 hc3 VD S_as S_hb S_lb) e0 (by decide) (by decide) (by decide) (by decide) (g := (mkF m 4 #[vr d, vi (0 : Int32), vi (3 : Int32)] [(.int (0 : Int32)), (.int (3 : Int32)), (.int (0 : Int32)), (.ref d)])) rfl (by rw [hml]; rfl) (argsL := [(.ref d), (.int (0 : Int32)), (.int (3 : Int32)), (.int (0 : Int32))]) (rest := []) (lenOf pd_oABIIZcI rfl) rfl (wk rfl rfl) (hb hby d29_4)
  obtain ⟨rfl, e11, rfl⟩ := q11
  have N11 := Fr.app N0 (Fr.nil n0)
  refine Fin.go st11 ?_
  show Fin _ _ _ _ _ _ _ _ T11 (mkF m 7 #[vr d, vi (0 : Int32), vi (3 : Int32)] [(.int (cpN (1 : Int32) (3 : Int32) x1 x2))])
  exact Fin.leaveN X11 e11 hlk (v := some (.int (cpN (1 : Int32) (3 : Int32) x1 x2))) (nvS hret) (by decide) (by decide) ⟨rfl, rfl, rfl⟩ (fun fs hr => retI X11 hx hret (hb hby d29_7) hr)
theorem rmAu_3_0 (l : Launch) (Z : State) (a0 : Array Value) (hw : HW a0 Z) (n0 : Nat) (h0 : Heap) (O : Old Z n0 h0) (a d : Addr) (kd : ClassId) (x1 x2 x3 : Int32) (A : Exa Z h0 a "java/lang/String") (F1 : Fld Z h0 a "java/lang/String" "coder" "B" (.int (1 : Int32))) (F2 : Fld Z h0 a "java/lang/String" "value" "[B" (.ref d)) (VD : Arv Z h0 d kd .byte (6 : Int32) [(.int (lo8 x1)), (.int (hi8 x1)), (.int (lo8 x2)), (.int (hi8 x2)), (.int (lo8 x3)), (.int (hi8 x3))] (.int (0 : Int32))) (cs : Int32) (S_cs : Sta Z Z.heap "java/lang/String" "COMPACT_STRINGS" "Z" (.int cs)) (hcs : ¬ cs = 0) (hc1 : ChI x1) (hc2 : ChI x2) (hc3 : ChI x3) (S_as : SAs Z) (S_hb : SHb Z) (S_lb : SLb Z) (fm : Value) (hfm : fm.isRef = true) (S_fm : SFm Z fm) :
    ConW FrameEnd l Z [] (⟨"java/lang/String", "codePointAt", "(I)I"⟩ : MethodName) jdk_42_method_57_code 3 (some .int) ({ frames := 3, cells := 0, slots := 0, locals := 44 } : Room) #[(.ref a), (.int (0 : Int32))] h0 (Pure h0 (some (.int (cpN (1 : Int32) (3 : Int32) x1 x2)))) := by
  refine conOf (plainFor_of_name pn_java_lang_String) ?_
  intro p e s m below mth cc s₁ X0 hx hby hml hown hnm hret hlk hZ e0
  have N0 := Fr.nil n0
  refine Fin.came (castTop (t := _) (by first | (simp [entryFrame, mkF, argsToLocals, Value.category]; done) | rfl) (Steps.refl _) : Steps p.tables e below (s₁.setTop (entryFrame m #[(.ref a), (.int (0 : Int32))] 3)) (s₁.setTop (mkF m 0 #[vr a, vi (0 : Int32), .unset] []))) ?_
  refine .go (fun _ k => XS.aloadN X0.here hx rfl (hb hby d25_0) rfl rfl k) ?_
  obtain ⟨v11, T11, L11, X11, q11, st11⟩ := callVt X0 hx hZ (y := (⟨"java/lang/String", "isLatin1", "()Z"⟩ : MethodName)) hown (hw _ w_106) (hw _ w_107) (hw _ w_109) (hw _ w_108) (hw _ w_12) (hw _ w_110) (by decide) (W := 0) (rmIsL1 l Z a0 hw n0 h0 O a F1 cs S_cs hcs) e0 A (by decide) (by decide) (by decide) (by decide) (g := (mkF m 1 #[vr a, vi (0 : Int32), .unset] [(.ref a)])) rfl (by rw [hml]; rfl) (argsL := []) (rest := []) (lenOf pd_ocZ rfl) rfl (wk rfl rfl) (hb hby d25_1)
  obtain ⟨rfl, e11, rfl⟩ := q11
  have N11 := Fr.app N0 (Fr.nil n0)
  refine Fin.go st11 ?_
  show Fin _ _ _ _ _ _ _ _ T11 (mkF m 4 #[vr a, vi (0 : Int32), .unset] [(.int (0 : Int32))])
  refine .go (fun _ k => XS.ifYes X11.here hx rfl (pc0 := 4) (pc' := 27) rfl (hb hby d25_4) rfl (XT.i0_eq_t (by decide)) (by decide) (by decide) k) ?_
  show Fin _ _ _ _ _ _ _ _ T11 (mkF m 27 #[vr a, vi (0 : Int32), .unset] [])
  refine .go (fun _ k => XS.aloadN X11.here hx rfl (hb hby d25_27) rfl rfl k) ?_
  obtain ⟨T12, X12, e12, st12⟩ := getF X11 hx hZ hown (host := "") (Or.inl (hw _ w_37)) Via.refl e11 F2 (g := (mkF m 28 #[vr a, vi (0 : Int32), .unset] [(.ref a)])) rfl rfl (hb hby d25_28)
  refine Fin.go st12 ?_
  show Fin _ _ _ _ _ _ _ _ T12 (mkF m 31 #[vr a, vi (0 : Int32), .unset] [(.ref d)])
  obtain ⟨cz13, B13, q13, S13, M13, H13, G13⟩ := id VD
  refine Fin.go (fun _ k => X12.arraylength hx (by rw [e12]; exact B13.1) (State.isArrayOf_alike hZ.alike B13.2.1) (g := (mkF m 31 #[vr a, vi (0 : Int32), .unset] [(.ref d)])) rfl rfl (hb hby d25_31) _ k) ?_
  rw [len_of S13 M13]
  show Fin _ _ _ _ _ _ _ _ T12 (mkF m 32 #[vr a, vi (0 : Int32), .unset] [(.int (6 : Int32))])
  refine .go (fun _ k => XS.iconst X12.here hx rfl (hb hby d25_32) k) ?_
  refine .go (fun _ k => XT.ishr X12.here hx rfl (hb hby d25_33) rfl k) ?_
  refine .go (fun _ k => XS.istoreN X12.here hx rfl (hb hby d25_34) rfl (l' := #[vr a, vi (0 : Int32), vi ((6 : Int32) >>> ((1 : Int32) &&& 31))]) rfl k) ?_
  show Fin _ _ _ _ _ _ _ _ T12 (mkF m 35 #[vr a, vi (0 : Int32), vi ((6 : Int32) >>> ((1 : Int32) &&& 31))] [])
  rw [show ((6 : Int32) >>> ((1 : Int32) &&& 31)) = (3 : Int32) from by decide]
  show Fin _ _ _ _ _ _ _ _ T12 (mkF m 35 #[vr a, vi (0 : Int32), vi (3 : Int32)] [])
  refine .go (fun _ k => XS.iloadN X12.here hx rfl (hb hby d25_35) rfl k) ?_
  refine .go (fun _ k => XS.iloadN X12.here hx rfl (hb hby d25_36) rfl k) ?_
  obtain ⟨v14, T14, L14, X14, q14, st14⟩ := callSt X12 hx hZ hown (hw _ w_111) (hw _ w_112) (hw _ w_12) (hw _ w_113) (by decide) (W := 0) (rmSCI l Z a0 hw n0 h0 O (0 : Int32) (3 : Int32) (by decide) (by decide) fm hfm S_fm) e12 (by decide) (by decide) (by decide) (by decide) (g := (mkF m 37 #[vr a, vi (0 : Int32), vi (3 : Int32)] [(.int (3 : Int32)), (.int (0 : Int32))])) rfl (by rw [hml]; rfl) (argsL := [(.int (0 : Int32)), (.int (3 : Int32))]) (rest := []) (lenOf pd_oIIcV rfl) rfl (wk rfl rfl) (hb hby d25_37)
  obtain ⟨rfl, e14, rfl⟩ := q14
  have N14 := Fr.app N11 (Fr.nil n0)
  refine Fin.go st14 ?_
  show Fin _ _ _ _ _ _ _ _ T14 (mkF m 40 #[vr a, vi (0 : Int32), vi (3 : Int32)] [])
  refine .go (fun _ k => XS.aloadN X14.here hx rfl (hb hby d25_40) rfl rfl k) ?_
  obtain ⟨T15, X15, e15, st15⟩ := getF X14 hx hZ hown (host := "") (Or.inl (hw _ w_37)) Via.refl e14 F2 (g := (mkF m 41 #[vr a, vi (0 : Int32), vi (3 : Int32)] [(.ref a)])) rfl rfl (hb hby d25_41)
  refine Fin.go st15 ?_
  show Fin _ _ _ _ _ _ _ _ T15 (mkF m 44 #[vr a, vi (0 : Int32), vi (3 : Int32)] [(.ref d)])
  refine .go (fun _ k => XS.iloadN X15.here hx rfl (hb hby d25_44) rfl k) ?_
  refine .go (fun _ k => XS.iloadN X15.here hx rfl (hb hby d25_45) rfl k) ?_
  obtain ⟨v16, T16, L16, X16, q16, st16⟩ := callSt X15 hx hZ hown (hw _ w_119) (hw _ w_120) (hw _ w_26) (hw _ w_121) (by decide) (W := 0) (rmC3_3_0 l Z a0 hw n0 h0 O d kd x1 x2 x3 hc1 hc2 hc3 VD S_as S_hb S_lb) e15 (by decide) (by decide) (by decide) (by decide) (g := (mkF m 46 #[vr a, vi (0 : Int32), vi (3 : Int32)] [(.int (3 : Int32)), (.int (0 : Int32)), (.ref d)])) rfl (by rw [hml]; rfl) (argsL := [(.ref d), (.int (0 : Int32)), (.int (3 : Int32))]) (rest := []) (lenOf pd_oABIIcI rfl) rfl (wk rfl rfl) (hb hby d25_46)
  obtain ⟨rfl, e16, rfl⟩ := q16
  have N16 := Fr.app N14 (Fr.nil n0)
  refine Fin.go st16 ?_
  show Fin _ _ _ _ _ _ _ _ T16 (mkF m 49 #[vr a, vi (0 : Int32), vi (3 : Int32)] [(.int (cpN (1 : Int32) (3 : Int32) x1 x2))])
  exact Fin.leaveN X16 e16 hlk (v := some (.int (cpN (1 : Int32) (3 : Int32) x1 x2))) (nvS hret) (by decide) (by decide) ⟨rfl, rfl, rfl⟩ (fun fs hr => retI X16 hx hret (hb hby d25_49) hr)
theorem rmAl_3_0 (l : Launch) (Z : State) (a0 : Array Value) (hw : HW a0 Z) (n0 : Nat) (h0 : Heap) (O : Old Z n0 h0) (a d : Addr) (kd : ClassId) (x1 x2 x3 : Int32) (A : Exa Z h0 a "java/lang/String") (F1 : Fld Z h0 a "java/lang/String" "coder" "B" (.int (0 : Int32))) (F2 : Fld Z h0 a "java/lang/String" "value" "[B" (.ref d)) (VD : Arv Z h0 d kd .byte (3 : Int32) [(.int ((Int32.toInt8 x1).toInt32)), (.int ((Int32.toInt8 x2).toInt32)), (.int ((Int32.toInt8 x3).toInt32))] (.int (0 : Int32))) (cs : Int32) (S_cs : Sta Z Z.heap "java/lang/String" "COMPACT_STRINGS" "Z" (.int cs)) (hcs : ¬ cs = 0) (hc1 : ChI x1) (hc2 : ChI x2) (hc3 : ChI x3) (hp1 : ¬ (255 : Int32) < x1) (hp2 : ¬ (255 : Int32) < x2) (hp3 : ¬ (255 : Int32) < x3) (fm : Value) (hfm : fm.isRef = true) (S_fm : SFm Z fm) :
    ConW FrameEnd l Z [] (⟨"java/lang/String", "codePointAt", "(I)I"⟩ : MethodName) jdk_42_method_57_code 3 (some .int) ({ frames := 3, cells := 0, slots := 0, locals := 44 } : Room) #[(.ref a), (.int (0 : Int32))] h0 (Pure h0 (some (.int (cpN (1 : Int32) (3 : Int32) x1 x2)))) := by
  refine conOf (plainFor_of_name pn_java_lang_String) ?_
  intro p e s m below mth cc s₁ X0 hx hby hml hown hnm hret hlk hZ e0
  have N0 := Fr.nil n0
  refine Fin.came (castTop (t := _) (by first | (simp [entryFrame, mkF, argsToLocals, Value.category]; done) | rfl) (Steps.refl _) : Steps p.tables e below (s₁.setTop (entryFrame m #[(.ref a), (.int (0 : Int32))] 3)) (s₁.setTop (mkF m 0 #[vr a, vi (0 : Int32), .unset] []))) ?_
  refine .go (fun _ k => XS.aloadN X0.here hx rfl (hb hby d25_0) rfl rfl k) ?_
  obtain ⟨v11, T11, L11, X11, q11, st11⟩ := callVt X0 hx hZ (y := (⟨"java/lang/String", "isLatin1", "()Z"⟩ : MethodName)) hown (hw _ w_106) (hw _ w_107) (hw _ w_109) (hw _ w_108) (hw _ w_12) (hw _ w_110) (by decide) (W := 0) (rmIsL0 l Z a0 hw n0 h0 O a F1 cs S_cs hcs) e0 A (by decide) (by decide) (by decide) (by decide) (g := (mkF m 1 #[vr a, vi (0 : Int32), .unset] [(.ref a)])) rfl (by rw [hml]; rfl) (argsL := []) (rest := []) (lenOf pd_ocZ rfl) rfl (wk rfl rfl) (hb hby d25_1)
  obtain ⟨rfl, e11, rfl⟩ := q11
  have N11 := Fr.app N0 (Fr.nil n0)
  refine Fin.go st11 ?_
  show Fin _ _ _ _ _ _ _ _ T11 (mkF m 4 #[vr a, vi (0 : Int32), .unset] [(.int (1 : Int32))])
  refine .go (fun _ k => XS.ifNo X11.here hx rfl (hb hby d25_4) rfl (XT.i0_eq_f (by decide)) k) ?_
  show Fin _ _ _ _ _ _ _ _ T11 (mkF m 7 #[vr a, vi (0 : Int32), .unset] [])
  refine .go (fun _ k => XS.iloadN X11.here hx rfl (hb hby d25_7) rfl k) ?_
  refine .go (fun _ k => XS.aloadN X11.here hx rfl (hb hby d25_8) rfl rfl k) ?_
  obtain ⟨T12, X12, e12, st12⟩ := getF X11 hx hZ hown (host := "") (Or.inl (hw _ w_37)) Via.refl e11 F2 (g := (mkF m 9 #[vr a, vi (0 : Int32), .unset] [(.ref a), (.int (0 : Int32))])) rfl rfl (hb hby d25_9)
  refine Fin.go st12 ?_
  show Fin _ _ _ _ _ _ _ _ T12 (mkF m 12 #[vr a, vi (0 : Int32), .unset] [(.ref d), (.int (0 : Int32))])
  obtain ⟨cz13, B13, q13, S13, M13, H13, G13⟩ := id VD
  refine Fin.go (fun _ k => X12.arraylength hx (by rw [e12]; exact B13.1) (State.isArrayOf_alike hZ.alike B13.2.1) (g := (mkF m 12 #[vr a, vi (0 : Int32), .unset] [(.ref d), (.int (0 : Int32))])) rfl rfl (hb hby d25_12) _ k) ?_
  rw [len_of S13 M13]
  show Fin _ _ _ _ _ _ _ _ T12 (mkF m 13 #[vr a, vi (0 : Int32), .unset] [(.int (3 : Int32)), (.int (0 : Int32))])
  obtain ⟨v14, T14, L14, X14, q14, st14⟩ := callSt X12 hx hZ hown (hw _ w_111) (hw _ w_112) (hw _ w_12) (hw _ w_113) (by decide) (W := 0) (rmSCI l Z a0 hw n0 h0 O (0 : Int32) (3 : Int32) (by decide) (by decide) fm hfm S_fm) e12 (by decide) (by decide) (by decide) (by decide) (g := (mkF m 13 #[vr a, vi (0 : Int32), .unset] [(.int (3 : Int32)), (.int (0 : Int32))])) rfl (by rw [hml]; rfl) (argsL := [(.int (0 : Int32)), (.int (3 : Int32))]) (rest := []) (lenOf pd_oIIcV rfl) rfl (wk rfl rfl) (hb hby d25_13)
  obtain ⟨rfl, e14, rfl⟩ := q14
  have N14 := Fr.app N11 (Fr.nil n0)
  refine Fin.go st14 ?_
  show Fin _ _ _ _ _ _ _ _ T14 (mkF m 16 #[vr a, vi (0 : Int32), .unset] [])
  refine .go (fun _ k => XS.aloadN X14.here hx rfl (hb hby d25_16) rfl rfl k) ?_
  obtain ⟨T15, X15, e15, st15⟩ := getF X14 hx hZ hown (host := "") (Or.inl (hw _ w_37)) Via.refl e14 F2 (g := (mkF m 17 #[vr a, vi (0 : Int32), .unset] [(.ref a)])) rfl rfl (hb hby d25_17)
  refine Fin.go st15 ?_
  show Fin _ _ _ _ _ _ _ _ T15 (mkF m 20 #[vr a, vi (0 : Int32), .unset] [(.ref d)])
  refine .go (fun _ k => XS.iloadN X15.here hx rfl (hb hby d25_20) rfl k) ?_
  obtain ⟨cz16, B16, q16, S16, M16, H16, G16⟩ := id VD
  have i16 := inb_of S16 ⟨(by decide : ¬ ((0 : Int32) < (0 : Int32))), (by decide : (0 : Int32) < (3 : Int32))⟩
  refine Fin.go (fun _ k => X15.baloadBytes hx (j := (0 : Int32)) (v := (.int ((Int32.toInt8 x1).toInt32))) (by rw [e15]; exact B16.1) (State.isArrayOf_alike hZ.alike B16.2.1) B16.2.2 i16 (Has.at H16 i16 rfl) (g := (mkF m 21 #[vr a, vi (0 : Int32), .unset] [(.int (0 : Int32)), (.ref d)])) rfl rfl (hb hby d25_21) _ k) ?_
  show Fin _ _ _ _ _ _ _ _ T15 (mkF m 22 #[vr a, vi (0 : Int32), .unset] [(.int ((Int32.toInt8 x1).toInt32))])
  refine .go (fun _ k => XS.sipush X15.here hx rfl (hb hby d25_22) k) ?_
  refine .go (fun _ k => XS.iand X15.here hx rfl (hb hby d25_25) rfl k) ?_
  exact Fin.leaveN X15 e15 hlk (v := some (.int (((Int32.toInt8 x1).toInt32) &&& (255 : Int32)))) (nvS hret) (by decide) (by decide) ⟨by rw [cpN_l hp1, b8and _ hc1 hp1], rfl, rfl⟩ (fun fs hr => retI X15 hx hret (hb hby d25_26) hr)
theorem rmC4_3_1 (l : Launch) (Z : State) (a0 : Array Value) (hw : HW a0 Z) (n0 : Nat) (h0 : Heap) (O : Old Z n0 h0) (d : Addr) (kd : ClassId) (x1 x2 x3 : Int32) (hc1 : ChI x1) (hc2 : ChI x2) (hc3 : ChI x3) (VD : Arv Z h0 d kd .byte (6 : Int32) [(.int (lo8 x1)), (.int (hi8 x1)), (.int (lo8 x2)), (.int (hi8 x2)), (.int (lo8 x3)), (.int (hi8 x3))] (.int (0 : Int32))) (S_as : SAs Z) (S_hb : SHb Z) (S_lb : SLb Z) :
    ConW FrameEnd l Z [] (⟨"java/lang/StringUTF16", "codePointAt", "([BIIZ)I"⟩ : MethodName) jdk_52_method_7_code 6 (some .int) ({ frames := 1, cells := 0, slots := 0, locals := 13 } : Room) #[(.ref d), (.int (1 : Int32)), (.int (3 : Int32)), (.int (0 : Int32))] h0 (Pure h0 (some (.int (cpN (2 : Int32) (3 : Int32) x2 x3)))) := by
  refine conOf (plainFor_of_name pn_java_lang_StringUTF16) ?_
  intro p e s m below mth cc s₁ X0 hx hby hml hown hnm hret hlk hZ e0
  have N0 := Fr.nil n0
  refine Fin.came (castTop (t := _) (by first | (simp [entryFrame, mkF, argsToLocals, Value.category]; done) | rfl) (Steps.refl _) : Steps p.tables e below (s₁.setTop (entryFrame m #[(.ref d), (.int (1 : Int32)), (.int (3 : Int32)), (.int (0 : Int32))] 6)) (s₁.setTop (mkF m 0 #[vr d, vi (1 : Int32), vi (3 : Int32), vi (0 : Int32), .unset, .unset] []))) ?_
  obtain ⟨T11, X11, e11, st11⟩ := getS2 X0 hx hZ hown (host := "") (Or.inl (hw _ w_95)) Via.refl e0 (S_as.ext O.2) (g := (mkF m 0 #[vr d, vi (1 : Int32), vi (3 : Int32), vi (0 : Int32), .unset, .unset] [])) rfl (hb hby d30_0)
  refine Fin.go st11 ?_
  show Fin _ _ _ _ _ _ _ _ T11 (mkF m 3 #[vr d, vi (1 : Int32), vi (3 : Int32), vi (0 : Int32), .unset, .unset] [(.int (1 : Int32))])
  refine .go (fun _ k => XS.ifYes X11.here hx rfl (pc0 := 3) (pc' := 19) rfl (hb hby d30_3) rfl (XT.i0_ne_t (by decide)) (by decide) (by decide) k) ?_
  show Fin _ _ _ _ _ _ _ _ T11 (mkF m 19 #[vr d, vi (1 : Int32), vi (3 : Int32), vi (0 : Int32), .unset, .unset] [])
  refine .go (fun _ k => XS.iloadN X11.here hx rfl (hb hby d30_19) rfl k) ?_
  refine .go (fun _ k => XS.ifYes X11.here hx rfl (pc0 := 20) (pc' := 28) rfl (hb hby d30_20) rfl (XT.i0_eq_t (by decide)) (by decide) (by decide) k) ?_
  show Fin _ _ _ _ _ _ _ _ T11 (mkF m 28 #[vr d, vi (1 : Int32), vi (3 : Int32), vi (0 : Int32), .unset, .unset] [])
  refine .go (fun _ k => XS.aloadN X11.here hx rfl (hb hby d30_28) rfl rfl k) ?_
  refine .go (fun _ k => XS.iloadN X11.here hx rfl (hb hby d30_29) rfl k) ?_
  obtain ⟨v12, T12, L12, X12, q12, st12⟩ := callSt X11 hx hZ hown (hw _ w_98) (hw _ w_99) (hw _ w_26) (hw _ w_100) (by decide) (W := 0) (rmGet3_1 l Z a0 hw n0 h0 O d kd x1 x2 x3 hc2 VD S_as S_hb S_lb) e11 (by decide) (by decide) (by decide) (by decide) (g := (mkF m 30 #[vr d, vi (1 : Int32), vi (3 : Int32), vi (0 : Int32), .unset, .unset] [(.int (1 : Int32)), (.ref d)])) rfl (by rw [hml]; rfl) (argsL := [(.ref d), (.int (1 : Int32))]) (rest := []) (lenOf pd_oABIcC rfl) rfl (wk rfl rfl) (hb hby d30_30)
  obtain ⟨rfl, e12, rfl⟩ := q12
  have N12 := Fr.app N0 (Fr.nil n0)
  refine Fin.go st12 ?_
  show Fin _ _ _ _ _ _ _ _ T12 (mkF m 33 #[vr d, vi (1 : Int32), vi (3 : Int32), vi (0 : Int32), .unset, .unset] [(.int x2)])
  refine .go (fun _ k => XS.istore X12.here hx rfl (hb hby d30_33) rfl (l' := #[vr d, vi (1 : Int32), vi (3 : Int32), vi (0 : Int32), vi x2, .unset]) rfl k) ?_
  refine .go (fun _ k => XS.iload X12.here hx rfl (hb hby d30_35) rfl k) ?_
  obtain ⟨v13, T13, L13, X13, q13, st13⟩ := callSt X12 hx hZ hown (hw _ w_125) (hw _ w_126) (hw _ w_127) (hw _ w_128) (by decide) (W := 0) (rmHS l Z a0 hw n0 h0 O x2) e12 (by decide) (by decide) (by decide) (by decide) (g := (mkF m 37 #[vr d, vi (1 : Int32), vi (3 : Int32), vi (0 : Int32), vi x2, .unset] [(.int x2)])) rfl (by rw [hml]; rfl) (argsL := [(.int x2)]) (rest := []) (lenOf pd_oCcZ rfl) rfl (wk rfl rfl) (hb hby d30_37)
  obtain ⟨rfl, e13, rfl⟩ := q13
  have N13 := Fr.app N12 (Fr.nil n0)
  refine Fin.go st13 ?_
  show Fin _ _ _ _ _ _ _ _ T13 (mkF m 40 #[vr d, vi (1 : Int32), vi (3 : Int32), vi (0 : Int32), vi x2, .unset] [(.int (hs x2))])
  by_cases c40 : (hs x2) = 0
  · refine .go (fun _ k => XS.ifYes X13.here hx rfl (pc0 := 40) (pc' := 83) rfl (hb hby d30_40) rfl (XT.i0_eq_t c40) (by decide) (by decide) k) ?_
    show Fin _ _ _ _ _ _ _ _ T13 (mkF m 83 #[vr d, vi (1 : Int32), vi (3 : Int32), vi (0 : Int32), vi x2, .unset] [])
    refine .go (fun _ k => XS.iload X13.here hx rfl (hb hby d30_83) rfl k) ?_
    exact Fin.leaveN X13 e13 hlk (v := some (.int x2)) (nvS hret) (by decide) (by decide) ⟨by simp [cpN, cp2, c40], rfl, rfl⟩ (fun fs hr => retI X13 hx hret (hb hby d30_85) hr)
  · refine .go (fun _ k => XS.ifNo X13.here hx rfl (hb hby d30_40) rfl (XT.i0_eq_f c40) k) ?_
    show Fin _ _ _ _ _ _ _ _ T13 (mkF m 43 #[vr d, vi (1 : Int32), vi (3 : Int32), vi (0 : Int32), vi x2, .unset] [])
    refine .go (fun _ k => XS.iinc X13.here hx rfl (hb hby d30_43) rfl (l' := #[vr d, vi ((1 : Int32) + (1 : Int32)), vi (3 : Int32), vi (0 : Int32), vi x2, .unset]) rfl k) ?_
    show Fin _ _ _ _ _ _ _ _ T13 (mkF m 46 #[vr d, vi ((1 : Int32) + (1 : Int32)), vi (3 : Int32), vi (0 : Int32), vi x2, .unset] [])
    rw [show ((1 : Int32) + (1 : Int32)) = (2 : Int32) from by decide]
    show Fin _ _ _ _ _ _ _ _ T13 (mkF m 46 #[vr d, vi (2 : Int32), vi (3 : Int32), vi (0 : Int32), vi x2, .unset] [])
    refine .go (fun _ k => XS.iloadN X13.here hx rfl (hb hby d30_46) rfl k) ?_
    refine .go (fun _ k => XS.iloadN X13.here hx rfl (hb hby d30_47) rfl k) ?_
    refine .go (fun _ k => XS.icmpNo X13.here hx rfl (hb hby d30_48) rfl (XT.ii_ge_f (by decide)) k) ?_
    show Fin _ _ _ _ _ _ _ _ T13 (mkF m 51 #[vr d, vi (2 : Int32), vi (3 : Int32), vi (0 : Int32), vi x2, .unset] [])
    refine .go (fun _ k => XS.iloadN X13.here hx rfl (hb hby d30_51) rfl k) ?_
    refine .go (fun _ k => XS.ifYes X13.here hx rfl (pc0 := 52) (pc' := 60) rfl (hb hby d30_52) rfl (XT.i0_eq_t (by decide)) (by decide) (by decide) k) ?_
    show Fin _ _ _ _ _ _ _ _ T13 (mkF m 60 #[vr d, vi (2 : Int32), vi (3 : Int32), vi (0 : Int32), vi x2, .unset] [])
    refine .go (fun _ k => XS.aloadN X13.here hx rfl (hb hby d30_60) rfl rfl k) ?_
    refine .go (fun _ k => XS.iloadN X13.here hx rfl (hb hby d30_61) rfl k) ?_
    obtain ⟨v14, T14, L14, X14, q14, st14⟩ := callSt X13 hx hZ hown (hw _ w_98) (hw _ w_99) (hw _ w_26) (hw _ w_100) (by decide) (W := 0) (rmGet3_2 l Z a0 hw n0 h0 O d kd x1 x2 x3 hc3 VD S_as S_hb S_lb) e13 (by decide) (by decide) (by decide) (by decide) (g := (mkF m 62 #[vr d, vi (2 : Int32), vi (3 : Int32), vi (0 : Int32), vi x2, .unset] [(.int (2 : Int32)), (.ref d)])) rfl (by rw [hml]; rfl) (argsL := [(.ref d), (.int (2 : Int32))]) (rest := []) (lenOf pd_oABIcC rfl) rfl (wk rfl rfl) (hb hby d30_62)
    obtain ⟨rfl, e14, rfl⟩ := q14
    have N14 := Fr.app N13 (Fr.nil n0)
    refine Fin.go st14 ?_
    show Fin _ _ _ _ _ _ _ _ T14 (mkF m 65 #[vr d, vi (2 : Int32), vi (3 : Int32), vi (0 : Int32), vi x2, .unset] [(.int x3)])
    refine .go (fun _ k => XS.istore X14.here hx rfl (hb hby d30_65) rfl (l' := #[vr d, vi (2 : Int32), vi (3 : Int32), vi (0 : Int32), vi x2, vi x3]) rfl k) ?_
    refine .go (fun _ k => XS.iload X14.here hx rfl (hb hby d30_67) rfl k) ?_
    obtain ⟨v15, T15, L15, X15, q15, st15⟩ := callSt X14 hx hZ hown (hw _ w_131) (hw _ w_132) (hw _ w_127) (hw _ w_133) (by decide) (W := 0) (rmLS l Z a0 hw n0 h0 O x3) e14 (by decide) (by decide) (by decide) (by decide) (g := (mkF m 69 #[vr d, vi (2 : Int32), vi (3 : Int32), vi (0 : Int32), vi x2, vi x3] [(.int x3)])) rfl (by rw [hml]; rfl) (argsL := [(.int x3)]) (rest := []) (lenOf pd_oCcZ rfl) rfl (wk rfl rfl) (hb hby d30_69)
    obtain ⟨rfl, e15, rfl⟩ := q15
    have N15 := Fr.app N14 (Fr.nil n0)
    refine Fin.go st15 ?_
    show Fin _ _ _ _ _ _ _ _ T15 (mkF m 72 #[vr d, vi (2 : Int32), vi (3 : Int32), vi (0 : Int32), vi x2, vi x3] [(.int (lsu x3))])
    by_cases c72 : (lsu x3) = 0
    · refine .go (fun _ k => XS.ifYes X15.here hx rfl (pc0 := 72) (pc' := 83) rfl (hb hby d30_72) rfl (XT.i0_eq_t c72) (by decide) (by decide) k) ?_
      show Fin _ _ _ _ _ _ _ _ T15 (mkF m 83 #[vr d, vi (2 : Int32), vi (3 : Int32), vi (0 : Int32), vi x2, vi x3] [])
      refine .go (fun _ k => XS.iload X15.here hx rfl (hb hby d30_83) rfl k) ?_
      exact Fin.leaveN X15 e15 hlk (v := some (.int x2)) (nvS hret) (by decide) (by decide) ⟨by simp [cpN, cp2, c40, c72], rfl, rfl⟩ (fun fs hr => retI X15 hx hret (hb hby d30_85) hr)
    · refine .go (fun _ k => XS.ifNo X15.here hx rfl (hb hby d30_72) rfl (XT.i0_eq_f c72) k) ?_
      show Fin _ _ _ _ _ _ _ _ T15 (mkF m 75 #[vr d, vi (2 : Int32), vi (3 : Int32), vi (0 : Int32), vi x2, vi x3] [])
      refine .go (fun _ k => XS.iload X15.here hx rfl (hb hby d30_75) rfl k) ?_
      refine .go (fun _ k => XS.iload X15.here hx rfl (hb hby d30_77) rfl k) ?_
      obtain ⟨v16, T16, L16, X16, q16, st16⟩ := callSt X15 hx hZ hown (hw _ w_145) (hw _ w_146) (hw _ w_127) (hw _ w_147) (by decide) (W := 0) (rmTCP l Z a0 hw n0 h0 O x2 x3) e15 (by decide) (by decide) (by decide) (by decide) (g := (mkF m 79 #[vr d, vi (2 : Int32), vi (3 : Int32), vi (0 : Int32), vi x2, vi x3] [(.int x3), (.int x2)])) rfl (by rw [hml]; rfl) (argsL := [(.int x2), (.int x3)]) (rest := []) (lenOf pd_oCCcI rfl) rfl (wk rfl rfl) (hb hby d30_79)
      obtain ⟨rfl, e16, rfl⟩ := q16
      have N16 := Fr.app N15 (Fr.nil n0)
      refine Fin.go st16 ?_
      show Fin _ _ _ _ _ _ _ _ T16 (mkF m 82 #[vr d, vi (2 : Int32), vi (3 : Int32), vi (0 : Int32), vi x2, vi x3] [(.int (((x2 <<< ((10 : Int32) &&& 31)) + x3) + (-56613888 : Int32)))])
      exact Fin.leaveN X16 e16 hlk (v := some (.int (((x2 <<< ((10 : Int32) &&& 31)) + x3) + (-56613888 : Int32)))) (nvS hret) (by decide) (by decide) ⟨by simp [cpN, cp2, c40, c72], rfl, rfl⟩ (fun fs hr => retI X16 hx hret (hb hby d30_82) hr)
theorem rmC3_3_1 (l : Launch) (Z : State) (a0 : Array Value) (hw : HW a0 Z) (n0 : Nat) (h0 : Heap) (O : Old Z n0 h0) (d : Addr) (kd : ClassId) (x1 x2 x3 : Int32) (hc1 : ChI x1) (hc2 : ChI x2) (hc3 : ChI x3) (VD : Arv Z h0 d kd .byte (6 : Int32) [(.int (lo8 x1)), (.int (hi8 x1)), (.int (lo8 x2)), (.int (hi8 x2)), (.int (lo8 x3)), (.int (hi8 x3))] (.int (0 : Int32))) (S_as : SAs Z) (S_hb : SHb Z) (S_lb : SLb Z) :
    ConW FrameEnd l Z [] (⟨"java/lang/StringUTF16", "codePointAt", "([BII)I"⟩ : MethodName) jdk_52_method_8_code 3 (some .int) ({ frames := 2, cells := 0, slots := 0, locals := 30 } : Room) #[(.ref d), (.int (1 : Int32)), (.int (3 : Int32))] h0 (Pure h0 (some (.int (cpN (2 : Int32) (3 : Int32) x2 x3)))) := by
  refine conOf (plainFor_of_name pn_java_lang_StringUTF16) ?_
  intro p e s m below mth cc s₁ X0 hx hby hml hown hnm hret hlk hZ e0
  have N0 := Fr.nil n0
  refine Fin.came (castTop (t := _) (by first | (simp [entryFrame, mkF, argsToLocals, Value.category]; done) | rfl) (Steps.refl _) : Steps p.tables e below (s₁.setTop (entryFrame m #[(.ref d), (.int (1 : Int32)), (.int (3 : Int32))] 3)) (s₁.setTop (mkF m 0 #[vr d, vi (1 : Int32), vi (3 : Int32)] []))) ?_
  refine .go (fun _ k => XS.aloadN X0.here hx rfl (hb hby d29_0) rfl rfl k) ?_
  refine .go (fun _ k => XS.iloadN X0.here hx rfl (hb hby d29_1) rfl k) ?_
  refine .go (fun _ k => XS.iloadN X0.here hx rfl (hb hby d29_2) rfl k) ?_
  refine .go (fun _ k => XS.iconst X0.here hx rfl (hb hby d29_3) k) ?_
  obtain ⟨v11, T11, L11, X11, q11, st11⟩ := callSt X0 hx hZ hown (hw _ w_122) (hw _ w_123) (hw _ w_26) (hw _ w_124) (by decide) (W := 0) (rmC4_3_1 l Z a0 hw n0 h0 O d kd x1 x2 x3 hc1 hc2 hc3 VD S_as S_hb S_lb) e0 (by decide) (by decide) (by decide) (by decide) (g := (mkF m 4 #[vr d, vi (1 : Int32), vi (3 : Int32)] [(.int (0 : Int32)), (.int (3 : Int32)), (.int (1 : Int32)), (.ref d)])) rfl (by rw [hml]; rfl) (argsL := [(.ref d), (.int (1 : Int32)), (.int (3 : Int32)), (.int (0 : Int32))]) (rest := []) (lenOf pd_oABIIZcI rfl) rfl (wk rfl rfl) (hb hby d29_4)
  obtain ⟨rfl, e11, rfl⟩ := q11
  have N11 := Fr.app N0 (Fr.nil n0)
  refine Fin.go st11 ?_
  show Fin _ _ _ _ _ _ _ _ T11 (mkF m 7 #[vr d, vi (1 : Int32), vi (3 : Int32)] [(.int (cpN (2 : Int32) (3 : Int32) x2 x3))])
  exact Fin.leaveN X11 e11 hlk (v := some (.int (cpN (2 : Int32) (3 : Int32) x2 x3))) (nvS hret) (by decide) (by decide) ⟨rfl, rfl, rfl⟩ (fun fs hr => retI X11 hx hret (hb hby d29_7) hr)
theorem rmAu_3_1 (l : Launch) (Z : State) (a0 : Array Value) (hw : HW a0 Z) (n0 : Nat) (h0 : Heap) (O : Old Z n0 h0) (a d : Addr) (kd : ClassId) (x1 x2 x3 : Int32) (A : Exa Z h0 a "java/lang/String") (F1 : Fld Z h0 a "java/lang/String" "coder" "B" (.int (1 : Int32))) (F2 : Fld Z h0 a "java/lang/String" "value" "[B" (.ref d)) (VD : Arv Z h0 d kd .byte (6 : Int32) [(.int (lo8 x1)), (.int (hi8 x1)), (.int (lo8 x2)), (.int (hi8 x2)), (.int (lo8 x3)), (.int (hi8 x3))] (.int (0 : Int32))) (cs : Int32) (S_cs : Sta Z Z.heap "java/lang/String" "COMPACT_STRINGS" "Z" (.int cs)) (hcs : ¬ cs = 0) (hc1 : ChI x1) (hc2 : ChI x2) (hc3 : ChI x3) (S_as : SAs Z) (S_hb : SHb Z) (S_lb : SLb Z) (fm : Value) (hfm : fm.isRef = true) (S_fm : SFm Z fm) :
    ConW FrameEnd l Z [] (⟨"java/lang/String", "codePointAt", "(I)I"⟩ : MethodName) jdk_42_method_57_code 3 (some .int) ({ frames := 3, cells := 0, slots := 0, locals := 44 } : Room) #[(.ref a), (.int (1 : Int32))] h0 (Pure h0 (some (.int (cpN (2 : Int32) (3 : Int32) x2 x3)))) := by
  refine conOf (plainFor_of_name pn_java_lang_String) ?_
  intro p e s m below mth cc s₁ X0 hx hby hml hown hnm hret hlk hZ e0
  have N0 := Fr.nil n0
  refine Fin.came (castTop (t := _) (by first | (simp [entryFrame, mkF, argsToLocals, Value.category]; done) | rfl) (Steps.refl _) : Steps p.tables e below (s₁.setTop (entryFrame m #[(.ref a), (.int (1 : Int32))] 3)) (s₁.setTop (mkF m 0 #[vr a, vi (1 : Int32), .unset] []))) ?_
  refine .go (fun _ k => XS.aloadN X0.here hx rfl (hb hby d25_0) rfl rfl k) ?_
  obtain ⟨v11, T11, L11, X11, q11, st11⟩ := callVt X0 hx hZ (y := (⟨"java/lang/String", "isLatin1", "()Z"⟩ : MethodName)) hown (hw _ w_106) (hw _ w_107) (hw _ w_109) (hw _ w_108) (hw _ w_12) (hw _ w_110) (by decide) (W := 0) (rmIsL1 l Z a0 hw n0 h0 O a F1 cs S_cs hcs) e0 A (by decide) (by decide) (by decide) (by decide) (g := (mkF m 1 #[vr a, vi (1 : Int32), .unset] [(.ref a)])) rfl (by rw [hml]; rfl) (argsL := []) (rest := []) (lenOf pd_ocZ rfl) rfl (wk rfl rfl) (hb hby d25_1)
  obtain ⟨rfl, e11, rfl⟩ := q11
  have N11 := Fr.app N0 (Fr.nil n0)
  refine Fin.go st11 ?_
  show Fin _ _ _ _ _ _ _ _ T11 (mkF m 4 #[vr a, vi (1 : Int32), .unset] [(.int (0 : Int32))])
  refine .go (fun _ k => XS.ifYes X11.here hx rfl (pc0 := 4) (pc' := 27) rfl (hb hby d25_4) rfl (XT.i0_eq_t (by decide)) (by decide) (by decide) k) ?_
  show Fin _ _ _ _ _ _ _ _ T11 (mkF m 27 #[vr a, vi (1 : Int32), .unset] [])
  refine .go (fun _ k => XS.aloadN X11.here hx rfl (hb hby d25_27) rfl rfl k) ?_
  obtain ⟨T12, X12, e12, st12⟩ := getF X11 hx hZ hown (host := "") (Or.inl (hw _ w_37)) Via.refl e11 F2 (g := (mkF m 28 #[vr a, vi (1 : Int32), .unset] [(.ref a)])) rfl rfl (hb hby d25_28)
  refine Fin.go st12 ?_
  show Fin _ _ _ _ _ _ _ _ T12 (mkF m 31 #[vr a, vi (1 : Int32), .unset] [(.ref d)])
  obtain ⟨cz13, B13, q13, S13, M13, H13, G13⟩ := id VD
  refine Fin.go (fun _ k => X12.arraylength hx (by rw [e12]; exact B13.1) (State.isArrayOf_alike hZ.alike B13.2.1) (g := (mkF m 31 #[vr a, vi (1 : Int32), .unset] [(.ref d)])) rfl rfl (hb hby d25_31) _ k) ?_
  rw [len_of S13 M13]
  show Fin _ _ _ _ _ _ _ _ T12 (mkF m 32 #[vr a, vi (1 : Int32), .unset] [(.int (6 : Int32))])
  refine .go (fun _ k => XS.iconst X12.here hx rfl (hb hby d25_32) k) ?_
  refine .go (fun _ k => XT.ishr X12.here hx rfl (hb hby d25_33) rfl k) ?_
  refine .go (fun _ k => XS.istoreN X12.here hx rfl (hb hby d25_34) rfl (l' := #[vr a, vi (1 : Int32), vi ((6 : Int32) >>> ((1 : Int32) &&& 31))]) rfl k) ?_
  show Fin _ _ _ _ _ _ _ _ T12 (mkF m 35 #[vr a, vi (1 : Int32), vi ((6 : Int32) >>> ((1 : Int32) &&& 31))] [])
  rw [show ((6 : Int32) >>> ((1 : Int32) &&& 31)) = (3 : Int32) from by decide]
  show Fin _ _ _ _ _ _ _ _ T12 (mkF m 35 #[vr a, vi (1 : Int32), vi (3 : Int32)] [])
  refine .go (fun _ k => XS.iloadN X12.here hx rfl (hb hby d25_35) rfl k) ?_
  refine .go (fun _ k => XS.iloadN X12.here hx rfl (hb hby d25_36) rfl k) ?_
  obtain ⟨v14, T14, L14, X14, q14, st14⟩ := callSt X12 hx hZ hown (hw _ w_111) (hw _ w_112) (hw _ w_12) (hw _ w_113) (by decide) (W := 0) (rmSCI l Z a0 hw n0 h0 O (1 : Int32) (3 : Int32) (by decide) (by decide) fm hfm S_fm) e12 (by decide) (by decide) (by decide) (by decide) (g := (mkF m 37 #[vr a, vi (1 : Int32), vi (3 : Int32)] [(.int (3 : Int32)), (.int (1 : Int32))])) rfl (by rw [hml]; rfl) (argsL := [(.int (1 : Int32)), (.int (3 : Int32))]) (rest := []) (lenOf pd_oIIcV rfl) rfl (wk rfl rfl) (hb hby d25_37)
  obtain ⟨rfl, e14, rfl⟩ := q14
  have N14 := Fr.app N11 (Fr.nil n0)
  refine Fin.go st14 ?_
  show Fin _ _ _ _ _ _ _ _ T14 (mkF m 40 #[vr a, vi (1 : Int32), vi (3 : Int32)] [])
  refine .go (fun _ k => XS.aloadN X14.here hx rfl (hb hby d25_40) rfl rfl k) ?_
  obtain ⟨T15, X15, e15, st15⟩ := getF X14 hx hZ hown (host := "") (Or.inl (hw _ w_37)) Via.refl e14 F2 (g := (mkF m 41 #[vr a, vi (1 : Int32), vi (3 : Int32)] [(.ref a)])) rfl rfl (hb hby d25_41)
  refine Fin.go st15 ?_
  show Fin _ _ _ _ _ _ _ _ T15 (mkF m 44 #[vr a, vi (1 : Int32), vi (3 : Int32)] [(.ref d)])
  refine .go (fun _ k => XS.iloadN X15.here hx rfl (hb hby d25_44) rfl k) ?_
  refine .go (fun _ k => XS.iloadN X15.here hx rfl (hb hby d25_45) rfl k) ?_
  obtain ⟨v16, T16, L16, X16, q16, st16⟩ := callSt X15 hx hZ hown (hw _ w_119) (hw _ w_120) (hw _ w_26) (hw _ w_121) (by decide) (W := 0) (rmC3_3_1 l Z a0 hw n0 h0 O d kd x1 x2 x3 hc1 hc2 hc3 VD S_as S_hb S_lb) e15 (by decide) (by decide) (by decide) (by decide) (g := (mkF m 46 #[vr a, vi (1 : Int32), vi (3 : Int32)] [(.int (3 : Int32)), (.int (1 : Int32)), (.ref d)])) rfl (by rw [hml]; rfl) (argsL := [(.ref d), (.int (1 : Int32)), (.int (3 : Int32))]) (rest := []) (lenOf pd_oABIIcI rfl) rfl (wk rfl rfl) (hb hby d25_46)
  obtain ⟨rfl, e16, rfl⟩ := q16
  have N16 := Fr.app N14 (Fr.nil n0)
  refine Fin.go st16 ?_
  show Fin _ _ _ _ _ _ _ _ T16 (mkF m 49 #[vr a, vi (1 : Int32), vi (3 : Int32)] [(.int (cpN (2 : Int32) (3 : Int32) x2 x3))])
  exact Fin.leaveN X16 e16 hlk (v := some (.int (cpN (2 : Int32) (3 : Int32) x2 x3))) (nvS hret) (by decide) (by decide) ⟨rfl, rfl, rfl⟩ (fun fs hr => retI X16 hx hret (hb hby d25_49) hr)
theorem rmAl_3_1 (l : Launch) (Z : State) (a0 : Array Value) (hw : HW a0 Z) (n0 : Nat) (h0 : Heap) (O : Old Z n0 h0) (a d : Addr) (kd : ClassId) (x1 x2 x3 : Int32) (A : Exa Z h0 a "java/lang/String") (F1 : Fld Z h0 a "java/lang/String" "coder" "B" (.int (0 : Int32))) (F2 : Fld Z h0 a "java/lang/String" "value" "[B" (.ref d)) (VD : Arv Z h0 d kd .byte (3 : Int32) [(.int ((Int32.toInt8 x1).toInt32)), (.int ((Int32.toInt8 x2).toInt32)), (.int ((Int32.toInt8 x3).toInt32))] (.int (0 : Int32))) (cs : Int32) (S_cs : Sta Z Z.heap "java/lang/String" "COMPACT_STRINGS" "Z" (.int cs)) (hcs : ¬ cs = 0) (hc1 : ChI x1) (hc2 : ChI x2) (hc3 : ChI x3) (hp1 : ¬ (255 : Int32) < x1) (hp2 : ¬ (255 : Int32) < x2) (hp3 : ¬ (255 : Int32) < x3) (fm : Value) (hfm : fm.isRef = true) (S_fm : SFm Z fm) :
    ConW FrameEnd l Z [] (⟨"java/lang/String", "codePointAt", "(I)I"⟩ : MethodName) jdk_42_method_57_code 3 (some .int) ({ frames := 3, cells := 0, slots := 0, locals := 44 } : Room) #[(.ref a), (.int (1 : Int32))] h0 (Pure h0 (some (.int (cpN (2 : Int32) (3 : Int32) x2 x3)))) := by
  refine conOf (plainFor_of_name pn_java_lang_String) ?_
  intro p e s m below mth cc s₁ X0 hx hby hml hown hnm hret hlk hZ e0
  have N0 := Fr.nil n0
  refine Fin.came (castTop (t := _) (by first | (simp [entryFrame, mkF, argsToLocals, Value.category]; done) | rfl) (Steps.refl _) : Steps p.tables e below (s₁.setTop (entryFrame m #[(.ref a), (.int (1 : Int32))] 3)) (s₁.setTop (mkF m 0 #[vr a, vi (1 : Int32), .unset] []))) ?_
  refine .go (fun _ k => XS.aloadN X0.here hx rfl (hb hby d25_0) rfl rfl k) ?_
  obtain ⟨v11, T11, L11, X11, q11, st11⟩ := callVt X0 hx hZ (y := (⟨"java/lang/String", "isLatin1", "()Z"⟩ : MethodName)) hown (hw _ w_106) (hw _ w_107) (hw _ w_109) (hw _ w_108) (hw _ w_12) (hw _ w_110) (by decide) (W := 0) (rmIsL0 l Z a0 hw n0 h0 O a F1 cs S_cs hcs) e0 A (by decide) (by decide) (by decide) (by decide) (g := (mkF m 1 #[vr a, vi (1 : Int32), .unset] [(.ref a)])) rfl (by rw [hml]; rfl) (argsL := []) (rest := []) (lenOf pd_ocZ rfl) rfl (wk rfl rfl) (hb hby d25_1)
  obtain ⟨rfl, e11, rfl⟩ := q11
  have N11 := Fr.app N0 (Fr.nil n0)
  refine Fin.go st11 ?_
  show Fin _ _ _ _ _ _ _ _ T11 (mkF m 4 #[vr a, vi (1 : Int32), .unset] [(.int (1 : Int32))])
  refine .go (fun _ k => XS.ifNo X11.here hx rfl (hb hby d25_4) rfl (XT.i0_eq_f (by decide)) k) ?_
  show Fin _ _ _ _ _ _ _ _ T11 (mkF m 7 #[vr a, vi (1 : Int32), .unset] [])
  refine .go (fun _ k => XS.iloadN X11.here hx rfl (hb hby d25_7) rfl k) ?_
  refine .go (fun _ k => XS.aloadN X11.here hx rfl (hb hby d25_8) rfl rfl k) ?_
  obtain ⟨T12, X12, e12, st12⟩ := getF X11 hx hZ hown (host := "") (Or.inl (hw _ w_37)) Via.refl e11 F2 (g := (mkF m 9 #[vr a, vi (1 : Int32), .unset] [(.ref a), (.int (1 : Int32))])) rfl rfl (hb hby d25_9)
  refine Fin.go st12 ?_
  show Fin _ _ _ _ _ _ _ _ T12 (mkF m 12 #[vr a, vi (1 : Int32), .unset] [(.ref d), (.int (1 : Int32))])
  obtain ⟨cz13, B13, q13, S13, M13, H13, G13⟩ := id VD
  refine Fin.go (fun _ k => X12.arraylength hx (by rw [e12]; exact B13.1) (State.isArrayOf_alike hZ.alike B13.2.1) (g := (mkF m 12 #[vr a, vi (1 : Int32), .unset] [(.ref d), (.int (1 : Int32))])) rfl rfl (hb hby d25_12) _ k) ?_
  rw [len_of S13 M13]
  show Fin _ _ _ _ _ _ _ _ T12 (mkF m 13 #[vr a, vi (1 : Int32), .unset] [(.int (3 : Int32)), (.int (1 : Int32))])
  obtain ⟨v14, T14, L14, X14, q14, st14⟩ := callSt X12 hx hZ hown (hw _ w_111) (hw _ w_112) (hw _ w_12) (hw _ w_113) (by decide) (W := 0) (rmSCI l Z a0 hw n0 h0 O (1 : Int32) (3 : Int32) (by decide) (by decide) fm hfm S_fm) e12 (by decide) (by decide) (by decide) (by decide) (g := (mkF m 13 #[vr a, vi (1 : Int32), .unset] [(.int (3 : Int32)), (.int (1 : Int32))])) rfl (by rw [hml]; rfl) (argsL := [(.int (1 : Int32)), (.int (3 : Int32))]) (rest := []) (lenOf pd_oIIcV rfl) rfl (wk rfl rfl) (hb hby d25_13)
  obtain ⟨rfl, e14, rfl⟩ := q14
  have N14 := Fr.app N11 (Fr.nil n0)
  refine Fin.go st14 ?_
  show Fin _ _ _ _ _ _ _ _ T14 (mkF m 16 #[vr a, vi (1 : Int32), .unset] [])
  refine .go (fun _ k => XS.aloadN X14.here hx rfl (hb hby d25_16) rfl rfl k) ?_
  obtain ⟨T15, X15, e15, st15⟩ := getF X14 hx hZ hown (host := "") (Or.inl (hw _ w_37)) Via.refl e14 F2 (g := (mkF m 17 #[vr a, vi (1 : Int32), .unset] [(.ref a)])) rfl rfl (hb hby d25_17)
  refine Fin.go st15 ?_
  show Fin _ _ _ _ _ _ _ _ T15 (mkF m 20 #[vr a, vi (1 : Int32), .unset] [(.ref d)])
  refine .go (fun _ k => XS.iloadN X15.here hx rfl (hb hby d25_20) rfl k) ?_
  obtain ⟨cz16, B16, q16, S16, M16, H16, G16⟩ := id VD
  have i16 := inb_of S16 ⟨(by decide : ¬ ((1 : Int32) < (0 : Int32))), (by decide : (1 : Int32) < (3 : Int32))⟩
  refine Fin.go (fun _ k => X15.baloadBytes hx (j := (1 : Int32)) (v := (.int ((Int32.toInt8 x2).toInt32))) (by rw [e15]; exact B16.1) (State.isArrayOf_alike hZ.alike B16.2.1) B16.2.2 i16 (Has.at H16 i16 rfl) (g := (mkF m 21 #[vr a, vi (1 : Int32), .unset] [(.int (1 : Int32)), (.ref d)])) rfl rfl (hb hby d25_21) _ k) ?_
  show Fin _ _ _ _ _ _ _ _ T15 (mkF m 22 #[vr a, vi (1 : Int32), .unset] [(.int ((Int32.toInt8 x2).toInt32))])
  refine .go (fun _ k => XS.sipush X15.here hx rfl (hb hby d25_22) k) ?_
  refine .go (fun _ k => XS.iand X15.here hx rfl (hb hby d25_25) rfl k) ?_
  exact Fin.leaveN X15 e15 hlk (v := some (.int (((Int32.toInt8 x2).toInt32) &&& (255 : Int32)))) (nvS hret) (by decide) (by decide) ⟨by rw [cpN_l hp2, b8and _ hc2 hp2], rfl, rfl⟩ (fun fs hr => retI X15 hx hret (hb hby d25_26) hr)
theorem rmC4_3_2 (l : Launch) (Z : State) (a0 : Array Value) (hw : HW a0 Z) (n0 : Nat) (h0 : Heap) (O : Old Z n0 h0) (d : Addr) (kd : ClassId) (x1 x2 x3 : Int32) (hc1 : ChI x1) (hc2 : ChI x2) (hc3 : ChI x3) (VD : Arv Z h0 d kd .byte (6 : Int32) [(.int (lo8 x1)), (.int (hi8 x1)), (.int (lo8 x2)), (.int (hi8 x2)), (.int (lo8 x3)), (.int (hi8 x3))] (.int (0 : Int32))) (S_as : SAs Z) (S_hb : SHb Z) (S_lb : SLb Z) :
    ConW FrameEnd l Z [] (⟨"java/lang/StringUTF16", "codePointAt", "([BIIZ)I"⟩ : MethodName) jdk_52_method_7_code 6 (some .int) ({ frames := 1, cells := 0, slots := 0, locals := 13 } : Room) #[(.ref d), (.int (2 : Int32)), (.int (3 : Int32)), (.int (0 : Int32))] h0 (Pure h0 (some (.int (cpN (3 : Int32) (3 : Int32) x3 x3)))) := by
  refine conOf (plainFor_of_name pn_java_lang_StringUTF16) ?_
  intro p e s m below mth cc s₁ X0 hx hby hml hown hnm hret hlk hZ e0
  have N0 := Fr.nil n0
  refine Fin.came (castTop (t := _) (by first | (simp [entryFrame, mkF, argsToLocals, Value.category]; done) | rfl) (Steps.refl _) : Steps p.tables e below (s₁.setTop (entryFrame m #[(.ref d), (.int (2 : Int32)), (.int (3 : Int32)), (.int (0 : Int32))] 6)) (s₁.setTop (mkF m 0 #[vr d, vi (2 : Int32), vi (3 : Int32), vi (0 : Int32), .unset, .unset] []))) ?_
  obtain ⟨T11, X11, e11, st11⟩ := getS2 X0 hx hZ hown (host := "") (Or.inl (hw _ w_95)) Via.refl e0 (S_as.ext O.2) (g := (mkF m 0 #[vr d, vi (2 : Int32), vi (3 : Int32), vi (0 : Int32), .unset, .unset] [])) rfl (hb hby d30_0)
  refine Fin.go st11 ?_
  show Fin _ _ _ _ _ _ _ _ T11 (mkF m 3 #[vr d, vi (2 : Int32), vi (3 : Int32), vi (0 : Int32), .unset, .unset] [(.int (1 : Int32))])
  refine .go (fun _ k => XS.ifYes X11.here hx rfl (pc0 := 3) (pc' := 19) rfl (hb hby d30_3) rfl (XT.i0_ne_t (by decide)) (by decide) (by decide) k) ?_
  show Fin _ _ _ _ _ _ _ _ T11 (mkF m 19 #[vr d, vi (2 : Int32), vi (3 : Int32), vi (0 : Int32), .unset, .unset] [])
  refine .go (fun _ k => XS.iloadN X11.here hx rfl (hb hby d30_19) rfl k) ?_
  refine .go (fun _ k => XS.ifYes X11.here hx rfl (pc0 := 20) (pc' := 28) rfl (hb hby d30_20) rfl (XT.i0_eq_t (by decide)) (by decide) (by decide) k) ?_
  show Fin _ _ _ _ _ _ _ _ T11 (mkF m 28 #[vr d, vi (2 : Int32), vi (3 : Int32), vi (0 : Int32), .unset, .unset] [])
  refine .go (fun _ k => XS.aloadN X11.here hx rfl (hb hby d30_28) rfl rfl k) ?_
  refine .go (fun _ k => XS.iloadN X11.here hx rfl (hb hby d30_29) rfl k) ?_
  obtain ⟨v12, T12, L12, X12, q12, st12⟩ := callSt X11 hx hZ hown (hw _ w_98) (hw _ w_99) (hw _ w_26) (hw _ w_100) (by decide) (W := 0) (rmGet3_2 l Z a0 hw n0 h0 O d kd x1 x2 x3 hc3 VD S_as S_hb S_lb) e11 (by decide) (by decide) (by decide) (by decide) (g := (mkF m 30 #[vr d, vi (2 : Int32), vi (3 : Int32), vi (0 : Int32), .unset, .unset] [(.int (2 : Int32)), (.ref d)])) rfl (by rw [hml]; rfl) (argsL := [(.ref d), (.int (2 : Int32))]) (rest := []) (lenOf pd_oABIcC rfl) rfl (wk rfl rfl) (hb hby d30_30)
  obtain ⟨rfl, e12, rfl⟩ := q12
  have N12 := Fr.app N0 (Fr.nil n0)
  refine Fin.go st12 ?_
  show Fin _ _ _ _ _ _ _ _ T12 (mkF m 33 #[vr d, vi (2 : Int32), vi (3 : Int32), vi (0 : Int32), .unset, .unset] [(.int x3)])
  refine .go (fun _ k => XS.istore X12.here hx rfl (hb hby d30_33) rfl (l' := #[vr d, vi (2 : Int32), vi (3 : Int32), vi (0 : Int32), vi x3, .unset]) rfl k) ?_
  refine .go (fun _ k => XS.iload X12.here hx rfl (hb hby d30_35) rfl k) ?_
  obtain ⟨v13, T13, L13, X13, q13, st13⟩ := callSt X12 hx hZ hown (hw _ w_125) (hw _ w_126) (hw _ w_127) (hw _ w_128) (by decide) (W := 0) (rmHS l Z a0 hw n0 h0 O x3) e12 (by decide) (by decide) (by decide) (by decide) (g := (mkF m 37 #[vr d, vi (2 : Int32), vi (3 : Int32), vi (0 : Int32), vi x3, .unset] [(.int x3)])) rfl (by rw [hml]; rfl) (argsL := [(.int x3)]) (rest := []) (lenOf pd_oCcZ rfl) rfl (wk rfl rfl) (hb hby d30_37)
  obtain ⟨rfl, e13, rfl⟩ := q13
  have N13 := Fr.app N12 (Fr.nil n0)
  refine Fin.go st13 ?_
  show Fin _ _ _ _ _ _ _ _ T13 (mkF m 40 #[vr d, vi (2 : Int32), vi (3 : Int32), vi (0 : Int32), vi x3, .unset] [(.int (hs x3))])
  by_cases c40 : (hs x3) = 0
  · refine .go (fun _ k => XS.ifYes X13.here hx rfl (pc0 := 40) (pc' := 83) rfl (hb hby d30_40) rfl (XT.i0_eq_t c40) (by decide) (by decide) k) ?_
    show Fin _ _ _ _ _ _ _ _ T13 (mkF m 83 #[vr d, vi (2 : Int32), vi (3 : Int32), vi (0 : Int32), vi x3, .unset] [])
    refine .go (fun _ k => XS.iload X13.here hx rfl (hb hby d30_83) rfl k) ?_
    exact Fin.leaveN X13 e13 hlk (v := some (.int x3)) (nvS hret) (by decide) (by decide) ⟨by simp [cpN, cp2, c40], rfl, rfl⟩ (fun fs hr => retI X13 hx hret (hb hby d30_85) hr)
  · refine .go (fun _ k => XS.ifNo X13.here hx rfl (hb hby d30_40) rfl (XT.i0_eq_f c40) k) ?_
    show Fin _ _ _ _ _ _ _ _ T13 (mkF m 43 #[vr d, vi (2 : Int32), vi (3 : Int32), vi (0 : Int32), vi x3, .unset] [])
    refine .go (fun _ k => XS.iinc X13.here hx rfl (hb hby d30_43) rfl (l' := #[vr d, vi ((2 : Int32) + (1 : Int32)), vi (3 : Int32), vi (0 : Int32), vi x3, .unset]) rfl k) ?_
    show Fin _ _ _ _ _ _ _ _ T13 (mkF m 46 #[vr d, vi ((2 : Int32) + (1 : Int32)), vi (3 : Int32), vi (0 : Int32), vi x3, .unset] [])
    rw [show ((2 : Int32) + (1 : Int32)) = (3 : Int32) from by decide]
    show Fin _ _ _ _ _ _ _ _ T13 (mkF m 46 #[vr d, vi (3 : Int32), vi (3 : Int32), vi (0 : Int32), vi x3, .unset] [])
    refine .go (fun _ k => XS.iloadN X13.here hx rfl (hb hby d30_46) rfl k) ?_
    refine .go (fun _ k => XS.iloadN X13.here hx rfl (hb hby d30_47) rfl k) ?_
    refine .go (fun _ k => XS.icmpYes X13.here hx rfl (pc0 := 48) (pc' := 83) rfl (hb hby d30_48) rfl (XT.ii_ge_t (by decide)) (by decide) (by decide) k) ?_
    show Fin _ _ _ _ _ _ _ _ T13 (mkF m 83 #[vr d, vi (3 : Int32), vi (3 : Int32), vi (0 : Int32), vi x3, .unset] [])
    refine .go (fun _ k => XS.iload X13.here hx rfl (hb hby d30_83) rfl k) ?_
    exact Fin.leaveN X13 e13 hlk (v := some (.int x3)) (nvS hret) (by decide) (by decide) ⟨by simp [cpN, cp2, c40], rfl, rfl⟩ (fun fs hr => retI X13 hx hret (hb hby d30_85) hr)
theorem rmC3_3_2 (l : Launch) (Z : State) (a0 : Array Value) (hw : HW a0 Z) (n0 : Nat) (h0 : Heap) (O : Old Z n0 h0) (d : Addr) (kd : ClassId) (x1 x2 x3 : Int32) (hc1 : ChI x1) (hc2 : ChI x2) (hc3 : ChI x3) (VD : Arv Z h0 d kd .byte (6 : Int32) [(.int (lo8 x1)), (.int (hi8 x1)), (.int (lo8 x2)), (.int (hi8 x2)), (.int (lo8 x3)), (.int (hi8 x3))] (.int (0 : Int32))) (S_as : SAs Z) (S_hb : SHb Z) (S_lb : SLb Z) :
    ConW FrameEnd l Z [] (⟨"java/lang/StringUTF16", "codePointAt", "([BII)I"⟩ : MethodName) jdk_52_method_8_code 3 (some .int) ({ frames := 2, cells := 0, slots := 0, locals := 30 } : Room) #[(.ref d), (.int (2 : Int32)), (.int (3 : Int32))] h0 (Pure h0 (some (.int (cpN (3 : Int32) (3 : Int32) x3 x3)))) := by
  refine conOf (plainFor_of_name pn_java_lang_StringUTF16) ?_
  intro p e s m below mth cc s₁ X0 hx hby hml hown hnm hret hlk hZ e0
  have N0 := Fr.nil n0
  refine Fin.came (castTop (t := _) (by first | (simp [entryFrame, mkF, argsToLocals, Value.category]; done) | rfl) (Steps.refl _) : Steps p.tables e below (s₁.setTop (entryFrame m #[(.ref d), (.int (2 : Int32)), (.int (3 : Int32))] 3)) (s₁.setTop (mkF m 0 #[vr d, vi (2 : Int32), vi (3 : Int32)] []))) ?_
  refine .go (fun _ k => XS.aloadN X0.here hx rfl (hb hby d29_0) rfl rfl k) ?_
  refine .go (fun _ k => XS.iloadN X0.here hx rfl (hb hby d29_1) rfl k) ?_
  refine .go (fun _ k => XS.iloadN X0.here hx rfl (hb hby d29_2) rfl k) ?_
  refine .go (fun _ k => XS.iconst X0.here hx rfl (hb hby d29_3) k) ?_
  obtain ⟨v11, T11, L11, X11, q11, st11⟩ := callSt X0 hx hZ hown (hw _ w_122) (hw _ w_123) (hw _ w_26) (hw _ w_124) (by decide) (W := 0) (rmC4_3_2 l Z a0 hw n0 h0 O d kd x1 x2 x3 hc1 hc2 hc3 VD S_as S_hb S_lb) e0 (by decide) (by decide) (by decide) (by decide) (g := (mkF m 4 #[vr d, vi (2 : Int32), vi (3 : Int32)] [(.int (0 : Int32)), (.int (3 : Int32)), (.int (2 : Int32)), (.ref d)])) rfl (by rw [hml]; rfl) (argsL := [(.ref d), (.int (2 : Int32)), (.int (3 : Int32)), (.int (0 : Int32))]) (rest := []) (lenOf pd_oABIIZcI rfl) rfl (wk rfl rfl) (hb hby d29_4)
  obtain ⟨rfl, e11, rfl⟩ := q11
  have N11 := Fr.app N0 (Fr.nil n0)
  refine Fin.go st11 ?_
  show Fin _ _ _ _ _ _ _ _ T11 (mkF m 7 #[vr d, vi (2 : Int32), vi (3 : Int32)] [(.int (cpN (3 : Int32) (3 : Int32) x3 x3))])
  exact Fin.leaveN X11 e11 hlk (v := some (.int (cpN (3 : Int32) (3 : Int32) x3 x3))) (nvS hret) (by decide) (by decide) ⟨rfl, rfl, rfl⟩ (fun fs hr => retI X11 hx hret (hb hby d29_7) hr)
theorem rmAu_3_2 (l : Launch) (Z : State) (a0 : Array Value) (hw : HW a0 Z) (n0 : Nat) (h0 : Heap) (O : Old Z n0 h0) (a d : Addr) (kd : ClassId) (x1 x2 x3 : Int32) (A : Exa Z h0 a "java/lang/String") (F1 : Fld Z h0 a "java/lang/String" "coder" "B" (.int (1 : Int32))) (F2 : Fld Z h0 a "java/lang/String" "value" "[B" (.ref d)) (VD : Arv Z h0 d kd .byte (6 : Int32) [(.int (lo8 x1)), (.int (hi8 x1)), (.int (lo8 x2)), (.int (hi8 x2)), (.int (lo8 x3)), (.int (hi8 x3))] (.int (0 : Int32))) (cs : Int32) (S_cs : Sta Z Z.heap "java/lang/String" "COMPACT_STRINGS" "Z" (.int cs)) (hcs : ¬ cs = 0) (hc1 : ChI x1) (hc2 : ChI x2) (hc3 : ChI x3) (S_as : SAs Z) (S_hb : SHb Z) (S_lb : SLb Z) (fm : Value) (hfm : fm.isRef = true) (S_fm : SFm Z fm) :
    ConW FrameEnd l Z [] (⟨"java/lang/String", "codePointAt", "(I)I"⟩ : MethodName) jdk_42_method_57_code 3 (some .int) ({ frames := 3, cells := 0, slots := 0, locals := 44 } : Room) #[(.ref a), (.int (2 : Int32))] h0 (Pure h0 (some (.int (cpN (3 : Int32) (3 : Int32) x3 x3)))) := by
  refine conOf (plainFor_of_name pn_java_lang_String) ?_
  intro p e s m below mth cc s₁ X0 hx hby hml hown hnm hret hlk hZ e0
  have N0 := Fr.nil n0
  refine Fin.came (castTop (t := _) (by first | (simp [entryFrame, mkF, argsToLocals, Value.category]; done) | rfl) (Steps.refl _) : Steps p.tables e below (s₁.setTop (entryFrame m #[(.ref a), (.int (2 : Int32))] 3)) (s₁.setTop (mkF m 0 #[vr a, vi (2 : Int32), .unset] []))) ?_
  refine .go (fun _ k => XS.aloadN X0.here hx rfl (hb hby d25_0) rfl rfl k) ?_
  obtain ⟨v11, T11, L11, X11, q11, st11⟩ := callVt X0 hx hZ (y := (⟨"java/lang/String", "isLatin1", "()Z"⟩ : MethodName)) hown (hw _ w_106) (hw _ w_107) (hw _ w_109) (hw _ w_108) (hw _ w_12) (hw _ w_110) (by decide) (W := 0) (rmIsL1 l Z a0 hw n0 h0 O a F1 cs S_cs hcs) e0 A (by decide) (by decide) (by decide) (by decide) (g := (mkF m 1 #[vr a, vi (2 : Int32), .unset] [(.ref a)])) rfl (by rw [hml]; rfl) (argsL := []) (rest := []) (lenOf pd_ocZ rfl) rfl (wk rfl rfl) (hb hby d25_1)
  obtain ⟨rfl, e11, rfl⟩ := q11
  have N11 := Fr.app N0 (Fr.nil n0)
  refine Fin.go st11 ?_
  show Fin _ _ _ _ _ _ _ _ T11 (mkF m 4 #[vr a, vi (2 : Int32), .unset] [(.int (0 : Int32))])
  refine .go (fun _ k => XS.ifYes X11.here hx rfl (pc0 := 4) (pc' := 27) rfl (hb hby d25_4) rfl (XT.i0_eq_t (by decide)) (by decide) (by decide) k) ?_
  show Fin _ _ _ _ _ _ _ _ T11 (mkF m 27 #[vr a, vi (2 : Int32), .unset] [])
  refine .go (fun _ k => XS.aloadN X11.here hx rfl (hb hby d25_27) rfl rfl k) ?_
  obtain ⟨T12, X12, e12, st12⟩ := getF X11 hx hZ hown (host := "") (Or.inl (hw _ w_37)) Via.refl e11 F2 (g := (mkF m 28 #[vr a, vi (2 : Int32), .unset] [(.ref a)])) rfl rfl (hb hby d25_28)
  refine Fin.go st12 ?_
  show Fin _ _ _ _ _ _ _ _ T12 (mkF m 31 #[vr a, vi (2 : Int32), .unset] [(.ref d)])
  obtain ⟨cz13, B13, q13, S13, M13, H13, G13⟩ := id VD
  refine Fin.go (fun _ k => X12.arraylength hx (by rw [e12]; exact B13.1) (State.isArrayOf_alike hZ.alike B13.2.1) (g := (mkF m 31 #[vr a, vi (2 : Int32), .unset] [(.ref d)])) rfl rfl (hb hby d25_31) _ k) ?_
  rw [len_of S13 M13]
  show Fin _ _ _ _ _ _ _ _ T12 (mkF m 32 #[vr a, vi (2 : Int32), .unset] [(.int (6 : Int32))])
  refine .go (fun _ k => XS.iconst X12.here hx rfl (hb hby d25_32) k) ?_
  refine .go (fun _ k => XT.ishr X12.here hx rfl (hb hby d25_33) rfl k) ?_
  refine .go (fun _ k => XS.istoreN X12.here hx rfl (hb hby d25_34) rfl (l' := #[vr a, vi (2 : Int32), vi ((6 : Int32) >>> ((1 : Int32) &&& 31))]) rfl k) ?_
  show Fin _ _ _ _ _ _ _ _ T12 (mkF m 35 #[vr a, vi (2 : Int32), vi ((6 : Int32) >>> ((1 : Int32) &&& 31))] [])
  rw [show ((6 : Int32) >>> ((1 : Int32) &&& 31)) = (3 : Int32) from by decide]
  show Fin _ _ _ _ _ _ _ _ T12 (mkF m 35 #[vr a, vi (2 : Int32), vi (3 : Int32)] [])
  refine .go (fun _ k => XS.iloadN X12.here hx rfl (hb hby d25_35) rfl k) ?_
  refine .go (fun _ k => XS.iloadN X12.here hx rfl (hb hby d25_36) rfl k) ?_
  obtain ⟨v14, T14, L14, X14, q14, st14⟩ := callSt X12 hx hZ hown (hw _ w_111) (hw _ w_112) (hw _ w_12) (hw _ w_113) (by decide) (W := 0) (rmSCI l Z a0 hw n0 h0 O (2 : Int32) (3 : Int32) (by decide) (by decide) fm hfm S_fm) e12 (by decide) (by decide) (by decide) (by decide) (g := (mkF m 37 #[vr a, vi (2 : Int32), vi (3 : Int32)] [(.int (3 : Int32)), (.int (2 : Int32))])) rfl (by rw [hml]; rfl) (argsL := [(.int (2 : Int32)), (.int (3 : Int32))]) (rest := []) (lenOf pd_oIIcV rfl) rfl (wk rfl rfl) (hb hby d25_37)
  obtain ⟨rfl, e14, rfl⟩ := q14
  have N14 := Fr.app N11 (Fr.nil n0)
  refine Fin.go st14 ?_
  show Fin _ _ _ _ _ _ _ _ T14 (mkF m 40 #[vr a, vi (2 : Int32), vi (3 : Int32)] [])
  refine .go (fun _ k => XS.aloadN X14.here hx rfl (hb hby d25_40) rfl rfl k) ?_
  obtain ⟨T15, X15, e15, st15⟩ := getF X14 hx hZ hown (host := "") (Or.inl (hw _ w_37)) Via.refl e14 F2 (g := (mkF m 41 #[vr a, vi (2 : Int32), vi (3 : Int32)] [(.ref a)])) rfl rfl (hb hby d25_41)
  refine Fin.go st15 ?_
  show Fin _ _ _ _ _ _ _ _ T15 (mkF m 44 #[vr a, vi (2 : Int32), vi (3 : Int32)] [(.ref d)])
  refine .go (fun _ k => XS.iloadN X15.here hx rfl (hb hby d25_44) rfl k) ?_
  refine .go (fun _ k => XS.iloadN X15.here hx rfl (hb hby d25_45) rfl k) ?_
  obtain ⟨v16, T16, L16, X16, q16, st16⟩ := callSt X15 hx hZ hown (hw _ w_119) (hw _ w_120) (hw _ w_26) (hw _ w_121) (by decide) (W := 0) (rmC3_3_2 l Z a0 hw n0 h0 O d kd x1 x2 x3 hc1 hc2 hc3 VD S_as S_hb S_lb) e15 (by decide) (by decide) (by decide) (by decide) (g := (mkF m 46 #[vr a, vi (2 : Int32), vi (3 : Int32)] [(.int (3 : Int32)), (.int (2 : Int32)), (.ref d)])) rfl (by rw [hml]; rfl) (argsL := [(.ref d), (.int (2 : Int32)), (.int (3 : Int32))]) (rest := []) (lenOf pd_oABIIcI rfl) rfl (wk rfl rfl) (hb hby d25_46)
  obtain ⟨rfl, e16, rfl⟩ := q16
  have N16 := Fr.app N14 (Fr.nil n0)
  refine Fin.go st16 ?_
  show Fin _ _ _ _ _ _ _ _ T16 (mkF m 49 #[vr a, vi (2 : Int32), vi (3 : Int32)] [(.int (cpN (3 : Int32) (3 : Int32) x3 x3))])
  exact Fin.leaveN X16 e16 hlk (v := some (.int (cpN (3 : Int32) (3 : Int32) x3 x3))) (nvS hret) (by decide) (by decide) ⟨rfl, rfl, rfl⟩ (fun fs hr => retI X16 hx hret (hb hby d25_49) hr)
theorem rmAl_3_2 (l : Launch) (Z : State) (a0 : Array Value) (hw : HW a0 Z) (n0 : Nat) (h0 : Heap) (O : Old Z n0 h0) (a d : Addr) (kd : ClassId) (x1 x2 x3 : Int32) (A : Exa Z h0 a "java/lang/String") (F1 : Fld Z h0 a "java/lang/String" "coder" "B" (.int (0 : Int32))) (F2 : Fld Z h0 a "java/lang/String" "value" "[B" (.ref d)) (VD : Arv Z h0 d kd .byte (3 : Int32) [(.int ((Int32.toInt8 x1).toInt32)), (.int ((Int32.toInt8 x2).toInt32)), (.int ((Int32.toInt8 x3).toInt32))] (.int (0 : Int32))) (cs : Int32) (S_cs : Sta Z Z.heap "java/lang/String" "COMPACT_STRINGS" "Z" (.int cs)) (hcs : ¬ cs = 0) (hc1 : ChI x1) (hc2 : ChI x2) (hc3 : ChI x3) (hp1 : ¬ (255 : Int32) < x1) (hp2 : ¬ (255 : Int32) < x2) (hp3 : ¬ (255 : Int32) < x3) (fm : Value) (hfm : fm.isRef = true) (S_fm : SFm Z fm) :
    ConW FrameEnd l Z [] (⟨"java/lang/String", "codePointAt", "(I)I"⟩ : MethodName) jdk_42_method_57_code 3 (some .int) ({ frames := 3, cells := 0, slots := 0, locals := 44 } : Room) #[(.ref a), (.int (2 : Int32))] h0 (Pure h0 (some (.int (cpN (3 : Int32) (3 : Int32) x3 x3)))) := by
  refine conOf (plainFor_of_name pn_java_lang_String) ?_
  intro p e s m below mth cc s₁ X0 hx hby hml hown hnm hret hlk hZ e0
  have N0 := Fr.nil n0
  refine Fin.came (castTop (t := _) (by first | (simp [entryFrame, mkF, argsToLocals, Value.category]; done) | rfl) (Steps.refl _) : Steps p.tables e below (s₁.setTop (entryFrame m #[(.ref a), (.int (2 : Int32))] 3)) (s₁.setTop (mkF m 0 #[vr a, vi (2 : Int32), .unset] []))) ?_
  refine .go (fun _ k => XS.aloadN X0.here hx rfl (hb hby d25_0) rfl rfl k) ?_
  obtain ⟨v11, T11, L11, X11, q11, st11⟩ := callVt X0 hx hZ (y := (⟨"java/lang/String", "isLatin1", "()Z"⟩ : MethodName)) hown (hw _ w_106) (hw _ w_107) (hw _ w_109) (hw _ w_108) (hw _ w_12) (hw _ w_110) (by decide) (W := 0) (rmIsL0 l Z a0 hw n0 h0 O a F1 cs S_cs hcs) e0 A (by decide) (by decide) (by decide) (by decide) (g := (mkF m 1 #[vr a, vi (2 : Int32), .unset] [(.ref a)])) rfl (by rw [hml]; rfl) (argsL := []) (rest := []) (lenOf pd_ocZ rfl) rfl (wk rfl rfl) (hb hby d25_1)
  obtain ⟨rfl, e11, rfl⟩ := q11
  have N11 := Fr.app N0 (Fr.nil n0)
  refine Fin.go st11 ?_
  show Fin _ _ _ _ _ _ _ _ T11 (mkF m 4 #[vr a, vi (2 : Int32), .unset] [(.int (1 : Int32))])
  refine .go (fun _ k => XS.ifNo X11.here hx rfl (hb hby d25_4) rfl (XT.i0_eq_f (by decide)) k) ?_
  show Fin _ _ _ _ _ _ _ _ T11 (mkF m 7 #[vr a, vi (2 : Int32), .unset] [])
  refine .go (fun _ k => XS.iloadN X11.here hx rfl (hb hby d25_7) rfl k) ?_
  refine .go (fun _ k => XS.aloadN X11.here hx rfl (hb hby d25_8) rfl rfl k) ?_
  obtain ⟨T12, X12, e12, st12⟩ := getF X11 hx hZ hown (host := "") (Or.inl (hw _ w_37)) Via.refl e11 F2 (g := (mkF m 9 #[vr a, vi (2 : Int32), .unset] [(.ref a), (.int (2 : Int32))])) rfl rfl (hb hby d25_9)
  refine Fin.go st12 ?_
  show Fin _ _ _ _ _ _ _ _ T12 (mkF m 12 #[vr a, vi (2 : Int32), .unset] [(.ref d), (.int (2 : Int32))])
  obtain ⟨cz13, B13, q13, S13, M13, H13, G13⟩ := id VD
  refine Fin.go (fun _ k => X12.arraylength hx (by rw [e12]; exact B13.1) (State.isArrayOf_alike hZ.alike B13.2.1) (g := (mkF m 12 #[vr a, vi (2 : Int32), .unset] [(.ref d), (.int (2 : Int32))])) rfl rfl (hb hby d25_12) _ k) ?_
  rw [len_of S13 M13]
  show Fin _ _ _ _ _ _ _ _ T12 (mkF m 13 #[vr a, vi (2 : Int32), .unset] [(.int (3 : Int32)), (.int (2 : Int32))])
  obtain ⟨v14, T14, L14, X14, q14, st14⟩ := callSt X12 hx hZ hown (hw _ w_111) (hw _ w_112) (hw _ w_12) (hw _ w_113) (by decide) (W := 0) (rmSCI l Z a0 hw n0 h0 O (2 : Int32) (3 : Int32) (by decide) (by decide) fm hfm S_fm) e12 (by decide) (by decide) (by decide) (by decide) (g := (mkF m 13 #[vr a, vi (2 : Int32), .unset] [(.int (3 : Int32)), (.int (2 : Int32))])) rfl (by rw [hml]; rfl) (argsL := [(.int (2 : Int32)), (.int (3 : Int32))]) (rest := []) (lenOf pd_oIIcV rfl) rfl (wk rfl rfl) (hb hby d25_13)
  obtain ⟨rfl, e14, rfl⟩ := q14
  have N14 := Fr.app N11 (Fr.nil n0)
  refine Fin.go st14 ?_
  show Fin _ _ _ _ _ _ _ _ T14 (mkF m 16 #[vr a, vi (2 : Int32), .unset] [])
  refine .go (fun _ k => XS.aloadN X14.here hx rfl (hb hby d25_16) rfl rfl k) ?_
  obtain ⟨T15, X15, e15, st15⟩ := getF X14 hx hZ hown (host := "") (Or.inl (hw _ w_37)) Via.refl e14 F2 (g := (mkF m 17 #[vr a, vi (2 : Int32), .unset] [(.ref a)])) rfl rfl (hb hby d25_17)
  refine Fin.go st15 ?_
  show Fin _ _ _ _ _ _ _ _ T15 (mkF m 20 #[vr a, vi (2 : Int32), .unset] [(.ref d)])
  refine .go (fun _ k => XS.iloadN X15.here hx rfl (hb hby d25_20) rfl k) ?_
  obtain ⟨cz16, B16, q16, S16, M16, H16, G16⟩ := id VD
  have i16 := inb_of S16 ⟨(by decide : ¬ ((2 : Int32) < (0 : Int32))), (by decide : (2 : Int32) < (3 : Int32))⟩
  refine Fin.go (fun _ k => X15.baloadBytes hx (j := (2 : Int32)) (v := (.int ((Int32.toInt8 x3).toInt32))) (by rw [e15]; exact B16.1) (State.isArrayOf_alike hZ.alike B16.2.1) B16.2.2 i16 (Has.at H16 i16 rfl) (g := (mkF m 21 #[vr a, vi (2 : Int32), .unset] [(.int (2 : Int32)), (.ref d)])) rfl rfl (hb hby d25_21) _ k) ?_
  show Fin _ _ _ _ _ _ _ _ T15 (mkF m 22 #[vr a, vi (2 : Int32), .unset] [(.int ((Int32.toInt8 x3).toInt32))])
  refine .go (fun _ k => XS.sipush X15.here hx rfl (hb hby d25_22) k) ?_
  refine .go (fun _ k => XS.iand X15.here hx rfl (hb hby d25_25) rfl k) ?_
  exact Fin.leaveN X15 e15 hlk (v := some (.int (((Int32.toInt8 x3).toInt32) &&& (255 : Int32)))) (nvS hret) (by decide) (by decide) ⟨by rw [cpN_l hp3, b8and _ hc3 hp3], rfl, rfl⟩ (fun fs hr => retI X15 hx hret (hb hby d25_26) hr)
theorem rmC4_2_0 (l : Launch) (Z : State) (a0 : Array Value) (hw : HW a0 Z) (n0 : Nat) (h0 : Heap) (O : Old Z n0 h0) (d : Addr) (kd : ClassId) (x1 x2 x3 : Int32) (hc1 : ChI x1) (hc2 : ChI x2) (hc3 : ChI x3) (VD : Arv Z h0 d kd .byte (4 : Int32) [(.int (lo8 x1)), (.int (hi8 x1)), (.int (lo8 x2)), (.int (hi8 x2))] (.int (0 : Int32))) (S_as : SAs Z) (S_hb : SHb Z) (S_lb : SLb Z) :
    ConW FrameEnd l Z [] (⟨"java/lang/StringUTF16", "codePointAt", "([BIIZ)I"⟩ : MethodName) jdk_52_method_7_code 6 (some .int) ({ frames := 1, cells := 0, slots := 0, locals := 13 } : Room) #[(.ref d), (.int (0 : Int32)), (.int (2 : Int32)), (.int (0 : Int32))] h0 (Pure h0 (some (.int (cpN (1 : Int32) (2 : Int32) x1 x2)))) := by
  refine conOf (plainFor_of_name pn_java_lang_StringUTF16) ?_
  intro p e s m below mth cc s₁ X0 hx hby hml hown hnm hret hlk hZ e0
  have N0 := Fr.nil n0
  refine Fin.came (castTop (t := _) (by first | (simp [entryFrame, mkF, argsToLocals, Value.category]; done) | rfl) (Steps.refl _) : Steps p.tables e below (s₁.setTop (entryFrame m #[(.ref d), (.int (0 : Int32)), (.int (2 : Int32)), (.int (0 : Int32))] 6)) (s₁.setTop (mkF m 0 #[vr d, vi (0 : Int32), vi (2 : Int32), vi (0 : Int32), .unset, .unset] []))) ?_
  obtain ⟨T11, X11, e11, st11⟩ := getS2 X0 hx hZ hown (host := "") (Or.inl (hw _ w_95)) Via.refl e0 (S_as.ext O.2) (g := (mkF m 0 #[vr d, vi (0 : Int32), vi (2 : Int32), vi (0 : Int32), .unset, .unset] [])) rfl (hb hby d30_0)
  refine Fin.go st11 ?_
  show Fin _ _ _ _ _ _ _ _ T11 (mkF m 3 #[vr d, vi (0 : Int32), vi (2 : Int32), vi (0 : Int32), .unset, .unset] [(.int (1 : Int32))])
  refine .go (fun _ k => XS.ifYes X11.here hx rfl (pc0 := 3) (pc' := 19) rfl (hb hby d30_3) rfl (XT.i0_ne_t (by decide)) (by decide) (by decide) k) ?_
  show Fin _ _ _ _ _ _ _ _ T11 (mkF m 19 #[vr d, vi (0 : Int32), vi (2 : Int32), vi (0 : Int32), .unset, .unset] [])
  refine .go (fun _ k => XS.iloadN X11.here hx rfl (hb hby d30_19) rfl k) ?_
  refine .go (fun _ k => XS.ifYes X11.here hx rfl (pc0 := 20) (pc' := 28) rfl (hb hby d30_20) rfl (XT.i0_eq_t (by decide)) (by decide) (by decide) k) ?_
  show Fin _ _ _ _ _ _ _ _ T11 (mkF m 28 #[vr d, vi (0 : Int32), vi (2 : Int32), vi (0 : Int32), .unset, .unset] [])
  refine .go (fun _ k => XS.aloadN X11.here hx rfl (hb hby d30_28) rfl rfl k) ?_
  refine .go (fun _ k => XS.iloadN X11.here hx rfl (hb hby d30_29) rfl k) ?_
  obtain ⟨v12, T12, L12, X12, q12, st12⟩ := callSt X11 hx hZ hown (hw _ w_98) (hw _ w_99) (hw _ w_26) (hw _ w_100) (by decide) (W := 0) (rmGet2_0 l Z a0 hw n0 h0 O d kd x1 x2 hc1 VD S_as S_hb S_lb) e11 (by decide) (by decide) (by decide) (by decide) (g := (mkF m 30 #[vr d, vi (0 : Int32), vi (2 : Int32), vi (0 : Int32), .unset, .unset] [(.int (0 : Int32)), (.ref d)])) rfl (by rw [hml]; rfl) (argsL := [(.ref d), (.int (0 : Int32))]) (rest := []) (lenOf pd_oABIcC rfl) rfl (wk rfl rfl) (hb hby d30_30)
  obtain ⟨rfl, e12, rfl⟩ := q12
  have N12 := Fr.app N0 (Fr.nil n0)
  refine Fin.go st12 ?_
  show Fin _ _ _ _ _ _ _ _ T12 (mkF m 33 #[vr d, vi (0 : Int32), vi (2 : Int32), vi (0 : Int32), .unset, .unset] [(.int x1)])
  refine .go (fun _ k => XS.istore X12.here hx rfl (hb hby d30_33) rfl (l' := #[vr d, vi (0 : Int32), vi (2 : Int32), vi (0 : Int32), vi x1, .unset]) rfl k) ?_
  refine .go (fun _ k => XS.iload X12.here hx rfl (hb hby d30_35) rfl k) ?_
  obtain ⟨v13, T13, L13, X13, q13, st13⟩ := callSt X12 hx hZ hown (hw _ w_125) (hw _ w_126) (hw _ w_127) (hw _ w_128) (by decide) (W := 0) (rmHS l Z a0 hw n0 h0 O x1) e12 (by decide) (by decide) (by decide) (by decide) (g := (mkF m 37 #[vr d, vi (0 : Int32), vi (2 : Int32), vi (0 : Int32), vi x1, .unset] [(.int x1)])) rfl (by rw [hml]; rfl) (argsL := [(.int x1)]) (rest := []) (lenOf pd_oCcZ rfl) rfl (wk rfl rfl) (hb hby d30_37)
  obtain ⟨rfl, e13, rfl⟩ := q13
  have N13 := Fr.app N12 (Fr.nil n0)
  refine Fin.go st13 ?_
  show Fin _ _ _ _ _ _ _ _ T13 (mkF m 40 #[vr d, vi (0 : Int32), vi (2 : Int32), vi (0 : Int32), vi x1, .unset] [(.int (hs x1))])
  by_cases c40 : (hs x1) = 0
  · refine .go (fun _ k => XS.ifYes X13.here hx rfl (pc0 := 40) (pc' := 83) rfl (hb hby d30_40) rfl (XT.i0_eq_t c40) (by decide) (by decide) k) ?_
    show Fin _ _ _ _ _ _ _ _ T13 (mkF m 83 #[vr d, vi (0 : Int32), vi (2 : Int32), vi (0 : Int32), vi x1, .unset] [])
    refine .go (fun _ k => XS.iload X13.here hx rfl (hb hby d30_83) rfl k) ?_
    exact Fin.leaveN X13 e13 hlk (v := some (.int x1)) (nvS hret) (by decide) (by decide) ⟨by simp [cpN, cp2, c40], rfl, rfl⟩ (fun fs hr => retI X13 hx hret (hb hby d30_85) hr)
  · refine .go (fun _ k => XS.ifNo X13.here hx rfl (hb hby d30_40) rfl (XT.i0_eq_f c40) k) ?_
    show Fin _ _ _ _ _ _ _ _ T13 (mkF m 43 #[vr d, vi (0 : Int32), vi (2 : Int32), vi (0 : Int32), vi x1, .unset] [])
    refine .go (fun _ k => XS.iinc X13.here hx rfl (hb hby d30_43) rfl (l' := #[vr d, vi ((0 : Int32) + (1 : Int32)), vi (2 : Int32), vi (0 : Int32), vi x1, .unset]) rfl k) ?_
    show Fin _ _ _ _ _ _ _ _ T13 (mkF m 46 #[vr d, vi ((0 : Int32) + (1 : Int32)), vi (2 : Int32), vi (0 : Int32), vi x1, .unset] [])
    rw [show ((0 : Int32) + (1 : Int32)) = (1 : Int32) from by decide]
    show Fin _ _ _ _ _ _ _ _ T13 (mkF m 46 #[vr d, vi (1 : Int32), vi (2 : Int32), vi (0 : Int32), vi x1, .unset] [])
    refine .go (fun _ k => XS.iloadN X13.here hx rfl (hb hby d30_46) rfl k) ?_
    refine .go (fun _ k => XS.iloadN X13.here hx rfl (hb hby d30_47) rfl k) ?_
    refine .go (fun _ k => XS.icmpNo X13.here hx rfl (hb hby d30_48) rfl (XT.ii_ge_f (by decide)) k) ?_
    show Fin _ _ _ _ _ _ _ _ T13 (mkF m 51 #[vr d, vi (1 : Int32), vi (2 : Int32), vi (0 : Int32), vi x1, .unset] [])
    refine .go (fun _ k => XS.iloadN X13.here hx rfl (hb hby d30_51) rfl k) ?_
    refine .go (fun _ k => XS.ifYes X13.here hx rfl (pc0 := 52) (pc' := 60) rfl (hb hby d30_52) rfl (XT.i0_eq_t (by decide)) (by decide) (by decide) k) ?_
    show Fin _ _ _ _ _ _ _ _ T13 (mkF m 60 #[vr d, vi (1 : Int32), vi (2 : Int32), vi (0 : Int32), vi x1, .unset] [])
    refine .go (fun _ k => XS.aloadN X13.here hx rfl (hb hby d30_60) rfl rfl k) ?_
    refine .go (fun _ k => XS.iloadN X13.here hx rfl (hb hby d30_61) rfl k) ?_
    obtain ⟨v14, T14, L14, X14, q14, st14⟩ := callSt X13 hx hZ hown (hw _ w_98) (hw _ w_99) (hw _ w_26) (hw _ w_100) (by decide) (W := 0) (rmGet2_1 l Z a0 hw n0 h0 O d kd x1 x2 hc2 VD S_as S_hb S_lb) e13 (by decide) (by decide) (by decide) (by decide) (g := (mkF m 62 #[vr d, vi (1 : Int32), vi (2 : Int32), vi (0 : Int32), vi x1, .unset] [(.int (1 : Int32)), (.ref d)])) rfl (by rw [hml]; rfl) (argsL := [(.ref d), (.int (1 : Int32))]) (rest := []) (lenOf pd_oABIcC rfl) rfl (wk rfl rfl) (hb hby d30_62)
    obtain ⟨rfl, e14, rfl⟩ := q14
    have N14 := Fr.app N13 (Fr.nil n0)
    refine Fin.go st14 ?_
    show Fin _ _ _ _ _ _ _ _ T14 (mkF m 65 #[vr d, vi (1 : Int32), vi (2 : Int32), vi (0 : Int32), vi x1, .unset] [(.int x2)])
    refine .go (fun _ k => XS.istore X14.here hx rfl (hb hby d30_65) rfl (l' := #[vr d, vi (1 : Int32), vi (2 : Int32), vi (0 : Int32), vi x1, vi x2]) rfl k) ?_
    refine .go (fun _ k => XS.iload X14.here hx rfl (hb hby d30_67) rfl k) ?_
    obtain ⟨v15, T15, L15, X15, q15, st15⟩ := callSt X14 hx hZ hown (hw _ w_131) (hw _ w_132) (hw _ w_127) (hw _ w_133) (by decide) (W := 0) (rmLS l Z a0 hw n0 h0 O x2) e14 (by decide) (by decide) (by decide) (by decide) (g := (mkF m 69 #[vr d, vi (1 : Int32), vi (2 : Int32), vi (0 : Int32), vi x1, vi x2] [(.int x2)])) rfl (by rw [hml]; rfl) (argsL := [(.int x2)]) (rest := []) (lenOf pd_oCcZ rfl) rfl (wk rfl rfl) (hb hby d30_69)
    obtain ⟨rfl, e15, rfl⟩ := q15
    have N15 := Fr.app N14 (Fr.nil n0)
    refine Fin.go st15 ?_
    show Fin _ _ _ _ _ _ _ _ T15 (mkF m 72 #[vr d, vi (1 : Int32), vi (2 : Int32), vi (0 : Int32), vi x1, vi x2] [(.int (lsu x2))])
    by_cases c72 : (lsu x2) = 0
    · refine .go (fun _ k => XS.ifYes X15.here hx rfl (pc0 := 72) (pc' := 83) rfl (hb hby d30_72) rfl (XT.i0_eq_t c72) (by decide) (by decide) k) ?_
      show Fin _ _ _ _ _ _ _ _ T15 (mkF m 83 #[vr d, vi (1 : Int32), vi (2 : Int32), vi (0 : Int32), vi x1, vi x2] [])
      refine .go (fun _ k => XS.iload X15.here hx rfl (hb hby d30_83) rfl k) ?_
      exact Fin.leaveN X15 e15 hlk (v := some (.int x1)) (nvS hret) (by decide) (by decide) ⟨by simp [cpN, cp2, c40, c72], rfl, rfl⟩ (fun fs hr => retI X15 hx hret (hb hby d30_85) hr)
    · refine .go (fun _ k => XS.ifNo X15.here hx rfl (hb hby d30_72) rfl (XT.i0_eq_f c72) k) ?_
      show Fin _ _ _ _ _ _ _ _ T15 (mkF m 75 #[vr d, vi (1 : Int32), vi (2 : Int32), vi (0 : Int32), vi x1, vi x2] [])
      refine .go (fun _ k => XS.iload X15.here hx rfl (hb hby d30_75) rfl k) ?_
      refine .go (fun _ k => XS.iload X15.here hx rfl (hb hby d30_77) rfl k) ?_
      obtain ⟨v16, T16, L16, X16, q16, st16⟩ := callSt X15 hx hZ hown (hw _ w_145) (hw _ w_146) (hw _ w_127) (hw _ w_147) (by decide) (W := 0) (rmTCP l Z a0 hw n0 h0 O x1 x2) e15 (by decide) (by decide) (by decide) (by decide) (g := (mkF m 79 #[vr d, vi (1 : Int32), vi (2 : Int32), vi (0 : Int32), vi x1, vi x2] [(.int x2), (.int x1)])) rfl (by rw [hml]; rfl) (argsL := [(.int x1), (.int x2)]) (rest := []) (lenOf pd_oCCcI rfl) rfl (wk rfl rfl) (hb hby d30_79)
      obtain ⟨rfl, e16, rfl⟩ := q16
      have N16 := Fr.app N15 (Fr.nil n0)
      refine Fin.go st16 ?_
      show Fin _ _ _ _ _ _ _ _ T16 (mkF m 82 #[vr d, vi (1 : Int32), vi (2 : Int32), vi (0 : Int32), vi x1, vi x2] [(.int (((x1 <<< ((10 : Int32) &&& 31)) + x2) + (-56613888 : Int32)))])
      exact Fin.leaveN X16 e16 hlk (v := some (.int (((x1 <<< ((10 : Int32) &&& 31)) + x2) + (-56613888 : Int32)))) (nvS hret) (by decide) (by decide) ⟨by simp [cpN, cp2, c40, c72], rfl, rfl⟩ (fun fs hr => retI X16 hx hret (hb hby d30_82) hr)
theorem rmC3_2_0 (l : Launch) (Z : State) (a0 : Array Value) (hw : HW a0 Z) (n0 : Nat) (h0 : Heap) (O : Old Z n0 h0) (d : Addr) (kd : ClassId) (x1 x2 x3 : Int32) (hc1 : ChI x1) (hc2 : ChI x2) (hc3 : ChI x3) (VD : Arv Z h0 d kd .byte (4 : Int32) [(.int (lo8 x1)), (.int (hi8 x1)), (.int (lo8 x2)), (.int (hi8 x2))] (.int (0 : Int32))) (S_as : SAs Z) (S_hb : SHb Z) (S_lb : SLb Z) :
    ConW FrameEnd l Z [] (⟨"java/lang/StringUTF16", "codePointAt", "([BII)I"⟩ : MethodName) jdk_52_method_8_code 3 (some .int) ({ frames := 2, cells := 0, slots := 0, locals := 30 } : Room) #[(.ref d), (.int (0 : Int32)), (.int (2 : Int32))] h0 (Pure h0 (some (.int (cpN (1 : Int32) (2 : Int32) x1 x2)))) := by
  refine conOf (plainFor_of_name pn_java_lang_StringUTF16) ?_
  intro p e s m below mth cc s₁ X0 hx hby hml hown hnm hret hlk hZ e0
  have N0 := Fr.nil n0
  refine Fin.came (castTop (t := _) (by first | (simp [entryFrame, mkF, argsToLocals, Value.category]; done) | rfl) (Steps.refl _) : Steps p.tables e below (s₁.setTop (entryFrame m #[(.ref d), (.int (0 : Int32)), (.int (2 : Int32))] 3)) (s₁.setTop (mkF m 0 #[vr d, vi (0 : Int32), vi (2 : Int32)] []))) ?_
  refine .go (fun _ k => XS.aloadN X0.here hx rfl (hb hby d29_0) rfl rfl k) ?_
  refine .go (fun _ k => XS.iloadN X0.here hx rfl (hb hby d29_1) rfl k) ?_
  refine .go (fun _ k => XS.iloadN X0.here hx rfl (hb hby d29_2) rfl k) ?_
  refine .go (fun _ k => XS.iconst X0.here hx rfl (hb hby d29_3) k) ?_
  obtain ⟨v11, T11, L11, X11, q11, st11⟩ := callSt X0 hx hZ hown (hw _ w_122) (hw _ w_123) (hw _ w_26) (hw _ w_124) (by decide) (W := 0) (rmC4_2_0 l Z a0 hw n0 h0 O d kd x1 x2 x3 hc1 hc2 hc3 VD S_as S_hb S_lb) e0 (by decide) (by decide) (by decide) (by decide) (g := (mkF m 4 #[vr d, vi (0 : Int32), vi (2 : Int32)] [(.int (0 : Int32)), (.int (2 : Int32)), (.int (0 : Int32)), (.ref d)])) rfl (by rw [hml]; rfl) (argsL := [(.ref d), (.int (0 : Int32)), (.int (2 : Int32)), (.int (0 : Int32))]) (rest := []) (lenOf pd_oABIIZcI rfl) rfl (wk rfl rfl) (hb hby d29_4)
  obtain ⟨rfl, e11, rfl⟩ := q11
  have N11 := Fr.app N0 (Fr.nil n0)
  refine Fin.go st11 ?_
  show Fin _ _ _ _ _ _ _ _ T11 (mkF m 7 #[vr d, vi (0 : Int32), vi (2 : Int32)] [(.int (cpN (1 : Int32) (2 : Int32) x1 x2))])
  exact Fin.leaveN X11 e11 hlk (v := some (.int (cpN (1 : Int32) (2 : Int32) x1 x2))) (nvS hret) (by decide) (by decide) ⟨rfl, rfl, rfl⟩ (fun fs hr => retI X11 hx hret (hb hby d29_7) hr)
theorem rmAu_2_0 (l : Launch) (Z : State) (a0 : Array Value) (hw : HW a0 Z) (n0 : Nat) (h0 : Heap) (O : Old Z n0 h0) (a d : Addr) (kd : ClassId) (x1 x2 x3 : Int32) (A : Exa Z h0 a "java/lang/String") (F1 : Fld Z h0 a "java/lang/String" "coder" "B" (.int (1 : Int32))) (F2 : Fld Z h0 a "java/lang/String" "value" "[B" (.ref d)) (VD : Arv Z h0 d kd .byte (4 : Int32) [(.int (lo8 x1)), (.int (hi8 x1)), (.int (lo8 x2)), (.int (hi8 x2))] (.int (0 : Int32))) (cs : Int32) (S_cs : Sta Z Z.heap "java/lang/String" "COMPACT_STRINGS" "Z" (.int cs)) (hcs : ¬ cs = 0) (hc1 : ChI x1) (hc2 : ChI x2) (hc3 : ChI x3) (S_as : SAs Z) (S_hb : SHb Z) (S_lb : SLb Z) (fm : Value) (hfm : fm.isRef = true) (S_fm : SFm Z fm) :
    ConW FrameEnd l Z [] (⟨"java/lang/String", "codePointAt", "(I)I"⟩ : MethodName) jdk_42_method_57_code 3 (some .int) ({ frames := 3, cells := 0, slots := 0, locals := 44 } : Room) #[(.ref a), (.int (0 : Int32))] h0 (Pure h0 (some (.int (cpN (1 : Int32) (2 : Int32) x1 x2)))) := by
  refine conOf (plainFor_of_name pn_java_lang_String) ?_
  intro p e s m below mth cc s₁ X0 hx hby hml hown hnm hret hlk hZ e0
  have N0 := Fr.nil n0
  refine Fin.came (castTop (t := _) (by first | (simp [entryFrame, mkF, argsToLocals, Value.category]; done) | rfl) (Steps.refl _) : Steps p.tables e below (s₁.setTop (entryFrame m #[(.ref a), (.int (0 : Int32))] 3)) (s₁.setTop (mkF m 0 #[vr a, vi (0 : Int32), .unset] []))) ?_
  refine .go (fun _ k => XS.aloadN X0.here hx rfl (hb hby d25_0) rfl rfl k) ?_
  obtain ⟨v11, T11, L11, X11, q11, st11⟩ := callVt X0 hx hZ (y := (⟨"java/lang/String", "isLatin1", "()Z"⟩ : MethodName)) hown (hw _ w_106) (hw _ w_107) (hw _ w_109) (hw _ w_108) (hw _ w_12) (hw _ w_110) (by decide) (W := 0) (rmIsL1 l Z a0 hw n0 h0 O a F1 cs S_cs hcs) e0 A (by decide) (by decide) (by decide) (by decide) (g := (mkF m 1 #[vr a, vi (0 : Int32), .unset] [(.ref a)])) rfl (by rw [hml]; rfl) (argsL := []) (rest := []) (lenOf pd_ocZ rfl) rfl (wk rfl rfl) (hb hby d25_1)
  obtain ⟨rfl, e11, rfl⟩ := q11
  have N11 := Fr.app N0 (Fr.nil n0)
  refine Fin.go st11 ?_
  show Fin _ _ _ _ _ _ _ _ T11 (mkF m 4 #[vr a, vi (0 : Int32), .unset] [(.int (0 : Int32))])
  refine .go (fun _ k => XS.ifYes X11.here hx rfl (pc0 := 4) (pc' := 27) rfl (hb hby d25_4) rfl (XT.i0_eq_t (by decide)) (by decide) (by decide) k) ?_
  show Fin _ _ _ _ _ _ _ _ T11 (mkF m 27 #[vr a, vi (0 : Int32), .unset] [])
  refine .go (fun _ k => XS.aloadN X11.here hx rfl (hb hby d25_27) rfl rfl k) ?_
  obtain ⟨T12, X12, e12, st12⟩ := getF X11 hx hZ hown (host := "") (Or.inl (hw _ w_37)) Via.refl e11 F2 (g := (mkF m 28 #[vr a, vi (0 : Int32), .unset] [(.ref a)])) rfl rfl (hb hby d25_28)
  refine Fin.go st12 ?_
  show Fin _ _ _ _ _ _ _ _ T12 (mkF m 31 #[vr a, vi (0 : Int32), .unset] [(.ref d)])
  obtain ⟨cz13, B13, q13, S13, M13, H13, G13⟩ := id VD
  refine Fin.go (fun _ k => X12.arraylength hx (by rw [e12]; exact B13.1) (State.isArrayOf_alike hZ.alike B13.2.1) (g := (mkF m 31 #[vr a, vi (0 : Int32), .unset] [(.ref d)])) rfl rfl (hb hby d25_31) _ k) ?_
  rw [len_of S13 M13]
  show Fin _ _ _ _ _ _ _ _ T12 (mkF m 32 #[vr a, vi (0 : Int32), .unset] [(.int (4 : Int32))])
  refine .go (fun _ k => XS.iconst X12.here hx rfl (hb hby d25_32) k) ?_
  refine .go (fun _ k => XT.ishr X12.here hx rfl (hb hby d25_33) rfl k) ?_
  refine .go (fun _ k => XS.istoreN X12.here hx rfl (hb hby d25_34) rfl (l' := #[vr a, vi (0 : Int32), vi ((4 : Int32) >>> ((1 : Int32) &&& 31))]) rfl k) ?_
  show Fin _ _ _ _ _ _ _ _ T12 (mkF m 35 #[vr a, vi (0 : Int32), vi ((4 : Int32) >>> ((1 : Int32) &&& 31))] [])
  rw [show ((4 : Int32) >>> ((1 : Int32) &&& 31)) = (2 : Int32) from by decide]
  show Fin _ _ _ _ _ _ _ _ T12 (mkF m 35 #[vr a, vi (0 : Int32), vi (2 : Int32)] [])
  refine .go (fun _ k => XS.iloadN X12.here hx rfl (hb hby d25_35) rfl k) ?_
  refine .go (fun _ k => XS.iloadN X12.here hx rfl (hb hby d25_36) rfl k) ?_
  obtain ⟨v14, T14, L14, X14, q14, st14⟩ := callSt X12 hx hZ hown (hw _ w_111) (hw _ w_112) (hw _ w_12) (hw _ w_113) (by decide) (W := 0) (rmSCI l Z a0 hw n0 h0 O (0 : Int32) (2 : Int32) (by decide) (by decide) fm hfm S_fm) e12 (by decide) (by decide) (by decide) (by decide) (g := (mkF m 37 #[vr a, vi (0 : Int32), vi (2 : Int32)] [(.int (2 : Int32)), (.int (0 : Int32))])) rfl (by rw [hml]; rfl) (argsL := [(.int (0 : Int32)), (.int (2 : Int32))]) (rest := []) (lenOf pd_oIIcV rfl) rfl (wk rfl rfl) (hb hby d25_37)
  obtain ⟨rfl, e14, rfl⟩ := q14
  have N14 := Fr.app N11 (Fr.nil n0)
  refine Fin.go st14 ?_
  show Fin _ _ _ _ _ _ _ _ T14 (mkF m 40 #[vr a, vi (0 : Int32), vi (2 : Int32)] [])
  refine .go (fun _ k => XS.aloadN X14.here hx rfl (hb hby d25_40) rfl rfl k) ?_
  obtain ⟨T15, X15, e15, st15⟩ := getF X14 hx hZ hown (host := "") (Or.inl (hw _ w_37)) Via.refl e14 F2 (g := (mkF m 41 #[vr a, vi (0 : Int32), vi (2 : Int32)] [(.ref a)])) rfl rfl (hb hby d25_41)
  refine Fin.go st15 ?_
  show Fin _ _ _ _ _ _ _ _ T15 (mkF m 44 #[vr a, vi (0 : Int32), vi (2 : Int32)] [(.ref d)])
  refine .go (fun _ k => XS.iloadN X15.here hx rfl (hb hby d25_44) rfl k) ?_
  refine .go (fun _ k => XS.iloadN X15.here hx rfl (hb hby d25_45) rfl k) ?_
  obtain ⟨v16, T16, L16, X16, q16, st16⟩ := callSt X15 hx hZ hown (hw _ w_119) (hw _ w_120) (hw _ w_26) (hw _ w_121) (by decide) (W := 0) (rmC3_2_0 l Z a0 hw n0 h0 O d kd x1 x2 x3 hc1 hc2 hc3 VD S_as S_hb S_lb) e15 (by decide) (by decide) (by decide) (by decide) (g := (mkF m 46 #[vr a, vi (0 : Int32), vi (2 : Int32)] [(.int (2 : Int32)), (.int (0 : Int32)), (.ref d)])) rfl (by rw [hml]; rfl) (argsL := [(.ref d), (.int (0 : Int32)), (.int (2 : Int32))]) (rest := []) (lenOf pd_oABIIcI rfl) rfl (wk rfl rfl) (hb hby d25_46)
  obtain ⟨rfl, e16, rfl⟩ := q16
  have N16 := Fr.app N14 (Fr.nil n0)
  refine Fin.go st16 ?_
  show Fin _ _ _ _ _ _ _ _ T16 (mkF m 49 #[vr a, vi (0 : Int32), vi (2 : Int32)] [(.int (cpN (1 : Int32) (2 : Int32) x1 x2))])
  exact Fin.leaveN X16 e16 hlk (v := some (.int (cpN (1 : Int32) (2 : Int32) x1 x2))) (nvS hret) (by decide) (by decide) ⟨rfl, rfl, rfl⟩ (fun fs hr => retI X16 hx hret (hb hby d25_49) hr)
theorem rmAl_2_0 (l : Launch) (Z : State) (a0 : Array Value) (hw : HW a0 Z) (n0 : Nat) (h0 : Heap) (O : Old Z n0 h0) (a d : Addr) (kd : ClassId) (x1 x2 x3 : Int32) (A : Exa Z h0 a "java/lang/String") (F1 : Fld Z h0 a "java/lang/String" "coder" "B" (.int (0 : Int32))) (F2 : Fld Z h0 a "java/lang/String" "value" "[B" (.ref d)) (VD : Arv Z h0 d kd .byte (2 : Int32) [(.int ((Int32.toInt8 x1).toInt32)), (.int ((Int32.toInt8 x2).toInt32))] (.int (0 : Int32))) (cs : Int32) (S_cs : Sta Z Z.heap "java/lang/String" "COMPACT_STRINGS" "Z" (.int cs)) (hcs : ¬ cs = 0) (hc1 : ChI x1) (hc2 : ChI x2) (hc3 : ChI x3) (hp1 : ¬ (255 : Int32) < x1) (hp2 : ¬ (255 : Int32) < x2) (fm : Value) (hfm : fm.isRef = true) (S_fm : SFm Z fm) :
    ConW FrameEnd l Z [] (⟨"java/lang/String", "codePointAt", "(I)I"⟩ : MethodName) jdk_42_method_57_code 3 (some .int) ({ frames := 3, cells := 0, slots := 0, locals := 44 } : Room) #[(.ref a), (.int (0 : Int32))] h0 (Pure h0 (some (.int (cpN (1 : Int32) (2 : Int32) x1 x2)))) := by
  refine conOf (plainFor_of_name pn_java_lang_String) ?_
  intro p e s m below mth cc s₁ X0 hx hby hml hown hnm hret hlk hZ e0
  have N0 := Fr.nil n0
  refine Fin.came (castTop (t := _) (by first | (simp [entryFrame, mkF, argsToLocals, Value.category]; done) | rfl) (Steps.refl _) : Steps p.tables e below (s₁.setTop (entryFrame m #[(.ref a), (.int (0 : Int32))] 3)) (s₁.setTop (mkF m 0 #[vr a, vi (0 : Int32), .unset] []))) ?_
  refine .go (fun _ k => XS.aloadN X0.here hx rfl (hb hby d25_0) rfl rfl k) ?_
  obtain ⟨v11, T11, L11, X11, q11, st11⟩ := callVt X0 hx hZ (y := (⟨"java/lang/String", "isLatin1", "()Z"⟩ : MethodName)) hown (hw _ w_106) (hw _ w_107) (hw _ w_109) (hw _ w_108) (hw _ w_12) (hw _ w_110) (by decide) (W := 0) (rmIsL0 l Z a0 hw n0 h0 O a F1 cs S_cs hcs) e0 A (by decide) (by decide) (by decide) (by decide) (g := (mkF m 1 #[vr a, vi (0 : Int32), .unset] [(.ref a)])) rfl (by rw [hml]; rfl) (argsL := []) (rest := []) (lenOf pd_ocZ rfl) rfl (wk rfl rfl) (hb hby d25_1)
  obtain ⟨rfl, e11, rfl⟩ := q11
  have N11 := Fr.app N0 (Fr.nil n0)
  refine Fin.go st11 ?_
  show Fin _ _ _ _ _ _ _ _ T11 (mkF m 4 #[vr a, vi (0 : Int32), .unset] [(.int (1 : Int32))])
  refine .go (fun _ k => XS.ifNo X11.here hx rfl (hb hby d25_4) rfl (XT.i0_eq_f (by decide)) k) ?_
  show Fin _ _ _ _ _ _ _ _ T11 (mkF m 7 #[vr a, vi (0 : Int32), .unset] [])
  refine .go (fun _ k => XS.iloadN X11.here hx rfl (hb hby d25_7) rfl k) ?_
  refine .go (fun _ k => XS.aloadN X11.here hx rfl (hb hby d25_8) rfl rfl k) ?_
  obtain ⟨T12, X12, e12, st12⟩ := getF X11 hx hZ hown (host := "") (Or.inl (hw _ w_37)) Via.refl e11 F2 (g := (mkF m 9 #[vr a, vi (0 : Int32), .unset] [(.ref a), (.int (0 : Int32))])) rfl rfl (hb hby d25_9)
  refine Fin.go st12 ?_
  show Fin _ _ _ _ _ _ _ _ T12 (mkF m 12 #[vr a, vi (0 : Int32), .unset] [(.ref d), (.int (0 : Int32))])
  obtain ⟨cz13, B13, q13, S13, M13, H13, G13⟩ := id VD
  refine Fin.go (fun _ k => X12.arraylength hx (by rw [e12]; exact B13.1) (State.isArrayOf_alike hZ.alike B13.2.1) (g := (mkF m 12 #[vr a, vi (0 : Int32), .unset] [(.ref d), (.int (0 : Int32))])) rfl rfl (hb hby d25_12) _ k) ?_
  rw [len_of S13 M13]
  show Fin _ _ _ _ _ _ _ _ T12 (mkF m 13 #[vr a, vi (0 : Int32), .unset] [(.int (2 : Int32)), (.int (0 : Int32))])
  obtain ⟨v14, T14, L14, X14, q14, st14⟩ := callSt X12 hx hZ hown (hw _ w_111) (hw _ w_112) (hw _ w_12) (hw _ w_113) (by decide) (W := 0) (rmSCI l Z a0 hw n0 h0 O (0 : Int32) (2 : Int32) (by decide) (by decide) fm hfm S_fm) e12 (by decide) (by decide) (by decide) (by decide) (g := (mkF m 13 #[vr a, vi (0 : Int32), .unset] [(.int (2 : Int32)), (.int (0 : Int32))])) rfl (by rw [hml]; rfl) (argsL := [(.int (0 : Int32)), (.int (2 : Int32))]) (rest := []) (lenOf pd_oIIcV rfl) rfl (wk rfl rfl) (hb hby d25_13)
  obtain ⟨rfl, e14, rfl⟩ := q14
  have N14 := Fr.app N11 (Fr.nil n0)
  refine Fin.go st14 ?_
  show Fin _ _ _ _ _ _ _ _ T14 (mkF m 16 #[vr a, vi (0 : Int32), .unset] [])
  refine .go (fun _ k => XS.aloadN X14.here hx rfl (hb hby d25_16) rfl rfl k) ?_
  obtain ⟨T15, X15, e15, st15⟩ := getF X14 hx hZ hown (host := "") (Or.inl (hw _ w_37)) Via.refl e14 F2 (g := (mkF m 17 #[vr a, vi (0 : Int32), .unset] [(.ref a)])) rfl rfl (hb hby d25_17)
  refine Fin.go st15 ?_
  show Fin _ _ _ _ _ _ _ _ T15 (mkF m 20 #[vr a, vi (0 : Int32), .unset] [(.ref d)])
  refine .go (fun _ k => XS.iloadN X15.here hx rfl (hb hby d25_20) rfl k) ?_
  obtain ⟨cz16, B16, q16, S16, M16, H16, G16⟩ := id VD
  have i16 := inb_of S16 ⟨(by decide : ¬ ((0 : Int32) < (0 : Int32))), (by decide : (0 : Int32) < (2 : Int32))⟩
  refine Fin.go (fun _ k => X15.baloadBytes hx (j := (0 : Int32)) (v := (.int ((Int32.toInt8 x1).toInt32))) (by rw [e15]; exact B16.1) (State.isArrayOf_alike hZ.alike B16.2.1) B16.2.2 i16 (Has.at H16 i16 rfl) (g := (mkF m 21 #[vr a, vi (0 : Int32), .unset] [(.int (0 : Int32)), (.ref d)])) rfl rfl (hb hby d25_21) _ k) ?_
  show Fin _ _ _ _ _ _ _ _ T15 (mkF m 22 #[vr a, vi (0 : Int32), .unset] [(.int ((Int32.toInt8 x1).toInt32))])
  refine .go (fun _ k => XS.sipush X15.here hx rfl (hb hby d25_22) k) ?_
  refine .go (fun _ k => XS.iand X15.here hx rfl (hb hby d25_25) rfl k) ?_
  exact Fin.leaveN X15 e15 hlk (v := some (.int (((Int32.toInt8 x1).toInt32) &&& (255 : Int32)))) (nvS hret) (by decide) (by decide) ⟨by rw [cpN_l hp1, b8and _ hc1 hp1], rfl, rfl⟩ (fun fs hr => retI X15 hx hret (hb hby d25_26) hr)
theorem rmC4_2_1 (l : Launch) (Z : State) (a0 : Array Value) (hw : HW a0 Z) (n0 : Nat) (h0 : Heap) (O : Old Z n0 h0) (d : Addr) (kd : ClassId) (x1 x2 x3 : Int32) (hc1 : ChI x1) (hc2 : ChI x2) (hc3 : ChI x3) (VD : Arv Z h0 d kd .byte (4 : Int32) [(.int (lo8 x1)), (.int (hi8 x1)), (.int (lo8 x2)), (.int (hi8 x2))] (.int (0 : Int32))) (S_as : SAs Z) (S_hb : SHb Z) (S_lb : SLb Z) :
    ConW FrameEnd l Z [] (⟨"java/lang/StringUTF16", "codePointAt", "([BIIZ)I"⟩ : MethodName) jdk_52_method_7_code 6 (some .int) ({ frames := 1, cells := 0, slots := 0, locals := 13 } : Room) #[(.ref d), (.int (1 : Int32)), (.int (2 : Int32)), (.int (0 : Int32))] h0 (Pure h0 (some (.int (cpN (2 : Int32) (2 : Int32) x2 x3)))) := by
  refine conOf (plainFor_of_name pn_java_lang_StringUTF16) ?_
  intro p e s m below mth cc s₁ X0 hx hby hml hown hnm hret hlk hZ e0
  have N0 := Fr.nil n0
  refine Fin.came (castTop (t := _) (by first | (simp [entryFrame, mkF, argsToLocals, Value.category]; done) | rfl) (Steps.refl _) : Steps p.tables e below (s₁.setTop (entryFrame m #[(.ref d), (.int (1 : Int32)), (.int (2 : Int32)), (.int (0 : Int32))] 6)) (s₁.setTop (mkF m 0 #[vr d, vi (1 : Int32), vi (2 : Int32), vi (0 : Int32), .unset, .unset] []))) ?_
  obtain ⟨T11, X11, e11, st11⟩ := getS2 X0 hx hZ hown (host := "") (Or.inl (hw _ w_95)) Via.refl e0 (S_as.ext O.2) (g := (mkF m 0 #[vr d, vi (1 : Int32), vi (2 : Int32), vi (0 : Int32), .unset, .unset] [])) rfl (hb hby d30_0)
  refine Fin.go st11 ?_
  show Fin _ _ _ _ _ _ _ _ T11 (mkF m 3 #[vr d, vi (1 : Int32), vi (2 : Int32), vi (0 : Int32), .unset, .unset] [(.int (1 : Int32))])
  refine .go (fun _ k => XS.ifYes X11.here hx rfl (pc0 := 3) (pc' := 19) rfl (hb hby d30_3) rfl (XT.i0_ne_t (by decide)) (by decide) (by decide) k) ?_
  show Fin _ _ _ _ _ _ _ _ T11 (mkF m 19 #[vr d, vi (1 : Int32), vi (2 : Int32), vi (0 : Int32), .unset, .unset] [])
  refine .go (fun _ k => XS.iloadN X11.here hx rfl (hb hby d30_19) rfl k) ?_
  refine .go (fun _ k => XS.ifYes X11.here hx rfl (pc0 := 20) (pc' := 28) rfl (hb hby d30_20) rfl (XT.i0_eq_t (by decide)) (by decide) (by decide) k) ?_
  show Fin _ _ _ _ _ _ _ _ T11 (mkF m 28 #[vr d, vi (1 : Int32), vi (2 : Int32), vi (0 : Int32), .unset, .unset] [])
  refine .go (fun _ k => XS.aloadN X11.here hx rfl (hb hby d30_28) rfl rfl k) ?_
  refine .go (fun _ k => XS.iloadN X11.here hx rfl (hb hby d30_29) rfl k) ?_
  obtain ⟨v12, T12, L12, X12, q12, st12⟩ := callSt X11 hx hZ hown (hw _ w_98) (hw _ w_99) (hw _ w_26) (hw _ w_100) (by decide) (W := 0) (rmGet2_1 l Z a0 hw n0 h0 O d kd x1 x2 hc2 VD S_as S_hb S_lb) e11 (by decide) (by decide) (by decide) (by decide) (g := (mkF m 30 #[vr d, vi (1 : Int32), vi (2 : Int32), vi (0 : Int32), .unset, .unset] [(.int (1 : Int32)), (.ref d)])) rfl (by rw [hml]; rfl) (argsL := [(.ref d), (.int (1 : Int32))]) (rest := []) (lenOf pd_oABIcC rfl) rfl (wk rfl rfl) (hb hby d30_30)
  obtain ⟨rfl, e12, rfl⟩ := q12
  have N12 := Fr.app N0 (Fr.nil n0)
  refine Fin.go st12 ?_
  show Fin _ _ _ _ _ _ _ _ T12 (mkF m 33 #[vr d, vi (1 : Int32), vi (2 : Int32), vi (0 : Int32), .unset, .unset] [(.int x2)])
  refine .go (fun _ k => XS.istore X12.here hx rfl (hb hby d30_33) rfl (l' := #[vr d, vi (1 : Int32), vi (2 : Int32), vi (0 : Int32), vi x2, .unset]) rfl k) ?_
  refine .go (fun _ k => XS.iload X12.here hx rfl (hb hby d30_35) rfl k) ?_
  obtain ⟨v13, T13, L13, X13, q13, st13⟩ := callSt X12 hx hZ hown (hw _ w_125) (hw _ w_126) (hw _ w_127) (hw _ w_128) (by decide) (W := 0) (rmHS l Z a0 hw n0 h0 O x2) e12 (by decide) (by decide) (by decide) (by decide) (g := (mkF m 37 #[vr d, vi (1 : Int32), vi (2 : Int32), vi (0 : Int32), vi x2, .unset] [(.int x2)])) rfl (by rw [hml]; rfl) (argsL := [(.int x2)]) (rest := []) (lenOf pd_oCcZ rfl) rfl (wk rfl rfl) (hb hby d30_37)
  obtain ⟨rfl, e13, rfl⟩ := q13
  have N13 := Fr.app N12 (Fr.nil n0)
  refine Fin.go st13 ?_
  show Fin _ _ _ _ _ _ _ _ T13 (mkF m 40 #[vr d, vi (1 : Int32), vi (2 : Int32), vi (0 : Int32), vi x2, .unset] [(.int (hs x2))])
  by_cases c40 : (hs x2) = 0
  · refine .go (fun _ k => XS.ifYes X13.here hx rfl (pc0 := 40) (pc' := 83) rfl (hb hby d30_40) rfl (XT.i0_eq_t c40) (by decide) (by decide) k) ?_
    show Fin _ _ _ _ _ _ _ _ T13 (mkF m 83 #[vr d, vi (1 : Int32), vi (2 : Int32), vi (0 : Int32), vi x2, .unset] [])
    refine .go (fun _ k => XS.iload X13.here hx rfl (hb hby d30_83) rfl k) ?_
    exact Fin.leaveN X13 e13 hlk (v := some (.int x2)) (nvS hret) (by decide) (by decide) ⟨by simp [cpN, cp2, c40], rfl, rfl⟩ (fun fs hr => retI X13 hx hret (hb hby d30_85) hr)
  · refine .go (fun _ k => XS.ifNo X13.here hx rfl (hb hby d30_40) rfl (XT.i0_eq_f c40) k) ?_
    show Fin _ _ _ _ _ _ _ _ T13 (mkF m 43 #[vr d, vi (1 : Int32), vi (2 : Int32), vi (0 : Int32), vi x2, .unset] [])
    refine .go (fun _ k => XS.iinc X13.here hx rfl (hb hby d30_43) rfl (l' := #[vr d, vi ((1 : Int32) + (1 : Int32)), vi (2 : Int32), vi (0 : Int32), vi x2, .unset]) rfl k) ?_
    show Fin _ _ _ _ _ _ _ _ T13 (mkF m 46 #[vr d, vi ((1 : Int32) + (1 : Int32)), vi (2 : Int32), vi (0 : Int32), vi x2, .unset] [])
    rw [show ((1 : Int32) + (1 : Int32)) = (2 : Int32) from by decide]
    show Fin _ _ _ _ _ _ _ _ T13 (mkF m 46 #[vr d, vi (2 : Int32), vi (2 : Int32), vi (0 : Int32), vi x2, .unset] [])
    refine .go (fun _ k => XS.iloadN X13.here hx rfl (hb hby d30_46) rfl k) ?_
    refine .go (fun _ k => XS.iloadN X13.here hx rfl (hb hby d30_47) rfl k) ?_
    refine .go (fun _ k => XS.icmpYes X13.here hx rfl (pc0 := 48) (pc' := 83) rfl (hb hby d30_48) rfl (XT.ii_ge_t (by decide)) (by decide) (by decide) k) ?_
    show Fin _ _ _ _ _ _ _ _ T13 (mkF m 83 #[vr d, vi (2 : Int32), vi (2 : Int32), vi (0 : Int32), vi x2, .unset] [])
    refine .go (fun _ k => XS.iload X13.here hx rfl (hb hby d30_83) rfl k) ?_
    exact Fin.leaveN X13 e13 hlk (v := some (.int x2)) (nvS hret) (by decide) (by decide) ⟨by simp [cpN, cp2, c40], rfl, rfl⟩ (fun fs hr => retI X13 hx hret (hb hby d30_85) hr)
theorem rmC3_2_1 (l : Launch) (Z : State) (a0 : Array Value) (hw : HW a0 Z) (n0 : Nat) (h0 : Heap) (O : Old Z n0 h0) (d : Addr) (kd : ClassId) (x1 x2 x3 : Int32) (hc1 : ChI x1) (hc2 : ChI x2) (hc3 : ChI x3) (VD : Arv Z h0 d kd .byte (4 : Int32) [(.int (lo8 x1)), (.int (hi8 x1)), (.int (lo8 x2)), (.int (hi8 x2))] (.int (0 : Int32))) (S_as : SAs Z) (S_hb : SHb Z) (S_lb : SLb Z) :
    ConW FrameEnd l Z [] (⟨"java/lang/StringUTF16", "codePointAt", "([BII)I"⟩ : MethodName) jdk_52_method_8_code 3 (some .int) ({ frames := 2, cells := 0, slots := 0, locals := 30 } : Room) #[(.ref d), (.int (1 : Int32)), (.int (2 : Int32))] h0 (Pure h0 (some (.int (cpN (2 : Int32) (2 : Int32) x2 x3)))) := by
  refine conOf (plainFor_of_name pn_java_lang_StringUTF16) ?_
  intro p e s m below mth cc s₁ X0 hx hby hml hown hnm hret hlk hZ e0
  have N0 := Fr.nil n0
  refine Fin.came (castTop (t := _) (by first | (simp [entryFrame, mkF, argsToLocals, Value.category]; done) | rfl) (Steps.refl _) : Steps p.tables e below (s₁.setTop (entryFrame m #[(.ref d), (.int (1 : Int32)), (.int (2 : Int32))] 3)) (s₁.setTop (mkF m 0 #[vr d, vi (1 : Int32), vi (2 : Int32)] []))) ?_
  refine .go (fun _ k => XS.aloadN X0.here hx rfl (hb hby d29_0) rfl rfl k) ?_
  refine .go (fun _ k => XS.iloadN X0.here hx rfl (hb hby d29_1) rfl k) ?_
  refine .go (fun _ k => XS.iloadN X0.here hx rfl (hb hby d29_2) rfl k) ?_
  refine .go (fun _ k => XS.iconst X0.here hx rfl (hb hby d29_3) k) ?_
  obtain ⟨v11, T11, L11, X11, q11, st11⟩ := callSt X0 hx hZ hown (hw _ w_122) (hw _ w_123) (hw _ w_26) (hw _ w_124) (by decide) (W := 0) (rmC4_2_1 l Z a0 hw n0 h0 O d kd x1 x2 x3 hc1 hc2 hc3 VD S_as S_hb S_lb) e0 (by decide) (by decide) (by decide) (by decide) (g := (mkF m 4 #[vr d, vi (1 : Int32), vi (2 : Int32)] [(.int (0 : Int32)), (.int (2 : Int32)), (.int (1 : Int32)), (.ref d)])) rfl (by rw [hml]; rfl) (argsL := [(.ref d), (.int (1 : Int32)), (.int (2 : Int32)), (.int (0 : Int32))]) (rest := []) (lenOf pd_oABIIZcI rfl) rfl (wk rfl rfl) (hb hby d29_4)
  obtain ⟨rfl, e11, rfl⟩ := q11
  have N11 := Fr.app N0 (Fr.nil n0)
  refine Fin.go st11 ?_
  show Fin _ _ _ _ _ _ _ _ T11 (mkF m 7 #[vr d, vi (1 : Int32), vi (2 : Int32)] [(.int (cpN (2 : Int32) (2 : Int32) x2 x3))])
  exact Fin.leaveN X11 e11 hlk (v := some (.int (cpN (2 : Int32) (2 : Int32) x2 x3))) (nvS hret) (by decide) (by decide) ⟨rfl, rfl, rfl⟩ (fun fs hr => retI X11 hx hret (hb hby d29_7) hr)
theorem rmAu_2_1 (l : Launch) (Z : State) (a0 : Array Value) (hw : HW a0 Z) (n0 : Nat) (h0 : Heap) (O : Old Z n0 h0) (a d : Addr) (kd : ClassId) (x1 x2 x3 : Int32) (A : Exa Z h0 a "java/lang/String") (F1 : Fld Z h0 a "java/lang/String" "coder" "B" (.int (1 : Int32))) (F2 : Fld Z h0 a "java/lang/String" "value" "[B" (.ref d)) (VD : Arv Z h0 d kd .byte (4 : Int32) [(.int (lo8 x1)), (.int (hi8 x1)), (.int (lo8 x2)), (.int (hi8 x2))] (.int (0 : Int32))) (cs : Int32) (S_cs : Sta Z Z.heap "java/lang/String" "COMPACT_STRINGS" "Z" (.int cs)) (hcs : ¬ cs = 0) (hc1 : ChI x1) (hc2 : ChI x2) (hc3 : ChI x3) (S_as : SAs Z) (S_hb : SHb Z) (S_lb : SLb Z) (fm : Value) (hfm : fm.isRef = true) (S_fm : SFm Z fm) :
    ConW FrameEnd l Z [] (⟨"java/lang/String", "codePointAt", "(I)I"⟩ : MethodName) jdk_42_method_57_code 3 (some .int) ({ frames := 3, cells := 0, slots := 0, locals := 44 } : Room) #[(.ref a), (.int (1 : Int32))] h0 (Pure h0 (some (.int (cpN (2 : Int32) (2 : Int32) x2 x3)))) := by
  refine conOf (plainFor_of_name pn_java_lang_String) ?_
  intro p e s m below mth cc s₁ X0 hx hby hml hown hnm hret hlk hZ e0
  have N0 := Fr.nil n0
  refine Fin.came (castTop (t := _) (by first | (simp [entryFrame, mkF, argsToLocals, Value.category]; done) | rfl) (Steps.refl _) : Steps p.tables e below (s₁.setTop (entryFrame m #[(.ref a), (.int (1 : Int32))] 3)) (s₁.setTop (mkF m 0 #[vr a, vi (1 : Int32), .unset] []))) ?_
  refine .go (fun _ k => XS.aloadN X0.here hx rfl (hb hby d25_0) rfl rfl k) ?_
  obtain ⟨v11, T11, L11, X11, q11, st11⟩ := callVt X0 hx hZ (y := (⟨"java/lang/String", "isLatin1", "()Z"⟩ : MethodName)) hown (hw _ w_106) (hw _ w_107) (hw _ w_109) (hw _ w_108) (hw _ w_12) (hw _ w_110) (by decide) (W := 0) (rmIsL1 l Z a0 hw n0 h0 O a F1 cs S_cs hcs) e0 A (by decide) (by decide) (by decide) (by decide) (g := (mkF m 1 #[vr a, vi (1 : Int32), .unset] [(.ref a)])) rfl (by rw [hml]; rfl) (argsL := []) (rest := []) (lenOf pd_ocZ rfl) rfl (wk rfl rfl) (hb hby d25_1)
  obtain ⟨rfl, e11, rfl⟩ := q11
  have N11 := Fr.app N0 (Fr.nil n0)
  refine Fin.go st11 ?_
  show Fin _ _ _ _ _ _ _ _ T11 (mkF m 4 #[vr a, vi (1 : Int32), .unset] [(.int (0 : Int32))])
  refine .go (fun _ k => XS.ifYes X11.here hx rfl (pc0 := 4) (pc' := 27) rfl (hb hby d25_4) rfl (XT.i0_eq_t (by decide)) (by decide) (by decide) k) ?_
  show Fin _ _ _ _ _ _ _ _ T11 (mkF m 27 #[vr a, vi (1 : Int32), .unset] [])
  refine .go (fun _ k => XS.aloadN X11.here hx rfl (hb hby d25_27) rfl rfl k) ?_
  obtain ⟨T12, X12, e12, st12⟩ := getF X11 hx hZ hown (host := "") (Or.inl (hw _ w_37)) Via.refl e11 F2 (g := (mkF m 28 #[vr a, vi (1 : Int32), .unset] [(.ref a)])) rfl rfl (hb hby d25_28)
  refine Fin.go st12 ?_
  show Fin _ _ _ _ _ _ _ _ T12 (mkF m 31 #[vr a, vi (1 : Int32), .unset] [(.ref d)])
  obtain ⟨cz13, B13, q13, S13, M13, H13, G13⟩ := id VD
  refine Fin.go (fun _ k => X12.arraylength hx (by rw [e12]; exact B13.1) (State.isArrayOf_alike hZ.alike B13.2.1) (g := (mkF m 31 #[vr a, vi (1 : Int32), .unset] [(.ref d)])) rfl rfl (hb hby d25_31) _ k) ?_
  rw [len_of S13 M13]
  show Fin _ _ _ _ _ _ _ _ T12 (mkF m 32 #[vr a, vi (1 : Int32), .unset] [(.int (4 : Int32))])
  refine .go (fun _ k => XS.iconst X12.here hx rfl (hb hby d25_32) k) ?_
  refine .go (fun _ k => XT.ishr X12.here hx rfl (hb hby d25_33) rfl k) ?_
  refine .go (fun _ k => XS.istoreN X12.here hx rfl (hb hby d25_34) rfl (l' := #[vr a, vi (1 : Int32), vi ((4 : Int32) >>> ((1 : Int32) &&& 31))]) rfl k) ?_
  show Fin _ _ _ _ _ _ _ _ T12 (mkF m 35 #[vr a, vi (1 : Int32), vi ((4 : Int32) >>> ((1 : Int32) &&& 31))] [])
  rw [show ((4 : Int32) >>> ((1 : Int32) &&& 31)) = (2 : Int32) from by decide]
  show Fin _ _ _ _ _ _ _ _ T12 (mkF m 35 #[vr a, vi (1 : Int32), vi (2 : Int32)] [])
  refine .go (fun _ k => XS.iloadN X12.here hx rfl (hb hby d25_35) rfl k) ?_
  refine .go (fun _ k => XS.iloadN X12.here hx rfl (hb hby d25_36) rfl k) ?_
  obtain ⟨v14, T14, L14, X14, q14, st14⟩ := callSt X12 hx hZ hown (hw _ w_111) (hw _ w_112) (hw _ w_12) (hw _ w_113) (by decide) (W := 0) (rmSCI l Z a0 hw n0 h0 O (1 : Int32) (2 : Int32) (by decide) (by decide) fm hfm S_fm) e12 (by decide) (by decide) (by decide) (by decide) (g := (mkF m 37 #[vr a, vi (1 : Int32), vi (2 : Int32)] [(.int (2 : Int32)), (.int (1 : Int32))])) rfl (by rw [hml]; rfl) (argsL := [(.int (1 : Int32)), (.int (2 : Int32))]) (rest := []) (lenOf pd_oIIcV rfl) rfl (wk rfl rfl) (hb hby d25_37)
  obtain ⟨rfl, e14, rfl⟩ := q14
  have N14 := Fr.app N11 (Fr.nil n0)
  refine Fin.go st14 ?_
  show Fin _ _ _ _ _ _ _ _ T14 (mkF m 40 #[vr a, vi (1 : Int32), vi (2 : Int32)] [])
  refine .go (fun _ k => XS.aloadN X14.here hx rfl (hb hby d25_40) rfl rfl k) ?_
  obtain ⟨T15, X15, e15, st15⟩ := getF X14 hx hZ hown (host := "") (Or.inl (hw _ w_37)) Via.refl e14 F2 (g := (mkF m 41 #[vr a, vi (1 : Int32), vi (2 : Int32)] [(.ref a)])) rfl rfl (hb hby d25_41)
  refine Fin.go st15 ?_
  show Fin _ _ _ _ _ _ _ _ T15 (mkF m 44 #[vr a, vi (1 : Int32), vi (2 : Int32)] [(.ref d)])
  refine .go (fun _ k => XS.iloadN X15.here hx rfl (hb hby d25_44) rfl k) ?_
  refine .go (fun _ k => XS.iloadN X15.here hx rfl (hb hby d25_45) rfl k) ?_
  obtain ⟨v16, T16, L16, X16, q16, st16⟩ := callSt X15 hx hZ hown (hw _ w_119) (hw _ w_120) (hw _ w_26) (hw _ w_121) (by decide) (W := 0) (rmC3_2_1 l Z a0 hw n0 h0 O d kd x1 x2 x3 hc1 hc2 hc3 VD S_as S_hb S_lb) e15 (by decide) (by decide) (by decide) (by decide) (g := (mkF m 46 #[vr a, vi (1 : Int32), vi (2 : Int32)] [(.int (2 : Int32)), (.int (1 : Int32)), (.ref d)])) rfl (by rw [hml]; rfl) (argsL := [(.ref d), (.int (1 : Int32)), (.int (2 : Int32))]) (rest := []) (lenOf pd_oABIIcI rfl) rfl (wk rfl rfl) (hb hby d25_46)
  obtain ⟨rfl, e16, rfl⟩ := q16
  have N16 := Fr.app N14 (Fr.nil n0)
  refine Fin.go st16 ?_
  show Fin _ _ _ _ _ _ _ _ T16 (mkF m 49 #[vr a, vi (1 : Int32), vi (2 : Int32)] [(.int (cpN (2 : Int32) (2 : Int32) x2 x3))])
  exact Fin.leaveN X16 e16 hlk (v := some (.int (cpN (2 : Int32) (2 : Int32) x2 x3))) (nvS hret) (by decide) (by decide) ⟨rfl, rfl, rfl⟩ (fun fs hr => retI X16 hx hret (hb hby d25_49) hr)
theorem rmAl_2_1 (l : Launch) (Z : State) (a0 : Array Value) (hw : HW a0 Z) (n0 : Nat) (h0 : Heap) (O : Old Z n0 h0) (a d : Addr) (kd : ClassId) (x1 x2 x3 : Int32) (A : Exa Z h0 a "java/lang/String") (F1 : Fld Z h0 a "java/lang/String" "coder" "B" (.int (0 : Int32))) (F2 : Fld Z h0 a "java/lang/String" "value" "[B" (.ref d)) (VD : Arv Z h0 d kd .byte (2 : Int32) [(.int ((Int32.toInt8 x1).toInt32)), (.int ((Int32.toInt8 x2).toInt32))] (.int (0 : Int32))) (cs : Int32) (S_cs : Sta Z Z.heap "java/lang/String" "COMPACT_STRINGS" "Z" (.int cs)) (hcs : ¬ cs = 0) (hc1 : ChI x1) (hc2 : ChI x2) (hc3 : ChI x3) (hp1 : ¬ (255 : Int32) < x1) (hp2 : ¬ (255 : Int32) < x2) (fm : Value) (hfm : fm.isRef = true) (S_fm : SFm Z fm) :
    ConW FrameEnd l Z [] (⟨"java/lang/String", "codePointAt", "(I)I"⟩ : MethodName) jdk_42_method_57_code 3 (some .int) ({ frames := 3, cells := 0, slots := 0, locals := 44 } : Room) #[(.ref a), (.int (1 : Int32))] h0 (Pure h0 (some (.int (cpN (2 : Int32) (2 : Int32) x2 x3)))) := by
  refine conOf (plainFor_of_name pn_java_lang_String) ?_
  intro p e s m below mth cc s₁ X0 hx hby hml hown hnm hret hlk hZ e0
  have N0 := Fr.nil n0
  refine Fin.came (castTop (t := _) (by first | (simp [entryFrame, mkF, argsToLocals, Value.category]; done) | rfl) (Steps.refl _) : Steps p.tables e below (s₁.setTop (entryFrame m #[(.ref a), (.int (1 : Int32))] 3)) (s₁.setTop (mkF m 0 #[vr a, vi (1 : Int32), .unset] []))) ?_
  refine .go (fun _ k => XS.aloadN X0.here hx rfl (hb hby d25_0) rfl rfl k) ?_
  obtain ⟨v11, T11, L11, X11, q11, st11⟩ := callVt X0 hx hZ (y := (⟨"java/lang/String", "isLatin1", "()Z"⟩ : MethodName)) hown (hw _ w_106) (hw _ w_107) (hw _ w_109) (hw _ w_108) (hw _ w_12) (hw _ w_110) (by decide) (W := 0) (rmIsL0 l Z a0 hw n0 h0 O a F1 cs S_cs hcs) e0 A (by decide) (by decide) (by decide) (by decide) (g := (mkF m 1 #[vr a, vi (1 : Int32), .unset] [(.ref a)])) rfl (by rw [hml]; rfl) (argsL := []) (rest := []) (lenOf pd_ocZ rfl) rfl (wk rfl rfl) (hb hby d25_1)
  obtain ⟨rfl, e11, rfl⟩ := q11
  have N11 := Fr.app N0 (Fr.nil n0)
  refine Fin.go st11 ?_
  show Fin _ _ _ _ _ _ _ _ T11 (mkF m 4 #[vr a, vi (1 : Int32), .unset] [(.int (1 : Int32))])
  refine .go (fun _ k => XS.ifNo X11.here hx rfl (hb hby d25_4) rfl (XT.i0_eq_f (by decide)) k) ?_
  show Fin _ _ _ _ _ _ _ _ T11 (mkF m 7 #[vr a, vi (1 : Int32), .unset] [])
  refine .go (fun _ k => XS.iloadN X11.here hx rfl (hb hby d25_7) rfl k) ?_
  refine .go (fun _ k => XS.aloadN X11.here hx rfl (hb hby d25_8) rfl rfl k) ?_
  obtain ⟨T12, X12, e12, st12⟩ := getF X11 hx hZ hown (host := "") (Or.inl (hw _ w_37)) Via.refl e11 F2 (g := (mkF m 9 #[vr a, vi (1 : Int32), .unset] [(.ref a), (.int (1 : Int32))])) rfl rfl (hb hby d25_9)
  refine Fin.go st12 ?_
  show Fin _ _ _ _ _ _ _ _ T12 (mkF m 12 #[vr a, vi (1 : Int32), .unset] [(.ref d), (.int (1 : Int32))])
  obtain ⟨cz13, B13, q13, S13, M13, H13, G13⟩ := id VD
  refine Fin.go (fun _ k => X12.arraylength hx (by rw [e12]; exact B13.1) (State.isArrayOf_alike hZ.alike B13.2.1) (g := (mkF m 12 #[vr a, vi (1 : Int32), .unset] [(.ref d), (.int (1 : Int32))])) rfl rfl (hb hby d25_12) _ k) ?_
  rw [len_of S13 M13]
  show Fin _ _ _ _ _ _ _ _ T12 (mkF m 13 #[vr a, vi (1 : Int32), .unset] [(.int (2 : Int32)), (.int (1 : Int32))])
  obtain ⟨v14, T14, L14, X14, q14, st14⟩ := callSt X12 hx hZ hown (hw _ w_111) (hw _ w_112) (hw _ w_12) (hw _ w_113) (by decide) (W := 0) (rmSCI l Z a0 hw n0 h0 O (1 : Int32) (2 : Int32) (by decide) (by decide) fm hfm S_fm) e12 (by decide) (by decide) (by decide) (by decide) (g := (mkF m 13 #[vr a, vi (1 : Int32), .unset] [(.int (2 : Int32)), (.int (1 : Int32))])) rfl (by rw [hml]; rfl) (argsL := [(.int (1 : Int32)), (.int (2 : Int32))]) (rest := []) (lenOf pd_oIIcV rfl) rfl (wk rfl rfl) (hb hby d25_13)
  obtain ⟨rfl, e14, rfl⟩ := q14
  have N14 := Fr.app N11 (Fr.nil n0)
  refine Fin.go st14 ?_
  show Fin _ _ _ _ _ _ _ _ T14 (mkF m 16 #[vr a, vi (1 : Int32), .unset] [])
  refine .go (fun _ k => XS.aloadN X14.here hx rfl (hb hby d25_16) rfl rfl k) ?_
  obtain ⟨T15, X15, e15, st15⟩ := getF X14 hx hZ hown (host := "") (Or.inl (hw _ w_37)) Via.refl e14 F2 (g := (mkF m 17 #[vr a, vi (1 : Int32), .unset] [(.ref a)])) rfl rfl (hb hby d25_17)
  refine Fin.go st15 ?_
  show Fin _ _ _ _ _ _ _ _ T15 (mkF m 20 #[vr a, vi (1 : Int32), .unset] [(.ref d)])
  refine .go (fun _ k => XS.iloadN X15.here hx rfl (hb hby d25_20) rfl k) ?_
  obtain ⟨cz16, B16, q16, S16, M16, H16, G16⟩ := id VD
  have i16 := inb_of S16 ⟨(by decide : ¬ ((1 : Int32) < (0 : Int32))), (by decide : (1 : Int32) < (2 : Int32))⟩
  refine Fin.go (fun _ k => X15.baloadBytes hx (j := (1 : Int32)) (v := (.int ((Int32.toInt8 x2).toInt32))) (by rw [e15]; exact B16.1) (State.isArrayOf_alike hZ.alike B16.2.1) B16.2.2 i16 (Has.at H16 i16 rfl) (g := (mkF m 21 #[vr a, vi (1 : Int32), .unset] [(.int (1 : Int32)), (.ref d)])) rfl rfl (hb hby d25_21) _ k) ?_
  show Fin _ _ _ _ _ _ _ _ T15 (mkF m 22 #[vr a, vi (1 : Int32), .unset] [(.int ((Int32.toInt8 x2).toInt32))])
  refine .go (fun _ k => XS.sipush X15.here hx rfl (hb hby d25_22) k) ?_
  refine .go (fun _ k => XS.iand X15.here hx rfl (hb hby d25_25) rfl k) ?_
  exact Fin.leaveN X15 e15 hlk (v := some (.int (((Int32.toInt8 x2).toInt32) &&& (255 : Int32)))) (nvS hret) (by decide) (by decide) ⟨by rw [cpN_l hp2, b8and _ hc2 hp2], rfl, rfl⟩ (fun fs hr => retI X15 hx hret (hb hby d25_26) hr)
theorem rmC4_1_0 (l : Launch) (Z : State) (a0 : Array Value) (hw : HW a0 Z) (n0 : Nat) (h0 : Heap) (O : Old Z n0 h0) (d : Addr) (kd : ClassId) (x1 x2 x3 : Int32) (hc1 : ChI x1) (hc2 : ChI x2) (hc3 : ChI x3) (VD : Arv Z h0 d kd .byte (2 : Int32) [(.int (lo8 x1)), (.int (hi8 x1))] (.int (0 : Int32))) (S_as : SAs Z) (S_hb : SHb Z) (S_lb : SLb Z) :
    ConW FrameEnd l Z [] (⟨"java/lang/StringUTF16", "codePointAt", "([BIIZ)I"⟩ : MethodName) jdk_52_method_7_code 6 (some .int) ({ frames := 1, cells := 0, slots := 0, locals := 13 } : Room) #[(.ref d), (.int (0 : Int32)), (.int (1 : Int32)), (.int (0 : Int32))] h0 (Pure h0 (some (.int (cpN (1 : Int32) (1 : Int32) x1 x2)))) := by
  refine conOf (plainFor_of_name pn_java_lang_StringUTF16) ?_
  intro p e s m below mth cc s₁ X0 hx hby hml hown hnm hret hlk hZ e0
  have N0 := Fr.nil n0
  refine Fin.came (castTop (t := _) (by first | (simp [entryFrame, mkF, argsToLocals, Value.category]; done) | rfl) (Steps.refl _) : Steps p.tables e below (s₁.setTop (entryFrame m #[(.ref d), (.int (0 : Int32)), (.int (1 : Int32)), (.int (0 : Int32))] 6)) (s₁.setTop (mkF m 0 #[vr d, vi (0 : Int32), vi (1 : Int32), vi (0 : Int32), .unset, .unset] []))) ?_
  obtain ⟨T11, X11, e11, st11⟩ := getS2 X0 hx hZ hown (host := "") (Or.inl (hw _ w_95)) Via.refl e0 (S_as.ext O.2) (g := (mkF m 0 #[vr d, vi (0 : Int32), vi (1 : Int32), vi (0 : Int32), .unset, .unset] [])) rfl (hb hby d30_0)
  refine Fin.go st11 ?_
  show Fin _ _ _ _ _ _ _ _ T11 (mkF m 3 #[vr d, vi (0 : Int32), vi (1 : Int32), vi (0 : Int32), .unset, .unset] [(.int (1 : Int32))])
  refine .go (fun _ k => XS.ifYes X11.here hx rfl (pc0 := 3) (pc' := 19) rfl (hb hby d30_3) rfl (XT.i0_ne_t (by decide)) (by decide) (by decide) k) ?_
  show Fin _ _ _ _ _ _ _ _ T11 (mkF m 19 #[vr d, vi (0 : Int32), vi (1 : Int32), vi (0 : Int32), .unset, .unset] [])
  refine .go (fun _ k => XS.iloadN X11.here hx rfl (hb hby d30_19) rfl k) ?_
  refine .go (fun _ k => XS.ifYes X11.here hx rfl (pc0 := 20) (pc' := 28) rfl (hb hby d30_20) rfl (XT.i0_eq_t (by decide)) (by decide) (by decide) k) ?_
  show Fin _ _ _ _ _ _ _ _ T11 (mkF m 28 #[vr d, vi (0 : Int32), vi (1 : Int32), vi (0 : Int32), .unset, .unset] [])
  refine .go (fun _ k => XS.aloadN X11.here hx rfl (hb hby d30_28) rfl rfl k) ?_
  refine .go (fun _ k => XS.iloadN X11.here hx rfl (hb hby d30_29) rfl k) ?_
  obtain ⟨v12, T12, L12, X12, q12, st12⟩ := callSt X11 hx hZ hown (hw _ w_98) (hw _ w_99) (hw _ w_26) (hw _ w_100) (by decide) (W := 0) (rmGet1_0 l Z a0 hw n0 h0 O d kd x1 hc1 VD S_as S_hb S_lb) e11 (by decide) (by decide) (by decide) (by decide) (g := (mkF m 30 #[vr d, vi (0 : Int32), vi (1 : Int32), vi (0 : Int32), .unset, .unset] [(.int (0 : Int32)), (.ref d)])) rfl (by rw [hml]; rfl) (argsL := [(.ref d), (.int (0 : Int32))]) (rest := []) (lenOf pd_oABIcC rfl) rfl (wk rfl rfl) (hb hby d30_30)
  obtain ⟨rfl, e12, rfl⟩ := q12
  have N12 := Fr.app N0 (Fr.nil n0)
  refine Fin.go st12 ?_
  show Fin _ _ _ _ _ _ _ _ T12 (mkF m 33 #[vr d, vi (0 : Int32), vi (1 : Int32), vi (0 : Int32), .unset, .unset] [(.int x1)])
  refine .go (fun _ k => XS.istore X12.here hx rfl (hb hby d30_33) rfl (l' := #[vr d, vi (0 : Int32), vi (1 : Int32), vi (0 : Int32), vi x1, .unset]) rfl k) ?_
  refine .go (fun _ k => XS.iload X12.here hx rfl (hb hby d30_35) rfl k) ?_
  obtain ⟨v13, T13, L13, X13, q13, st13⟩ := callSt X12 hx hZ hown (hw _ w_125) (hw _ w_126) (hw _ w_127) (hw _ w_128) (by decide) (W := 0) (rmHS l Z a0 hw n0 h0 O x1) e12 (by decide) (by decide) (by decide) (by decide) (g := (mkF m 37 #[vr d, vi (0 : Int32), vi (1 : Int32), vi (0 : Int32), vi x1, .unset] [(.int x1)])) rfl (by rw [hml]; rfl) (argsL := [(.int x1)]) (rest := []) (lenOf pd_oCcZ rfl) rfl (wk rfl rfl) (hb hby d30_37)
  obtain ⟨rfl, e13, rfl⟩ := q13
  have N13 := Fr.app N12 (Fr.nil n0)
  refine Fin.go st13 ?_
  show Fin _ _ _ _ _ _ _ _ T13 (mkF m 40 #[vr d, vi (0 : Int32), vi (1 : Int32), vi (0 : Int32), vi x1, .unset] [(.int (hs x1))])
  by_cases c40 : (hs x1) = 0
  · refine .go (fun _ k => XS.ifYes X13.here hx rfl (pc0 := 40) (pc' := 83) rfl (hb hby d30_40) rfl (XT.i0_eq_t c40) (by decide) (by decide) k) ?_
    show Fin _ _ _ _ _ _ _ _ T13 (mkF m 83 #[vr d, vi (0 : Int32), vi (1 : Int32), vi (0 : Int32), vi x1, .unset] [])
    refine .go (fun _ k => XS.iload X13.here hx rfl (hb hby d30_83) rfl k) ?_
    exact Fin.leaveN X13 e13 hlk (v := some (.int x1)) (nvS hret) (by decide) (by decide) ⟨by simp [cpN, cp2, c40], rfl, rfl⟩ (fun fs hr => retI X13 hx hret (hb hby d30_85) hr)
  · refine .go (fun _ k => XS.ifNo X13.here hx rfl (hb hby d30_40) rfl (XT.i0_eq_f c40) k) ?_
    show Fin _ _ _ _ _ _ _ _ T13 (mkF m 43 #[vr d, vi (0 : Int32), vi (1 : Int32), vi (0 : Int32), vi x1, .unset] [])
    refine .go (fun _ k => XS.iinc X13.here hx rfl (hb hby d30_43) rfl (l' := #[vr d, vi ((0 : Int32) + (1 : Int32)), vi (1 : Int32), vi (0 : Int32), vi x1, .unset]) rfl k) ?_
    show Fin _ _ _ _ _ _ _ _ T13 (mkF m 46 #[vr d, vi ((0 : Int32) + (1 : Int32)), vi (1 : Int32), vi (0 : Int32), vi x1, .unset] [])
    rw [show ((0 : Int32) + (1 : Int32)) = (1 : Int32) from by decide]
    show Fin _ _ _ _ _ _ _ _ T13 (mkF m 46 #[vr d, vi (1 : Int32), vi (1 : Int32), vi (0 : Int32), vi x1, .unset] [])
    refine .go (fun _ k => XS.iloadN X13.here hx rfl (hb hby d30_46) rfl k) ?_
    refine .go (fun _ k => XS.iloadN X13.here hx rfl (hb hby d30_47) rfl k) ?_
    refine .go (fun _ k => XS.icmpYes X13.here hx rfl (pc0 := 48) (pc' := 83) rfl (hb hby d30_48) rfl (XT.ii_ge_t (by decide)) (by decide) (by decide) k) ?_
    show Fin _ _ _ _ _ _ _ _ T13 (mkF m 83 #[vr d, vi (1 : Int32), vi (1 : Int32), vi (0 : Int32), vi x1, .unset] [])
    refine .go (fun _ k => XS.iload X13.here hx rfl (hb hby d30_83) rfl k) ?_
    exact Fin.leaveN X13 e13 hlk (v := some (.int x1)) (nvS hret) (by decide) (by decide) ⟨by simp [cpN, cp2, c40], rfl, rfl⟩ (fun fs hr => retI X13 hx hret (hb hby d30_85) hr)
theorem rmC3_1_0 (l : Launch) (Z : State) (a0 : Array Value) (hw : HW a0 Z) (n0 : Nat) (h0 : Heap) (O : Old Z n0 h0) (d : Addr) (kd : ClassId) (x1 x2 x3 : Int32) (hc1 : ChI x1) (hc2 : ChI x2) (hc3 : ChI x3) (VD : Arv Z h0 d kd .byte (2 : Int32) [(.int (lo8 x1)), (.int (hi8 x1))] (.int (0 : Int32))) (S_as : SAs Z) (S_hb : SHb Z) (S_lb : SLb Z) :
    ConW FrameEnd l Z [] (⟨"java/lang/StringUTF16", "codePointAt", "([BII)I"⟩ : MethodName) jdk_52_method_8_code 3 (some .int) ({ frames := 2, cells := 0, slots := 0, locals := 30 } : Room) #[(.ref d), (.int (0 : Int32)), (.int (1 : Int32))] h0 (Pure h0 (some (.int (cpN (1 : Int32) (1 : Int32) x1 x2)))) := by
  refine conOf (plainFor_of_name pn_java_lang_StringUTF16) ?_
  intro p e s m below mth cc s₁ X0 hx hby hml hown hnm hret hlk hZ e0
  have N0 := Fr.nil n0
  refine Fin.came (castTop (t := _) (by first | (simp [entryFrame, mkF, argsToLocals, Value.category]; done) | rfl) (Steps.refl _) : Steps p.tables e below (s₁.setTop (entryFrame m #[(.ref d), (.int (0 : Int32)), (.int (1 : Int32))] 3)) (s₁.setTop (mkF m 0 #[vr d, vi (0 : Int32), vi (1 : Int32)] []))) ?_
  refine .go (fun _ k => XS.aloadN X0.here hx rfl (hb hby d29_0) rfl rfl k) ?_
  refine .go (fun _ k => XS.iloadN X0.here hx rfl (hb hby d29_1) rfl k) ?_
  refine .go (fun _ k => XS.iloadN X0.here hx rfl (hb hby d29_2) rfl k) ?_
  refine .go (fun _ k => XS.iconst X0.here hx rfl (hb hby d29_3) k) ?_
  obtain ⟨v11, T11, L11, X11, q11, st11⟩ := callSt X0 hx hZ hown (hw _ w_122) (hw _ w_123) (hw _ w_26) (hw _ w_124) (by decide) (W := 0) (rmC4_1_0 l Z a0 hw n0 h0 O d kd x1 x2 x3 hc1 hc2 hc3 VD S_as S_hb S_lb) e0 (by decide) (by decide) (by decide) (by decide) (g := (mkF m 4 #[vr d, vi (0 : Int32), vi (1 : Int32)] [(.int (0 : Int32)), (.int (1 : Int32)), (.int (0 : Int32)), (.ref d)])) rfl (by rw [hml]; rfl) (argsL := [(.ref d), (.int (0 : Int32)), (.int (1 : Int32)), (.int (0 : Int32))]) (rest := []) (lenOf pd_oABIIZcI rfl) rfl (wk rfl rfl) (hb hby d29_4)
  obtain ⟨rfl, e11, rfl⟩ := q11
  have N11 := Fr.app N0 (Fr.nil n0)
  refine Fin.go st11 ?_
  show Fin _ _ _ _ _ _ _ _ T11 (mkF m 7 #[vr d, vi (0 : Int32), vi (1 : Int32)] [(.int (cpN (1 : Int32) (1 : Int32) x1 x2))])
  exact Fin.leaveN X11 e11 hlk (v := some (.int (cpN (1 : Int32) (1 : Int32) x1 x2))) (nvS hret) (by decide) (by decide) ⟨rfl, rfl, rfl⟩ (fun fs hr => retI X11 hx hret (hb hby d29_7) hr)
theorem rmAu_1_0 (l : Launch) (Z : State) (a0 : Array Value) (hw : HW a0 Z) (n0 : Nat) (h0 : Heap) (O : Old Z n0 h0) (a d : Addr) (kd : ClassId) (x1 x2 x3 : Int32) (A : Exa Z h0 a "java/lang/String") (F1 : Fld Z h0 a "java/lang/String" "coder" "B" (.int (1 : Int32))) (F2 : Fld Z h0 a "java/lang/String" "value" "[B" (.ref d)) (VD : Arv Z h0 d kd .byte (2 : Int32) [(.int (lo8 x1)), (.int (hi8 x1))] (.int (0 : Int32))) (cs : Int32) (S_cs : Sta Z Z.heap "java/lang/String" "COMPACT_STRINGS" "Z" (.int cs)) (hcs : ¬ cs = 0) (hc1 : ChI x1) (hc2 : ChI x2) (hc3 : ChI x3) (S_as : SAs Z) (S_hb : SHb Z) (S_lb : SLb Z) (fm : Value) (hfm : fm.isRef = true) (S_fm : SFm Z fm) :
    ConW FrameEnd l Z [] (⟨"java/lang/String", "codePointAt", "(I)I"⟩ : MethodName) jdk_42_method_57_code 3 (some .int) ({ frames := 3, cells := 0, slots := 0, locals := 44 } : Room) #[(.ref a), (.int (0 : Int32))] h0 (Pure h0 (some (.int (cpN (1 : Int32) (1 : Int32) x1 x2)))) := by
  refine conOf (plainFor_of_name pn_java_lang_String) ?_
  intro p e s m below mth cc s₁ X0 hx hby hml hown hnm hret hlk hZ e0
  have N0 := Fr.nil n0
  refine Fin.came (castTop (t := _) (by first | (simp [entryFrame, mkF, argsToLocals, Value.category]; done) | rfl) (Steps.refl _) : Steps p.tables e below (s₁.setTop (entryFrame m #[(.ref a), (.int (0 : Int32))] 3)) (s₁.setTop (mkF m 0 #[vr a, vi (0 : Int32), .unset] []))) ?_
  refine .go (fun _ k => XS.aloadN X0.here hx rfl (hb hby d25_0) rfl rfl k) ?_
  obtain ⟨v11, T11, L11, X11, q11, st11⟩ := callVt X0 hx hZ (y := (⟨"java/lang/String", "isLatin1", "()Z"⟩ : MethodName)) hown (hw _ w_106) (hw _ w_107) (hw _ w_109) (hw _ w_108) (hw _ w_12) (hw _ w_110) (by decide) (W := 0) (rmIsL1 l Z a0 hw n0 h0 O a F1 cs S_cs hcs) e0 A (by decide) (by decide) (by decide) (by decide) (g := (mkF m 1 #[vr a, vi (0 : Int32), .unset] [(.ref a)])) rfl (by rw [hml]; rfl) (argsL := []) (rest := []) (lenOf pd_ocZ rfl) rfl (wk rfl rfl) (hb hby d25_1)
  obtain ⟨rfl, e11, rfl⟩ := q11
  have N11 := Fr.app N0 (Fr.nil n0)
  refine Fin.go st11 ?_
  show Fin _ _ _ _ _ _ _ _ T11 (mkF m 4 #[vr a, vi (0 : Int32), .unset] [(.int (0 : Int32))])
  refine .go (fun _ k => XS.ifYes X11.here hx rfl (pc0 := 4) (pc' := 27) rfl (hb hby d25_4) rfl (XT.i0_eq_t (by decide)) (by decide) (by decide) k) ?_
  show Fin _ _ _ _ _ _ _ _ T11 (mkF m 27 #[vr a, vi (0 : Int32), .unset] [])
  refine .go (fun _ k => XS.aloadN X11.here hx rfl (hb hby d25_27) rfl rfl k) ?_
  obtain ⟨T12, X12, e12, st12⟩ := getF X11 hx hZ hown (host := "") (Or.inl (hw _ w_37)) Via.refl e11 F2 (g := (mkF m 28 #[vr a, vi (0 : Int32), .unset] [(.ref a)])) rfl rfl (hb hby d25_28)
  refine Fin.go st12 ?_
  show Fin _ _ _ _ _ _ _ _ T12 (mkF m 31 #[vr a, vi (0 : Int32), .unset] [(.ref d)])
  obtain ⟨cz13, B13, q13, S13, M13, H13, G13⟩ := id VD
  refine Fin.go (fun _ k => X12.arraylength hx (by rw [e12]; exact B13.1) (State.isArrayOf_alike hZ.alike B13.2.1) (g := (mkF m 31 #[vr a, vi (0 : Int32), .unset] [(.ref d)])) rfl rfl (hb hby d25_31) _ k) ?_
  rw [len_of S13 M13]
  show Fin _ _ _ _ _ _ _ _ T12 (mkF m 32 #[vr a, vi (0 : Int32), .unset] [(.int (2 : Int32))])
  refine .go (fun _ k => XS.iconst X12.here hx rfl (hb hby d25_32) k) ?_
  refine .go (fun _ k => XT.ishr X12.here hx rfl (hb hby d25_33) rfl k) ?_
  refine .go (fun _ k => XS.istoreN X12.here hx rfl (hb hby d25_34) rfl (l' := #[vr a, vi (0 : Int32), vi ((2 : Int32) >>> ((1 : Int32) &&& 31))]) rfl k) ?_
  show Fin _ _ _ _ _ _ _ _ T12 (mkF m 35 #[vr a, vi (0 : Int32), vi ((2 : Int32) >>> ((1 : Int32) &&& 31))] [])
  rw [show ((2 : Int32) >>> ((1 : Int32) &&& 31)) = (1 : Int32) from by decide]
  show Fin _ _ _ _ _ _ _ _ T12 (mkF m 35 #[vr a, vi (0 : Int32), vi (1 : Int32)] [])
  refine .go (fun _ k => XS.iloadN X12.here hx rfl (hb hby d25_35) rfl k) ?_
  refine .go (fun _ k => XS.iloadN X12.here hx rfl (hb hby d25_36) rfl k) ?_
  obtain ⟨v14, T14, L14, X14, q14, st14⟩ := callSt X12 hx hZ hown (hw _ w_111) (hw _ w_112) (hw _ w_12) (hw _ w_113) (by decide) (W := 0) (rmSCI l Z a0 hw n0 h0 O (0 : Int32) (1 : Int32) (by decide) (by decide) fm hfm S_fm) e12 (by decide) (by decide) (by decide) (by decide) (g := (mkF m 37 #[vr a, vi (0 : Int32), vi (1 : Int32)] [(.int (1 : Int32)), (.int (0 : Int32))])) rfl (by rw [hml]; rfl) (argsL := [(.int (0 : Int32)), (.int (1 : Int32))]) (rest := []) (lenOf pd_oIIcV rfl) rfl (wk rfl rfl) (hb hby d25_37)
  obtain ⟨rfl, e14, rfl⟩ := q14
  have N14 := Fr.app N11 (Fr.nil n0)
  refine Fin.go st14 ?_
  show Fin _ _ _ _ _ _ _ _ T14 (mkF m 40 #[vr a, vi (0 : Int32), vi (1 : Int32)] [])
  refine .go (fun _ k => XS.aloadN X14.here hx rfl (hb hby d25_40) rfl rfl k) ?_
  obtain ⟨T15, X15, e15, st15⟩ := getF X14 hx hZ hown (host := "") (Or.inl (hw _ w_37)) Via.refl e14 F2 (g := (mkF m 41 #[vr a, vi (0 : Int32), vi (1 : Int32)] [(.ref a)])) rfl rfl (hb hby d25_41)
  refine Fin.go st15 ?_
  show Fin _ _ _ _ _ _ _ _ T15 (mkF m 44 #[vr a, vi (0 : Int32), vi (1 : Int32)] [(.ref d)])
  refine .go (fun _ k => XS.iloadN X15.here hx rfl (hb hby d25_44) rfl k) ?_
  refine .go (fun _ k => XS.iloadN X15.here hx rfl (hb hby d25_45) rfl k) ?_
  obtain ⟨v16, T16, L16, X16, q16, st16⟩ := callSt X15 hx hZ hown (hw _ w_119) (hw _ w_120) (hw _ w_26) (hw _ w_121) (by decide) (W := 0) (rmC3_1_0 l Z a0 hw n0 h0 O d kd x1 x2 x3 hc1 hc2 hc3 VD S_as S_hb S_lb) e15 (by decide) (by decide) (by decide) (by decide) (g := (mkF m 46 #[vr a, vi (0 : Int32), vi (1 : Int32)] [(.int (1 : Int32)), (.int (0 : Int32)), (.ref d)])) rfl (by rw [hml]; rfl) (argsL := [(.ref d), (.int (0 : Int32)), (.int (1 : Int32))]) (rest := []) (lenOf pd_oABIIcI rfl) rfl (wk rfl rfl) (hb hby d25_46)
  obtain ⟨rfl, e16, rfl⟩ := q16
  have N16 := Fr.app N14 (Fr.nil n0)
  refine Fin.go st16 ?_
  show Fin _ _ _ _ _ _ _ _ T16 (mkF m 49 #[vr a, vi (0 : Int32), vi (1 : Int32)] [(.int (cpN (1 : Int32) (1 : Int32) x1 x2))])
  exact Fin.leaveN X16 e16 hlk (v := some (.int (cpN (1 : Int32) (1 : Int32) x1 x2))) (nvS hret) (by decide) (by decide) ⟨rfl, rfl, rfl⟩ (fun fs hr => retI X16 hx hret (hb hby d25_49) hr)
theorem rmAl_1_0 (l : Launch) (Z : State) (a0 : Array Value) (hw : HW a0 Z) (n0 : Nat) (h0 : Heap) (O : Old Z n0 h0) (a d : Addr) (kd : ClassId) (x1 x2 x3 : Int32) (A : Exa Z h0 a "java/lang/String") (F1 : Fld Z h0 a "java/lang/String" "coder" "B" (.int (0 : Int32))) (F2 : Fld Z h0 a "java/lang/String" "value" "[B" (.ref d)) (VD : Arv Z h0 d kd .byte (1 : Int32) [(.int ((Int32.toInt8 x1).toInt32))] (.int (0 : Int32))) (cs : Int32) (S_cs : Sta Z Z.heap "java/lang/String" "COMPACT_STRINGS" "Z" (.int cs)) (hcs : ¬ cs = 0) (hc1 : ChI x1) (hc2 : ChI x2) (hc3 : ChI x3) (hp1 : ¬ (255 : Int32) < x1) (fm : Value) (hfm : fm.isRef = true) (S_fm : SFm Z fm) :
    ConW FrameEnd l Z [] (⟨"java/lang/String", "codePointAt", "(I)I"⟩ : MethodName) jdk_42_method_57_code 3 (some .int) ({ frames := 3, cells := 0, slots := 0, locals := 44 } : Room) #[(.ref a), (.int (0 : Int32))] h0 (Pure h0 (some (.int (cpN (1 : Int32) (1 : Int32) x1 x2)))) := by
  refine conOf (plainFor_of_name pn_java_lang_String) ?_
  intro p e s m below mth cc s₁ X0 hx hby hml hown hnm hret hlk hZ e0
  have N0 := Fr.nil n0
  refine Fin.came (castTop (t := _) (by first | (simp [entryFrame, mkF, argsToLocals, Value.category]; done) | rfl) (Steps.refl _) : Steps p.tables e below (s₁.setTop (entryFrame m #[(.ref a), (.int (0 : Int32))] 3)) (s₁.setTop (mkF m 0 #[vr a, vi (0 : Int32), .unset] []))) ?_
  refine .go (fun _ k => XS.aloadN X0.here hx rfl (hb hby d25_0) rfl rfl k) ?_
  obtain ⟨v11, T11, L11, X11, q11, st11⟩ := callVt X0 hx hZ (y := (⟨"java/lang/String", "isLatin1", "()Z"⟩ : MethodName)) hown (hw _ w_106) (hw _ w_107) (hw _ w_109) (hw _ w_108) (hw _ w_12) (hw _ w_110) (by decide) (W := 0) (rmIsL0 l Z a0 hw n0 h0 O a F1 cs S_cs hcs) e0 A (by decide) (by decide) (by decide) (by decide) (g := (mkF m 1 #[vr a, vi (0 : Int32), .unset] [(.ref a)])) rfl (by rw [hml]; rfl) (argsL := []) (rest := []) (lenOf pd_ocZ rfl) rfl (wk rfl rfl) (hb hby d25_1)
  obtain ⟨rfl, e11, rfl⟩ := q11
  have N11 := Fr.app N0 (Fr.nil n0)
  refine Fin.go st11 ?_
  show Fin _ _ _ _ _ _ _ _ T11 (mkF m 4 #[vr a, vi (0 : Int32), .unset] [(.int (1 : Int32))])
  refine .go (fun _ k => XS.ifNo X11.here hx rfl (hb hby d25_4) rfl (XT.i0_eq_f (by decide)) k) ?_
  show Fin _ _ _ _ _ _ _ _ T11 (mkF m 7 #[vr a, vi (0 : Int32), .unset] [])
  refine .go (fun _ k => XS.iloadN X11.here hx rfl (hb hby d25_7) rfl k) ?_
  refine .go (fun _ k => XS.aloadN X11.here hx rfl (hb hby d25_8) rfl rfl k) ?_
  obtain ⟨T12, X12, e12, st12⟩ := getF X11 hx hZ hown (host := "") (Or.inl (hw _ w_37)) Via.refl e11 F2 (g := (mkF m 9 #[vr a, vi (0 : Int32), .unset] [(.ref a), (.int (0 : Int32))])) rfl rfl (hb hby d25_9)
  refine Fin.go st12 ?_
  show Fin _ _ _ _ _ _ _ _ T12 (mkF m 12 #[vr a, vi (0 : Int32), .unset] [(.ref d), (.int (0 : Int32))])
  obtain ⟨cz13, B13, q13, S13, M13, H13, G13⟩ := id VD
  refine Fin.go (fun _ k => X12.arraylength hx (by rw [e12]; exact B13.1) (State.isArrayOf_alike hZ.alike B13.2.1) (g := (mkF m 12 #[vr a, vi (0 : Int32), .unset] [(.ref d), (.int (0 : Int32))])) rfl rfl (hb hby d25_12) _ k) ?_
  rw [len_of S13 M13]
  show Fin _ _ _ _ _ _ _ _ T12 (mkF m 13 #[vr a, vi (0 : Int32), .unset] [(.int (1 : Int32)), (.int (0 : Int32))])
  obtain ⟨v14, T14, L14, X14, q14, st14⟩ := callSt X12 hx hZ hown (hw _ w_111) (hw _ w_112) (hw _ w_12) (hw _ w_113) (by decide) (W := 0) (rmSCI l Z a0 hw n0 h0 O (0 : Int32) (1 : Int32) (by decide) (by decide) fm hfm S_fm) e12 (by decide) (by decide) (by decide) (by decide) (g := (mkF m 13 #[vr a, vi (0 : Int32), .unset] [(.int (1 : Int32)), (.int (0 : Int32))])) rfl (by rw [hml]; rfl) (argsL := [(.int (0 : Int32)), (.int (1 : Int32))]) (rest := []) (lenOf pd_oIIcV rfl) rfl (wk rfl rfl) (hb hby d25_13)
  obtain ⟨rfl, e14, rfl⟩ := q14
  have N14 := Fr.app N11 (Fr.nil n0)
  refine Fin.go st14 ?_
  show Fin _ _ _ _ _ _ _ _ T14 (mkF m 16 #[vr a, vi (0 : Int32), .unset] [])
  refine .go (fun _ k => XS.aloadN X14.here hx rfl (hb hby d25_16) rfl rfl k) ?_
  obtain ⟨T15, X15, e15, st15⟩ := getF X14 hx hZ hown (host := "") (Or.inl (hw _ w_37)) Via.refl e14 F2 (g := (mkF m 17 #[vr a, vi (0 : Int32), .unset] [(.ref a)])) rfl rfl (hb hby d25_17)
  refine Fin.go st15 ?_
  show Fin _ _ _ _ _ _ _ _ T15 (mkF m 20 #[vr a, vi (0 : Int32), .unset] [(.ref d)])
  refine .go (fun _ k => XS.iloadN X15.here hx rfl (hb hby d25_20) rfl k) ?_
  obtain ⟨cz16, B16, q16, S16, M16, H16, G16⟩ := id VD
  have i16 := inb_of S16 ⟨(by decide : ¬ ((0 : Int32) < (0 : Int32))), (by decide : (0 : Int32) < (1 : Int32))⟩
  refine Fin.go (fun _ k => X15.baloadBytes hx (j := (0 : Int32)) (v := (.int ((Int32.toInt8 x1).toInt32))) (by rw [e15]; exact B16.1) (State.isArrayOf_alike hZ.alike B16.2.1) B16.2.2 i16 (Has.at H16 i16 rfl) (g := (mkF m 21 #[vr a, vi (0 : Int32), .unset] [(.int (0 : Int32)), (.ref d)])) rfl rfl (hb hby d25_21) _ k) ?_
  show Fin _ _ _ _ _ _ _ _ T15 (mkF m 22 #[vr a, vi (0 : Int32), .unset] [(.int ((Int32.toInt8 x1).toInt32))])
  refine .go (fun _ k => XS.sipush X15.here hx rfl (hb hby d25_22) k) ?_
  refine .go (fun _ k => XS.iand X15.here hx rfl (hb hby d25_25) rfl k) ?_
  exact Fin.leaveN X15 e15 hlk (v := some (.int (((Int32.toInt8 x1).toInt32) &&& (255 : Int32)))) (nvS hret) (by decide) (by decide) ⟨by rw [cpN_l hp1, b8and _ hc1 hp1], rfl, rfl⟩ (fun fs hr => retI X15 hx hret (hb hby d25_26) hr)
theorem rmCP0 (l : Launch) (Z : State) (a0 : Array Value) (hw : HW a0 Z) (n0 : Nat) (h0 : Heap) (O : Old Z n0 h0) (a : Addr) (n x1 x2 x3 : Int32) (B : Nat) (F : TS Z h0 a n x1 x2 x3 B) (cs : Int32) (S_cs : Sta Z Z.heap "java/lang/String" "COMPACT_STRINGS" "Z" (.int cs)) (hcs : ¬ cs = 0) (hc1 : ChI x1) (hc2 : ChI x2) (hc3 : ChI x3) (hn : (0 : Int32) < n) (S_as : SAs Z) (S_hb : SHb Z) (S_lb : SLb Z) (fm : Value) (hfm : fm.isRef = true) (S_fm : SFm Z fm) : Con FrameEnd l Z (⟨"java/lang/String", "codePointAt", "(I)I"⟩ : MethodName) jdk_42_method_57_code 3 (some .int) ({ frames := 3, cells := 0, slots := 0, locals := 44 } : Room) #[(.ref a), (.int (0 : Int32))] h0 (Pure h0 (some (.int (cpN (1 : Int32) n x1 x2)))) := by
  obtain ⟨-, -, A, co, d, kd, z, bs, -, F1, F2, VD, hE⟩ := F
  rcases hE with ⟨rfl, rfl, rfl, rfl⟩ | ⟨rfl, rfl, rfl, rfl, hp1⟩ | ⟨rfl, rfl, rfl, rfl, hp1, hp2⟩ | ⟨rfl, rfl, rfl, rfl, hp1, hp2, hp3⟩ | ⟨rfl, rfl, rfl, rfl⟩ | ⟨rfl, rfl, rfl, rfl⟩ | ⟨rfl, rfl, rfl, rfl⟩
  · exact absurd hn (by decide)
  · exact rmAl_1_0 l Z a0 hw n0 h0 O a d kd x1 x2 x3 A F1 F2 VD cs S_cs hcs hc1 hc2 hc3 hp1 fm hfm S_fm
  · exact rmAl_2_0 l Z a0 hw n0 h0 O a d kd x1 x2 x3 A F1 F2 VD cs S_cs hcs hc1 hc2 hc3 hp1 hp2 fm hfm S_fm
  · exact rmAl_3_0 l Z a0 hw n0 h0 O a d kd x1 x2 x3 A F1 F2 VD cs S_cs hcs hc1 hc2 hc3 hp1 hp2 hp3 fm hfm S_fm
  · exact rmAu_1_0 l Z a0 hw n0 h0 O a d kd x1 x2 x3 A F1 F2 VD cs S_cs hcs hc1 hc2 hc3 S_as S_hb S_lb fm hfm S_fm
  · exact rmAu_2_0 l Z a0 hw n0 h0 O a d kd x1 x2 x3 A F1 F2 VD cs S_cs hcs hc1 hc2 hc3 S_as S_hb S_lb fm hfm S_fm
  · exact rmAu_3_0 l Z a0 hw n0 h0 O a d kd x1 x2 x3 A F1 F2 VD cs S_cs hcs hc1 hc2 hc3 S_as S_hb S_lb fm hfm S_fm
theorem rmCP1 (l : Launch) (Z : State) (a0 : Array Value) (hw : HW a0 Z) (n0 : Nat) (h0 : Heap) (O : Old Z n0 h0) (a : Addr) (n x1 x2 x3 : Int32) (B : Nat) (F : TS Z h0 a n x1 x2 x3 B) (cs : Int32) (S_cs : Sta Z Z.heap "java/lang/String" "COMPACT_STRINGS" "Z" (.int cs)) (hcs : ¬ cs = 0) (hc1 : ChI x1) (hc2 : ChI x2) (hc3 : ChI x3) (hn : (1 : Int32) < n) (S_as : SAs Z) (S_hb : SHb Z) (S_lb : SLb Z) (fm : Value) (hfm : fm.isRef = true) (S_fm : SFm Z fm) : Con FrameEnd l Z (⟨"java/lang/String", "codePointAt", "(I)I"⟩ : MethodName) jdk_42_method_57_code 3 (some .int) ({ frames := 3, cells := 0, slots := 0, locals := 44 } : Room) #[(.ref a), (.int (1 : Int32))] h0 (Pure h0 (some (.int (cpN (2 : Int32) n x2 x3)))) := by
  obtain ⟨-, -, A, co, d, kd, z, bs, -, F1, F2, VD, hE⟩ := F
  rcases hE with ⟨rfl, rfl, rfl, rfl⟩ | ⟨rfl, rfl, rfl, rfl, hp1⟩ | ⟨rfl, rfl, rfl, rfl, hp1, hp2⟩ | ⟨rfl, rfl, rfl, rfl, hp1, hp2, hp3⟩ | ⟨rfl, rfl, rfl, rfl⟩ | ⟨rfl, rfl, rfl, rfl⟩ | ⟨rfl, rfl, rfl, rfl⟩
  · exact absurd hn (by decide)
  · exact absurd hn (by decide)
  · exact rmAl_2_1 l Z a0 hw n0 h0 O a d kd x1 x2 x3 A F1 F2 VD cs S_cs hcs hc1 hc2 hc3 hp1 hp2 fm hfm S_fm
  · exact rmAl_3_1 l Z a0 hw n0 h0 O a d kd x1 x2 x3 A F1 F2 VD cs S_cs hcs hc1 hc2 hc3 hp1 hp2 hp3 fm hfm S_fm
  · exact absurd hn (by decide)
  · exact rmAu_2_1 l Z a0 hw n0 h0 O a d kd x1 x2 x3 A F1 F2 VD cs S_cs hcs hc1 hc2 hc3 S_as S_hb S_lb fm hfm S_fm
  · exact rmAu_3_1 l Z a0 hw n0 h0 O a d kd x1 x2 x3 A F1 F2 VD cs S_cs hcs hc1 hc2 hc3 S_as S_hb S_lb fm hfm S_fm
theorem rmCP2 (l : Launch) (Z : State) (a0 : Array Value) (hw : HW a0 Z) (n0 : Nat) (h0 : Heap) (O : Old Z n0 h0) (a : Addr) (n x1 x2 x3 : Int32) (B : Nat) (F : TS Z h0 a n x1 x2 x3 B) (cs : Int32) (S_cs : Sta Z Z.heap "java/lang/String" "COMPACT_STRINGS" "Z" (.int cs)) (hcs : ¬ cs = 0) (hc1 : ChI x1) (hc2 : ChI x2) (hc3 : ChI x3) (hn : (2 : Int32) < n) (S_as : SAs Z) (S_hb : SHb Z) (S_lb : SLb Z) (fm : Value) (hfm : fm.isRef = true) (S_fm : SFm Z fm) : Con FrameEnd l Z (⟨"java/lang/String", "codePointAt", "(I)I"⟩ : MethodName) jdk_42_method_57_code 3 (some .int) ({ frames := 3, cells := 0, slots := 0, locals := 44 } : Room) #[(.ref a), (.int (2 : Int32))] h0 (Pure h0 (some (.int (cpN (3 : Int32) n x3 x3)))) := by
  obtain ⟨-, -, A, co, d, kd, z, bs, -, F1, F2, VD, hE⟩ := F
  rcases hE with ⟨rfl, rfl, rfl, rfl⟩ | ⟨rfl, rfl, rfl, rfl, hp1⟩ | ⟨rfl, rfl, rfl, rfl, hp1, hp2⟩ | ⟨rfl, rfl, rfl, rfl, hp1, hp2, hp3⟩ | ⟨rfl, rfl, rfl, rfl⟩ | ⟨rfl, rfl, rfl, rfl⟩ | ⟨rfl, rfl, rfl, rfl⟩
  · exact absurd hn (by decide)
  · exact absurd hn (by decide)
  · exact absurd hn (by decide)
  · exact rmAl_3_2 l Z a0 hw n0 h0 O a d kd x1 x2 x3 A F1 F2 VD cs S_cs hcs hc1 hc2 hc3 hp1 hp2 hp3 fm hfm S_fm
  · exact absurd hn (by decide)
  · exact absurd hn (by decide)
  · exact rmAu_3_2 l Z a0 hw n0 h0 O a d kd x1 x2 x3 A F1 F2 VD cs S_cs hcs hc1 hc2 hc3 S_as S_hb S_lb fm hfm S_fm
theorem rmCmpB1 (l : Launch) (Z : State) (a0 : Array Value) (hw : HW a0 Z) (n0 : Nat) (h0 : Heap) (O : Old Z n0 h0) (b d : Addr) (kb kd : ClassId) (x1 : Int32) (VB : Arv Z h0 b kb .char (1 : Int32) [(.int x1)] (.int (0 : Int32))) (VD : Arv Z h0 d kd .byte (1 : Int32) [(.int (0 : Int32))] (.int (0 : Int32))) (hp1 : ¬ (255 : Int32) < x1) (nd : n0 ≤ d) (nbd : b ≠ d) :
    ConW FrameEnd l Z [] (⟨"java/lang/StringUTF16", "compress", "([CI[BII)I"⟩ : MethodName) jdk_52_method_21_code 7 (some .int) ({ frames := 0, cells := 0, slots := 0, locals := 0 } : Room) #[(.ref b), (.int (0 : Int32)), (.ref d), (.int (0 : Int32)), (.int (1 : Int32))] h0 (fun v h L => v = some (.int (1 : Int32)) ∧ Fr n0 L ∧ Keep h0 h [d] ∧ Arv Z h d kd .byte (1 : Int32) [(.int ((Int32.toInt8 x1).toInt32))] (.int (0 : Int32))) := by
  refine conOf (plainFor_of_name pn_java_lang_StringUTF16) ?_
  intro p e s m below mth cc s₁ X0 hx hby hml hown hnm hret hlk hZ e0
  have N0 := Fr.nil n0
  have K0 := Keep.refl h0 ([d] : List Addr)
  refine Fin.came (castTop (t := _) (by first | (simp [entryFrame, mkF, argsToLocals, Value.category]; done) | rfl) (Steps.refl _) : Steps p.tables e below (s₁.setTop (entryFrame m #[(.ref b), (.int (0 : Int32)), (.ref d), (.int (0 : Int32)), (.int (1 : Int32))] 7)) (s₁.setTop (mkF m 0 #[vr b, vi (0 : Int32), vr d, vi (0 : Int32), vi (1 : Int32), .unset, .unset] []))) ?_
  refine .go (fun _ k => XS.iconst X0.here hx rfl (hb hby d7_0) k) ?_
  refine .go (fun _ k => XS.istore X0.here hx rfl (hb hby d7_1) rfl (l' := #[vr b, vi (0 : Int32), vr d, vi (0 : Int32), vi (1 : Int32), vi (0 : Int32), .unset]) rfl k) ?_
  refine .go (fun _ k => XS.iload X0.here hx rfl (hb hby d7_3) rfl k) ?_
  refine .go (fun _ k => XS.iload X0.here hx rfl (hb hby d7_5) rfl k) ?_
  refine .go (fun _ k => XS.icmpNo X0.here hx rfl (hb hby d7_7) rfl (XT.ii_ge_f (by decide)) k) ?_
  show Fin _ _ _ _ _ _ _ _ s₁ (mkF m 10 #[vr b, vi (0 : Int32), vr d, vi (0 : Int32), vi (1 : Int32), vi (0 : Int32), .unset] [])
  refine .go (fun _ k => XS.aloadN X0.here hx rfl (hb hby d7_10) rfl rfl k) ?_
  refine .go (fun _ k => XS.iloadN X0.here hx rfl (hb hby d7_11) rfl k) ?_
  obtain ⟨cz11, B11, q11, S11, M11, H11, G11⟩ := id VB
  have i11 := inb_of S11 ⟨(by decide : ¬ ((0 : Int32) < (0 : Int32))), (by decide : (0 : Int32) < (1 : Int32))⟩
  refine Fin.go (fun _ k => X0.caload hx (j := (0 : Int32)) (v := (.int x1)) (by rw [e0]; exact B11.1) (State.isArrayOf_alike hZ.alike B11.2.1) B11.2.2 i11 (Has.at H11 i11 rfl) (g := (mkF m 12 #[vr b, vi (0 : Int32), vr d, vi (0 : Int32), vi (1 : Int32), vi (0 : Int32), .unset] [(.int (0 : Int32)), (.ref b)])) rfl rfl (hb hby d7_12) _ k) ?_
  show Fin _ _ _ _ _ _ _ _ s₁ (mkF m 13 #[vr b, vi (0 : Int32), vr d, vi (0 : Int32), vi (1 : Int32), vi (0 : Int32), .unset] [(.int x1)])
  refine .go (fun _ k => XS.istore X0.here hx rfl (hb hby d7_13) rfl (l' := #[vr b, vi (0 : Int32), vr d, vi (0 : Int32), vi (1 : Int32), vi (0 : Int32), vi x1]) rfl k) ?_
  refine .go (fun _ k => XS.iload X0.here hx rfl (hb hby d7_15) rfl k) ?_
  refine .go (fun _ k => XS.sipush X0.here hx rfl (hb hby d7_17) k) ?_
  refine .go (fun _ k => XS.icmpYes X0.here hx rfl (pc0 := 20) (pc' := 26) rfl (hb hby d7_20) rfl (XT.ii_le_t hp1) (by decide) (by decide) k) ?_
  show Fin _ _ _ _ _ _ _ _ s₁ (mkF m 26 #[vr b, vi (0 : Int32), vr d, vi (0 : Int32), vi (1 : Int32), vi (0 : Int32), vi x1] [])
  refine .go (fun _ k => XS.aloadN X0.here hx rfl (hb hby d7_26) rfl rfl k) ?_
  refine .go (fun _ k => XS.iloadN X0.here hx rfl (hb hby d7_27) rfl k) ?_
  refine .go (fun _ k => XS.iload X0.here hx rfl (hb hby d7_28) rfl k) ?_
  refine .go (fun _ k => XT.i2b X0.here hx rfl (hb hby d7_30) rfl k) ?_
  obtain ⟨cz12, B12, q12, S12, M12, H12, G12⟩ := id VD
  obtain ⟨T12, h12, X12, e12, W12, st12⟩ := stB X0 hx hZ e0 B12 (j := (0 : Int32)) (inb_of S12 ⟨(by decide : ¬ ((0 : Int32) < (0 : Int32))), (by decide : (0 : Int32) < (1 : Int32))⟩) (g := (mkF m 31 #[vr b, vi (0 : Int32), vr d, vi (0 : Int32), vi (1 : Int32), vi (0 : Int32), vi x1] [(.int ((Int32.toInt8 x1).toInt32)), (.int (0 : Int32)), (.ref d)])) rfl rfl (hb hby d7_31)
  refine Fin.go st12 ?_
  have V12 : Arv Z h12 d kd .byte (1 : Int32) [(.int ((Int32.toInt8 x1).toInt32))] (.int (0 : Int32)) := (by have q : Arv Z h12 d kd .byte (1 : Int32) [(.int (nar .byte ((Int32.toInt8 x1).toInt32)))] (.int (0 : Int32)) := (Arv.set B12 q12 S12 M12 H12 G12 (fits_nar_byte _) W12 0 rfl (Nat.le_of_ble_eq_true rfl)); rwa [nar_b8] at q)
  have N12 := Fr.snoc X12 N0 nd
  have O12 := O.wr W12 nd
  have K12 := K0.wr W12 (Or.inl (List.mem_of_getElem? (i := 0) rfl))
  show Fin _ _ _ _ _ _ _ _ T12 (mkF m 32 #[vr b, vi (0 : Int32), vr d, vi (0 : Int32), vi (1 : Int32), vi (0 : Int32), vi x1] [])
  refine .go (fun _ k => XS.iinc X12.here hx rfl (hb hby d7_32) rfl (l' := #[vr b, vi ((0 : Int32) + (1 : Int32)), vr d, vi (0 : Int32), vi (1 : Int32), vi (0 : Int32), vi x1]) rfl k) ?_
  refine .go (fun _ k => XS.iinc X12.here hx rfl (hb hby d7_35) rfl (l' := #[vr b, vi ((0 : Int32) + (1 : Int32)), vr d, vi ((0 : Int32) + (1 : Int32)), vi (1 : Int32), vi (0 : Int32), vi x1]) rfl k) ?_
  refine .go (fun _ k => XS.iinc X12.here hx rfl (hb hby d7_38) rfl (l' := #[vr b, vi ((0 : Int32) + (1 : Int32)), vr d, vi ((0 : Int32) + (1 : Int32)), vi (1 : Int32), vi ((0 : Int32) + (1 : Int32)), vi x1]) rfl k) ?_
  refine .go (fun _ k => XS.goto X12.here hx rfl (pc0 := 41) (pc' := 3) rfl (hb hby d7_41) (by decide) (by decide) k) ?_
  refine .go (fun _ k => XS.iload X12.here hx rfl (hb hby d7_3) rfl k) ?_
  refine .go (fun _ k => XS.iload X12.here hx rfl (hb hby d7_5) rfl k) ?_
  refine .go (fun _ k => XS.icmpYes X12.here hx rfl (pc0 := 7) (pc' := 44) rfl (hb hby d7_7) rfl (XT.ii_ge_t (by decide)) (by decide) (by decide) k) ?_
  show Fin _ _ _ _ _ _ _ _ T12 (mkF m 44 #[vr b, vi ((0 : Int32) + (1 : Int32)), vr d, vi ((0 : Int32) + (1 : Int32)), vi (1 : Int32), vi ((0 : Int32) + (1 : Int32)), vi x1] [])
  refine .go (fun _ k => XS.iload X12.here hx rfl (hb hby d7_44) rfl k) ?_
  exact Fin.leaveN X12 e12 hlk (v := some (.int (1 : Int32))) (nvS hret) (by decide) (by decide) ⟨rfl, N12, K12, V12⟩ (fun fs hr => retI X12 hx hret (hb hby d7_46) hr)
theorem rmCmpA1 (l : Launch) (Z : State) (a0 : Array Value) (hw : HW a0 Z) (n0 : Nat) (h0 : Heap) (O : Old Z n0 h0) (b : Addr) (kb : ClassId) (x1 : Int32) (VB : Arv Z h0 b kb .char (1 : Int32) [(.int x1)] (.int (0 : Int32))) (hp1 : ¬ (255 : Int32) < x1) :
    ConW FrameEnd l Z [] (⟨"java/lang/StringUTF16", "compress", "([CII)[B"⟩ : MethodName) jdk_52_method_16_code 6 (some (.array .byte)) ({ frames := 1, cells := 1, slots := 1, locals := 18 } : Room) #[(.ref b), (.int (0 : Int32)), (.int (1 : Int32))] h0 (fun v h L => ∃ d kd, v = some (.ref d) ∧ Fr n0 L ∧ Keep h0 h [] ∧ Arv Z h d kd .byte (1 : Int32) [(.int ((Int32.toInt8 x1).toInt32))] (.int (0 : Int32)) ∧ h0.size ≤ d) := by
  refine conOf (plainFor_of_name pn_java_lang_StringUTF16) ?_
  intro p e s m below mth cc s₁ X0 hx hby hml hown hnm hret hlk hZ e0
  have N0 := Fr.nil n0
  have K0 := Keep.refl h0 ([] : List Addr)
  refine Fin.came (castTop (t := _) (by first | (simp [entryFrame, mkF, argsToLocals, Value.category]; done) | rfl) (Steps.refl _) : Steps p.tables e below (s₁.setTop (entryFrame m #[(.ref b), (.int (0 : Int32)), (.int (1 : Int32))] 6)) (s₁.setTop (mkF m 0 #[vr b, vi (0 : Int32), vi (1 : Int32), .unset, .unset, .unset] []))) ?_
  refine .go (fun _ k => XS.iloadN X0.here hx rfl (hb hby d6_0) rfl k) ?_
  obtain ⟨T11, h11, k11, X11, e11, E11, A11, st11⟩ := newP X0 hx hZ (aty := .byte) (hw _ w_28) e0 (g := (mkF m 1 #[vr b, vi (0 : Int32), vi (1 : Int32), .unset, .unset, .unset] [(.int (1 : Int32))])) rfl (hb hby d6_1) rfl (by decide : ¬ ((1 : Int32) < (0 : Int32))) (cap := 1) (by decide) (by decide) (by decide) (by decide)
  obtain ⟨a11, g11⟩ : ∃ z, z = h0.size := ⟨_, rfl⟩
  rw [← g11] at A11 st11
  refine Fin.go st11 ?_
  have O11 := O.ext E11
  have K11 := K0.ext E11
  have n11 : n0 ≤ a11 := by have := O.2.1; have := O.1; omega
  have z11 : h0.size ≤ a11 := by have := K0.1; omega
  have V11 : Arv Z h11 a11 k11 .byte (1 : Int32) [(.int (0 : Int32))] (.int (0 : Int32)) := (Arv.new A11 (by decide)).pad (pad_rep [] (.int (0 : Int32)) 1)
  show Fin _ _ _ _ _ _ _ _ T11 (mkF m 3 #[vr b, vi (0 : Int32), vi (1 : Int32), .unset, .unset, .unset] [(.ref a11)])
  refine .go (fun _ k => XS.astoreN X11.here hx rfl (hb hby d6_3) rfl rfl (l' := #[vr b, vi (0 : Int32), vi (1 : Int32), vr a11, .unset, .unset]) rfl k) ?_
  refine .go (fun _ k => XS.aloadN X11.here hx rfl (hb hby d6_4) rfl rfl k) ?_
  refine .go (fun _ k => XS.iloadN X11.here hx rfl (hb hby d6_5) rfl k) ?_
  refine .go (fun _ k => XS.aloadN X11.here hx rfl (hb hby d6_6) rfl rfl k) ?_
  refine .go (fun _ k => XS.iconst X11.here hx rfl (hb hby d6_7) k) ?_
  refine .go (fun _ k => XS.iloadN X11.here hx rfl (hb hby d6_8) rfl k) ?_
  obtain ⟨v12, T12, L12, X12, q12, st12⟩ := callSt X11 hx hZ hown (hw _ w_29) (hw _ w_30) (hw _ w_26) (hw _ w_31) (by decide) (W := 0) (rmCmpB1 l Z a0 hw n0 h11 O11 b a11 kb k11 x1 (VB.ext E11) V11 hp1 n11 (Nat.ne_of_lt (Nat.lt_of_lt_of_eq VB.lt g11.symm))) e11 (by decide) (by decide) (by decide) (by decide) (g := (mkF m 9 #[vr b, vi (0 : Int32), vi (1 : Int32), vr a11, .unset, .unset] [(.int (1 : Int32)), (.int (0 : Int32)), (.ref a11), (.int (0 : Int32)), (.ref b)])) rfl (by rw [hml]; rfl) (argsL := [(.ref b), (.int (0 : Int32)), (.ref a11), (.int (0 : Int32)), (.int (1 : Int32))]) (rest := []) (lenOf pd_oACIABIIcI rfl) rfl (wk rfl rfl) (hb hby d6_9)
  obtain ⟨rfl, Nq12, Kq12, V12⟩ := q12
  have N12 := Fr.app N0 Nq12
  have O12 := O11.keep Kq12 (allS n11 all0)
  have K12 := K11.trans Kq12 (allS (Or.inr z11) all0)
  refine Fin.go st12 ?_
  have V12_b := ((VB.ext E11).keep Kq12 (ninS (Nat.ne_of_lt (Nat.lt_of_lt_of_eq VB.lt g11.symm)) nin0))
  show Fin _ _ _ _ _ _ _ _ T12 (mkF m 12 #[vr b, vi (0 : Int32), vi (1 : Int32), vr a11, .unset, .unset] [(.int (1 : Int32))])
  refine .go (fun _ k => XS.istore X12.here hx rfl (hb hby d6_12) rfl (l' := #[vr b, vi (0 : Int32), vi (1 : Int32), vr a11, vi (1 : Int32), .unset]) rfl k) ?_
  refine .go (fun _ k => XS.iload X12.here hx rfl (hb hby d6_14) rfl k) ?_
  refine .go (fun _ k => XS.iloadN X12.here hx rfl (hb hby d6_16) rfl k) ?_
  refine .go (fun _ k => XS.icmpYes X12.here hx rfl (pc0 := 17) (pc' := 57) rfl (hb hby d6_17) rfl (XT.ii_eq_t (by decide)) (by decide) (by decide) k) ?_
  show Fin _ _ _ _ _ _ _ _ T12 (mkF m 57 #[vr b, vi (0 : Int32), vi (1 : Int32), vr a11, vi (1 : Int32), .unset] [])
  refine .go (fun _ k => XS.aloadN X12.here hx rfl (hb hby d6_57) rfl rfl k) ?_
  exact Fin.leaveN X12 (rfl : T12.heap = T12.heap) hlk (v := some (.ref a11)) (nvS hret) (by decide) (by decide) ⟨a11, k11, rfl, N12, K12, V12, z11⟩ (fun fs hr => retOut X12 hx hret rfl (Or.inr (Or.inr (Or.inr (Or.inr ⟨rfl, rfl, rfl⟩)))) (hb hby d6_58) hr)
theorem rmCod1 (l : Launch) (Z : State) (a0 : Array Value) (hw : HW a0 Z) (n0 : Nat) (h0 : Heap) (O : Old Z n0 h0) (d : Addr) (kd : ClassId) (x1 : Int32) (VD : Arv Z h0 d kd .byte (1 : Int32) [(.int x1)] (.int (0 : Int32))) :
    ConW FrameEnd l Z [] (⟨"java/lang/StringUTF16", "coderFromArrayLen", "([BI)B"⟩ : MethodName) jdk_52_method_15_code 2 (some .byte) ({ frames := 0, cells := 0, slots := 0, locals := 0 } : Room) #[(.ref d), (.int (1 : Int32))] h0 (Pure h0 (some (.int (0 : Int32)))) := by
  refine conOf (plainFor_of_name pn_java_lang_StringUTF16) ?_
  intro p e s m below mth cc s₁ X0 hx hby hml hown hnm hret hlk hZ e0
  have N0 := Fr.nil n0
  refine Fin.came (castTop (t := _) (by first | (simp [entryFrame, mkF, argsToLocals, Value.category]; done) | rfl) (Steps.refl _) : Steps p.tables e below (s₁.setTop (entryFrame m #[(.ref d), (.int (1 : Int32))] 2)) (s₁.setTop (mkF m 0 #[vr d, vi (1 : Int32)] []))) ?_
  refine .go (fun _ k => XS.iloadN X0.here hx rfl (hb hby d8_0) rfl k) ?_
  refine .go (fun _ k => XS.aloadN X0.here hx rfl (hb hby d8_1) rfl rfl k) ?_
  obtain ⟨cz11, B11, q11, S11, M11, H11, G11⟩ := id VD
  refine Fin.go (fun _ k => X0.arraylength hx (by rw [e0]; exact B11.1) (State.isArrayOf_alike hZ.alike B11.2.1) (g := (mkF m 2 #[vr d, vi (1 : Int32)] [(.ref d), (.int (1 : Int32))])) rfl rfl (hb hby d8_2) _ k) ?_
  rw [len_of S11 M11]
  show Fin _ _ _ _ _ _ _ _ s₁ (mkF m 3 #[vr d, vi (1 : Int32)] [(.int (1 : Int32)), (.int (1 : Int32))])
  refine .go (fun _ k => XS.isub X0.here hx rfl (hb hby d8_3) rfl k) ?_
  refine .go (fun _ k => XS.bipush X0.here hx rfl (hb hby d8_4) k) ?_
  refine .go (fun _ k => XT.iushr X0.here hx rfl (hb hby d8_6) rfl k) ?_
  refine .go (fun _ k => XT.i2b X0.here hx rfl (hb hby d8_7) rfl k) ?_
  exact Fin.leaveN X0 e0 hlk (v := some (.int (nar .byte ((Int32.toInt8 (XT.ushr ((1 : Int32) - (1 : Int32)) (31 : Int32))).toInt32)))) (nvS hret) (by decide) (by decide) ⟨by decide +kernel, rfl, rfl⟩ (fun fs hr => retN X0 hx (t := .byte) hret (by simp) (hb hby d8_8) hr)
theorem rmStrV1 (l : Launch) (Z : State) (a0 : Array Value) (hw : HW a0 Z) (n0 : Nat) (h0 : Heap) (O : Old Z n0 h0) (a b : Addr) (kb : ClassId) (x1 : Int32) (cs : Int32) (S_cs : Sta Z Z.heap "java/lang/String" "COMPACT_STRINGS" "Z" (.int cs)) (hcs : ¬ cs = 0) (VB : Arv Z h0 b kb .char (1 : Int32) [(.int x1)] (.int (0 : Int32))) (A : Exa Z h0 a "java/lang/String") (F1 : Fld Z h0 a "java/lang/String" "coder" "B" (.int (0 : Int32))) (F2 : Fld Z h0 a "java/lang/String" "value" "[B" .null) (hp1 : ¬ (255 : Int32) < x1) (na : n0 ≤ a) (nba : b ≠ a) :
    ConW FrameEnd l Z [] (⟨"java/lang/String", "<init>", "([CIILjava/lang/Void;)V"⟩ : MethodName) jdk_42_method_149_code 6 none ({ frames := 2, cells := 1, slots := 1, locals := 35 } : Room) #[(.ref a), (.ref b), (.int (0 : Int32)), (.int (1 : Int32)), .null] h0 (fun v h L => v = none ∧ Fr n0 L ∧ Keep h0 h [a] ∧ Exa Z h a "java/lang/String" ∧ Fld Z h a "java/lang/String" "coder" "B" (.int (0 : Int32)) ∧ ∃ d kd, Fld Z h a "java/lang/String" "value" "[B" (.ref d) ∧ Arv Z h d kd .byte (1 : Int32) [(.int ((Int32.toInt8 x1).toInt32))] (.int (0 : Int32)) ∧ h0.size ≤ d) := by
  refine conOf (plainFor_of_name pn_java_lang_String) ?_
  intro p e s m below mth cc s₁ X0 hx hby hml hown hnm hret hlk hZ e0
  have N0 := Fr.nil n0
  have K0 := Keep.refl h0 ([a] : List Addr)
  refine Fin.came (castTop (t := _) (by first | (simp [entryFrame, mkF, argsToLocals, Value.category]; done) | rfl) (Steps.refl _) : Steps p.tables e below (s₁.setTop (entryFrame m #[(.ref a), (.ref b), (.int (0 : Int32)), (.int (1 : Int32)), .null] 6)) (s₁.setTop (mkF m 0 #[vr a, vr b, vi (0 : Int32), vi (1 : Int32), .val .null, .unset] []))) ?_
  refine .go (fun _ k => XS.aloadN X0.here hx rfl (hb hby d4_0) rfl rfl k) ?_
  obtain ⟨T11, X11, e11, st11⟩ := initO X0 hx hZ hown (hw _ w_20) (hw _ w_21) (hw _ w_22) e0 (g := (mkF m 1 #[vr a, vr b, vi (0 : Int32), vi (1 : Int32), .val .null, .unset] [(.ref a)])) rfl (by rw [hml]; rfl) rfl (hb hby d4_1) (by decide) (W := 0) (wk rfl rfl) (by decide)
  refine Fin.go st11 ?_
  show Fin _ _ _ _ _ _ _ _ T11 (mkF m 4 #[vr a, vr b, vi (0 : Int32), vi (1 : Int32), .val .null, .unset] [])
  refine .go (fun _ k => XS.iloadN X11.here hx rfl (hb hby d4_4) rfl k) ?_
  refine .go (fun _ k => XS.ifYes X11.here hx rfl (pc0 := 5) (pc' := 27) rfl (hb hby d4_5) rfl (XT.i0_ne_t (by decide)) (by decide) (by decide) k) ?_
  show Fin _ _ _ _ _ _ _ _ T11 (mkF m 27 #[vr a, vr b, vi (0 : Int32), vi (1 : Int32), .val .null, .unset] [])
  obtain ⟨T12, X12, e12, st12⟩ := getS2 X11 hx hZ hown (host := "") (Or.inl (hw _ w_23)) Via.refl e11 (S_cs.ext O.2) (g := (mkF m 27 #[vr a, vr b, vi (0 : Int32), vi (1 : Int32), .val .null, .unset] [])) rfl (hb hby d4_27)
  refine Fin.go st12 ?_
  show Fin _ _ _ _ _ _ _ _ T12 (mkF m 30 #[vr a, vr b, vi (0 : Int32), vi (1 : Int32), .val .null, .unset] [(.int cs)])
  refine .go (fun _ k => XS.ifNo X12.here hx rfl (hb hby d4_30) rfl (XT.i0_eq_f hcs) k) ?_
  show Fin _ _ _ _ _ _ _ _ T12 (mkF m 33 #[vr a, vr b, vi (0 : Int32), vi (1 : Int32), .val .null, .unset] [])
  refine .go (fun _ k => XS.aloadN X12.here hx rfl (hb hby d4_33) rfl rfl k) ?_
  refine .go (fun _ k => XS.iloadN X12.here hx rfl (hb hby d4_34) rfl k) ?_
  refine .go (fun _ k => XS.iloadN X12.here hx rfl (hb hby d4_35) rfl k) ?_
  obtain ⟨v13, T13, L13, X13, q13, st13⟩ := callSt X12 hx hZ hown (hw _ w_24) (hw _ w_25) (hw _ w_26) (hw _ w_27) (by decide) (W := 0) (rmCmpA1 l Z a0 hw n0 h0 O b kb x1 VB hp1) e12 (by decide) (by decide) (by decide) (by decide) (g := (mkF m 36 #[vr a, vr b, vi (0 : Int32), vi (1 : Int32), .val .null, .unset] [(.int (1 : Int32)), (.int (0 : Int32)), (.ref b)])) rfl (by rw [hml]; rfl) (argsL := [(.ref b), (.int (0 : Int32)), (.int (1 : Int32))]) (rest := []) (lenOf pd_oACIIcAB rfl) rfl (wk rfl rfl) (hb hby d4_36)
  obtain ⟨d13, kd13, rfl, Nq13, Kq13, V13, zd13⟩ := q13
  have N13 := Fr.app N0 Nq13
  have O13 := O.keep Kq13 all0
  have K13 := K0.trans Kq13 all0
  refine Fin.go st13 ?_
  show Fin _ _ _ _ _ _ _ _ T13 (mkF m 39 #[vr a, vr b, vi (0 : Int32), vi (1 : Int32), .val .null, .unset] [(.ref d13)])
  have nzd13 : n0 ≤ d13 := Nat.le_trans (by have := O.1; have := O.2.1; omega) zd13
  have hzd13 : h0.size ≤ d13 := Nat.le_trans K0.1 zd13
  refine .go (fun _ k => XS.astore X13.here hx rfl (hb hby d4_39) rfl rfl (l' := #[vr a, vr b, vi (0 : Int32), vi (1 : Int32), .val .null, vr d13]) rfl k) ?_
  refine .go (fun _ k => XS.aloadN X13.here hx rfl (hb hby d4_41) rfl rfl k) ?_
  refine .go (fun _ k => XS.aload X13.here hx rfl (hb hby d4_42) rfl rfl k) ?_
  refine .go (fun _ k => XS.iloadN X13.here hx rfl (hb hby d4_44) rfl k) ?_
  obtain ⟨v14, T14, L14, X14, q14, st14⟩ := callSt X13 hx hZ hown (hw _ w_32) (hw _ w_33) (hw _ w_26) (hw _ w_34) (by decide) (W := 1) (rmCod1 l Z a0 hw n0 T13.heap O13 d13 kd13 ((Int32.toInt8 x1).toInt32) V13) (rfl : T13.heap = T13.heap) (by decide) (by decide) (by decide) (by decide) (g := (mkF m 45 #[vr a, vr b, vi (0 : Int32), vi (1 : Int32), .val .null, vr d13] [(.int (1 : Int32)), (.ref d13), (.ref a)])) rfl (by rw [hml]; rfl) (argsL := [(.ref d13), (.int (1 : Int32))]) (rest := [(.ref a)]) (lenOf pd_oABIcB rfl) rfl (wk rfl rfl) (hb hby d4_45)
  obtain ⟨rfl, e14, rfl⟩ := q14
  have N14 := Fr.app N13 (Fr.nil n0)
  refine Fin.go st14 ?_
  show Fin _ _ _ _ _ _ _ _ T14 (mkF m 48 #[vr a, vr b, vi (0 : Int32), vi (1 : Int32), .val .null, vr d13] [(.int (0 : Int32)), (.ref a)])
  obtain ⟨T15, h15, X15, e15, W15, st15⟩ := putF X14 hx hZ hown (host := "") (Or.inl (hw _ w_35)) Via.refl e14 (F1.keep Kq13 nin0) (A.keep Kq13) (Or.inr ⟨(hw _ w_36), rfl, hnm⟩) (hw _ w_11) (ty := .byte) (by decide) rfl rfl (g := (mkF m 48 #[vr a, vr b, vi (0 : Int32), vi (1 : Int32), .val .null, vr d13] [(.int (0 : Int32)), (.ref a)])) rfl rfl (hb hby d4_48)
  refine Fin.go st15 ?_
  have N15 := Fr.snoc X15 N14 na
  have O15 := O13.wr W15 na
  have K15 := K13.wr W15 (Or.inl (List.mem_of_getElem? (i := 0) rfl))
  have F15_a_value := ((F2.keep Kq13 nin0).other W15 (Or.inr (slot_ne (Or.inr (hw _ w_38)) (Or.inr (hw _ w_36)) (by decide) (t := (.array .byte)) (t' := .byte) (by decide) (by decide))))
  have V15_d13 := (V13.other W15 (Ne.symm (Nat.ne_of_lt (Nat.lt_of_lt_of_le F2.lt zd13))))
  show Fin _ _ _ _ _ _ _ _ T15 (mkF m 51 #[vr a, vr b, vi (0 : Int32), vi (1 : Int32), .val .null, vr d13] [])
  refine .go (fun _ k => XS.aloadN X15.here hx rfl (hb hby d4_51) rfl rfl k) ?_
  refine .go (fun _ k => XS.aload X15.here hx rfl (hb hby d4_52) rfl rfl k) ?_
  obtain ⟨T16, h16, X16, e16, W16, st16⟩ := putF X15 hx hZ hown (host := "") (Or.inl (hw _ w_37)) Via.refl e15 F15_a_value ((A.keep Kq13).wr W15) (Or.inr ⟨(hw _ w_38), rfl, hnm⟩) (hw _ w_11) (ty := (.array .byte)) (by decide) rfl rfl (g := (mkF m 54 #[vr a, vr b, vi (0 : Int32), vi (1 : Int32), .val .null, vr d13] [(.ref d13), (.ref a)])) rfl rfl (hb hby d4_54)
  refine Fin.go st16 ?_
  have N16 := Fr.snoc X16 N15 na
  have O16 := O15.wr W16 na
  have K16 := K15.wr W16 (Or.inl (List.mem_of_getElem? (i := 0) rfl))
  have F16_a_coder := (((F1.keep Kq13 nin0).same W15).other W16 (Or.inr (slot_ne (Or.inr (hw _ w_36)) (Or.inr (hw _ w_38)) (by decide) (t := .byte) (t' := (.array .byte)) (by decide) (by decide))))
  have V16_d13 := (V15_d13.other W16 (Ne.symm (Nat.ne_of_lt (Nat.lt_of_lt_of_le F2.lt zd13))))
  show Fin _ _ _ _ _ _ _ _ T16 (mkF m 57 #[vr a, vr b, vi (0 : Int32), vi (1 : Int32), .val .null, vr d13] [])
  exact Fin.leaveN X16 e16 hlk (v := none) (fun _ => rfl) (by decide) (by decide) ⟨rfl, N16, K16, (((A.keep Kq13).wr W15).wr W16), F16_a_coder, d13, kd13, (F15_a_value.same W16), V16_d13, hzd13⟩ (fun fs hr => X16.returnOut hx hret (hb hby d4_57) hr)
theorem rmStr1 (l : Launch) (Z : State) (a0 : Array Value) (hw : HW a0 Z) (n0 : Nat) (h0 : Heap) (O : Old Z n0 h0) (a b : Addr) (kb : ClassId) (x1 : Int32) (cs : Int32) (S_cs : Sta Z Z.heap "java/lang/String" "COMPACT_STRINGS" "Z" (.int cs)) (hcs : ¬ cs = 0) (VB : Arv Z h0 b kb .char (1 : Int32) [(.int x1)] (.int (0 : Int32))) (A : Exa Z h0 a "java/lang/String") (F1 : Fld Z h0 a "java/lang/String" "coder" "B" (.int (0 : Int32))) (F2 : Fld Z h0 a "java/lang/String" "value" "[B" .null) (hp1 : ¬ (255 : Int32) < x1) (na : n0 ≤ a) (nba : b ≠ a) :
    ConW FrameEnd l Z [] (⟨"java/lang/String", "<init>", "([C)V"⟩ : MethodName) jdk_42_method_3_code 2 none ({ frames := 3, cells := 1, slots := 1, locals := 52 } : Room) #[(.ref a), (.ref b)] h0 (fun v h L => v = none ∧ Fr n0 L ∧ Keep h0 h [a] ∧ Exa Z h a "java/lang/String" ∧ Fld Z h a "java/lang/String" "coder" "B" (.int (0 : Int32)) ∧ ∃ d kd, Fld Z h a "java/lang/String" "value" "[B" (.ref d) ∧ Arv Z h d kd .byte (1 : Int32) [(.int ((Int32.toInt8 x1).toInt32))] (.int (0 : Int32)) ∧ h0.size ≤ d) := by
  refine conOf (plainFor_of_name pn_java_lang_String) ?_
  intro p e s m below mth cc s₁ X0 hx hby hml hown hnm hret hlk hZ e0
  have N0 := Fr.nil n0
  have K0 := Keep.refl h0 ([a] : List Addr)
  refine Fin.came (castTop (t := _) (by first | (simp [entryFrame, mkF, argsToLocals, Value.category]; done) | rfl) (Steps.refl _) : Steps p.tables e below (s₁.setTop (entryFrame m #[(.ref a), (.ref b)] 2)) (s₁.setTop (mkF m 0 #[vr a, vr b] []))) ?_
  refine .go (fun _ k => XS.aloadN X0.here hx rfl (hb hby d3_0) rfl rfl k) ?_
  refine .go (fun _ k => XS.aloadN X0.here hx rfl (hb hby d3_1) rfl rfl k) ?_
  refine .go (fun _ k => XS.iconst X0.here hx rfl (hb hby d3_2) k) ?_
  refine .go (fun _ k => XS.aloadN X0.here hx rfl (hb hby d3_3) rfl rfl k) ?_
  obtain ⟨cz11, B11, q11, S11, M11, H11, G11⟩ := id VB
  refine Fin.go (fun _ k => X0.arraylength hx (by rw [e0]; exact B11.1) (State.isArrayOf_alike hZ.alike B11.2.1) (g := (mkF m 4 #[vr a, vr b] [(.ref b), (.int (0 : Int32)), (.ref b), (.ref a)])) rfl rfl (hb hby d3_4) _ k) ?_
  rw [len_of S11 M11]
  show Fin _ _ _ _ _ _ _ _ s₁ (mkF m 5 #[vr a, vr b] [(.int (1 : Int32)), (.int (0 : Int32)), (.ref b), (.ref a)])
  refine .go (fun _ k => XS.aconstNull X0.here hx rfl (hb hby d3_5) k) ?_
  obtain ⟨v12, T12, L12, X12, q12, st12⟩ := callCt X0 hx hZ (y := (⟨"java/lang/String", "<init>", "([CIILjava/lang/Void;)V"⟩ : MethodName)) rfl hown (hw _ w_16) (hw _ w_17) (hw _ w_12) (hw _ w_19) (by decide) (W := 0) (rmStrV1 l Z a0 hw n0 h0 O a b kb x1 cs S_cs hcs VB A F1 F2 hp1 na nba) e0 (by decide) (by decide) (by decide) (by decide) (g := (mkF m 6 #[vr a, vr b] [.null, (.int (1 : Int32)), (.int (0 : Int32)), (.ref b), (.ref a)])) rfl (by rw [hml]; rfl) (a := a) (argsL := [(.ref b), (.int (0 : Int32)), (.int (1 : Int32)), .null]) (rest := []) (lenOf pd_oACIILjava_lang_Void_cV rfl) rfl (wk rfl rfl) (hb hby d3_6)
  obtain ⟨rfl, Nq12, Kq12, A12, C12, d12, kd12, F12, V12, zd12⟩ := q12
  have N12 := Fr.app N0 Nq12
  have O12 := O.keep Kq12 (allS na all0)
  have K12 := K0.trans Kq12 (allS (Or.inl (List.mem_of_getElem? (i := 0) rfl)) all0)
  refine Fin.go st12 ?_
  show Fin _ _ _ _ _ _ _ _ T12 (mkF m 9 #[vr a, vr b] [])
  exact Fin.leaveN X12 (rfl : T12.heap = T12.heap) hlk (v := none) (fun _ => rfl) (by decide) (by decide) ⟨rfl, N12, K12, A12, C12, d12, kd12, F12, V12, zd12⟩ (fun fs hr => X12.returnOut hx hret (hb hby d3_9) hr)
theorem rmCmpB2 (l : Launch) (Z : State) (a0 : Array Value) (hw : HW a0 Z) (n0 : Nat) (h0 : Heap) (O : Old Z n0 h0) (b d : Addr) (kb kd : ClassId) (x1 x2 : Int32) (VB : Arv Z h0 b kb .char (2 : Int32) [(.int x1), (.int x2)] (.int (0 : Int32))) (VD : Arv Z h0 d kd .byte (2 : Int32) [(.int (0 : Int32)), (.int (0 : Int32))] (.int (0 : Int32))) (hp1 : ¬ (255 : Int32) < x1) (hp2 : ¬ (255 : Int32) < x2) (nd : n0 ≤ d) (nbd : b ≠ d) :
    ConW FrameEnd l Z [] (⟨"java/lang/StringUTF16", "compress", "([CI[BII)I"⟩ : MethodName) jdk_52_method_21_code 7 (some .int) ({ frames := 0, cells := 0, slots := 0, locals := 0 } : Room) #[(.ref b), (.int (0 : Int32)), (.ref d), (.int (0 : Int32)), (.int (2 : Int32))] h0 (fun v h L => v = some (.int (2 : Int32)) ∧ Fr n0 L ∧ Keep h0 h [d] ∧ Arv Z h d kd .byte (2 : Int32) [(.int ((Int32.toInt8 x1).toInt32)), (.int ((Int32.toInt8 x2).toInt32))] (.int (0 : Int32))) := by
  refine conOf (plainFor_of_name pn_java_lang_StringUTF16) ?_
  intro p e s m below mth cc s₁ X0 hx hby hml hown hnm hret hlk hZ e0
  have N0 := Fr.nil n0
  have K0 := Keep.refl h0 ([d] : List Addr)
  refine Fin.came (castTop (t := _) (by first | (simp [entryFrame, mkF, argsToLocals, Value.category]; done) | rfl) (Steps.refl _) : Steps p.tables e below (s₁.setTop (entryFrame m #[(.ref b), (.int (0 : Int32)), (.ref d), (.int (0 : Int32)), (.int (2 : Int32))] 7)) (s₁.setTop (mkF m 0 #[vr b, vi (0 : Int32), vr d, vi (0 : Int32), vi (2 : Int32), .unset, .unset] []))) ?_
  refine .go (fun _ k => XS.iconst X0.here hx rfl (hb hby d7_0) k) ?_
  refine .go (fun _ k => XS.istore X0.here hx rfl (hb hby d7_1) rfl (l' := #[vr b, vi (0 : Int32), vr d, vi (0 : Int32), vi (2 : Int32), vi (0 : Int32), .unset]) rfl k) ?_
  refine .go (fun _ k => XS.iload X0.here hx rfl (hb hby d7_3) rfl k) ?_
  refine .go (fun _ k => XS.iload X0.here hx rfl (hb hby d7_5) rfl k) ?_
  refine .go (fun _ k => XS.icmpNo X0.here hx rfl (hb hby d7_7) rfl (XT.ii_ge_f (by decide)) k) ?_
  show Fin _ _ _ _ _ _ _ _ s₁ (mkF m 10 #[vr b, vi (0 : Int32), vr d, vi (0 : Int32), vi (2 : Int32), vi (0 : Int32), .unset] [])
  refine .go (fun _ k => XS.aloadN X0.here hx rfl (hb hby d7_10) rfl rfl k) ?_
  refine .go (fun _ k => XS.iloadN X0.here hx rfl (hb hby d7_11) rfl k) ?_
  obtain ⟨cz11, B11, q11, S11, M11, H11, G11⟩ := id VB
  have i11 := inb_of S11 ⟨(by decide : ¬ ((0 : Int32) < (0 : Int32))), (by decide : (0 : Int32) < (2 : Int32))⟩
  refine Fin.go (fun _ k => X0.caload hx (j := (0 : Int32)) (v := (.int x1)) (by rw [e0]; exact B11.1) (State.isArrayOf_alike hZ.alike B11.2.1) B11.2.2 i11 (Has.at H11 i11 rfl) (g := (mkF m 12 #[vr b, vi (0 : Int32), vr d, vi (0 : Int32), vi (2 : Int32), vi (0 : Int32), .unset] [(.int (0 : Int32)), (.ref b)])) rfl rfl (hb hby d7_12) _ k) ?_
  show Fin _ _ _ _ _ _ _ _ s₁ (mkF m 13 #[vr b, vi (0 : Int32), vr d, vi (0 : Int32), vi (2 : Int32), vi (0 : Int32), .unset] [(.int x1)])
  refine .go (fun _ k => XS.istore X0.here hx rfl (hb hby d7_13) rfl (l' := #[vr b, vi (0 : Int32), vr d, vi (0 : Int32), vi (2 : Int32), vi (0 : Int32), vi x1]) rfl k) ?_
  refine .go (fun _ k => XS.iload X0.here hx rfl (hb hby d7_15) rfl k) ?_
  refine .go (fun _ k => XS.sipush X0.here hx rfl (hb hby d7_17) k) ?_
  refine .go (fun _ k => XS.icmpYes X0.here hx rfl (pc0 := 20) (pc' := 26) rfl (hb hby d7_20) rfl (XT.ii_le_t hp1) (by decide) (by decide) k) ?_
  show Fin _ _ _ _ _ _ _ _ s₁ (mkF m 26 #[vr b, vi (0 : Int32), vr d, vi (0 : Int32), vi (2 : Int32), vi (0 : Int32), vi x1] [])
  refine .go (fun _ k => XS.aloadN X0.here hx rfl (hb hby d7_26) rfl rfl k) ?_
  refine .go (fun _ k => XS.iloadN X0.here hx rfl (hb hby d7_27) rfl k) ?_
  refine .go (fun _ k => XS.iload X0.here hx rfl (hb hby d7_28) rfl k) ?_
  refine .go (fun _ k => XT.i2b X0.here hx rfl (hb hby d7_30) rfl k) ?_
  obtain ⟨cz12, B12, q12, S12, M12, H12, G12⟩ := id VD
  obtain ⟨T12, h12, X12, e12, W12, st12⟩ := stB X0 hx hZ e0 B12 (j := (0 : Int32)) (inb_of S12 ⟨(by decide : ¬ ((0 : Int32) < (0 : Int32))), (by decide : (0 : Int32) < (2 : Int32))⟩) (g := (mkF m 31 #[vr b, vi (0 : Int32), vr d, vi (0 : Int32), vi (2 : Int32), vi (0 : Int32), vi x1] [(.int ((Int32.toInt8 x1).toInt32)), (.int (0 : Int32)), (.ref d)])) rfl rfl (hb hby d7_31)
  refine Fin.go st12 ?_
  have V12 : Arv Z h12 d kd .byte (2 : Int32) [(.int ((Int32.toInt8 x1).toInt32)), (.int (0 : Int32))] (.int (0 : Int32)) := (by have q : Arv Z h12 d kd .byte (2 : Int32) [(.int (nar .byte ((Int32.toInt8 x1).toInt32))), (.int (0 : Int32))] (.int (0 : Int32)) := (Arv.set B12 q12 S12 M12 H12 G12 (fits_nar_byte _) W12 0 rfl (Nat.le_of_ble_eq_true rfl)); rwa [nar_b8] at q)
  have N12 := Fr.snoc X12 N0 nd
  have O12 := O.wr W12 nd
  have K12 := K0.wr W12 (Or.inl (List.mem_of_getElem? (i := 0) rfl))
  show Fin _ _ _ _ _ _ _ _ T12 (mkF m 32 #[vr b, vi (0 : Int32), vr d, vi (0 : Int32), vi (2 : Int32), vi (0 : Int32), vi x1] [])
  refine .go (fun _ k => XS.iinc X12.here hx rfl (hb hby d7_32) rfl (l' := #[vr b, vi ((0 : Int32) + (1 : Int32)), vr d, vi (0 : Int32), vi (2 : Int32), vi (0 : Int32), vi x1]) rfl k) ?_
  refine .go (fun _ k => XS.iinc X12.here hx rfl (hb hby d7_35) rfl (l' := #[vr b, vi ((0 : Int32) + (1 : Int32)), vr d, vi ((0 : Int32) + (1 : Int32)), vi (2 : Int32), vi (0 : Int32), vi x1]) rfl k) ?_
  refine .go (fun _ k => XS.iinc X12.here hx rfl (hb hby d7_38) rfl (l' := #[vr b, vi ((0 : Int32) + (1 : Int32)), vr d, vi ((0 : Int32) + (1 : Int32)), vi (2 : Int32), vi ((0 : Int32) + (1 : Int32)), vi x1]) rfl k) ?_
  refine .go (fun _ k => XS.goto X12.here hx rfl (pc0 := 41) (pc' := 3) rfl (hb hby d7_41) (by decide) (by decide) k) ?_
  refine .go (fun _ k => XS.iload X12.here hx rfl (hb hby d7_3) rfl k) ?_
  refine .go (fun _ k => XS.iload X12.here hx rfl (hb hby d7_5) rfl k) ?_
  refine .go (fun _ k => XS.icmpNo X12.here hx rfl (hb hby d7_7) rfl (XT.ii_ge_f (by decide)) k) ?_
  show Fin _ _ _ _ _ _ _ _ T12 (mkF m 10 #[vr b, vi ((0 : Int32) + (1 : Int32)), vr d, vi ((0 : Int32) + (1 : Int32)), vi (2 : Int32), vi ((0 : Int32) + (1 : Int32)), vi x1] [])
  refine .go (fun _ k => XS.aloadN X12.here hx rfl (hb hby d7_10) rfl rfl k) ?_
  refine .go (fun _ k => XS.iloadN X12.here hx rfl (hb hby d7_11) rfl k) ?_
  obtain ⟨cz13, B13, q13, S13, M13, H13, G13⟩ := id (VB.other W12 nbd)
  have i13 := inb_of S13 ⟨(by decide : ¬ (((0 : Int32) + (1 : Int32)) < (0 : Int32))), (by decide : ((0 : Int32) + (1 : Int32)) < (2 : Int32))⟩
  refine Fin.go (fun _ k => X12.caload hx (j := ((0 : Int32) + (1 : Int32))) (v := (.int x2)) (by rw [e12]; exact B13.1) (State.isArrayOf_alike hZ.alike B13.2.1) B13.2.2 i13 (Has.at H13 i13 rfl) (g := (mkF m 12 #[vr b, vi ((0 : Int32) + (1 : Int32)), vr d, vi ((0 : Int32) + (1 : Int32)), vi (2 : Int32), vi ((0 : Int32) + (1 : Int32)), vi x1] [(.int ((0 : Int32) + (1 : Int32))), (.ref b)])) rfl rfl (hb hby d7_12) _ k) ?_
  show Fin _ _ _ _ _ _ _ _ T12 (mkF m 13 #[vr b, vi ((0 : Int32) + (1 : Int32)), vr d, vi ((0 : Int32) + (1 : Int32)), vi (2 : Int32), vi ((0 : Int32) + (1 : Int32)), vi x1] [(.int x2)])
  refine .go (fun _ k => XS.istore X12.here hx rfl (hb hby d7_13) rfl (l' := #[vr b, vi ((0 : Int32) + (1 : Int32)), vr d, vi ((0 : Int32) + (1 : Int32)), vi (2 : Int32), vi ((0 : Int32) + (1 : Int32)), vi x2]) rfl k) ?_
  refine .go (fun _ k => XS.iload X12.here hx rfl (hb hby d7_15) rfl k) ?_
  refine .go (fun _ k => XS.sipush X12.here hx rfl (hb hby d7_17) k) ?_
  refine .go (fun _ k => XS.icmpYes X12.here hx rfl (pc0 := 20) (pc' := 26) rfl (hb hby d7_20) rfl (XT.ii_le_t hp2) (by decide) (by decide) k) ?_
  show Fin _ _ _ _ _ _ _ _ T12 (mkF m 26 #[vr b, vi ((0 : Int32) + (1 : Int32)), vr d, vi ((0 : Int32) + (1 : Int32)), vi (2 : Int32), vi ((0 : Int32) + (1 : Int32)), vi x2] [])
  refine .go (fun _ k => XS.aloadN X12.here hx rfl (hb hby d7_26) rfl rfl k) ?_
  refine .go (fun _ k => XS.iloadN X12.here hx rfl (hb hby d7_27) rfl k) ?_
  refine .go (fun _ k => XS.iload X12.here hx rfl (hb hby d7_28) rfl k) ?_
  refine .go (fun _ k => XT.i2b X12.here hx rfl (hb hby d7_30) rfl k) ?_
  obtain ⟨cz14, B14, q14, S14, M14, H14, G14⟩ := id V12
  obtain ⟨T14, h14, X14, e14, W14, st14⟩ := stB X12 hx hZ e12 B14 (j := ((0 : Int32) + (1 : Int32))) (inb_of S14 ⟨(by decide : ¬ (((0 : Int32) + (1 : Int32)) < (0 : Int32))), (by decide : ((0 : Int32) + (1 : Int32)) < (2 : Int32))⟩) (g := (mkF m 31 #[vr b, vi ((0 : Int32) + (1 : Int32)), vr d, vi ((0 : Int32) + (1 : Int32)), vi (2 : Int32), vi ((0 : Int32) + (1 : Int32)), vi x2] [(.int ((Int32.toInt8 x2).toInt32)), (.int ((0 : Int32) + (1 : Int32))), (.ref d)])) rfl rfl (hb hby d7_31)
  refine Fin.go st14 ?_
  have V14 : Arv Z h14 d kd .byte (2 : Int32) [(.int ((Int32.toInt8 x1).toInt32)), (.int ((Int32.toInt8 x2).toInt32))] (.int (0 : Int32)) := (by have q : Arv Z h14 d kd .byte (2 : Int32) [(.int ((Int32.toInt8 x1).toInt32)), (.int (nar .byte ((Int32.toInt8 x2).toInt32)))] (.int (0 : Int32)) := (Arv.set B14 q14 S14 M14 H14 G14 (fits_nar_byte _) W14 1 rfl (Nat.le_of_ble_eq_true rfl)); rwa [nar_b8] at q)
  have N14 := Fr.snoc X14 N12 nd
  have O14 := O12.wr W14 nd
  have K14 := K12.wr W14 (Or.inl (List.mem_of_getElem? (i := 0) rfl))
  show Fin _ _ _ _ _ _ _ _ T14 (mkF m 32 #[vr b, vi ((0 : Int32) + (1 : Int32)), vr d, vi ((0 : Int32) + (1 : Int32)), vi (2 : Int32), vi ((0 : Int32) + (1 : Int32)), vi x2] [])
  refine .go (fun _ k => XS.iinc X14.here hx rfl (hb hby d7_32) rfl (l' := #[vr b, vi (((0 : Int32) + (1 : Int32)) + (1 : Int32)), vr d, vi ((0 : Int32) + (1 : Int32)), vi (2 : Int32), vi ((0 : Int32) + (1 : Int32)), vi x2]) rfl k) ?_
  refine .go (fun _ k => XS.iinc X14.here hx rfl (hb hby d7_35) rfl (l' := #[vr b, vi (((0 : Int32) + (1 : Int32)) + (1 : Int32)), vr d, vi (((0 : Int32) + (1 : Int32)) + (1 : Int32)), vi (2 : Int32), vi ((0 : Int32) + (1 : Int32)), vi x2]) rfl k) ?_
  refine .go (fun _ k => XS.iinc X14.here hx rfl (hb hby d7_38) rfl (l' := #[vr b, vi (((0 : Int32) + (1 : Int32)) + (1 : Int32)), vr d, vi (((0 : Int32) + (1 : Int32)) + (1 : Int32)), vi (2 : Int32), vi (((0 : Int32) + (1 : Int32)) + (1 : Int32)), vi x2]) rfl k) ?_
  refine .go (fun _ k => XS.goto X14.here hx rfl (pc0 := 41) (pc' := 3) rfl (hb hby d7_41) (by decide) (by decide) k) ?_
  refine .go (fun _ k => XS.iload X14.here hx rfl (hb hby d7_3) rfl k) ?_
  refine .go (fun _ k => XS.iload X14.here hx rfl (hb hby d7_5) rfl k) ?_
  refine .go (fun _ k => XS.icmpYes X14.here hx rfl (pc0 := 7) (pc' := 44) rfl (hb hby d7_7) rfl (XT.ii_ge_t (by decide)) (by decide) (by decide) k) ?_
  show Fin _ _ _ _ _ _ _ _ T14 (mkF m 44 #[vr b, vi (((0 : Int32) + (1 : Int32)) + (1 : Int32)), vr d, vi (((0 : Int32) + (1 : Int32)) + (1 : Int32)), vi (2 : Int32), vi (((0 : Int32) + (1 : Int32)) + (1 : Int32)), vi x2] [])
  refine .go (fun _ k => XS.iload X14.here hx rfl (hb hby d7_44) rfl k) ?_
  exact Fin.leaveN X14 e14 hlk (v := some (.int (2 : Int32))) (nvS hret) (by decide) (by decide) ⟨rfl, N14, K14, V14⟩ (fun fs hr => retI X14 hx hret (hb hby d7_46) hr)
theorem rmCmpA2 (l : Launch) (Z : State) (a0 : Array Value) (hw : HW a0 Z) (n0 : Nat) (h0 : Heap) (O : Old Z n0 h0) (b : Addr) (kb : ClassId) (x1 x2 : Int32) (VB : Arv Z h0 b kb .char (2 : Int32) [(.int x1), (.int x2)] (.int (0 : Int32))) (hp1 : ¬ (255 : Int32) < x1) (hp2 : ¬ (255 : Int32) < x2) :
    ConW FrameEnd l Z [] (⟨"java/lang/StringUTF16", "compress", "([CII)[B"⟩ : MethodName) jdk_52_method_16_code 6 (some (.array .byte)) ({ frames := 1, cells := 1, slots := 2, locals := 18 } : Room) #[(.ref b), (.int (0 : Int32)), (.int (2 : Int32))] h0 (fun v h L => ∃ d kd, v = some (.ref d) ∧ Fr n0 L ∧ Keep h0 h [] ∧ Arv Z h d kd .byte (2 : Int32) [(.int ((Int32.toInt8 x1).toInt32)), (.int ((Int32.toInt8 x2).toInt32))] (.int (0 : Int32)) ∧ h0.size ≤ d) := by
  refine conOf (plainFor_of_name pn_java_lang_StringUTF16) ?_
  intro p e s m below mth cc s₁ X0 hx hby hml hown hnm hret hlk hZ e0
  have N0 := Fr.nil n0
  have K0 := Keep.refl h0 ([] : List Addr)
  refine Fin.came (castTop (t := _) (by first | (simp [entryFrame, mkF, argsToLocals, Value.category]; done) | rfl) (Steps.refl _) : Steps p.tables e below (s₁.setTop (entryFrame m #[(.ref b), (.int (0 : Int32)), (.int (2 : Int32))] 6)) (s₁.setTop (mkF m 0 #[vr b, vi (0 : Int32), vi (2 : Int32), .unset, .unset, .unset] []))) ?_
  refine .go (fun _ k => XS.iloadN X0.here hx rfl (hb hby d6_0) rfl k) ?_
  obtain ⟨T11, h11, k11, X11, e11, E11, A11, st11⟩ := newP X0 hx hZ (aty := .byte) (hw _ w_28) e0 (g := (mkF m 1 #[vr b, vi (0 : Int32), vi (2 : Int32), .unset, .unset, .unset] [(.int (2 : Int32))])) rfl (hb hby d6_1) rfl (by decide : ¬ ((2 : Int32) < (0 : Int32))) (cap := 2) (by decide) (by decide) (by decide) (by decide)
  obtain ⟨a11, g11⟩ : ∃ z, z = h0.size := ⟨_, rfl⟩
  rw [← g11] at A11 st11
  refine Fin.go st11 ?_
  have O11 := O.ext E11
  have K11 := K0.ext E11
  have n11 : n0 ≤ a11 := by have := O.2.1; have := O.1; omega
  have z11 : h0.size ≤ a11 := by have := K0.1; omega
  have V11 : Arv Z h11 a11 k11 .byte (2 : Int32) [(.int (0 : Int32)), (.int (0 : Int32))] (.int (0 : Int32)) := (Arv.new A11 (by decide)).pad (pad_rep [] (.int (0 : Int32)) 2)
  show Fin _ _ _ _ _ _ _ _ T11 (mkF m 3 #[vr b, vi (0 : Int32), vi (2 : Int32), .unset, .unset, .unset] [(.ref a11)])
  refine .go (fun _ k => XS.astoreN X11.here hx rfl (hb hby d6_3) rfl rfl (l' := #[vr b, vi (0 : Int32), vi (2 : Int32), vr a11, .unset, .unset]) rfl k) ?_
  refine .go (fun _ k => XS.aloadN X11.here hx rfl (hb hby d6_4) rfl rfl k) ?_
  refine .go (fun _ k => XS.iloadN X11.here hx rfl (hb hby d6_5) rfl k) ?_
  refine .go (fun _ k => XS.aloadN X11.here hx rfl (hb hby d6_6) rfl rfl k) ?_
  refine .go (fun _ k => XS.iconst X11.here hx rfl (hb hby d6_7) k) ?_
  refine .go (fun _ k => XS.iloadN X11.here hx rfl (hb hby d6_8) rfl k) ?_
  obtain ⟨v12, T12, L12, X12, q12, st12⟩ := callSt X11 hx hZ hown (hw _ w_29) (hw _ w_30) (hw _ w_26) (hw _ w_31) (by decide) (W := 0) (rmCmpB2 l Z a0 hw n0 h11 O11 b a11 kb k11 x1 x2 (VB.ext E11) V11 hp1 hp2 n11 (Nat.ne_of_lt (Nat.lt_of_lt_of_eq VB.lt g11.symm))) e11 (by decide) (by decide) (by decide) (by decide) (g := (mkF m 9 #[vr b, vi (0 : Int32), vi (2 : Int32), vr a11, .unset, .unset] [(.int (2 : Int32)), (.int (0 : Int32)), (.ref a11), (.int (0 : Int32)), (.ref b)])) rfl (by rw [hml]; rfl) (argsL := [(.ref b), (.int (0 : Int32)), (.ref a11), (.int (0 : Int32)), (.int (2 : Int32))]) (rest := []) (lenOf pd_oACIABIIcI rfl) rfl (wk rfl rfl) (hb hby d6_9)
  obtain ⟨rfl, Nq12, Kq12, V12⟩ := q12
  have N12 := Fr.app N0 Nq12
  have O12 := O11.keep Kq12 (allS n11 all0)
  have K12 := K11.trans Kq12 (allS (Or.inr z11) all0)
  refine Fin.go st12 ?_
  have V12_b := ((VB.ext E11).keep Kq12 (ninS (Nat.ne_of_lt (Nat.lt_of_lt_of_eq VB.lt g11.symm)) nin0))
  show Fin _ _ _ _ _ _ _ _ T12 (mkF m 12 #[vr b, vi (0 : Int32), vi (2 : Int32), vr a11, .unset, .unset] [(.int (2 : Int32))])
  refine .go (fun _ k => XS.istore X12.here hx rfl (hb hby d6_12) rfl (l' := #[vr b, vi (0 : Int32), vi (2 : Int32), vr a11, vi (2 : Int32), .unset]) rfl k) ?_
  refine .go (fun _ k => XS.iload X12.here hx rfl (hb hby d6_14) rfl k) ?_
  refine .go (fun _ k => XS.iloadN X12.here hx rfl (hb hby d6_16) rfl k) ?_
  refine .go (fun _ k => XS.icmpYes X12.here hx rfl (pc0 := 17) (pc' := 57) rfl (hb hby d6_17) rfl (XT.ii_eq_t (by decide)) (by decide) (by decide) k) ?_
  show Fin _ _ _ _ _ _ _ _ T12 (mkF m 57 #[vr b, vi (0 : Int32), vi (2 : Int32), vr a11, vi (2 : Int32), .unset] [])
  refine .go (fun _ k => XS.aloadN X12.here hx rfl (hb hby d6_57) rfl rfl k) ?_
  exact Fin.leaveN X12 (rfl : T12.heap = T12.heap) hlk (v := some (.ref a11)) (nvS hret) (by decide) (by decide) ⟨a11, k11, rfl, N12, K12, V12, z11⟩ (fun fs hr => retOut X12 hx hret rfl (Or.inr (Or.inr (Or.inr (Or.inr ⟨rfl, rfl, rfl⟩)))) (hb hby d6_58) hr)
theorem rmCod2 (l : Launch) (Z : State) (a0 : Array Value) (hw : HW a0 Z) (n0 : Nat) (h0 : Heap) (O : Old Z n0 h0) (d : Addr) (kd : ClassId) (x1 x2 : Int32) (VD : Arv Z h0 d kd .byte (2 : Int32) [(.int x1), (.int x2)] (.int (0 : Int32))) :
    ConW FrameEnd l Z [] (⟨"java/lang/StringUTF16", "coderFromArrayLen", "([BI)B"⟩ : MethodName) jdk_52_method_15_code 2 (some .byte) ({ frames := 0, cells := 0, slots := 0, locals := 0 } : Room) #[(.ref d), (.int (2 : Int32))] h0 (Pure h0 (some (.int (0 : Int32)))) := by
  refine conOf (plainFor_of_name pn_java_lang_StringUTF16) ?_
  intro p e s m below mth cc s₁ X0 hx hby hml hown hnm hret hlk hZ e0
  have N0 := Fr.nil n0
  refine Fin.came (castTop (t := _) (by first | (simp [entryFrame, mkF, argsToLocals, Value.category]; done) | rfl) (Steps.refl _) : Steps p.tables e below (s₁.setTop (entryFrame m #[(.ref d), (.int (2 : Int32))] 2)) (s₁.setTop (mkF m 0 #[vr d, vi (2 : Int32)] []))) ?_
  refine .go (fun _ k => XS.iloadN X0.here hx rfl (hb hby d8_0) rfl k) ?_
  refine .go (fun _ k => XS.aloadN X0.here hx rfl (hb hby d8_1) rfl rfl k) ?_
  obtain ⟨cz11, B11, q11, S11, M11, H11, G11⟩ := id VD
  refine Fin.go (fun _ k => X0.arraylength hx (by rw [e0]; exact B11.1) (State.isArrayOf_alike hZ.alike B11.2.1) (g := (mkF m 2 #[vr d, vi (2 : Int32)] [(.ref d), (.int (2 : Int32))])) rfl rfl (hb hby d8_2) _ k) ?_
  rw [len_of S11 M11]
  show Fin _ _ _ _ _ _ _ _ s₁ (mkF m 3 #[vr d, vi (2 : Int32)] [(.int (2 : Int32)), (.int (2 : Int32))])
  refine .go (fun _ k => XS.isub X0.here hx rfl (hb hby d8_3) rfl k) ?_
  refine .go (fun _ k => XS.bipush X0.here hx rfl (hb hby d8_4) k) ?_
  refine .go (fun _ k => XT.iushr X0.here hx rfl (hb hby d8_6) rfl k) ?_
  refine .go (fun _ k => XT.i2b X0.here hx rfl (hb hby d8_7) rfl k) ?_
  exact Fin.leaveN X0 e0 hlk (v := some (.int (nar .byte ((Int32.toInt8 (XT.ushr ((2 : Int32) - (2 : Int32)) (31 : Int32))).toInt32)))) (nvS hret) (by decide) (by decide) ⟨by decide +kernel, rfl, rfl⟩ (fun fs hr => retN X0 hx (t := .byte) hret (by simp) (hb hby d8_8) hr)
theorem rmStrV2 (l : Launch) (Z : State) (a0 : Array Value) (hw : HW a0 Z) (n0 : Nat) (h0 : Heap) (O : Old Z n0 h0) (a b : Addr) (kb : ClassId) (x1 x2 : Int32) (cs : Int32) (S_cs : Sta Z Z.heap "java/lang/String" "COMPACT_STRINGS" "Z" (.int cs)) (hcs : ¬ cs = 0) (VB : Arv Z h0 b kb .char (2 : Int32) [(.int x1), (.int x2)] (.int (0 : Int32))) (A : Exa Z h0 a "java/lang/String") (F1 : Fld Z h0 a "java/lang/String" "coder" "B" (.int (0 : Int32))) (F2 : Fld Z h0 a "java/lang/String" "value" "[B" .null) (hp1 : ¬ (255 : Int32) < x1) (hp2 : ¬ (255 : Int32) < x2) (na : n0 ≤ a) (nba : b ≠ a) :
    ConW FrameEnd l Z [] (⟨"java/lang/String", "<init>", "([CIILjava/lang/Void;)V"⟩ : MethodName) jdk_42_method_149_code 6 none ({ frames := 2, cells := 1, slots := 2, locals := 35 } : Room) #[(.ref a), (.ref b), (.int (0 : Int32)), (.int (2 : Int32)), .null] h0 (fun v h L => v = none ∧ Fr n0 L ∧ Keep h0 h [a] ∧ Exa Z h a "java/lang/String" ∧ Fld Z h a "java/lang/String" "coder" "B" (.int (0 : Int32)) ∧ ∃ d kd, Fld Z h a "java/lang/String" "value" "[B" (.ref d) ∧ Arv Z h d kd .byte (2 : Int32) [(.int ((Int32.toInt8 x1).toInt32)), (.int ((Int32.toInt8 x2).toInt32))] (.int (0 : Int32)) ∧ h0.size ≤ d) := by
  refine conOf (plainFor_of_name pn_java_lang_String) ?_
  intro p e s m below mth cc s₁ X0 hx hby hml hown hnm hret hlk hZ e0
  have N0 := Fr.nil n0
  have K0 := Keep.refl h0 ([a] : List Addr)
  refine Fin.came (castTop (t := _) (by first | (simp [entryFrame, mkF, argsToLocals, Value.category]; done) | rfl) (Steps.refl _) : Steps p.tables e below (s₁.setTop (entryFrame m #[(.ref a), (.ref b), (.int (0 : Int32)), (.int (2 : Int32)), .null] 6)) (s₁.setTop (mkF m 0 #[vr a, vr b, vi (0 : Int32), vi (2 : Int32), .val .null, .unset] []))) ?_
  refine .go (fun _ k => XS.aloadN X0.here hx rfl (hb hby d4_0) rfl rfl k) ?_
  obtain ⟨T11, X11, e11, st11⟩ := initO X0 hx hZ hown (hw _ w_20) (hw _ w_21) (hw _ w_22) e0 (g := (mkF m 1 #[vr a, vr b, vi (0 : Int32), vi (2 : Int32), .val .null, .unset] [(.ref a)])) rfl (by rw [hml]; rfl) rfl (hb hby d4_1) (by decide) (W := 0) (wk rfl rfl) (by decide)
  refine Fin.go st11 ?_
  show Fin _ _ _ _ _ _ _ _ T11 (mkF m 4 #[vr a, vr b, vi (0 : Int32), vi (2 : Int32), .val .null, .unset] [])
  refine .go (fun _ k => XS.iloadN X11.here hx rfl (hb hby d4_4) rfl k) ?_
  refine .go (fun _ k => XS.ifYes X11.here hx rfl (pc0 := 5) (pc' := 27) rfl (hb hby d4_5) rfl (XT.i0_ne_t (by decide)) (by decide) (by decide) k) ?_
  show Fin _ _ _ _ _ _ _ _ T11 (mkF m 27 #[vr a, vr b, vi (0 : Int32), vi (2 : Int32), .val .null, .unset] [])
  obtain ⟨T12, X12, e12, st12⟩ := getS2 X11 hx hZ hown (host := "") (Or.inl (hw _ w_23)) Via.refl e11 (S_cs.ext O.2) (g := (mkF m 27 #[vr a, vr b, vi (0 : Int32), vi (2 : Int32), .val .null, .unset] [])) rfl (hb hby d4_27)
  refine Fin.go st12 ?_
  show Fin _ _ _ _ _ _ _ _ T12 (mkF m 30 #[vr a, vr b, vi (0 : Int32), vi (2 : Int32), .val .null, .unset] [(.int cs)])
  refine .go (fun _ k => XS.ifNo X12.here hx rfl (hb hby d4_30) rfl (XT.i0_eq_f hcs) k) ?_
  show Fin _ _ _ _ _ _ _ _ T12 (mkF m 33 #[vr a, vr b, vi (0 : Int32), vi (2 : Int32), .val .null, .unset] [])
  refine .go (fun _ k => XS.aloadN X12.here hx rfl (hb hby d4_33) rfl rfl k) ?_
  refine .go (fun _ k => XS.iloadN X12.here hx rfl (hb hby d4_34) rfl k) ?_
  refine .go (fun _ k => XS.iloadN X12.here hx rfl (hb hby d4_35) rfl k) ?_
  obtain ⟨v13, T13, L13, X13, q13, st13⟩ := callSt X12 hx hZ hown (hw _ w_24) (hw _ w_25) (hw _ w_26) (hw _ w_27) (by decide) (W := 0) (rmCmpA2 l Z a0 hw n0 h0 O b kb x1 x2 VB hp1 hp2) e12 (by decide) (by decide) (by decide) (by decide) (g := (mkF m 36 #[vr a, vr b, vi (0 : Int32), vi (2 : Int32), .val .null, .unset] [(.int (2 : Int32)), (.int (0 : Int32)), (.ref b)])) rfl (by rw [hml]; rfl) (argsL := [(.ref b), (.int (0 : Int32)), (.int (2 : Int32))]) (rest := []) (lenOf pd_oACIIcAB rfl) rfl (wk rfl rfl) (hb hby d4_36)
  obtain ⟨d13, kd13, rfl, Nq13, Kq13, V13, zd13⟩ := q13
  have N13 := Fr.app N0 Nq13
  have O13 := O.keep Kq13 all0
  have K13 := K0.trans Kq13 all0
  refine Fin.go st13 ?_
  show Fin _ _ _ _ _ _ _ _ T13 (mkF m 39 #[vr a, vr b, vi (0 : Int32), vi (2 : Int32), .val .null, .unset] [(.ref d13)])
  have nzd13 : n0 ≤ d13 := Nat.le_trans (by have := O.1; have := O.2.1; omega) zd13
  have hzd13 : h0.size ≤ d13 := Nat.le_trans K0.1 zd13
  refine .go (fun _ k => XS.astore X13.here hx rfl (hb hby d4_39) rfl rfl (l' := #[vr a, vr b, vi (0 : Int32), vi (2 : Int32), .val .null, vr d13]) rfl k) ?_
  refine .go (fun _ k => XS.aloadN X13.here hx rfl (hb hby d4_41) rfl rfl k) ?_
  refine .go (fun _ k => XS.aload X13.here hx rfl (hb hby d4_42) rfl rfl k) ?_
  refine .go (fun _ k => XS.iloadN X13.here hx rfl (hb hby d4_44) rfl k) ?_
  obtain ⟨v14, T14, L14, X14, q14, st14⟩ := callSt X13 hx hZ hown (hw _ w_32) (hw _ w_33) (hw _ w_26) (hw _ w_34) (by decide) (W := 1) (rmCod2 l Z a0 hw n0 T13.heap O13 d13 kd13 ((Int32.toInt8 x1).toInt32) ((Int32.toInt8 x2).toInt32) V13) (rfl : T13.heap = T13.heap) (by decide) (by decide) (by decide) (by decide) (g := (mkF m 45 #[vr a, vr b, vi (0 : Int32), vi (2 : Int32), .val .null, vr d13] [(.int (2 : Int32)), (.ref d13), (.ref a)])) rfl (by rw [hml]; rfl) (argsL := [(.ref d13), (.int (2 : Int32))]) (rest := [(.ref a)]) (lenOf pd_oABIcB rfl) rfl (wk rfl rfl) (hb hby d4_45)
  obtain ⟨rfl, e14, rfl⟩ := q14
  have N14 := Fr.app N13 (Fr.nil n0)
  refine Fin.go st14 ?_
  show Fin _ _ _ _ _ _ _ _ T14 (mkF m 48 #[vr a, vr b, vi (0 : Int32), vi (2 : Int32), .val .null, vr d13] [(.int (0 : Int32)), (.ref a)])
  obtain ⟨T15, h15, X15, e15, W15, st15⟩ := putF X14 hx hZ hown (host := "") (Or.inl (hw _ w_35)) Via.refl e14 (F1.keep Kq13 nin0) (A.keep Kq13) (Or.inr ⟨(hw _ w_36), rfl, hnm⟩) (hw _ w_11) (ty := .byte) (by decide) rfl rfl (g := (mkF m 48 #[vr a, vr b, vi (0 : Int32), vi (2 : Int32), .val .null, vr d13] [(.int (0 : Int32)), (.ref a)])) rfl rfl (hb hby d4_48)
  refine Fin.go st15 ?_
  have N15 := Fr.snoc X15 N14 na
  have O15 := O13.wr W15 na
  have K15 := K13.wr W15 (Or.inl (List.mem_of_getElem? (i := 0) rfl))
  have F15_a_value := ((F2.keep Kq13 nin0).other W15 (Or.inr (slot_ne (Or.inr (hw _ w_38)) (Or.inr (hw _ w_36)) (by decide) (t := (.array .byte)) (t' := .byte) (by decide) (by decide))))
  have V15_d13 := (V13.other W15 (Ne.symm (Nat.ne_of_lt (Nat.lt_of_lt_of_le F2.lt zd13))))
  show Fin _ _ _ _ _ _ _ _ T15 (mkF m 51 #[vr a, vr b, vi (0 : Int32), vi (2 : Int32), .val .null, vr d13] [])
  refine .go (fun _ k => XS.aloadN X15.here hx rfl (hb hby d4_51) rfl rfl k) ?_
  refine .go (fun _ k => XS.aload X15.here hx rfl (hb hby d4_52) rfl rfl k) ?_
  obtain ⟨T16, h16, X16, e16, W16, st16⟩ := putF X15 hx hZ hown (host := "") (Or.inl (hw _ w_37)) Via.refl e15 F15_a_value ((A.keep Kq13).wr W15) (Or.inr ⟨(hw _ w_38), rfl, hnm⟩) (hw _ w_11) (ty := (.array .byte)) (by decide) rfl rfl (g := (mkF m 54 #[vr a, vr b, vi (0 : Int32), vi (2 : Int32), .val .null, vr d13] [(.ref d13), (.ref a)])) rfl rfl (hb hby d4_54)
  refine Fin.go st16 ?_
  have N16 := Fr.snoc X16 N15 na
  have O16 := O15.wr W16 na
  have K16 := K15.wr W16 (Or.inl (List.mem_of_getElem? (i := 0) rfl))
  have F16_a_coder := (((F1.keep Kq13 nin0).same W15).other W16 (Or.inr (slot_ne (Or.inr (hw _ w_36)) (Or.inr (hw _ w_38)) (by decide) (t := .byte) (t' := (.array .byte)) (by decide) (by decide))))
  have V16_d13 := (V15_d13.other W16 (Ne.symm (Nat.ne_of_lt (Nat.lt_of_lt_of_le F2.lt zd13))))
  show Fin _ _ _ _ _ _ _ _ T16 (mkF m 57 #[vr a, vr b, vi (0 : Int32), vi (2 : Int32), .val .null, vr d13] [])
  exact Fin.leaveN X16 e16 hlk (v := none) (fun _ => rfl) (by decide) (by decide) ⟨rfl, N16, K16, (((A.keep Kq13).wr W15).wr W16), F16_a_coder, d13, kd13, (F15_a_value.same W16), V16_d13, hzd13⟩ (fun fs hr => X16.returnOut hx hret (hb hby d4_57) hr)
theorem rmStr2 (l : Launch) (Z : State) (a0 : Array Value) (hw : HW a0 Z) (n0 : Nat) (h0 : Heap) (O : Old Z n0 h0) (a b : Addr) (kb : ClassId) (x1 x2 : Int32) (cs : Int32) (S_cs : Sta Z Z.heap "java/lang/String" "COMPACT_STRINGS" "Z" (.int cs)) (hcs : ¬ cs = 0) (VB : Arv Z h0 b kb .char (2 : Int32) [(.int x1), (.int x2)] (.int (0 : Int32))) (A : Exa Z h0 a "java/lang/String") (F1 : Fld Z h0 a "java/lang/String" "coder" "B" (.int (0 : Int32))) (F2 : Fld Z h0 a "java/lang/String" "value" "[B" .null) (hp1 : ¬ (255 : Int32) < x1) (hp2 : ¬ (255 : Int32) < x2) (na : n0 ≤ a) (nba : b ≠ a) :
    ConW FrameEnd l Z [] (⟨"java/lang/String", "<init>", "([C)V"⟩ : MethodName) jdk_42_method_3_code 2 none ({ frames := 3, cells := 1, slots := 2, locals := 52 } : Room) #[(.ref a), (.ref b)] h0 (fun v h L => v = none ∧ Fr n0 L ∧ Keep h0 h [a] ∧ Exa Z h a "java/lang/String" ∧ Fld Z h a "java/lang/String" "coder" "B" (.int (0 : Int32)) ∧ ∃ d kd, Fld Z h a "java/lang/String" "value" "[B" (.ref d) ∧ Arv Z h d kd .byte (2 : Int32) [(.int ((Int32.toInt8 x1).toInt32)), (.int ((Int32.toInt8 x2).toInt32))] (.int (0 : Int32)) ∧ h0.size ≤ d) := by
  refine conOf (plainFor_of_name pn_java_lang_String) ?_
  intro p e s m below mth cc s₁ X0 hx hby hml hown hnm hret hlk hZ e0
  have N0 := Fr.nil n0
  have K0 := Keep.refl h0 ([a] : List Addr)
  refine Fin.came (castTop (t := _) (by first | (simp [entryFrame, mkF, argsToLocals, Value.category]; done) | rfl) (Steps.refl _) : Steps p.tables e below (s₁.setTop (entryFrame m #[(.ref a), (.ref b)] 2)) (s₁.setTop (mkF m 0 #[vr a, vr b] []))) ?_
  refine .go (fun _ k => XS.aloadN X0.here hx rfl (hb hby d3_0) rfl rfl k) ?_
  refine .go (fun _ k => XS.aloadN X0.here hx rfl (hb hby d3_1) rfl rfl k) ?_
  refine .go (fun _ k => XS.iconst X0.here hx rfl (hb hby d3_2) k) ?_
  refine .go (fun _ k => XS.aloadN X0.here hx rfl (hb hby d3_3) rfl rfl k) ?_
  obtain ⟨cz11, B11, q11, S11, M11, H11, G11⟩ := id VB
  refine Fin.go (fun _ k => X0.arraylength hx (by rw [e0]; exact B11.1) (State.isArrayOf_alike hZ.alike B11.2.1) (g := (mkF m 4 #[vr a, vr b] [(.ref b), (.int (0 : Int32)), (.ref b), (.ref a)])) rfl rfl (hb hby d3_4) _ k) ?_
  rw [len_of S11 M11]
  show Fin _ _ _ _ _ _ _ _ s₁ (mkF m 5 #[vr a, vr b] [(.int (2 : Int32)), (.int (0 : Int32)), (.ref b), (.ref a)])
  refine .go (fun _ k => XS.aconstNull X0.here hx rfl (hb hby d3_5) k) ?_
  obtain ⟨v12, T12, L12, X12, q12, st12⟩ := callCt X0 hx hZ (y := (⟨"java/lang/String", "<init>", "([CIILjava/lang/Void;)V"⟩ : MethodName)) rfl hown (hw _ w_16) (hw _ w_17) (hw _ w_12) (hw _ w_19) (by decide) (W := 0) (rmStrV2 l Z a0 hw n0 h0 O a b kb x1 x2 cs S_cs hcs VB A F1 F2 hp1 hp2 na nba) e0 (by decide) (by decide) (by decide) (by decide) (g := (mkF m 6 #[vr a, vr b] [.null, (.int (2 : Int32)), (.int (0 : Int32)), (.ref b), (.ref a)])) rfl (by rw [hml]; rfl) (a := a) (argsL := [(.ref b), (.int (0 : Int32)), (.int (2 : Int32)), .null]) (rest := []) (lenOf pd_oACIILjava_lang_Void_cV rfl) rfl (wk rfl rfl) (hb hby d3_6)
  obtain ⟨rfl, Nq12, Kq12, A12, C12, d12, kd12, F12, V12, zd12⟩ := q12
  have N12 := Fr.app N0 Nq12
  have O12 := O.keep Kq12 (allS na all0)
  have K12 := K0.trans Kq12 (allS (Or.inl (List.mem_of_getElem? (i := 0) rfl)) all0)
  refine Fin.go st12 ?_
  show Fin _ _ _ _ _ _ _ _ T12 (mkF m 9 #[vr a, vr b] [])
  exact Fin.leaveN X12 (rfl : T12.heap = T12.heap) hlk (v := none) (fun _ => rfl) (by decide) (by decide) ⟨rfl, N12, K12, A12, C12, d12, kd12, F12, V12, zd12⟩ (fun fs hr => X12.returnOut hx hret (hb hby d3_9) hr)
theorem rmCmpB3 (l : Launch) (Z : State) (a0 : Array Value) (hw : HW a0 Z) (n0 : Nat) (h0 : Heap) (O : Old Z n0 h0) (b d : Addr) (kb kd : ClassId) (x1 x2 x3 : Int32) (VB : Arv Z h0 b kb .char (3 : Int32) [(.int x1), (.int x2), (.int x3)] (.int (0 : Int32))) (VD : Arv Z h0 d kd .byte (3 : Int32) [(.int (0 : Int32)), (.int (0 : Int32)), (.int (0 : Int32))] (.int (0 : Int32))) (hp1 : ¬ (255 : Int32) < x1) (hp2 : ¬ (255 : Int32) < x2) (hp3 : ¬ (255 : Int32) < x3) (nd : n0 ≤ d) (nbd : b ≠ d) :
    ConW FrameEnd l Z [] (⟨"java/lang/StringUTF16", "compress", "([CI[BII)I"⟩ : MethodName) jdk_52_method_21_code 7 (some .int) ({ frames := 0, cells := 0, slots := 0, locals := 0 } : Room) #[(.ref b), (.int (0 : Int32)), (.ref d), (.int (0 : Int32)), (.int (3 : Int32))] h0 (fun v h L => v = some (.int (3 : Int32)) ∧ Fr n0 L ∧ Keep h0 h [d] ∧ Arv Z h d kd .byte (3 : Int32) [(.int ((Int32.toInt8 x1).toInt32)), (.int ((Int32.toInt8 x2).toInt32)), (.int ((Int32.toInt8 x3).toInt32))] (.int (0 : Int32))) := by
  refine conOf (plainFor_of_name pn_java_lang_StringUTF16) ?_
  intro p e s m below mth cc s₁ X0 hx hby hml hown hnm hret hlk hZ e0
  have N0 := Fr.nil n0
  have K0 := Keep.refl h0 ([d] : List Addr)
  refine Fin.came (castTop (t := _) (by first | (simp [entryFrame, mkF, argsToLocals, Value.category]; done) | rfl) (Steps.refl _) : Steps p.tables e below (s₁.setTop (entryFrame m #[(.ref b), (.int (0 : Int32)), (.ref d), (.int (0 : Int32)), (.int (3 : Int32))] 7)) (s₁.setTop (mkF m 0 #[vr b, vi (0 : Int32), vr d, vi (0 : Int32), vi (3 : Int32), .unset, .unset] []))) ?_
  refine .go (fun _ k => XS.iconst X0.here hx rfl (hb hby d7_0) k) ?_
  refine .go (fun _ k => XS.istore X0.here hx rfl (hb hby d7_1) rfl (l' := #[vr b, vi (0 : Int32), vr d, vi (0 : Int32), vi (3 : Int32), vi (0 : Int32), .unset]) rfl k) ?_
  refine .go (fun _ k => XS.iload X0.here hx rfl (hb hby d7_3) rfl k) ?_
  refine .go (fun _ k => XS.iload X0.here hx rfl (hb hby d7_5) rfl k) ?_
  refine .go (fun _ k => XS.icmpNo X0.here hx rfl (hb hby d7_7) rfl (XT.ii_ge_f (by decide)) k) ?_
  show Fin _ _ _ _ _ _ _ _ s₁ (mkF m 10 #[vr b, vi (0 : Int32), vr d, vi (0 : Int32), vi (3 : Int32), vi (0 : Int32), .unset] [])
  refine .go (fun _ k => XS.aloadN X0.here hx rfl (hb hby d7_10) rfl rfl k) ?_
  refine .go (fun _ k => XS.iloadN X0.here hx rfl (hb hby d7_11) rfl k) ?_
  obtain ⟨cz11, B11, q11, S11, M11, H11, G11⟩ := id VB
  have i11 := inb_of S11 ⟨(by decide : ¬ ((0 : Int32) < (0 : Int32))), (by decide : (0 : Int32) < (3 : Int32))⟩
  refine Fin.go (fun _ k => X0.caload hx (j := (0 : Int32)) (v := (.int x1)) (by rw [e0]; exact B11.1) (State.isArrayOf_alike hZ.alike B11.2.1) B11.2.2 i11 (Has.at H11 i11 rfl) (g := (mkF m 12 #[vr b, vi (0 : Int32), vr d, vi (0 : Int32), vi (3 : Int32), vi (0 : Int32), .unset] [(.int (0 : Int32)), (.ref b)])) rfl rfl (hb hby d7_12) _ k) ?_
  show Fin _ _ _ _ _ _ _ _ s₁ (mkF m 13 #[vr b, vi (0 : Int32), vr d, vi (0 : Int32), vi (3 : Int32), vi (0 : Int32), .unset] [(.int x1)])
  refine .go (fun _ k => XS.istore X0.here hx rfl (hb hby d7_13) rfl (l' := #[vr b, vi (0 : Int32), vr d, vi (0 : Int32), vi (3 : Int32), vi (0 : Int32), vi x1]) rfl k) ?_
  refine .go (fun _ k => XS.iload X0.here hx rfl (hb hby d7_15) rfl k) ?_
  refine .go (fun _ k => XS.sipush X0.here hx rfl (hb hby d7_17) k) ?_
  refine .go (fun _ k => XS.icmpYes X0.here hx rfl (pc0 := 20) (pc' := 26) rfl (hb hby d7_20) rfl (XT.ii_le_t hp1) (by decide) (by decide) k) ?_
  show Fin _ _ _ _ _ _ _ _ s₁ (mkF m 26 #[vr b, vi (0 : Int32), vr d, vi (0 : Int32), vi (3 : Int32), vi (0 : Int32), vi x1] [])
  refine .go (fun _ k => XS.aloadN X0.here hx rfl (hb hby d7_26) rfl rfl k) ?_
  refine .go (fun _ k => XS.iloadN X0.here hx rfl (hb hby d7_27) rfl k) ?_
  refine .go (fun _ k => XS.iload X0.here hx rfl (hb hby d7_28) rfl k) ?_
  refine .go (fun _ k => XT.i2b X0.here hx rfl (hb hby d7_30) rfl k) ?_
  obtain ⟨cz12, B12, q12, S12, M12, H12, G12⟩ := id VD
  obtain ⟨T12, h12, X12, e12, W12, st12⟩ := stB X0 hx hZ e0 B12 (j := (0 : Int32)) (inb_of S12 ⟨(by decide : ¬ ((0 : Int32) < (0 : Int32))), (by decide : (0 : Int32) < (3 : Int32))⟩) (g := (mkF m 31 #[vr b, vi (0 : Int32), vr d, vi (0 : Int32), vi (3 : Int32), vi (0 : Int32), vi x1] [(.int ((Int32.toInt8 x1).toInt32)), (.int (0 : Int32)), (.ref d)])) rfl rfl (hb hby d7_31)
  refine Fin.go st12 ?_
  have V12 : Arv Z h12 d kd .byte (3 : Int32) [(.int ((Int32.toInt8 x1).toInt32)), (.int (0 : Int32)), (.int (0 : Int32))] (.int (0 : Int32)) := (by have q : Arv Z h12 d kd .byte (3 : Int32) [(.int (nar .byte ((Int32.toInt8 x1).toInt32))), (.int (0 : Int32)), (.int (0 : Int32))] (.int (0 : Int32)) := (Arv.set B12 q12 S12 M12 H12 G12 (fits_nar_byte _) W12 0 rfl (Nat.le_of_ble_eq_true rfl)); rwa [nar_b8] at q)
  have N12 := Fr.snoc X12 N0 nd
  have O12 := O.wr W12 nd
  have K12 := K0.wr W12 (Or.inl (List.mem_of_getElem? (i := 0) rfl))
  show Fin _ _ _ _ _ _ _ _ T12 (mkF m 32 #[vr b, vi (0 : Int32), vr d, vi (0 : Int32), vi (3 : Int32), vi (0 : Int32), vi x1] [])
  refine .go (fun _ k => XS.iinc X12.here hx rfl (hb hby d7_32) rfl (l' := #[vr b, vi ((0 : Int32) + (1 : Int32)), vr d, vi (0 : Int32), vi (3 : Int32), vi (0 : Int32), vi x1]) rfl k) ?_
  refine .go (fun _ k => XS.iinc X12.here hx rfl (hb hby d7_35) rfl (l' := #[vr b, vi ((0 : Int32) + (1 : Int32)), vr d, vi ((0 : Int32) + (1 : Int32)), vi (3 : Int32), vi (0 : Int32), vi x1]) rfl k) ?_
  refine .go (fun _ k => XS.iinc X12.here hx rfl (hb hby d7_38) rfl (l' := #[vr b, vi ((0 : Int32) + (1 : Int32)), vr d, vi ((0 : Int32) + (1 : Int32)), vi (3 : Int32), vi ((0 : Int32) + (1 : Int32)), vi x1]) rfl k) ?_
  refine .go (fun _ k => XS.goto X12.here hx rfl (pc0 := 41) (pc' := 3) rfl (hb hby d7_41) (by decide) (by decide) k) ?_
  refine .go (fun _ k => XS.iload X12.here hx rfl (hb hby d7_3) rfl k) ?_
  refine .go (fun _ k => XS.iload X12.here hx rfl (hb hby d7_5) rfl k) ?_
  refine .go (fun _ k => XS.icmpNo X12.here hx rfl (hb hby d7_7) rfl (XT.ii_ge_f (by decide)) k) ?_
  show Fin _ _ _ _ _ _ _ _ T12 (mkF m 10 #[vr b, vi ((0 : Int32) + (1 : Int32)), vr d, vi ((0 : Int32) + (1 : Int32)), vi (3 : Int32), vi ((0 : Int32) + (1 : Int32)), vi x1] [])
  refine .go (fun _ k => XS.aloadN X12.here hx rfl (hb hby d7_10) rfl rfl k) ?_
  refine .go (fun _ k => XS.iloadN X12.here hx rfl (hb hby d7_11) rfl k) ?_
  obtain ⟨cz13, B13, q13, S13, M13, H13, G13⟩ := id (VB.other W12 nbd)
  have i13 := inb_of S13 ⟨(by decide : ¬ (((0 : Int32) + (1 : Int32)) < (0 : Int32))), (by decide : ((0 : Int32) + (1 : Int32)) < (3 : Int32))⟩
  refine Fin.go (fun _ k => X12.caload hx (j := ((0 : Int32) + (1 : Int32))) (v := (.int x2)) (by rw [e12]; exact B13.1) (State.isArrayOf_alike hZ.alike B13.2.1) B13.2.2 i13 (Has.at H13 i13 rfl) (g := (mkF m 12 #[vr b, vi ((0 : Int32) + (1 : Int32)), vr d, vi ((0 : Int32) + (1 : Int32)), vi (3 : Int32), vi ((0 : Int32) + (1 : Int32)), vi x1] [(.int ((0 : Int32) + (1 : Int32))), (.ref b)])) rfl rfl (hb hby d7_12) _ k) ?_
  show Fin _ _ _ _ _ _ _ _ T12 (mkF m 13 #[vr b, vi ((0 : Int32) + (1 : Int32)), vr d, vi ((0 : Int32) + (1 : Int32)), vi (3 : Int32), vi ((0 : Int32) + (1 : Int32)), vi x1] [(.int x2)])
  refine .go (fun _ k => XS.istore X12.here hx rfl (hb hby d7_13) rfl (l' := #[vr b, vi ((0 : Int32) + (1 : Int32)), vr d, vi ((0 : Int32) + (1 : Int32)), vi (3 : Int32), vi ((0 : Int32) + (1 : Int32)), vi x2]) rfl k) ?_
  refine .go (fun _ k => XS.iload X12.here hx rfl (hb hby d7_15) rfl k) ?_
  refine .go (fun _ k => XS.sipush X12.here hx rfl (hb hby d7_17) k) ?_
  refine .go (fun _ k => XS.icmpYes X12.here hx rfl (pc0 := 20) (pc' := 26) rfl (hb hby d7_20) rfl (XT.ii_le_t hp2) (by decide) (by decide) k) ?_
  show Fin _ _ _ _ _ _ _ _ T12 (mkF m 26 #[vr b, vi ((0 : Int32) + (1 : Int32)), vr d, vi ((0 : Int32) + (1 : Int32)), vi (3 : Int32), vi ((0 : Int32) + (1 : Int32)), vi x2] [])
  refine .go (fun _ k => XS.aloadN X12.here hx rfl (hb hby d7_26) rfl rfl k) ?_
  refine .go (fun _ k => XS.iloadN X12.here hx rfl (hb hby d7_27) rfl k) ?_
  refine .go (fun _ k => XS.iload X12.here hx rfl (hb hby d7_28) rfl k) ?_
  refine .go (fun _ k => XT.i2b X12.here hx rfl (hb hby d7_30) rfl k) ?_
  obtain ⟨cz14, B14, q14, S14, M14, H14, G14⟩ := id V12
  obtain ⟨T14, h14, X14, e14, W14, st14⟩ := stB X12 hx hZ e12 B14 (j := ((0 : Int32) + (1 : Int32))) (inb_of S14 ⟨(by decide : ¬ (((0 : Int32) + (1 : Int32)) < (0 : Int32))), (by decide : ((0 : Int32) + (1 : Int32)) < (3 : Int32))⟩) (g := (mkF m 31 #[vr b, vi ((0 : Int32) + (1 : Int32)), vr d, vi ((0 : Int32) + (1 : Int32)), vi (3 : Int32), vi ((0 : Int32) + (1 : Int32)), vi x2] [(.int ((Int32.toInt8 x2).toInt32)), (.int ((0 : Int32) + (1 : Int32))), (.ref d)])) rfl rfl (hb hby d7_31)
  refine Fin.go st14 ?_
  have V14 : Arv Z h14 d kd .byte (3 : Int32) [(.int ((Int32.toInt8 x1).toInt32)), (.int ((Int32.toInt8 x2).toInt32)), (.int (0 : Int32))] (.int (0 : Int32)) := (by have q : Arv Z h14 d kd .byte (3 : Int32) [(.int ((Int32.toInt8 x1).toInt32)), (.int (nar .byte ((Int32.toInt8 x2).toInt32))), (.int (0 : Int32))] (.int (0 : Int32)) := (Arv.set B14 q14 S14 M14 H14 G14 (fits_nar_byte _) W14 1 rfl (Nat.le_of_ble_eq_true rfl)); rwa [nar_b8] at q)
  have N14 := Fr.snoc X14 N12 nd
  have O14 := O12.wr W14 nd
  have K14 := K12.wr W14 (Or.inl (List.mem_of_getElem? (i := 0) rfl))
  show Fin _ _ _ _ _ _ _ _ T14 (mkF m 32 #[vr b, vi ((0 : Int32) + (1 : Int32)), vr d, vi ((0 : Int32) + (1 : Int32)), vi (3 : Int32), vi ((0 : Int32) + (1 : Int32)), vi x2] [])
  refine .go (fun _ k => XS.iinc X14.here hx rfl (hb hby d7_32) rfl (l' := #[vr b, vi (((0 : Int32) + (1 : Int32)) + (1 : Int32)), vr d, vi ((0 : Int32) + (1 : Int32)), vi (3 : Int32), vi ((0 : Int32) + (1 : Int32)), vi x2]) rfl k) ?_
  refine .go (fun _ k => XS.iinc X14.here hx rfl (hb hby d7_35) rfl (l' := #[vr b, vi (((0 : Int32) + (1 : Int32)) + (1 : Int32)), vr d, vi (((0 : Int32) + (1 : Int32)) + (1 : Int32)), vi (3 : Int32), vi ((0 : Int32) + (1 : Int32)), vi x2]) rfl k) ?_
  refine .go (fun _ k => XS.iinc X14.here hx rfl (hb hby d7_38) rfl (l' := #[vr b, vi (((0 : Int32) + (1 : Int32)) + (1 : Int32)), vr d, vi (((0 : Int32) + (1 : Int32)) + (1 : Int32)), vi (3 : Int32), vi (((0 : Int32) + (1 : Int32)) + (1 : Int32)), vi x2]) rfl k) ?_
  refine .go (fun _ k => XS.goto X14.here hx rfl (pc0 := 41) (pc' := 3) rfl (hb hby d7_41) (by decide) (by decide) k) ?_
  refine .go (fun _ k => XS.iload X14.here hx rfl (hb hby d7_3) rfl k) ?_
  refine .go (fun _ k => XS.iload X14.here hx rfl (hb hby d7_5) rfl k) ?_
  refine .go (fun _ k => XS.icmpNo X14.here hx rfl (hb hby d7_7) rfl (XT.ii_ge_f (by decide)) k) ?_
  show Fin _ _ _ _ _ _ _ _ T14 (mkF m 10 #[vr b, vi (((0 : Int32) + (1 : Int32)) + (1 : Int32)), vr d, vi (((0 : Int32) + (1 : Int32)) + (1 : Int32)), vi (3 : Int32), vi (((0 : Int32) + (1 : Int32)) + (1 : Int32)), vi x2] [])
  refine .go (fun _ k => XS.aloadN X14.here hx rfl (hb hby d7_10) rfl rfl k) ?_
  refine .go (fun _ k => XS.iloadN X14.here hx rfl (hb hby d7_11) rfl k) ?_
  obtain ⟨cz15, B15, q15, S15, M15, H15, G15⟩ := id ((VB.other W12 nbd).other W14 nbd)
  have i15 := inb_of S15 ⟨(by decide : ¬ ((((0 : Int32) + (1 : Int32)) + (1 : Int32)) < (0 : Int32))), (by decide : (((0 : Int32) + (1 : Int32)) + (1 : Int32)) < (3 : Int32))⟩
  refine Fin.go (fun _ k => X14.caload hx (j := (((0 : Int32) + (1 : Int32)) + (1 : Int32))) (v := (.int x3)) (by rw [e14]; exact B15.1) (State.isArrayOf_alike hZ.alike B15.2.1) B15.2.2 i15 (Has.at H15 i15 rfl) (g := (mkF m 12 #[vr b, vi (((0 : Int32) + (1 : Int32)) + (1 : Int32)), vr d, vi (((0 : Int32) + (1 : Int32)) + (1 : Int32)), vi (3 : Int32), vi (((0 : Int32) + (1 : Int32)) + (1 : Int32)), vi x2] [(.int (((0 : Int32) + (1 : Int32)) + (1 : Int32))), (.ref b)])) rfl rfl (hb hby d7_12) _ k) ?_
  show Fin _ _ _ _ _ _ _ _ T14 (mkF m 13 #[vr b, vi (((0 : Int32) + (1 : Int32)) + (1 : Int32)), vr d, vi (((0 : Int32) + (1 : Int32)) + (1 : Int32)), vi (3 : Int32), vi (((0 : Int32) + (1 : Int32)) + (1 : Int32)), vi x2] [(.int x3)])
  refine .go (fun _ k => XS.istore X14.here hx rfl (hb hby d7_13) rfl (l' := #[vr b, vi (((0 : Int32) + (1 : Int32)) + (1 : Int32)), vr d, vi (((0 : Int32) + (1 : Int32)) + (1 : Int32)), vi (3 : Int32), vi (((0 : Int32) + (1 : Int32)) + (1 : Int32)), vi x3]) rfl k) ?_
  refine .go (fun _ k => XS.iload X14.here hx rfl (hb hby d7_15) rfl k) ?_
  refine .go (fun _ k => XS.sipush X14.here hx rfl (hb hby d7_17) k) ?_
  refine .go (fun _ k => XS.icmpYes X14.here hx rfl (pc0 := 20) (pc' := 26) rfl (hb hby d7_20) rfl (XT.ii_le_t hp3) (by decide) (by decide) k) ?_
  show Fin _ _ _ _ _ _ _ _ T14 (mkF m 26 #[vr b, vi (((0 : Int32) + (1 : Int32)) + (1 : Int32)), vr d, vi (((0 : Int32) + (1 : Int32)) + (1 : Int32)), vi (3 : Int32), vi (((0 : Int32) + (1 : Int32)) + (1 : Int32)), vi x3] [])
  refine .go (fun _ k => XS.aloadN X14.here hx rfl (hb hby d7_26) rfl rfl k) ?_
  refine .go (fun _ k => XS.iloadN X14.here hx rfl (hb hby d7_27) rfl k) ?_
  refine .go (fun _ k => XS.iload X14.here hx rfl (hb hby d7_28) rfl k) ?_
  refine .go (fun _ k => XT.i2b X14.here hx rfl (hb hby d7_30) rfl k) ?_
  obtain ⟨cz16, B16, q16, S16, M16, H16, G16⟩ := id V14
  obtain ⟨T16, h16, X16, e16, W16, st16⟩ := stB X14 hx hZ e14 B16 (j := (((0 : Int32) + (1 : Int32)) + (1 : Int32))) (inb_of S16 ⟨(by decide : ¬ ((((0 : Int32) + (1 : Int32)) + (1 : Int32)) < (0 : Int32))), (by decide : (((0 : Int32) + (1 : Int32)) + (1 : Int32)) < (3 : Int32))⟩) (g := (mkF m 31 #[vr b, vi (((0 : Int32) + (1 : Int32)) + (1 : Int32)), vr d, vi (((0 : Int32) + (1 : Int32)) + (1 : Int32)), vi (3 : Int32), vi (((0 : Int32) + (1 : Int32)) + (1 : Int32)), vi x3] [(.int ((Int32.toInt8 x3).toInt32)), (.int (((0 : Int32) + (1 : Int32)) + (1 : Int32))), (.ref d)])) rfl rfl (hb hby d7_31)
  refine Fin.go st16 ?_
  have V16 : Arv Z h16 d kd .byte (3 : Int32) [(.int ((Int32.toInt8 x1).toInt32)), (.int ((Int32.toInt8 x2).toInt32)), (.int ((Int32.toInt8 x3).toInt32))] (.int (0 : Int32)) := (by have q : Arv Z h16 d kd .byte (3 : Int32) [(.int ((Int32.toInt8 x1).toInt32)), (.int ((Int32.toInt8 x2).toInt32)), (.int (nar .byte ((Int32.toInt8 x3).toInt32)))] (.int (0 : Int32)) := (Arv.set B16 q16 S16 M16 H16 G16 (fits_nar_byte _) W16 2 rfl (Nat.le_of_ble_eq_true rfl)); rwa [nar_b8] at q)
  have N16 := Fr.snoc X16 N14 nd
  have O16 := O14.wr W16 nd
  have K16 := K14.wr W16 (Or.inl (List.mem_of_getElem? (i := 0) rfl))
  show Fin _ _ _ _ _ _ _ _ T16 (mkF m 32 #[vr b, vi (((0 : Int32) + (1 : Int32)) + (1 : Int32)), vr d, vi (((0 : Int32) + (1 : Int32)) + (1 : Int32)), vi (3 : Int32), vi (((0 : Int32) + (1 : Int32)) + (1 : Int32)), vi x3] [])
  refine .go (fun _ k => XS.iinc X16.here hx rfl (hb hby d7_32) rfl (l' := #[vr b, vi ((((0 : Int32) + (1 : Int32)) + (1 : Int32)) + (1 : Int32)), vr d, vi (((0 : Int32) + (1 : Int32)) + (1 : Int32)), vi (3 : Int32), vi (((0 : Int32) + (1 : Int32)) + (1 : Int32)), vi x3]) rfl k) ?_
  refine .go (fun _ k => XS.iinc X16.here hx rfl (hb hby d7_35) rfl (l' := #[vr b, vi ((((0 : Int32) + (1 : Int32)) + (1 : Int32)) + (1 : Int32)), vr d, vi ((((0 : Int32) + (1 : Int32)) + (1 : Int32)) + (1 : Int32)), vi (3 : Int32), vi (((0 : Int32) + (1 : Int32)) + (1 : Int32)), vi x3]) rfl k) ?_
  refine .go (fun _ k => XS.iinc X16.here hx rfl (hb hby d7_38) rfl (l' := #[vr b, vi ((((0 : Int32) + (1 : Int32)) + (1 : Int32)) + (1 : Int32)), vr d, vi ((((0 : Int32) + (1 : Int32)) + (1 : Int32)) + (1 : Int32)), vi (3 : Int32), vi ((((0 : Int32) + (1 : Int32)) + (1 : Int32)) + (1 : Int32)), vi x3]) rfl k) ?_
  refine .go (fun _ k => XS.goto X16.here hx rfl (pc0 := 41) (pc' := 3) rfl (hb hby d7_41) (by decide) (by decide) k) ?_
  refine .go (fun _ k => XS.iload X16.here hx rfl (hb hby d7_3) rfl k) ?_
  refine .go (fun _ k => XS.iload X16.here hx rfl (hb hby d7_5) rfl k) ?_
  refine .go (fun _ k => XS.icmpYes X16.here hx rfl (pc0 := 7) (pc' := 44) rfl (hb hby d7_7) rfl (XT.ii_ge_t (by decide)) (by decide) (by decide) k) ?_
  show Fin _ _ _ _ _ _ _ _ T16 (mkF m 44 #[vr b, vi ((((0 : Int32) + (1 : Int32)) + (1 : Int32)) + (1 : Int32)), vr d, vi ((((0 : Int32) + (1 : Int32)) + (1 : Int32)) + (1 : Int32)), vi (3 : Int32), vi ((((0 : Int32) + (1 : Int32)) + (1 : Int32)) + (1 : Int32)), vi x3] [])
  refine .go (fun _ k => XS.iload X16.here hx rfl (hb hby d7_44) rfl k) ?_
  exact Fin.leaveN X16 e16 hlk (v := some (.int (3 : Int32))) (nvS hret) (by decide) (by decide) ⟨rfl, N16, K16, V16⟩ (fun fs hr => retI X16 hx hret (hb hby d7_46) hr)
theorem rmCmpA3 (l : Launch) (Z : State) (a0 : Array Value) (hw : HW a0 Z) (n0 : Nat) (h0 : Heap) (O : Old Z n0 h0) (b : Addr) (kb : ClassId) (x1 x2 x3 : Int32) (VB : Arv Z h0 b kb .char (3 : Int32) [(.int x1), (.int x2), (.int x3)] (.int (0 : Int32))) (hp1 : ¬ (255 : Int32) < x1) (hp2 : ¬ (255 : Int32) < x2) (hp3 : ¬ (255 : Int32) < x3) :
    ConW FrameEnd l Z [] (⟨"java/lang/StringUTF16", "compress", "([CII)[B"⟩ : MethodName) jdk_52_method_16_code 6 (some (.array .byte)) ({ frames := 1, cells := 1, slots := 3, locals := 18 } : Room) #[(.ref b), (.int (0 : Int32)), (.int (3 : Int32))] h0 (fun v h L => ∃ d kd, v = some (.ref d) ∧ Fr n0 L ∧ Keep h0 h [] ∧ Arv Z h d kd .byte (3 : Int32) [(.int ((Int32.toInt8 x1).toInt32)), (.int ((Int32.toInt8 x2).toInt32)), (.int ((Int32.toInt8 x3).toInt32))] (.int (0 : Int32)) ∧ h0.size ≤ d) := by
  refine conOf (plainFor_of_name pn_java_lang_StringUTF16) ?_
  intro p e s m below mth cc s₁ X0 hx hby hml hown hnm hret hlk hZ e0
  have N0 := Fr.nil n0
  have K0 := Keep.refl h0 ([] : List Addr)
  refine Fin.came (castTop (t := _) (by first | (simp [entryFrame, mkF, argsToLocals, Value.category]; done) | rfl) (Steps.refl _) : Steps p.tables e below (s₁.setTop (entryFrame m #[(.ref b), (.int (0 : Int32)), (.int (3 : Int32))] 6)) (s₁.setTop (mkF m 0 #[vr b, vi (0 : Int32), vi (3 : Int32), .unset, .unset, .unset] []))) ?_
  refine .go (fun _ k => XS.iloadN X0.here hx rfl (hb hby d6_0) rfl k) ?_
  obtain ⟨T11, h11, k11, X11, e11, E11, A11, st11⟩ := newP X0 hx hZ (aty := .byte) (hw _ w_28) e0 (g := (mkF m 1 #[vr b, vi (0 : Int32), vi (3 : Int32), .unset, .unset, .unset] [(.int (3 : Int32))])) rfl (hb hby d6_1) rfl (by decide : ¬ ((3 : Int32) < (0 : Int32))) (cap := 3) (by decide) (by decide) (by decide) (by decide)
  obtain ⟨a11, g11⟩ : ∃ z, z = h0.size := ⟨_, rfl⟩
  rw [← g11] at A11 st11
  refine Fin.go st11 ?_
  have O11 := O.ext E11
  have K11 := K0.ext E11
  have n11 : n0 ≤ a11 := by have := O.2.1; have := O.1; omega
  have z11 : h0.size ≤ a11 := by have := K0.1; omega
  have V11 : Arv Z h11 a11 k11 .byte (3 : Int32) [(.int (0 : Int32)), (.int (0 : Int32)), (.int (0 : Int32))] (.int (0 : Int32)) := (Arv.new A11 (by decide)).pad (pad_rep [] (.int (0 : Int32)) 3)
  show Fin _ _ _ _ _ _ _ _ T11 (mkF m 3 #[vr b, vi (0 : Int32), vi (3 : Int32), .unset, .unset, .unset] [(.ref a11)])
  refine .go (fun _ k => XS.astoreN X11.here hx rfl (hb hby d6_3) rfl rfl (l' := #[vr b, vi (0 : Int32), vi (3 : Int32), vr a11, .unset, .unset]) rfl k) ?_
  refine .go (fun _ k => XS.aloadN X11.here hx rfl (hb hby d6_4) rfl rfl k) ?_
  refine .go (fun _ k => XS.iloadN X11.here hx rfl (hb hby d6_5) rfl k) ?_
  refine .go (fun _ k => XS.aloadN X11.here hx rfl (hb hby d6_6) rfl rfl k) ?_
  refine .go (fun _ k => XS.iconst X11.here hx rfl (hb hby d6_7) k) ?_
  refine .go (fun _ k => XS.iloadN X11.here hx rfl (hb hby d6_8) rfl k) ?_
  obtain ⟨v12, T12, L12, X12, q12, st12⟩ := callSt X11 hx hZ hown (hw _ w_29) (hw _ w_30) (hw _ w_26) (hw _ w_31) (by decide) (W := 0) (rmCmpB3 l Z a0 hw n0 h11 O11 b a11 kb k11 x1 x2 x3 (VB.ext E11) V11 hp1 hp2 hp3 n11 (Nat.ne_of_lt (Nat.lt_of_lt_of_eq VB.lt g11.symm))) e11 (by decide) (by decide) (by decide) (by decide) (g := (mkF m 9 #[vr b, vi (0 : Int32), vi (3 : Int32), vr a11, .unset, .unset] [(.int (3 : Int32)), (.int (0 : Int32)), (.ref a11), (.int (0 : Int32)), (.ref b)])) rfl (by rw [hml]; rfl) (argsL := [(.ref b), (.int (0 : Int32)), (.ref a11), (.int (0 : Int32)), (.int (3 : Int32))]) (rest := []) (lenOf pd_oACIABIIcI rfl) rfl (wk rfl rfl) (hb hby d6_9)
  obtain ⟨rfl, Nq12, Kq12, V12⟩ := q12
  have N12 := Fr.app N0 Nq12
  have O12 := O11.keep Kq12 (allS n11 all0)
  have K12 := K11.trans Kq12 (allS (Or.inr z11) all0)
  refine Fin.go st12 ?_
  have V12_b := ((VB.ext E11).keep Kq12 (ninS (Nat.ne_of_lt (Nat.lt_of_lt_of_eq VB.lt g11.symm)) nin0))
  show Fin _ _ _ _ _ _ _ _ T12 (mkF m 12 #[vr b, vi (0 : Int32), vi (3 : Int32), vr a11, .unset, .unset] [(.int (3 : Int32))])
  refine .go (fun _ k => XS.istore X12.here hx rfl (hb hby d6_12) rfl (l' := #[vr b, vi (0 : Int32), vi (3 : Int32), vr a11, vi (3 : Int32), .unset]) rfl k) ?_
  refine .go (fun _ k => XS.iload X12.here hx rfl (hb hby d6_14) rfl k) ?_
  refine .go (fun _ k => XS.iloadN X12.here hx rfl (hb hby d6_16) rfl k) ?_
  refine .go (fun _ k => XS.icmpYes X12.here hx rfl (pc0 := 17) (pc' := 57) rfl (hb hby d6_17) rfl (XT.ii_eq_t (by decide)) (by decide) (by decide) k) ?_
  show Fin _ _ _ _ _ _ _ _ T12 (mkF m 57 #[vr b, vi (0 : Int32), vi (3 : Int32), vr a11, vi (3 : Int32), .unset] [])
  refine .go (fun _ k => XS.aloadN X12.here hx rfl (hb hby d6_57) rfl rfl k) ?_
  exact Fin.leaveN X12 (rfl : T12.heap = T12.heap) hlk (v := some (.ref a11)) (nvS hret) (by decide) (by decide) ⟨a11, k11, rfl, N12, K12, V12, z11⟩ (fun fs hr => retOut X12 hx hret rfl (Or.inr (Or.inr (Or.inr (Or.inr ⟨rfl, rfl, rfl⟩)))) (hb hby d6_58) hr)
theorem rmCod3 (l : Launch) (Z : State) (a0 : Array Value) (hw : HW a0 Z) (n0 : Nat) (h0 : Heap) (O : Old Z n0 h0) (d : Addr) (kd : ClassId) (x1 x2 x3 : Int32) (VD : Arv Z h0 d kd .byte (3 : Int32) [(.int x1), (.int x2), (.int x3)] (.int (0 : Int32))) :
    ConW FrameEnd l Z [] (⟨"java/lang/StringUTF16", "coderFromArrayLen", "([BI)B"⟩ : MethodName) jdk_52_method_15_code 2 (some .byte) ({ frames := 0, cells := 0, slots := 0, locals := 0 } : Room) #[(.ref d), (.int (3 : Int32))] h0 (Pure h0 (some (.int (0 : Int32)))) := by
  refine conOf (plainFor_of_name pn_java_lang_StringUTF16) ?_
  intro p e s m below mth cc s₁ X0 hx hby hml hown hnm hret hlk hZ e0
  have N0 := Fr.nil n0
  refine Fin.came (castTop (t := _) (by first | (simp [entryFrame, mkF, argsToLocals, Value.category]; done) | rfl) (Steps.refl _) : Steps p.tables e below (s₁.setTop (entryFrame m #[(.ref d), (.int (3 : Int32))] 2)) (s₁.setTop (mkF m 0 #[vr d, vi (3 : Int32)] []))) ?_
  refine .go (fun _ k => XS.iloadN X0.here hx rfl (hb hby d8_0) rfl k) ?_
  refine .go (fun _ k => XS.aloadN X0.here hx rfl (hb hby d8_1) rfl rfl k) ?_
  obtain ⟨cz11, B11, q11, S11, M11, H11, G11⟩ := id VD
  refine Fin.go (fun _ k => X0.arraylength hx (by rw [e0]; exact B11.1) (State.isArrayOf_alike hZ.alike B11.2.1) (g := (mkF m 2 #[vr d, vi (3 : Int32)] [(.ref d), (.int (3 : Int32))])) rfl rfl (hb hby d8_2) _ k) ?_
  rw [len_of S11 M11]
  show Fin _ _ _ _ _ _ _ _ s₁ (mkF m 3 #[vr d, vi (3 : Int32)] [(.int (3 : Int32)), (.int (3 : Int32))])
  refine .go (fun _ k => XS.isub X0.here hx rfl (hb hby d8_3) rfl k) ?_
  refine .go (fun _ k => XS.bipush X0.here hx rfl (hb hby d8_4) k) ?_
  refine .go (fun _ k => XT.iushr X0.here hx rfl (hb hby d8_6) rfl k) ?_
  refine .go (fun _ k => XT.i2b X0.here hx rfl (hb hby d8_7) rfl k) ?_
  exact Fin.leaveN X0 e0 hlk (v := some (.int (nar .byte ((Int32.toInt8 (XT.ushr ((3 : Int32) - (3 : Int32)) (31 : Int32))).toInt32)))) (nvS hret) (by decide) (by decide) ⟨by decide +kernel, rfl, rfl⟩ (fun fs hr => retN X0 hx (t := .byte) hret (by simp) (hb hby d8_8) hr)
theorem rmStrV3 (l : Launch) (Z : State) (a0 : Array Value) (hw : HW a0 Z) (n0 : Nat) (h0 : Heap) (O : Old Z n0 h0) (a b : Addr) (kb : ClassId) (x1 x2 x3 : Int32) (cs : Int32) (S_cs : Sta Z Z.heap "java/lang/String" "COMPACT_STRINGS" "Z" (.int cs)) (hcs : ¬ cs = 0) (VB : Arv Z h0 b kb .char (3 : Int32) [(.int x1), (.int x2), (.int x3)] (.int (0 : Int32))) (A : Exa Z h0 a "java/lang/String") (F1 : Fld Z h0 a "java/lang/String" "coder" "B" (.int (0 : Int32))) (F2 : Fld Z h0 a "java/lang/String" "value" "[B" .null) (hp1 : ¬ (255 : Int32) < x1) (hp2 : ¬ (255 : Int32) < x2) (hp3 : ¬ (255 : Int32) < x3) (na : n0 ≤ a) (nba : b ≠ a) :
    ConW FrameEnd l Z [] (⟨"java/lang/String", "<init>", "([CIILjava/lang/Void;)V"⟩ : MethodName) jdk_42_method_149_code 6 none ({ frames := 2, cells := 1, slots := 3, locals := 35 } : Room) #[(.ref a), (.ref b), (.int (0 : Int32)), (.int (3 : Int32)), .null] h0 (fun v h L => v = none ∧ Fr n0 L ∧ Keep h0 h [a] ∧ Exa Z h a "java/lang/String" ∧ Fld Z h a "java/lang/String" "coder" "B" (.int (0 : Int32)) ∧ ∃ d kd, Fld Z h a "java/lang/String" "value" "[B" (.ref d) ∧ Arv Z h d kd .byte (3 : Int32) [(.int ((Int32.toInt8 x1).toInt32)), (.int ((Int32.toInt8 x2).toInt32)), (.int ((Int32.toInt8 x3).toInt32))] (.int (0 : Int32)) ∧ h0.size ≤ d) := by
  refine conOf (plainFor_of_name pn_java_lang_String) ?_
  intro p e s m below mth cc s₁ X0 hx hby hml hown hnm hret hlk hZ e0
  have N0 := Fr.nil n0
  have K0 := Keep.refl h0 ([a] : List Addr)
  refine Fin.came (castTop (t := _) (by first | (simp [entryFrame, mkF, argsToLocals, Value.category]; done) | rfl) (Steps.refl _) : Steps p.tables e below (s₁.setTop (entryFrame m #[(.ref a), (.ref b), (.int (0 : Int32)), (.int (3 : Int32)), .null] 6)) (s₁.setTop (mkF m 0 #[vr a, vr b, vi (0 : Int32), vi (3 : Int32), .val .null, .unset] []))) ?_
  refine .go (fun _ k => XS.aloadN X0.here hx rfl (hb hby d4_0) rfl rfl k) ?_
  obtain ⟨T11, X11, e11, st11⟩ := initO X0 hx hZ hown (hw _ w_20) (hw _ w_21) (hw _ w_22) e0 (g := (mkF m 1 #[vr a, vr b, vi (0 : Int32), vi (3 : Int32), .val .null, .unset] [(.ref a)])) rfl (by rw [hml]; rfl) rfl (hb hby d4_1) (by decide) (W := 0) (wk rfl rfl) (by decide)
  refine Fin.go st11 ?_
  show Fin _ _ _ _ _ _ _ _ T11 (mkF m 4 #[vr a, vr b, vi (0 : Int32), vi (3 : Int32), .val .null, .unset] [])
  refine .go (fun _ k => XS.iloadN X11.here hx rfl (hb hby d4_4) rfl k) ?_
  refine .go (fun _ k => XS.ifYes X11.here hx rfl (pc0 := 5) (pc' := 27) rfl (hb hby d4_5) rfl (XT.i0_ne_t (by decide)) (by decide) (by decide) k) ?_
  show Fin _ _ _ _ _ _ _ _ T11 (mkF m 27 #[vr a, vr b, vi (0 : Int32), vi (3 : Int32), .val .null, .unset] [])
  obtain ⟨T12, X12, e12, st12⟩ := getS2 X11 hx hZ hown (host := "") (Or.inl (hw _ w_23)) Via.refl e11 (S_cs.ext O.2) (g := (mkF m 27 #[vr a, vr b, vi (0 : Int32), vi (3 : Int32), .val .null, .unset] [])) rfl (hb hby d4_27)
  refine Fin.go st12 ?_
  show Fin _ _ _ _ _ _ _ _ T12 (mkF m 30 #[vr a, vr b, vi (0 : Int32), vi (3 : Int32), .val .null, .unset] [(.int cs)])
  refine .go (fun _ k => XS.ifNo X12.here hx rfl (hb hby d4_30) rfl (XT.i0_eq_f hcs) k) ?_
  show Fin _ _ _ _ _ _ _ _ T12 (mkF m 33 #[vr a, vr b, vi (0 : Int32), vi (3 : Int32), .val .null, .unset] [])
  refine .go (fun _ k => XS.aloadN X12.here hx rfl (hb hby d4_33) rfl rfl k) ?_
  refine .go (fun _ k => XS.iloadN X12.here hx rfl (hb hby d4_34) rfl k) ?_
  refine .go (fun _ k => XS.iloadN X12.here hx rfl (hb hby d4_35) rfl k) ?_
  obtain ⟨v13, T13, L13, X13, q13, st13⟩ := callSt X12 hx hZ hown (hw _ w_24) (hw _ w_25) (hw _ w_26) (hw _ w_27) (by decide) (W := 0) (rmCmpA3 l Z a0 hw n0 h0 O b kb x1 x2 x3 VB hp1 hp2 hp3) e12 (by decide) (by decide) (by decide) (by decide) (g := (mkF m 36 #[vr a, vr b, vi (0 : Int32), vi (3 : Int32), .val .null, .unset] [(.int (3 : Int32)), (.int (0 : Int32)), (.ref b)])) rfl (by rw [hml]; rfl) (argsL := [(.ref b), (.int (0 : Int32)), (.int (3 : Int32))]) (rest := []) (lenOf pd_oACIIcAB rfl) rfl (wk rfl rfl) (hb hby d4_36)
  obtain ⟨d13, kd13, rfl, Nq13, Kq13, V13, zd13⟩ := q13
  have N13 := Fr.app N0 Nq13
  have O13 := O.keep Kq13 all0
  have K13 := K0.trans Kq13 all0
  refine Fin.go st13 ?_
  show Fin _ _ _ _ _ _ _ _ T13 (mkF m 39 #[vr a, vr b, vi (0 : Int32), vi (3 : Int32), .val .null, .unset] [(.ref d13)])
  have nzd13 : n0 ≤ d13 := Nat.le_trans (by have := O.1; have := O.2.1; omega) zd13
  have hzd13 : h0.size ≤ d13 := Nat.le_trans K0.1 zd13
  refine .go (fun _ k => XS.astore X13.here hx rfl (hb hby d4_39) rfl rfl (l' := #[vr a, vr b, vi (0 : Int32), vi (3 : Int32), .val .null, vr d13]) rfl k) ?_
  refine .go (fun _ k => XS.aloadN X13.here hx rfl (hb hby d4_41) rfl rfl k) ?_
  refine .go (fun _ k => XS.aload X13.here hx rfl (hb hby d4_42) rfl rfl k) ?_
  refine .go (fun _ k => XS.iloadN X13.here hx rfl (hb hby d4_44) rfl k) ?_
  obtain ⟨v14, T14, L14, X14, q14, st14⟩ := callSt X13 hx hZ hown (hw _ w_32) (hw _ w_33) (hw _ w_26) (hw _ w_34) (by decide) (W := 1) (rmCod3 l Z a0 hw n0 T13.heap O13 d13 kd13 ((Int32.toInt8 x1).toInt32) ((Int32.toInt8 x2).toInt32) ((Int32.toInt8 x3).toInt32) V13) (rfl : T13.heap = T13.heap) (by decide) (by decide) (by decide) (by decide) (g := (mkF m 45 #[vr a, vr b, vi (0 : Int32), vi (3 : Int32), .val .null, vr d13] [(.int (3 : Int32)), (.ref d13), (.ref a)])) rfl (by rw [hml]; rfl) (argsL := [(.ref d13), (.int (3 : Int32))]) (rest := [(.ref a)]) (lenOf pd_oABIcB rfl) rfl (wk rfl rfl) (hb hby d4_45)
  obtain ⟨rfl, e14, rfl⟩ := q14
  have N14 := Fr.app N13 (Fr.nil n0)
  refine Fin.go st14 ?_
  show Fin _ _ _ _ _ _ _ _ T14 (mkF m 48 #[vr a, vr b, vi (0 : Int32), vi (3 : Int32), .val .null, vr d13] [(.int (0 : Int32)), (.ref a)])
  obtain ⟨T15, h15, X15, e15, W15, st15⟩ := putF X14 hx hZ hown (host := "") (Or.inl (hw _ w_35)) Via.refl e14 (F1.keep Kq13 nin0) (A.keep Kq13) (Or.inr ⟨(hw _ w_36), rfl, hnm⟩) (hw _ w_11) (ty := .byte) (by decide) rfl rfl (g := (mkF m 48 #[vr a, vr b, vi (0 : Int32), vi (3 : Int32), .val .null, vr d13] [(.int (0 : Int32)), (.ref a)])) rfl rfl (hb hby d4_48)
  refine Fin.go st15 ?_
  have N15 := Fr.snoc X15 N14 na
  have O15 := O13.wr W15 na
  have K15 := K13.wr W15 (Or.inl (List.mem_of_getElem? (i := 0) rfl))
  have F15_a_value := ((F2.keep Kq13 nin0).other W15 (Or.inr (slot_ne (Or.inr (hw _ w_38)) (Or.inr (hw _ w_36)) (by decide) (t := (.array .byte)) (t' := .byte) (by decide) (by decide))))
  have V15_d13 := (V13.other W15 (Ne.symm (Nat.ne_of_lt (Nat.lt_of_lt_of_le F2.lt zd13))))
  show Fin _ _ _ _ _ _ _ _ T15 (mkF m 51 #[vr a, vr b, vi (0 : Int32), vi (3 : Int32), .val .null, vr d13] [])
  refine .go (fun _ k => XS.aloadN X15.here hx rfl (hb hby d4_51) rfl rfl k) ?_
  refine .go (fun _ k => XS.aload X15.here hx rfl (hb hby d4_52) rfl rfl k) ?_
  obtain ⟨T16, h16, X16, e16, W16, st16⟩ := putF X15 hx hZ hown (host := "") (Or.inl (hw _ w_37)) Via.refl e15 F15_a_value ((A.keep Kq13).wr W15) (Or.inr ⟨(hw _ w_38), rfl, hnm⟩) (hw _ w_11) (ty := (.array .byte)) (by decide) rfl rfl (g := (mkF m 54 #[vr a, vr b, vi (0 : Int32), vi (3 : Int32), .val .null, vr d13] [(.ref d13), (.ref a)])) rfl rfl (hb hby d4_54)
  refine Fin.go st16 ?_
  have N16 := Fr.snoc X16 N15 na
  have O16 := O15.wr W16 na
  have K16 := K15.wr W16 (Or.inl (List.mem_of_getElem? (i := 0) rfl))
  have F16_a_coder := (((F1.keep Kq13 nin0).same W15).other W16 (Or.inr (slot_ne (Or.inr (hw _ w_36)) (Or.inr (hw _ w_38)) (by decide) (t := .byte) (t' := (.array .byte)) (by decide) (by decide))))
  have V16_d13 := (V15_d13.other W16 (Ne.symm (Nat.ne_of_lt (Nat.lt_of_lt_of_le F2.lt zd13))))
  show Fin _ _ _ _ _ _ _ _ T16 (mkF m 57 #[vr a, vr b, vi (0 : Int32), vi (3 : Int32), .val .null, vr d13] [])
  exact Fin.leaveN X16 e16 hlk (v := none) (fun _ => rfl) (by decide) (by decide) ⟨rfl, N16, K16, (((A.keep Kq13).wr W15).wr W16), F16_a_coder, d13, kd13, (F15_a_value.same W16), V16_d13, hzd13⟩ (fun fs hr => X16.returnOut hx hret (hb hby d4_57) hr)
theorem rmStr3 (l : Launch) (Z : State) (a0 : Array Value) (hw : HW a0 Z) (n0 : Nat) (h0 : Heap) (O : Old Z n0 h0) (a b : Addr) (kb : ClassId) (x1 x2 x3 : Int32) (cs : Int32) (S_cs : Sta Z Z.heap "java/lang/String" "COMPACT_STRINGS" "Z" (.int cs)) (hcs : ¬ cs = 0) (VB : Arv Z h0 b kb .char (3 : Int32) [(.int x1), (.int x2), (.int x3)] (.int (0 : Int32))) (A : Exa Z h0 a "java/lang/String") (F1 : Fld Z h0 a "java/lang/String" "coder" "B" (.int (0 : Int32))) (F2 : Fld Z h0 a "java/lang/String" "value" "[B" .null) (hp1 : ¬ (255 : Int32) < x1) (hp2 : ¬ (255 : Int32) < x2) (hp3 : ¬ (255 : Int32) < x3) (na : n0 ≤ a) (nba : b ≠ a) :
    ConW FrameEnd l Z [] (⟨"java/lang/String", "<init>", "([C)V"⟩ : MethodName) jdk_42_method_3_code 2 none ({ frames := 3, cells := 1, slots := 3, locals := 52 } : Room) #[(.ref a), (.ref b)] h0 (fun v h L => v = none ∧ Fr n0 L ∧ Keep h0 h [a] ∧ Exa Z h a "java/lang/String" ∧ Fld Z h a "java/lang/String" "coder" "B" (.int (0 : Int32)) ∧ ∃ d kd, Fld Z h a "java/lang/String" "value" "[B" (.ref d) ∧ Arv Z h d kd .byte (3 : Int32) [(.int ((Int32.toInt8 x1).toInt32)), (.int ((Int32.toInt8 x2).toInt32)), (.int ((Int32.toInt8 x3).toInt32))] (.int (0 : Int32)) ∧ h0.size ≤ d) := by
  refine conOf (plainFor_of_name pn_java_lang_String) ?_
  intro p e s m below mth cc s₁ X0 hx hby hml hown hnm hret hlk hZ e0
  have N0 := Fr.nil n0
  have K0 := Keep.refl h0 ([a] : List Addr)
  refine Fin.came (castTop (t := _) (by first | (simp [entryFrame, mkF, argsToLocals, Value.category]; done) | rfl) (Steps.refl _) : Steps p.tables e below (s₁.setTop (entryFrame m #[(.ref a), (.ref b)] 2)) (s₁.setTop (mkF m 0 #[vr a, vr b] []))) ?_
  refine .go (fun _ k => XS.aloadN X0.here hx rfl (hb hby d3_0) rfl rfl k) ?_
  refine .go (fun _ k => XS.aloadN X0.here hx rfl (hb hby d3_1) rfl rfl k) ?_
  refine .go (fun _ k => XS.iconst X0.here hx rfl (hb hby d3_2) k) ?_
  refine .go (fun _ k => XS.aloadN X0.here hx rfl (hb hby d3_3) rfl rfl k) ?_
  obtain ⟨cz11, B11, q11, S11, M11, H11, G11⟩ := id VB
  refine Fin.go (fun _ k => X0.arraylength hx (by rw [e0]; exact B11.1) (State.isArrayOf_alike hZ.alike B11.2.1) (g := (mkF m 4 #[vr a, vr b] [(.ref b), (.int (0 : Int32)), (.ref b), (.ref a)])) rfl rfl (hb hby d3_4) _ k) ?_
  rw [len_of S11 M11]
  show Fin _ _ _ _ _ _ _ _ s₁ (mkF m 5 #[vr a, vr b] [(.int (3 : Int32)), (.int (0 : Int32)), (.ref b), (.ref a)])
  refine .go (fun _ k => XS.aconstNull X0.here hx rfl (hb hby d3_5) k) ?_
  obtain ⟨v12, T12, L12, X12, q12, st12⟩ := callCt X0 hx hZ (y := (⟨"java/lang/String", "<init>", "([CIILjava/lang/Void;)V"⟩ : MethodName)) rfl hown (hw _ w_16) (hw _ w_17) (hw _ w_12) (hw _ w_19) (by decide) (W := 0) (rmStrV3 l Z a0 hw n0 h0 O a b kb x1 x2 x3 cs S_cs hcs VB A F1 F2 hp1 hp2 hp3 na nba) e0 (by decide) (by decide) (by decide) (by decide) (g := (mkF m 6 #[vr a, vr b] [.null, (.int (3 : Int32)), (.int (0 : Int32)), (.ref b), (.ref a)])) rfl (by rw [hml]; rfl) (a := a) (argsL := [(.ref b), (.int (0 : Int32)), (.int (3 : Int32)), .null]) (rest := []) (lenOf pd_oACIILjava_lang_Void_cV rfl) rfl (wk rfl rfl) (hb hby d3_6)
  obtain ⟨rfl, Nq12, Kq12, A12, C12, d12, kd12, F12, V12, zd12⟩ := q12
  have N12 := Fr.app N0 Nq12
  have O12 := O.keep Kq12 (allS na all0)
  have K12 := K0.trans Kq12 (allS (Or.inl (List.mem_of_getElem? (i := 0) rfl)) all0)
  refine Fin.go st12 ?_
  show Fin _ _ _ _ _ _ _ _ T12 (mkF m 9 #[vr a, vr b] [])
  exact Fin.leaveN X12 (rfl : T12.heap = T12.heap) hlk (v := none) (fun _ => rfl) (by decide) (by decide) ⟨rfl, N12, K12, A12, C12, d12, kd12, F12, V12, zd12⟩ (fun fs hr => X12.returnOut hx hret (hb hby d3_9) hr)
theorem rmStrV0 (l : Launch) (Z : State) (a0 : Array Value) (hw : HW a0 Z) (n0 : Nat) (h0 : Heap) (O : Old Z n0 h0) (a b : Addr) (kb : ClassId) (VB : Arv Z h0 b kb .char (0 : Int32) [] (.int (0 : Int32))) (A : Exa Z h0 a "java/lang/String") (F1 : Fld Z h0 a "java/lang/String" "coder" "B" (.int (0 : Int32))) (F2 : Fld Z h0 a "java/lang/String" "value" "[B" .null) (na : n0 ≤ a) :
    ConHW l Z EL [] (⟨"java/lang/String", "<init>", "([CIILjava/lang/Void;)V"⟩ : MethodName) jdk_42_method_149_code 6 none ({ frames := 1, cells := 4, slots := 8, locals := 12 } : Room) #[(.ref a), (.ref b), (.int (0 : Int32)), (.int (0 : Int32)), .null] h0 (fun v h L => v = none ∧ Fr n0 L ∧ Keep h0 h [a] ∧ Exa Z h a "java/lang/String" ∧ Fld Z h a "java/lang/String" "coder" "B" (.int (0 : Int32)) ∧ ∃ d kd, Fld Z h a "java/lang/String" "value" "[B" (.ref d) ∧ Arv Z h d kd .byte (0 : Int32) [] (.int (0 : Int32))) := by
  refine conOfH (plainFor_of_name pn_java_lang_String) ?_
  intro p e s m below mth cc s₁ X0 hx hby hml hown hnm hret hlk hZ e0 hS RR0
  have N0 := Fr.nil n0
  have hEL := elW hw
  have K0 := Keep.refl h0 ([a] : List Addr)
  have sfa := safe_of_null (EL := EL) hZ.alike A F2
  refine Fin.came (castTop (t := _) (by first | (simp [entryFrame, mkF, argsToLocals, Value.category]; done) | rfl) (Steps.refl _) : Steps p.tables e below (s₁.setTop (entryFrame m #[(.ref a), (.ref b), (.int (0 : Int32)), (.int (0 : Int32)), .null] 6)) (s₁.setTop (mkF m 0 #[vr a, vr b, vi (0 : Int32), vi (0 : Int32), .val .null, .unset] []))) ?_
  refine .go (fun _ k => XS.aloadN X0.here hx rfl (hb hby d4_0) rfl rfl k) ?_
  obtain ⟨T11, X11, e11, st11⟩ := initO X0 hx hZ hown (hw _ w_20) (hw _ w_21) (hw _ w_22) e0 (g := (mkF m 1 #[vr a, vr b, vi (0 : Int32), vi (0 : Int32), .val .null, .unset] [(.ref a)])) rfl (by rw [hml]; rfl) rfl (hb hby d4_1) (by decide) (W := 0) (wk rfl rfl) (by decide)
  refine Fin.go st11 ?_
  show Fin _ _ _ _ _ _ _ _ T11 (mkF m 4 #[vr a, vr b, vi (0 : Int32), vi (0 : Int32), .val .null, .unset] [])
  refine .go (fun _ k => XS.iloadN X11.here hx rfl (hb hby d4_4) rfl k) ?_
  refine .go (fun _ k => XS.ifNo X11.here hx rfl (hb hby d4_5) rfl (XT.i0_ne_f (by decide)) k) ?_
  show Fin _ _ _ _ _ _ _ _ T11 (mkF m 8 #[vr a, vr b, vi (0 : Int32), vi (0 : Int32), .val .null, .unset] [])
  refine .go (fun _ k => XS.aloadN X11.here hx rfl (hb hby d4_8) rfl rfl k) ?_
  show Fin _ _ _ _ _ _ _ _ T11 (mkF m 9 #[vr a, vr b, vi (0 : Int32), vi (0 : Int32), .val .null, .unset] [(.ref a)])
  obtain ⟨a12, T12, h12, k12, b12, kb12, X12, e12, E12, hS12, hj12, hZ12, hown12, A12, C12, F12, V12, l112, l212, RC12, lt12, ns12, st12⟩ := ldcCH X11 hx hZ hown (hw _ w_39) (strW hw) e11 hS (Nat.zero_le _) hEL (by decide) RR0.1 (vs := []) (z := (0 : Int32)) (by decide +kernel) (by decide) (by decide) (g := (mkF m 9 #[vr a, vr b, vi (0 : Int32), vi (0 : Int32), .val .null, .unset] [(.ref a)])) rfl (hb hby d4_9) (n := 0) (by decide) (by decide) (by decide) (by decide)
  refine Fin.go st12 ?_
  have O12 := O.ext E12
  have K12 := K0.ext E12
  have RR12 := RR0.trans RC12
  show Fin _ _ _ _ _ _ _ _ T12 (mkF m 11 #[vr a, vr b, vi (0 : Int32), vi (0 : Int32), .val .null, .unset] [(.ref a12), (.ref a)])
  obtain ⟨T13, X13, e13, st13⟩ := getF X12 hx hZ12 hown12 (host := "") (Or.inl (hw _ w_37)) Via.refl e12 F12 (g := (mkF m 11 #[vr a, vr b, vi (0 : Int32), vi (0 : Int32), .val .null, .unset] [(.ref a12), (.ref a)])) rfl rfl (hb hby d4_11)
  refine Fin.go st13 ?_
  show Fin _ _ _ _ _ _ _ _ T13 (mkF m 14 #[vr a, vr b, vi (0 : Int32), vi (0 : Int32), .val .null, .unset] [(.ref b12), (.ref a)])
  obtain ⟨T14, h14, X14, e14, W14, st14⟩ := putF X13 hx hZ12 hown12 (host := "") (Or.inl (hw _ w_37)) Via.refl e13 (F2.ext E12) (A.ext E12) (Or.inr ⟨(hw _ w_38), rfl, hnm⟩) (hw _ w_11) (ty := (.array .byte)) (by decide) rfl rfl (g := (mkF m 14 #[vr a, vr b, vi (0 : Int32), vi (0 : Int32), .val .null, .unset] [(.ref b12), (.ref a)])) rfl rfl (hb hby d4_14)
  refine Fin.go st14 ?_
  have N14 := Fr.snoc X14 N0 na
  have O14 := O12.wr W14 na
  have K14 := K12.wr W14 (Or.inl (List.mem_of_getElem? (i := 0) rfl))
  have hk14 := Nat.le_trans hj12 (Keep.of_wr W14).1
  have RR14 := RR12.trans (CHr.wr W14 (CHr.safe RC12 A.lt sfa) RR12.1)
  have F14_a_coder := ((F1.ext E12).other W14 (Or.inr (slot_ne (Or.inr (hw _ w_36)) (Or.inr (hw _ w_38)) (by decide) (t := .byte) (t' := (.array .byte)) (by decide) (by decide))))
  have sf14_a := (Safe.wr W14 (CHr.safe RC12 A.lt sfa) RR12.1 (CHr.safe RC12 A.lt sfa))
  have F14_a12_coder := (C12.other W14 (Or.inl (Ne.symm (ns12 _ (CHr.safe RC12 A.lt sfa)).1)))
  have F14_a12_value := (F12.other W14 (Or.inl (Ne.symm (ns12 _ (CHr.safe RC12 A.lt sfa)).1)))
  have V14_b12 := (V12.other W14 (Ne.symm (ns12 _ (CHr.safe RC12 A.lt sfa)).2))
  show Fin _ _ _ _ _ _ _ _ T14 (mkF m 17 #[vr a, vr b, vi (0 : Int32), vi (0 : Int32), .val .null, .unset] [])
  refine .go (fun _ k => XS.aloadN X14.here hx rfl (hb hby d4_17) rfl rfl k) ?_
  show Fin _ _ _ _ _ _ _ _ T14 (mkF m 18 #[vr a, vr b, vi (0 : Int32), vi (0 : Int32), .val .null, .unset] [(.ref a)])
  obtain ⟨a15, T15, h15, k15, b15, kb15, X15, e15, E15, hS15, hj15, hZ15, hown15, A15, C15, F15, V15, l115, l215, RC15, lt15, ns15, st15⟩ := ldcCH X14 hx hZ12 hown12 (hw _ w_39) (strW hw) e14 hS12 hk14 hEL (by decide) RR14.1 (vs := []) (z := (0 : Int32)) (by decide +kernel) (by decide) (by decide) (g := (mkF m 18 #[vr a, vr b, vi (0 : Int32), vi (0 : Int32), .val .null, .unset] [(.ref a)])) rfl (hb hby d4_18) (n := 0) (by decide) (by decide) (by decide) (by decide)
  refine Fin.go st15 ?_
  have O15 := O14.ext E15
  have K15 := K14.ext E15
  have RR15 := RR14.trans RC15
  show Fin _ _ _ _ _ _ _ _ T15 (mkF m 20 #[vr a, vr b, vi (0 : Int32), vi (0 : Int32), .val .null, .unset] [(.ref a15), (.ref a)])
  obtain ⟨T16, X16, e16, st16⟩ := getF X15 hx hZ15 hown15 (host := "") (Or.inl (hw _ w_35)) Via.refl e15 C15 (g := (mkF m 20 #[vr a, vr b, vi (0 : Int32), vi (0 : Int32), .val .null, .unset] [(.ref a15), (.ref a)])) rfl rfl (hb hby d4_20)
  refine Fin.go st16 ?_
  show Fin _ _ _ _ _ _ _ _ T16 (mkF m 23 #[vr a, vr b, vi (0 : Int32), vi (0 : Int32), .val .null, .unset] [(.int (0 : Int32)), (.ref a)])
  obtain ⟨T17, h17, X17, e17, W17, st17⟩ := putF X16 hx hZ15 hown15 (host := "") (Or.inl (hw _ w_35)) Via.refl e16 (F14_a_coder.ext E15) (((A.ext E12).wr W14).ext E15) (Or.inr ⟨(hw _ w_36), rfl, hnm⟩) (hw _ w_11) (ty := .byte) (by decide) rfl rfl (g := (mkF m 23 #[vr a, vr b, vi (0 : Int32), vi (0 : Int32), .val .null, .unset] [(.int (0 : Int32)), (.ref a)])) rfl rfl (hb hby d4_23)
  refine Fin.go st17 ?_
  have N17 := Fr.snoc X17 N14 na
  have O17 := O15.wr W17 na
  have K17 := K15.wr W17 (Or.inl (List.mem_of_getElem? (i := 0) rfl))
  have hk17 := Nat.le_trans hj15 (Keep.of_wr W17).1
  have RR17 := RR15.trans (CHr.wr W17 (CHr.safe RC15 ((A.ext E12).wr W14).lt sf14_a) RR15.1)
  have F17_a_value := ((((F2.ext E12).same W14).ext E15).other W17 (Or.inr (slot_ne (Or.inr (hw _ w_38)) (Or.inr (hw _ w_36)) (by decide) (t := (.array .byte)) (t' := .byte) (by decide) (by decide))))
  have sf17_a := (Safe.wr W17 (CHr.safe RC15 ((A.ext E12).wr W14).lt sf14_a) RR15.1 (CHr.safe RC15 ((A.ext E12).wr W14).lt sf14_a))
  have F17_a12_coder := ((F14_a12_coder.ext E15).other W17 (Or.inl (Ne.symm (ns12 _ (CHr.safe RC12 A.lt sfa)).1)))
  have F17_a12_value := ((F14_a12_value.ext E15).other W17 (Or.inl (Ne.symm (ns12 _ (CHr.safe RC12 A.lt sfa)).1)))
  have V17_b12 := ((V14_b12.ext E15).other W17 (Ne.symm (ns12 _ (CHr.safe RC12 A.lt sfa)).2))
  have F17_a15_coder := (C15.other W17 (Or.inl (Ne.symm (ns15 _ (CHr.safe RC15 ((A.ext E12).wr W14).lt sf14_a)).1)))
  have F17_a15_value := (F15.other W17 (Or.inl (Ne.symm (ns15 _ (CHr.safe RC15 ((A.ext E12).wr W14).lt sf14_a)).1)))
  have V17_b15 := (V15.other W17 (Ne.symm (ns15 _ (CHr.safe RC15 ((A.ext E12).wr W14).lt sf14_a)).2))
  show Fin _ _ _ _ _ _ _ _ T17 (mkF m 26 #[vr a, vr b, vi (0 : Int32), vi (0 : Int32), .val .null, .unset] [])
  exact Fin.leaveH X17 hS15 hk17 hZ15 hEL e17 RR17 hlk (v := none) (fun _ => rfl) (by decide) (by decide) ⟨rfl, N17, K17, ((((A.ext E12).wr W14).ext E15).wr W17), ((F14_a_coder.ext E15).same W17), b12, kb12, F17_a_value, V17_b12⟩ (fun fs hr => X17.returnOut hx hret (hb hby d4_26) hr)
theorem rmStr0 (l : Launch) (Z : State) (a0 : Array Value) (hw : HW a0 Z) (n0 : Nat) (h0 : Heap) (O : Old Z n0 h0) (a b : Addr) (kb : ClassId) (VB : Arv Z h0 b kb .char (0 : Int32) [] (.int (0 : Int32))) (A : Exa Z h0 a "java/lang/String") (F1 : Fld Z h0 a "java/lang/String" "coder" "B" (.int (0 : Int32))) (F2 : Fld Z h0 a "java/lang/String" "value" "[B" .null) (na : n0 ≤ a) :
    ConHW l Z EL [] (⟨"java/lang/String", "<init>", "([C)V"⟩ : MethodName) jdk_42_method_3_code 2 none ({ frames := 2, cells := 4, slots := 8, locals := 29 } : Room) #[(.ref a), (.ref b)] h0 (fun v h L => v = none ∧ Fr n0 L ∧ Keep h0 h [a] ∧ Exa Z h a "java/lang/String" ∧ Fld Z h a "java/lang/String" "coder" "B" (.int (0 : Int32)) ∧ ∃ d kd, Fld Z h a "java/lang/String" "value" "[B" (.ref d) ∧ Arv Z h d kd .byte (0 : Int32) [] (.int (0 : Int32))) := by
  refine conOfH (plainFor_of_name pn_java_lang_String) ?_
  intro p e s m below mth cc s₁ X0 hx hby hml hown hnm hret hlk hZ e0 hS RR0
  have N0 := Fr.nil n0
  have hEL := elW hw
  have K0 := Keep.refl h0 ([a] : List Addr)
  have sfa := safe_of_null (EL := EL) hZ.alike A F2
  refine Fin.came (castTop (t := _) (by first | (simp [entryFrame, mkF, argsToLocals, Value.category]; done) | rfl) (Steps.refl _) : Steps p.tables e below (s₁.setTop (entryFrame m #[(.ref a), (.ref b)] 2)) (s₁.setTop (mkF m 0 #[vr a, vr b] []))) ?_
  refine .go (fun _ k => XS.aloadN X0.here hx rfl (hb hby d3_0) rfl rfl k) ?_
  refine .go (fun _ k => XS.aloadN X0.here hx rfl (hb hby d3_1) rfl rfl k) ?_
  refine .go (fun _ k => XS.iconst X0.here hx rfl (hb hby d3_2) k) ?_
  refine .go (fun _ k => XS.aloadN X0.here hx rfl (hb hby d3_3) rfl rfl k) ?_
  obtain ⟨cz11, B11, q11, S11, M11, H11, G11⟩ := id VB
  refine Fin.go (fun _ k => X0.arraylength hx (by rw [e0]; exact B11.1) (State.isArrayOf_alike hZ.alike B11.2.1) (g := (mkF m 4 #[vr a, vr b] [(.ref b), (.int (0 : Int32)), (.ref b), (.ref a)])) rfl rfl (hb hby d3_4) _ k) ?_
  rw [len_of S11 M11]
  show Fin _ _ _ _ _ _ _ _ s₁ (mkF m 5 #[vr a, vr b] [(.int (0 : Int32)), (.int (0 : Int32)), (.ref b), (.ref a)])
  refine .go (fun _ k => XS.aconstNull X0.here hx rfl (hb hby d3_5) k) ?_
  obtain ⟨v12, T12, L12, X12, hS12, hZ12, hown12, RC12, q12, st12⟩ := callCtH X0 hx hZ (y := (⟨"java/lang/String", "<init>", "([CIILjava/lang/Void;)V"⟩ : MethodName)) rfl hown (hw _ w_16) (hw _ w_17) (hw _ w_12) (hw _ w_19) (by decide) (W := 0) (rmStrV0 l Z a0 hw n0 h0 O a b kb VB A F1 F2 na) e0 hS (Nat.zero_le _) hEL RR0.1 (by decide) (by decide) (by decide) (by decide) (g := (mkF m 6 #[vr a, vr b] [.null, (.int (0 : Int32)), (.int (0 : Int32)), (.ref b), (.ref a)])) rfl (by rw [hml]; rfl) (a := a) (argsL := [(.ref b), (.int (0 : Int32)), (.int (0 : Int32)), .null]) (rest := []) (lenOf pd_oACIILjava_lang_Void_cV rfl) rfl (wk rfl rfl) (hb hby d3_6)
  obtain ⟨rfl, Nq12, Kq12, A12, C12, d12, kd12, F12, V12⟩ := q12
  have N12 := Fr.app N0 Nq12
  have O12 := O.keep Kq12 (allS na all0)
  have K12 := K0.trans Kq12 (allS (Or.inl (List.mem_of_getElem? (i := 0) rfl)) all0)
  have RR12 := RR0.trans RC12
  refine Fin.go st12 ?_
  show Fin _ _ _ _ _ _ _ _ T12 (mkF m 9 #[vr a, vr b] [])
  exact Fin.leaveH X12 hS12 (Nat.le_refl T12.heap.size) hZ12 hEL (rfl : T12.heap = T12.heap) RR12 hlk (v := none) (fun _ => rfl) (by decide) (by decide) ⟨rfl, N12, K12, A12, C12, d12, kd12, F12, V12⟩ (fun fs hr => X12.returnOut hx hret (hb hby d3_9) hr)
theorem rmIC (l : Launch) (Z : State) (a0 : Array Value) (hw : HW a0 Z) (n0 : Nat) (h0 : Heap) (O : Old Z n0 h0) (x y : Int32) :
    ConW FrameEnd l Z [] (⟨"java/lang/Integer", "compare", "(II)I"⟩ : MethodName) jdk_33_method_40_code 2 (some .int) ({ frames := 0, cells := 0, slots := 0, locals := 0 } : Room) #[(.int x), (.int y)] h0 (Pure h0 (some (.int (icmp x y)))) := by
  refine conOf (plainFor_of_name pn_java_lang_Integer) ?_
  intro p e s m below mth cc s₁ X0 hx hby hml hown hnm hret hlk hZ e0
  have N0 := Fr.nil n0
  refine Fin.came (castTop (t := _) (by first | (simp [entryFrame, mkF, argsToLocals, Value.category]; done) | rfl) (Steps.refl _) : Steps p.tables e below (s₁.setTop (entryFrame m #[(.int x), (.int y)] 2)) (s₁.setTop (mkF m 0 #[vi x, vi y] []))) ?_
  refine .go (fun _ k => XS.iloadN X0.here hx rfl (hb hby d12_0) rfl k) ?_
  refine .go (fun _ k => XS.iloadN X0.here hx rfl (hb hby d12_1) rfl k) ?_
  by_cases c2 : x < y
  · refine .go (fun _ k => XS.icmpNo X0.here hx rfl (hb hby d12_2) rfl (XT.ii_ge_f c2) k) ?_
    show Fin _ _ _ _ _ _ _ _ s₁ (mkF m 5 #[vi x, vi y] [])
    refine .go (fun _ k => XS.iconst X0.here hx rfl (hb hby d12_5) k) ?_
    refine .go (fun _ k => XS.goto X0.here hx rfl (pc0 := 6) (pc' := 19) rfl (hb hby d12_6) (by decide) (by decide) k) ?_
    exact Fin.leaveN X0 e0 hlk (v := some (.int (-1 : Int32))) (nvS hret) (by decide) (by decide) ⟨by simp [icmp, c2], rfl, rfl⟩ (fun fs hr => retI X0 hx hret (hb hby d12_19) hr)
  · refine .go (fun _ k => XS.icmpYes X0.here hx rfl (pc0 := 2) (pc' := 9) rfl (hb hby d12_2) rfl (XT.ii_ge_t c2) (by decide) (by decide) k) ?_
    show Fin _ _ _ _ _ _ _ _ s₁ (mkF m 9 #[vi x, vi y] [])
    refine .go (fun _ k => XS.iloadN X0.here hx rfl (hb hby d12_9) rfl k) ?_
    refine .go (fun _ k => XS.iloadN X0.here hx rfl (hb hby d12_10) rfl k) ?_
    by_cases c11 : x = y
    · refine .go (fun _ k => XS.icmpNo X0.here hx rfl (hb hby d12_11) rfl (XT.ii_ne_f c11) k) ?_
      show Fin _ _ _ _ _ _ _ _ s₁ (mkF m 14 #[vi x, vi y] [])
      refine .go (fun _ k => XS.iconst X0.here hx rfl (hb hby d12_14) k) ?_
      refine .go (fun _ k => XS.goto X0.here hx rfl (pc0 := 15) (pc' := 19) rfl (hb hby d12_15) (by decide) (by decide) k) ?_
      exact Fin.leaveN X0 e0 hlk (v := some (.int (0 : Int32))) (nvS hret) (by decide) (by decide) ⟨by simp [icmp, c2, c11], rfl, rfl⟩ (fun fs hr => retI X0 hx hret (hb hby d12_19) hr)
    · refine .go (fun _ k => XS.icmpYes X0.here hx rfl (pc0 := 11) (pc' := 18) rfl (hb hby d12_11) rfl (XT.ii_ne_t c11) (by decide) (by decide) k) ?_
      show Fin _ _ _ _ _ _ _ _ s₁ (mkF m 18 #[vi x, vi y] [])
      refine .go (fun _ k => XS.iconst X0.here hx rfl (hb hby d12_18) k) ?_
      exact Fin.leaveN X0 e0 hlk (v := some (.int (1 : Int32))) (nvS hret) (by decide) (by decide) ⟨by simp [icmp, c2, c11], rfl, rfl⟩ (fun fs hr => retI X0 hx hret (hb hby d12_19) hr)
theorem rmCC (l : Launch) (Z : State) (a0 : Array Value) (hw : HW a0 Z) (n0 : Nat) (h0 : Heap) (O : Old Z n0 h0) (x : Int32) :
    ConW FrameEnd l Z [] (⟨"java/lang/Character", "charCount", "(I)I"⟩ : MethodName) jdk_89_method_18_code 1 (some .int) ({ frames := 0, cells := 0, slots := 0, locals := 0 } : Room) #[(.int x)] h0 (Pure h0 (some (.int (ccf x)))) := by
  refine conOf (plainFor_of_name pn_java_lang_Character) ?_
  intro p e s m below mth cc s₁ X0 hx hby hml hown hnm hret hlk hZ e0
  have N0 := Fr.nil n0
  refine Fin.came (castTop (t := _) (by first | (simp [entryFrame, mkF, argsToLocals, Value.category]; done) | rfl) (Steps.refl _) : Steps p.tables e below (s₁.setTop (entryFrame m #[(.int x)] 1)) (s₁.setTop (mkF m 0 #[vi x] []))) ?_
  refine .go (fun _ k => XS.iloadN X0.here hx rfl (hb hby d34_0) rfl k) ?_
  refine .go (fun _ k => X0.ldcI hx hown (mvT hZ (hw _ w_142)) rfl (hb hby d34_1) k) ?_
  by_cases c3 : x < (65536 : Int32)
  · refine .go (fun _ k => XS.icmpYes X0.here hx rfl (pc0 := 3) (pc' := 10) rfl (hb hby d34_3) rfl (XT.ii_lt_t c3) (by decide) (by decide) k) ?_
    show Fin _ _ _ _ _ _ _ _ s₁ (mkF m 10 #[vi x] [])
    refine .go (fun _ k => XS.iconst X0.here hx rfl (hb hby d34_10) k) ?_
    exact Fin.leaveN X0 e0 hlk (v := some (.int (1 : Int32))) (nvS hret) (by decide) (by decide) ⟨by simp [ccf, c3], rfl, rfl⟩ (fun fs hr => retI X0 hx hret (hb hby d34_11) hr)
  · refine .go (fun _ k => XS.icmpNo X0.here hx rfl (hb hby d34_3) rfl (XT.ii_lt_f c3) k) ?_
    show Fin _ _ _ _ _ _ _ _ s₁ (mkF m 6 #[vi x] [])
    refine .go (fun _ k => XS.iconst X0.here hx rfl (hb hby d34_6) k) ?_
    refine .go (fun _ k => XS.goto X0.here hx rfl (pc0 := 7) (pc' := 11) rfl (hb hby d34_7) (by decide) (by decide) k) ?_
    exact Fin.leaveN X0 e0 hlk (v := some (.int (2 : Int32))) (nvS hret) (by decide) (by decide) ⟨by simp [ccf, c3], rfl, rfl⟩ (fun fs hr => retI X0 hx hret (hb hby d34_11) hr)
theorem rmCmp (l : Launch) (Z : State) (a0 : Array Value) (hw : HW a0 Z) (n0 : Nat) (h0 : Heap) (O : Old Z n0 h0) (a b : Addr) (n x1 x2 x3 nb y1 y2 y3 : Int32) (B1 B2 : Nat) (FA : TS Z h0 a n x1 x2 x3 B1) (FB : TS Z h0 b nb y1 y2 y3 B2) (hx1 : ChI x1) (hx2 : ChI x2) (hx3 : ChI x3) (hy1 : ChI y1) (hy2 : ChI y2) (hy3 : ChI y3) (hn : 0 ≤ n.toInt ∧ n.toInt ≤ 3) (cs : Int32) (S_cs : Sta Z Z.heap "java/lang/String" "COMPACT_STRINGS" "Z" (.int cs)) (hcs : ¬ cs = 0) (S_as : SAs Z) (S_hb : SHb Z) (S_lb : SLb Z) (fm : Value) (hfm : fm.isRef = true) (S_fm : SFm Z fm) :
    ConW FrameEnd l Z [] (⟨"com/example/muster/muster/campaign/TextOrder", "compare", "(Ljava/lang/String;Ljava/lang/String;)I"⟩ : MethodName) prog_9_method_2_code 6 (some .int) ({ frames := 4, cells := 0, slots := 0, locals := 58 } : Room) #[(.ref a), (.ref b)] h0 (Pure h0 (some (.int (H0 n x1 x2 x3 nb y1 y2 y3)))) := by
  refine conOf (plainFor_of_name pn_com_example_muster_muster_campaign_TextOrder) ?_
  intro p e s m below mth cc s₁ X0 hx hby hml hown hnm hret hlk hZ e0
  have N0 := Fr.nil n0
  refine Fin.came (castTop (t := _) (by first | (simp [entryFrame, mkF, argsToLocals, Value.category]; done) | rfl) (Steps.refl _) : Steps p.tables e below (s₁.setTop (entryFrame m #[(.ref a), (.ref b)] 6)) (s₁.setTop (mkF m 0 #[vr a, vr b, .unset, .unset, .unset, .unset] []))) ?_
  refine .go (fun _ k => XS.iconst X0.here hx rfl (hb hby d9_0) k) ?_
  refine .go (fun _ k => XS.istoreN X0.here hx rfl (hb hby d9_1) rfl (l' := #[vr a, vr b, vi (0 : Int32), .unset, .unset, .unset]) rfl k) ?_
  refine .go (fun _ k => XS.iconst X0.here hx rfl (hb hby d9_2) k) ?_
  refine .go (fun _ k => XS.istoreN X0.here hx rfl (hb hby d9_3) rfl (l' := #[vr a, vr b, vi (0 : Int32), vi (0 : Int32), .unset, .unset]) rfl k) ?_
  show Fin _ _ _ _ _ _ _ _ s₁ (mkF m 4 #[vr a, vr b, vi (0 : Int32), vi (0 : Int32), .unset, .unset] [])
  have tailX : ∀ (Tt11 : State) (Xt11 : Stand p l e ({ frames := 4, cells := 0, slots := 0, locals := 58 } : Room) s m #[(.ref a), (.ref b)] below mth cc Tt11 [] 0 0) (et11 : Tt11.heap = h0) (k : Int32) (u4 u5 : Slot) (hR : H0 n x1 x2 x3 nb y1 y2 y3 = icmp (n - k) (nb - k)), Fin FrameEnd p e below s (Pure h0 (some (.int (H0 n x1 x2 x3 nb y1 y2 y3)))) 0 0 Tt11 (mkF m 68 #[vr a, vr b, vi k, vi k, u4, u5] []) := by
    intro Tt11 Xt11 et11 k u4 u5 hR
    refine .go (fun _ k => XS.aloadN Xt11.here hx rfl (hb hby d9_68) rfl rfl k) ?_
    obtain ⟨v12, T12, L12, X12, q12, st12⟩ := callVt Xt11 hx hZ (y := (⟨"java/lang/String", "length", "()I"⟩ : MethodName)) hown (hw _ w_46) (hw _ w_47) (hw _ w_49) (hw _ w_48) (hw _ w_12) (hw _ w_50) (by decide) (W := 0) (rmLen l Z a0 hw n0 h0 O a n x1 x2 x3 B1 FA cs S_cs hcs) et11 FA.exa (by decide) (by decide) (by decide) (by decide) (g := (mkF m 69 #[vr a, vr b, vi k, vi k, u4, u5] [(.ref a)])) rfl (by rw [hml]; rfl) (argsL := []) (rest := []) (lenOf pd_ocI rfl) rfl (wk rfl rfl) (hb hby d9_69)
    obtain ⟨rfl, e12, rfl⟩ := q12
    have N12 := Fr.app N0 (Fr.nil n0)
    refine Fin.go st12 ?_
    show Fin _ _ _ _ _ _ _ _ T12 (mkF m 72 #[vr a, vr b, vi k, vi k, u4, u5] [(.int n)])
    refine .go (fun _ k => XS.iloadN X12.here hx rfl (hb hby d9_72) rfl k) ?_
    refine .go (fun _ k => XS.isub X12.here hx rfl (hb hby d9_73) rfl k) ?_
    refine .go (fun _ k => XS.aloadN X12.here hx rfl (hb hby d9_74) rfl rfl k) ?_
    obtain ⟨v13, T13, L13, X13, q13, st13⟩ := callVt X12 hx hZ (y := (⟨"java/lang/String", "length", "()I"⟩ : MethodName)) hown (hw _ w_46) (hw _ w_47) (hw _ w_49) (hw _ w_48) (hw _ w_12) (hw _ w_50) (by decide) (W := 1) (rmLen l Z a0 hw n0 h0 O b nb y1 y2 y3 B2 FB cs S_cs hcs) e12 FB.exa (by decide) (by decide) (by decide) (by decide) (g := (mkF m 75 #[vr a, vr b, vi k, vi k, u4, u5] [(.ref b), (.int (n - k))])) rfl (by rw [hml]; rfl) (argsL := []) (rest := [(.int (n - k))]) (lenOf pd_ocI rfl) rfl (wk rfl rfl) (hb hby d9_75)
    obtain ⟨rfl, e13, rfl⟩ := q13
    have N13 := Fr.app N12 (Fr.nil n0)
    refine Fin.go st13 ?_
    show Fin _ _ _ _ _ _ _ _ T13 (mkF m 78 #[vr a, vr b, vi k, vi k, u4, u5] [(.int nb), (.int (n - k))])
    refine .go (fun _ k => XS.iloadN X13.here hx rfl (hb hby d9_78) rfl k) ?_
    refine .go (fun _ k => XS.isub X13.here hx rfl (hb hby d9_79) rfl k) ?_
    obtain ⟨v14, T14, L14, X14, q14, st14⟩ := callSt X13 hx hZ hown (hw _ w_56) (hw _ w_57) (hw _ w_58) (hw _ w_59) (by decide) (W := 0) (rmIC l Z a0 hw n0 h0 O (n - k) (nb - k)) e13 (by decide) (by decide) (by decide) (by decide) (g := (mkF m 80 #[vr a, vr b, vi k, vi k, u4, u5] [(.int (nb - k)), (.int (n - k))])) rfl (by rw [hml]; rfl) (argsL := [(.int (n - k)), (.int (nb - k))]) (rest := []) (lenOf pd_oIIcI rfl) rfl (wk rfl rfl) (hb hby d9_80)
    obtain ⟨rfl, e14, rfl⟩ := q14
    have N14 := Fr.app N13 (Fr.nil n0)
    refine Fin.go st14 ?_
    show Fin _ _ _ _ _ _ _ _ T14 (mkF m 83 #[vr a, vr b, vi k, vi k, u4, u5] [(.int (icmp (n - k) (nb - k)))])
    exact Fin.leaveN X14 e14 hlk (v := some (.int (icmp (n - k) (nb - k)))) (nvS hret) (by decide) (by decide) ⟨by rw [hR], rfl, rfl⟩ (fun fs hr => retI X14 hx hret (hb hby d9_83) hr)
  have tailE : ∀ (Tt15 : State) (Xt15 : Stand p l e ({ frames := 4, cells := 0, slots := 0, locals := 58 } : Room) s m #[(.ref a), (.ref b)] below mth cc Tt15 [] 0 0) (et15 : Tt15.heap = h0) (k : Int32) (u4 u5 : Slot) (hk : ¬ k < n) (hR : H0 n x1 x2 x3 nb y1 y2 y3 = icmp (n - k) (nb - k)), Fin FrameEnd p e below s (Pure h0 (some (.int (H0 n x1 x2 x3 nb y1 y2 y3)))) 0 0 Tt15 (mkF m 4 #[vr a, vr b, vi k, vi k, u4, u5] []) := by
    intro Tt15 Xt15 et15 k u4 u5 hk hR
    refine .go (fun _ k => XS.iloadN Xt15.here hx rfl (hb hby d9_4) rfl k) ?_
    refine .go (fun _ k => XS.aloadN Xt15.here hx rfl (hb hby d9_5) rfl rfl k) ?_
    obtain ⟨v16, T16, L16, X16, q16, st16⟩ := callVt Xt15 hx hZ (y := (⟨"java/lang/String", "length", "()I"⟩ : MethodName)) hown (hw _ w_46) (hw _ w_47) (hw _ w_49) (hw _ w_48) (hw _ w_12) (hw _ w_50) (by decide) (W := 1) (rmLen l Z a0 hw n0 h0 O a n x1 x2 x3 B1 FA cs S_cs hcs) et15 FA.exa (by decide) (by decide) (by decide) (by decide) (g := (mkF m 6 #[vr a, vr b, vi k, vi k, u4, u5] [(.ref a), (.int k)])) rfl (by rw [hml]; rfl) (argsL := []) (rest := [(.int k)]) (lenOf pd_ocI rfl) rfl (wk rfl rfl) (hb hby d9_6)
    obtain ⟨rfl, e16, rfl⟩ := q16
    have N16 := Fr.app N0 (Fr.nil n0)
    refine Fin.go st16 ?_
    show Fin _ _ _ _ _ _ _ _ T16 (mkF m 9 #[vr a, vr b, vi k, vi k, u4, u5] [(.int n), (.int k)])
    refine .go (fun _ k => XS.icmpYes X16.here hx rfl (pc0 := 9) (pc' := 68) rfl (hb hby d9_9) rfl (XT.ii_ge_t hk) (by decide) (by decide) k) ?_
    show Fin _ _ _ _ _ _ _ _ T16 (mkF m 68 #[vr a, vr b, vi k, vi k, u4, u5] [])
    exact tailX T16 X16 e16 k u4 u5 hR
  have tail2 : ∀ (Tt17 : State) (Xt17 : Stand p l e ({ frames := 4, cells := 0, slots := 0, locals := 58 } : Room) s m #[(.ref a), (.ref b)] below mth cc Tt17 [] 0 0) (et17 : Tt17.heap = h0) (u4 u5 : Int32) (hR2 : H0 n x1 x2 x3 nb y1 y2 y3 = H2 n x3 nb y3), Fin FrameEnd p e below s (Pure h0 (some (.int (H0 n x1 x2 x3 nb y1 y2 y3)))) 0 0 Tt17 (mkF m 4 #[vr a, vr b, vi (2 : Int32), vi (2 : Int32), vi u4, vi u5] []) := by
    intro Tt17 Xt17 et17 u4 u5 hR2
    refine .go (fun _ k => XS.iloadN Xt17.here hx rfl (hb hby d9_4) rfl k) ?_
    refine .go (fun _ k => XS.aloadN Xt17.here hx rfl (hb hby d9_5) rfl rfl k) ?_
    obtain ⟨v18, T18, L18, X18, q18, st18⟩ := callVt Xt17 hx hZ (y := (⟨"java/lang/String", "length", "()I"⟩ : MethodName)) hown (hw _ w_46) (hw _ w_47) (hw _ w_49) (hw _ w_48) (hw _ w_12) (hw _ w_50) (by decide) (W := 1) (rmLen l Z a0 hw n0 h0 O a n x1 x2 x3 B1 FA cs S_cs hcs) et17 FA.exa (by decide) (by decide) (by decide) (by decide) (g := (mkF m 6 #[vr a, vr b, vi (2 : Int32), vi (2 : Int32), vi u4, vi u5] [(.ref a), (.int (2 : Int32))])) rfl (by rw [hml]; rfl) (argsL := []) (rest := [(.int (2 : Int32))]) (lenOf pd_ocI rfl) rfl (wk rfl rfl) (hb hby d9_6)
    obtain ⟨rfl, e18, rfl⟩ := q18
    have N18 := Fr.app N0 (Fr.nil n0)
    refine Fin.go st18 ?_
    show Fin _ _ _ _ _ _ _ _ T18 (mkF m 9 #[vr a, vr b, vi (2 : Int32), vi (2 : Int32), vi u4, vi u5] [(.int n), (.int (2 : Int32))])
    by_cases c9 : (2 : Int32) < n
    · refine .go (fun _ k => XS.icmpNo X18.here hx rfl (hb hby d9_9) rfl (XT.ii_ge_f c9) k) ?_
      show Fin _ _ _ _ _ _ _ _ T18 (mkF m 12 #[vr a, vr b, vi (2 : Int32), vi (2 : Int32), vi u4, vi u5] [])
      refine .go (fun _ k => XS.iloadN X18.here hx rfl (hb hby d9_12) rfl k) ?_
      refine .go (fun _ k => XS.aloadN X18.here hx rfl (hb hby d9_13) rfl rfl k) ?_
      obtain ⟨v19, T19, L19, X19, q19, st19⟩ := callVt X18 hx hZ (y := (⟨"java/lang/String", "length", "()I"⟩ : MethodName)) hown (hw _ w_46) (hw _ w_47) (hw _ w_49) (hw _ w_48) (hw _ w_12) (hw _ w_50) (by decide) (W := 1) (rmLen l Z a0 hw n0 h0 O b nb y1 y2 y3 B2 FB cs S_cs hcs) e18 FB.exa (by decide) (by decide) (by decide) (by decide) (g := (mkF m 14 #[vr a, vr b, vi (2 : Int32), vi (2 : Int32), vi u4, vi u5] [(.ref b), (.int (2 : Int32))])) rfl (by rw [hml]; rfl) (argsL := []) (rest := [(.int (2 : Int32))]) (lenOf pd_ocI rfl) rfl (wk rfl rfl) (hb hby d9_14)
      obtain ⟨rfl, e19, rfl⟩ := q19
      have N19 := Fr.app N18 (Fr.nil n0)
      refine Fin.go st19 ?_
      show Fin _ _ _ _ _ _ _ _ T19 (mkF m 17 #[vr a, vr b, vi (2 : Int32), vi (2 : Int32), vi u4, vi u5] [(.int nb), (.int (2 : Int32))])
      by_cases c17 : (2 : Int32) < nb
      · refine .go (fun _ k => XS.icmpNo X19.here hx rfl (hb hby d9_17) rfl (XT.ii_ge_f c17) k) ?_
        show Fin _ _ _ _ _ _ _ _ T19 (mkF m 20 #[vr a, vr b, vi (2 : Int32), vi (2 : Int32), vi u4, vi u5] [])
        refine .go (fun _ k => XS.aloadN X19.here hx rfl (hb hby d9_20) rfl rfl k) ?_
        refine .go (fun _ k => XS.iloadN X19.here hx rfl (hb hby d9_21) rfl k) ?_
        obtain ⟨v20, T20, L20, X20, q20, st20⟩ := callVt X19 hx hZ (y := (⟨"java/lang/String", "codePointAt", "(I)I"⟩ : MethodName)) hown (hw _ w_101) (hw _ w_102) (hw _ w_104) (hw _ w_103) (hw _ w_12) (hw _ w_105) (by decide) (W := 0) (rmCP2 l Z a0 hw n0 h0 O a n x1 x2 x3 B1 FA cs S_cs hcs hx1 hx2 hx3 c9 S_as S_hb S_lb fm hfm S_fm) e19 FA.exa (by decide) (by decide) (by decide) (by decide) (g := (mkF m 22 #[vr a, vr b, vi (2 : Int32), vi (2 : Int32), vi u4, vi u5] [(.int (2 : Int32)), (.ref a)])) rfl (by rw [hml]; rfl) (argsL := [(.int (2 : Int32))]) (rest := []) (lenOf pd_oIcI rfl) rfl (wk rfl rfl) (hb hby d9_22)
        obtain ⟨rfl, e20, rfl⟩ := q20
        have N20 := Fr.app N19 (Fr.nil n0)
        refine Fin.go st20 ?_
        show Fin _ _ _ _ _ _ _ _ T20 (mkF m 25 #[vr a, vr b, vi (2 : Int32), vi (2 : Int32), vi u4, vi u5] [(.int (cpN (3 : Int32) n x3 x3))])
        refine .go (fun _ k => XS.istore X20.here hx rfl (hb hby d9_25) rfl (l' := #[vr a, vr b, vi (2 : Int32), vi (2 : Int32), vi (cpN (3 : Int32) n x3 x3), vi u5]) rfl k) ?_
        refine .go (fun _ k => XS.aloadN X20.here hx rfl (hb hby d9_27) rfl rfl k) ?_
        refine .go (fun _ k => XS.iloadN X20.here hx rfl (hb hby d9_28) rfl k) ?_
        obtain ⟨v21, T21, L21, X21, q21, st21⟩ := callVt X20 hx hZ (y := (⟨"java/lang/String", "codePointAt", "(I)I"⟩ : MethodName)) hown (hw _ w_101) (hw _ w_102) (hw _ w_104) (hw _ w_103) (hw _ w_12) (hw _ w_105) (by decide) (W := 0) (rmCP2 l Z a0 hw n0 h0 O b nb y1 y2 y3 B2 FB cs S_cs hcs hy1 hy2 hy3 c17 S_as S_hb S_lb fm hfm S_fm) e20 FB.exa (by decide) (by decide) (by decide) (by decide) (g := (mkF m 29 #[vr a, vr b, vi (2 : Int32), vi (2 : Int32), vi (cpN (3 : Int32) n x3 x3), vi u5] [(.int (2 : Int32)), (.ref b)])) rfl (by rw [hml]; rfl) (argsL := [(.int (2 : Int32))]) (rest := []) (lenOf pd_oIcI rfl) rfl (wk rfl rfl) (hb hby d9_29)
        obtain ⟨rfl, e21, rfl⟩ := q21
        have N21 := Fr.app N20 (Fr.nil n0)
        refine Fin.go st21 ?_
        show Fin _ _ _ _ _ _ _ _ T21 (mkF m 32 #[vr a, vr b, vi (2 : Int32), vi (2 : Int32), vi (cpN (3 : Int32) n x3 x3), vi u5] [(.int (cpN (3 : Int32) nb y3 y3))])
        refine .go (fun _ k => XS.istore X21.here hx rfl (hb hby d9_32) rfl (l' := #[vr a, vr b, vi (2 : Int32), vi (2 : Int32), vi (cpN (3 : Int32) n x3 x3), vi (cpN (3 : Int32) nb y3 y3)]) rfl k) ?_
        refine .go (fun _ k => XS.iload X21.here hx rfl (hb hby d9_34) rfl k) ?_
        refine .go (fun _ k => XS.iload X21.here hx rfl (hb hby d9_36) rfl k) ?_
        by_cases c38 : (cpN (3 : Int32) n x3 x3) = (cpN (3 : Int32) nb y3 y3)
        · refine .go (fun _ k => XS.icmpYes X21.here hx rfl (pc0 := 38) (pc' := 49) rfl (hb hby d9_38) rfl (XT.ii_eq_t c38) (by decide) (by decide) k) ?_
          show Fin _ _ _ _ _ _ _ _ T21 (mkF m 49 #[vr a, vr b, vi (2 : Int32), vi (2 : Int32), vi (cpN (3 : Int32) n x3 x3), vi (cpN (3 : Int32) nb y3 y3)] [])
          refine .go (fun _ k => XS.iloadN X21.here hx rfl (hb hby d9_49) rfl k) ?_
          refine .go (fun _ k => XS.iload X21.here hx rfl (hb hby d9_50) rfl k) ?_
          obtain ⟨v22, T22, L22, X22, q22, st22⟩ := callSt X21 hx hZ hown (hw _ w_139) (hw _ w_140) (hw _ w_127) (hw _ w_141) (by decide) (W := 1) (rmCC l Z a0 hw n0 h0 O (cpN (3 : Int32) n x3 x3)) e21 (by decide) (by decide) (by decide) (by decide) (g := (mkF m 52 #[vr a, vr b, vi (2 : Int32), vi (2 : Int32), vi (cpN (3 : Int32) n x3 x3), vi (cpN (3 : Int32) nb y3 y3)] [(.int (cpN (3 : Int32) n x3 x3)), (.int (2 : Int32))])) rfl (by rw [hml]; rfl) (argsL := [(.int (cpN (3 : Int32) n x3 x3))]) (rest := [(.int (2 : Int32))]) (lenOf pd_oIcI rfl) rfl (wk rfl rfl) (hb hby d9_52)
          obtain ⟨rfl, e22, rfl⟩ := q22
          have N22 := Fr.app N21 (Fr.nil n0)
          refine Fin.go st22 ?_
          show Fin _ _ _ _ _ _ _ _ T22 (mkF m 55 #[vr a, vr b, vi (2 : Int32), vi (2 : Int32), vi (cpN (3 : Int32) n x3 x3), vi (cpN (3 : Int32) nb y3 y3)] [(.int (ccf (cpN (3 : Int32) n x3 x3))), (.int (2 : Int32))])
          refine .go (fun _ k => XS.iadd X22.here hx rfl (hb hby d9_55) rfl k) ?_
          refine .go (fun _ k => XS.istoreN X22.here hx rfl (hb hby d9_56) rfl (l' := #[vr a, vr b, vi ((2 : Int32) + (ccf (cpN (3 : Int32) n x3 x3))), vi (2 : Int32), vi (cpN (3 : Int32) n x3 x3), vi (cpN (3 : Int32) nb y3 y3)]) rfl k) ?_
          show Fin _ _ _ _ _ _ _ _ T22 (mkF m 57 #[vr a, vr b, vi ((2 : Int32) + (ccf (cpN (3 : Int32) n x3 x3))), vi (2 : Int32), vi (cpN (3 : Int32) n x3 x3), vi (cpN (3 : Int32) nb y3 y3)] [])
          rw [← c38]
          show Fin _ _ _ _ _ _ _ _ T22 (mkF m 57 #[vr a, vr b, vi ((2 : Int32) + (ccf (cpN (3 : Int32) n x3 x3))), vi (2 : Int32), vi (cpN (3 : Int32) n x3 x3), vi (cpN (3 : Int32) n x3 x3)] [])
          refine .go (fun _ k => XS.iloadN X22.here hx rfl (hb hby d9_57) rfl k) ?_
          refine .go (fun _ k => XS.iload X22.here hx rfl (hb hby d9_58) rfl k) ?_
          obtain ⟨v23, T23, L23, X23, q23, st23⟩ := callSt X22 hx hZ hown (hw _ w_139) (hw _ w_140) (hw _ w_127) (hw _ w_141) (by decide) (W := 1) (rmCC l Z a0 hw n0 h0 O (cpN (3 : Int32) n x3 x3)) e22 (by decide) (by decide) (by decide) (by decide) (g := (mkF m 60 #[vr a, vr b, vi ((2 : Int32) + (ccf (cpN (3 : Int32) n x3 x3))), vi (2 : Int32), vi (cpN (3 : Int32) n x3 x3), vi (cpN (3 : Int32) n x3 x3)] [(.int (cpN (3 : Int32) n x3 x3)), (.int (2 : Int32))])) rfl (by rw [hml]; rfl) (argsL := [(.int (cpN (3 : Int32) n x3 x3))]) (rest := [(.int (2 : Int32))]) (lenOf pd_oIcI rfl) rfl (wk rfl rfl) (hb hby d9_60)
          obtain ⟨rfl, e23, rfl⟩ := q23
          have N23 := Fr.app N22 (Fr.nil n0)
          refine Fin.go st23 ?_
          show Fin _ _ _ _ _ _ _ _ T23 (mkF m 63 #[vr a, vr b, vi ((2 : Int32) + (ccf (cpN (3 : Int32) n x3 x3))), vi (2 : Int32), vi (cpN (3 : Int32) n x3 x3), vi (cpN (3 : Int32) n x3 x3)] [(.int (ccf (cpN (3 : Int32) n x3 x3))), (.int (2 : Int32))])
          refine .go (fun _ k => XS.iadd X23.here hx rfl (hb hby d9_63) rfl k) ?_
          refine .go (fun _ k => XS.istoreN X23.here hx rfl (hb hby d9_64) rfl (l' := #[vr a, vr b, vi ((2 : Int32) + (ccf (cpN (3 : Int32) n x3 x3))), vi ((2 : Int32) + (ccf (cpN (3 : Int32) n x3 x3))), vi (cpN (3 : Int32) n x3 x3), vi (cpN (3 : Int32) n x3 x3)]) rfl k) ?_
          refine .go (fun _ k => XS.goto X23.here hx rfl (pc0 := 65) (pc' := 4) rfl (hb hby d9_65) (by decide) (by decide) k) ?_
          show Fin _ _ _ _ _ _ _ _ T23 (mkF m 4 #[vr a, vr b, vi ((2 : Int32) + (ccf (cpN (3 : Int32) n x3 x3))), vi ((2 : Int32) + (ccf (cpN (3 : Int32) n x3 x3))), vi (cpN (3 : Int32) n x3 x3), vi (cpN (3 : Int32) n x3 x3)] [])
          rcases ccf_or (cpN (3 : Int32) n x3 x3) with hcc | hcc
          · rw [hcc, show (2 : Int32) + (1 : Int32) = (3 : Int32) from by decide]
            exact tailE T23 X23 e23 (3 : Int32) (vi (cpN (3 : Int32) n x3 x3)) (vi (cpN (3 : Int32) n x3 x3)) (no3 hn) (by rw [hR2]; unfold H2 stp; rw [if_pos c9, if_pos c17, if_pos c38, if_pos hcc])
          · rw [hcc, show (2 : Int32) + (2 : Int32) = (4 : Int32) from by decide]
            exact tailE T23 X23 e23 (4 : Int32) (vi (cpN (3 : Int32) n x3 x3)) (vi (cpN (3 : Int32) n x3 x3)) (no4 hn) (by rw [hR2]; unfold H2 stp; rw [if_pos c9, if_pos c17, if_pos c38, if_neg (by rw [hcc]; decide)])
        · refine .go (fun _ k => XS.icmpNo X21.here hx rfl (hb hby d9_38) rfl (XT.ii_eq_f c38) k) ?_
          show Fin _ _ _ _ _ _ _ _ T21 (mkF m 41 #[vr a, vr b, vi (2 : Int32), vi (2 : Int32), vi (cpN (3 : Int32) n x3 x3), vi (cpN (3 : Int32) nb y3 y3)] [])
          refine .go (fun _ k => XS.iload X21.here hx rfl (hb hby d9_41) rfl k) ?_
          refine .go (fun _ k => XS.iload X21.here hx rfl (hb hby d9_43) rfl k) ?_
          obtain ⟨v24, T24, L24, X24, q24, st24⟩ := callSt X21 hx hZ hown (hw _ w_56) (hw _ w_57) (hw _ w_58) (hw _ w_59) (by decide) (W := 0) (rmIC l Z a0 hw n0 h0 O (cpN (3 : Int32) n x3 x3) (cpN (3 : Int32) nb y3 y3)) e21 (by decide) (by decide) (by decide) (by decide) (g := (mkF m 45 #[vr a, vr b, vi (2 : Int32), vi (2 : Int32), vi (cpN (3 : Int32) n x3 x3), vi (cpN (3 : Int32) nb y3 y3)] [(.int (cpN (3 : Int32) nb y3 y3)), (.int (cpN (3 : Int32) n x3 x3))])) rfl (by rw [hml]; rfl) (argsL := [(.int (cpN (3 : Int32) n x3 x3)), (.int (cpN (3 : Int32) nb y3 y3))]) (rest := []) (lenOf pd_oIIcI rfl) rfl (wk rfl rfl) (hb hby d9_45)
          obtain ⟨rfl, e24, rfl⟩ := q24
          have N24 := Fr.app N21 (Fr.nil n0)
          refine Fin.go st24 ?_
          show Fin _ _ _ _ _ _ _ _ T24 (mkF m 48 #[vr a, vr b, vi (2 : Int32), vi (2 : Int32), vi (cpN (3 : Int32) n x3 x3), vi (cpN (3 : Int32) nb y3 y3)] [(.int (icmp (cpN (3 : Int32) n x3 x3) (cpN (3 : Int32) nb y3 y3)))])
          exact Fin.leaveN X24 e24 hlk (v := some (.int (icmp (cpN (3 : Int32) n x3 x3) (cpN (3 : Int32) nb y3 y3)))) (nvS hret) (by decide) (by decide) ⟨by rw [hR2]; unfold H2 stp; rw [if_pos c9, if_pos c17, if_neg c38], rfl, rfl⟩ (fun fs hr => retI X24 hx hret (hb hby d9_48) hr)
      · refine .go (fun _ k => XS.icmpYes X19.here hx rfl (pc0 := 17) (pc' := 68) rfl (hb hby d9_17) rfl (XT.ii_ge_t c17) (by decide) (by decide) k) ?_
        show Fin _ _ _ _ _ _ _ _ T19 (mkF m 68 #[vr a, vr b, vi (2 : Int32), vi (2 : Int32), vi u4, vi u5] [])
        exact tailX T19 X19 e19 (2 : Int32) (vi u4) (vi u5) (by rw [hR2]; unfold H2 stp; rw [if_pos c9, if_neg c17])
    · refine .go (fun _ k => XS.icmpYes X18.here hx rfl (pc0 := 9) (pc' := 68) rfl (hb hby d9_9) rfl (XT.ii_ge_t c9) (by decide) (by decide) k) ?_
      show Fin _ _ _ _ _ _ _ _ T18 (mkF m 68 #[vr a, vr b, vi (2 : Int32), vi (2 : Int32), vi u4, vi u5] [])
      exact tailX T18 X18 e18 (2 : Int32) (vi u4) (vi u5) (by rw [hR2]; unfold H2 stp; rw [if_neg c9])
  have tail1 : ∀ (Tt25 : State) (Xt25 : Stand p l e ({ frames := 4, cells := 0, slots := 0, locals := 58 } : Room) s m #[(.ref a), (.ref b)] below mth cc Tt25 [] 0 0) (et25 : Tt25.heap = h0) (u4 u5 : Int32) (hR1 : H0 n x1 x2 x3 nb y1 y2 y3 = H1 n x2 x3 nb y2 y3), Fin FrameEnd p e below s (Pure h0 (some (.int (H0 n x1 x2 x3 nb y1 y2 y3)))) 0 0 Tt25 (mkF m 4 #[vr a, vr b, vi (1 : Int32), vi (1 : Int32), vi u4, vi u5] []) := by
    intro Tt25 Xt25 et25 u4 u5 hR1
    refine .go (fun _ k => XS.iloadN Xt25.here hx rfl (hb hby d9_4) rfl k) ?_
    refine .go (fun _ k => XS.aloadN Xt25.here hx rfl (hb hby d9_5) rfl rfl k) ?_
    obtain ⟨v26, T26, L26, X26, q26, st26⟩ := callVt Xt25 hx hZ (y := (⟨"java/lang/String", "length", "()I"⟩ : MethodName)) hown (hw _ w_46) (hw _ w_47) (hw _ w_49) (hw _ w_48) (hw _ w_12) (hw _ w_50) (by decide) (W := 1) (rmLen l Z a0 hw n0 h0 O a n x1 x2 x3 B1 FA cs S_cs hcs) et25 FA.exa (by decide) (by decide) (by decide) (by decide) (g := (mkF m 6 #[vr a, vr b, vi (1 : Int32), vi (1 : Int32), vi u4, vi u5] [(.ref a), (.int (1 : Int32))])) rfl (by rw [hml]; rfl) (argsL := []) (rest := [(.int (1 : Int32))]) (lenOf pd_ocI rfl) rfl (wk rfl rfl) (hb hby d9_6)
    obtain ⟨rfl, e26, rfl⟩ := q26
    have N26 := Fr.app N0 (Fr.nil n0)
    refine Fin.go st26 ?_
    show Fin _ _ _ _ _ _ _ _ T26 (mkF m 9 #[vr a, vr b, vi (1 : Int32), vi (1 : Int32), vi u4, vi u5] [(.int n), (.int (1 : Int32))])
    by_cases c9 : (1 : Int32) < n
    · refine .go (fun _ k => XS.icmpNo X26.here hx rfl (hb hby d9_9) rfl (XT.ii_ge_f c9) k) ?_
      show Fin _ _ _ _ _ _ _ _ T26 (mkF m 12 #[vr a, vr b, vi (1 : Int32), vi (1 : Int32), vi u4, vi u5] [])
      refine .go (fun _ k => XS.iloadN X26.here hx rfl (hb hby d9_12) rfl k) ?_
      refine .go (fun _ k => XS.aloadN X26.here hx rfl (hb hby d9_13) rfl rfl k) ?_
      obtain ⟨v27, T27, L27, X27, q27, st27⟩ := callVt X26 hx hZ (y := (⟨"java/lang/String", "length", "()I"⟩ : MethodName)) hown (hw _ w_46) (hw _ w_47) (hw _ w_49) (hw _ w_48) (hw _ w_12) (hw _ w_50) (by decide) (W := 1) (rmLen l Z a0 hw n0 h0 O b nb y1 y2 y3 B2 FB cs S_cs hcs) e26 FB.exa (by decide) (by decide) (by decide) (by decide) (g := (mkF m 14 #[vr a, vr b, vi (1 : Int32), vi (1 : Int32), vi u4, vi u5] [(.ref b), (.int (1 : Int32))])) rfl (by rw [hml]; rfl) (argsL := []) (rest := [(.int (1 : Int32))]) (lenOf pd_ocI rfl) rfl (wk rfl rfl) (hb hby d9_14)
      obtain ⟨rfl, e27, rfl⟩ := q27
      have N27 := Fr.app N26 (Fr.nil n0)
      refine Fin.go st27 ?_
      show Fin _ _ _ _ _ _ _ _ T27 (mkF m 17 #[vr a, vr b, vi (1 : Int32), vi (1 : Int32), vi u4, vi u5] [(.int nb), (.int (1 : Int32))])
      by_cases c17 : (1 : Int32) < nb
      · refine .go (fun _ k => XS.icmpNo X27.here hx rfl (hb hby d9_17) rfl (XT.ii_ge_f c17) k) ?_
        show Fin _ _ _ _ _ _ _ _ T27 (mkF m 20 #[vr a, vr b, vi (1 : Int32), vi (1 : Int32), vi u4, vi u5] [])
        refine .go (fun _ k => XS.aloadN X27.here hx rfl (hb hby d9_20) rfl rfl k) ?_
        refine .go (fun _ k => XS.iloadN X27.here hx rfl (hb hby d9_21) rfl k) ?_
        obtain ⟨v28, T28, L28, X28, q28, st28⟩ := callVt X27 hx hZ (y := (⟨"java/lang/String", "codePointAt", "(I)I"⟩ : MethodName)) hown (hw _ w_101) (hw _ w_102) (hw _ w_104) (hw _ w_103) (hw _ w_12) (hw _ w_105) (by decide) (W := 0) (rmCP1 l Z a0 hw n0 h0 O a n x1 x2 x3 B1 FA cs S_cs hcs hx1 hx2 hx3 c9 S_as S_hb S_lb fm hfm S_fm) e27 FA.exa (by decide) (by decide) (by decide) (by decide) (g := (mkF m 22 #[vr a, vr b, vi (1 : Int32), vi (1 : Int32), vi u4, vi u5] [(.int (1 : Int32)), (.ref a)])) rfl (by rw [hml]; rfl) (argsL := [(.int (1 : Int32))]) (rest := []) (lenOf pd_oIcI rfl) rfl (wk rfl rfl) (hb hby d9_22)
        obtain ⟨rfl, e28, rfl⟩ := q28
        have N28 := Fr.app N27 (Fr.nil n0)
        refine Fin.go st28 ?_
        show Fin _ _ _ _ _ _ _ _ T28 (mkF m 25 #[vr a, vr b, vi (1 : Int32), vi (1 : Int32), vi u4, vi u5] [(.int (cpN (2 : Int32) n x2 x3))])
        refine .go (fun _ k => XS.istore X28.here hx rfl (hb hby d9_25) rfl (l' := #[vr a, vr b, vi (1 : Int32), vi (1 : Int32), vi (cpN (2 : Int32) n x2 x3), vi u5]) rfl k) ?_
        refine .go (fun _ k => XS.aloadN X28.here hx rfl (hb hby d9_27) rfl rfl k) ?_
        refine .go (fun _ k => XS.iloadN X28.here hx rfl (hb hby d9_28) rfl k) ?_
        obtain ⟨v29, T29, L29, X29, q29, st29⟩ := callVt X28 hx hZ (y := (⟨"java/lang/String", "codePointAt", "(I)I"⟩ : MethodName)) hown (hw _ w_101) (hw _ w_102) (hw _ w_104) (hw _ w_103) (hw _ w_12) (hw _ w_105) (by decide) (W := 0) (rmCP1 l Z a0 hw n0 h0 O b nb y1 y2 y3 B2 FB cs S_cs hcs hy1 hy2 hy3 c17 S_as S_hb S_lb fm hfm S_fm) e28 FB.exa (by decide) (by decide) (by decide) (by decide) (g := (mkF m 29 #[vr a, vr b, vi (1 : Int32), vi (1 : Int32), vi (cpN (2 : Int32) n x2 x3), vi u5] [(.int (1 : Int32)), (.ref b)])) rfl (by rw [hml]; rfl) (argsL := [(.int (1 : Int32))]) (rest := []) (lenOf pd_oIcI rfl) rfl (wk rfl rfl) (hb hby d9_29)
        obtain ⟨rfl, e29, rfl⟩ := q29
        have N29 := Fr.app N28 (Fr.nil n0)
        refine Fin.go st29 ?_
        show Fin _ _ _ _ _ _ _ _ T29 (mkF m 32 #[vr a, vr b, vi (1 : Int32), vi (1 : Int32), vi (cpN (2 : Int32) n x2 x3), vi u5] [(.int (cpN (2 : Int32) nb y2 y3))])
        refine .go (fun _ k => XS.istore X29.here hx rfl (hb hby d9_32) rfl (l' := #[vr a, vr b, vi (1 : Int32), vi (1 : Int32), vi (cpN (2 : Int32) n x2 x3), vi (cpN (2 : Int32) nb y2 y3)]) rfl k) ?_
        refine .go (fun _ k => XS.iload X29.here hx rfl (hb hby d9_34) rfl k) ?_
        refine .go (fun _ k => XS.iload X29.here hx rfl (hb hby d9_36) rfl k) ?_
        by_cases c38 : (cpN (2 : Int32) n x2 x3) = (cpN (2 : Int32) nb y2 y3)
        · refine .go (fun _ k => XS.icmpYes X29.here hx rfl (pc0 := 38) (pc' := 49) rfl (hb hby d9_38) rfl (XT.ii_eq_t c38) (by decide) (by decide) k) ?_
          show Fin _ _ _ _ _ _ _ _ T29 (mkF m 49 #[vr a, vr b, vi (1 : Int32), vi (1 : Int32), vi (cpN (2 : Int32) n x2 x3), vi (cpN (2 : Int32) nb y2 y3)] [])
          refine .go (fun _ k => XS.iloadN X29.here hx rfl (hb hby d9_49) rfl k) ?_
          refine .go (fun _ k => XS.iload X29.here hx rfl (hb hby d9_50) rfl k) ?_
          obtain ⟨v30, T30, L30, X30, q30, st30⟩ := callSt X29 hx hZ hown (hw _ w_139) (hw _ w_140) (hw _ w_127) (hw _ w_141) (by decide) (W := 1) (rmCC l Z a0 hw n0 h0 O (cpN (2 : Int32) n x2 x3)) e29 (by decide) (by decide) (by decide) (by decide) (g := (mkF m 52 #[vr a, vr b, vi (1 : Int32), vi (1 : Int32), vi (cpN (2 : Int32) n x2 x3), vi (cpN (2 : Int32) nb y2 y3)] [(.int (cpN (2 : Int32) n x2 x3)), (.int (1 : Int32))])) rfl (by rw [hml]; rfl) (argsL := [(.int (cpN (2 : Int32) n x2 x3))]) (rest := [(.int (1 : Int32))]) (lenOf pd_oIcI rfl) rfl (wk rfl rfl) (hb hby d9_52)
          obtain ⟨rfl, e30, rfl⟩ := q30
          have N30 := Fr.app N29 (Fr.nil n0)
          refine Fin.go st30 ?_
          show Fin _ _ _ _ _ _ _ _ T30 (mkF m 55 #[vr a, vr b, vi (1 : Int32), vi (1 : Int32), vi (cpN (2 : Int32) n x2 x3), vi (cpN (2 : Int32) nb y2 y3)] [(.int (ccf (cpN (2 : Int32) n x2 x3))), (.int (1 : Int32))])
          refine .go (fun _ k => XS.iadd X30.here hx rfl (hb hby d9_55) rfl k) ?_
          refine .go (fun _ k => XS.istoreN X30.here hx rfl (hb hby d9_56) rfl (l' := #[vr a, vr b, vi ((1 : Int32) + (ccf (cpN (2 : Int32) n x2 x3))), vi (1 : Int32), vi (cpN (2 : Int32) n x2 x3), vi (cpN (2 : Int32) nb y2 y3)]) rfl k) ?_
          show Fin _ _ _ _ _ _ _ _ T30 (mkF m 57 #[vr a, vr b, vi ((1 : Int32) + (ccf (cpN (2 : Int32) n x2 x3))), vi (1 : Int32), vi (cpN (2 : Int32) n x2 x3), vi (cpN (2 : Int32) nb y2 y3)] [])
          rw [← c38]
          show Fin _ _ _ _ _ _ _ _ T30 (mkF m 57 #[vr a, vr b, vi ((1 : Int32) + (ccf (cpN (2 : Int32) n x2 x3))), vi (1 : Int32), vi (cpN (2 : Int32) n x2 x3), vi (cpN (2 : Int32) n x2 x3)] [])
          refine .go (fun _ k => XS.iloadN X30.here hx rfl (hb hby d9_57) rfl k) ?_
          refine .go (fun _ k => XS.iload X30.here hx rfl (hb hby d9_58) rfl k) ?_
          obtain ⟨v31, T31, L31, X31, q31, st31⟩ := callSt X30 hx hZ hown (hw _ w_139) (hw _ w_140) (hw _ w_127) (hw _ w_141) (by decide) (W := 1) (rmCC l Z a0 hw n0 h0 O (cpN (2 : Int32) n x2 x3)) e30 (by decide) (by decide) (by decide) (by decide) (g := (mkF m 60 #[vr a, vr b, vi ((1 : Int32) + (ccf (cpN (2 : Int32) n x2 x3))), vi (1 : Int32), vi (cpN (2 : Int32) n x2 x3), vi (cpN (2 : Int32) n x2 x3)] [(.int (cpN (2 : Int32) n x2 x3)), (.int (1 : Int32))])) rfl (by rw [hml]; rfl) (argsL := [(.int (cpN (2 : Int32) n x2 x3))]) (rest := [(.int (1 : Int32))]) (lenOf pd_oIcI rfl) rfl (wk rfl rfl) (hb hby d9_60)
          obtain ⟨rfl, e31, rfl⟩ := q31
          have N31 := Fr.app N30 (Fr.nil n0)
          refine Fin.go st31 ?_
          show Fin _ _ _ _ _ _ _ _ T31 (mkF m 63 #[vr a, vr b, vi ((1 : Int32) + (ccf (cpN (2 : Int32) n x2 x3))), vi (1 : Int32), vi (cpN (2 : Int32) n x2 x3), vi (cpN (2 : Int32) n x2 x3)] [(.int (ccf (cpN (2 : Int32) n x2 x3))), (.int (1 : Int32))])
          refine .go (fun _ k => XS.iadd X31.here hx rfl (hb hby d9_63) rfl k) ?_
          refine .go (fun _ k => XS.istoreN X31.here hx rfl (hb hby d9_64) rfl (l' := #[vr a, vr b, vi ((1 : Int32) + (ccf (cpN (2 : Int32) n x2 x3))), vi ((1 : Int32) + (ccf (cpN (2 : Int32) n x2 x3))), vi (cpN (2 : Int32) n x2 x3), vi (cpN (2 : Int32) n x2 x3)]) rfl k) ?_
          refine .go (fun _ k => XS.goto X31.here hx rfl (pc0 := 65) (pc' := 4) rfl (hb hby d9_65) (by decide) (by decide) k) ?_
          show Fin _ _ _ _ _ _ _ _ T31 (mkF m 4 #[vr a, vr b, vi ((1 : Int32) + (ccf (cpN (2 : Int32) n x2 x3))), vi ((1 : Int32) + (ccf (cpN (2 : Int32) n x2 x3))), vi (cpN (2 : Int32) n x2 x3), vi (cpN (2 : Int32) n x2 x3)] [])
          rcases ccf_or (cpN (2 : Int32) n x2 x3) with hcc | hcc
          · rw [hcc, show (1 : Int32) + (1 : Int32) = (2 : Int32) from by decide]
            exact tail2 T31 X31 e31 (cpN (2 : Int32) n x2 x3) (cpN (2 : Int32) n x2 x3) (by rw [hR1]; unfold H1 stp; rw [if_pos c9, if_pos c17, if_pos c38, if_pos hcc])
          · rw [hcc, show (1 : Int32) + (2 : Int32) = (3 : Int32) from by decide]
            exact tailE T31 X31 e31 (3 : Int32) (vi (cpN (2 : Int32) n x2 x3)) (vi (cpN (2 : Int32) n x2 x3)) (no3 hn) (by rw [hR1]; unfold H1 stp; rw [if_pos c9, if_pos c17, if_pos c38, if_neg (by rw [hcc]; decide)])
        · refine .go (fun _ k => XS.icmpNo X29.here hx rfl (hb hby d9_38) rfl (XT.ii_eq_f c38) k) ?_
          show Fin _ _ _ _ _ _ _ _ T29 (mkF m 41 #[vr a, vr b, vi (1 : Int32), vi (1 : Int32), vi (cpN (2 : Int32) n x2 x3), vi (cpN (2 : Int32) nb y2 y3)] [])
          refine .go (fun _ k => XS.iload X29.here hx rfl (hb hby d9_41) rfl k) ?_
          refine .go (fun _ k => XS.iload X29.here hx rfl (hb hby d9_43) rfl k) ?_
          obtain ⟨v32, T32, L32, X32, q32, st32⟩ := callSt X29 hx hZ hown (hw _ w_56) (hw _ w_57) (hw _ w_58) (hw _ w_59) (by decide) (W := 0) (rmIC l Z a0 hw n0 h0 O (cpN (2 : Int32) n x2 x3) (cpN (2 : Int32) nb y2 y3)) e29 (by decide) (by decide) (by decide) (by decide) (g := (mkF m 45 #[vr a, vr b, vi (1 : Int32), vi (1 : Int32), vi (cpN (2 : Int32) n x2 x3), vi (cpN (2 : Int32) nb y2 y3)] [(.int (cpN (2 : Int32) nb y2 y3)), (.int (cpN (2 : Int32) n x2 x3))])) rfl (by rw [hml]; rfl) (argsL := [(.int (cpN (2 : Int32) n x2 x3)), (.int (cpN (2 : Int32) nb y2 y3))]) (rest := []) (lenOf pd_oIIcI rfl) rfl (wk rfl rfl) (hb hby d9_45)
          obtain ⟨rfl, e32, rfl⟩ := q32
          have N32 := Fr.app N29 (Fr.nil n0)
          refine Fin.go st32 ?_
          show Fin _ _ _ _ _ _ _ _ T32 (mkF m 48 #[vr a, vr b, vi (1 : Int32), vi (1 : Int32), vi (cpN (2 : Int32) n x2 x3), vi (cpN (2 : Int32) nb y2 y3)] [(.int (icmp (cpN (2 : Int32) n x2 x3) (cpN (2 : Int32) nb y2 y3)))])
          exact Fin.leaveN X32 e32 hlk (v := some (.int (icmp (cpN (2 : Int32) n x2 x3) (cpN (2 : Int32) nb y2 y3)))) (nvS hret) (by decide) (by decide) ⟨by rw [hR1]; unfold H1 stp; rw [if_pos c9, if_pos c17, if_neg c38], rfl, rfl⟩ (fun fs hr => retI X32 hx hret (hb hby d9_48) hr)
      · refine .go (fun _ k => XS.icmpYes X27.here hx rfl (pc0 := 17) (pc' := 68) rfl (hb hby d9_17) rfl (XT.ii_ge_t c17) (by decide) (by decide) k) ?_
        show Fin _ _ _ _ _ _ _ _ T27 (mkF m 68 #[vr a, vr b, vi (1 : Int32), vi (1 : Int32), vi u4, vi u5] [])
        exact tailX T27 X27 e27 (1 : Int32) (vi u4) (vi u5) (by rw [hR1]; unfold H1 stp; rw [if_pos c9, if_neg c17])
    · refine .go (fun _ k => XS.icmpYes X26.here hx rfl (pc0 := 9) (pc' := 68) rfl (hb hby d9_9) rfl (XT.ii_ge_t c9) (by decide) (by decide) k) ?_
      show Fin _ _ _ _ _ _ _ _ T26 (mkF m 68 #[vr a, vr b, vi (1 : Int32), vi (1 : Int32), vi u4, vi u5] [])
      exact tailX T26 X26 e26 (1 : Int32) (vi u4) (vi u5) (by rw [hR1]; unfold H1 stp; rw [if_neg c9])
  show Fin _ _ _ _ _ _ _ _ s₁ (mkF m 4 #[vr a, vr b, vi (0 : Int32), vi (0 : Int32), .unset, .unset] [])
  refine .go (fun _ k => XS.iloadN X0.here hx rfl (hb hby d9_4) rfl k) ?_
  refine .go (fun _ k => XS.aloadN X0.here hx rfl (hb hby d9_5) rfl rfl k) ?_
  obtain ⟨v33, T33, L33, X33, q33, st33⟩ := callVt X0 hx hZ (y := (⟨"java/lang/String", "length", "()I"⟩ : MethodName)) hown (hw _ w_46) (hw _ w_47) (hw _ w_49) (hw _ w_48) (hw _ w_12) (hw _ w_50) (by decide) (W := 1) (rmLen l Z a0 hw n0 h0 O a n x1 x2 x3 B1 FA cs S_cs hcs) e0 FA.exa (by decide) (by decide) (by decide) (by decide) (g := (mkF m 6 #[vr a, vr b, vi (0 : Int32), vi (0 : Int32), .unset, .unset] [(.ref a), (.int (0 : Int32))])) rfl (by rw [hml]; rfl) (argsL := []) (rest := [(.int (0 : Int32))]) (lenOf pd_ocI rfl) rfl (wk rfl rfl) (hb hby d9_6)
  obtain ⟨rfl, e33, rfl⟩ := q33
  have N33 := Fr.app N0 (Fr.nil n0)
  refine Fin.go st33 ?_
  show Fin _ _ _ _ _ _ _ _ T33 (mkF m 9 #[vr a, vr b, vi (0 : Int32), vi (0 : Int32), .unset, .unset] [(.int n), (.int (0 : Int32))])
  by_cases c9 : (0 : Int32) < n
  · refine .go (fun _ k => XS.icmpNo X33.here hx rfl (hb hby d9_9) rfl (XT.ii_ge_f c9) k) ?_
    show Fin _ _ _ _ _ _ _ _ T33 (mkF m 12 #[vr a, vr b, vi (0 : Int32), vi (0 : Int32), .unset, .unset] [])
    refine .go (fun _ k => XS.iloadN X33.here hx rfl (hb hby d9_12) rfl k) ?_
    refine .go (fun _ k => XS.aloadN X33.here hx rfl (hb hby d9_13) rfl rfl k) ?_
    obtain ⟨v34, T34, L34, X34, q34, st34⟩ := callVt X33 hx hZ (y := (⟨"java/lang/String", "length", "()I"⟩ : MethodName)) hown (hw _ w_46) (hw _ w_47) (hw _ w_49) (hw _ w_48) (hw _ w_12) (hw _ w_50) (by decide) (W := 1) (rmLen l Z a0 hw n0 h0 O b nb y1 y2 y3 B2 FB cs S_cs hcs) e33 FB.exa (by decide) (by decide) (by decide) (by decide) (g := (mkF m 14 #[vr a, vr b, vi (0 : Int32), vi (0 : Int32), .unset, .unset] [(.ref b), (.int (0 : Int32))])) rfl (by rw [hml]; rfl) (argsL := []) (rest := [(.int (0 : Int32))]) (lenOf pd_ocI rfl) rfl (wk rfl rfl) (hb hby d9_14)
    obtain ⟨rfl, e34, rfl⟩ := q34
    have N34 := Fr.app N33 (Fr.nil n0)
    refine Fin.go st34 ?_
    show Fin _ _ _ _ _ _ _ _ T34 (mkF m 17 #[vr a, vr b, vi (0 : Int32), vi (0 : Int32), .unset, .unset] [(.int nb), (.int (0 : Int32))])
    by_cases c17 : (0 : Int32) < nb
    · refine .go (fun _ k => XS.icmpNo X34.here hx rfl (hb hby d9_17) rfl (XT.ii_ge_f c17) k) ?_
      show Fin _ _ _ _ _ _ _ _ T34 (mkF m 20 #[vr a, vr b, vi (0 : Int32), vi (0 : Int32), .unset, .unset] [])
      refine .go (fun _ k => XS.aloadN X34.here hx rfl (hb hby d9_20) rfl rfl k) ?_
      refine .go (fun _ k => XS.iloadN X34.here hx rfl (hb hby d9_21) rfl k) ?_
      obtain ⟨v35, T35, L35, X35, q35, st35⟩ := callVt X34 hx hZ (y := (⟨"java/lang/String", "codePointAt", "(I)I"⟩ : MethodName)) hown (hw _ w_101) (hw _ w_102) (hw _ w_104) (hw _ w_103) (hw _ w_12) (hw _ w_105) (by decide) (W := 0) (rmCP0 l Z a0 hw n0 h0 O a n x1 x2 x3 B1 FA cs S_cs hcs hx1 hx2 hx3 c9 S_as S_hb S_lb fm hfm S_fm) e34 FA.exa (by decide) (by decide) (by decide) (by decide) (g := (mkF m 22 #[vr a, vr b, vi (0 : Int32), vi (0 : Int32), .unset, .unset] [(.int (0 : Int32)), (.ref a)])) rfl (by rw [hml]; rfl) (argsL := [(.int (0 : Int32))]) (rest := []) (lenOf pd_oIcI rfl) rfl (wk rfl rfl) (hb hby d9_22)
      obtain ⟨rfl, e35, rfl⟩ := q35
      have N35 := Fr.app N34 (Fr.nil n0)
      refine Fin.go st35 ?_
      show Fin _ _ _ _ _ _ _ _ T35 (mkF m 25 #[vr a, vr b, vi (0 : Int32), vi (0 : Int32), .unset, .unset] [(.int (cpN (1 : Int32) n x1 x2))])
      refine .go (fun _ k => XS.istore X35.here hx rfl (hb hby d9_25) rfl (l' := #[vr a, vr b, vi (0 : Int32), vi (0 : Int32), vi (cpN (1 : Int32) n x1 x2), .unset]) rfl k) ?_
      refine .go (fun _ k => XS.aloadN X35.here hx rfl (hb hby d9_27) rfl rfl k) ?_
      refine .go (fun _ k => XS.iloadN X35.here hx rfl (hb hby d9_28) rfl k) ?_
      obtain ⟨v36, T36, L36, X36, q36, st36⟩ := callVt X35 hx hZ (y := (⟨"java/lang/String", "codePointAt", "(I)I"⟩ : MethodName)) hown (hw _ w_101) (hw _ w_102) (hw _ w_104) (hw _ w_103) (hw _ w_12) (hw _ w_105) (by decide) (W := 0) (rmCP0 l Z a0 hw n0 h0 O b nb y1 y2 y3 B2 FB cs S_cs hcs hy1 hy2 hy3 c17 S_as S_hb S_lb fm hfm S_fm) e35 FB.exa (by decide) (by decide) (by decide) (by decide) (g := (mkF m 29 #[vr a, vr b, vi (0 : Int32), vi (0 : Int32), vi (cpN (1 : Int32) n x1 x2), .unset] [(.int (0 : Int32)), (.ref b)])) rfl (by rw [hml]; rfl) (argsL := [(.int (0 : Int32))]) (rest := []) (lenOf pd_oIcI rfl) rfl (wk rfl rfl) (hb hby d9_29)
      obtain ⟨rfl, e36, rfl⟩ := q36
      have N36 := Fr.app N35 (Fr.nil n0)
      refine Fin.go st36 ?_
      show Fin _ _ _ _ _ _ _ _ T36 (mkF m 32 #[vr a, vr b, vi (0 : Int32), vi (0 : Int32), vi (cpN (1 : Int32) n x1 x2), .unset] [(.int (cpN (1 : Int32) nb y1 y2))])
      refine .go (fun _ k => XS.istore X36.here hx rfl (hb hby d9_32) rfl (l' := #[vr a, vr b, vi (0 : Int32), vi (0 : Int32), vi (cpN (1 : Int32) n x1 x2), vi (cpN (1 : Int32) nb y1 y2)]) rfl k) ?_
      refine .go (fun _ k => XS.iload X36.here hx rfl (hb hby d9_34) rfl k) ?_
      refine .go (fun _ k => XS.iload X36.here hx rfl (hb hby d9_36) rfl k) ?_
      by_cases c38 : (cpN (1 : Int32) n x1 x2) = (cpN (1 : Int32) nb y1 y2)
      · refine .go (fun _ k => XS.icmpYes X36.here hx rfl (pc0 := 38) (pc' := 49) rfl (hb hby d9_38) rfl (XT.ii_eq_t c38) (by decide) (by decide) k) ?_
        show Fin _ _ _ _ _ _ _ _ T36 (mkF m 49 #[vr a, vr b, vi (0 : Int32), vi (0 : Int32), vi (cpN (1 : Int32) n x1 x2), vi (cpN (1 : Int32) nb y1 y2)] [])
        refine .go (fun _ k => XS.iloadN X36.here hx rfl (hb hby d9_49) rfl k) ?_
        refine .go (fun _ k => XS.iload X36.here hx rfl (hb hby d9_50) rfl k) ?_
        obtain ⟨v37, T37, L37, X37, q37, st37⟩ := callSt X36 hx hZ hown (hw _ w_139) (hw _ w_140) (hw _ w_127) (hw _ w_141) (by decide) (W := 1) (rmCC l Z a0 hw n0 h0 O (cpN (1 : Int32) n x1 x2)) e36 (by decide) (by decide) (by decide) (by decide) (g := (mkF m 52 #[vr a, vr b, vi (0 : Int32), vi (0 : Int32), vi (cpN (1 : Int32) n x1 x2), vi (cpN (1 : Int32) nb y1 y2)] [(.int (cpN (1 : Int32) n x1 x2)), (.int (0 : Int32))])) rfl (by rw [hml]; rfl) (argsL := [(.int (cpN (1 : Int32) n x1 x2))]) (rest := [(.int (0 : Int32))]) (lenOf pd_oIcI rfl) rfl (wk rfl rfl) (hb hby d9_52)
        obtain ⟨rfl, e37, rfl⟩ := q37
        have N37 := Fr.app N36 (Fr.nil n0)
        refine Fin.go st37 ?_
        show Fin _ _ _ _ _ _ _ _ T37 (mkF m 55 #[vr a, vr b, vi (0 : Int32), vi (0 : Int32), vi (cpN (1 : Int32) n x1 x2), vi (cpN (1 : Int32) nb y1 y2)] [(.int (ccf (cpN (1 : Int32) n x1 x2))), (.int (0 : Int32))])
        refine .go (fun _ k => XS.iadd X37.here hx rfl (hb hby d9_55) rfl k) ?_
        refine .go (fun _ k => XS.istoreN X37.here hx rfl (hb hby d9_56) rfl (l' := #[vr a, vr b, vi ((0 : Int32) + (ccf (cpN (1 : Int32) n x1 x2))), vi (0 : Int32), vi (cpN (1 : Int32) n x1 x2), vi (cpN (1 : Int32) nb y1 y2)]) rfl k) ?_
        show Fin _ _ _ _ _ _ _ _ T37 (mkF m 57 #[vr a, vr b, vi ((0 : Int32) + (ccf (cpN (1 : Int32) n x1 x2))), vi (0 : Int32), vi (cpN (1 : Int32) n x1 x2), vi (cpN (1 : Int32) nb y1 y2)] [])
        rw [← c38]
        show Fin _ _ _ _ _ _ _ _ T37 (mkF m 57 #[vr a, vr b, vi ((0 : Int32) + (ccf (cpN (1 : Int32) n x1 x2))), vi (0 : Int32), vi (cpN (1 : Int32) n x1 x2), vi (cpN (1 : Int32) n x1 x2)] [])
        refine .go (fun _ k => XS.iloadN X37.here hx rfl (hb hby d9_57) rfl k) ?_
        refine .go (fun _ k => XS.iload X37.here hx rfl (hb hby d9_58) rfl k) ?_
        obtain ⟨v38, T38, L38, X38, q38, st38⟩ := callSt X37 hx hZ hown (hw _ w_139) (hw _ w_140) (hw _ w_127) (hw _ w_141) (by decide) (W := 1) (rmCC l Z a0 hw n0 h0 O (cpN (1 : Int32) n x1 x2)) e37 (by decide) (by decide) (by decide) (by decide) (g := (mkF m 60 #[vr a, vr b, vi ((0 : Int32) + (ccf (cpN (1 : Int32) n x1 x2))), vi (0 : Int32), vi (cpN (1 : Int32) n x1 x2), vi (cpN (1 : Int32) n x1 x2)] [(.int (cpN (1 : Int32) n x1 x2)), (.int (0 : Int32))])) rfl (by rw [hml]; rfl) (argsL := [(.int (cpN (1 : Int32) n x1 x2))]) (rest := [(.int (0 : Int32))]) (lenOf pd_oIcI rfl) rfl (wk rfl rfl) (hb hby d9_60)
        obtain ⟨rfl, e38, rfl⟩ := q38
        have N38 := Fr.app N37 (Fr.nil n0)
        refine Fin.go st38 ?_
        show Fin _ _ _ _ _ _ _ _ T38 (mkF m 63 #[vr a, vr b, vi ((0 : Int32) + (ccf (cpN (1 : Int32) n x1 x2))), vi (0 : Int32), vi (cpN (1 : Int32) n x1 x2), vi (cpN (1 : Int32) n x1 x2)] [(.int (ccf (cpN (1 : Int32) n x1 x2))), (.int (0 : Int32))])
        refine .go (fun _ k => XS.iadd X38.here hx rfl (hb hby d9_63) rfl k) ?_
        refine .go (fun _ k => XS.istoreN X38.here hx rfl (hb hby d9_64) rfl (l' := #[vr a, vr b, vi ((0 : Int32) + (ccf (cpN (1 : Int32) n x1 x2))), vi ((0 : Int32) + (ccf (cpN (1 : Int32) n x1 x2))), vi (cpN (1 : Int32) n x1 x2), vi (cpN (1 : Int32) n x1 x2)]) rfl k) ?_
        refine .go (fun _ k => XS.goto X38.here hx rfl (pc0 := 65) (pc' := 4) rfl (hb hby d9_65) (by decide) (by decide) k) ?_
        show Fin _ _ _ _ _ _ _ _ T38 (mkF m 4 #[vr a, vr b, vi ((0 : Int32) + (ccf (cpN (1 : Int32) n x1 x2))), vi ((0 : Int32) + (ccf (cpN (1 : Int32) n x1 x2))), vi (cpN (1 : Int32) n x1 x2), vi (cpN (1 : Int32) n x1 x2)] [])
        rcases ccf_or (cpN (1 : Int32) n x1 x2) with hcc | hcc
        · rw [hcc, show (0 : Int32) + (1 : Int32) = (1 : Int32) from by decide]
          exact tail1 T38 X38 e38 (cpN (1 : Int32) n x1 x2) (cpN (1 : Int32) n x1 x2) (by unfold H0 stp; rw [if_pos c9, if_pos c17, if_pos c38, if_pos hcc])
        · rw [hcc, show (0 : Int32) + (2 : Int32) = (2 : Int32) from by decide]
          exact tail2 T38 X38 e38 (cpN (1 : Int32) n x1 x2) (cpN (1 : Int32) n x1 x2) (by unfold H0 stp; rw [if_pos c9, if_pos c17, if_pos c38, if_neg (by rw [hcc]; decide)])
      · refine .go (fun _ k => XS.icmpNo X36.here hx rfl (hb hby d9_38) rfl (XT.ii_eq_f c38) k) ?_
        show Fin _ _ _ _ _ _ _ _ T36 (mkF m 41 #[vr a, vr b, vi (0 : Int32), vi (0 : Int32), vi (cpN (1 : Int32) n x1 x2), vi (cpN (1 : Int32) nb y1 y2)] [])
        refine .go (fun _ k => XS.iload X36.here hx rfl (hb hby d9_41) rfl k) ?_
        refine .go (fun _ k => XS.iload X36.here hx rfl (hb hby d9_43) rfl k) ?_
        obtain ⟨v39, T39, L39, X39, q39, st39⟩ := callSt X36 hx hZ hown (hw _ w_56) (hw _ w_57) (hw _ w_58) (hw _ w_59) (by decide) (W := 0) (rmIC l Z a0 hw n0 h0 O (cpN (1 : Int32) n x1 x2) (cpN (1 : Int32) nb y1 y2)) e36 (by decide) (by decide) (by decide) (by decide) (g := (mkF m 45 #[vr a, vr b, vi (0 : Int32), vi (0 : Int32), vi (cpN (1 : Int32) n x1 x2), vi (cpN (1 : Int32) nb y1 y2)] [(.int (cpN (1 : Int32) nb y1 y2)), (.int (cpN (1 : Int32) n x1 x2))])) rfl (by rw [hml]; rfl) (argsL := [(.int (cpN (1 : Int32) n x1 x2)), (.int (cpN (1 : Int32) nb y1 y2))]) (rest := []) (lenOf pd_oIIcI rfl) rfl (wk rfl rfl) (hb hby d9_45)
        obtain ⟨rfl, e39, rfl⟩ := q39
        have N39 := Fr.app N36 (Fr.nil n0)
        refine Fin.go st39 ?_
        show Fin _ _ _ _ _ _ _ _ T39 (mkF m 48 #[vr a, vr b, vi (0 : Int32), vi (0 : Int32), vi (cpN (1 : Int32) n x1 x2), vi (cpN (1 : Int32) nb y1 y2)] [(.int (icmp (cpN (1 : Int32) n x1 x2) (cpN (1 : Int32) nb y1 y2)))])
        exact Fin.leaveN X39 e39 hlk (v := some (.int (icmp (cpN (1 : Int32) n x1 x2) (cpN (1 : Int32) nb y1 y2)))) (nvS hret) (by decide) (by decide) ⟨by unfold H0 stp; rw [if_pos c9, if_pos c17, if_neg c38], rfl, rfl⟩ (fun fs hr => retI X39 hx hret (hb hby d9_48) hr)
    · refine .go (fun _ k => XS.icmpYes X34.here hx rfl (pc0 := 17) (pc' := 68) rfl (hb hby d9_17) rfl (XT.ii_ge_t c17) (by decide) (by decide) k) ?_
      show Fin _ _ _ _ _ _ _ _ T34 (mkF m 68 #[vr a, vr b, vi (0 : Int32), vi (0 : Int32), .unset, .unset] [])
      exact tailX T34 X34 e34 (0 : Int32) .unset .unset (by unfold H0 stp; rw [if_pos c9, if_neg c17])
  · refine .go (fun _ k => XS.icmpYes X33.here hx rfl (pc0 := 9) (pc' := 68) rfl (hb hby d9_9) rfl (XT.ii_ge_t c9) (by decide) (by decide) k) ?_
    show Fin _ _ _ _ _ _ _ _ T33 (mkF m 68 #[vr a, vr b, vi (0 : Int32), vi (0 : Int32), .unset, .unset] [])
    exact tailX T33 X33 e33 (0 : Int32) .unset .unset (by unfold H0 stp; rw [if_neg c9])
theorem rmHigh (l : Launch) (Z : State) (a0 : Array Value) (hw : HW a0 Z) (n0 : Nat) (h0 : Heap) (O : Old Z n0 h0) (x : Int32) :
    ConW FrameEnd l Z [] (⟨"com/example/muster/muster/campaign/TextOrderComparePinLaw", "high", "(C)Z"⟩ : MethodName) method_5_code 1 (some .boolean) ({ frames := 0, cells := 0, slots := 0, locals := 0 } : Room) #[(.int x)] h0 (Pure h0 (some (.int (hs x)))) := by
  refine conOf (plainFor_of_name pn_com_example_muster_muster_campaign_TextOrderComparePinLaw) ?_
  intro p e s m below mth cc s₁ X0 hx hby hml hown hnm hret hlk hZ e0
  have N0 := Fr.nil n0
  refine Fin.came (castTop (t := _) (by first | (simp [entryFrame, mkF, argsToLocals, Value.category]; done) | rfl) (Steps.refl _) : Steps p.tables e below (s₁.setTop (entryFrame m #[(.int x)] 1)) (s₁.setTop (mkF m 0 #[vi x] []))) ?_
  refine .go (fun _ k => XS.iloadN X0.here hx rfl (hb hby d16_0) rfl k) ?_
  refine .go (fun _ k => X0.ldcI hx hown (mvT hZ (hw _ w_72)) rfl (hb hby d16_1) k) ?_
  by_cases c3 : x < (55296 : Int32)
  · refine .go (fun _ k => XS.icmpYes X0.here hx rfl (pc0 := 3) (pc' := 16) rfl (hb hby d16_3) rfl (XT.ii_lt_t c3) (by decide) (by decide) k) ?_
    show Fin _ _ _ _ _ _ _ _ s₁ (mkF m 16 #[vi x] [])
    refine .go (fun _ k => XS.iconst X0.here hx rfl (hb hby d16_16) k) ?_
    exact Fin.leaveN X0 e0 hlk (v := some (.int (nar .boolean (0 : Int32)))) (nvS hret) (by decide) (by decide) ⟨by have q := f56 x; simp_all [hs, nar], rfl, rfl⟩ (fun fs hr => retN X0 hx (t := .boolean) hret (by simp) (hb hby d16_17) hr)
  · refine .go (fun _ k => XS.icmpNo X0.here hx rfl (hb hby d16_3) rfl (XT.ii_lt_f c3) k) ?_
    show Fin _ _ _ _ _ _ _ _ s₁ (mkF m 6 #[vi x] [])
    refine .go (fun _ k => XS.iloadN X0.here hx rfl (hb hby d16_6) rfl k) ?_
    refine .go (fun _ k => X0.ldcI hx hown (mvT hZ (hw _ w_134)) rfl (hb hby d16_7) k) ?_
    by_cases c9 : (56319 : Int32) < x
    · refine .go (fun _ k => XS.icmpYes X0.here hx rfl (pc0 := 9) (pc' := 16) rfl (hb hby d16_9) rfl (XT.ii_gt_t c9) (by decide) (by decide) k) ?_
      show Fin _ _ _ _ _ _ _ _ s₁ (mkF m 16 #[vi x] [])
      refine .go (fun _ k => XS.iconst X0.here hx rfl (hb hby d16_16) k) ?_
      exact Fin.leaveN X0 e0 hlk (v := some (.int (nar .boolean (0 : Int32)))) (nvS hret) (by decide) (by decide) ⟨by have q := f56 x; simp_all [hs, nar], rfl, rfl⟩ (fun fs hr => retN X0 hx (t := .boolean) hret (by simp) (hb hby d16_17) hr)
    · refine .go (fun _ k => XS.icmpNo X0.here hx rfl (hb hby d16_9) rfl (XT.ii_gt_f c9) k) ?_
      show Fin _ _ _ _ _ _ _ _ s₁ (mkF m 12 #[vi x] [])
      refine .go (fun _ k => XS.iconst X0.here hx rfl (hb hby d16_12) k) ?_
      refine .go (fun _ k => XS.goto X0.here hx rfl (pc0 := 13) (pc' := 17) rfl (hb hby d16_13) (by decide) (by decide) k) ?_
      exact Fin.leaveN X0 e0 hlk (v := some (.int (nar .boolean (1 : Int32)))) (nvS hret) (by decide) (by decide) ⟨by have q := f56 x; simp_all [hs, nar], rfl, rfl⟩ (fun fs hr => retN X0 hx (t := .boolean) hret (by simp) (hb hby d16_17) hr)
theorem rmLow (l : Launch) (Z : State) (a0 : Array Value) (hw : HW a0 Z) (n0 : Nat) (h0 : Heap) (O : Old Z n0 h0) (x : Int32) :
    ConW FrameEnd l Z [] (⟨"com/example/muster/muster/campaign/TextOrderComparePinLaw", "low", "(C)Z"⟩ : MethodName) method_6_code 1 (some .boolean) ({ frames := 0, cells := 0, slots := 0, locals := 0 } : Room) #[(.int x)] h0 (Pure h0 (some (.int (lsu x)))) := by
  refine conOf (plainFor_of_name pn_com_example_muster_muster_campaign_TextOrderComparePinLaw) ?_
  intro p e s m below mth cc s₁ X0 hx hby hml hown hnm hret hlk hZ e0
  have N0 := Fr.nil n0
  refine Fin.came (castTop (t := _) (by first | (simp [entryFrame, mkF, argsToLocals, Value.category]; done) | rfl) (Steps.refl _) : Steps p.tables e below (s₁.setTop (entryFrame m #[(.int x)] 1)) (s₁.setTop (mkF m 0 #[vi x] []))) ?_
  refine .go (fun _ k => XS.iloadN X0.here hx rfl (hb hby d33_0) rfl k) ?_
  refine .go (fun _ k => X0.ldcI hx hown (mvT hZ (hw _ w_5)) rfl (hb hby d33_1) k) ?_
  by_cases c3 : x < (56320 : Int32)
  · refine .go (fun _ k => XS.icmpYes X0.here hx rfl (pc0 := 3) (pc' := 16) rfl (hb hby d33_3) rfl (XT.ii_lt_t c3) (by decide) (by decide) k) ?_
    show Fin _ _ _ _ _ _ _ _ s₁ (mkF m 16 #[vi x] [])
    refine .go (fun _ k => XS.iconst X0.here hx rfl (hb hby d33_16) k) ?_
    exact Fin.leaveN X0 e0 hlk (v := some (.int (nar .boolean (0 : Int32)))) (nvS hret) (by decide) (by decide) ⟨by have q := f57 x; simp_all [lsu, nar], rfl, rfl⟩ (fun fs hr => retN X0 hx (t := .boolean) hret (by simp) (hb hby d33_17) hr)
  · refine .go (fun _ k => XS.icmpNo X0.here hx rfl (hb hby d33_3) rfl (XT.ii_lt_f c3) k) ?_
    show Fin _ _ _ _ _ _ _ _ s₁ (mkF m 6 #[vi x] [])
    refine .go (fun _ k => XS.iloadN X0.here hx rfl (hb hby d33_6) rfl k) ?_
    refine .go (fun _ k => X0.ldcI hx hown (mvT hZ (hw _ w_143)) rfl (hb hby d33_7) k) ?_
    by_cases c9 : (57343 : Int32) < x
    · refine .go (fun _ k => XS.icmpYes X0.here hx rfl (pc0 := 9) (pc' := 16) rfl (hb hby d33_9) rfl (XT.ii_gt_t c9) (by decide) (by decide) k) ?_
      show Fin _ _ _ _ _ _ _ _ s₁ (mkF m 16 #[vi x] [])
      refine .go (fun _ k => XS.iconst X0.here hx rfl (hb hby d33_16) k) ?_
      exact Fin.leaveN X0 e0 hlk (v := some (.int (nar .boolean (0 : Int32)))) (nvS hret) (by decide) (by decide) ⟨by have q := f57 x; simp_all [lsu, nar], rfl, rfl⟩ (fun fs hr => retN X0 hx (t := .boolean) hret (by simp) (hb hby d33_17) hr)
    · refine .go (fun _ k => XS.icmpNo X0.here hx rfl (hb hby d33_9) rfl (XT.ii_gt_f c9) k) ?_
      show Fin _ _ _ _ _ _ _ _ s₁ (mkF m 12 #[vi x] [])
      refine .go (fun _ k => XS.iconst X0.here hx rfl (hb hby d33_12) k) ?_
      refine .go (fun _ k => XS.goto X0.here hx rfl (pc0 := 13) (pc' := 17) rfl (hb hby d33_13) (by decide) (by decide) k) ?_
      exact Fin.leaveN X0 e0 hlk (v := some (.int (nar .boolean (1 : Int32)))) (nvS hret) (by decide) (by decide) ⟨by have q := f57 x; simp_all [lsu, nar], rfl, rfl⟩ (fun fs hr => retN X0 hx (t := .boolean) hret (by simp) (hb hby d33_17) hr)
theorem rmCm (l : Launch) (Z : State) (a0 : Array Value) (hw : HW a0 Z) (n0 : Nat) (h0 : Heap) (O : Old Z n0 h0) (x y : Int32) :
    ConW FrameEnd l Z [] (⟨"com/example/muster/muster/campaign/TextOrderComparePinLaw", "cmp", "(II)I"⟩ : MethodName) method_10_code 2 (some .int) ({ frames := 0, cells := 0, slots := 0, locals := 0 } : Room) #[(.int x), (.int y)] h0 (Pure h0 (some (.int (lcmI x y)))) := by
  refine conOf (plainFor_of_name pn_com_example_muster_muster_campaign_TextOrderComparePinLaw) ?_
  intro p e s m below mth cc s₁ X0 hx hby hml hown hnm hret hlk hZ e0
  have N0 := Fr.nil n0
  refine Fin.came (castTop (t := _) (by first | (simp [entryFrame, mkF, argsToLocals, Value.category]; done) | rfl) (Steps.refl _) : Steps p.tables e below (s₁.setTop (entryFrame m #[(.int x), (.int y)] 2)) (s₁.setTop (mkF m 0 #[vi x, vi y] []))) ?_
  refine .go (fun _ k => XS.iloadN X0.here hx rfl (hb hby d18_0) rfl k) ?_
  refine .go (fun _ k => XS.iloadN X0.here hx rfl (hb hby d18_1) rfl k) ?_
  by_cases c2 : x < y
  · refine .go (fun _ k => XS.icmpNo X0.here hx rfl (hb hby d18_2) rfl (XT.ii_ge_f c2) k) ?_
    show Fin _ _ _ _ _ _ _ _ s₁ (mkF m 5 #[vi x, vi y] [])
    refine .go (fun _ k => XS.iconst X0.here hx rfl (hb hby d18_5) k) ?_
    exact Fin.leaveN X0 e0 hlk (v := some (.int (-1 : Int32))) (nvS hret) (by decide) (by decide) ⟨by simp [lcmI, c2], rfl, rfl⟩ (fun fs hr => retI X0 hx hret (hb hby d18_6) hr)
  · refine .go (fun _ k => XS.icmpYes X0.here hx rfl (pc0 := 2) (pc' := 7) rfl (hb hby d18_2) rfl (XT.ii_ge_t c2) (by decide) (by decide) k) ?_
    show Fin _ _ _ _ _ _ _ _ s₁ (mkF m 7 #[vi x, vi y] [])
    refine .go (fun _ k => XS.iloadN X0.here hx rfl (hb hby d18_7) rfl k) ?_
    refine .go (fun _ k => XS.iloadN X0.here hx rfl (hb hby d18_8) rfl k) ?_
    by_cases c9 : y < x
    · refine .go (fun _ k => XS.icmpNo X0.here hx rfl (hb hby d18_9) rfl (XT.ii_le_f c9) k) ?_
      show Fin _ _ _ _ _ _ _ _ s₁ (mkF m 12 #[vi x, vi y] [])
      refine .go (fun _ k => XS.iconst X0.here hx rfl (hb hby d18_12) k) ?_
      exact Fin.leaveN X0 e0 hlk (v := some (.int (1 : Int32))) (nvS hret) (by decide) (by decide) ⟨by simp [lcmI, c2, c9], rfl, rfl⟩ (fun fs hr => retI X0 hx hret (hb hby d18_13) hr)
    · refine .go (fun _ k => XS.icmpYes X0.here hx rfl (pc0 := 9) (pc' := 14) rfl (hb hby d18_9) rfl (XT.ii_le_t c9) (by decide) (by decide) k) ?_
      show Fin _ _ _ _ _ _ _ _ s₁ (mkF m 14 #[vi x, vi y] [])
      refine .go (fun _ k => XS.iconst X0.here hx rfl (hb hby d18_14) k) ?_
      exact Fin.leaveN X0 e0 hlk (v := some (.int (0 : Int32))) (nvS hret) (by decide) (by decide) ⟨by simp [lcmI, c2, c9], rfl, rfl⟩ (fun fs hr => retI X0 hx hret (hb hby d18_15) hr)
theorem rmSg (l : Launch) (Z : State) (a0 : Array Value) (hw : HW a0 Z) (n0 : Nat) (h0 : Heap) (O : Old Z n0 h0) (x : Int32) :
    ConW FrameEnd l Z [] (⟨"com/example/muster/muster/campaign/TextOrderComparePinLaw", "sgn", "(I)I"⟩ : MethodName) method_12_code 1 (some .int) ({ frames := 0, cells := 0, slots := 0, locals := 0 } : Room) #[(.int x)] h0 (Pure h0 (some (.int (sgF x)))) := by
  refine conOf (plainFor_of_name pn_com_example_muster_muster_campaign_TextOrderComparePinLaw) ?_
  intro p e s m below mth cc s₁ X0 hx hby hml hown hnm hret hlk hZ e0
  have N0 := Fr.nil n0
  refine Fin.came (castTop (t := _) (by first | (simp [entryFrame, mkF, argsToLocals, Value.category]; done) | rfl) (Steps.refl _) : Steps p.tables e below (s₁.setTop (entryFrame m #[(.int x)] 1)) (s₁.setTop (mkF m 0 #[vi x] []))) ?_
  refine .go (fun _ k => XS.iloadN X0.here hx rfl (hb hby d19_0) rfl k) ?_
  by_cases c1 : x < 0
  · refine .go (fun _ k => XS.ifNo X0.here hx rfl (hb hby d19_1) rfl (XT.i0_ge_f c1) k) ?_
    show Fin _ _ _ _ _ _ _ _ s₁ (mkF m 4 #[vi x] [])
    refine .go (fun _ k => XS.iconst X0.here hx rfl (hb hby d19_4) k) ?_
    exact Fin.leaveN X0 e0 hlk (v := some (.int (-1 : Int32))) (nvS hret) (by decide) (by decide) ⟨by simp [sgF, c1], rfl, rfl⟩ (fun fs hr => retI X0 hx hret (hb hby d19_5) hr)
  · refine .go (fun _ k => XS.ifYes X0.here hx rfl (pc0 := 1) (pc' := 6) rfl (hb hby d19_1) rfl (XT.i0_ge_t c1) (by decide) (by decide) k) ?_
    show Fin _ _ _ _ _ _ _ _ s₁ (mkF m 6 #[vi x] [])
    refine .go (fun _ k => XS.iloadN X0.here hx rfl (hb hby d19_6) rfl k) ?_
    by_cases c7 : 0 < x
    · refine .go (fun _ k => XS.ifNo X0.here hx rfl (hb hby d19_7) rfl (XT.i0_le_f c7) k) ?_
      show Fin _ _ _ _ _ _ _ _ s₁ (mkF m 10 #[vi x] [])
      refine .go (fun _ k => XS.iconst X0.here hx rfl (hb hby d19_10) k) ?_
      exact Fin.leaveN X0 e0 hlk (v := some (.int (1 : Int32))) (nvS hret) (by decide) (by decide) ⟨by simp [sgF, c1, c7], rfl, rfl⟩ (fun fs hr => retI X0 hx hret (hb hby d19_11) hr)
    · refine .go (fun _ k => XS.ifYes X0.here hx rfl (pc0 := 7) (pc' := 12) rfl (hb hby d19_7) rfl (XT.i0_le_t c7) (by decide) (by decide) k) ?_
      show Fin _ _ _ _ _ _ _ _ s₁ (mkF m 12 #[vi x] [])
      refine .go (fun _ k => XS.iconst X0.here hx rfl (hb hby d19_12) k) ?_
      exact Fin.leaveN X0 e0 hlk (v := some (.int (0 : Int32))) (nvS hret) (by decide) (by decide) ⟨by simp [sgF, c1, c7], rfl, rfl⟩ (fun fs hr => retI X0 hx hret (hb hby d19_13) hr)
theorem rmMk (l : Launch) (Z : State) (a0 : Array Value) (hw : HW a0 Z) (n0 : Nat) (h0 : Heap) (O : Old Z n0 h0) (x : Int32) :
    ConW FrameEnd l Z [] (⟨"com/example/muster/muster/campaign/TextOrderComparePinLaw", "mk", "(I)C"⟩ : MethodName) method_3_code 3 (some .char) ({ frames := 0, cells := 0, slots := 0, locals := 0 } : Room) #[(.int x)] h0 (fun v h L => ∃ r, v = some (.int r) ∧ h = h0 ∧ L = [] ∧ ChI r) := by
  refine conOf (plainFor_of_name pn_com_example_muster_muster_campaign_TextOrderComparePinLaw) ?_
  intro p e s m below mth cc s₁ X0 hx hby hml hown hnm hret hlk hZ e0
  have N0 := Fr.nil n0
  refine Fin.came (castTop (t := _) (by first | (simp [entryFrame, mkF, argsToLocals, Value.category]; done) | rfl) (Steps.refl _) : Steps p.tables e below (s₁.setTop (entryFrame m #[(.int x)] 3)) (s₁.setTop (mkF m 0 #[vi x, .unset, .unset] []))) ?_
  refine .go (fun _ k => XS.iloadN X0.here hx rfl (hb hby d1_0) rfl k) ?_
  refine .go (fun _ k => XS.iconst X0.here hx rfl (hb hby d1_1) k) ?_
  refine .go (fun _ k => XS.iand X0.here hx rfl (hb hby d1_2) rfl k) ?_
  refine .go (fun _ k => XS.istoreN X0.here hx rfl (hb hby d1_3) rfl (l' := #[vi x, vi (x &&& (3 : Int32)), .unset]) rfl k) ?_
  refine .go (fun _ k => XS.iloadN X0.here hx rfl (hb hby d1_4) rfl k) ?_
  refine .go (fun _ k => XS.iconst X0.here hx rfl (hb hby d1_5) k) ?_
  refine .go (fun _ k => XT.iushr X0.here hx rfl (hb hby d1_6) rfl k) ?_
  refine .go (fun _ k => XS.istoreN X0.here hx rfl (hb hby d1_7) rfl (l' := #[vi x, vi (x &&& (3 : Int32)), vi (XT.ushr x (2 : Int32))]) rfl k) ?_
  refine .go (fun _ k => XS.iloadN X0.here hx rfl (hb hby d1_8) rfl k) ?_
  show Fin _ _ _ _ _ _ _ _ s₁ (mkF m 9 #[vi x, vi (x &&& (3 : Int32)), vi (XT.ushr x (2 : Int32))] [(.int (x &&& (3 : Int32)))])
  by_cases c9 : (x &&& (3 : Int32)) = 0
  · refine .go (fun _ k => XS.ifNo X0.here hx rfl (hb hby d1_9) rfl (XT.i0_ne_f c9) k) ?_
    show Fin _ _ _ _ _ _ _ _ s₁ (mkF m 12 #[vi x, vi (x &&& (3 : Int32)), vi (XT.ushr x (2 : Int32))] [])
    refine .go (fun _ k => XS.iloadN X0.here hx rfl (hb hby d1_12) rfl k) ?_
    refine .go (fun _ k => XS.bipush X0.here hx rfl (hb hby d1_13) k) ?_
    refine .go (fun _ k => XS.iand X0.here hx rfl (hb hby d1_15) rfl k) ?_
    refine .go (fun _ k => XT.i2c X0.here hx rfl (hb hby d1_16) rfl k) ?_
    exact Fin.leaveN X0 e0 hlk (v := some (.int (nar .char ((Int32.toUInt32 ((XT.ushr x (2 : Int32)) &&& (127 : Int32))).toUInt16.toUInt32.toInt32)))) (nvS hret) (by decide) (by decide) ⟨_, rfl, rfl, rfl, chNar _⟩ (fun fs hr => retN X0 hx (t := .char) hret (by simp) (hb hby d1_17) hr)
  · refine .go (fun _ k => XS.ifYes X0.here hx rfl (pc0 := 9) (pc' := 18) rfl (hb hby d1_9) rfl (XT.i0_ne_t c9) (by decide) (by decide) k) ?_
    show Fin _ _ _ _ _ _ _ _ s₁ (mkF m 18 #[vi x, vi (x &&& (3 : Int32)), vi (XT.ushr x (2 : Int32))] [])
    refine .go (fun _ k => XS.iloadN X0.here hx rfl (hb hby d1_18) rfl k) ?_
    refine .go (fun _ k => XS.iconst X0.here hx rfl (hb hby d1_19) k) ?_
    by_cases c20 : (x &&& (3 : Int32)) = (1 : Int32)
    · refine .go (fun _ k => XS.icmpNo X0.here hx rfl (hb hby d1_20) rfl (XT.ii_ne_f c20) k) ?_
      show Fin _ _ _ _ _ _ _ _ s₁ (mkF m 23 #[vi x, vi (x &&& (3 : Int32)), vi (XT.ushr x (2 : Int32))] [])
      refine .go (fun _ k => X0.ldcI hx hown (mvT hZ (hw _ w_72)) rfl (hb hby d1_23) k) ?_
      refine .go (fun _ k => XS.iloadN X0.here hx rfl (hb hby d1_25) rfl k) ?_
      refine .go (fun _ k => XS.sipush X0.here hx rfl (hb hby d1_26) k) ?_
      refine .go (fun _ k => XS.iand X0.here hx rfl (hb hby d1_29) rfl k) ?_
      refine .go (fun _ k => XT.ior X0.here hx rfl (hb hby d1_30) rfl k) ?_
      refine .go (fun _ k => XT.i2c X0.here hx rfl (hb hby d1_31) rfl k) ?_
      exact Fin.leaveN X0 e0 hlk (v := some (.int (nar .char ((Int32.toUInt32 ((55296 : Int32) ||| ((XT.ushr x (2 : Int32)) &&& (1023 : Int32)))).toUInt16.toUInt32.toInt32)))) (nvS hret) (by decide) (by decide) ⟨_, rfl, rfl, rfl, chNar _⟩ (fun fs hr => retN X0 hx (t := .char) hret (by simp) (hb hby d1_32) hr)
    · refine .go (fun _ k => XS.icmpYes X0.here hx rfl (pc0 := 20) (pc' := 33) rfl (hb hby d1_20) rfl (XT.ii_ne_t c20) (by decide) (by decide) k) ?_
      show Fin _ _ _ _ _ _ _ _ s₁ (mkF m 33 #[vi x, vi (x &&& (3 : Int32)), vi (XT.ushr x (2 : Int32))] [])
      refine .go (fun _ k => XS.iloadN X0.here hx rfl (hb hby d1_33) rfl k) ?_
      refine .go (fun _ k => XS.iconst X0.here hx rfl (hb hby d1_34) k) ?_
      by_cases c35 : (x &&& (3 : Int32)) = (2 : Int32)
      · refine .go (fun _ k => XS.icmpNo X0.here hx rfl (hb hby d1_35) rfl (XT.ii_ne_f c35) k) ?_
        show Fin _ _ _ _ _ _ _ _ s₁ (mkF m 38 #[vi x, vi (x &&& (3 : Int32)), vi (XT.ushr x (2 : Int32))] [])
        refine .go (fun _ k => X0.ldcI hx hown (mvT hZ (hw _ w_5)) rfl (hb hby d1_38) k) ?_
        refine .go (fun _ k => XS.iloadN X0.here hx rfl (hb hby d1_40) rfl k) ?_
        refine .go (fun _ k => XS.sipush X0.here hx rfl (hb hby d1_41) k) ?_
        refine .go (fun _ k => XS.iand X0.here hx rfl (hb hby d1_44) rfl k) ?_
        refine .go (fun _ k => XT.ior X0.here hx rfl (hb hby d1_45) rfl k) ?_
        refine .go (fun _ k => XT.i2c X0.here hx rfl (hb hby d1_46) rfl k) ?_
        exact Fin.leaveN X0 e0 hlk (v := some (.int (nar .char ((Int32.toUInt32 ((56320 : Int32) ||| ((XT.ushr x (2 : Int32)) &&& (1023 : Int32)))).toUInt16.toUInt32.toInt32)))) (nvS hret) (by decide) (by decide) ⟨_, rfl, rfl, rfl, chNar _⟩ (fun fs hr => retN X0 hx (t := .char) hret (by simp) (hb hby d1_47) hr)
      · refine .go (fun _ k => XS.icmpYes X0.here hx rfl (pc0 := 35) (pc' := 48) rfl (hb hby d1_35) rfl (XT.ii_ne_t c35) (by decide) (by decide) k) ?_
        show Fin _ _ _ _ _ _ _ _ s₁ (mkF m 48 #[vi x, vi (x &&& (3 : Int32)), vi (XT.ushr x (2 : Int32))] [])
        refine .go (fun _ k => XS.iloadN X0.here hx rfl (hb hby d1_48) rfl k) ?_
        refine .go (fun _ k => X0.ldcI hx hown (mvT hZ (hw _ w_4)) rfl (hb hby d1_49) k) ?_
        refine .go (fun _ k => XS.iand X0.here hx rfl (hb hby d1_51) rfl k) ?_
        refine .go (fun _ k => XT.i2c X0.here hx rfl (hb hby d1_52) rfl k) ?_
        exact Fin.leaveN X0 e0 hlk (v := some (.int (nar .char ((Int32.toUInt32 ((XT.ushr x (2 : Int32)) &&& (65535 : Int32))).toUInt16.toUInt32.toInt32)))) (nvS hret) (by decide) (by decide) ⟨_, rfl, rfl, rfl, chNar _⟩ (fun fs hr => retN X0 hx (t := .char) hret (by simp) (hb hby d1_53) hr)
theorem rmPa0 (l : Launch) (Z : State) (a0 : Array Value) (hw : HW a0 Z) (n0 : Nat) (h0 : Heap) (O : Old Z n0 h0) (b : Addr) (kb : ClassId) (n x1 x2 x3 : Int32) (VB : Arv Z h0 b kb .char (3 : Int32) [(.int x1), (.int x2), (.int x3)] (.int (0 : Int32))) (hn : 0 ≤ n.toInt ∧ n.toInt ≤ 3) :
    ConW FrameEnd l Z [] (⟨"com/example/muster/muster/campaign/TextOrderComparePinLaw", "pairAt", "([CII)Z"⟩ : MethodName) method_7_code 3 (some .boolean) ({ frames := 1, cells := 0, slots := 0, locals := 12 } : Room) #[(.ref b), (.int n), (.int (0 : Int32))] h0 (Pure h0 (some (.int (pa (1 : Int32) n x1 x2)))) := by
  refine conOf (plainFor_of_name pn_com_example_muster_muster_campaign_TextOrderComparePinLaw) ?_
  intro p e s m below mth cc s₁ X0 hx hby hml hown hnm hret hlk hZ e0
  have N0 := Fr.nil n0
  refine Fin.came (castTop (t := _) (by first | (simp [entryFrame, mkF, argsToLocals, Value.category]; done) | rfl) (Steps.refl _) : Steps p.tables e below (s₁.setTop (entryFrame m #[(.ref b), (.int n), (.int (0 : Int32))] 3)) (s₁.setTop (mkF m 0 #[vr b, vi n, vi (0 : Int32)] []))) ?_
  refine .go (fun _ k => XS.iloadN X0.here hx rfl (hb hby d15_0) rfl k) ?_
  refine .go (fun _ k => XS.iconst X0.here hx rfl (hb hby d15_1) k) ?_
  refine .go (fun _ k => XS.iadd X0.here hx rfl (hb hby d15_2) rfl k) ?_
  show Fin _ _ _ _ _ _ _ _ s₁ (mkF m 3 #[vr b, vi n, vi (0 : Int32)] [(.int ((0 : Int32) + (1 : Int32)))])
  rw [show ((0 : Int32) + (1 : Int32)) = (1 : Int32) from by decide]
  show Fin _ _ _ _ _ _ _ _ s₁ (mkF m 3 #[vr b, vi n, vi (0 : Int32)] [(.int (1 : Int32))])
  refine .go (fun _ k => XS.iloadN X0.here hx rfl (hb hby d15_3) rfl k) ?_
  by_cases c4 : (1 : Int32) < n
  · refine .go (fun _ k => XS.icmpNo X0.here hx rfl (hb hby d15_4) rfl (XT.ii_ge_f c4) k) ?_
    show Fin _ _ _ _ _ _ _ _ s₁ (mkF m 7 #[vr b, vi n, vi (0 : Int32)] [])
    refine .go (fun _ k => XS.aloadN X0.here hx rfl (hb hby d15_7) rfl rfl k) ?_
    refine .go (fun _ k => XS.iloadN X0.here hx rfl (hb hby d15_8) rfl k) ?_
    obtain ⟨cz11, B11, q11, S11, M11, H11, G11⟩ := id VB
    have i11 := inb_of S11 ⟨(by decide : ¬ ((0 : Int32) < (0 : Int32))), (by decide : (0 : Int32) < (3 : Int32))⟩
    refine Fin.go (fun _ k => X0.caload hx (j := (0 : Int32)) (v := (.int x1)) (by rw [e0]; exact B11.1) (State.isArrayOf_alike hZ.alike B11.2.1) B11.2.2 i11 (Has.at H11 i11 rfl) (g := (mkF m 9 #[vr b, vi n, vi (0 : Int32)] [(.int (0 : Int32)), (.ref b)])) rfl rfl (hb hby d15_9) _ k) ?_
    show Fin _ _ _ _ _ _ _ _ s₁ (mkF m 10 #[vr b, vi n, vi (0 : Int32)] [(.int x1)])
    obtain ⟨v12, T12, L12, X12, q12, st12⟩ := callSt X0 hx hZ hown (hw _ w_69) (hw _ w_70) (hw _ w_2) (hw _ w_71) (by decide) (W := 0) (rmHigh l Z a0 hw n0 h0 O x1) e0 (by decide) (by decide) (by decide) (by decide) (g := (mkF m 10 #[vr b, vi n, vi (0 : Int32)] [(.int x1)])) rfl (by rw [hml]; rfl) (argsL := [(.int x1)]) (rest := []) (lenOf pd_oCcZ rfl) rfl (wk rfl rfl) (hb hby d15_10)
    obtain ⟨rfl, e12, rfl⟩ := q12
    have N12 := Fr.app N0 (Fr.nil n0)
    refine Fin.go st12 ?_
    show Fin _ _ _ _ _ _ _ _ T12 (mkF m 13 #[vr b, vi n, vi (0 : Int32)] [(.int (hs x1))])
    by_cases c13 : (hs x1) = 0
    · refine .go (fun _ k => XS.ifYes X12.here hx rfl (pc0 := 13) (pc' := 31) rfl (hb hby d15_13) rfl (XT.i0_eq_t c13) (by decide) (by decide) k) ?_
      show Fin _ _ _ _ _ _ _ _ T12 (mkF m 31 #[vr b, vi n, vi (0 : Int32)] [])
      refine .go (fun _ k => XS.iconst X12.here hx rfl (hb hby d15_31) k) ?_
      exact Fin.leaveN X12 e12 hlk (v := some (.int (nar .boolean (0 : Int32)))) (nvS hret) (by decide) (by decide) ⟨by simp [pa, nar, c4, c13], rfl, rfl⟩ (fun fs hr => retN X12 hx (t := .boolean) hret (by simp) (hb hby d15_32) hr)
    · refine .go (fun _ k => XS.ifNo X12.here hx rfl (hb hby d15_13) rfl (XT.i0_eq_f c13) k) ?_
      show Fin _ _ _ _ _ _ _ _ T12 (mkF m 16 #[vr b, vi n, vi (0 : Int32)] [])
      refine .go (fun _ k => XS.aloadN X12.here hx rfl (hb hby d15_16) rfl rfl k) ?_
      refine .go (fun _ k => XS.iloadN X12.here hx rfl (hb hby d15_17) rfl k) ?_
      refine .go (fun _ k => XS.iconst X12.here hx rfl (hb hby d15_18) k) ?_
      refine .go (fun _ k => XS.iadd X12.here hx rfl (hb hby d15_19) rfl k) ?_
      obtain ⟨cz13, B13, q13, S13, M13, H13, G13⟩ := id VB
      have i13 := inb_of S13 ⟨(by decide : ¬ (((0 : Int32) + (1 : Int32)) < (0 : Int32))), (by decide : ((0 : Int32) + (1 : Int32)) < (3 : Int32))⟩
      refine Fin.go (fun _ k => X12.caload hx (j := ((0 : Int32) + (1 : Int32))) (v := (.int x2)) (by rw [e12]; exact B13.1) (State.isArrayOf_alike hZ.alike B13.2.1) B13.2.2 i13 (Has.at H13 i13 rfl) (g := (mkF m 20 #[vr b, vi n, vi (0 : Int32)] [(.int ((0 : Int32) + (1 : Int32))), (.ref b)])) rfl rfl (hb hby d15_20) _ k) ?_
      show Fin _ _ _ _ _ _ _ _ T12 (mkF m 21 #[vr b, vi n, vi (0 : Int32)] [(.int x2)])
      obtain ⟨v14, T14, L14, X14, q14, st14⟩ := callSt X12 hx hZ hown (hw _ w_135) (hw _ w_136) (hw _ w_2) (hw _ w_137) (by decide) (W := 0) (rmLow l Z a0 hw n0 h0 O x2) e12 (by decide) (by decide) (by decide) (by decide) (g := (mkF m 21 #[vr b, vi n, vi (0 : Int32)] [(.int x2)])) rfl (by rw [hml]; rfl) (argsL := [(.int x2)]) (rest := []) (lenOf pd_oCcZ rfl) rfl (wk rfl rfl) (hb hby d15_21)
      obtain ⟨rfl, e14, rfl⟩ := q14
      have N14 := Fr.app N12 (Fr.nil n0)
      refine Fin.go st14 ?_
      show Fin _ _ _ _ _ _ _ _ T14 (mkF m 24 #[vr b, vi n, vi (0 : Int32)] [(.int (lsu x2))])
      by_cases c24 : (lsu x2) = 0
      · refine .go (fun _ k => XS.ifYes X14.here hx rfl (pc0 := 24) (pc' := 31) rfl (hb hby d15_24) rfl (XT.i0_eq_t c24) (by decide) (by decide) k) ?_
        show Fin _ _ _ _ _ _ _ _ T14 (mkF m 31 #[vr b, vi n, vi (0 : Int32)] [])
        refine .go (fun _ k => XS.iconst X14.here hx rfl (hb hby d15_31) k) ?_
        exact Fin.leaveN X14 e14 hlk (v := some (.int (nar .boolean (0 : Int32)))) (nvS hret) (by decide) (by decide) ⟨by simp [pa, nar, c4, c13, c24], rfl, rfl⟩ (fun fs hr => retN X14 hx (t := .boolean) hret (by simp) (hb hby d15_32) hr)
      · refine .go (fun _ k => XS.ifNo X14.here hx rfl (hb hby d15_24) rfl (XT.i0_eq_f c24) k) ?_
        show Fin _ _ _ _ _ _ _ _ T14 (mkF m 27 #[vr b, vi n, vi (0 : Int32)] [])
        refine .go (fun _ k => XS.iconst X14.here hx rfl (hb hby d15_27) k) ?_
        refine .go (fun _ k => XS.goto X14.here hx rfl (pc0 := 28) (pc' := 32) rfl (hb hby d15_28) (by decide) (by decide) k) ?_
        exact Fin.leaveN X14 e14 hlk (v := some (.int (nar .boolean (1 : Int32)))) (nvS hret) (by decide) (by decide) ⟨by simp [pa, nar, c4, c13, c24], rfl, rfl⟩ (fun fs hr => retN X14 hx (t := .boolean) hret (by simp) (hb hby d15_32) hr)
  · refine .go (fun _ k => XS.icmpYes X0.here hx rfl (pc0 := 4) (pc' := 31) rfl (hb hby d15_4) rfl (XT.ii_ge_t c4) (by decide) (by decide) k) ?_
    show Fin _ _ _ _ _ _ _ _ s₁ (mkF m 31 #[vr b, vi n, vi (0 : Int32)] [])
    refine .go (fun _ k => XS.iconst X0.here hx rfl (hb hby d15_31) k) ?_
    exact Fin.leaveN X0 e0 hlk (v := some (.int (nar .boolean (0 : Int32)))) (nvS hret) (by decide) (by decide) ⟨by simp [pa, nar, c4], rfl, rfl⟩ (fun fs hr => retN X0 hx (t := .boolean) hret (by simp) (hb hby d15_32) hr)
theorem rmWi0 (l : Launch) (Z : State) (a0 : Array Value) (hw : HW a0 Z) (n0 : Nat) (h0 : Heap) (O : Old Z n0 h0) (b : Addr) (kb : ClassId) (n x1 x2 x3 : Int32) (VB : Arv Z h0 b kb .char (3 : Int32) [(.int x1), (.int x2), (.int x3)] (.int (0 : Int32))) (hn : 0 ≤ n.toInt ∧ n.toInt ≤ 3) :
    ConW FrameEnd l Z [] (⟨"com/example/muster/muster/campaign/TextOrderComparePinLaw", "wid", "([CII)I"⟩ : MethodName) method_8_code 3 (some .int) ({ frames := 2, cells := 0, slots := 0, locals := 26 } : Room) #[(.ref b), (.int n), (.int (0 : Int32))] h0 (Pure h0 (some (.int (widF (1 : Int32) n x1 x2)))) := by
  refine conOf (plainFor_of_name pn_com_example_muster_muster_campaign_TextOrderComparePinLaw) ?_
  intro p e s m below mth cc s₁ X0 hx hby hml hown hnm hret hlk hZ e0
  have N0 := Fr.nil n0
  refine Fin.came (castTop (t := _) (by first | (simp [entryFrame, mkF, argsToLocals, Value.category]; done) | rfl) (Steps.refl _) : Steps p.tables e below (s₁.setTop (entryFrame m #[(.ref b), (.int n), (.int (0 : Int32))] 3)) (s₁.setTop (mkF m 0 #[vr b, vi n, vi (0 : Int32)] []))) ?_
  refine .go (fun _ k => XS.aloadN X0.here hx rfl (hb hby d17_0) rfl rfl k) ?_
  refine .go (fun _ k => XS.iloadN X0.here hx rfl (hb hby d17_1) rfl k) ?_
  refine .go (fun _ k => XS.iloadN X0.here hx rfl (hb hby d17_2) rfl k) ?_
  obtain ⟨v11, T11, L11, X11, q11, st11⟩ := callSt X0 hx hZ hown (hw _ w_66) (hw _ w_67) (hw _ w_2) (hw _ w_68) (by decide) (W := 0) (rmPa0 l Z a0 hw n0 h0 O b kb n x1 x2 x3 VB hn) e0 (by decide) (by decide) (by decide) (by decide) (g := (mkF m 3 #[vr b, vi n, vi (0 : Int32)] [(.int (0 : Int32)), (.int n), (.ref b)])) rfl (by rw [hml]; rfl) (argsL := [(.ref b), (.int n), (.int (0 : Int32))]) (rest := []) (lenOf pd_oACIIcZ rfl) rfl (wk rfl rfl) (hb hby d17_3)
  obtain ⟨rfl, e11, rfl⟩ := q11
  have N11 := Fr.app N0 (Fr.nil n0)
  refine Fin.go st11 ?_
  show Fin _ _ _ _ _ _ _ _ T11 (mkF m 6 #[vr b, vi n, vi (0 : Int32)] [(.int (pa (1 : Int32) n x1 x2))])
  by_cases c6 : (pa (1 : Int32) n x1 x2) = 0
  · refine .go (fun _ k => XS.ifYes X11.here hx rfl (pc0 := 6) (pc' := 11) rfl (hb hby d17_6) rfl (XT.i0_eq_t c6) (by decide) (by decide) k) ?_
    show Fin _ _ _ _ _ _ _ _ T11 (mkF m 11 #[vr b, vi n, vi (0 : Int32)] [])
    refine .go (fun _ k => XS.iconst X11.here hx rfl (hb hby d17_11) k) ?_
    exact Fin.leaveN X11 e11 hlk (v := some (.int (1 : Int32))) (nvS hret) (by decide) (by decide) ⟨by simp [widF, c6], rfl, rfl⟩ (fun fs hr => retI X11 hx hret (hb hby d17_12) hr)
  · refine .go (fun _ k => XS.ifNo X11.here hx rfl (hb hby d17_6) rfl (XT.i0_eq_f c6) k) ?_
    show Fin _ _ _ _ _ _ _ _ T11 (mkF m 9 #[vr b, vi n, vi (0 : Int32)] [])
    refine .go (fun _ k => XS.iconst X11.here hx rfl (hb hby d17_9) k) ?_
    exact Fin.leaveN X11 e11 hlk (v := some (.int (2 : Int32))) (nvS hret) (by decide) (by decide) ⟨by simp [widF, c6], rfl, rfl⟩ (fun fs hr => retI X11 hx hret (hb hby d17_10) hr)
theorem rmAt0 (l : Launch) (Z : State) (a0 : Array Value) (hw : HW a0 Z) (n0 : Nat) (h0 : Heap) (O : Old Z n0 h0) (b : Addr) (kb : ClassId) (n x1 x2 x3 : Int32) (VB : Arv Z h0 b kb .char (3 : Int32) [(.int x1), (.int x2), (.int x3)] (.int (0 : Int32))) (hn : 0 ≤ n.toInt ∧ n.toInt ≤ 3) :
    ConW FrameEnd l Z [] (⟨"com/example/muster/muster/campaign/TextOrderComparePinLaw", "at", "([CII)I"⟩ : MethodName) method_9_code 3 (some .int) ({ frames := 2, cells := 0, slots := 0, locals := 26 } : Room) #[(.ref b), (.int n), (.int (0 : Int32))] h0 (Pure h0 (some (.int (atF (0 : Int32) (1 : Int32) n x1 x2)))) := by
  refine conOf (plainFor_of_name pn_com_example_muster_muster_campaign_TextOrderComparePinLaw) ?_
  intro p e s m below mth cc s₁ X0 hx hby hml hown hnm hret hlk hZ e0
  have N0 := Fr.nil n0
  refine Fin.came (castTop (t := _) (by first | (simp [entryFrame, mkF, argsToLocals, Value.category]; done) | rfl) (Steps.refl _) : Steps p.tables e below (s₁.setTop (entryFrame m #[(.ref b), (.int n), (.int (0 : Int32))] 3)) (s₁.setTop (mkF m 0 #[vr b, vi n, vi (0 : Int32)] []))) ?_
  refine .go (fun _ k => XS.iloadN X0.here hx rfl (hb hby d14_0) rfl k) ?_
  refine .go (fun _ k => XS.iloadN X0.here hx rfl (hb hby d14_1) rfl k) ?_
  by_cases c2 : (0 : Int32) < n
  · refine .go (fun _ k => XS.icmpYes X0.here hx rfl (pc0 := 2) (pc' := 7) rfl (hb hby d14_2) rfl (XT.ii_lt_t c2) (by decide) (by decide) k) ?_
    show Fin _ _ _ _ _ _ _ _ s₁ (mkF m 7 #[vr b, vi n, vi (0 : Int32)] [])
    refine .go (fun _ k => XS.aloadN X0.here hx rfl (hb hby d14_7) rfl rfl k) ?_
    refine .go (fun _ k => XS.iloadN X0.here hx rfl (hb hby d14_8) rfl k) ?_
    refine .go (fun _ k => XS.iloadN X0.here hx rfl (hb hby d14_9) rfl k) ?_
    obtain ⟨v11, T11, L11, X11, q11, st11⟩ := callSt X0 hx hZ hown (hw _ w_66) (hw _ w_67) (hw _ w_2) (hw _ w_68) (by decide) (W := 0) (rmPa0 l Z a0 hw n0 h0 O b kb n x1 x2 x3 VB hn) e0 (by decide) (by decide) (by decide) (by decide) (g := (mkF m 10 #[vr b, vi n, vi (0 : Int32)] [(.int (0 : Int32)), (.int n), (.ref b)])) rfl (by rw [hml]; rfl) (argsL := [(.ref b), (.int n), (.int (0 : Int32))]) (rest := []) (lenOf pd_oACIIcZ rfl) rfl (wk rfl rfl) (hb hby d14_10)
    obtain ⟨rfl, e11, rfl⟩ := q11
    have N11 := Fr.app N0 (Fr.nil n0)
    refine Fin.go st11 ?_
    show Fin _ _ _ _ _ _ _ _ T11 (mkF m 13 #[vr b, vi n, vi (0 : Int32)] [(.int (pa (1 : Int32) n x1 x2))])
    by_cases c13 : (pa (1 : Int32) n x1 x2) = 0
    · refine .go (fun _ k => XS.ifYes X11.here hx rfl (pc0 := 13) (pc' := 38) rfl (hb hby d14_13) rfl (XT.i0_eq_t c13) (by decide) (by decide) k) ?_
      show Fin _ _ _ _ _ _ _ _ T11 (mkF m 38 #[vr b, vi n, vi (0 : Int32)] [])
      refine .go (fun _ k => XS.aloadN X11.here hx rfl (hb hby d14_38) rfl rfl k) ?_
      refine .go (fun _ k => XS.iloadN X11.here hx rfl (hb hby d14_39) rfl k) ?_
      obtain ⟨cz12, B12, q12, S12, M12, H12, G12⟩ := id VB
      have i12 := inb_of S12 ⟨(by decide : ¬ ((0 : Int32) < (0 : Int32))), (by decide : (0 : Int32) < (3 : Int32))⟩
      refine Fin.go (fun _ k => X11.caload hx (j := (0 : Int32)) (v := (.int x1)) (by rw [e11]; exact B12.1) (State.isArrayOf_alike hZ.alike B12.2.1) B12.2.2 i12 (Has.at H12 i12 rfl) (g := (mkF m 40 #[vr b, vi n, vi (0 : Int32)] [(.int (0 : Int32)), (.ref b)])) rfl rfl (hb hby d14_40) _ k) ?_
      show Fin _ _ _ _ _ _ _ _ T11 (mkF m 41 #[vr b, vi n, vi (0 : Int32)] [(.int x1)])
      exact Fin.leaveN X11 e11 hlk (v := some (.int x1)) (nvS hret) (by decide) (by decide) ⟨by unfold atF; rw [if_pos c2, cpN_pa0 c13], rfl, rfl⟩ (fun fs hr => retI X11 hx hret (hb hby d14_41) hr)
    · refine .go (fun _ k => XS.ifNo X11.here hx rfl (hb hby d14_13) rfl (XT.i0_eq_f c13) k) ?_
      show Fin _ _ _ _ _ _ _ _ T11 (mkF m 16 #[vr b, vi n, vi (0 : Int32)] [])
      refine .go (fun _ k => XS.aloadN X11.here hx rfl (hb hby d14_16) rfl rfl k) ?_
      refine .go (fun _ k => XS.iloadN X11.here hx rfl (hb hby d14_17) rfl k) ?_
      obtain ⟨cz13, B13, q13, S13, M13, H13, G13⟩ := id VB
      have i13 := inb_of S13 ⟨(by decide : ¬ ((0 : Int32) < (0 : Int32))), (by decide : (0 : Int32) < (3 : Int32))⟩
      refine Fin.go (fun _ k => X11.caload hx (j := (0 : Int32)) (v := (.int x1)) (by rw [e11]; exact B13.1) (State.isArrayOf_alike hZ.alike B13.2.1) B13.2.2 i13 (Has.at H13 i13 rfl) (g := (mkF m 18 #[vr b, vi n, vi (0 : Int32)] [(.int (0 : Int32)), (.ref b)])) rfl rfl (hb hby d14_18) _ k) ?_
      show Fin _ _ _ _ _ _ _ _ T11 (mkF m 19 #[vr b, vi n, vi (0 : Int32)] [(.int x1)])
      refine .go (fun _ k => X11.ldcI hx hown (mvT hZ (hw _ w_72)) rfl (hb hby d14_19) k) ?_
      refine .go (fun _ k => XS.isub X11.here hx rfl (hb hby d14_21) rfl k) ?_
      refine .go (fun _ k => XS.bipush X11.here hx rfl (hb hby d14_22) k) ?_
      refine .go (fun _ k => XT.ishl X11.here hx rfl (hb hby d14_24) rfl k) ?_
      refine .go (fun _ k => XS.aloadN X11.here hx rfl (hb hby d14_25) rfl rfl k) ?_
      refine .go (fun _ k => XS.iloadN X11.here hx rfl (hb hby d14_26) rfl k) ?_
      refine .go (fun _ k => XS.iconst X11.here hx rfl (hb hby d14_27) k) ?_
      refine .go (fun _ k => XS.iadd X11.here hx rfl (hb hby d14_28) rfl k) ?_
      obtain ⟨cz14, B14, q14, S14, M14, H14, G14⟩ := id VB
      have i14 := inb_of S14 ⟨(by decide : ¬ (((0 : Int32) + (1 : Int32)) < (0 : Int32))), (by decide : ((0 : Int32) + (1 : Int32)) < (3 : Int32))⟩
      refine Fin.go (fun _ k => X11.caload hx (j := ((0 : Int32) + (1 : Int32))) (v := (.int x2)) (by rw [e11]; exact B14.1) (State.isArrayOf_alike hZ.alike B14.2.1) B14.2.2 i14 (Has.at H14 i14 rfl) (g := (mkF m 29 #[vr b, vi n, vi (0 : Int32)] [(.int ((0 : Int32) + (1 : Int32))), (.ref b), (.int ((x1 - (55296 : Int32)) <<< ((10 : Int32) &&& 31)))])) rfl rfl (hb hby d14_29) _ k) ?_
      show Fin _ _ _ _ _ _ _ _ T11 (mkF m 30 #[vr b, vi n, vi (0 : Int32)] [(.int x2), (.int ((x1 - (55296 : Int32)) <<< ((10 : Int32) &&& 31)))])
      refine .go (fun _ k => X11.ldcI hx hown (mvT hZ (hw _ w_5)) rfl (hb hby d14_30) k) ?_
      refine .go (fun _ k => XS.isub X11.here hx rfl (hb hby d14_32) rfl k) ?_
      refine .go (fun _ k => XS.iadd X11.here hx rfl (hb hby d14_33) rfl k) ?_
      refine .go (fun _ k => X11.ldcI hx hown (mvT hZ (hw _ w_144)) rfl (hb hby d14_34) k) ?_
      refine .go (fun _ k => XS.iadd X11.here hx rfl (hb hby d14_36) rfl k) ?_
      exact Fin.leaveN X11 e11 hlk (v := some (.int ((((x1 - (55296 : Int32)) <<< ((10 : Int32) &&& 31)) + (x2 - (56320 : Int32))) + (65536 : Int32)))) (nvS hret) (by decide) (by decide) ⟨by unfold atF; rw [if_pos c2, cpN_pa1 c13], rfl, rfl⟩ (fun fs hr => retI X11 hx hret (hb hby d14_37) hr)
  · refine .go (fun _ k => XS.icmpNo X0.here hx rfl (hb hby d14_2) rfl (XT.ii_lt_f c2) k) ?_
    show Fin _ _ _ _ _ _ _ _ s₁ (mkF m 5 #[vr b, vi n, vi (0 : Int32)] [])
    refine .go (fun _ k => XS.iconst X0.here hx rfl (hb hby d14_5) k) ?_
    exact Fin.leaveN X0 e0 hlk (v := some (.int (-1 : Int32))) (nvS hret) (by decide) (by decide) ⟨by unfold atF; rw [if_neg c2], rfl, rfl⟩ (fun fs hr => retI X0 hx hret (hb hby d14_6) hr)
theorem rmPa1 (l : Launch) (Z : State) (a0 : Array Value) (hw : HW a0 Z) (n0 : Nat) (h0 : Heap) (O : Old Z n0 h0) (b : Addr) (kb : ClassId) (n x1 x2 x3 : Int32) (VB : Arv Z h0 b kb .char (3 : Int32) [(.int x1), (.int x2), (.int x3)] (.int (0 : Int32))) (hn : 0 ≤ n.toInt ∧ n.toInt ≤ 3) :
    ConW FrameEnd l Z [] (⟨"com/example/muster/muster/campaign/TextOrderComparePinLaw", "pairAt", "([CII)Z"⟩ : MethodName) method_7_code 3 (some .boolean) ({ frames := 1, cells := 0, slots := 0, locals := 12 } : Room) #[(.ref b), (.int n), (.int (1 : Int32))] h0 (Pure h0 (some (.int (pa (2 : Int32) n x2 x3)))) := by
  refine conOf (plainFor_of_name pn_com_example_muster_muster_campaign_TextOrderComparePinLaw) ?_
  intro p e s m below mth cc s₁ X0 hx hby hml hown hnm hret hlk hZ e0
  have N0 := Fr.nil n0
  refine Fin.came (castTop (t := _) (by first | (simp [entryFrame, mkF, argsToLocals, Value.category]; done) | rfl) (Steps.refl _) : Steps p.tables e below (s₁.setTop (entryFrame m #[(.ref b), (.int n), (.int (1 : Int32))] 3)) (s₁.setTop (mkF m 0 #[vr b, vi n, vi (1 : Int32)] []))) ?_
  refine .go (fun _ k => XS.iloadN X0.here hx rfl (hb hby d15_0) rfl k) ?_
  refine .go (fun _ k => XS.iconst X0.here hx rfl (hb hby d15_1) k) ?_
  refine .go (fun _ k => XS.iadd X0.here hx rfl (hb hby d15_2) rfl k) ?_
  show Fin _ _ _ _ _ _ _ _ s₁ (mkF m 3 #[vr b, vi n, vi (1 : Int32)] [(.int ((1 : Int32) + (1 : Int32)))])
  rw [show ((1 : Int32) + (1 : Int32)) = (2 : Int32) from by decide]
  show Fin _ _ _ _ _ _ _ _ s₁ (mkF m 3 #[vr b, vi n, vi (1 : Int32)] [(.int (2 : Int32))])
  refine .go (fun _ k => XS.iloadN X0.here hx rfl (hb hby d15_3) rfl k) ?_
  by_cases c4 : (2 : Int32) < n
  · refine .go (fun _ k => XS.icmpNo X0.here hx rfl (hb hby d15_4) rfl (XT.ii_ge_f c4) k) ?_
    show Fin _ _ _ _ _ _ _ _ s₁ (mkF m 7 #[vr b, vi n, vi (1 : Int32)] [])
    refine .go (fun _ k => XS.aloadN X0.here hx rfl (hb hby d15_7) rfl rfl k) ?_
    refine .go (fun _ k => XS.iloadN X0.here hx rfl (hb hby d15_8) rfl k) ?_
    obtain ⟨cz11, B11, q11, S11, M11, H11, G11⟩ := id VB
    have i11 := inb_of S11 ⟨(by decide : ¬ ((1 : Int32) < (0 : Int32))), (by decide : (1 : Int32) < (3 : Int32))⟩
    refine Fin.go (fun _ k => X0.caload hx (j := (1 : Int32)) (v := (.int x2)) (by rw [e0]; exact B11.1) (State.isArrayOf_alike hZ.alike B11.2.1) B11.2.2 i11 (Has.at H11 i11 rfl) (g := (mkF m 9 #[vr b, vi n, vi (1 : Int32)] [(.int (1 : Int32)), (.ref b)])) rfl rfl (hb hby d15_9) _ k) ?_
    show Fin _ _ _ _ _ _ _ _ s₁ (mkF m 10 #[vr b, vi n, vi (1 : Int32)] [(.int x2)])
    obtain ⟨v12, T12, L12, X12, q12, st12⟩ := callSt X0 hx hZ hown (hw _ w_69) (hw _ w_70) (hw _ w_2) (hw _ w_71) (by decide) (W := 0) (rmHigh l Z a0 hw n0 h0 O x2) e0 (by decide) (by decide) (by decide) (by decide) (g := (mkF m 10 #[vr b, vi n, vi (1 : Int32)] [(.int x2)])) rfl (by rw [hml]; rfl) (argsL := [(.int x2)]) (rest := []) (lenOf pd_oCcZ rfl) rfl (wk rfl rfl) (hb hby d15_10)
    obtain ⟨rfl, e12, rfl⟩ := q12
    have N12 := Fr.app N0 (Fr.nil n0)
    refine Fin.go st12 ?_
    show Fin _ _ _ _ _ _ _ _ T12 (mkF m 13 #[vr b, vi n, vi (1 : Int32)] [(.int (hs x2))])
    by_cases c13 : (hs x2) = 0
    · refine .go (fun _ k => XS.ifYes X12.here hx rfl (pc0 := 13) (pc' := 31) rfl (hb hby d15_13) rfl (XT.i0_eq_t c13) (by decide) (by decide) k) ?_
      show Fin _ _ _ _ _ _ _ _ T12 (mkF m 31 #[vr b, vi n, vi (1 : Int32)] [])
      refine .go (fun _ k => XS.iconst X12.here hx rfl (hb hby d15_31) k) ?_
      exact Fin.leaveN X12 e12 hlk (v := some (.int (nar .boolean (0 : Int32)))) (nvS hret) (by decide) (by decide) ⟨by simp [pa, nar, c4, c13], rfl, rfl⟩ (fun fs hr => retN X12 hx (t := .boolean) hret (by simp) (hb hby d15_32) hr)
    · refine .go (fun _ k => XS.ifNo X12.here hx rfl (hb hby d15_13) rfl (XT.i0_eq_f c13) k) ?_
      show Fin _ _ _ _ _ _ _ _ T12 (mkF m 16 #[vr b, vi n, vi (1 : Int32)] [])
      refine .go (fun _ k => XS.aloadN X12.here hx rfl (hb hby d15_16) rfl rfl k) ?_
      refine .go (fun _ k => XS.iloadN X12.here hx rfl (hb hby d15_17) rfl k) ?_
      refine .go (fun _ k => XS.iconst X12.here hx rfl (hb hby d15_18) k) ?_
      refine .go (fun _ k => XS.iadd X12.here hx rfl (hb hby d15_19) rfl k) ?_
      obtain ⟨cz13, B13, q13, S13, M13, H13, G13⟩ := id VB
      have i13 := inb_of S13 ⟨(by decide : ¬ (((1 : Int32) + (1 : Int32)) < (0 : Int32))), (by decide : ((1 : Int32) + (1 : Int32)) < (3 : Int32))⟩
      refine Fin.go (fun _ k => X12.caload hx (j := ((1 : Int32) + (1 : Int32))) (v := (.int x3)) (by rw [e12]; exact B13.1) (State.isArrayOf_alike hZ.alike B13.2.1) B13.2.2 i13 (Has.at H13 i13 rfl) (g := (mkF m 20 #[vr b, vi n, vi (1 : Int32)] [(.int ((1 : Int32) + (1 : Int32))), (.ref b)])) rfl rfl (hb hby d15_20) _ k) ?_
      show Fin _ _ _ _ _ _ _ _ T12 (mkF m 21 #[vr b, vi n, vi (1 : Int32)] [(.int x3)])
      obtain ⟨v14, T14, L14, X14, q14, st14⟩ := callSt X12 hx hZ hown (hw _ w_135) (hw _ w_136) (hw _ w_2) (hw _ w_137) (by decide) (W := 0) (rmLow l Z a0 hw n0 h0 O x3) e12 (by decide) (by decide) (by decide) (by decide) (g := (mkF m 21 #[vr b, vi n, vi (1 : Int32)] [(.int x3)])) rfl (by rw [hml]; rfl) (argsL := [(.int x3)]) (rest := []) (lenOf pd_oCcZ rfl) rfl (wk rfl rfl) (hb hby d15_21)
      obtain ⟨rfl, e14, rfl⟩ := q14
      have N14 := Fr.app N12 (Fr.nil n0)
      refine Fin.go st14 ?_
      show Fin _ _ _ _ _ _ _ _ T14 (mkF m 24 #[vr b, vi n, vi (1 : Int32)] [(.int (lsu x3))])
      by_cases c24 : (lsu x3) = 0
      · refine .go (fun _ k => XS.ifYes X14.here hx rfl (pc0 := 24) (pc' := 31) rfl (hb hby d15_24) rfl (XT.i0_eq_t c24) (by decide) (by decide) k) ?_
        show Fin _ _ _ _ _ _ _ _ T14 (mkF m 31 #[vr b, vi n, vi (1 : Int32)] [])
        refine .go (fun _ k => XS.iconst X14.here hx rfl (hb hby d15_31) k) ?_
        exact Fin.leaveN X14 e14 hlk (v := some (.int (nar .boolean (0 : Int32)))) (nvS hret) (by decide) (by decide) ⟨by simp [pa, nar, c4, c13, c24], rfl, rfl⟩ (fun fs hr => retN X14 hx (t := .boolean) hret (by simp) (hb hby d15_32) hr)
      · refine .go (fun _ k => XS.ifNo X14.here hx rfl (hb hby d15_24) rfl (XT.i0_eq_f c24) k) ?_
        show Fin _ _ _ _ _ _ _ _ T14 (mkF m 27 #[vr b, vi n, vi (1 : Int32)] [])
        refine .go (fun _ k => XS.iconst X14.here hx rfl (hb hby d15_27) k) ?_
        refine .go (fun _ k => XS.goto X14.here hx rfl (pc0 := 28) (pc' := 32) rfl (hb hby d15_28) (by decide) (by decide) k) ?_
        exact Fin.leaveN X14 e14 hlk (v := some (.int (nar .boolean (1 : Int32)))) (nvS hret) (by decide) (by decide) ⟨by simp [pa, nar, c4, c13, c24], rfl, rfl⟩ (fun fs hr => retN X14 hx (t := .boolean) hret (by simp) (hb hby d15_32) hr)
  · refine .go (fun _ k => XS.icmpYes X0.here hx rfl (pc0 := 4) (pc' := 31) rfl (hb hby d15_4) rfl (XT.ii_ge_t c4) (by decide) (by decide) k) ?_
    show Fin _ _ _ _ _ _ _ _ s₁ (mkF m 31 #[vr b, vi n, vi (1 : Int32)] [])
    refine .go (fun _ k => XS.iconst X0.here hx rfl (hb hby d15_31) k) ?_
    exact Fin.leaveN X0 e0 hlk (v := some (.int (nar .boolean (0 : Int32)))) (nvS hret) (by decide) (by decide) ⟨by simp [pa, nar, c4], rfl, rfl⟩ (fun fs hr => retN X0 hx (t := .boolean) hret (by simp) (hb hby d15_32) hr)
theorem rmWi1 (l : Launch) (Z : State) (a0 : Array Value) (hw : HW a0 Z) (n0 : Nat) (h0 : Heap) (O : Old Z n0 h0) (b : Addr) (kb : ClassId) (n x1 x2 x3 : Int32) (VB : Arv Z h0 b kb .char (3 : Int32) [(.int x1), (.int x2), (.int x3)] (.int (0 : Int32))) (hn : 0 ≤ n.toInt ∧ n.toInt ≤ 3) :
    ConW FrameEnd l Z [] (⟨"com/example/muster/muster/campaign/TextOrderComparePinLaw", "wid", "([CII)I"⟩ : MethodName) method_8_code 3 (some .int) ({ frames := 2, cells := 0, slots := 0, locals := 26 } : Room) #[(.ref b), (.int n), (.int (1 : Int32))] h0 (Pure h0 (some (.int (widF (2 : Int32) n x2 x3)))) := by
  refine conOf (plainFor_of_name pn_com_example_muster_muster_campaign_TextOrderComparePinLaw) ?_
  intro p e s m below mth cc s₁ X0 hx hby hml hown hnm hret hlk hZ e0
  have N0 := Fr.nil n0
  refine Fin.came (castTop (t := _) (by first | (simp [entryFrame, mkF, argsToLocals, Value.category]; done) | rfl) (Steps.refl _) : Steps p.tables e below (s₁.setTop (entryFrame m #[(.ref b), (.int n), (.int (1 : Int32))] 3)) (s₁.setTop (mkF m 0 #[vr b, vi n, vi (1 : Int32)] []))) ?_
  refine .go (fun _ k => XS.aloadN X0.here hx rfl (hb hby d17_0) rfl rfl k) ?_
  refine .go (fun _ k => XS.iloadN X0.here hx rfl (hb hby d17_1) rfl k) ?_
  refine .go (fun _ k => XS.iloadN X0.here hx rfl (hb hby d17_2) rfl k) ?_
  obtain ⟨v11, T11, L11, X11, q11, st11⟩ := callSt X0 hx hZ hown (hw _ w_66) (hw _ w_67) (hw _ w_2) (hw _ w_68) (by decide) (W := 0) (rmPa1 l Z a0 hw n0 h0 O b kb n x1 x2 x3 VB hn) e0 (by decide) (by decide) (by decide) (by decide) (g := (mkF m 3 #[vr b, vi n, vi (1 : Int32)] [(.int (1 : Int32)), (.int n), (.ref b)])) rfl (by rw [hml]; rfl) (argsL := [(.ref b), (.int n), (.int (1 : Int32))]) (rest := []) (lenOf pd_oACIIcZ rfl) rfl (wk rfl rfl) (hb hby d17_3)
  obtain ⟨rfl, e11, rfl⟩ := q11
  have N11 := Fr.app N0 (Fr.nil n0)
  refine Fin.go st11 ?_
  show Fin _ _ _ _ _ _ _ _ T11 (mkF m 6 #[vr b, vi n, vi (1 : Int32)] [(.int (pa (2 : Int32) n x2 x3))])
  by_cases c6 : (pa (2 : Int32) n x2 x3) = 0
  · refine .go (fun _ k => XS.ifYes X11.here hx rfl (pc0 := 6) (pc' := 11) rfl (hb hby d17_6) rfl (XT.i0_eq_t c6) (by decide) (by decide) k) ?_
    show Fin _ _ _ _ _ _ _ _ T11 (mkF m 11 #[vr b, vi n, vi (1 : Int32)] [])
    refine .go (fun _ k => XS.iconst X11.here hx rfl (hb hby d17_11) k) ?_
    exact Fin.leaveN X11 e11 hlk (v := some (.int (1 : Int32))) (nvS hret) (by decide) (by decide) ⟨by simp [widF, c6], rfl, rfl⟩ (fun fs hr => retI X11 hx hret (hb hby d17_12) hr)
  · refine .go (fun _ k => XS.ifNo X11.here hx rfl (hb hby d17_6) rfl (XT.i0_eq_f c6) k) ?_
    show Fin _ _ _ _ _ _ _ _ T11 (mkF m 9 #[vr b, vi n, vi (1 : Int32)] [])
    refine .go (fun _ k => XS.iconst X11.here hx rfl (hb hby d17_9) k) ?_
    exact Fin.leaveN X11 e11 hlk (v := some (.int (2 : Int32))) (nvS hret) (by decide) (by decide) ⟨by simp [widF, c6], rfl, rfl⟩ (fun fs hr => retI X11 hx hret (hb hby d17_10) hr)
theorem rmAt1 (l : Launch) (Z : State) (a0 : Array Value) (hw : HW a0 Z) (n0 : Nat) (h0 : Heap) (O : Old Z n0 h0) (b : Addr) (kb : ClassId) (n x1 x2 x3 : Int32) (VB : Arv Z h0 b kb .char (3 : Int32) [(.int x1), (.int x2), (.int x3)] (.int (0 : Int32))) (hn : 0 ≤ n.toInt ∧ n.toInt ≤ 3) :
    ConW FrameEnd l Z [] (⟨"com/example/muster/muster/campaign/TextOrderComparePinLaw", "at", "([CII)I"⟩ : MethodName) method_9_code 3 (some .int) ({ frames := 2, cells := 0, slots := 0, locals := 26 } : Room) #[(.ref b), (.int n), (.int (1 : Int32))] h0 (Pure h0 (some (.int (atF (1 : Int32) (2 : Int32) n x2 x3)))) := by
  refine conOf (plainFor_of_name pn_com_example_muster_muster_campaign_TextOrderComparePinLaw) ?_
  intro p e s m below mth cc s₁ X0 hx hby hml hown hnm hret hlk hZ e0
  have N0 := Fr.nil n0
  refine Fin.came (castTop (t := _) (by first | (simp [entryFrame, mkF, argsToLocals, Value.category]; done) | rfl) (Steps.refl _) : Steps p.tables e below (s₁.setTop (entryFrame m #[(.ref b), (.int n), (.int (1 : Int32))] 3)) (s₁.setTop (mkF m 0 #[vr b, vi n, vi (1 : Int32)] []))) ?_
  refine .go (fun _ k => XS.iloadN X0.here hx rfl (hb hby d14_0) rfl k) ?_
  refine .go (fun _ k => XS.iloadN X0.here hx rfl (hb hby d14_1) rfl k) ?_
  by_cases c2 : (1 : Int32) < n
  · refine .go (fun _ k => XS.icmpYes X0.here hx rfl (pc0 := 2) (pc' := 7) rfl (hb hby d14_2) rfl (XT.ii_lt_t c2) (by decide) (by decide) k) ?_
    show Fin _ _ _ _ _ _ _ _ s₁ (mkF m 7 #[vr b, vi n, vi (1 : Int32)] [])
    refine .go (fun _ k => XS.aloadN X0.here hx rfl (hb hby d14_7) rfl rfl k) ?_
    refine .go (fun _ k => XS.iloadN X0.here hx rfl (hb hby d14_8) rfl k) ?_
    refine .go (fun _ k => XS.iloadN X0.here hx rfl (hb hby d14_9) rfl k) ?_
    obtain ⟨v11, T11, L11, X11, q11, st11⟩ := callSt X0 hx hZ hown (hw _ w_66) (hw _ w_67) (hw _ w_2) (hw _ w_68) (by decide) (W := 0) (rmPa1 l Z a0 hw n0 h0 O b kb n x1 x2 x3 VB hn) e0 (by decide) (by decide) (by decide) (by decide) (g := (mkF m 10 #[vr b, vi n, vi (1 : Int32)] [(.int (1 : Int32)), (.int n), (.ref b)])) rfl (by rw [hml]; rfl) (argsL := [(.ref b), (.int n), (.int (1 : Int32))]) (rest := []) (lenOf pd_oACIIcZ rfl) rfl (wk rfl rfl) (hb hby d14_10)
    obtain ⟨rfl, e11, rfl⟩ := q11
    have N11 := Fr.app N0 (Fr.nil n0)
    refine Fin.go st11 ?_
    show Fin _ _ _ _ _ _ _ _ T11 (mkF m 13 #[vr b, vi n, vi (1 : Int32)] [(.int (pa (2 : Int32) n x2 x3))])
    by_cases c13 : (pa (2 : Int32) n x2 x3) = 0
    · refine .go (fun _ k => XS.ifYes X11.here hx rfl (pc0 := 13) (pc' := 38) rfl (hb hby d14_13) rfl (XT.i0_eq_t c13) (by decide) (by decide) k) ?_
      show Fin _ _ _ _ _ _ _ _ T11 (mkF m 38 #[vr b, vi n, vi (1 : Int32)] [])
      refine .go (fun _ k => XS.aloadN X11.here hx rfl (hb hby d14_38) rfl rfl k) ?_
      refine .go (fun _ k => XS.iloadN X11.here hx rfl (hb hby d14_39) rfl k) ?_
      obtain ⟨cz12, B12, q12, S12, M12, H12, G12⟩ := id VB
      have i12 := inb_of S12 ⟨(by decide : ¬ ((1 : Int32) < (0 : Int32))), (by decide : (1 : Int32) < (3 : Int32))⟩
      refine Fin.go (fun _ k => X11.caload hx (j := (1 : Int32)) (v := (.int x2)) (by rw [e11]; exact B12.1) (State.isArrayOf_alike hZ.alike B12.2.1) B12.2.2 i12 (Has.at H12 i12 rfl) (g := (mkF m 40 #[vr b, vi n, vi (1 : Int32)] [(.int (1 : Int32)), (.ref b)])) rfl rfl (hb hby d14_40) _ k) ?_
      show Fin _ _ _ _ _ _ _ _ T11 (mkF m 41 #[vr b, vi n, vi (1 : Int32)] [(.int x2)])
      exact Fin.leaveN X11 e11 hlk (v := some (.int x2)) (nvS hret) (by decide) (by decide) ⟨by unfold atF; rw [if_pos c2, cpN_pa0 c13], rfl, rfl⟩ (fun fs hr => retI X11 hx hret (hb hby d14_41) hr)
    · refine .go (fun _ k => XS.ifNo X11.here hx rfl (hb hby d14_13) rfl (XT.i0_eq_f c13) k) ?_
      show Fin _ _ _ _ _ _ _ _ T11 (mkF m 16 #[vr b, vi n, vi (1 : Int32)] [])
      refine .go (fun _ k => XS.aloadN X11.here hx rfl (hb hby d14_16) rfl rfl k) ?_
      refine .go (fun _ k => XS.iloadN X11.here hx rfl (hb hby d14_17) rfl k) ?_
      obtain ⟨cz13, B13, q13, S13, M13, H13, G13⟩ := id VB
      have i13 := inb_of S13 ⟨(by decide : ¬ ((1 : Int32) < (0 : Int32))), (by decide : (1 : Int32) < (3 : Int32))⟩
      refine Fin.go (fun _ k => X11.caload hx (j := (1 : Int32)) (v := (.int x2)) (by rw [e11]; exact B13.1) (State.isArrayOf_alike hZ.alike B13.2.1) B13.2.2 i13 (Has.at H13 i13 rfl) (g := (mkF m 18 #[vr b, vi n, vi (1 : Int32)] [(.int (1 : Int32)), (.ref b)])) rfl rfl (hb hby d14_18) _ k) ?_
      show Fin _ _ _ _ _ _ _ _ T11 (mkF m 19 #[vr b, vi n, vi (1 : Int32)] [(.int x2)])
      refine .go (fun _ k => X11.ldcI hx hown (mvT hZ (hw _ w_72)) rfl (hb hby d14_19) k) ?_
      refine .go (fun _ k => XS.isub X11.here hx rfl (hb hby d14_21) rfl k) ?_
      refine .go (fun _ k => XS.bipush X11.here hx rfl (hb hby d14_22) k) ?_
      refine .go (fun _ k => XT.ishl X11.here hx rfl (hb hby d14_24) rfl k) ?_
      refine .go (fun _ k => XS.aloadN X11.here hx rfl (hb hby d14_25) rfl rfl k) ?_
      refine .go (fun _ k => XS.iloadN X11.here hx rfl (hb hby d14_26) rfl k) ?_
      refine .go (fun _ k => XS.iconst X11.here hx rfl (hb hby d14_27) k) ?_
      refine .go (fun _ k => XS.iadd X11.here hx rfl (hb hby d14_28) rfl k) ?_
      obtain ⟨cz14, B14, q14, S14, M14, H14, G14⟩ := id VB
      have i14 := inb_of S14 ⟨(by decide : ¬ (((1 : Int32) + (1 : Int32)) < (0 : Int32))), (by decide : ((1 : Int32) + (1 : Int32)) < (3 : Int32))⟩
      refine Fin.go (fun _ k => X11.caload hx (j := ((1 : Int32) + (1 : Int32))) (v := (.int x3)) (by rw [e11]; exact B14.1) (State.isArrayOf_alike hZ.alike B14.2.1) B14.2.2 i14 (Has.at H14 i14 rfl) (g := (mkF m 29 #[vr b, vi n, vi (1 : Int32)] [(.int ((1 : Int32) + (1 : Int32))), (.ref b), (.int ((x2 - (55296 : Int32)) <<< ((10 : Int32) &&& 31)))])) rfl rfl (hb hby d14_29) _ k) ?_
      show Fin _ _ _ _ _ _ _ _ T11 (mkF m 30 #[vr b, vi n, vi (1 : Int32)] [(.int x3), (.int ((x2 - (55296 : Int32)) <<< ((10 : Int32) &&& 31)))])
      refine .go (fun _ k => X11.ldcI hx hown (mvT hZ (hw _ w_5)) rfl (hb hby d14_30) k) ?_
      refine .go (fun _ k => XS.isub X11.here hx rfl (hb hby d14_32) rfl k) ?_
      refine .go (fun _ k => XS.iadd X11.here hx rfl (hb hby d14_33) rfl k) ?_
      refine .go (fun _ k => X11.ldcI hx hown (mvT hZ (hw _ w_144)) rfl (hb hby d14_34) k) ?_
      refine .go (fun _ k => XS.iadd X11.here hx rfl (hb hby d14_36) rfl k) ?_
      exact Fin.leaveN X11 e11 hlk (v := some (.int ((((x2 - (55296 : Int32)) <<< ((10 : Int32) &&& 31)) + (x3 - (56320 : Int32))) + (65536 : Int32)))) (nvS hret) (by decide) (by decide) ⟨by unfold atF; rw [if_pos c2, cpN_pa1 c13], rfl, rfl⟩ (fun fs hr => retI X11 hx hret (hb hby d14_37) hr)
  · refine .go (fun _ k => XS.icmpNo X0.here hx rfl (hb hby d14_2) rfl (XT.ii_lt_f c2) k) ?_
    show Fin _ _ _ _ _ _ _ _ s₁ (mkF m 5 #[vr b, vi n, vi (1 : Int32)] [])
    refine .go (fun _ k => XS.iconst X0.here hx rfl (hb hby d14_5) k) ?_
    exact Fin.leaveN X0 e0 hlk (v := some (.int (-1 : Int32))) (nvS hret) (by decide) (by decide) ⟨by unfold atF; rw [if_neg c2], rfl, rfl⟩ (fun fs hr => retI X0 hx hret (hb hby d14_6) hr)
theorem rmPa2 (l : Launch) (Z : State) (a0 : Array Value) (hw : HW a0 Z) (n0 : Nat) (h0 : Heap) (O : Old Z n0 h0) (b : Addr) (kb : ClassId) (n x1 x2 x3 : Int32) (VB : Arv Z h0 b kb .char (3 : Int32) [(.int x1), (.int x2), (.int x3)] (.int (0 : Int32))) (hn : 0 ≤ n.toInt ∧ n.toInt ≤ 3) :
    ConW FrameEnd l Z [] (⟨"com/example/muster/muster/campaign/TextOrderComparePinLaw", "pairAt", "([CII)Z"⟩ : MethodName) method_7_code 3 (some .boolean) ({ frames := 1, cells := 0, slots := 0, locals := 12 } : Room) #[(.ref b), (.int n), (.int (2 : Int32))] h0 (Pure h0 (some (.int (0 : Int32)))) := by
  refine conOf (plainFor_of_name pn_com_example_muster_muster_campaign_TextOrderComparePinLaw) ?_
  intro p e s m below mth cc s₁ X0 hx hby hml hown hnm hret hlk hZ e0
  have N0 := Fr.nil n0
  refine Fin.came (castTop (t := _) (by first | (simp [entryFrame, mkF, argsToLocals, Value.category]; done) | rfl) (Steps.refl _) : Steps p.tables e below (s₁.setTop (entryFrame m #[(.ref b), (.int n), (.int (2 : Int32))] 3)) (s₁.setTop (mkF m 0 #[vr b, vi n, vi (2 : Int32)] []))) ?_
  refine .go (fun _ k => XS.iloadN X0.here hx rfl (hb hby d15_0) rfl k) ?_
  refine .go (fun _ k => XS.iconst X0.here hx rfl (hb hby d15_1) k) ?_
  refine .go (fun _ k => XS.iadd X0.here hx rfl (hb hby d15_2) rfl k) ?_
  show Fin _ _ _ _ _ _ _ _ s₁ (mkF m 3 #[vr b, vi n, vi (2 : Int32)] [(.int ((2 : Int32) + (1 : Int32)))])
  rw [show ((2 : Int32) + (1 : Int32)) = (3 : Int32) from by decide]
  show Fin _ _ _ _ _ _ _ _ s₁ (mkF m 3 #[vr b, vi n, vi (2 : Int32)] [(.int (3 : Int32))])
  refine .go (fun _ k => XS.iloadN X0.here hx rfl (hb hby d15_3) rfl k) ?_
  refine .go (fun _ k => XS.icmpYes X0.here hx rfl (pc0 := 4) (pc' := 31) rfl (hb hby d15_4) rfl (XT.ii_ge_t (no3 hn)) (by decide) (by decide) k) ?_
  show Fin _ _ _ _ _ _ _ _ s₁ (mkF m 31 #[vr b, vi n, vi (2 : Int32)] [])
  refine .go (fun _ k => XS.iconst X0.here hx rfl (hb hby d15_31) k) ?_
  exact Fin.leaveN X0 e0 hlk (v := some (.int (nar .boolean (0 : Int32)))) (nvS hret) (by decide) (by decide) ⟨rfl, rfl, rfl⟩ (fun fs hr => retN X0 hx (t := .boolean) hret (by simp) (hb hby d15_32) hr)
theorem rmWi2 (l : Launch) (Z : State) (a0 : Array Value) (hw : HW a0 Z) (n0 : Nat) (h0 : Heap) (O : Old Z n0 h0) (b : Addr) (kb : ClassId) (n x1 x2 x3 : Int32) (VB : Arv Z h0 b kb .char (3 : Int32) [(.int x1), (.int x2), (.int x3)] (.int (0 : Int32))) (hn : 0 ≤ n.toInt ∧ n.toInt ≤ 3) :
    ConW FrameEnd l Z [] (⟨"com/example/muster/muster/campaign/TextOrderComparePinLaw", "wid", "([CII)I"⟩ : MethodName) method_8_code 3 (some .int) ({ frames := 2, cells := 0, slots := 0, locals := 26 } : Room) #[(.ref b), (.int n), (.int (2 : Int32))] h0 (Pure h0 (some (.int (1 : Int32)))) := by
  refine conOf (plainFor_of_name pn_com_example_muster_muster_campaign_TextOrderComparePinLaw) ?_
  intro p e s m below mth cc s₁ X0 hx hby hml hown hnm hret hlk hZ e0
  have N0 := Fr.nil n0
  refine Fin.came (castTop (t := _) (by first | (simp [entryFrame, mkF, argsToLocals, Value.category]; done) | rfl) (Steps.refl _) : Steps p.tables e below (s₁.setTop (entryFrame m #[(.ref b), (.int n), (.int (2 : Int32))] 3)) (s₁.setTop (mkF m 0 #[vr b, vi n, vi (2 : Int32)] []))) ?_
  refine .go (fun _ k => XS.aloadN X0.here hx rfl (hb hby d17_0) rfl rfl k) ?_
  refine .go (fun _ k => XS.iloadN X0.here hx rfl (hb hby d17_1) rfl k) ?_
  refine .go (fun _ k => XS.iloadN X0.here hx rfl (hb hby d17_2) rfl k) ?_
  obtain ⟨v11, T11, L11, X11, q11, st11⟩ := callSt X0 hx hZ hown (hw _ w_66) (hw _ w_67) (hw _ w_2) (hw _ w_68) (by decide) (W := 0) (rmPa2 l Z a0 hw n0 h0 O b kb n x1 x2 x3 VB hn) e0 (by decide) (by decide) (by decide) (by decide) (g := (mkF m 3 #[vr b, vi n, vi (2 : Int32)] [(.int (2 : Int32)), (.int n), (.ref b)])) rfl (by rw [hml]; rfl) (argsL := [(.ref b), (.int n), (.int (2 : Int32))]) (rest := []) (lenOf pd_oACIIcZ rfl) rfl (wk rfl rfl) (hb hby d17_3)
  obtain ⟨rfl, e11, rfl⟩ := q11
  have N11 := Fr.app N0 (Fr.nil n0)
  refine Fin.go st11 ?_
  show Fin _ _ _ _ _ _ _ _ T11 (mkF m 6 #[vr b, vi n, vi (2 : Int32)] [(.int (0 : Int32))])
  refine .go (fun _ k => XS.ifYes X11.here hx rfl (pc0 := 6) (pc' := 11) rfl (hb hby d17_6) rfl (XT.i0_eq_t (by decide)) (by decide) (by decide) k) ?_
  show Fin _ _ _ _ _ _ _ _ T11 (mkF m 11 #[vr b, vi n, vi (2 : Int32)] [])
  refine .go (fun _ k => XS.iconst X11.here hx rfl (hb hby d17_11) k) ?_
  exact Fin.leaveN X11 e11 hlk (v := some (.int (1 : Int32))) (nvS hret) (by decide) (by decide) ⟨rfl, rfl, rfl⟩ (fun fs hr => retI X11 hx hret (hb hby d17_12) hr)
theorem rmAt2 (l : Launch) (Z : State) (a0 : Array Value) (hw : HW a0 Z) (n0 : Nat) (h0 : Heap) (O : Old Z n0 h0) (b : Addr) (kb : ClassId) (n x1 x2 x3 : Int32) (VB : Arv Z h0 b kb .char (3 : Int32) [(.int x1), (.int x2), (.int x3)] (.int (0 : Int32))) (hn : 0 ≤ n.toInt ∧ n.toInt ≤ 3) :
    ConW FrameEnd l Z [] (⟨"com/example/muster/muster/campaign/TextOrderComparePinLaw", "at", "([CII)I"⟩ : MethodName) method_9_code 3 (some .int) ({ frames := 2, cells := 0, slots := 0, locals := 26 } : Room) #[(.ref b), (.int n), (.int (2 : Int32))] h0 (Pure h0 (some (.int (atF (2 : Int32) (3 : Int32) n x3 x3)))) := by
  refine conOf (plainFor_of_name pn_com_example_muster_muster_campaign_TextOrderComparePinLaw) ?_
  intro p e s m below mth cc s₁ X0 hx hby hml hown hnm hret hlk hZ e0
  have N0 := Fr.nil n0
  refine Fin.came (castTop (t := _) (by first | (simp [entryFrame, mkF, argsToLocals, Value.category]; done) | rfl) (Steps.refl _) : Steps p.tables e below (s₁.setTop (entryFrame m #[(.ref b), (.int n), (.int (2 : Int32))] 3)) (s₁.setTop (mkF m 0 #[vr b, vi n, vi (2 : Int32)] []))) ?_
  refine .go (fun _ k => XS.iloadN X0.here hx rfl (hb hby d14_0) rfl k) ?_
  refine .go (fun _ k => XS.iloadN X0.here hx rfl (hb hby d14_1) rfl k) ?_
  by_cases c2 : (2 : Int32) < n
  · refine .go (fun _ k => XS.icmpYes X0.here hx rfl (pc0 := 2) (pc' := 7) rfl (hb hby d14_2) rfl (XT.ii_lt_t c2) (by decide) (by decide) k) ?_
    show Fin _ _ _ _ _ _ _ _ s₁ (mkF m 7 #[vr b, vi n, vi (2 : Int32)] [])
    refine .go (fun _ k => XS.aloadN X0.here hx rfl (hb hby d14_7) rfl rfl k) ?_
    refine .go (fun _ k => XS.iloadN X0.here hx rfl (hb hby d14_8) rfl k) ?_
    refine .go (fun _ k => XS.iloadN X0.here hx rfl (hb hby d14_9) rfl k) ?_
    obtain ⟨v11, T11, L11, X11, q11, st11⟩ := callSt X0 hx hZ hown (hw _ w_66) (hw _ w_67) (hw _ w_2) (hw _ w_68) (by decide) (W := 0) (rmPa2 l Z a0 hw n0 h0 O b kb n x1 x2 x3 VB hn) e0 (by decide) (by decide) (by decide) (by decide) (g := (mkF m 10 #[vr b, vi n, vi (2 : Int32)] [(.int (2 : Int32)), (.int n), (.ref b)])) rfl (by rw [hml]; rfl) (argsL := [(.ref b), (.int n), (.int (2 : Int32))]) (rest := []) (lenOf pd_oACIIcZ rfl) rfl (wk rfl rfl) (hb hby d14_10)
    obtain ⟨rfl, e11, rfl⟩ := q11
    have N11 := Fr.app N0 (Fr.nil n0)
    refine Fin.go st11 ?_
    show Fin _ _ _ _ _ _ _ _ T11 (mkF m 13 #[vr b, vi n, vi (2 : Int32)] [(.int (0 : Int32))])
    refine .go (fun _ k => XS.ifYes X11.here hx rfl (pc0 := 13) (pc' := 38) rfl (hb hby d14_13) rfl (XT.i0_eq_t (by decide)) (by decide) (by decide) k) ?_
    show Fin _ _ _ _ _ _ _ _ T11 (mkF m 38 #[vr b, vi n, vi (2 : Int32)] [])
    refine .go (fun _ k => XS.aloadN X11.here hx rfl (hb hby d14_38) rfl rfl k) ?_
    refine .go (fun _ k => XS.iloadN X11.here hx rfl (hb hby d14_39) rfl k) ?_
    obtain ⟨cz12, B12, q12, S12, M12, H12, G12⟩ := id VB
    have i12 := inb_of S12 ⟨(by decide : ¬ ((2 : Int32) < (0 : Int32))), (by decide : (2 : Int32) < (3 : Int32))⟩
    refine Fin.go (fun _ k => X11.caload hx (j := (2 : Int32)) (v := (.int x3)) (by rw [e11]; exact B12.1) (State.isArrayOf_alike hZ.alike B12.2.1) B12.2.2 i12 (Has.at H12 i12 rfl) (g := (mkF m 40 #[vr b, vi n, vi (2 : Int32)] [(.int (2 : Int32)), (.ref b)])) rfl rfl (hb hby d14_40) _ k) ?_
    show Fin _ _ _ _ _ _ _ _ T11 (mkF m 41 #[vr b, vi n, vi (2 : Int32)] [(.int x3)])
    exact Fin.leaveN X11 e11 hlk (v := some (.int x3)) (nvS hret) (by decide) (by decide) ⟨by unfold atF cpN; rw [if_pos c2, if_neg (no3 hn)], rfl, rfl⟩ (fun fs hr => retI X11 hx hret (hb hby d14_41) hr)
  · refine .go (fun _ k => XS.icmpNo X0.here hx rfl (hb hby d14_2) rfl (XT.ii_lt_f c2) k) ?_
    show Fin _ _ _ _ _ _ _ _ s₁ (mkF m 5 #[vr b, vi n, vi (2 : Int32)] [])
    refine .go (fun _ k => XS.iconst X0.here hx rfl (hb hby d14_5) k) ?_
    exact Fin.leaveN X0 e0 hlk (v := some (.int (-1 : Int32))) (nvS hret) (by decide) (by decide) ⟨by unfold atF; rw [if_neg c2], rfl, rfl⟩ (fun fs hr => retI X0 hx hret (hb hby d14_6) hr)
theorem rmPa3 (l : Launch) (Z : State) (a0 : Array Value) (hw : HW a0 Z) (n0 : Nat) (h0 : Heap) (O : Old Z n0 h0) (b : Addr) (kb : ClassId) (n x1 x2 x3 : Int32) (VB : Arv Z h0 b kb .char (3 : Int32) [(.int x1), (.int x2), (.int x3)] (.int (0 : Int32))) (hn : 0 ≤ n.toInt ∧ n.toInt ≤ 3) :
    ConW FrameEnd l Z [] (⟨"com/example/muster/muster/campaign/TextOrderComparePinLaw", "pairAt", "([CII)Z"⟩ : MethodName) method_7_code 3 (some .boolean) ({ frames := 1, cells := 0, slots := 0, locals := 12 } : Room) #[(.ref b), (.int n), (.int (3 : Int32))] h0 (Pure h0 (some (.int (0 : Int32)))) := by
  refine conOf (plainFor_of_name pn_com_example_muster_muster_campaign_TextOrderComparePinLaw) ?_
  intro p e s m below mth cc s₁ X0 hx hby hml hown hnm hret hlk hZ e0
  have N0 := Fr.nil n0
  refine Fin.came (castTop (t := _) (by first | (simp [entryFrame, mkF, argsToLocals, Value.category]; done) | rfl) (Steps.refl _) : Steps p.tables e below (s₁.setTop (entryFrame m #[(.ref b), (.int n), (.int (3 : Int32))] 3)) (s₁.setTop (mkF m 0 #[vr b, vi n, vi (3 : Int32)] []))) ?_
  refine .go (fun _ k => XS.iloadN X0.here hx rfl (hb hby d15_0) rfl k) ?_
  refine .go (fun _ k => XS.iconst X0.here hx rfl (hb hby d15_1) k) ?_
  refine .go (fun _ k => XS.iadd X0.here hx rfl (hb hby d15_2) rfl k) ?_
  show Fin _ _ _ _ _ _ _ _ s₁ (mkF m 3 #[vr b, vi n, vi (3 : Int32)] [(.int ((3 : Int32) + (1 : Int32)))])
  rw [show ((3 : Int32) + (1 : Int32)) = (4 : Int32) from by decide]
  show Fin _ _ _ _ _ _ _ _ s₁ (mkF m 3 #[vr b, vi n, vi (3 : Int32)] [(.int (4 : Int32))])
  refine .go (fun _ k => XS.iloadN X0.here hx rfl (hb hby d15_3) rfl k) ?_
  refine .go (fun _ k => XS.icmpYes X0.here hx rfl (pc0 := 4) (pc' := 31) rfl (hb hby d15_4) rfl (XT.ii_ge_t (no4 hn)) (by decide) (by decide) k) ?_
  show Fin _ _ _ _ _ _ _ _ s₁ (mkF m 31 #[vr b, vi n, vi (3 : Int32)] [])
  refine .go (fun _ k => XS.iconst X0.here hx rfl (hb hby d15_31) k) ?_
  exact Fin.leaveN X0 e0 hlk (v := some (.int (nar .boolean (0 : Int32)))) (nvS hret) (by decide) (by decide) ⟨rfl, rfl, rfl⟩ (fun fs hr => retN X0 hx (t := .boolean) hret (by simp) (hb hby d15_32) hr)
theorem rmAt3 (l : Launch) (Z : State) (a0 : Array Value) (hw : HW a0 Z) (n0 : Nat) (h0 : Heap) (O : Old Z n0 h0) (b : Addr) (kb : ClassId) (n x1 x2 x3 : Int32) (VB : Arv Z h0 b kb .char (3 : Int32) [(.int x1), (.int x2), (.int x3)] (.int (0 : Int32))) (hn : 0 ≤ n.toInt ∧ n.toInt ≤ 3) :
    ConW FrameEnd l Z [] (⟨"com/example/muster/muster/campaign/TextOrderComparePinLaw", "at", "([CII)I"⟩ : MethodName) method_9_code 3 (some .int) ({ frames := 2, cells := 0, slots := 0, locals := 26 } : Room) #[(.ref b), (.int n), (.int (3 : Int32))] h0 (Pure h0 (some (.int (-1 : Int32)))) := by
  refine conOf (plainFor_of_name pn_com_example_muster_muster_campaign_TextOrderComparePinLaw) ?_
  intro p e s m below mth cc s₁ X0 hx hby hml hown hnm hret hlk hZ e0
  have N0 := Fr.nil n0
  refine Fin.came (castTop (t := _) (by first | (simp [entryFrame, mkF, argsToLocals, Value.category]; done) | rfl) (Steps.refl _) : Steps p.tables e below (s₁.setTop (entryFrame m #[(.ref b), (.int n), (.int (3 : Int32))] 3)) (s₁.setTop (mkF m 0 #[vr b, vi n, vi (3 : Int32)] []))) ?_
  refine .go (fun _ k => XS.iloadN X0.here hx rfl (hb hby d14_0) rfl k) ?_
  refine .go (fun _ k => XS.iloadN X0.here hx rfl (hb hby d14_1) rfl k) ?_
  refine .go (fun _ k => XS.icmpNo X0.here hx rfl (hb hby d14_2) rfl (XT.ii_lt_f (no3 hn)) k) ?_
  show Fin _ _ _ _ _ _ _ _ s₁ (mkF m 5 #[vr b, vi n, vi (3 : Int32)] [])
  refine .go (fun _ k => XS.iconst X0.here hx rfl (hb hby d14_5) k) ?_
  exact Fin.leaveN X0 e0 hlk (v := some (.int (-1 : Int32))) (nvS hret) (by decide) (by decide) ⟨rfl, rfl, rfl⟩ (fun fs hr => retI X0 hx hret (hb hby d14_6) hr)
theorem rmRef (l : Launch) (Z : State) (a0 : Array Value) (hw : HW a0 Z) (n0 : Nat) (h0 : Heap) (O : Old Z n0 h0) (b1 b2 : Addr) (k1 k2 : ClassId) (n x1 x2 x3 nb y1 y2 y3 : Int32) (V1 : Arv Z h0 b1 k1 .char (3 : Int32) [(.int x1), (.int x2), (.int x3)] (.int (0 : Int32))) (V2 : Arv Z h0 b2 k2 .char (3 : Int32) [(.int y1), (.int y2), (.int y3)] (.int (0 : Int32))) (hn : 0 ≤ n.toInt ∧ n.toInt ≤ 3) (hm : 0 ≤ nb.toInt ∧ nb.toInt ≤ 3) :
    ConW FrameEnd l Z [] (⟨"com/example/muster/muster/campaign/TextOrderComparePinLaw", "ref", "([CI[CI)I"⟩ : MethodName) method_11_code 14 (some .int) ({ frames := 3, cells := 0, slots := 0, locals := 41 } : Room) #[(.ref b1), (.int n), (.ref b2), (.int nb)] h0 (Pure h0 (some (.int (refF n x1 x2 x3 nb y1 y2 y3)))) := by
  refine conOf (plainFor_of_name pn_com_example_muster_muster_campaign_TextOrderComparePinLaw) ?_
  intro p e s m below mth cc s₁ X0 hx hby hml hown hnm hret hlk hZ e0
  have N0 := Fr.nil n0
  refine Fin.came (castTop (t := _) (by first | (simp [entryFrame, mkF, argsToLocals, Value.category]; done) | rfl) (Steps.refl _) : Steps p.tables e below (s₁.setTop (entryFrame m #[(.ref b1), (.int n), (.ref b2), (.int nb)] 14)) (s₁.setTop (mkF m 0 #[vr b1, vi n, vr b2, vi nb, .unset, .unset, .unset, .unset, .unset, .unset, .unset, .unset, .unset, .unset] []))) ?_
  have tailC : ∀ (Tt11 : State) (Xt11 : Stand p l e ({ frames := 3, cells := 0, slots := 0, locals := 41 } : Room) s m #[(.ref b1), (.int n), (.ref b2), (.int nb)] below mth cc Tt11 [] 0 0) (et11 : Tt11.heap = h0) (u5 u6 u7 u8 u10 u11 u12 u13 : Int32) (h6 : s1 n x1 x2 x3 = u6) (h8 : s2 n x1 x2 x3 = u8) (h11 : s1 nb y1 y2 y3 = u11) (h13 : s2 nb y1 y2 y3 = u13), Fin FrameEnd p e below s (Pure h0 (some (.int (refF n x1 x2 x3 nb y1 y2 y3)))) 0 0 Tt11 (mkF m 92 #[vr b1, vi n, vr b2, vi nb, vi (atF (0 : Int32) (1 : Int32) n x1 x2), vi u5, vi u6, vi u7, vi u8, vi (atF (0 : Int32) (1 : Int32) nb y1 y2), vi u10, vi u11, vi u12, vi u13] []) := by
    intro Tt11 Xt11 et11 u5 u6 u7 u8 u10 u11 u12 u13 h6 h8 h11 h13
    refine .go (fun _ k => XS.iload Xt11.here hx rfl (hb hby d13_92) rfl k) ?_
    refine .go (fun _ k => XS.iload Xt11.here hx rfl (hb hby d13_94) rfl k) ?_
    by_cases c96 : (atF (0 : Int32) (1 : Int32) n x1 x2) = (atF (0 : Int32) (1 : Int32) nb y1 y2)
    · refine .go (fun _ k => XS.icmpYes Xt11.here hx rfl (pc0 := 96) (pc' := 107) rfl (hb hby d13_96) rfl (XT.ii_eq_t c96) (by decide) (by decide) k) ?_
      show Fin _ _ _ _ _ _ _ _ Tt11 (mkF m 107 #[vr b1, vi n, vr b2, vi nb, vi (atF (0 : Int32) (1 : Int32) n x1 x2), vi u5, vi u6, vi u7, vi u8, vi (atF (0 : Int32) (1 : Int32) nb y1 y2), vi u10, vi u11, vi u12, vi u13] [])
      refine .go (fun _ k => XS.iload Xt11.here hx rfl (hb hby d13_107) rfl k) ?_
      refine .go (fun _ k => XS.iload Xt11.here hx rfl (hb hby d13_109) rfl k) ?_
      by_cases c111 : u6 = u11
      · refine .go (fun _ k => XS.icmpYes Xt11.here hx rfl (pc0 := 111) (pc' := 122) rfl (hb hby d13_111) rfl (XT.ii_eq_t c111) (by decide) (by decide) k) ?_
        show Fin _ _ _ _ _ _ _ _ Tt11 (mkF m 122 #[vr b1, vi n, vr b2, vi nb, vi (atF (0 : Int32) (1 : Int32) n x1 x2), vi u5, vi u6, vi u7, vi u8, vi (atF (0 : Int32) (1 : Int32) nb y1 y2), vi u10, vi u11, vi u12, vi u13] [])
        refine .go (fun _ k => XS.iload Xt11.here hx rfl (hb hby d13_122) rfl k) ?_
        refine .go (fun _ k => XS.iload Xt11.here hx rfl (hb hby d13_124) rfl k) ?_
        obtain ⟨v12, T12, L12, X12, q12, st12⟩ := callSt Xt11 hx hZ hown (hw _ w_76) (hw _ w_77) (hw _ w_2) (hw _ w_78) (by decide) (W := 0) (rmCm l Z a0 hw n0 h0 O u8 u13) et11 (by decide) (by decide) (by decide) (by decide) (g := (mkF m 126 #[vr b1, vi n, vr b2, vi nb, vi (atF (0 : Int32) (1 : Int32) n x1 x2), vi u5, vi u6, vi u7, vi u8, vi (atF (0 : Int32) (1 : Int32) nb y1 y2), vi u10, vi u11, vi u12, vi u13] [(.int u13), (.int u8)])) rfl (by rw [hml]; rfl) (argsL := [(.int u8), (.int u13)]) (rest := []) (lenOf pd_oIIcI rfl) rfl (wk rfl rfl) (hb hby d13_126)
        obtain ⟨rfl, e12, rfl⟩ := q12
        have N12 := Fr.app N0 (Fr.nil n0)
        refine Fin.go st12 ?_
        show Fin _ _ _ _ _ _ _ _ T12 (mkF m 129 #[vr b1, vi n, vr b2, vi nb, vi (atF (0 : Int32) (1 : Int32) n x1 x2), vi u5, vi u6, vi u7, vi u8, vi (atF (0 : Int32) (1 : Int32) nb y1 y2), vi u10, vi u11, vi u12, vi u13] [(.int (lcmI u8 u13))])
        exact Fin.leaveN X12 e12 hlk (v := some (.int (lcmI u8 u13))) (nvS hret) (by decide) (by decide) ⟨by unfold refF; rw [if_pos c96, h6, h11, if_pos c111, h8, h13], rfl, rfl⟩ (fun fs hr => retI X12 hx hret (hb hby d13_129) hr)
      · refine .go (fun _ k => XS.icmpNo Xt11.here hx rfl (hb hby d13_111) rfl (XT.ii_eq_f c111) k) ?_
        show Fin _ _ _ _ _ _ _ _ Tt11 (mkF m 114 #[vr b1, vi n, vr b2, vi nb, vi (atF (0 : Int32) (1 : Int32) n x1 x2), vi u5, vi u6, vi u7, vi u8, vi (atF (0 : Int32) (1 : Int32) nb y1 y2), vi u10, vi u11, vi u12, vi u13] [])
        refine .go (fun _ k => XS.iload Xt11.here hx rfl (hb hby d13_114) rfl k) ?_
        refine .go (fun _ k => XS.iload Xt11.here hx rfl (hb hby d13_116) rfl k) ?_
        obtain ⟨v13, T13, L13, X13, q13, st13⟩ := callSt Xt11 hx hZ hown (hw _ w_76) (hw _ w_77) (hw _ w_2) (hw _ w_78) (by decide) (W := 0) (rmCm l Z a0 hw n0 h0 O u6 u11) et11 (by decide) (by decide) (by decide) (by decide) (g := (mkF m 118 #[vr b1, vi n, vr b2, vi nb, vi (atF (0 : Int32) (1 : Int32) n x1 x2), vi u5, vi u6, vi u7, vi u8, vi (atF (0 : Int32) (1 : Int32) nb y1 y2), vi u10, vi u11, vi u12, vi u13] [(.int u11), (.int u6)])) rfl (by rw [hml]; rfl) (argsL := [(.int u6), (.int u11)]) (rest := []) (lenOf pd_oIIcI rfl) rfl (wk rfl rfl) (hb hby d13_118)
        obtain ⟨rfl, e13, rfl⟩ := q13
        have N13 := Fr.app N0 (Fr.nil n0)
        refine Fin.go st13 ?_
        show Fin _ _ _ _ _ _ _ _ T13 (mkF m 121 #[vr b1, vi n, vr b2, vi nb, vi (atF (0 : Int32) (1 : Int32) n x1 x2), vi u5, vi u6, vi u7, vi u8, vi (atF (0 : Int32) (1 : Int32) nb y1 y2), vi u10, vi u11, vi u12, vi u13] [(.int (lcmI u6 u11))])
        exact Fin.leaveN X13 e13 hlk (v := some (.int (lcmI u6 u11))) (nvS hret) (by decide) (by decide) ⟨by unfold refF; rw [if_pos c96, h6, h11, if_neg c111], rfl, rfl⟩ (fun fs hr => retI X13 hx hret (hb hby d13_121) hr)
    · refine .go (fun _ k => XS.icmpNo Xt11.here hx rfl (hb hby d13_96) rfl (XT.ii_eq_f c96) k) ?_
      show Fin _ _ _ _ _ _ _ _ Tt11 (mkF m 99 #[vr b1, vi n, vr b2, vi nb, vi (atF (0 : Int32) (1 : Int32) n x1 x2), vi u5, vi u6, vi u7, vi u8, vi (atF (0 : Int32) (1 : Int32) nb y1 y2), vi u10, vi u11, vi u12, vi u13] [])
      refine .go (fun _ k => XS.iload Xt11.here hx rfl (hb hby d13_99) rfl k) ?_
      refine .go (fun _ k => XS.iload Xt11.here hx rfl (hb hby d13_101) rfl k) ?_
      obtain ⟨v14, T14, L14, X14, q14, st14⟩ := callSt Xt11 hx hZ hown (hw _ w_76) (hw _ w_77) (hw _ w_2) (hw _ w_78) (by decide) (W := 0) (rmCm l Z a0 hw n0 h0 O (atF (0 : Int32) (1 : Int32) n x1 x2) (atF (0 : Int32) (1 : Int32) nb y1 y2)) et11 (by decide) (by decide) (by decide) (by decide) (g := (mkF m 103 #[vr b1, vi n, vr b2, vi nb, vi (atF (0 : Int32) (1 : Int32) n x1 x2), vi u5, vi u6, vi u7, vi u8, vi (atF (0 : Int32) (1 : Int32) nb y1 y2), vi u10, vi u11, vi u12, vi u13] [(.int (atF (0 : Int32) (1 : Int32) nb y1 y2)), (.int (atF (0 : Int32) (1 : Int32) n x1 x2))])) rfl (by rw [hml]; rfl) (argsL := [(.int (atF (0 : Int32) (1 : Int32) n x1 x2)), (.int (atF (0 : Int32) (1 : Int32) nb y1 y2))]) (rest := []) (lenOf pd_oIIcI rfl) rfl (wk rfl rfl) (hb hby d13_103)
      obtain ⟨rfl, e14, rfl⟩ := q14
      have N14 := Fr.app N0 (Fr.nil n0)
      refine Fin.go st14 ?_
      show Fin _ _ _ _ _ _ _ _ T14 (mkF m 106 #[vr b1, vi n, vr b2, vi nb, vi (atF (0 : Int32) (1 : Int32) n x1 x2), vi u5, vi u6, vi u7, vi u8, vi (atF (0 : Int32) (1 : Int32) nb y1 y2), vi u10, vi u11, vi u12, vi u13] [(.int (lcmI (atF (0 : Int32) (1 : Int32) n x1 x2) (atF (0 : Int32) (1 : Int32) nb y1 y2)))])
      exact Fin.leaveN X14 e14 hlk (v := some (.int (lcmI (atF (0 : Int32) (1 : Int32) n x1 x2) (atF (0 : Int32) (1 : Int32) nb y1 y2)))) (nvS hret) (by decide) (by decide) ⟨by unfold refF; rw [if_neg c96], rfl, rfl⟩ (fun fs hr => retI X14 hx hret (hb hby d13_106) hr)
  have tailB : ∀ (Tt15 : State) (Xt15 : Stand p l e ({ frames := 3, cells := 0, slots := 0, locals := 41 } : Room) s m #[(.ref b1), (.int n), (.ref b2), (.int nb)] below mth cc Tt15 [] 0 0) (et15 : Tt15.heap = h0) (u5 u6 u7 u8 : Int32) (h6 : s1 n x1 x2 x3 = u6) (h8 : s2 n x1 x2 x3 = u8), Fin FrameEnd p e below s (Pure h0 (some (.int (refF n x1 x2 x3 nb y1 y2 y3)))) 0 0 Tt15 (mkF m 46 #[vr b1, vi n, vr b2, vi nb, vi (atF (0 : Int32) (1 : Int32) n x1 x2), vi u5, vi u6, vi u7, vi u8, .unset, .unset, .unset, .unset, .unset] []) := by
    intro Tt15 Xt15 et15 u5 u6 u7 u8 h6 h8
    refine .go (fun _ k => XS.aloadN Xt15.here hx rfl (hb hby d13_46) rfl rfl k) ?_
    refine .go (fun _ k => XS.iloadN Xt15.here hx rfl (hb hby d13_47) rfl k) ?_
    refine .go (fun _ k => XS.iconst Xt15.here hx rfl (hb hby d13_48) k) ?_
    obtain ⟨v16, T16, L16, X16, q16, st16⟩ := callSt Xt15 hx hZ hown (hw _ w_63) (hw _ w_64) (hw _ w_2) (hw _ w_65) (by decide) (W := 0) (rmAt0 l Z a0 hw n0 h0 O b2 k2 nb y1 y2 y3 V2 hm) et15 (by decide) (by decide) (by decide) (by decide) (g := (mkF m 49 #[vr b1, vi n, vr b2, vi nb, vi (atF (0 : Int32) (1 : Int32) n x1 x2), vi u5, vi u6, vi u7, vi u8, .unset, .unset, .unset, .unset, .unset] [(.int (0 : Int32)), (.int nb), (.ref b2)])) rfl (by rw [hml]; rfl) (argsL := [(.ref b2), (.int nb), (.int (0 : Int32))]) (rest := []) (lenOf pd_oACIIcI rfl) rfl (wk rfl rfl) (hb hby d13_49)
    obtain ⟨rfl, e16, rfl⟩ := q16
    have N16 := Fr.app N0 (Fr.nil n0)
    refine Fin.go st16 ?_
    show Fin _ _ _ _ _ _ _ _ T16 (mkF m 52 #[vr b1, vi n, vr b2, vi nb, vi (atF (0 : Int32) (1 : Int32) n x1 x2), vi u5, vi u6, vi u7, vi u8, .unset, .unset, .unset, .unset, .unset] [(.int (atF (0 : Int32) (1 : Int32) nb y1 y2))])
    refine .go (fun _ k => XS.istore X16.here hx rfl (hb hby d13_52) rfl (l' := #[vr b1, vi n, vr b2, vi nb, vi (atF (0 : Int32) (1 : Int32) n x1 x2), vi u5, vi u6, vi u7, vi u8, vi (atF (0 : Int32) (1 : Int32) nb y1 y2), .unset, .unset, .unset, .unset]) rfl k) ?_
    refine .go (fun _ k => XS.aloadN X16.here hx rfl (hb hby d13_54) rfl rfl k) ?_
    refine .go (fun _ k => XS.iloadN X16.here hx rfl (hb hby d13_55) rfl k) ?_
    refine .go (fun _ k => XS.iconst X16.here hx rfl (hb hby d13_56) k) ?_
    obtain ⟨v17, T17, L17, X17, q17, st17⟩ := callSt X16 hx hZ hown (hw _ w_73) (hw _ w_74) (hw _ w_2) (hw _ w_75) (by decide) (W := 0) (rmWi0 l Z a0 hw n0 h0 O b2 k2 nb y1 y2 y3 V2 hm) e16 (by decide) (by decide) (by decide) (by decide) (g := (mkF m 57 #[vr b1, vi n, vr b2, vi nb, vi (atF (0 : Int32) (1 : Int32) n x1 x2), vi u5, vi u6, vi u7, vi u8, vi (atF (0 : Int32) (1 : Int32) nb y1 y2), .unset, .unset, .unset, .unset] [(.int (0 : Int32)), (.int nb), (.ref b2)])) rfl (by rw [hml]; rfl) (argsL := [(.ref b2), (.int nb), (.int (0 : Int32))]) (rest := []) (lenOf pd_oACIIcI rfl) rfl (wk rfl rfl) (hb hby d13_57)
    obtain ⟨rfl, e17, rfl⟩ := q17
    have N17 := Fr.app N16 (Fr.nil n0)
    refine Fin.go st17 ?_
    show Fin _ _ _ _ _ _ _ _ T17 (mkF m 60 #[vr b1, vi n, vr b2, vi nb, vi (atF (0 : Int32) (1 : Int32) n x1 x2), vi u5, vi u6, vi u7, vi u8, vi (atF (0 : Int32) (1 : Int32) nb y1 y2), .unset, .unset, .unset, .unset] [(.int (widF (1 : Int32) nb y1 y2))])
    by_cases hB1 : pa (1 : Int32) nb y1 y2 = 0
    · rw [show widF (1 : Int32) nb y1 y2 = (1 : Int32) from if_pos hB1]
      show Fin _ _ _ _ _ _ _ _ T17 (mkF m 60 #[vr b1, vi n, vr b2, vi nb, vi (atF (0 : Int32) (1 : Int32) n x1 x2), vi u5, vi u6, vi u7, vi u8, vi (atF (0 : Int32) (1 : Int32) nb y1 y2), .unset, .unset, .unset, .unset] [(.int (1 : Int32))])
      refine .go (fun _ k => XS.istore X17.here hx rfl (hb hby d13_60) rfl (l' := #[vr b1, vi n, vr b2, vi nb, vi (atF (0 : Int32) (1 : Int32) n x1 x2), vi u5, vi u6, vi u7, vi u8, vi (atF (0 : Int32) (1 : Int32) nb y1 y2), vi (1 : Int32), .unset, .unset, .unset]) rfl k) ?_
      refine .go (fun _ k => XS.aloadN X17.here hx rfl (hb hby d13_62) rfl rfl k) ?_
      refine .go (fun _ k => XS.iloadN X17.here hx rfl (hb hby d13_63) rfl k) ?_
      refine .go (fun _ k => XS.iload X17.here hx rfl (hb hby d13_64) rfl k) ?_
      obtain ⟨v18, T18, L18, X18, q18, st18⟩ := callSt X17 hx hZ hown (hw _ w_63) (hw _ w_64) (hw _ w_2) (hw _ w_65) (by decide) (W := 0) (rmAt1 l Z a0 hw n0 h0 O b2 k2 nb y1 y2 y3 V2 hm) e17 (by decide) (by decide) (by decide) (by decide) (g := (mkF m 66 #[vr b1, vi n, vr b2, vi nb, vi (atF (0 : Int32) (1 : Int32) n x1 x2), vi u5, vi u6, vi u7, vi u8, vi (atF (0 : Int32) (1 : Int32) nb y1 y2), vi (1 : Int32), .unset, .unset, .unset] [(.int (1 : Int32)), (.int nb), (.ref b2)])) rfl (by rw [hml]; rfl) (argsL := [(.ref b2), (.int nb), (.int (1 : Int32))]) (rest := []) (lenOf pd_oACIIcI rfl) rfl (wk rfl rfl) (hb hby d13_66)
      obtain ⟨rfl, e18, rfl⟩ := q18
      have N18 := Fr.app N17 (Fr.nil n0)
      refine Fin.go st18 ?_
      show Fin _ _ _ _ _ _ _ _ T18 (mkF m 69 #[vr b1, vi n, vr b2, vi nb, vi (atF (0 : Int32) (1 : Int32) n x1 x2), vi u5, vi u6, vi u7, vi u8, vi (atF (0 : Int32) (1 : Int32) nb y1 y2), vi (1 : Int32), .unset, .unset, .unset] [(.int (atF (1 : Int32) (2 : Int32) nb y2 y3))])
      refine .go (fun _ k => XS.istore X18.here hx rfl (hb hby d13_69) rfl (l' := #[vr b1, vi n, vr b2, vi nb, vi (atF (0 : Int32) (1 : Int32) n x1 x2), vi u5, vi u6, vi u7, vi u8, vi (atF (0 : Int32) (1 : Int32) nb y1 y2), vi (1 : Int32), vi (atF (1 : Int32) (2 : Int32) nb y2 y3), .unset, .unset]) rfl k) ?_
      refine .go (fun _ k => XS.iload X18.here hx rfl (hb hby d13_71) rfl k) ?_
      refine .go (fun _ k => XS.aloadN X18.here hx rfl (hb hby d13_73) rfl rfl k) ?_
      refine .go (fun _ k => XS.iloadN X18.here hx rfl (hb hby d13_74) rfl k) ?_
      refine .go (fun _ k => XS.iload X18.here hx rfl (hb hby d13_75) rfl k) ?_
      obtain ⟨v19, T19, L19, X19, q19, st19⟩ := callSt X18 hx hZ hown (hw _ w_73) (hw _ w_74) (hw _ w_2) (hw _ w_75) (by decide) (W := 1) (rmWi1 l Z a0 hw n0 h0 O b2 k2 nb y1 y2 y3 V2 hm) e18 (by decide) (by decide) (by decide) (by decide) (g := (mkF m 77 #[vr b1, vi n, vr b2, vi nb, vi (atF (0 : Int32) (1 : Int32) n x1 x2), vi u5, vi u6, vi u7, vi u8, vi (atF (0 : Int32) (1 : Int32) nb y1 y2), vi (1 : Int32), vi (atF (1 : Int32) (2 : Int32) nb y2 y3), .unset, .unset] [(.int (1 : Int32)), (.int nb), (.ref b2), (.int (1 : Int32))])) rfl (by rw [hml]; rfl) (argsL := [(.ref b2), (.int nb), (.int (1 : Int32))]) (rest := [(.int (1 : Int32))]) (lenOf pd_oACIIcI rfl) rfl (wk rfl rfl) (hb hby d13_77)
      obtain ⟨rfl, e19, rfl⟩ := q19
      have N19 := Fr.app N18 (Fr.nil n0)
      refine Fin.go st19 ?_
      show Fin _ _ _ _ _ _ _ _ T19 (mkF m 80 #[vr b1, vi n, vr b2, vi nb, vi (atF (0 : Int32) (1 : Int32) n x1 x2), vi u5, vi u6, vi u7, vi u8, vi (atF (0 : Int32) (1 : Int32) nb y1 y2), vi (1 : Int32), vi (atF (1 : Int32) (2 : Int32) nb y2 y3), .unset, .unset] [(.int (widF (2 : Int32) nb y2 y3)), (.int (1 : Int32))])
      by_cases hB2 : pa (2 : Int32) nb y2 y3 = 0
      · rw [show widF (2 : Int32) nb y2 y3 = (1 : Int32) from if_pos hB2]
        show Fin _ _ _ _ _ _ _ _ T19 (mkF m 80 #[vr b1, vi n, vr b2, vi nb, vi (atF (0 : Int32) (1 : Int32) n x1 x2), vi u5, vi u6, vi u7, vi u8, vi (atF (0 : Int32) (1 : Int32) nb y1 y2), vi (1 : Int32), vi (atF (1 : Int32) (2 : Int32) nb y2 y3), .unset, .unset] [(.int (1 : Int32)), (.int (1 : Int32))])
        refine .go (fun _ k => XS.iadd X19.here hx rfl (hb hby d13_80) rfl k) ?_
        show Fin _ _ _ _ _ _ _ _ T19 (mkF m 81 #[vr b1, vi n, vr b2, vi nb, vi (atF (0 : Int32) (1 : Int32) n x1 x2), vi u5, vi u6, vi u7, vi u8, vi (atF (0 : Int32) (1 : Int32) nb y1 y2), vi (1 : Int32), vi (atF (1 : Int32) (2 : Int32) nb y2 y3), .unset, .unset] [(.int ((1 : Int32) + (1 : Int32)))])
        rw [show ((1 : Int32) + (1 : Int32)) = (2 : Int32) from by decide]
        show Fin _ _ _ _ _ _ _ _ T19 (mkF m 81 #[vr b1, vi n, vr b2, vi nb, vi (atF (0 : Int32) (1 : Int32) n x1 x2), vi u5, vi u6, vi u7, vi u8, vi (atF (0 : Int32) (1 : Int32) nb y1 y2), vi (1 : Int32), vi (atF (1 : Int32) (2 : Int32) nb y2 y3), .unset, .unset] [(.int (2 : Int32))])
        refine .go (fun _ k => XS.istore X19.here hx rfl (hb hby d13_81) rfl (l' := #[vr b1, vi n, vr b2, vi nb, vi (atF (0 : Int32) (1 : Int32) n x1 x2), vi u5, vi u6, vi u7, vi u8, vi (atF (0 : Int32) (1 : Int32) nb y1 y2), vi (1 : Int32), vi (atF (1 : Int32) (2 : Int32) nb y2 y3), vi (2 : Int32), .unset]) rfl k) ?_
        refine .go (fun _ k => XS.aloadN X19.here hx rfl (hb hby d13_83) rfl rfl k) ?_
        refine .go (fun _ k => XS.iloadN X19.here hx rfl (hb hby d13_84) rfl k) ?_
        refine .go (fun _ k => XS.iload X19.here hx rfl (hb hby d13_85) rfl k) ?_
        obtain ⟨v20, T20, L20, X20, q20, st20⟩ := callSt X19 hx hZ hown (hw _ w_63) (hw _ w_64) (hw _ w_2) (hw _ w_65) (by decide) (W := 0) (rmAt2 l Z a0 hw n0 h0 O b2 k2 nb y1 y2 y3 V2 hm) e19 (by decide) (by decide) (by decide) (by decide) (g := (mkF m 87 #[vr b1, vi n, vr b2, vi nb, vi (atF (0 : Int32) (1 : Int32) n x1 x2), vi u5, vi u6, vi u7, vi u8, vi (atF (0 : Int32) (1 : Int32) nb y1 y2), vi (1 : Int32), vi (atF (1 : Int32) (2 : Int32) nb y2 y3), vi (2 : Int32), .unset] [(.int (2 : Int32)), (.int nb), (.ref b2)])) rfl (by rw [hml]; rfl) (argsL := [(.ref b2), (.int nb), (.int (2 : Int32))]) (rest := []) (lenOf pd_oACIIcI rfl) rfl (wk rfl rfl) (hb hby d13_87)
        obtain ⟨rfl, e20, rfl⟩ := q20
        have N20 := Fr.app N19 (Fr.nil n0)
        refine Fin.go st20 ?_
        show Fin _ _ _ _ _ _ _ _ T20 (mkF m 90 #[vr b1, vi n, vr b2, vi nb, vi (atF (0 : Int32) (1 : Int32) n x1 x2), vi u5, vi u6, vi u7, vi u8, vi (atF (0 : Int32) (1 : Int32) nb y1 y2), vi (1 : Int32), vi (atF (1 : Int32) (2 : Int32) nb y2 y3), vi (2 : Int32), .unset] [(.int (atF (2 : Int32) (3 : Int32) nb y3 y3))])
        refine .go (fun _ k => XS.istore X20.here hx rfl (hb hby d13_90) rfl (l' := #[vr b1, vi n, vr b2, vi nb, vi (atF (0 : Int32) (1 : Int32) n x1 x2), vi u5, vi u6, vi u7, vi u8, vi (atF (0 : Int32) (1 : Int32) nb y1 y2), vi (1 : Int32), vi (atF (1 : Int32) (2 : Int32) nb y2 y3), vi (2 : Int32), vi (atF (2 : Int32) (3 : Int32) nb y3 y3)]) rfl k) ?_
        show Fin _ _ _ _ _ _ _ _ T20 (mkF m 92 #[vr b1, vi n, vr b2, vi nb, vi (atF (0 : Int32) (1 : Int32) n x1 x2), vi u5, vi u6, vi u7, vi u8, vi (atF (0 : Int32) (1 : Int32) nb y1 y2), vi (1 : Int32), vi (atF (1 : Int32) (2 : Int32) nb y2 y3), vi (2 : Int32), vi (atF (2 : Int32) (3 : Int32) nb y3 y3)] [])
        exact tailC T20 X20 e20 u5 u6 u7 u8 (1 : Int32) (atF (1 : Int32) (2 : Int32) nb y2 y3) (2 : Int32) (atF (2 : Int32) (3 : Int32) nb y3 y3) h6 h8 (if_pos hB1) ((if_pos hB1).trans (if_pos hB2))
      · rw [show widF (2 : Int32) nb y2 y3 = (2 : Int32) from if_neg hB2]
        show Fin _ _ _ _ _ _ _ _ T19 (mkF m 80 #[vr b1, vi n, vr b2, vi nb, vi (atF (0 : Int32) (1 : Int32) n x1 x2), vi u5, vi u6, vi u7, vi u8, vi (atF (0 : Int32) (1 : Int32) nb y1 y2), vi (1 : Int32), vi (atF (1 : Int32) (2 : Int32) nb y2 y3), .unset, .unset] [(.int (2 : Int32)), (.int (1 : Int32))])
        refine .go (fun _ k => XS.iadd X19.here hx rfl (hb hby d13_80) rfl k) ?_
        show Fin _ _ _ _ _ _ _ _ T19 (mkF m 81 #[vr b1, vi n, vr b2, vi nb, vi (atF (0 : Int32) (1 : Int32) n x1 x2), vi u5, vi u6, vi u7, vi u8, vi (atF (0 : Int32) (1 : Int32) nb y1 y2), vi (1 : Int32), vi (atF (1 : Int32) (2 : Int32) nb y2 y3), .unset, .unset] [(.int ((1 : Int32) + (2 : Int32)))])
        rw [show ((1 : Int32) + (2 : Int32)) = (3 : Int32) from by decide]
        show Fin _ _ _ _ _ _ _ _ T19 (mkF m 81 #[vr b1, vi n, vr b2, vi nb, vi (atF (0 : Int32) (1 : Int32) n x1 x2), vi u5, vi u6, vi u7, vi u8, vi (atF (0 : Int32) (1 : Int32) nb y1 y2), vi (1 : Int32), vi (atF (1 : Int32) (2 : Int32) nb y2 y3), .unset, .unset] [(.int (3 : Int32))])
        refine .go (fun _ k => XS.istore X19.here hx rfl (hb hby d13_81) rfl (l' := #[vr b1, vi n, vr b2, vi nb, vi (atF (0 : Int32) (1 : Int32) n x1 x2), vi u5, vi u6, vi u7, vi u8, vi (atF (0 : Int32) (1 : Int32) nb y1 y2), vi (1 : Int32), vi (atF (1 : Int32) (2 : Int32) nb y2 y3), vi (3 : Int32), .unset]) rfl k) ?_
        refine .go (fun _ k => XS.aloadN X19.here hx rfl (hb hby d13_83) rfl rfl k) ?_
        refine .go (fun _ k => XS.iloadN X19.here hx rfl (hb hby d13_84) rfl k) ?_
        refine .go (fun _ k => XS.iload X19.here hx rfl (hb hby d13_85) rfl k) ?_
        obtain ⟨v21, T21, L21, X21, q21, st21⟩ := callSt X19 hx hZ hown (hw _ w_63) (hw _ w_64) (hw _ w_2) (hw _ w_65) (by decide) (W := 0) (rmAt3 l Z a0 hw n0 h0 O b2 k2 nb y1 y2 y3 V2 hm) e19 (by decide) (by decide) (by decide) (by decide) (g := (mkF m 87 #[vr b1, vi n, vr b2, vi nb, vi (atF (0 : Int32) (1 : Int32) n x1 x2), vi u5, vi u6, vi u7, vi u8, vi (atF (0 : Int32) (1 : Int32) nb y1 y2), vi (1 : Int32), vi (atF (1 : Int32) (2 : Int32) nb y2 y3), vi (3 : Int32), .unset] [(.int (3 : Int32)), (.int nb), (.ref b2)])) rfl (by rw [hml]; rfl) (argsL := [(.ref b2), (.int nb), (.int (3 : Int32))]) (rest := []) (lenOf pd_oACIIcI rfl) rfl (wk rfl rfl) (hb hby d13_87)
        obtain ⟨rfl, e21, rfl⟩ := q21
        have N21 := Fr.app N19 (Fr.nil n0)
        refine Fin.go st21 ?_
        show Fin _ _ _ _ _ _ _ _ T21 (mkF m 90 #[vr b1, vi n, vr b2, vi nb, vi (atF (0 : Int32) (1 : Int32) n x1 x2), vi u5, vi u6, vi u7, vi u8, vi (atF (0 : Int32) (1 : Int32) nb y1 y2), vi (1 : Int32), vi (atF (1 : Int32) (2 : Int32) nb y2 y3), vi (3 : Int32), .unset] [(.int (-1 : Int32))])
        refine .go (fun _ k => XS.istore X21.here hx rfl (hb hby d13_90) rfl (l' := #[vr b1, vi n, vr b2, vi nb, vi (atF (0 : Int32) (1 : Int32) n x1 x2), vi u5, vi u6, vi u7, vi u8, vi (atF (0 : Int32) (1 : Int32) nb y1 y2), vi (1 : Int32), vi (atF (1 : Int32) (2 : Int32) nb y2 y3), vi (3 : Int32), vi (-1 : Int32)]) rfl k) ?_
        show Fin _ _ _ _ _ _ _ _ T21 (mkF m 92 #[vr b1, vi n, vr b2, vi nb, vi (atF (0 : Int32) (1 : Int32) n x1 x2), vi u5, vi u6, vi u7, vi u8, vi (atF (0 : Int32) (1 : Int32) nb y1 y2), vi (1 : Int32), vi (atF (1 : Int32) (2 : Int32) nb y2 y3), vi (3 : Int32), vi (-1 : Int32)] [])
        exact tailC T21 X21 e21 u5 u6 u7 u8 (1 : Int32) (atF (1 : Int32) (2 : Int32) nb y2 y3) (3 : Int32) (-1 : Int32) h6 h8 (if_pos hB1) ((if_pos hB1).trans (if_neg hB2))
    · rw [show widF (1 : Int32) nb y1 y2 = (2 : Int32) from if_neg hB1]
      show Fin _ _ _ _ _ _ _ _ T17 (mkF m 60 #[vr b1, vi n, vr b2, vi nb, vi (atF (0 : Int32) (1 : Int32) n x1 x2), vi u5, vi u6, vi u7, vi u8, vi (atF (0 : Int32) (1 : Int32) nb y1 y2), .unset, .unset, .unset, .unset] [(.int (2 : Int32))])
      refine .go (fun _ k => XS.istore X17.here hx rfl (hb hby d13_60) rfl (l' := #[vr b1, vi n, vr b2, vi nb, vi (atF (0 : Int32) (1 : Int32) n x1 x2), vi u5, vi u6, vi u7, vi u8, vi (atF (0 : Int32) (1 : Int32) nb y1 y2), vi (2 : Int32), .unset, .unset, .unset]) rfl k) ?_
      refine .go (fun _ k => XS.aloadN X17.here hx rfl (hb hby d13_62) rfl rfl k) ?_
      refine .go (fun _ k => XS.iloadN X17.here hx rfl (hb hby d13_63) rfl k) ?_
      refine .go (fun _ k => XS.iload X17.here hx rfl (hb hby d13_64) rfl k) ?_
      obtain ⟨v22, T22, L22, X22, q22, st22⟩ := callSt X17 hx hZ hown (hw _ w_63) (hw _ w_64) (hw _ w_2) (hw _ w_65) (by decide) (W := 0) (rmAt2 l Z a0 hw n0 h0 O b2 k2 nb y1 y2 y3 V2 hm) e17 (by decide) (by decide) (by decide) (by decide) (g := (mkF m 66 #[vr b1, vi n, vr b2, vi nb, vi (atF (0 : Int32) (1 : Int32) n x1 x2), vi u5, vi u6, vi u7, vi u8, vi (atF (0 : Int32) (1 : Int32) nb y1 y2), vi (2 : Int32), .unset, .unset, .unset] [(.int (2 : Int32)), (.int nb), (.ref b2)])) rfl (by rw [hml]; rfl) (argsL := [(.ref b2), (.int nb), (.int (2 : Int32))]) (rest := []) (lenOf pd_oACIIcI rfl) rfl (wk rfl rfl) (hb hby d13_66)
      obtain ⟨rfl, e22, rfl⟩ := q22
      have N22 := Fr.app N17 (Fr.nil n0)
      refine Fin.go st22 ?_
      show Fin _ _ _ _ _ _ _ _ T22 (mkF m 69 #[vr b1, vi n, vr b2, vi nb, vi (atF (0 : Int32) (1 : Int32) n x1 x2), vi u5, vi u6, vi u7, vi u8, vi (atF (0 : Int32) (1 : Int32) nb y1 y2), vi (2 : Int32), .unset, .unset, .unset] [(.int (atF (2 : Int32) (3 : Int32) nb y3 y3))])
      refine .go (fun _ k => XS.istore X22.here hx rfl (hb hby d13_69) rfl (l' := #[vr b1, vi n, vr b2, vi nb, vi (atF (0 : Int32) (1 : Int32) n x1 x2), vi u5, vi u6, vi u7, vi u8, vi (atF (0 : Int32) (1 : Int32) nb y1 y2), vi (2 : Int32), vi (atF (2 : Int32) (3 : Int32) nb y3 y3), .unset, .unset]) rfl k) ?_
      refine .go (fun _ k => XS.iload X22.here hx rfl (hb hby d13_71) rfl k) ?_
      refine .go (fun _ k => XS.aloadN X22.here hx rfl (hb hby d13_73) rfl rfl k) ?_
      refine .go (fun _ k => XS.iloadN X22.here hx rfl (hb hby d13_74) rfl k) ?_
      refine .go (fun _ k => XS.iload X22.here hx rfl (hb hby d13_75) rfl k) ?_
      obtain ⟨v23, T23, L23, X23, q23, st23⟩ := callSt X22 hx hZ hown (hw _ w_73) (hw _ w_74) (hw _ w_2) (hw _ w_75) (by decide) (W := 1) (rmWi2 l Z a0 hw n0 h0 O b2 k2 nb y1 y2 y3 V2 hm) e22 (by decide) (by decide) (by decide) (by decide) (g := (mkF m 77 #[vr b1, vi n, vr b2, vi nb, vi (atF (0 : Int32) (1 : Int32) n x1 x2), vi u5, vi u6, vi u7, vi u8, vi (atF (0 : Int32) (1 : Int32) nb y1 y2), vi (2 : Int32), vi (atF (2 : Int32) (3 : Int32) nb y3 y3), .unset, .unset] [(.int (2 : Int32)), (.int nb), (.ref b2), (.int (2 : Int32))])) rfl (by rw [hml]; rfl) (argsL := [(.ref b2), (.int nb), (.int (2 : Int32))]) (rest := [(.int (2 : Int32))]) (lenOf pd_oACIIcI rfl) rfl (wk rfl rfl) (hb hby d13_77)
      obtain ⟨rfl, e23, rfl⟩ := q23
      have N23 := Fr.app N22 (Fr.nil n0)
      refine Fin.go st23 ?_
      show Fin _ _ _ _ _ _ _ _ T23 (mkF m 80 #[vr b1, vi n, vr b2, vi nb, vi (atF (0 : Int32) (1 : Int32) n x1 x2), vi u5, vi u6, vi u7, vi u8, vi (atF (0 : Int32) (1 : Int32) nb y1 y2), vi (2 : Int32), vi (atF (2 : Int32) (3 : Int32) nb y3 y3), .unset, .unset] [(.int (1 : Int32)), (.int (2 : Int32))])
      refine .go (fun _ k => XS.iadd X23.here hx rfl (hb hby d13_80) rfl k) ?_
      show Fin _ _ _ _ _ _ _ _ T23 (mkF m 81 #[vr b1, vi n, vr b2, vi nb, vi (atF (0 : Int32) (1 : Int32) n x1 x2), vi u5, vi u6, vi u7, vi u8, vi (atF (0 : Int32) (1 : Int32) nb y1 y2), vi (2 : Int32), vi (atF (2 : Int32) (3 : Int32) nb y3 y3), .unset, .unset] [(.int ((2 : Int32) + (1 : Int32)))])
      rw [show ((2 : Int32) + (1 : Int32)) = (3 : Int32) from by decide]
      show Fin _ _ _ _ _ _ _ _ T23 (mkF m 81 #[vr b1, vi n, vr b2, vi nb, vi (atF (0 : Int32) (1 : Int32) n x1 x2), vi u5, vi u6, vi u7, vi u8, vi (atF (0 : Int32) (1 : Int32) nb y1 y2), vi (2 : Int32), vi (atF (2 : Int32) (3 : Int32) nb y3 y3), .unset, .unset] [(.int (3 : Int32))])
      refine .go (fun _ k => XS.istore X23.here hx rfl (hb hby d13_81) rfl (l' := #[vr b1, vi n, vr b2, vi nb, vi (atF (0 : Int32) (1 : Int32) n x1 x2), vi u5, vi u6, vi u7, vi u8, vi (atF (0 : Int32) (1 : Int32) nb y1 y2), vi (2 : Int32), vi (atF (2 : Int32) (3 : Int32) nb y3 y3), vi (3 : Int32), .unset]) rfl k) ?_
      refine .go (fun _ k => XS.aloadN X23.here hx rfl (hb hby d13_83) rfl rfl k) ?_
      refine .go (fun _ k => XS.iloadN X23.here hx rfl (hb hby d13_84) rfl k) ?_
      refine .go (fun _ k => XS.iload X23.here hx rfl (hb hby d13_85) rfl k) ?_
      obtain ⟨v24, T24, L24, X24, q24, st24⟩ := callSt X23 hx hZ hown (hw _ w_63) (hw _ w_64) (hw _ w_2) (hw _ w_65) (by decide) (W := 0) (rmAt3 l Z a0 hw n0 h0 O b2 k2 nb y1 y2 y3 V2 hm) e23 (by decide) (by decide) (by decide) (by decide) (g := (mkF m 87 #[vr b1, vi n, vr b2, vi nb, vi (atF (0 : Int32) (1 : Int32) n x1 x2), vi u5, vi u6, vi u7, vi u8, vi (atF (0 : Int32) (1 : Int32) nb y1 y2), vi (2 : Int32), vi (atF (2 : Int32) (3 : Int32) nb y3 y3), vi (3 : Int32), .unset] [(.int (3 : Int32)), (.int nb), (.ref b2)])) rfl (by rw [hml]; rfl) (argsL := [(.ref b2), (.int nb), (.int (3 : Int32))]) (rest := []) (lenOf pd_oACIIcI rfl) rfl (wk rfl rfl) (hb hby d13_87)
      obtain ⟨rfl, e24, rfl⟩ := q24
      have N24 := Fr.app N23 (Fr.nil n0)
      refine Fin.go st24 ?_
      show Fin _ _ _ _ _ _ _ _ T24 (mkF m 90 #[vr b1, vi n, vr b2, vi nb, vi (atF (0 : Int32) (1 : Int32) n x1 x2), vi u5, vi u6, vi u7, vi u8, vi (atF (0 : Int32) (1 : Int32) nb y1 y2), vi (2 : Int32), vi (atF (2 : Int32) (3 : Int32) nb y3 y3), vi (3 : Int32), .unset] [(.int (-1 : Int32))])
      refine .go (fun _ k => XS.istore X24.here hx rfl (hb hby d13_90) rfl (l' := #[vr b1, vi n, vr b2, vi nb, vi (atF (0 : Int32) (1 : Int32) n x1 x2), vi u5, vi u6, vi u7, vi u8, vi (atF (0 : Int32) (1 : Int32) nb y1 y2), vi (2 : Int32), vi (atF (2 : Int32) (3 : Int32) nb y3 y3), vi (3 : Int32), vi (-1 : Int32)]) rfl k) ?_
      show Fin _ _ _ _ _ _ _ _ T24 (mkF m 92 #[vr b1, vi n, vr b2, vi nb, vi (atF (0 : Int32) (1 : Int32) n x1 x2), vi u5, vi u6, vi u7, vi u8, vi (atF (0 : Int32) (1 : Int32) nb y1 y2), vi (2 : Int32), vi (atF (2 : Int32) (3 : Int32) nb y3 y3), vi (3 : Int32), vi (-1 : Int32)] [])
      exact tailC T24 X24 e24 u5 u6 u7 u8 (2 : Int32) (atF (2 : Int32) (3 : Int32) nb y3 y3) (3 : Int32) (-1 : Int32) h6 h8 (if_neg hB1) (if_neg hB1)
  show Fin _ _ _ _ _ _ _ _ s₁ (mkF m 0 #[vr b1, vi n, vr b2, vi nb, .unset, .unset, .unset, .unset, .unset, .unset, .unset, .unset, .unset, .unset] [])
  refine .go (fun _ k => XS.aloadN X0.here hx rfl (hb hby d13_0) rfl rfl k) ?_
  refine .go (fun _ k => XS.iloadN X0.here hx rfl (hb hby d13_1) rfl k) ?_
  refine .go (fun _ k => XS.iconst X0.here hx rfl (hb hby d13_2) k) ?_
  obtain ⟨v25, T25, L25, X25, q25, st25⟩ := callSt X0 hx hZ hown (hw _ w_63) (hw _ w_64) (hw _ w_2) (hw _ w_65) (by decide) (W := 0) (rmAt0 l Z a0 hw n0 h0 O b1 k1 n x1 x2 x3 V1 hn) e0 (by decide) (by decide) (by decide) (by decide) (g := (mkF m 3 #[vr b1, vi n, vr b2, vi nb, .unset, .unset, .unset, .unset, .unset, .unset, .unset, .unset, .unset, .unset] [(.int (0 : Int32)), (.int n), (.ref b1)])) rfl (by rw [hml]; rfl) (argsL := [(.ref b1), (.int n), (.int (0 : Int32))]) (rest := []) (lenOf pd_oACIIcI rfl) rfl (wk rfl rfl) (hb hby d13_3)
  obtain ⟨rfl, e25, rfl⟩ := q25
  have N25 := Fr.app N0 (Fr.nil n0)
  refine Fin.go st25 ?_
  show Fin _ _ _ _ _ _ _ _ T25 (mkF m 6 #[vr b1, vi n, vr b2, vi nb, .unset, .unset, .unset, .unset, .unset, .unset, .unset, .unset, .unset, .unset] [(.int (atF (0 : Int32) (1 : Int32) n x1 x2))])
  refine .go (fun _ k => XS.istore X25.here hx rfl (hb hby d13_6) rfl (l' := #[vr b1, vi n, vr b2, vi nb, vi (atF (0 : Int32) (1 : Int32) n x1 x2), .unset, .unset, .unset, .unset, .unset, .unset, .unset, .unset, .unset]) rfl k) ?_
  refine .go (fun _ k => XS.aloadN X25.here hx rfl (hb hby d13_8) rfl rfl k) ?_
  refine .go (fun _ k => XS.iloadN X25.here hx rfl (hb hby d13_9) rfl k) ?_
  refine .go (fun _ k => XS.iconst X25.here hx rfl (hb hby d13_10) k) ?_
  obtain ⟨v26, T26, L26, X26, q26, st26⟩ := callSt X25 hx hZ hown (hw _ w_73) (hw _ w_74) (hw _ w_2) (hw _ w_75) (by decide) (W := 0) (rmWi0 l Z a0 hw n0 h0 O b1 k1 n x1 x2 x3 V1 hn) e25 (by decide) (by decide) (by decide) (by decide) (g := (mkF m 11 #[vr b1, vi n, vr b2, vi nb, vi (atF (0 : Int32) (1 : Int32) n x1 x2), .unset, .unset, .unset, .unset, .unset, .unset, .unset, .unset, .unset] [(.int (0 : Int32)), (.int n), (.ref b1)])) rfl (by rw [hml]; rfl) (argsL := [(.ref b1), (.int n), (.int (0 : Int32))]) (rest := []) (lenOf pd_oACIIcI rfl) rfl (wk rfl rfl) (hb hby d13_11)
  obtain ⟨rfl, e26, rfl⟩ := q26
  have N26 := Fr.app N25 (Fr.nil n0)
  refine Fin.go st26 ?_
  show Fin _ _ _ _ _ _ _ _ T26 (mkF m 14 #[vr b1, vi n, vr b2, vi nb, vi (atF (0 : Int32) (1 : Int32) n x1 x2), .unset, .unset, .unset, .unset, .unset, .unset, .unset, .unset, .unset] [(.int (widF (1 : Int32) n x1 x2))])
  by_cases hA1 : pa (1 : Int32) n x1 x2 = 0
  · rw [show widF (1 : Int32) n x1 x2 = (1 : Int32) from if_pos hA1]
    show Fin _ _ _ _ _ _ _ _ T26 (mkF m 14 #[vr b1, vi n, vr b2, vi nb, vi (atF (0 : Int32) (1 : Int32) n x1 x2), .unset, .unset, .unset, .unset, .unset, .unset, .unset, .unset, .unset] [(.int (1 : Int32))])
    refine .go (fun _ k => XS.istore X26.here hx rfl (hb hby d13_14) rfl (l' := #[vr b1, vi n, vr b2, vi nb, vi (atF (0 : Int32) (1 : Int32) n x1 x2), vi (1 : Int32), .unset, .unset, .unset, .unset, .unset, .unset, .unset, .unset]) rfl k) ?_
    refine .go (fun _ k => XS.aloadN X26.here hx rfl (hb hby d13_16) rfl rfl k) ?_
    refine .go (fun _ k => XS.iloadN X26.here hx rfl (hb hby d13_17) rfl k) ?_
    refine .go (fun _ k => XS.iload X26.here hx rfl (hb hby d13_18) rfl k) ?_
    obtain ⟨v27, T27, L27, X27, q27, st27⟩ := callSt X26 hx hZ hown (hw _ w_63) (hw _ w_64) (hw _ w_2) (hw _ w_65) (by decide) (W := 0) (rmAt1 l Z a0 hw n0 h0 O b1 k1 n x1 x2 x3 V1 hn) e26 (by decide) (by decide) (by decide) (by decide) (g := (mkF m 20 #[vr b1, vi n, vr b2, vi nb, vi (atF (0 : Int32) (1 : Int32) n x1 x2), vi (1 : Int32), .unset, .unset, .unset, .unset, .unset, .unset, .unset, .unset] [(.int (1 : Int32)), (.int n), (.ref b1)])) rfl (by rw [hml]; rfl) (argsL := [(.ref b1), (.int n), (.int (1 : Int32))]) (rest := []) (lenOf pd_oACIIcI rfl) rfl (wk rfl rfl) (hb hby d13_20)
    obtain ⟨rfl, e27, rfl⟩ := q27
    have N27 := Fr.app N26 (Fr.nil n0)
    refine Fin.go st27 ?_
    show Fin _ _ _ _ _ _ _ _ T27 (mkF m 23 #[vr b1, vi n, vr b2, vi nb, vi (atF (0 : Int32) (1 : Int32) n x1 x2), vi (1 : Int32), .unset, .unset, .unset, .unset, .unset, .unset, .unset, .unset] [(.int (atF (1 : Int32) (2 : Int32) n x2 x3))])
    refine .go (fun _ k => XS.istore X27.here hx rfl (hb hby d13_23) rfl (l' := #[vr b1, vi n, vr b2, vi nb, vi (atF (0 : Int32) (1 : Int32) n x1 x2), vi (1 : Int32), vi (atF (1 : Int32) (2 : Int32) n x2 x3), .unset, .unset, .unset, .unset, .unset, .unset, .unset]) rfl k) ?_
    refine .go (fun _ k => XS.iload X27.here hx rfl (hb hby d13_25) rfl k) ?_
    refine .go (fun _ k => XS.aloadN X27.here hx rfl (hb hby d13_27) rfl rfl k) ?_
    refine .go (fun _ k => XS.iloadN X27.here hx rfl (hb hby d13_28) rfl k) ?_
    refine .go (fun _ k => XS.iload X27.here hx rfl (hb hby d13_29) rfl k) ?_
    obtain ⟨v28, T28, L28, X28, q28, st28⟩ := callSt X27 hx hZ hown (hw _ w_73) (hw _ w_74) (hw _ w_2) (hw _ w_75) (by decide) (W := 1) (rmWi1 l Z a0 hw n0 h0 O b1 k1 n x1 x2 x3 V1 hn) e27 (by decide) (by decide) (by decide) (by decide) (g := (mkF m 31 #[vr b1, vi n, vr b2, vi nb, vi (atF (0 : Int32) (1 : Int32) n x1 x2), vi (1 : Int32), vi (atF (1 : Int32) (2 : Int32) n x2 x3), .unset, .unset, .unset, .unset, .unset, .unset, .unset] [(.int (1 : Int32)), (.int n), (.ref b1), (.int (1 : Int32))])) rfl (by rw [hml]; rfl) (argsL := [(.ref b1), (.int n), (.int (1 : Int32))]) (rest := [(.int (1 : Int32))]) (lenOf pd_oACIIcI rfl) rfl (wk rfl rfl) (hb hby d13_31)
    obtain ⟨rfl, e28, rfl⟩ := q28
    have N28 := Fr.app N27 (Fr.nil n0)
    refine Fin.go st28 ?_
    show Fin _ _ _ _ _ _ _ _ T28 (mkF m 34 #[vr b1, vi n, vr b2, vi nb, vi (atF (0 : Int32) (1 : Int32) n x1 x2), vi (1 : Int32), vi (atF (1 : Int32) (2 : Int32) n x2 x3), .unset, .unset, .unset, .unset, .unset, .unset, .unset] [(.int (widF (2 : Int32) n x2 x3)), (.int (1 : Int32))])
    by_cases hA2 : pa (2 : Int32) n x2 x3 = 0
    · rw [show widF (2 : Int32) n x2 x3 = (1 : Int32) from if_pos hA2]
      show Fin _ _ _ _ _ _ _ _ T28 (mkF m 34 #[vr b1, vi n, vr b2, vi nb, vi (atF (0 : Int32) (1 : Int32) n x1 x2), vi (1 : Int32), vi (atF (1 : Int32) (2 : Int32) n x2 x3), .unset, .unset, .unset, .unset, .unset, .unset, .unset] [(.int (1 : Int32)), (.int (1 : Int32))])
      refine .go (fun _ k => XS.iadd X28.here hx rfl (hb hby d13_34) rfl k) ?_
      show Fin _ _ _ _ _ _ _ _ T28 (mkF m 35 #[vr b1, vi n, vr b2, vi nb, vi (atF (0 : Int32) (1 : Int32) n x1 x2), vi (1 : Int32), vi (atF (1 : Int32) (2 : Int32) n x2 x3), .unset, .unset, .unset, .unset, .unset, .unset, .unset] [(.int ((1 : Int32) + (1 : Int32)))])
      rw [show ((1 : Int32) + (1 : Int32)) = (2 : Int32) from by decide]
      show Fin _ _ _ _ _ _ _ _ T28 (mkF m 35 #[vr b1, vi n, vr b2, vi nb, vi (atF (0 : Int32) (1 : Int32) n x1 x2), vi (1 : Int32), vi (atF (1 : Int32) (2 : Int32) n x2 x3), .unset, .unset, .unset, .unset, .unset, .unset, .unset] [(.int (2 : Int32))])
      refine .go (fun _ k => XS.istore X28.here hx rfl (hb hby d13_35) rfl (l' := #[vr b1, vi n, vr b2, vi nb, vi (atF (0 : Int32) (1 : Int32) n x1 x2), vi (1 : Int32), vi (atF (1 : Int32) (2 : Int32) n x2 x3), vi (2 : Int32), .unset, .unset, .unset, .unset, .unset, .unset]) rfl k) ?_
      refine .go (fun _ k => XS.aloadN X28.here hx rfl (hb hby d13_37) rfl rfl k) ?_
      refine .go (fun _ k => XS.iloadN X28.here hx rfl (hb hby d13_38) rfl k) ?_
      refine .go (fun _ k => XS.iload X28.here hx rfl (hb hby d13_39) rfl k) ?_
      obtain ⟨v29, T29, L29, X29, q29, st29⟩ := callSt X28 hx hZ hown (hw _ w_63) (hw _ w_64) (hw _ w_2) (hw _ w_65) (by decide) (W := 0) (rmAt2 l Z a0 hw n0 h0 O b1 k1 n x1 x2 x3 V1 hn) e28 (by decide) (by decide) (by decide) (by decide) (g := (mkF m 41 #[vr b1, vi n, vr b2, vi nb, vi (atF (0 : Int32) (1 : Int32) n x1 x2), vi (1 : Int32), vi (atF (1 : Int32) (2 : Int32) n x2 x3), vi (2 : Int32), .unset, .unset, .unset, .unset, .unset, .unset] [(.int (2 : Int32)), (.int n), (.ref b1)])) rfl (by rw [hml]; rfl) (argsL := [(.ref b1), (.int n), (.int (2 : Int32))]) (rest := []) (lenOf pd_oACIIcI rfl) rfl (wk rfl rfl) (hb hby d13_41)
      obtain ⟨rfl, e29, rfl⟩ := q29
      have N29 := Fr.app N28 (Fr.nil n0)
      refine Fin.go st29 ?_
      show Fin _ _ _ _ _ _ _ _ T29 (mkF m 44 #[vr b1, vi n, vr b2, vi nb, vi (atF (0 : Int32) (1 : Int32) n x1 x2), vi (1 : Int32), vi (atF (1 : Int32) (2 : Int32) n x2 x3), vi (2 : Int32), .unset, .unset, .unset, .unset, .unset, .unset] [(.int (atF (2 : Int32) (3 : Int32) n x3 x3))])
      refine .go (fun _ k => XS.istore X29.here hx rfl (hb hby d13_44) rfl (l' := #[vr b1, vi n, vr b2, vi nb, vi (atF (0 : Int32) (1 : Int32) n x1 x2), vi (1 : Int32), vi (atF (1 : Int32) (2 : Int32) n x2 x3), vi (2 : Int32), vi (atF (2 : Int32) (3 : Int32) n x3 x3), .unset, .unset, .unset, .unset, .unset]) rfl k) ?_
      show Fin _ _ _ _ _ _ _ _ T29 (mkF m 46 #[vr b1, vi n, vr b2, vi nb, vi (atF (0 : Int32) (1 : Int32) n x1 x2), vi (1 : Int32), vi (atF (1 : Int32) (2 : Int32) n x2 x3), vi (2 : Int32), vi (atF (2 : Int32) (3 : Int32) n x3 x3), .unset, .unset, .unset, .unset, .unset] [])
      exact tailB T29 X29 e29 (1 : Int32) (atF (1 : Int32) (2 : Int32) n x2 x3) (2 : Int32) (atF (2 : Int32) (3 : Int32) n x3 x3) (if_pos hA1) ((if_pos hA1).trans (if_pos hA2))
    · rw [show widF (2 : Int32) n x2 x3 = (2 : Int32) from if_neg hA2]
      show Fin _ _ _ _ _ _ _ _ T28 (mkF m 34 #[vr b1, vi n, vr b2, vi nb, vi (atF (0 : Int32) (1 : Int32) n x1 x2), vi (1 : Int32), vi (atF (1 : Int32) (2 : Int32) n x2 x3), .unset, .unset, .unset, .unset, .unset, .unset, .unset] [(.int (2 : Int32)), (.int (1 : Int32))])
      refine .go (fun _ k => XS.iadd X28.here hx rfl (hb hby d13_34) rfl k) ?_
      show Fin _ _ _ _ _ _ _ _ T28 (mkF m 35 #[vr b1, vi n, vr b2, vi nb, vi (atF (0 : Int32) (1 : Int32) n x1 x2), vi (1 : Int32), vi (atF (1 : Int32) (2 : Int32) n x2 x3), .unset, .unset, .unset, .unset, .unset, .unset, .unset] [(.int ((1 : Int32) + (2 : Int32)))])
      rw [show ((1 : Int32) + (2 : Int32)) = (3 : Int32) from by decide]
      show Fin _ _ _ _ _ _ _ _ T28 (mkF m 35 #[vr b1, vi n, vr b2, vi nb, vi (atF (0 : Int32) (1 : Int32) n x1 x2), vi (1 : Int32), vi (atF (1 : Int32) (2 : Int32) n x2 x3), .unset, .unset, .unset, .unset, .unset, .unset, .unset] [(.int (3 : Int32))])
      refine .go (fun _ k => XS.istore X28.here hx rfl (hb hby d13_35) rfl (l' := #[vr b1, vi n, vr b2, vi nb, vi (atF (0 : Int32) (1 : Int32) n x1 x2), vi (1 : Int32), vi (atF (1 : Int32) (2 : Int32) n x2 x3), vi (3 : Int32), .unset, .unset, .unset, .unset, .unset, .unset]) rfl k) ?_
      refine .go (fun _ k => XS.aloadN X28.here hx rfl (hb hby d13_37) rfl rfl k) ?_
      refine .go (fun _ k => XS.iloadN X28.here hx rfl (hb hby d13_38) rfl k) ?_
      refine .go (fun _ k => XS.iload X28.here hx rfl (hb hby d13_39) rfl k) ?_
      obtain ⟨v30, T30, L30, X30, q30, st30⟩ := callSt X28 hx hZ hown (hw _ w_63) (hw _ w_64) (hw _ w_2) (hw _ w_65) (by decide) (W := 0) (rmAt3 l Z a0 hw n0 h0 O b1 k1 n x1 x2 x3 V1 hn) e28 (by decide) (by decide) (by decide) (by decide) (g := (mkF m 41 #[vr b1, vi n, vr b2, vi nb, vi (atF (0 : Int32) (1 : Int32) n x1 x2), vi (1 : Int32), vi (atF (1 : Int32) (2 : Int32) n x2 x3), vi (3 : Int32), .unset, .unset, .unset, .unset, .unset, .unset] [(.int (3 : Int32)), (.int n), (.ref b1)])) rfl (by rw [hml]; rfl) (argsL := [(.ref b1), (.int n), (.int (3 : Int32))]) (rest := []) (lenOf pd_oACIIcI rfl) rfl (wk rfl rfl) (hb hby d13_41)
      obtain ⟨rfl, e30, rfl⟩ := q30
      have N30 := Fr.app N28 (Fr.nil n0)
      refine Fin.go st30 ?_
      show Fin _ _ _ _ _ _ _ _ T30 (mkF m 44 #[vr b1, vi n, vr b2, vi nb, vi (atF (0 : Int32) (1 : Int32) n x1 x2), vi (1 : Int32), vi (atF (1 : Int32) (2 : Int32) n x2 x3), vi (3 : Int32), .unset, .unset, .unset, .unset, .unset, .unset] [(.int (-1 : Int32))])
      refine .go (fun _ k => XS.istore X30.here hx rfl (hb hby d13_44) rfl (l' := #[vr b1, vi n, vr b2, vi nb, vi (atF (0 : Int32) (1 : Int32) n x1 x2), vi (1 : Int32), vi (atF (1 : Int32) (2 : Int32) n x2 x3), vi (3 : Int32), vi (-1 : Int32), .unset, .unset, .unset, .unset, .unset]) rfl k) ?_
      show Fin _ _ _ _ _ _ _ _ T30 (mkF m 46 #[vr b1, vi n, vr b2, vi nb, vi (atF (0 : Int32) (1 : Int32) n x1 x2), vi (1 : Int32), vi (atF (1 : Int32) (2 : Int32) n x2 x3), vi (3 : Int32), vi (-1 : Int32), .unset, .unset, .unset, .unset, .unset] [])
      exact tailB T30 X30 e30 (1 : Int32) (atF (1 : Int32) (2 : Int32) n x2 x3) (3 : Int32) (-1 : Int32) (if_pos hA1) ((if_pos hA1).trans (if_neg hA2))
  · rw [show widF (1 : Int32) n x1 x2 = (2 : Int32) from if_neg hA1]
    show Fin _ _ _ _ _ _ _ _ T26 (mkF m 14 #[vr b1, vi n, vr b2, vi nb, vi (atF (0 : Int32) (1 : Int32) n x1 x2), .unset, .unset, .unset, .unset, .unset, .unset, .unset, .unset, .unset] [(.int (2 : Int32))])
    refine .go (fun _ k => XS.istore X26.here hx rfl (hb hby d13_14) rfl (l' := #[vr b1, vi n, vr b2, vi nb, vi (atF (0 : Int32) (1 : Int32) n x1 x2), vi (2 : Int32), .unset, .unset, .unset, .unset, .unset, .unset, .unset, .unset]) rfl k) ?_
    refine .go (fun _ k => XS.aloadN X26.here hx rfl (hb hby d13_16) rfl rfl k) ?_
    refine .go (fun _ k => XS.iloadN X26.here hx rfl (hb hby d13_17) rfl k) ?_
    refine .go (fun _ k => XS.iload X26.here hx rfl (hb hby d13_18) rfl k) ?_
    obtain ⟨v31, T31, L31, X31, q31, st31⟩ := callSt X26 hx hZ hown (hw _ w_63) (hw _ w_64) (hw _ w_2) (hw _ w_65) (by decide) (W := 0) (rmAt2 l Z a0 hw n0 h0 O b1 k1 n x1 x2 x3 V1 hn) e26 (by decide) (by decide) (by decide) (by decide) (g := (mkF m 20 #[vr b1, vi n, vr b2, vi nb, vi (atF (0 : Int32) (1 : Int32) n x1 x2), vi (2 : Int32), .unset, .unset, .unset, .unset, .unset, .unset, .unset, .unset] [(.int (2 : Int32)), (.int n), (.ref b1)])) rfl (by rw [hml]; rfl) (argsL := [(.ref b1), (.int n), (.int (2 : Int32))]) (rest := []) (lenOf pd_oACIIcI rfl) rfl (wk rfl rfl) (hb hby d13_20)
    obtain ⟨rfl, e31, rfl⟩ := q31
    have N31 := Fr.app N26 (Fr.nil n0)
    refine Fin.go st31 ?_
    show Fin _ _ _ _ _ _ _ _ T31 (mkF m 23 #[vr b1, vi n, vr b2, vi nb, vi (atF (0 : Int32) (1 : Int32) n x1 x2), vi (2 : Int32), .unset, .unset, .unset, .unset, .unset, .unset, .unset, .unset] [(.int (atF (2 : Int32) (3 : Int32) n x3 x3))])
    refine .go (fun _ k => XS.istore X31.here hx rfl (hb hby d13_23) rfl (l' := #[vr b1, vi n, vr b2, vi nb, vi (atF (0 : Int32) (1 : Int32) n x1 x2), vi (2 : Int32), vi (atF (2 : Int32) (3 : Int32) n x3 x3), .unset, .unset, .unset, .unset, .unset, .unset, .unset]) rfl k) ?_
    refine .go (fun _ k => XS.iload X31.here hx rfl (hb hby d13_25) rfl k) ?_
    refine .go (fun _ k => XS.aloadN X31.here hx rfl (hb hby d13_27) rfl rfl k) ?_
    refine .go (fun _ k => XS.iloadN X31.here hx rfl (hb hby d13_28) rfl k) ?_
    refine .go (fun _ k => XS.iload X31.here hx rfl (hb hby d13_29) rfl k) ?_
    obtain ⟨v32, T32, L32, X32, q32, st32⟩ := callSt X31 hx hZ hown (hw _ w_73) (hw _ w_74) (hw _ w_2) (hw _ w_75) (by decide) (W := 1) (rmWi2 l Z a0 hw n0 h0 O b1 k1 n x1 x2 x3 V1 hn) e31 (by decide) (by decide) (by decide) (by decide) (g := (mkF m 31 #[vr b1, vi n, vr b2, vi nb, vi (atF (0 : Int32) (1 : Int32) n x1 x2), vi (2 : Int32), vi (atF (2 : Int32) (3 : Int32) n x3 x3), .unset, .unset, .unset, .unset, .unset, .unset, .unset] [(.int (2 : Int32)), (.int n), (.ref b1), (.int (2 : Int32))])) rfl (by rw [hml]; rfl) (argsL := [(.ref b1), (.int n), (.int (2 : Int32))]) (rest := [(.int (2 : Int32))]) (lenOf pd_oACIIcI rfl) rfl (wk rfl rfl) (hb hby d13_31)
    obtain ⟨rfl, e32, rfl⟩ := q32
    have N32 := Fr.app N31 (Fr.nil n0)
    refine Fin.go st32 ?_
    show Fin _ _ _ _ _ _ _ _ T32 (mkF m 34 #[vr b1, vi n, vr b2, vi nb, vi (atF (0 : Int32) (1 : Int32) n x1 x2), vi (2 : Int32), vi (atF (2 : Int32) (3 : Int32) n x3 x3), .unset, .unset, .unset, .unset, .unset, .unset, .unset] [(.int (1 : Int32)), (.int (2 : Int32))])
    refine .go (fun _ k => XS.iadd X32.here hx rfl (hb hby d13_34) rfl k) ?_
    show Fin _ _ _ _ _ _ _ _ T32 (mkF m 35 #[vr b1, vi n, vr b2, vi nb, vi (atF (0 : Int32) (1 : Int32) n x1 x2), vi (2 : Int32), vi (atF (2 : Int32) (3 : Int32) n x3 x3), .unset, .unset, .unset, .unset, .unset, .unset, .unset] [(.int ((2 : Int32) + (1 : Int32)))])
    rw [show ((2 : Int32) + (1 : Int32)) = (3 : Int32) from by decide]
    show Fin _ _ _ _ _ _ _ _ T32 (mkF m 35 #[vr b1, vi n, vr b2, vi nb, vi (atF (0 : Int32) (1 : Int32) n x1 x2), vi (2 : Int32), vi (atF (2 : Int32) (3 : Int32) n x3 x3), .unset, .unset, .unset, .unset, .unset, .unset, .unset] [(.int (3 : Int32))])
    refine .go (fun _ k => XS.istore X32.here hx rfl (hb hby d13_35) rfl (l' := #[vr b1, vi n, vr b2, vi nb, vi (atF (0 : Int32) (1 : Int32) n x1 x2), vi (2 : Int32), vi (atF (2 : Int32) (3 : Int32) n x3 x3), vi (3 : Int32), .unset, .unset, .unset, .unset, .unset, .unset]) rfl k) ?_
    refine .go (fun _ k => XS.aloadN X32.here hx rfl (hb hby d13_37) rfl rfl k) ?_
    refine .go (fun _ k => XS.iloadN X32.here hx rfl (hb hby d13_38) rfl k) ?_
    refine .go (fun _ k => XS.iload X32.here hx rfl (hb hby d13_39) rfl k) ?_
    obtain ⟨v33, T33, L33, X33, q33, st33⟩ := callSt X32 hx hZ hown (hw _ w_63) (hw _ w_64) (hw _ w_2) (hw _ w_65) (by decide) (W := 0) (rmAt3 l Z a0 hw n0 h0 O b1 k1 n x1 x2 x3 V1 hn) e32 (by decide) (by decide) (by decide) (by decide) (g := (mkF m 41 #[vr b1, vi n, vr b2, vi nb, vi (atF (0 : Int32) (1 : Int32) n x1 x2), vi (2 : Int32), vi (atF (2 : Int32) (3 : Int32) n x3 x3), vi (3 : Int32), .unset, .unset, .unset, .unset, .unset, .unset] [(.int (3 : Int32)), (.int n), (.ref b1)])) rfl (by rw [hml]; rfl) (argsL := [(.ref b1), (.int n), (.int (3 : Int32))]) (rest := []) (lenOf pd_oACIIcI rfl) rfl (wk rfl rfl) (hb hby d13_41)
    obtain ⟨rfl, e33, rfl⟩ := q33
    have N33 := Fr.app N32 (Fr.nil n0)
    refine Fin.go st33 ?_
    show Fin _ _ _ _ _ _ _ _ T33 (mkF m 44 #[vr b1, vi n, vr b2, vi nb, vi (atF (0 : Int32) (1 : Int32) n x1 x2), vi (2 : Int32), vi (atF (2 : Int32) (3 : Int32) n x3 x3), vi (3 : Int32), .unset, .unset, .unset, .unset, .unset, .unset] [(.int (-1 : Int32))])
    refine .go (fun _ k => XS.istore X33.here hx rfl (hb hby d13_44) rfl (l' := #[vr b1, vi n, vr b2, vi nb, vi (atF (0 : Int32) (1 : Int32) n x1 x2), vi (2 : Int32), vi (atF (2 : Int32) (3 : Int32) n x3 x3), vi (3 : Int32), vi (-1 : Int32), .unset, .unset, .unset, .unset, .unset]) rfl k) ?_
    show Fin _ _ _ _ _ _ _ _ T33 (mkF m 46 #[vr b1, vi n, vr b2, vi nb, vi (atF (0 : Int32) (1 : Int32) n x1 x2), vi (2 : Int32), vi (atF (2 : Int32) (3 : Int32) n x3 x3), vi (3 : Int32), vi (-1 : Int32), .unset, .unset, .unset, .unset, .unset] [])
    exact tailB T33 X33 e33 (2 : Int32) (atF (2 : Int32) (3 : Int32) n x3 x3) (3 : Int32) (-1 : Int32) (if_neg hA1) (if_neg hA1)
theorem rmS (l : Launch) (Z : State) (a0 : Array Value) (hw : HW a0 Z) (n0 : Nat) (h0 : Heap) (O : Old Z n0 h0) (n x1 x2 x3 : Int32) (hn : 0 ≤ n.toInt ∧ n.toInt ≤ 3) (hc1 : ChI x1) (hc2 : ChI x2) (hc3 : ChI x3) (cs : Int32) (S_cs : Sta Z Z.heap "java/lang/String" "COMPACT_STRINGS" "Z" (.int cs)) (hcs : ¬ cs = 0) (S_as : SAs Z) (S_hb : SHb Z) (S_lb : SLb Z) :
    ConHW l Z EL [] (⟨"com/example/muster/muster/campaign/TextOrderComparePinLaw", "str", "(CCCI)Ljava/lang/String;"⟩ : MethodName) method_4_code 4 (some (.object "java/lang/String")) ({ frames := 6, cells := 6, slots := 16, locals := 88 } : Room) #[(.int x1), (.int x2), (.int x3), (.int n)] h0 (fun v h L => ∃ s, v = some (.ref s) ∧ Fr n0 L ∧ Keep h0 h [] ∧ TS Z h s n x1 x2 x3 h.size) := by
  refine conOfH (plainFor_of_name pn_com_example_muster_muster_campaign_TextOrderComparePinLaw) ?_
  intro p e s m below mth cc s₁ X0 hx hby hml hown hnm hret hlk hZ e0 hS RR0
  have N0 := Fr.nil n0
  have hEL := elW hw
  have K0 := Keep.refl h0 ([] : List Addr)
  refine Fin.came (castTop (t := _) (by first | (simp [entryFrame, mkF, argsToLocals, Value.category]; done) | rfl) (Steps.refl _) : Steps p.tables e below (s₁.setTop (entryFrame m #[(.int x1), (.int x2), (.int x3), (.int n)] 4)) (s₁.setTop (mkF m 0 #[vi x1, vi x2, vi x3, vi n] []))) ?_
  refine .go (fun _ k => XS.iloadN X0.here hx rfl (hb hby d2_0) rfl k) ?_
  by_cases c1 : n = 0
  · refine .go (fun _ k => XS.ifNo X0.here hx rfl (hb hby d2_1) rfl (XT.i0_ne_f c1) k) ?_
    show Fin _ _ _ _ _ _ _ _ s₁ (mkF m 4 #[vi x1, vi x2, vi x3, vi n] [])
    subst c1
    show Fin _ _ _ _ _ _ _ _ s₁ (mkF m 4 #[vi x1, vi x2, vi x3, vi (0 : Int32)] [])
    obtain ⟨T11, h11, X11, e11, E11, A11, D11, U11, st11⟩ := newO X0 hx hZ hown (hw _ w_10) (hw _ w_11) (hw _ w_12) e0 (g := (mkF m 4 #[vi x1, vi x2, vi x3, vi (0 : Int32)] [])) rfl (hb hby d2_4) (by decide) (by decide)
    obtain ⟨a11, g11⟩ : ∃ z, z = h0.size := ⟨_, rfl⟩
    rw [← g11] at A11 D11 U11 st11
    refine Fin.go st11 ?_
    have O11 := O.ext E11
    have K11 := K0.ext E11
    have hk11 := Nat.le_trans (Nat.zero_le _) E11.1
    have RR11 := RR0.trans (CHr.ext E11 RR0.1)
    have n11 : n0 ≤ a11 := by have := O.2.1; have := O.1; omega
    have z11 : h0.size ≤ a11 := by have := K0.1; omega
    have sf11 := (Safe.new (Z := Z) (EL := EL) (vm := s.vm) (Nat.le_of_eq g11.symm)).ext E11 RR0.1
    have F11_coder : Fld Z h11 a11 "java/lang/String" "coder" "B" (.int (0 : Int32)) := D11 (Or.inr (hw _ w_36)) (ty := .byte) (by decide)
    have F11_value : Fld Z h11 a11 "java/lang/String" "value" "[B" .null := D11 (Or.inr (hw _ w_38)) (ty := (.array .byte)) (by decide)
    show Fin _ _ _ _ _ _ _ _ T11 (mkF m 7 #[vi x1, vi x2, vi x3, vi (0 : Int32)] [(.ref a11)])
    refine .go (fun _ k => XS.dup X11.here hx rfl (hb hby d2_7) rfl rfl k) ?_
    refine .go (fun _ k => XS.iconst X11.here hx rfl (hb hby d2_8) k) ?_
    obtain ⟨T12, h12, k12, X12, e12, E12, A12, st12⟩ := newP X11 hx hZ (aty := .char) (hw _ w_6) e11 (g := (mkF m 9 #[vi x1, vi x2, vi x3, vi (0 : Int32)] [(.int (0 : Int32)), (.ref a11), (.ref a11)])) rfl (hb hby d2_9) rfl (by decide : ¬ ((0 : Int32) < (0 : Int32))) (cap := 0) (by decide) (by decide) (by decide) (by decide)
    obtain ⟨a12, g12⟩ : ∃ z, z = h11.size := ⟨_, rfl⟩
    rw [← g12] at A12 st12
    refine Fin.go st12 ?_
    have O12 := O11.ext E12
    have K12 := K11.ext E12
    have hk12 := Nat.le_trans hk11 E12.1
    have RR12 := RR11.trans (CHr.ext E12 RR11.1)
    have n12 : n0 ≤ a12 := by have := O11.2.1; have := O11.1; omega
    have z12 : h0.size ≤ a12 := by have := K11.1; omega
    have V12 : Arv Z h12 a12 k12 .char (0 : Int32) [] (.int (0 : Int32)) := (Arv.new A12 (by decide))
    show Fin _ _ _ _ _ _ _ _ T12 (mkF m 11 #[vi x1, vi x2, vi x3, vi (0 : Int32)] [(.ref a12), (.ref a11), (.ref a11)])
    obtain ⟨v13, T13, L13, X13, hS13, hZ13, hown13, RC13, q13, st13⟩ := callCtH X12 hx hZ (y := (⟨"java/lang/String", "<init>", "([C)V"⟩ : MethodName)) rfl hown (hw _ w_13) (hw _ w_14) (hw _ w_12) (hw _ w_15) (by decide) (W := 1) (rmStr0 l Z a0 hw n0 h12 O12 a11 a12 k12 V12 (A11.ext E12) (F11_coder.ext E12) (F11_value.ext E12) n11) e12 hS hk12 hEL RR12.1 (by decide) (by decide) (by decide) (by decide) (g := (mkF m 11 #[vi x1, vi x2, vi x3, vi (0 : Int32)] [(.ref a12), (.ref a11), (.ref a11)])) rfl (by rw [hml]; rfl) (a := a11) (argsL := [(.ref a12)]) (rest := [(.ref a11)]) (lenOf pd_oACcV rfl) rfl (wk rfl rfl) (hb hby d2_11)
    obtain ⟨rfl, Nq13, Kq13, A13, C13, d13, kd13, F13, V13⟩ := q13
    have N13 := Fr.app N0 Nq13
    have O13 := O12.keep Kq13 (allS n11 all0)
    have K13 := K12.trans Kq13 (allS (Or.inr z11) all0)
    have RR13 := RR12.trans RC13
    refine Fin.go st13 ?_
    have V13_a12 := (V12.keep Kq13 (ninS (Ne.symm (Nat.ne_of_lt (Nat.lt_of_lt_of_eq A11.lt g12.symm))) nin0))
    show Fin _ _ _ _ _ _ _ _ T13 (mkF m 14 #[vi x1, vi x2, vi x3, vi (0 : Int32)] [(.ref a11)])
    exact Fin.leaveH X13 hS13 (Nat.le_refl T13.heap.size) hZ13 hEL (rfl : T13.heap = T13.heap) RR13 hlk (v := some (.ref a11)) (nvS hret) (by decide) (by decide) ⟨a11, rfl, N13, K13, Nat.le_refl _, A13.lt, A13, (0 : Int32), d13, kd13, (0 : Int32), [], V13.lt, C13, F13, V13, (Or.inl ⟨rfl, rfl, rfl, rfl⟩)⟩ (fun fs hr => retOut X13 hx hret rfl (Or.inr (Or.inr (Or.inr (Or.inr ⟨rfl, rfl, rfl⟩)))) (hb hby d2_14) hr)
  · refine .go (fun _ k => XS.ifYes X0.here hx rfl (pc0 := 1) (pc' := 15) rfl (hb hby d2_1) rfl (XT.i0_ne_t c1) (by decide) (by decide) k) ?_
    show Fin _ _ _ _ _ _ _ _ s₁ (mkF m 15 #[vi x1, vi x2, vi x3, vi n] [])
    refine .go (fun _ k => XS.iloadN X0.here hx rfl (hb hby d2_15) rfl k) ?_
    refine .go (fun _ k => XS.iconst X0.here hx rfl (hb hby d2_16) k) ?_
    by_cases c17 : n = (1 : Int32)
    · refine .go (fun _ k => XS.icmpNo X0.here hx rfl (hb hby d2_17) rfl (XT.ii_ne_f c17) k) ?_
      show Fin _ _ _ _ _ _ _ _ s₁ (mkF m 20 #[vi x1, vi x2, vi x3, vi n] [])
      subst c17
      show Fin _ _ _ _ _ _ _ _ s₁ (mkF m 20 #[vi x1, vi x2, vi x3, vi (1 : Int32)] [])
      obtain ⟨T14, h14, X14, e14, E14, A14, D14, U14, st14⟩ := newO X0 hx hZ hown (hw _ w_10) (hw _ w_11) (hw _ w_12) e0 (g := (mkF m 20 #[vi x1, vi x2, vi x3, vi (1 : Int32)] [])) rfl (hb hby d2_20) (by decide) (by decide)
      obtain ⟨a14, g14⟩ : ∃ z, z = h0.size := ⟨_, rfl⟩
      rw [← g14] at A14 D14 U14 st14
      refine Fin.go st14 ?_
      have O14 := O.ext E14
      have K14 := K0.ext E14
      have hk14 := Nat.le_trans (Nat.zero_le _) E14.1
      have RR14 := RR0.trans (CHr.ext E14 RR0.1)
      have n14 : n0 ≤ a14 := by have := O.2.1; have := O.1; omega
      have z14 : h0.size ≤ a14 := by have := K0.1; omega
      have sf14 := (Safe.new (Z := Z) (EL := EL) (vm := s.vm) (Nat.le_of_eq g14.symm)).ext E14 RR0.1
      have F14_coder : Fld Z h14 a14 "java/lang/String" "coder" "B" (.int (0 : Int32)) := D14 (Or.inr (hw _ w_36)) (ty := .byte) (by decide)
      have F14_value : Fld Z h14 a14 "java/lang/String" "value" "[B" .null := D14 (Or.inr (hw _ w_38)) (ty := (.array .byte)) (by decide)
      show Fin _ _ _ _ _ _ _ _ T14 (mkF m 23 #[vi x1, vi x2, vi x3, vi (1 : Int32)] [(.ref a14)])
      refine .go (fun _ k => XS.dup X14.here hx rfl (hb hby d2_23) rfl rfl k) ?_
      refine .go (fun _ k => XS.iconst X14.here hx rfl (hb hby d2_24) k) ?_
      obtain ⟨T15, h15, k15, X15, e15, E15, A15, st15⟩ := newP X14 hx hZ (aty := .char) (hw _ w_6) e14 (g := (mkF m 25 #[vi x1, vi x2, vi x3, vi (1 : Int32)] [(.int (1 : Int32)), (.ref a14), (.ref a14)])) rfl (hb hby d2_25) rfl (by decide : ¬ ((1 : Int32) < (0 : Int32))) (cap := 1) (by decide) (by decide) (by decide) (by decide)
      obtain ⟨a15, g15⟩ : ∃ z, z = h14.size := ⟨_, rfl⟩
      rw [← g15] at A15 st15
      refine Fin.go st15 ?_
      have O15 := O14.ext E15
      have K15 := K14.ext E15
      have hk15 := Nat.le_trans hk14 E15.1
      have RR15 := RR14.trans (CHr.ext E15 RR14.1)
      have n15 : n0 ≤ a15 := by have := O14.2.1; have := O14.1; omega
      have z15 : h0.size ≤ a15 := by have := K14.1; omega
      have V15 : Arv Z h15 a15 k15 .char (1 : Int32) [(.int (0 : Int32))] (.int (0 : Int32)) := (Arv.new A15 (by decide)).pad (pad_rep [] (.int (0 : Int32)) 1)
      show Fin _ _ _ _ _ _ _ _ T15 (mkF m 27 #[vi x1, vi x2, vi x3, vi (1 : Int32)] [(.ref a15), (.ref a14), (.ref a14)])
      refine .go (fun _ k => XS.dup X15.here hx rfl (hb hby d2_27) rfl rfl k) ?_
      refine .go (fun _ k => XS.iconst X15.here hx rfl (hb hby d2_28) k) ?_
      refine .go (fun _ k => XS.iloadN X15.here hx rfl (hb hby d2_29) rfl k) ?_
      obtain ⟨cz16, B16, q16, S16, M16, H16, G16⟩ := id V15
      obtain ⟨T16, h16, X16, e16, W16, st16⟩ := stC X15 hx hZ e15 B16 (j := (0 : Int32)) (inb_of S16 ⟨(by decide : ¬ ((0 : Int32) < (0 : Int32))), (by decide : (0 : Int32) < (1 : Int32))⟩) (g := (mkF m 30 #[vi x1, vi x2, vi x3, vi (1 : Int32)] [(.int x1), (.int (0 : Int32)), (.ref a15), (.ref a15), (.ref a14), (.ref a14)])) rfl rfl (hb hby d2_30)
      refine Fin.go st16 ?_
      have V16 : Arv Z h16 a15 k15 .char (1 : Int32) [(.int x1)] (.int (0 : Int32)) := (by have q : Arv Z h16 a15 k15 .char (1 : Int32) [(.int (nar .char x1))] (.int (0 : Int32)) := (Arv.set B16 q16 S16 M16 H16 G16 (fits_nar_char _) W16 0 rfl (Nat.le_of_ble_eq_true rfl)); rwa [narC _ hc1] at q)
      have N16 := Fr.snoc X16 N0 n15
      have O16 := O15.wr W16 n15
      have K16 := K15.wr W16 (Or.inr z15)
      have hk16 := Nat.le_trans hk15 (Keep.of_wr W16).1
      have RR16 := RR15.trans (CHr.wr W16 (Safe.arv hZ.alike V15 (by decide)) RR15.1)
      have sf16_a14 := (Safe.wr W16 (Safe.arv hZ.alike V15 (by decide)) RR15.1 (sf14.ext E15 RR14.1))
      have F16_a14_coder := ((F14_coder.ext E15).other W16 (Or.inl (Nat.ne_of_lt (Nat.lt_of_lt_of_eq A14.lt g15.symm))))
      have F16_a14_value := ((F14_value.ext E15).other W16 (Or.inl (Nat.ne_of_lt (Nat.lt_of_lt_of_eq A14.lt g15.symm))))
      show Fin _ _ _ _ _ _ _ _ T16 (mkF m 31 #[vi x1, vi x2, vi x3, vi (1 : Int32)] [(.ref a15), (.ref a14), (.ref a14)])
      rcases lu1 x1 with hp1 | hU
      · obtain ⟨v17, T17, L17, X17, q17, st17⟩ := callCt X16 hx hZ (y := (⟨"java/lang/String", "<init>", "([C)V"⟩ : MethodName)) rfl hown (hw _ w_13) (hw _ w_14) (hw _ w_12) (hw _ w_15) (by decide) (W := 1) (rmStr1 l Z a0 hw n0 h16 O16 a14 a15 k15 x1 cs S_cs hcs V16 ((A14.ext E15).wr W16) F16_a14_coder F16_a14_value hp1 n14 (Ne.symm (Nat.ne_of_lt (Nat.lt_of_lt_of_eq A14.lt g15.symm)))) e16 (by decide) (by decide) (by decide) (by decide) (g := (mkF m 31 #[vi x1, vi x2, vi x3, vi (1 : Int32)] [(.ref a15), (.ref a14), (.ref a14)])) rfl (by rw [hml]; rfl) (a := a14) (argsL := [(.ref a15)]) (rest := [(.ref a14)]) (lenOf pd_oACcV rfl) rfl (wk rfl rfl) (hb hby d2_31)
        obtain ⟨rfl, Nq17, Kq17, A17, C17, d17, kd17, F17, V17, zd17⟩ := q17
        have N17 := Fr.app N16 Nq17
        have O17 := O16.keep Kq17 (allS n14 all0)
        have K17 := K16.trans Kq17 (allS (Or.inr z14) all0)
        have RR17 := RR16.trans (CHr.keep Kq17 (sfS sf16_a14 sf0) RR16.1)
        have hk17 := Nat.le_trans hk16 Kq17.1
        refine Fin.go st17 ?_
        have V17_a15 := (V16.keep Kq17 (ninS (Ne.symm (Nat.ne_of_lt (Nat.lt_of_lt_of_eq A14.lt g15.symm))) nin0))
        show Fin _ _ _ _ _ _ _ _ T17 (mkF m 34 #[vi x1, vi x2, vi x3, vi (1 : Int32)] [(.ref a14)])
        exact Fin.leaveH X17 hS hk17 hZ hEL (rfl : T17.heap = T17.heap) RR17 hlk (v := some (.ref a14)) (nvS hret) (by decide) (by decide) ⟨a14, rfl, N17, K17, Nat.le_refl _, A17.lt, A17, (0 : Int32), d17, kd17, (1 : Int32), [.int ((Int32.toInt8 x1).toInt32)], V17.lt, C17, F17, V17, (Or.inr (Or.inl ⟨rfl, rfl, rfl, rfl, hp1⟩))⟩ (fun fs hr => retOut X17 hx hret rfl (Or.inr (Or.inr (Or.inr (Or.inr ⟨rfl, rfl, rfl⟩)))) (hb hby d2_34) hr)
      · obtain ⟨v18, T18, L18, X18, q18, st18⟩ := callCt X16 hx hZ (y := (⟨"java/lang/String", "<init>", "([C)V"⟩ : MethodName)) rfl hown (hw _ w_13) (hw _ w_14) (hw _ w_12) (hw _ w_15) (by decide) (W := 1) (rmU1 l Z a0 hw n0 h16 O16 a14 a15 k15 x1 cs S_cs hcs V16 ((A14.ext E15).wr W16) F16_a14_coder F16_a14_value hc1 hU S_as S_hb S_lb n14 (Ne.symm (Nat.ne_of_lt (Nat.lt_of_lt_of_eq A14.lt g15.symm)))) e16 (by decide) (by decide) (by decide) (by decide) (g := (mkF m 31 #[vi x1, vi x2, vi x3, vi (1 : Int32)] [(.ref a15), (.ref a14), (.ref a14)])) rfl (by rw [hml]; rfl) (a := a14) (argsL := [(.ref a15)]) (rest := [(.ref a14)]) (lenOf pd_oACcV rfl) rfl (wk rfl rfl) (hb hby d2_31)
        obtain ⟨rfl, Nq18, Kq18, A18, C18, d18, kd18, F18, V18, zd18⟩ := q18
        have N18 := Fr.app N16 Nq18
        have O18 := O16.keep Kq18 (allS n14 all0)
        have K18 := K16.trans Kq18 (allS (Or.inr z14) all0)
        have RR18 := RR16.trans (CHr.keep Kq18 (sfS sf16_a14 sf0) RR16.1)
        have hk18 := Nat.le_trans hk16 Kq18.1
        refine Fin.go st18 ?_
        have V18_a15 := (V16.keep Kq18 (ninS (Ne.symm (Nat.ne_of_lt (Nat.lt_of_lt_of_eq A14.lt g15.symm))) nin0))
        show Fin _ _ _ _ _ _ _ _ T18 (mkF m 34 #[vi x1, vi x2, vi x3, vi (1 : Int32)] [(.ref a14)])
        exact Fin.leaveH X18 hS hk18 hZ hEL (rfl : T18.heap = T18.heap) RR18 hlk (v := some (.ref a14)) (nvS hret) (by decide) (by decide) ⟨a14, rfl, N18, K18, Nat.le_refl _, A18.lt, A18, (1 : Int32), d18, kd18, (2 : Int32), [.int (lo8 x1), .int (hi8 x1)], V18.lt, C18, F18, V18, (Or.inr (Or.inr (Or.inr (Or.inr (Or.inl ⟨rfl, rfl, rfl, rfl⟩)))))⟩ (fun fs hr => retOut X18 hx hret rfl (Or.inr (Or.inr (Or.inr (Or.inr ⟨rfl, rfl, rfl⟩)))) (hb hby d2_34) hr)
    · refine .go (fun _ k => XS.icmpYes X0.here hx rfl (pc0 := 17) (pc' := 35) rfl (hb hby d2_17) rfl (XT.ii_ne_t c17) (by decide) (by decide) k) ?_
      show Fin _ _ _ _ _ _ _ _ s₁ (mkF m 35 #[vi x1, vi x2, vi x3, vi n] [])
      refine .go (fun _ k => XS.iloadN X0.here hx rfl (hb hby d2_35) rfl k) ?_
      refine .go (fun _ k => XS.iconst X0.here hx rfl (hb hby d2_36) k) ?_
      by_cases c37 : n = (2 : Int32)
      · refine .go (fun _ k => XS.icmpNo X0.here hx rfl (hb hby d2_37) rfl (XT.ii_ne_f c37) k) ?_
        show Fin _ _ _ _ _ _ _ _ s₁ (mkF m 40 #[vi x1, vi x2, vi x3, vi n] [])
        subst c37
        show Fin _ _ _ _ _ _ _ _ s₁ (mkF m 40 #[vi x1, vi x2, vi x3, vi (2 : Int32)] [])
        obtain ⟨T19, h19, X19, e19, E19, A19, D19, U19, st19⟩ := newO X0 hx hZ hown (hw _ w_10) (hw _ w_11) (hw _ w_12) e0 (g := (mkF m 40 #[vi x1, vi x2, vi x3, vi (2 : Int32)] [])) rfl (hb hby d2_40) (by decide) (by decide)
        obtain ⟨a19, g19⟩ : ∃ z, z = h0.size := ⟨_, rfl⟩
        rw [← g19] at A19 D19 U19 st19
        refine Fin.go st19 ?_
        have O19 := O.ext E19
        have K19 := K0.ext E19
        have hk19 := Nat.le_trans (Nat.zero_le _) E19.1
        have RR19 := RR0.trans (CHr.ext E19 RR0.1)
        have n19 : n0 ≤ a19 := by have := O.2.1; have := O.1; omega
        have z19 : h0.size ≤ a19 := by have := K0.1; omega
        have sf19 := (Safe.new (Z := Z) (EL := EL) (vm := s.vm) (Nat.le_of_eq g19.symm)).ext E19 RR0.1
        have F19_coder : Fld Z h19 a19 "java/lang/String" "coder" "B" (.int (0 : Int32)) := D19 (Or.inr (hw _ w_36)) (ty := .byte) (by decide)
        have F19_value : Fld Z h19 a19 "java/lang/String" "value" "[B" .null := D19 (Or.inr (hw _ w_38)) (ty := (.array .byte)) (by decide)
        show Fin _ _ _ _ _ _ _ _ T19 (mkF m 43 #[vi x1, vi x2, vi x3, vi (2 : Int32)] [(.ref a19)])
        refine .go (fun _ k => XS.dup X19.here hx rfl (hb hby d2_43) rfl rfl k) ?_
        refine .go (fun _ k => XS.iconst X19.here hx rfl (hb hby d2_44) k) ?_
        obtain ⟨T20, h20, k20, X20, e20, E20, A20, st20⟩ := newP X19 hx hZ (aty := .char) (hw _ w_6) e19 (g := (mkF m 45 #[vi x1, vi x2, vi x3, vi (2 : Int32)] [(.int (2 : Int32)), (.ref a19), (.ref a19)])) rfl (hb hby d2_45) rfl (by decide : ¬ ((2 : Int32) < (0 : Int32))) (cap := 2) (by decide) (by decide) (by decide) (by decide)
        obtain ⟨a20, g20⟩ : ∃ z, z = h19.size := ⟨_, rfl⟩
        rw [← g20] at A20 st20
        refine Fin.go st20 ?_
        have O20 := O19.ext E20
        have K20 := K19.ext E20
        have hk20 := Nat.le_trans hk19 E20.1
        have RR20 := RR19.trans (CHr.ext E20 RR19.1)
        have n20 : n0 ≤ a20 := by have := O19.2.1; have := O19.1; omega
        have z20 : h0.size ≤ a20 := by have := K19.1; omega
        have V20 : Arv Z h20 a20 k20 .char (2 : Int32) [(.int (0 : Int32)), (.int (0 : Int32))] (.int (0 : Int32)) := (Arv.new A20 (by decide)).pad (pad_rep [] (.int (0 : Int32)) 2)
        show Fin _ _ _ _ _ _ _ _ T20 (mkF m 47 #[vi x1, vi x2, vi x3, vi (2 : Int32)] [(.ref a20), (.ref a19), (.ref a19)])
        refine .go (fun _ k => XS.dup X20.here hx rfl (hb hby d2_47) rfl rfl k) ?_
        refine .go (fun _ k => XS.iconst X20.here hx rfl (hb hby d2_48) k) ?_
        refine .go (fun _ k => XS.iloadN X20.here hx rfl (hb hby d2_49) rfl k) ?_
        obtain ⟨cz21, B21, q21, S21, M21, H21, G21⟩ := id V20
        obtain ⟨T21, h21, X21, e21, W21, st21⟩ := stC X20 hx hZ e20 B21 (j := (0 : Int32)) (inb_of S21 ⟨(by decide : ¬ ((0 : Int32) < (0 : Int32))), (by decide : (0 : Int32) < (2 : Int32))⟩) (g := (mkF m 50 #[vi x1, vi x2, vi x3, vi (2 : Int32)] [(.int x1), (.int (0 : Int32)), (.ref a20), (.ref a20), (.ref a19), (.ref a19)])) rfl rfl (hb hby d2_50)
        refine Fin.go st21 ?_
        have V21 : Arv Z h21 a20 k20 .char (2 : Int32) [(.int x1), (.int (0 : Int32))] (.int (0 : Int32)) := (by have q : Arv Z h21 a20 k20 .char (2 : Int32) [(.int (nar .char x1)), (.int (0 : Int32))] (.int (0 : Int32)) := (Arv.set B21 q21 S21 M21 H21 G21 (fits_nar_char _) W21 0 rfl (Nat.le_of_ble_eq_true rfl)); rwa [narC _ hc1] at q)
        have N21 := Fr.snoc X21 N0 n20
        have O21 := O20.wr W21 n20
        have K21 := K20.wr W21 (Or.inr z20)
        have hk21 := Nat.le_trans hk20 (Keep.of_wr W21).1
        have RR21 := RR20.trans (CHr.wr W21 (Safe.arv hZ.alike V20 (by decide)) RR20.1)
        have sf21_a19 := (Safe.wr W21 (Safe.arv hZ.alike V20 (by decide)) RR20.1 (sf19.ext E20 RR19.1))
        have F21_a19_coder := ((F19_coder.ext E20).other W21 (Or.inl (Nat.ne_of_lt (Nat.lt_of_lt_of_eq A19.lt g20.symm))))
        have F21_a19_value := ((F19_value.ext E20).other W21 (Or.inl (Nat.ne_of_lt (Nat.lt_of_lt_of_eq A19.lt g20.symm))))
        show Fin _ _ _ _ _ _ _ _ T21 (mkF m 51 #[vi x1, vi x2, vi x3, vi (2 : Int32)] [(.ref a20), (.ref a19), (.ref a19)])
        refine .go (fun _ k => XS.dup X21.here hx rfl (hb hby d2_51) rfl rfl k) ?_
        refine .go (fun _ k => XS.iconst X21.here hx rfl (hb hby d2_52) k) ?_
        refine .go (fun _ k => XS.iloadN X21.here hx rfl (hb hby d2_53) rfl k) ?_
        obtain ⟨cz22, B22, q22, S22, M22, H22, G22⟩ := id V21
        obtain ⟨T22, h22, X22, e22, W22, st22⟩ := stC X21 hx hZ e21 B22 (j := (1 : Int32)) (inb_of S22 ⟨(by decide : ¬ ((1 : Int32) < (0 : Int32))), (by decide : (1 : Int32) < (2 : Int32))⟩) (g := (mkF m 54 #[vi x1, vi x2, vi x3, vi (2 : Int32)] [(.int x2), (.int (1 : Int32)), (.ref a20), (.ref a20), (.ref a19), (.ref a19)])) rfl rfl (hb hby d2_54)
        refine Fin.go st22 ?_
        have V22 : Arv Z h22 a20 k20 .char (2 : Int32) [(.int x1), (.int x2)] (.int (0 : Int32)) := (by have q : Arv Z h22 a20 k20 .char (2 : Int32) [(.int x1), (.int (nar .char x2))] (.int (0 : Int32)) := (Arv.set B22 q22 S22 M22 H22 G22 (fits_nar_char _) W22 1 rfl (Nat.le_of_ble_eq_true rfl)); rwa [narC _ hc2] at q)
        have N22 := Fr.snoc X22 N21 n20
        have O22 := O21.wr W22 n20
        have K22 := K21.wr W22 (Or.inr z20)
        have hk22 := Nat.le_trans hk21 (Keep.of_wr W22).1
        have RR22 := RR21.trans (CHr.wr W22 (Safe.arv hZ.alike V21 (by decide)) RR21.1)
        have sf22_a19 := (Safe.wr W22 (Safe.arv hZ.alike V21 (by decide)) RR21.1 sf21_a19)
        have F22_a19_coder := (F21_a19_coder.other W22 (Or.inl (Nat.ne_of_lt (Nat.lt_of_lt_of_eq A19.lt g20.symm))))
        have F22_a19_value := (F21_a19_value.other W22 (Or.inl (Nat.ne_of_lt (Nat.lt_of_lt_of_eq A19.lt g20.symm))))
        show Fin _ _ _ _ _ _ _ _ T22 (mkF m 55 #[vi x1, vi x2, vi x3, vi (2 : Int32)] [(.ref a20), (.ref a19), (.ref a19)])
        rcases lu2 x1 x2 with ⟨hp1, hp2⟩ | hU
        · obtain ⟨v23, T23, L23, X23, q23, st23⟩ := callCt X22 hx hZ (y := (⟨"java/lang/String", "<init>", "([C)V"⟩ : MethodName)) rfl hown (hw _ w_13) (hw _ w_14) (hw _ w_12) (hw _ w_15) (by decide) (W := 1) (rmStr2 l Z a0 hw n0 h22 O22 a19 a20 k20 x1 x2 cs S_cs hcs V22 (((A19.ext E20).wr W21).wr W22) F22_a19_coder F22_a19_value hp1 hp2 n19 (Ne.symm (Nat.ne_of_lt (Nat.lt_of_lt_of_eq A19.lt g20.symm)))) e22 (by decide) (by decide) (by decide) (by decide) (g := (mkF m 55 #[vi x1, vi x2, vi x3, vi (2 : Int32)] [(.ref a20), (.ref a19), (.ref a19)])) rfl (by rw [hml]; rfl) (a := a19) (argsL := [(.ref a20)]) (rest := [(.ref a19)]) (lenOf pd_oACcV rfl) rfl (wk rfl rfl) (hb hby d2_55)
          obtain ⟨rfl, Nq23, Kq23, A23, C23, d23, kd23, F23, V23, zd23⟩ := q23
          have N23 := Fr.app N22 Nq23
          have O23 := O22.keep Kq23 (allS n19 all0)
          have K23 := K22.trans Kq23 (allS (Or.inr z19) all0)
          have RR23 := RR22.trans (CHr.keep Kq23 (sfS sf22_a19 sf0) RR22.1)
          have hk23 := Nat.le_trans hk22 Kq23.1
          refine Fin.go st23 ?_
          have V23_a20 := (V22.keep Kq23 (ninS (Ne.symm (Nat.ne_of_lt (Nat.lt_of_lt_of_eq A19.lt g20.symm))) nin0))
          show Fin _ _ _ _ _ _ _ _ T23 (mkF m 58 #[vi x1, vi x2, vi x3, vi (2 : Int32)] [(.ref a19)])
          exact Fin.leaveH X23 hS hk23 hZ hEL (rfl : T23.heap = T23.heap) RR23 hlk (v := some (.ref a19)) (nvS hret) (by decide) (by decide) ⟨a19, rfl, N23, K23, Nat.le_refl _, A23.lt, A23, (0 : Int32), d23, kd23, (2 : Int32), [.int ((Int32.toInt8 x1).toInt32), .int ((Int32.toInt8 x2).toInt32)], V23.lt, C23, F23, V23, (Or.inr (Or.inr (Or.inl ⟨rfl, rfl, rfl, rfl, hp1, hp2⟩)))⟩ (fun fs hr => retOut X23 hx hret rfl (Or.inr (Or.inr (Or.inr (Or.inr ⟨rfl, rfl, rfl⟩)))) (hb hby d2_58) hr)
        · obtain ⟨v24, T24, L24, X24, q24, st24⟩ := callCt X22 hx hZ (y := (⟨"java/lang/String", "<init>", "([C)V"⟩ : MethodName)) rfl hown (hw _ w_13) (hw _ w_14) (hw _ w_12) (hw _ w_15) (by decide) (W := 1) (rmU2 l Z a0 hw n0 h22 O22 a19 a20 k20 x1 x2 cs S_cs hcs V22 (((A19.ext E20).wr W21).wr W22) F22_a19_coder F22_a19_value hc1 hc2 hU S_as S_hb S_lb n19 (Ne.symm (Nat.ne_of_lt (Nat.lt_of_lt_of_eq A19.lt g20.symm)))) e22 (by decide) (by decide) (by decide) (by decide) (g := (mkF m 55 #[vi x1, vi x2, vi x3, vi (2 : Int32)] [(.ref a20), (.ref a19), (.ref a19)])) rfl (by rw [hml]; rfl) (a := a19) (argsL := [(.ref a20)]) (rest := [(.ref a19)]) (lenOf pd_oACcV rfl) rfl (wk rfl rfl) (hb hby d2_55)
          obtain ⟨rfl, Nq24, Kq24, A24, C24, d24, kd24, F24, V24, zd24⟩ := q24
          have N24 := Fr.app N22 Nq24
          have O24 := O22.keep Kq24 (allS n19 all0)
          have K24 := K22.trans Kq24 (allS (Or.inr z19) all0)
          have RR24 := RR22.trans (CHr.keep Kq24 (sfS sf22_a19 sf0) RR22.1)
          have hk24 := Nat.le_trans hk22 Kq24.1
          refine Fin.go st24 ?_
          have V24_a20 := (V22.keep Kq24 (ninS (Ne.symm (Nat.ne_of_lt (Nat.lt_of_lt_of_eq A19.lt g20.symm))) nin0))
          show Fin _ _ _ _ _ _ _ _ T24 (mkF m 58 #[vi x1, vi x2, vi x3, vi (2 : Int32)] [(.ref a19)])
          exact Fin.leaveH X24 hS hk24 hZ hEL (rfl : T24.heap = T24.heap) RR24 hlk (v := some (.ref a19)) (nvS hret) (by decide) (by decide) ⟨a19, rfl, N24, K24, Nat.le_refl _, A24.lt, A24, (1 : Int32), d24, kd24, (4 : Int32), [.int (lo8 x1), .int (hi8 x1), .int (lo8 x2), .int (hi8 x2)], V24.lt, C24, F24, V24, (Or.inr (Or.inr (Or.inr (Or.inr (Or.inr (Or.inl ⟨rfl, rfl, rfl, rfl⟩))))))⟩ (fun fs hr => retOut X24 hx hret rfl (Or.inr (Or.inr (Or.inr (Or.inr ⟨rfl, rfl, rfl⟩)))) (hb hby d2_58) hr)
      · refine .go (fun _ k => XS.icmpYes X0.here hx rfl (pc0 := 37) (pc' := 59) rfl (hb hby d2_37) rfl (XT.ii_ne_t c37) (by decide) (by decide) k) ?_
        show Fin _ _ _ _ _ _ _ _ s₁ (mkF m 59 #[vi x1, vi x2, vi x3, vi n] [])
        obtain rfl := is3 hn c1 c17 c37
        show Fin _ _ _ _ _ _ _ _ s₁ (mkF m 59 #[vi x1, vi x2, vi x3, vi (3 : Int32)] [])
        obtain ⟨T25, h25, X25, e25, E25, A25, D25, U25, st25⟩ := newO X0 hx hZ hown (hw _ w_10) (hw _ w_11) (hw _ w_12) e0 (g := (mkF m 59 #[vi x1, vi x2, vi x3, vi (3 : Int32)] [])) rfl (hb hby d2_59) (by decide) (by decide)
        obtain ⟨a25, g25⟩ : ∃ z, z = h0.size := ⟨_, rfl⟩
        rw [← g25] at A25 D25 U25 st25
        refine Fin.go st25 ?_
        have O25 := O.ext E25
        have K25 := K0.ext E25
        have hk25 := Nat.le_trans (Nat.zero_le _) E25.1
        have RR25 := RR0.trans (CHr.ext E25 RR0.1)
        have n25 : n0 ≤ a25 := by have := O.2.1; have := O.1; omega
        have z25 : h0.size ≤ a25 := by have := K0.1; omega
        have sf25 := (Safe.new (Z := Z) (EL := EL) (vm := s.vm) (Nat.le_of_eq g25.symm)).ext E25 RR0.1
        have F25_coder : Fld Z h25 a25 "java/lang/String" "coder" "B" (.int (0 : Int32)) := D25 (Or.inr (hw _ w_36)) (ty := .byte) (by decide)
        have F25_value : Fld Z h25 a25 "java/lang/String" "value" "[B" .null := D25 (Or.inr (hw _ w_38)) (ty := (.array .byte)) (by decide)
        show Fin _ _ _ _ _ _ _ _ T25 (mkF m 62 #[vi x1, vi x2, vi x3, vi (3 : Int32)] [(.ref a25)])
        refine .go (fun _ k => XS.dup X25.here hx rfl (hb hby d2_62) rfl rfl k) ?_
        refine .go (fun _ k => XS.iconst X25.here hx rfl (hb hby d2_63) k) ?_
        obtain ⟨T26, h26, k26, X26, e26, E26, A26, st26⟩ := newP X25 hx hZ (aty := .char) (hw _ w_6) e25 (g := (mkF m 64 #[vi x1, vi x2, vi x3, vi (3 : Int32)] [(.int (3 : Int32)), (.ref a25), (.ref a25)])) rfl (hb hby d2_64) rfl (by decide : ¬ ((3 : Int32) < (0 : Int32))) (cap := 3) (by decide) (by decide) (by decide) (by decide)
        obtain ⟨a26, g26⟩ : ∃ z, z = h25.size := ⟨_, rfl⟩
        rw [← g26] at A26 st26
        refine Fin.go st26 ?_
        have O26 := O25.ext E26
        have K26 := K25.ext E26
        have hk26 := Nat.le_trans hk25 E26.1
        have RR26 := RR25.trans (CHr.ext E26 RR25.1)
        have n26 : n0 ≤ a26 := by have := O25.2.1; have := O25.1; omega
        have z26 : h0.size ≤ a26 := by have := K25.1; omega
        have V26 : Arv Z h26 a26 k26 .char (3 : Int32) [(.int (0 : Int32)), (.int (0 : Int32)), (.int (0 : Int32))] (.int (0 : Int32)) := (Arv.new A26 (by decide)).pad (pad_rep [] (.int (0 : Int32)) 3)
        show Fin _ _ _ _ _ _ _ _ T26 (mkF m 66 #[vi x1, vi x2, vi x3, vi (3 : Int32)] [(.ref a26), (.ref a25), (.ref a25)])
        refine .go (fun _ k => XS.dup X26.here hx rfl (hb hby d2_66) rfl rfl k) ?_
        refine .go (fun _ k => XS.iconst X26.here hx rfl (hb hby d2_67) k) ?_
        refine .go (fun _ k => XS.iloadN X26.here hx rfl (hb hby d2_68) rfl k) ?_
        obtain ⟨cz27, B27, q27, S27, M27, H27, G27⟩ := id V26
        obtain ⟨T27, h27, X27, e27, W27, st27⟩ := stC X26 hx hZ e26 B27 (j := (0 : Int32)) (inb_of S27 ⟨(by decide : ¬ ((0 : Int32) < (0 : Int32))), (by decide : (0 : Int32) < (3 : Int32))⟩) (g := (mkF m 69 #[vi x1, vi x2, vi x3, vi (3 : Int32)] [(.int x1), (.int (0 : Int32)), (.ref a26), (.ref a26), (.ref a25), (.ref a25)])) rfl rfl (hb hby d2_69)
        refine Fin.go st27 ?_
        have V27 : Arv Z h27 a26 k26 .char (3 : Int32) [(.int x1), (.int (0 : Int32)), (.int (0 : Int32))] (.int (0 : Int32)) := (by have q : Arv Z h27 a26 k26 .char (3 : Int32) [(.int (nar .char x1)), (.int (0 : Int32)), (.int (0 : Int32))] (.int (0 : Int32)) := (Arv.set B27 q27 S27 M27 H27 G27 (fits_nar_char _) W27 0 rfl (Nat.le_of_ble_eq_true rfl)); rwa [narC _ hc1] at q)
        have N27 := Fr.snoc X27 N0 n26
        have O27 := O26.wr W27 n26
        have K27 := K26.wr W27 (Or.inr z26)
        have hk27 := Nat.le_trans hk26 (Keep.of_wr W27).1
        have RR27 := RR26.trans (CHr.wr W27 (Safe.arv hZ.alike V26 (by decide)) RR26.1)
        have sf27_a25 := (Safe.wr W27 (Safe.arv hZ.alike V26 (by decide)) RR26.1 (sf25.ext E26 RR25.1))
        have F27_a25_coder := ((F25_coder.ext E26).other W27 (Or.inl (Nat.ne_of_lt (Nat.lt_of_lt_of_eq A25.lt g26.symm))))
        have F27_a25_value := ((F25_value.ext E26).other W27 (Or.inl (Nat.ne_of_lt (Nat.lt_of_lt_of_eq A25.lt g26.symm))))
        show Fin _ _ _ _ _ _ _ _ T27 (mkF m 70 #[vi x1, vi x2, vi x3, vi (3 : Int32)] [(.ref a26), (.ref a25), (.ref a25)])
        refine .go (fun _ k => XS.dup X27.here hx rfl (hb hby d2_70) rfl rfl k) ?_
        refine .go (fun _ k => XS.iconst X27.here hx rfl (hb hby d2_71) k) ?_
        refine .go (fun _ k => XS.iloadN X27.here hx rfl (hb hby d2_72) rfl k) ?_
        obtain ⟨cz28, B28, q28, S28, M28, H28, G28⟩ := id V27
        obtain ⟨T28, h28, X28, e28, W28, st28⟩ := stC X27 hx hZ e27 B28 (j := (1 : Int32)) (inb_of S28 ⟨(by decide : ¬ ((1 : Int32) < (0 : Int32))), (by decide : (1 : Int32) < (3 : Int32))⟩) (g := (mkF m 73 #[vi x1, vi x2, vi x3, vi (3 : Int32)] [(.int x2), (.int (1 : Int32)), (.ref a26), (.ref a26), (.ref a25), (.ref a25)])) rfl rfl (hb hby d2_73)
        refine Fin.go st28 ?_
        have V28 : Arv Z h28 a26 k26 .char (3 : Int32) [(.int x1), (.int x2), (.int (0 : Int32))] (.int (0 : Int32)) := (by have q : Arv Z h28 a26 k26 .char (3 : Int32) [(.int x1), (.int (nar .char x2)), (.int (0 : Int32))] (.int (0 : Int32)) := (Arv.set B28 q28 S28 M28 H28 G28 (fits_nar_char _) W28 1 rfl (Nat.le_of_ble_eq_true rfl)); rwa [narC _ hc2] at q)
        have N28 := Fr.snoc X28 N27 n26
        have O28 := O27.wr W28 n26
        have K28 := K27.wr W28 (Or.inr z26)
        have hk28 := Nat.le_trans hk27 (Keep.of_wr W28).1
        have RR28 := RR27.trans (CHr.wr W28 (Safe.arv hZ.alike V27 (by decide)) RR27.1)
        have sf28_a25 := (Safe.wr W28 (Safe.arv hZ.alike V27 (by decide)) RR27.1 sf27_a25)
        have F28_a25_coder := (F27_a25_coder.other W28 (Or.inl (Nat.ne_of_lt (Nat.lt_of_lt_of_eq A25.lt g26.symm))))
        have F28_a25_value := (F27_a25_value.other W28 (Or.inl (Nat.ne_of_lt (Nat.lt_of_lt_of_eq A25.lt g26.symm))))
        show Fin _ _ _ _ _ _ _ _ T28 (mkF m 74 #[vi x1, vi x2, vi x3, vi (3 : Int32)] [(.ref a26), (.ref a25), (.ref a25)])
        refine .go (fun _ k => XS.dup X28.here hx rfl (hb hby d2_74) rfl rfl k) ?_
        refine .go (fun _ k => XS.iconst X28.here hx rfl (hb hby d2_75) k) ?_
        refine .go (fun _ k => XS.iloadN X28.here hx rfl (hb hby d2_76) rfl k) ?_
        obtain ⟨cz29, B29, q29, S29, M29, H29, G29⟩ := id V28
        obtain ⟨T29, h29, X29, e29, W29, st29⟩ := stC X28 hx hZ e28 B29 (j := (2 : Int32)) (inb_of S29 ⟨(by decide : ¬ ((2 : Int32) < (0 : Int32))), (by decide : (2 : Int32) < (3 : Int32))⟩) (g := (mkF m 77 #[vi x1, vi x2, vi x3, vi (3 : Int32)] [(.int x3), (.int (2 : Int32)), (.ref a26), (.ref a26), (.ref a25), (.ref a25)])) rfl rfl (hb hby d2_77)
        refine Fin.go st29 ?_
        have V29 : Arv Z h29 a26 k26 .char (3 : Int32) [(.int x1), (.int x2), (.int x3)] (.int (0 : Int32)) := (by have q : Arv Z h29 a26 k26 .char (3 : Int32) [(.int x1), (.int x2), (.int (nar .char x3))] (.int (0 : Int32)) := (Arv.set B29 q29 S29 M29 H29 G29 (fits_nar_char _) W29 2 rfl (Nat.le_of_ble_eq_true rfl)); rwa [narC _ hc3] at q)
        have N29 := Fr.snoc X29 N28 n26
        have O29 := O28.wr W29 n26
        have K29 := K28.wr W29 (Or.inr z26)
        have hk29 := Nat.le_trans hk28 (Keep.of_wr W29).1
        have RR29 := RR28.trans (CHr.wr W29 (Safe.arv hZ.alike V28 (by decide)) RR28.1)
        have sf29_a25 := (Safe.wr W29 (Safe.arv hZ.alike V28 (by decide)) RR28.1 sf28_a25)
        have F29_a25_coder := (F28_a25_coder.other W29 (Or.inl (Nat.ne_of_lt (Nat.lt_of_lt_of_eq A25.lt g26.symm))))
        have F29_a25_value := (F28_a25_value.other W29 (Or.inl (Nat.ne_of_lt (Nat.lt_of_lt_of_eq A25.lt g26.symm))))
        show Fin _ _ _ _ _ _ _ _ T29 (mkF m 78 #[vi x1, vi x2, vi x3, vi (3 : Int32)] [(.ref a26), (.ref a25), (.ref a25)])
        rcases lu3 x1 x2 x3 with ⟨hp1, hp2, hp3⟩ | hU
        · obtain ⟨v30, T30, L30, X30, q30, st30⟩ := callCt X29 hx hZ (y := (⟨"java/lang/String", "<init>", "([C)V"⟩ : MethodName)) rfl hown (hw _ w_13) (hw _ w_14) (hw _ w_12) (hw _ w_15) (by decide) (W := 1) (rmStr3 l Z a0 hw n0 h29 O29 a25 a26 k26 x1 x2 x3 cs S_cs hcs V29 ((((A25.ext E26).wr W27).wr W28).wr W29) F29_a25_coder F29_a25_value hp1 hp2 hp3 n25 (Ne.symm (Nat.ne_of_lt (Nat.lt_of_lt_of_eq A25.lt g26.symm)))) e29 (by decide) (by decide) (by decide) (by decide) (g := (mkF m 78 #[vi x1, vi x2, vi x3, vi (3 : Int32)] [(.ref a26), (.ref a25), (.ref a25)])) rfl (by rw [hml]; rfl) (a := a25) (argsL := [(.ref a26)]) (rest := [(.ref a25)]) (lenOf pd_oACcV rfl) rfl (wk rfl rfl) (hb hby d2_78)
          obtain ⟨rfl, Nq30, Kq30, A30, C30, d30, kd30, F30, V30, zd30⟩ := q30
          have N30 := Fr.app N29 Nq30
          have O30 := O29.keep Kq30 (allS n25 all0)
          have K30 := K29.trans Kq30 (allS (Or.inr z25) all0)
          have RR30 := RR29.trans (CHr.keep Kq30 (sfS sf29_a25 sf0) RR29.1)
          have hk30 := Nat.le_trans hk29 Kq30.1
          refine Fin.go st30 ?_
          have V30_a26 := (V29.keep Kq30 (ninS (Ne.symm (Nat.ne_of_lt (Nat.lt_of_lt_of_eq A25.lt g26.symm))) nin0))
          show Fin _ _ _ _ _ _ _ _ T30 (mkF m 81 #[vi x1, vi x2, vi x3, vi (3 : Int32)] [(.ref a25)])
          exact Fin.leaveH X30 hS hk30 hZ hEL (rfl : T30.heap = T30.heap) RR30 hlk (v := some (.ref a25)) (nvS hret) (by decide) (by decide) ⟨a25, rfl, N30, K30, Nat.le_refl _, A30.lt, A30, (0 : Int32), d30, kd30, (3 : Int32), [.int ((Int32.toInt8 x1).toInt32), .int ((Int32.toInt8 x2).toInt32), .int ((Int32.toInt8 x3).toInt32)], V30.lt, C30, F30, V30, (Or.inr (Or.inr (Or.inr (Or.inl ⟨rfl, rfl, rfl, rfl, hp1, hp2, hp3⟩))))⟩ (fun fs hr => retOut X30 hx hret rfl (Or.inr (Or.inr (Or.inr (Or.inr ⟨rfl, rfl, rfl⟩)))) (hb hby d2_81) hr)
        · obtain ⟨v31, T31, L31, X31, q31, st31⟩ := callCt X29 hx hZ (y := (⟨"java/lang/String", "<init>", "([C)V"⟩ : MethodName)) rfl hown (hw _ w_13) (hw _ w_14) (hw _ w_12) (hw _ w_15) (by decide) (W := 1) (rmU3 l Z a0 hw n0 h29 O29 a25 a26 k26 x1 x2 x3 cs S_cs hcs V29 ((((A25.ext E26).wr W27).wr W28).wr W29) F29_a25_coder F29_a25_value hc1 hc2 hc3 hU S_as S_hb S_lb n25 (Ne.symm (Nat.ne_of_lt (Nat.lt_of_lt_of_eq A25.lt g26.symm)))) e29 (by decide) (by decide) (by decide) (by decide) (g := (mkF m 78 #[vi x1, vi x2, vi x3, vi (3 : Int32)] [(.ref a26), (.ref a25), (.ref a25)])) rfl (by rw [hml]; rfl) (a := a25) (argsL := [(.ref a26)]) (rest := [(.ref a25)]) (lenOf pd_oACcV rfl) rfl (wk rfl rfl) (hb hby d2_78)
          obtain ⟨rfl, Nq31, Kq31, A31, C31, d31, kd31, F31, V31, zd31⟩ := q31
          have N31 := Fr.app N29 Nq31
          have O31 := O29.keep Kq31 (allS n25 all0)
          have K31 := K29.trans Kq31 (allS (Or.inr z25) all0)
          have RR31 := RR29.trans (CHr.keep Kq31 (sfS sf29_a25 sf0) RR29.1)
          have hk31 := Nat.le_trans hk29 Kq31.1
          refine Fin.go st31 ?_
          have V31_a26 := (V29.keep Kq31 (ninS (Ne.symm (Nat.ne_of_lt (Nat.lt_of_lt_of_eq A25.lt g26.symm))) nin0))
          show Fin _ _ _ _ _ _ _ _ T31 (mkF m 81 #[vi x1, vi x2, vi x3, vi (3 : Int32)] [(.ref a25)])
          exact Fin.leaveH X31 hS hk31 hZ hEL (rfl : T31.heap = T31.heap) RR31 hlk (v := some (.ref a25)) (nvS hret) (by decide) (by decide) ⟨a25, rfl, N31, K31, Nat.le_refl _, A31.lt, A31, (1 : Int32), d31, kd31, (6 : Int32), [.int (lo8 x1), .int (hi8 x1), .int (lo8 x2), .int (hi8 x2), .int (lo8 x3), .int (hi8 x3)], V31.lt, C31, F31, V31, (Or.inr (Or.inr (Or.inr (Or.inr (Or.inr (Or.inr (⟨rfl, rfl, rfl, rfl⟩)))))))⟩ (fun fs hr => retOut X31 hx hret rfl (Or.inr (Or.inr (Or.inr (Or.inr ⟨rfl, rfl, rfl⟩)))) (hb hby d2_81) hr)
theorem law (l : Launch) (Z : State) (a0 : Array Value) (hw : HW a0 Z) (n0 : Nat) (h0 : Heap) (O : Old Z n0 h0) (p0 : Int64) (p1 : Int32) (p2 : Int64) (p3 p4 : Int32) (cs : Int32) (S_cs : Sta Z Z.heap "java/lang/String" "COMPACT_STRINGS" "Z" (.int cs)) (hcs : ¬ cs = 0) (S_as : SAs Z) (S_hb : SHb Z) (S_lb : SLb Z) (fm : Value) (hfm : fm.isRef = true) (S_fm : SFm Z fm) :
    ConHW l Z EL tables_1 x code maxLocals ret room_1 #[(.long p0), (.int p1), (.long p2), (.int p3), (.int p4)] h0 (fun v h L => v = some (.int 1) ∧ Fr n0 L) := by
  refine conOfH (plainFor_of_name pn_com_example_muster_muster_campaign_TextOrderComparePinLaw) ?_
  intro p e s m below mth cc s₁ X0 hx hby hml hown hnm hret hlk hZ e0 hS RR0
  have N0 := Fr.nil n0
  have hEL := elW hw
  refine Fin.came (castTop (t := _) (by first | (simp [entryFrame, mkF, argsToLocals, Value.category, maxLocals]; done) | rfl) (Steps.refl _) : Steps p.tables e below (s₁.setTop (entryFrame m #[(.long p0), (.int p1), (.long p2), (.int p3), (.int p4)] maxLocals)) (s₁.setTop (mkF m 0 #[.val (.long p0), .second, vi p1, .val (.long p2), .second, vi p3, vi p4, .unset, .unset, .unset, .unset, .unset, .unset, .unset, .unset, .unset, .unset, .unset, .unset, .unset, .unset] []))) ?_
  refine .go (fun _ k => XS.iload X0.here hx rfl (hb hby at_0) rfl k) ?_
  refine .go (fun _ k => XS.iconst X0.here hx rfl (hb hby at_2) k) ?_
  refine .go (fun _ k => XS.iand X0.here hx rfl (hb hby at_3) rfl k) ?_
  refine .go (fun _ k => XS.istore X0.here hx rfl (hb hby at_4) rfl (l' := #[.val (.long p0), .second, vi p1, .val (.long p2), .second, vi p3, vi p4, vi (p4 &&& (3 : Int32)), .unset, .unset, .unset, .unset, .unset, .unset, .unset, .unset, .unset, .unset, .unset, .unset, .unset]) rfl k) ?_
  refine .go (fun _ k => XS.iload X0.here hx rfl (hb hby at_6) rfl k) ?_
  refine .go (fun _ k => XS.iconst X0.here hx rfl (hb hby at_8) k) ?_
  refine .go (fun _ k => XT.iushr X0.here hx rfl (hb hby at_9) rfl k) ?_
  refine .go (fun _ k => XS.iconst X0.here hx rfl (hb hby at_10) k) ?_
  refine .go (fun _ k => XS.iand X0.here hx rfl (hb hby at_11) rfl k) ?_
  show Fin _ _ _ _ _ _ _ _ s₁ (mkF m 12 #[.val (.long p0), .second, vi p1, .val (.long p2), .second, vi p3, vi p4, vi (p4 &&& (3 : Int32)), .unset, .unset, .unset, .unset, .unset, .unset, .unset, .unset, .unset, .unset, .unset, .unset, .unset] [(.int ((XT.ushr p4 (2 : Int32)) &&& (3 : Int32)))])
  refine .go (fun _ k => XS.istore X0.here hx rfl (hb hby at_12) rfl (l' := #[.val (.long p0), .second, vi p1, .val (.long p2), .second, vi p3, vi p4, vi (p4 &&& (3 : Int32)), vi ((XT.ushr p4 (2 : Int32)) &&& (3 : Int32)), .unset, .unset, .unset, .unset, .unset, .unset, .unset, .unset, .unset, .unset, .unset, .unset]) rfl k) ?_
  refine .go (fun _ k => XT.lloadN X0.here hx rfl (hb hby at_14) rfl k) ?_
  refine .go (fun _ k => XT.l2i X0.here hx rfl (hb hby at_15) rfl k) ?_
  obtain ⟨v11, T11, L11, X11, q11, st11⟩ := callSt X0 hx hZ hown (hw _ w_0) (hw _ w_1) (hw _ w_2) (hw _ w_3) (by decide) (W := 0) (rmMk l Z a0 hw n0 h0 O (Int64.toInt32 p0)) e0 (by decide) (by decide) (by decide) (by decide) (g := (mkF m 16 #[.val (.long p0), .second, vi p1, .val (.long p2), .second, vi p3, vi p4, vi (p4 &&& (3 : Int32)), vi ((XT.ushr p4 (2 : Int32)) &&& (3 : Int32)), .unset, .unset, .unset, .unset, .unset, .unset, .unset, .unset, .unset, .unset, .unset, .unset] [(.int (Int64.toInt32 p0))])) rfl (by rw [hml]; rfl) (argsL := [(.int (Int64.toInt32 p0))]) (rest := []) (lenOf pd_oIcC rfl) rfl (wk rfl rfl) (hb hby at_16)
  obtain ⟨r11, rfl, e11, rfl, hr11⟩ := q11
  have N11 := Fr.app N0 (Fr.nil n0)
  refine Fin.go st11 ?_
  show Fin _ _ _ _ _ _ _ _ T11 (mkF m 19 #[.val (.long p0), .second, vi p1, .val (.long p2), .second, vi p3, vi p4, vi (p4 &&& (3 : Int32)), vi ((XT.ushr p4 (2 : Int32)) &&& (3 : Int32)), .unset, .unset, .unset, .unset, .unset, .unset, .unset, .unset, .unset, .unset, .unset, .unset] [(.int r11)])
  refine .go (fun _ k => XS.istore X11.here hx rfl (hb hby at_19) rfl (l' := #[.val (.long p0), .second, vi p1, .val (.long p2), .second, vi p3, vi p4, vi (p4 &&& (3 : Int32)), vi ((XT.ushr p4 (2 : Int32)) &&& (3 : Int32)), vi r11, .unset, .unset, .unset, .unset, .unset, .unset, .unset, .unset, .unset, .unset, .unset]) rfl k) ?_
  refine .go (fun _ k => XT.lloadN X11.here hx rfl (hb hby at_21) rfl k) ?_
  refine .go (fun _ k => XS.bipush X11.here hx rfl (hb hby at_22) k) ?_
  refine .go (fun _ k => XT.lushr X11.here hx rfl (hb hby at_24) rfl k) ?_
  refine .go (fun _ k => XT.l2i X11.here hx rfl (hb hby at_25) rfl k) ?_
  obtain ⟨v12, T12, L12, X12, q12, st12⟩ := callSt X11 hx hZ hown (hw _ w_0) (hw _ w_1) (hw _ w_2) (hw _ w_3) (by decide) (W := 0) (rmMk l Z a0 hw n0 h0 O (Int64.toInt32 (XT.ushrL p0 (32 : Int32)))) e11 (by decide) (by decide) (by decide) (by decide) (g := (mkF m 26 #[.val (.long p0), .second, vi p1, .val (.long p2), .second, vi p3, vi p4, vi (p4 &&& (3 : Int32)), vi ((XT.ushr p4 (2 : Int32)) &&& (3 : Int32)), vi r11, .unset, .unset, .unset, .unset, .unset, .unset, .unset, .unset, .unset, .unset, .unset] [(.int (Int64.toInt32 (XT.ushrL p0 (32 : Int32))))])) rfl (by rw [hml]; rfl) (argsL := [(.int (Int64.toInt32 (XT.ushrL p0 (32 : Int32))))]) (rest := []) (lenOf pd_oIcC rfl) rfl (wk rfl rfl) (hb hby at_26)
  obtain ⟨r12, rfl, e12, rfl, hr12⟩ := q12
  have N12 := Fr.app N11 (Fr.nil n0)
  refine Fin.go st12 ?_
  show Fin _ _ _ _ _ _ _ _ T12 (mkF m 29 #[.val (.long p0), .second, vi p1, .val (.long p2), .second, vi p3, vi p4, vi (p4 &&& (3 : Int32)), vi ((XT.ushr p4 (2 : Int32)) &&& (3 : Int32)), vi r11, .unset, .unset, .unset, .unset, .unset, .unset, .unset, .unset, .unset, .unset, .unset] [(.int r12)])
  refine .go (fun _ k => XS.istore X12.here hx rfl (hb hby at_29) rfl (l' := #[.val (.long p0), .second, vi p1, .val (.long p2), .second, vi p3, vi p4, vi (p4 &&& (3 : Int32)), vi ((XT.ushr p4 (2 : Int32)) &&& (3 : Int32)), vi r11, vi r12, .unset, .unset, .unset, .unset, .unset, .unset, .unset, .unset, .unset, .unset]) rfl k) ?_
  refine .go (fun _ k => XS.iloadN X12.here hx rfl (hb hby at_31) rfl k) ?_
  obtain ⟨v13, T13, L13, X13, q13, st13⟩ := callSt X12 hx hZ hown (hw _ w_0) (hw _ w_1) (hw _ w_2) (hw _ w_3) (by decide) (W := 0) (rmMk l Z a0 hw n0 h0 O p1) e12 (by decide) (by decide) (by decide) (by decide) (g := (mkF m 32 #[.val (.long p0), .second, vi p1, .val (.long p2), .second, vi p3, vi p4, vi (p4 &&& (3 : Int32)), vi ((XT.ushr p4 (2 : Int32)) &&& (3 : Int32)), vi r11, vi r12, .unset, .unset, .unset, .unset, .unset, .unset, .unset, .unset, .unset, .unset] [(.int p1)])) rfl (by rw [hml]; rfl) (argsL := [(.int p1)]) (rest := []) (lenOf pd_oIcC rfl) rfl (wk rfl rfl) (hb hby at_32)
  obtain ⟨r13, rfl, e13, rfl, hr13⟩ := q13
  have N13 := Fr.app N12 (Fr.nil n0)
  refine Fin.go st13 ?_
  show Fin _ _ _ _ _ _ _ _ T13 (mkF m 35 #[.val (.long p0), .second, vi p1, .val (.long p2), .second, vi p3, vi p4, vi (p4 &&& (3 : Int32)), vi ((XT.ushr p4 (2 : Int32)) &&& (3 : Int32)), vi r11, vi r12, .unset, .unset, .unset, .unset, .unset, .unset, .unset, .unset, .unset, .unset] [(.int r13)])
  refine .go (fun _ k => XS.istore X13.here hx rfl (hb hby at_35) rfl (l' := #[.val (.long p0), .second, vi p1, .val (.long p2), .second, vi p3, vi p4, vi (p4 &&& (3 : Int32)), vi ((XT.ushr p4 (2 : Int32)) &&& (3 : Int32)), vi r11, vi r12, vi r13, .unset, .unset, .unset, .unset, .unset, .unset, .unset, .unset, .unset]) rfl k) ?_
  show Fin _ _ _ _ _ _ _ _ T13 (mkF m 37 #[.val (.long p0), .second, vi p1, .val (.long p2), .second, vi p3, vi p4, vi (p4 &&& (3 : Int32)), vi ((XT.ushr p4 (2 : Int32)) &&& (3 : Int32)), vi r11, vi r12, vi r13, .unset, .unset, .unset, .unset, .unset, .unset, .unset, .unset, .unset] [])
  have tailq1 : ∀ (Tt14 : State) (Xt14 : Stand p l e room_1 s m #[(.long p0), (.int p1), (.long p2), (.int p3), (.int p4)] below mth cc Tt14 [] 0 0) (et14 : Tt14.heap = h0) (q1 : Int32) (hq1 : ChI q1), Fin (EH Z EL) p e below s (fun v h L => v = some (.int 1) ∧ Fr n0 L) room_1.cells room_1.slots Tt14 (mkF m 56 #[.val (.long p0), .second, vi p1, .val (.long p2), .second, vi p3, vi p4, vi (p4 &&& (3 : Int32)), vi ((XT.ushr p4 (2 : Int32)) &&& (3 : Int32)), vi r11, vi r12, vi r13, .unset, .unset, .unset, .unset, .unset, .unset, .unset, .unset, .unset] [(.int q1)]) := by
    intro Tt14 Xt14 et14 q1 hq1
    refine .go (fun _ k => XS.istore Xt14.here hx rfl (hb hby at_56) rfl (l' := #[.val (.long p0), .second, vi p1, .val (.long p2), .second, vi p3, vi p4, vi (p4 &&& (3 : Int32)), vi ((XT.ushr p4 (2 : Int32)) &&& (3 : Int32)), vi r11, vi r12, vi r13, vi q1, .unset, .unset, .unset, .unset, .unset, .unset, .unset, .unset]) rfl k) ?_
    show Fin _ _ _ _ _ _ _ _ Tt14 (mkF m 58 #[.val (.long p0), .second, vi p1, .val (.long p2), .second, vi p3, vi p4, vi (p4 &&& (3 : Int32)), vi ((XT.ushr p4 (2 : Int32)) &&& (3 : Int32)), vi r11, vi r12, vi r13, vi q1, .unset, .unset, .unset, .unset, .unset, .unset, .unset, .unset] [])
    have tailq2 : ∀ (Tt15 : State) (Xt15 : Stand p l e room_1 s m #[(.long p0), (.int p1), (.long p2), (.int p3), (.int p4)] below mth cc Tt15 [] 0 0) (et15 : Tt15.heap = h0) (q2 : Int32) (hq2 : ChI q2), Fin (EH Z EL) p e below s (fun v h L => v = some (.int 1) ∧ Fr n0 L) room_1.cells room_1.slots Tt15 (mkF m 80 #[.val (.long p0), .second, vi p1, .val (.long p2), .second, vi p3, vi p4, vi (p4 &&& (3 : Int32)), vi ((XT.ushr p4 (2 : Int32)) &&& (3 : Int32)), vi r11, vi r12, vi r13, vi q1, .unset, .unset, .unset, .unset, .unset, .unset, .unset, .unset] [(.int q2)]) := by
      intro Tt15 Xt15 et15 q2 hq2
      refine .go (fun _ k => XS.istore Xt15.here hx rfl (hb hby at_80) rfl (l' := #[.val (.long p0), .second, vi p1, .val (.long p2), .second, vi p3, vi p4, vi (p4 &&& (3 : Int32)), vi ((XT.ushr p4 (2 : Int32)) &&& (3 : Int32)), vi r11, vi r12, vi r13, vi q1, vi q2, .unset, .unset, .unset, .unset, .unset, .unset, .unset]) rfl k) ?_
      show Fin _ _ _ _ _ _ _ _ Tt15 (mkF m 82 #[.val (.long p0), .second, vi p1, .val (.long p2), .second, vi p3, vi p4, vi (p4 &&& (3 : Int32)), vi ((XT.ushr p4 (2 : Int32)) &&& (3 : Int32)), vi r11, vi r12, vi r13, vi q1, vi q2, .unset, .unset, .unset, .unset, .unset, .unset, .unset] [])
      have tailq3 : ∀ (Tt16 : State) (Xt16 : Stand p l e room_1 s m #[(.long p0), (.int p1), (.long p2), (.int p3), (.int p4)] below mth cc Tt16 [] 0 0) (et16 : Tt16.heap = h0) (q3 : Int32) (hq3 : ChI q3), Fin (EH Z EL) p e below s (fun v h L => v = some (.int 1) ∧ Fr n0 L) room_1.cells room_1.slots Tt16 (mkF m 102 #[.val (.long p0), .second, vi p1, .val (.long p2), .second, vi p3, vi p4, vi (p4 &&& (3 : Int32)), vi ((XT.ushr p4 (2 : Int32)) &&& (3 : Int32)), vi r11, vi r12, vi r13, vi q1, vi q2, .unset, .unset, .unset, .unset, .unset, .unset, .unset] [(.int q3)]) := by
        intro Tt16 Xt16 et16 q3 hq3
        refine .go (fun _ k => XS.istore Xt16.here hx rfl (hb hby at_102) rfl (l' := #[.val (.long p0), .second, vi p1, .val (.long p2), .second, vi p3, vi p4, vi (p4 &&& (3 : Int32)), vi ((XT.ushr p4 (2 : Int32)) &&& (3 : Int32)), vi r11, vi r12, vi r13, vi q1, vi q2, vi q3, .unset, .unset, .unset, .unset, .unset, .unset]) rfl k) ?_
        refine .go (fun _ k => XS.iconst Xt16.here hx rfl (hb hby at_104) k) ?_
        obtain ⟨T17, h17, k17, X17, e17, E17, A17, st17⟩ := newP Xt16 hx hZ (aty := .char) (hw _ w_6) et16 (g := (mkF m 105 #[.val (.long p0), .second, vi p1, .val (.long p2), .second, vi p3, vi p4, vi (p4 &&& (3 : Int32)), vi ((XT.ushr p4 (2 : Int32)) &&& (3 : Int32)), vi r11, vi r12, vi r13, vi q1, vi q2, vi q3, .unset, .unset, .unset, .unset, .unset, .unset] [(.int (3 : Int32))])) rfl (hb hby at_105) rfl (by decide : ¬ ((3 : Int32) < (0 : Int32))) (cap := 3) (by decide) (by decide) (by decide) (by decide)
        obtain ⟨a17, g17⟩ : ∃ z, z = h0.size := ⟨_, rfl⟩
        rw [← g17] at A17 st17
        refine Fin.go st17 ?_
        have O17 := O.ext E17
        have hk17 := Nat.le_trans (Nat.zero_le _) E17.1
        have RR17 := RR0.trans (CHr.ext E17 RR0.1)
        have n17 : n0 ≤ a17 := by have := O.2.1; have := O.1; omega
        have V17 : Arv Z h17 a17 k17 .char (3 : Int32) [(.int (0 : Int32)), (.int (0 : Int32)), (.int (0 : Int32))] (.int (0 : Int32)) := (Arv.new A17 (by decide)).pad (pad_rep [] (.int (0 : Int32)) 3)
        show Fin _ _ _ _ _ _ _ _ T17 (mkF m 107 #[.val (.long p0), .second, vi p1, .val (.long p2), .second, vi p3, vi p4, vi (p4 &&& (3 : Int32)), vi ((XT.ushr p4 (2 : Int32)) &&& (3 : Int32)), vi r11, vi r12, vi r13, vi q1, vi q2, vi q3, .unset, .unset, .unset, .unset, .unset, .unset] [(.ref a17)])
        refine .go (fun _ k => XS.dup X17.here hx rfl (hb hby at_107) rfl rfl k) ?_
        refine .go (fun _ k => XS.iconst X17.here hx rfl (hb hby at_108) k) ?_
        refine .go (fun _ k => XS.iload X17.here hx rfl (hb hby at_109) rfl k) ?_
        obtain ⟨cz18, B18, q18, S18, M18, H18, G18⟩ := id V17
        obtain ⟨T18, h18, X18, e18, W18, st18⟩ := stC X17 hx hZ e17 B18 (j := (0 : Int32)) (inb_of S18 ⟨(by decide : ¬ ((0 : Int32) < (0 : Int32))), (by decide : (0 : Int32) < (3 : Int32))⟩) (g := (mkF m 111 #[.val (.long p0), .second, vi p1, .val (.long p2), .second, vi p3, vi p4, vi (p4 &&& (3 : Int32)), vi ((XT.ushr p4 (2 : Int32)) &&& (3 : Int32)), vi r11, vi r12, vi r13, vi q1, vi q2, vi q3, .unset, .unset, .unset, .unset, .unset, .unset] [(.int r11), (.int (0 : Int32)), (.ref a17), (.ref a17)])) rfl rfl (hb hby at_111)
        refine Fin.go st18 ?_
        have V18 : Arv Z h18 a17 k17 .char (3 : Int32) [(.int r11), (.int (0 : Int32)), (.int (0 : Int32))] (.int (0 : Int32)) := (by have q : Arv Z h18 a17 k17 .char (3 : Int32) [(.int (nar .char r11)), (.int (0 : Int32)), (.int (0 : Int32))] (.int (0 : Int32)) := (Arv.set B18 q18 S18 M18 H18 G18 (fits_nar_char _) W18 0 rfl (Nat.le_of_ble_eq_true rfl)); rwa [narC _ hr11] at q)
        have N18 := Fr.snoc X18 N0 n17
        have O18 := O17.wr W18 n17
        have hk18 := Nat.le_trans hk17 (Keep.of_wr W18).1
        have RR18 := RR17.trans (CHr.wr W18 (Safe.arv hZ.alike V17 (by decide)) RR17.1)
        show Fin _ _ _ _ _ _ _ _ T18 (mkF m 112 #[.val (.long p0), .second, vi p1, .val (.long p2), .second, vi p3, vi p4, vi (p4 &&& (3 : Int32)), vi ((XT.ushr p4 (2 : Int32)) &&& (3 : Int32)), vi r11, vi r12, vi r13, vi q1, vi q2, vi q3, .unset, .unset, .unset, .unset, .unset, .unset] [(.ref a17)])
        refine .go (fun _ k => XS.dup X18.here hx rfl (hb hby at_112) rfl rfl k) ?_
        refine .go (fun _ k => XS.iconst X18.here hx rfl (hb hby at_113) k) ?_
        refine .go (fun _ k => XS.iload X18.here hx rfl (hb hby at_114) rfl k) ?_
        obtain ⟨cz19, B19, q19, S19, M19, H19, G19⟩ := id V18
        obtain ⟨T19, h19, X19, e19, W19, st19⟩ := stC X18 hx hZ e18 B19 (j := (1 : Int32)) (inb_of S19 ⟨(by decide : ¬ ((1 : Int32) < (0 : Int32))), (by decide : (1 : Int32) < (3 : Int32))⟩) (g := (mkF m 116 #[.val (.long p0), .second, vi p1, .val (.long p2), .second, vi p3, vi p4, vi (p4 &&& (3 : Int32)), vi ((XT.ushr p4 (2 : Int32)) &&& (3 : Int32)), vi r11, vi r12, vi r13, vi q1, vi q2, vi q3, .unset, .unset, .unset, .unset, .unset, .unset] [(.int r12), (.int (1 : Int32)), (.ref a17), (.ref a17)])) rfl rfl (hb hby at_116)
        refine Fin.go st19 ?_
        have V19 : Arv Z h19 a17 k17 .char (3 : Int32) [(.int r11), (.int r12), (.int (0 : Int32))] (.int (0 : Int32)) := (by have q : Arv Z h19 a17 k17 .char (3 : Int32) [(.int r11), (.int (nar .char r12)), (.int (0 : Int32))] (.int (0 : Int32)) := (Arv.set B19 q19 S19 M19 H19 G19 (fits_nar_char _) W19 1 rfl (Nat.le_of_ble_eq_true rfl)); rwa [narC _ hr12] at q)
        have N19 := Fr.snoc X19 N18 n17
        have O19 := O18.wr W19 n17
        have hk19 := Nat.le_trans hk18 (Keep.of_wr W19).1
        have RR19 := RR18.trans (CHr.wr W19 (Safe.arv hZ.alike V18 (by decide)) RR18.1)
        show Fin _ _ _ _ _ _ _ _ T19 (mkF m 117 #[.val (.long p0), .second, vi p1, .val (.long p2), .second, vi p3, vi p4, vi (p4 &&& (3 : Int32)), vi ((XT.ushr p4 (2 : Int32)) &&& (3 : Int32)), vi r11, vi r12, vi r13, vi q1, vi q2, vi q3, .unset, .unset, .unset, .unset, .unset, .unset] [(.ref a17)])
        refine .go (fun _ k => XS.dup X19.here hx rfl (hb hby at_117) rfl rfl k) ?_
        refine .go (fun _ k => XS.iconst X19.here hx rfl (hb hby at_118) k) ?_
        refine .go (fun _ k => XS.iload X19.here hx rfl (hb hby at_119) rfl k) ?_
        obtain ⟨cz20, B20, q20, S20, M20, H20, G20⟩ := id V19
        obtain ⟨T20, h20, X20, e20, W20, st20⟩ := stC X19 hx hZ e19 B20 (j := (2 : Int32)) (inb_of S20 ⟨(by decide : ¬ ((2 : Int32) < (0 : Int32))), (by decide : (2 : Int32) < (3 : Int32))⟩) (g := (mkF m 121 #[.val (.long p0), .second, vi p1, .val (.long p2), .second, vi p3, vi p4, vi (p4 &&& (3 : Int32)), vi ((XT.ushr p4 (2 : Int32)) &&& (3 : Int32)), vi r11, vi r12, vi r13, vi q1, vi q2, vi q3, .unset, .unset, .unset, .unset, .unset, .unset] [(.int r13), (.int (2 : Int32)), (.ref a17), (.ref a17)])) rfl rfl (hb hby at_121)
        refine Fin.go st20 ?_
        have V20 : Arv Z h20 a17 k17 .char (3 : Int32) [(.int r11), (.int r12), (.int r13)] (.int (0 : Int32)) := (by have q : Arv Z h20 a17 k17 .char (3 : Int32) [(.int r11), (.int r12), (.int (nar .char r13))] (.int (0 : Int32)) := (Arv.set B20 q20 S20 M20 H20 G20 (fits_nar_char _) W20 2 rfl (Nat.le_of_ble_eq_true rfl)); rwa [narC _ hr13] at q)
        have N20 := Fr.snoc X20 N19 n17
        have O20 := O19.wr W20 n17
        have hk20 := Nat.le_trans hk19 (Keep.of_wr W20).1
        have RR20 := RR19.trans (CHr.wr W20 (Safe.arv hZ.alike V19 (by decide)) RR19.1)
        show Fin _ _ _ _ _ _ _ _ T20 (mkF m 122 #[.val (.long p0), .second, vi p1, .val (.long p2), .second, vi p3, vi p4, vi (p4 &&& (3 : Int32)), vi ((XT.ushr p4 (2 : Int32)) &&& (3 : Int32)), vi r11, vi r12, vi r13, vi q1, vi q2, vi q3, .unset, .unset, .unset, .unset, .unset, .unset] [(.ref a17)])
        refine .go (fun _ k => XS.astore X20.here hx rfl (hb hby at_122) rfl rfl (l' := #[.val (.long p0), .second, vi p1, .val (.long p2), .second, vi p3, vi p4, vi (p4 &&& (3 : Int32)), vi ((XT.ushr p4 (2 : Int32)) &&& (3 : Int32)), vi r11, vi r12, vi r13, vi q1, vi q2, vi q3, vr a17, .unset, .unset, .unset, .unset, .unset]) rfl k) ?_
        refine .go (fun _ k => XS.iconst X20.here hx rfl (hb hby at_124) k) ?_
        obtain ⟨T21, h21, k21, X21, e21, E21, A21, st21⟩ := newP X20 hx hZ (aty := .char) (hw _ w_6) e20 (g := (mkF m 125 #[.val (.long p0), .second, vi p1, .val (.long p2), .second, vi p3, vi p4, vi (p4 &&& (3 : Int32)), vi ((XT.ushr p4 (2 : Int32)) &&& (3 : Int32)), vi r11, vi r12, vi r13, vi q1, vi q2, vi q3, vr a17, .unset, .unset, .unset, .unset, .unset] [(.int (3 : Int32))])) rfl (hb hby at_125) rfl (by decide : ¬ ((3 : Int32) < (0 : Int32))) (cap := 3) (by decide) (by decide) (by decide) (by decide)
        obtain ⟨a21, g21⟩ : ∃ z, z = h20.size := ⟨_, rfl⟩
        rw [← g21] at A21 st21
        refine Fin.go st21 ?_
        have O21 := O20.ext E21
        have hk21 := Nat.le_trans hk20 E21.1
        have RR21 := RR20.trans (CHr.ext E21 RR20.1)
        have n21 : n0 ≤ a21 := by have := O20.2.1; have := O20.1; omega
        have V21 : Arv Z h21 a21 k21 .char (3 : Int32) [(.int (0 : Int32)), (.int (0 : Int32)), (.int (0 : Int32))] (.int (0 : Int32)) := (Arv.new A21 (by decide)).pad (pad_rep [] (.int (0 : Int32)) 3)
        show Fin _ _ _ _ _ _ _ _ T21 (mkF m 127 #[.val (.long p0), .second, vi p1, .val (.long p2), .second, vi p3, vi p4, vi (p4 &&& (3 : Int32)), vi ((XT.ushr p4 (2 : Int32)) &&& (3 : Int32)), vi r11, vi r12, vi r13, vi q1, vi q2, vi q3, vr a17, .unset, .unset, .unset, .unset, .unset] [(.ref a21)])
        refine .go (fun _ k => XS.dup X21.here hx rfl (hb hby at_127) rfl rfl k) ?_
        refine .go (fun _ k => XS.iconst X21.here hx rfl (hb hby at_128) k) ?_
        refine .go (fun _ k => XS.iload X21.here hx rfl (hb hby at_129) rfl k) ?_
        obtain ⟨cz22, B22, q22, S22, M22, H22, G22⟩ := id V21
        obtain ⟨T22, h22, X22, e22, W22, st22⟩ := stC X21 hx hZ e21 B22 (j := (0 : Int32)) (inb_of S22 ⟨(by decide : ¬ ((0 : Int32) < (0 : Int32))), (by decide : (0 : Int32) < (3 : Int32))⟩) (g := (mkF m 131 #[.val (.long p0), .second, vi p1, .val (.long p2), .second, vi p3, vi p4, vi (p4 &&& (3 : Int32)), vi ((XT.ushr p4 (2 : Int32)) &&& (3 : Int32)), vi r11, vi r12, vi r13, vi q1, vi q2, vi q3, vr a17, .unset, .unset, .unset, .unset, .unset] [(.int q1), (.int (0 : Int32)), (.ref a21), (.ref a21)])) rfl rfl (hb hby at_131)
        refine Fin.go st22 ?_
        have V22 : Arv Z h22 a21 k21 .char (3 : Int32) [(.int q1), (.int (0 : Int32)), (.int (0 : Int32))] (.int (0 : Int32)) := (by have q : Arv Z h22 a21 k21 .char (3 : Int32) [(.int (nar .char q1)), (.int (0 : Int32)), (.int (0 : Int32))] (.int (0 : Int32)) := (Arv.set B22 q22 S22 M22 H22 G22 (fits_nar_char _) W22 0 rfl (Nat.le_of_ble_eq_true rfl)); rwa [narC _ hq1] at q)
        have N22 := Fr.snoc X22 N20 n21
        have O22 := O21.wr W22 n21
        have hk22 := Nat.le_trans hk21 (Keep.of_wr W22).1
        have RR22 := RR21.trans (CHr.wr W22 (Safe.arv hZ.alike V21 (by decide)) RR21.1)
        have V22_a17 := ((V20.ext E21).other W22 (Nat.ne_of_lt (Nat.lt_of_lt_of_eq V20.lt g21.symm)))
        show Fin _ _ _ _ _ _ _ _ T22 (mkF m 132 #[.val (.long p0), .second, vi p1, .val (.long p2), .second, vi p3, vi p4, vi (p4 &&& (3 : Int32)), vi ((XT.ushr p4 (2 : Int32)) &&& (3 : Int32)), vi r11, vi r12, vi r13, vi q1, vi q2, vi q3, vr a17, .unset, .unset, .unset, .unset, .unset] [(.ref a21)])
        refine .go (fun _ k => XS.dup X22.here hx rfl (hb hby at_132) rfl rfl k) ?_
        refine .go (fun _ k => XS.iconst X22.here hx rfl (hb hby at_133) k) ?_
        refine .go (fun _ k => XS.iload X22.here hx rfl (hb hby at_134) rfl k) ?_
        obtain ⟨cz23, B23, q23, S23, M23, H23, G23⟩ := id V22
        obtain ⟨T23, h23, X23, e23, W23, st23⟩ := stC X22 hx hZ e22 B23 (j := (1 : Int32)) (inb_of S23 ⟨(by decide : ¬ ((1 : Int32) < (0 : Int32))), (by decide : (1 : Int32) < (3 : Int32))⟩) (g := (mkF m 136 #[.val (.long p0), .second, vi p1, .val (.long p2), .second, vi p3, vi p4, vi (p4 &&& (3 : Int32)), vi ((XT.ushr p4 (2 : Int32)) &&& (3 : Int32)), vi r11, vi r12, vi r13, vi q1, vi q2, vi q3, vr a17, .unset, .unset, .unset, .unset, .unset] [(.int q2), (.int (1 : Int32)), (.ref a21), (.ref a21)])) rfl rfl (hb hby at_136)
        refine Fin.go st23 ?_
        have V23 : Arv Z h23 a21 k21 .char (3 : Int32) [(.int q1), (.int q2), (.int (0 : Int32))] (.int (0 : Int32)) := (by have q : Arv Z h23 a21 k21 .char (3 : Int32) [(.int q1), (.int (nar .char q2)), (.int (0 : Int32))] (.int (0 : Int32)) := (Arv.set B23 q23 S23 M23 H23 G23 (fits_nar_char _) W23 1 rfl (Nat.le_of_ble_eq_true rfl)); rwa [narC _ hq2] at q)
        have N23 := Fr.snoc X23 N22 n21
        have O23 := O22.wr W23 n21
        have hk23 := Nat.le_trans hk22 (Keep.of_wr W23).1
        have RR23 := RR22.trans (CHr.wr W23 (Safe.arv hZ.alike V22 (by decide)) RR22.1)
        have V23_a17 := (V22_a17.other W23 (Nat.ne_of_lt (Nat.lt_of_lt_of_eq V20.lt g21.symm)))
        show Fin _ _ _ _ _ _ _ _ T23 (mkF m 137 #[.val (.long p0), .second, vi p1, .val (.long p2), .second, vi p3, vi p4, vi (p4 &&& (3 : Int32)), vi ((XT.ushr p4 (2 : Int32)) &&& (3 : Int32)), vi r11, vi r12, vi r13, vi q1, vi q2, vi q3, vr a17, .unset, .unset, .unset, .unset, .unset] [(.ref a21)])
        refine .go (fun _ k => XS.dup X23.here hx rfl (hb hby at_137) rfl rfl k) ?_
        refine .go (fun _ k => XS.iconst X23.here hx rfl (hb hby at_138) k) ?_
        refine .go (fun _ k => XS.iload X23.here hx rfl (hb hby at_139) rfl k) ?_
        obtain ⟨cz24, B24, q24, S24, M24, H24, G24⟩ := id V23
        obtain ⟨T24, h24, X24, e24, W24, st24⟩ := stC X23 hx hZ e23 B24 (j := (2 : Int32)) (inb_of S24 ⟨(by decide : ¬ ((2 : Int32) < (0 : Int32))), (by decide : (2 : Int32) < (3 : Int32))⟩) (g := (mkF m 141 #[.val (.long p0), .second, vi p1, .val (.long p2), .second, vi p3, vi p4, vi (p4 &&& (3 : Int32)), vi ((XT.ushr p4 (2 : Int32)) &&& (3 : Int32)), vi r11, vi r12, vi r13, vi q1, vi q2, vi q3, vr a17, .unset, .unset, .unset, .unset, .unset] [(.int q3), (.int (2 : Int32)), (.ref a21), (.ref a21)])) rfl rfl (hb hby at_141)
        refine Fin.go st24 ?_
        have V24 : Arv Z h24 a21 k21 .char (3 : Int32) [(.int q1), (.int q2), (.int q3)] (.int (0 : Int32)) := (by have q : Arv Z h24 a21 k21 .char (3 : Int32) [(.int q1), (.int q2), (.int (nar .char q3))] (.int (0 : Int32)) := (Arv.set B24 q24 S24 M24 H24 G24 (fits_nar_char _) W24 2 rfl (Nat.le_of_ble_eq_true rfl)); rwa [narC _ hq3] at q)
        have N24 := Fr.snoc X24 N23 n21
        have O24 := O23.wr W24 n21
        have hk24 := Nat.le_trans hk23 (Keep.of_wr W24).1
        have RR24 := RR23.trans (CHr.wr W24 (Safe.arv hZ.alike V23 (by decide)) RR23.1)
        have V24_a17 := (V23_a17.other W24 (Nat.ne_of_lt (Nat.lt_of_lt_of_eq V20.lt g21.symm)))
        show Fin _ _ _ _ _ _ _ _ T24 (mkF m 142 #[.val (.long p0), .second, vi p1, .val (.long p2), .second, vi p3, vi p4, vi (p4 &&& (3 : Int32)), vi ((XT.ushr p4 (2 : Int32)) &&& (3 : Int32)), vi r11, vi r12, vi r13, vi q1, vi q2, vi q3, vr a17, .unset, .unset, .unset, .unset, .unset] [(.ref a21)])
        refine .go (fun _ k => XS.astore X24.here hx rfl (hb hby at_142) rfl rfl (l' := #[.val (.long p0), .second, vi p1, .val (.long p2), .second, vi p3, vi p4, vi (p4 &&& (3 : Int32)), vi ((XT.ushr p4 (2 : Int32)) &&& (3 : Int32)), vi r11, vi r12, vi r13, vi q1, vi q2, vi q3, vr a17, vr a21, .unset, .unset, .unset, .unset]) rfl k) ?_
        refine .go (fun _ k => XS.iload X24.here hx rfl (hb hby at_144) rfl k) ?_
        refine .go (fun _ k => XS.iload X24.here hx rfl (hb hby at_146) rfl k) ?_
        refine .go (fun _ k => XS.iload X24.here hx rfl (hb hby at_148) rfl k) ?_
        refine .go (fun _ k => XS.iload X24.here hx rfl (hb hby at_150) rfl k) ?_
        obtain ⟨v25, T25, L25, X25, hS25, hZ25, hown25, RC25, q25, st25⟩ := callStH X24 hx hZ (y := (⟨"com/example/muster/muster/campaign/TextOrderComparePinLaw", "str", "(CCCI)Ljava/lang/String;"⟩ : MethodName)) hown (hw _ w_7) (hw _ w_8) (hw _ w_2) (hw _ w_9) (by decide) (W := 0) (rmS l Z a0 hw n0 h24 O24 (p4 &&& (3 : Int32)) r11 r12 r13 (and3 _) hr11 hr12 hr13 cs S_cs hcs S_as S_hb S_lb) e24 hS hk24 hEL RR24.1 (by decide) (by decide) (by decide) (by decide) (g := (mkF m 152 #[.val (.long p0), .second, vi p1, .val (.long p2), .second, vi p3, vi p4, vi (p4 &&& (3 : Int32)), vi ((XT.ushr p4 (2 : Int32)) &&& (3 : Int32)), vi r11, vi r12, vi r13, vi q1, vi q2, vi q3, vr a17, vr a21, .unset, .unset, .unset, .unset] [(.int (p4 &&& (3 : Int32))), (.int r13), (.int r12), (.int r11)])) rfl (by rw [hml]; rfl) (argsL := [(.int r11), (.int r12), (.int r13), (.int (p4 &&& (3 : Int32)))]) (rest := []) (lenOf pd_oCCCIcLjava_lang_String_ rfl) rfl (wk rfl rfl) (hb hby at_152)
        obtain ⟨s25, rfl, Nq25, Kq25, G25⟩ := q25
        have N25 := Fr.app N24 Nq25
        have O25 := O24.keep Kq25 all0
        have RR25 := RR24.trans RC25
        refine Fin.go st25 ?_
        show Fin _ _ _ _ _ _ _ _ T25 (mkF m 155 #[.val (.long p0), .second, vi p1, .val (.long p2), .second, vi p3, vi p4, vi (p4 &&& (3 : Int32)), vi ((XT.ushr p4 (2 : Int32)) &&& (3 : Int32)), vi r11, vi r12, vi r13, vi q1, vi q2, vi q3, vr a17, vr a21, .unset, .unset, .unset, .unset] [(.ref s25)])
        refine .go (fun _ k => XS.astore X25.here hx rfl (hb hby at_155) rfl rfl (l' := #[.val (.long p0), .second, vi p1, .val (.long p2), .second, vi p3, vi p4, vi (p4 &&& (3 : Int32)), vi ((XT.ushr p4 (2 : Int32)) &&& (3 : Int32)), vi r11, vi r12, vi r13, vi q1, vi q2, vi q3, vr a17, vr a21, vr s25, .unset, .unset, .unset]) rfl k) ?_
        refine .go (fun _ k => XS.iload X25.here hx rfl (hb hby at_157) rfl k) ?_
        refine .go (fun _ k => XS.iload X25.here hx rfl (hb hby at_159) rfl k) ?_
        refine .go (fun _ k => XS.iload X25.here hx rfl (hb hby at_161) rfl k) ?_
        refine .go (fun _ k => XS.iload X25.here hx rfl (hb hby at_163) rfl k) ?_
        obtain ⟨v26, T26, L26, X26, hS26, hZ26, hown26, RC26, q26, st26⟩ := callStH X25 hx hZ25 (y := (⟨"com/example/muster/muster/campaign/TextOrderComparePinLaw", "str", "(CCCI)Ljava/lang/String;"⟩ : MethodName)) hown25 (hw _ w_7) (hw _ w_8) (hw _ w_2) (hw _ w_9) (by decide) (W := 0) (rmS l Z a0 hw n0 T25.heap O25 ((XT.ushr p4 (2 : Int32)) &&& (3 : Int32)) q1 q2 q3 (and3 _) hq1 hq2 hq3 cs S_cs hcs S_as S_hb S_lb) (rfl : T25.heap = T25.heap) hS25 (Nat.le_refl T25.heap.size) hEL RR25.1 (by decide) (by decide) (by decide) (by decide) (g := (mkF m 165 #[.val (.long p0), .second, vi p1, .val (.long p2), .second, vi p3, vi p4, vi (p4 &&& (3 : Int32)), vi ((XT.ushr p4 (2 : Int32)) &&& (3 : Int32)), vi r11, vi r12, vi r13, vi q1, vi q2, vi q3, vr a17, vr a21, vr s25, .unset, .unset, .unset] [(.int ((XT.ushr p4 (2 : Int32)) &&& (3 : Int32))), (.int q3), (.int q2), (.int q1)])) rfl (by rw [hml]; rfl) (argsL := [(.int q1), (.int q2), (.int q3), (.int ((XT.ushr p4 (2 : Int32)) &&& (3 : Int32)))]) (rest := []) (lenOf pd_oCCCIcLjava_lang_String_ rfl) rfl (wk rfl rfl) (hb hby at_165)
        obtain ⟨s26, rfl, Nq26, Kq26, G26⟩ := q26
        have N26 := Fr.app N25 Nq26
        have O26 := O25.keep Kq26 all0
        have RR26 := RR25.trans RC26
        refine Fin.go st26 ?_
        show Fin _ _ _ _ _ _ _ _ T26 (mkF m 168 #[.val (.long p0), .second, vi p1, .val (.long p2), .second, vi p3, vi p4, vi (p4 &&& (3 : Int32)), vi ((XT.ushr p4 (2 : Int32)) &&& (3 : Int32)), vi r11, vi r12, vi r13, vi q1, vi q2, vi q3, vr a17, vr a21, vr s25, .unset, .unset, .unset] [(.ref s26)])
        refine .go (fun _ k => XS.astore X26.here hx rfl (hb hby at_168) rfl rfl (l' := #[.val (.long p0), .second, vi p1, .val (.long p2), .second, vi p3, vi p4, vi (p4 &&& (3 : Int32)), vi ((XT.ushr p4 (2 : Int32)) &&& (3 : Int32)), vi r11, vi r12, vi r13, vi q1, vi q2, vi q3, vr a17, vr a21, vr s25, vr s26, .unset, .unset]) rfl k) ?_
        refine .go (fun _ k => XS.aload X26.here hx rfl (hb hby at_170) rfl rfl k) ?_
        refine .go (fun _ k => XS.aload X26.here hx rfl (hb hby at_172) rfl rfl k) ?_
        obtain ⟨v27, T27, L27, X27, q27, st27⟩ := callSt X26 hx hZ26 hown26 (hw _ w_42) (hw _ w_43) (hw _ w_44) (hw _ w_45) (by decide) (W := 0) (rmCmp l Z a0 hw n0 T26.heap O26 s25 s26 (p4 &&& (3 : Int32)) r11 r12 r13 ((XT.ushr p4 (2 : Int32)) &&& (3 : Int32)) q1 q2 q3 T25.heap.size T26.heap.size (G25.keep Kq26 all0) G26 hr11 hr12 hr13 hq1 hq2 hq3 (and3 _) cs S_cs hcs S_as S_hb S_lb fm hfm S_fm) (rfl : T26.heap = T26.heap) (by decide) (by decide) (by decide) (by decide) (g := (mkF m 174 #[.val (.long p0), .second, vi p1, .val (.long p2), .second, vi p3, vi p4, vi (p4 &&& (3 : Int32)), vi ((XT.ushr p4 (2 : Int32)) &&& (3 : Int32)), vi r11, vi r12, vi r13, vi q1, vi q2, vi q3, vr a17, vr a21, vr s25, vr s26, .unset, .unset] [(.ref s26), (.ref s25)])) rfl (by rw [hml]; rfl) (argsL := [(.ref s25), (.ref s26)]) (rest := []) (lenOf pd_oLjava_lang_String_Ljava_lang_String_cI rfl) rfl (wk rfl rfl) (hb hby at_174)
        obtain ⟨rfl, e27, rfl⟩ := q27
        have N27 := Fr.app N26 (Fr.nil n0)
        refine Fin.go st27 ?_
        show Fin _ _ _ _ _ _ _ _ T27 (mkF m 177 #[.val (.long p0), .second, vi p1, .val (.long p2), .second, vi p3, vi p4, vi (p4 &&& (3 : Int32)), vi ((XT.ushr p4 (2 : Int32)) &&& (3 : Int32)), vi r11, vi r12, vi r13, vi q1, vi q2, vi q3, vr a17, vr a21, vr s25, vr s26, .unset, .unset] [(.int (H0 (p4 &&& (3 : Int32)) r11 r12 r13 ((XT.ushr p4 (2 : Int32)) &&& (3 : Int32)) q1 q2 q3))])
        refine .go (fun _ k => XS.istore X27.here hx rfl (hb hby at_177) rfl (l' := #[.val (.long p0), .second, vi p1, .val (.long p2), .second, vi p3, vi p4, vi (p4 &&& (3 : Int32)), vi ((XT.ushr p4 (2 : Int32)) &&& (3 : Int32)), vi r11, vi r12, vi r13, vi q1, vi q2, vi q3, vr a17, vr a21, vr s25, vr s26, vi (H0 (p4 &&& (3 : Int32)) r11 r12 r13 ((XT.ushr p4 (2 : Int32)) &&& (3 : Int32)) q1 q2 q3), .unset]) rfl k) ?_
        refine .go (fun _ k => XS.aload X27.here hx rfl (hb hby at_179) rfl rfl k) ?_
        refine .go (fun _ k => XS.iload X27.here hx rfl (hb hby at_181) rfl k) ?_
        refine .go (fun _ k => XS.aload X27.here hx rfl (hb hby at_183) rfl rfl k) ?_
        refine .go (fun _ k => XS.iload X27.here hx rfl (hb hby at_185) rfl k) ?_
        obtain ⟨v28, T28, L28, X28, q28, st28⟩ := callSt X27 hx hZ26 hown26 (hw _ w_60) (hw _ w_61) (hw _ w_2) (hw _ w_62) (by decide) (W := 0) (rmRef l Z a0 hw n0 T26.heap O26 a17 a21 k17 k21 (p4 &&& (3 : Int32)) r11 r12 r13 ((XT.ushr p4 (2 : Int32)) &&& (3 : Int32)) q1 q2 q3 ((V24_a17.keep Kq25 nin0).keep Kq26 nin0) ((V24.keep Kq25 nin0).keep Kq26 nin0) (and3 _) (and3 _)) e27 (by decide) (by decide) (by decide) (by decide) (g := (mkF m 187 #[.val (.long p0), .second, vi p1, .val (.long p2), .second, vi p3, vi p4, vi (p4 &&& (3 : Int32)), vi ((XT.ushr p4 (2 : Int32)) &&& (3 : Int32)), vi r11, vi r12, vi r13, vi q1, vi q2, vi q3, vr a17, vr a21, vr s25, vr s26, vi (H0 (p4 &&& (3 : Int32)) r11 r12 r13 ((XT.ushr p4 (2 : Int32)) &&& (3 : Int32)) q1 q2 q3), .unset] [(.int ((XT.ushr p4 (2 : Int32)) &&& (3 : Int32))), (.ref a21), (.int (p4 &&& (3 : Int32))), (.ref a17)])) rfl (by rw [hml]; rfl) (argsL := [(.ref a17), (.int (p4 &&& (3 : Int32))), (.ref a21), (.int ((XT.ushr p4 (2 : Int32)) &&& (3 : Int32)))]) (rest := []) (lenOf pd_oACIACIcI rfl) rfl (wk rfl rfl) (hb hby at_187)
        obtain ⟨rfl, e28, rfl⟩ := q28
        have N28 := Fr.app N27 (Fr.nil n0)
        refine Fin.go st28 ?_
        show Fin _ _ _ _ _ _ _ _ T28 (mkF m 190 #[.val (.long p0), .second, vi p1, .val (.long p2), .second, vi p3, vi p4, vi (p4 &&& (3 : Int32)), vi ((XT.ushr p4 (2 : Int32)) &&& (3 : Int32)), vi r11, vi r12, vi r13, vi q1, vi q2, vi q3, vr a17, vr a21, vr s25, vr s26, vi (H0 (p4 &&& (3 : Int32)) r11 r12 r13 ((XT.ushr p4 (2 : Int32)) &&& (3 : Int32)) q1 q2 q3), .unset] [(.int (refF (p4 &&& (3 : Int32)) r11 r12 r13 ((XT.ushr p4 (2 : Int32)) &&& (3 : Int32)) q1 q2 q3))])
        refine .go (fun _ k => XS.istore X28.here hx rfl (hb hby at_190) rfl (l' := #[.val (.long p0), .second, vi p1, .val (.long p2), .second, vi p3, vi p4, vi (p4 &&& (3 : Int32)), vi ((XT.ushr p4 (2 : Int32)) &&& (3 : Int32)), vi r11, vi r12, vi r13, vi q1, vi q2, vi q3, vr a17, vr a21, vr s25, vr s26, vi (H0 (p4 &&& (3 : Int32)) r11 r12 r13 ((XT.ushr p4 (2 : Int32)) &&& (3 : Int32)) q1 q2 q3), vi (refF (p4 &&& (3 : Int32)) r11 r12 r13 ((XT.ushr p4 (2 : Int32)) &&& (3 : Int32)) q1 q2 q3)]) rfl k) ?_
        refine .go (fun _ k => XS.iload X28.here hx rfl (hb hby at_192) rfl k) ?_
        obtain ⟨v29, T29, L29, X29, q29, st29⟩ := callSt X28 hx hZ26 hown26 (hw _ w_79) (hw _ w_80) (hw _ w_2) (hw _ w_81) (by decide) (W := 0) (rmSg l Z a0 hw n0 T26.heap O26 (H0 (p4 &&& (3 : Int32)) r11 r12 r13 ((XT.ushr p4 (2 : Int32)) &&& (3 : Int32)) q1 q2 q3)) e28 (by decide) (by decide) (by decide) (by decide) (g := (mkF m 194 #[.val (.long p0), .second, vi p1, .val (.long p2), .second, vi p3, vi p4, vi (p4 &&& (3 : Int32)), vi ((XT.ushr p4 (2 : Int32)) &&& (3 : Int32)), vi r11, vi r12, vi r13, vi q1, vi q2, vi q3, vr a17, vr a21, vr s25, vr s26, vi (H0 (p4 &&& (3 : Int32)) r11 r12 r13 ((XT.ushr p4 (2 : Int32)) &&& (3 : Int32)) q1 q2 q3), vi (refF (p4 &&& (3 : Int32)) r11 r12 r13 ((XT.ushr p4 (2 : Int32)) &&& (3 : Int32)) q1 q2 q3)] [(.int (H0 (p4 &&& (3 : Int32)) r11 r12 r13 ((XT.ushr p4 (2 : Int32)) &&& (3 : Int32)) q1 q2 q3))])) rfl (by rw [hml]; rfl) (argsL := [(.int (H0 (p4 &&& (3 : Int32)) r11 r12 r13 ((XT.ushr p4 (2 : Int32)) &&& (3 : Int32)) q1 q2 q3))]) (rest := []) (lenOf pd_oIcI rfl) rfl (wk rfl rfl) (hb hby at_194)
        obtain ⟨rfl, e29, rfl⟩ := q29
        have N29 := Fr.app N28 (Fr.nil n0)
        refine Fin.go st29 ?_
        show Fin _ _ _ _ _ _ _ _ T29 (mkF m 197 #[.val (.long p0), .second, vi p1, .val (.long p2), .second, vi p3, vi p4, vi (p4 &&& (3 : Int32)), vi ((XT.ushr p4 (2 : Int32)) &&& (3 : Int32)), vi r11, vi r12, vi r13, vi q1, vi q2, vi q3, vr a17, vr a21, vr s25, vr s26, vi (H0 (p4 &&& (3 : Int32)) r11 r12 r13 ((XT.ushr p4 (2 : Int32)) &&& (3 : Int32)) q1 q2 q3), vi (refF (p4 &&& (3 : Int32)) r11 r12 r13 ((XT.ushr p4 (2 : Int32)) &&& (3 : Int32)) q1 q2 q3)] [(.int (sgF (H0 (p4 &&& (3 : Int32)) r11 r12 r13 ((XT.ushr p4 (2 : Int32)) &&& (3 : Int32)) q1 q2 q3)))])
        refine .go (fun _ k => XS.iload X29.here hx rfl (hb hby at_197) rfl k) ?_
        refine .go (fun _ k => XS.icmpNo X29.here hx rfl (hb hby at_199) rfl (XT.ii_ne_f (lawEq (and3 _) (and3 _) hr11 hr12 hr13 hq1 hq2 hq3)) k) ?_
        show Fin _ _ _ _ _ _ _ _ T29 (mkF m 202 #[.val (.long p0), .second, vi p1, .val (.long p2), .second, vi p3, vi p4, vi (p4 &&& (3 : Int32)), vi ((XT.ushr p4 (2 : Int32)) &&& (3 : Int32)), vi r11, vi r12, vi r13, vi q1, vi q2, vi q3, vr a17, vr a21, vr s25, vr s26, vi (H0 (p4 &&& (3 : Int32)) r11 r12 r13 ((XT.ushr p4 (2 : Int32)) &&& (3 : Int32)) q1 q2 q3), vi (refF (p4 &&& (3 : Int32)) r11 r12 r13 ((XT.ushr p4 (2 : Int32)) &&& (3 : Int32)) q1 q2 q3)] [])
        refine .go (fun _ k => XS.iconst X29.here hx rfl (hb hby at_202) k) ?_
        refine .go (fun _ k => XS.goto X29.here hx rfl (pc0 := 203) (pc' := 207) rfl (hb hby at_203) (by decide) (by decide) k) ?_
        exact Fin.leaveH X29 hS26 (Nat.le_refl T26.heap.size) hZ26 hEL e29 RR26 hlk (v := some (.int (nar .boolean (1 : Int32)))) (nvS hret) (by decide) (by decide) ⟨rfl, N29⟩ (fun fs hr => retN X29 hx (t := .boolean) hret (by simp) (hb hby at_207) hr)
      show Fin _ _ _ _ _ _ _ _ Tt15 (mkF m 82 #[.val (.long p0), .second, vi p1, .val (.long p2), .second, vi p3, vi p4, vi (p4 &&& (3 : Int32)), vi ((XT.ushr p4 (2 : Int32)) &&& (3 : Int32)), vi r11, vi r12, vi r13, vi q1, vi q2, .unset, .unset, .unset, .unset, .unset, .unset, .unset] [])
      refine .go (fun _ k => XS.iload Xt15.here hx rfl (hb hby at_82) rfl k) ?_
      refine .go (fun _ k => XS.bipush Xt15.here hx rfl (hb hby at_84) k) ?_
      refine .go (fun _ k => XT.iushr Xt15.here hx rfl (hb hby at_86) rfl k) ?_
      refine .go (fun _ k => XS.iconst Xt15.here hx rfl (hb hby at_87) k) ?_
      refine .go (fun _ k => XS.iand Xt15.here hx rfl (hb hby at_88) rfl k) ?_
      by_cases c89 : ((XT.ushr p4 (6 : Int32)) &&& (1 : Int32)) = 0
      · refine .go (fun _ k => XS.ifYes Xt15.here hx rfl (pc0 := 89) (pc' := 97) rfl (hb hby at_89) rfl (XT.i0_eq_t c89) (by decide) (by decide) k) ?_
        show Fin _ _ _ _ _ _ _ _ Tt15 (mkF m 97 #[.val (.long p0), .second, vi p1, .val (.long p2), .second, vi p3, vi p4, vi (p4 &&& (3 : Int32)), vi ((XT.ushr p4 (2 : Int32)) &&& (3 : Int32)), vi r11, vi r12, vi r13, vi q1, vi q2, .unset, .unset, .unset, .unset, .unset, .unset, .unset] [])
        refine .go (fun _ k => XS.iload Xt15.here hx rfl (hb hby at_97) rfl k) ?_
        obtain ⟨v30, T30, L30, X30, q30, st30⟩ := callSt Xt15 hx hZ hown (hw _ w_0) (hw _ w_1) (hw _ w_2) (hw _ w_3) (by decide) (W := 0) (rmMk l Z a0 hw n0 h0 O p3) et15 (by decide) (by decide) (by decide) (by decide) (g := (mkF m 99 #[.val (.long p0), .second, vi p1, .val (.long p2), .second, vi p3, vi p4, vi (p4 &&& (3 : Int32)), vi ((XT.ushr p4 (2 : Int32)) &&& (3 : Int32)), vi r11, vi r12, vi r13, vi q1, vi q2, .unset, .unset, .unset, .unset, .unset, .unset, .unset] [(.int p3)])) rfl (by rw [hml]; rfl) (argsL := [(.int p3)]) (rest := []) (lenOf pd_oIcC rfl) rfl (wk rfl rfl) (hb hby at_99)
        obtain ⟨r30, rfl, e30, rfl, hr30⟩ := q30
        have N30 := Fr.app N0 (Fr.nil n0)
        refine Fin.go st30 ?_
        show Fin _ _ _ _ _ _ _ _ T30 (mkF m 102 #[.val (.long p0), .second, vi p1, .val (.long p2), .second, vi p3, vi p4, vi (p4 &&& (3 : Int32)), vi ((XT.ushr p4 (2 : Int32)) &&& (3 : Int32)), vi r11, vi r12, vi r13, vi q1, vi q2, .unset, .unset, .unset, .unset, .unset, .unset, .unset] [(.int r30)])
        exact tailq3 T30 X30 e30 r30 hr30
      · refine .go (fun _ k => XS.ifNo Xt15.here hx rfl (hb hby at_89) rfl (XT.i0_eq_f c89) k) ?_
        show Fin _ _ _ _ _ _ _ _ Tt15 (mkF m 92 #[.val (.long p0), .second, vi p1, .val (.long p2), .second, vi p3, vi p4, vi (p4 &&& (3 : Int32)), vi ((XT.ushr p4 (2 : Int32)) &&& (3 : Int32)), vi r11, vi r12, vi r13, vi q1, vi q2, .unset, .unset, .unset, .unset, .unset, .unset, .unset] [])
        refine .go (fun _ k => XS.iload Xt15.here hx rfl (hb hby at_92) rfl k) ?_
        refine .go (fun _ k => XS.goto Xt15.here hx rfl (pc0 := 94) (pc' := 102) rfl (hb hby at_94) (by decide) (by decide) k) ?_
        show Fin _ _ _ _ _ _ _ _ Tt15 (mkF m 102 #[.val (.long p0), .second, vi p1, .val (.long p2), .second, vi p3, vi p4, vi (p4 &&& (3 : Int32)), vi ((XT.ushr p4 (2 : Int32)) &&& (3 : Int32)), vi r11, vi r12, vi r13, vi q1, vi q2, .unset, .unset, .unset, .unset, .unset, .unset, .unset] [(.int r13)])
        exact tailq3 Tt15 Xt15 et15 r13 hr13
    show Fin _ _ _ _ _ _ _ _ Tt14 (mkF m 58 #[.val (.long p0), .second, vi p1, .val (.long p2), .second, vi p3, vi p4, vi (p4 &&& (3 : Int32)), vi ((XT.ushr p4 (2 : Int32)) &&& (3 : Int32)), vi r11, vi r12, vi r13, vi q1, .unset, .unset, .unset, .unset, .unset, .unset, .unset, .unset] [])
    refine .go (fun _ k => XS.iload Xt14.here hx rfl (hb hby at_58) rfl k) ?_
    refine .go (fun _ k => XS.iconst Xt14.here hx rfl (hb hby at_60) k) ?_
    refine .go (fun _ k => XT.iushr Xt14.here hx rfl (hb hby at_61) rfl k) ?_
    refine .go (fun _ k => XS.iconst Xt14.here hx rfl (hb hby at_62) k) ?_
    refine .go (fun _ k => XS.iand Xt14.here hx rfl (hb hby at_63) rfl k) ?_
    by_cases c64 : ((XT.ushr p4 (5 : Int32)) &&& (1 : Int32)) = 0
    · refine .go (fun _ k => XS.ifYes Xt14.here hx rfl (pc0 := 64) (pc' := 72) rfl (hb hby at_64) rfl (XT.i0_eq_t c64) (by decide) (by decide) k) ?_
      show Fin _ _ _ _ _ _ _ _ Tt14 (mkF m 72 #[.val (.long p0), .second, vi p1, .val (.long p2), .second, vi p3, vi p4, vi (p4 &&& (3 : Int32)), vi ((XT.ushr p4 (2 : Int32)) &&& (3 : Int32)), vi r11, vi r12, vi r13, vi q1, .unset, .unset, .unset, .unset, .unset, .unset, .unset, .unset] [])
      refine .go (fun _ k => XT.lloadN Xt14.here hx rfl (hb hby at_72) rfl k) ?_
      refine .go (fun _ k => XS.bipush Xt14.here hx rfl (hb hby at_73) k) ?_
      refine .go (fun _ k => XT.lushr Xt14.here hx rfl (hb hby at_75) rfl k) ?_
      refine .go (fun _ k => XT.l2i Xt14.here hx rfl (hb hby at_76) rfl k) ?_
      obtain ⟨v31, T31, L31, X31, q31, st31⟩ := callSt Xt14 hx hZ hown (hw _ w_0) (hw _ w_1) (hw _ w_2) (hw _ w_3) (by decide) (W := 0) (rmMk l Z a0 hw n0 h0 O (Int64.toInt32 (XT.ushrL p2 (32 : Int32)))) et14 (by decide) (by decide) (by decide) (by decide) (g := (mkF m 77 #[.val (.long p0), .second, vi p1, .val (.long p2), .second, vi p3, vi p4, vi (p4 &&& (3 : Int32)), vi ((XT.ushr p4 (2 : Int32)) &&& (3 : Int32)), vi r11, vi r12, vi r13, vi q1, .unset, .unset, .unset, .unset, .unset, .unset, .unset, .unset] [(.int (Int64.toInt32 (XT.ushrL p2 (32 : Int32))))])) rfl (by rw [hml]; rfl) (argsL := [(.int (Int64.toInt32 (XT.ushrL p2 (32 : Int32))))]) (rest := []) (lenOf pd_oIcC rfl) rfl (wk rfl rfl) (hb hby at_77)
      obtain ⟨r31, rfl, e31, rfl, hr31⟩ := q31
      have N31 := Fr.app N0 (Fr.nil n0)
      refine Fin.go st31 ?_
      show Fin _ _ _ _ _ _ _ _ T31 (mkF m 80 #[.val (.long p0), .second, vi p1, .val (.long p2), .second, vi p3, vi p4, vi (p4 &&& (3 : Int32)), vi ((XT.ushr p4 (2 : Int32)) &&& (3 : Int32)), vi r11, vi r12, vi r13, vi q1, .unset, .unset, .unset, .unset, .unset, .unset, .unset, .unset] [(.int r31)])
      exact tailq2 T31 X31 e31 r31 hr31
    · refine .go (fun _ k => XS.ifNo Xt14.here hx rfl (hb hby at_64) rfl (XT.i0_eq_f c64) k) ?_
      show Fin _ _ _ _ _ _ _ _ Tt14 (mkF m 67 #[.val (.long p0), .second, vi p1, .val (.long p2), .second, vi p3, vi p4, vi (p4 &&& (3 : Int32)), vi ((XT.ushr p4 (2 : Int32)) &&& (3 : Int32)), vi r11, vi r12, vi r13, vi q1, .unset, .unset, .unset, .unset, .unset, .unset, .unset, .unset] [])
      refine .go (fun _ k => XS.iload Xt14.here hx rfl (hb hby at_67) rfl k) ?_
      refine .go (fun _ k => XS.goto Xt14.here hx rfl (pc0 := 69) (pc' := 80) rfl (hb hby at_69) (by decide) (by decide) k) ?_
      show Fin _ _ _ _ _ _ _ _ Tt14 (mkF m 80 #[.val (.long p0), .second, vi p1, .val (.long p2), .second, vi p3, vi p4, vi (p4 &&& (3 : Int32)), vi ((XT.ushr p4 (2 : Int32)) &&& (3 : Int32)), vi r11, vi r12, vi r13, vi q1, .unset, .unset, .unset, .unset, .unset, .unset, .unset, .unset] [(.int r12)])
      exact tailq2 Tt14 Xt14 et14 r12 hr12
  show Fin _ _ _ _ _ _ _ _ T13 (mkF m 37 #[.val (.long p0), .second, vi p1, .val (.long p2), .second, vi p3, vi p4, vi (p4 &&& (3 : Int32)), vi ((XT.ushr p4 (2 : Int32)) &&& (3 : Int32)), vi r11, vi r12, vi r13, .unset, .unset, .unset, .unset, .unset, .unset, .unset, .unset, .unset] [])
  refine .go (fun _ k => XS.iload X13.here hx rfl (hb hby at_37) rfl k) ?_
  refine .go (fun _ k => XS.iconst X13.here hx rfl (hb hby at_39) k) ?_
  refine .go (fun _ k => XT.iushr X13.here hx rfl (hb hby at_40) rfl k) ?_
  refine .go (fun _ k => XS.iconst X13.here hx rfl (hb hby at_41) k) ?_
  refine .go (fun _ k => XS.iand X13.here hx rfl (hb hby at_42) rfl k) ?_
  by_cases c43 : ((XT.ushr p4 (4 : Int32)) &&& (1 : Int32)) = 0
  · refine .go (fun _ k => XS.ifYes X13.here hx rfl (pc0 := 43) (pc' := 51) rfl (hb hby at_43) rfl (XT.i0_eq_t c43) (by decide) (by decide) k) ?_
    show Fin _ _ _ _ _ _ _ _ T13 (mkF m 51 #[.val (.long p0), .second, vi p1, .val (.long p2), .second, vi p3, vi p4, vi (p4 &&& (3 : Int32)), vi ((XT.ushr p4 (2 : Int32)) &&& (3 : Int32)), vi r11, vi r12, vi r13, .unset, .unset, .unset, .unset, .unset, .unset, .unset, .unset, .unset] [])
    refine .go (fun _ k => XT.lloadN X13.here hx rfl (hb hby at_51) rfl k) ?_
    refine .go (fun _ k => XT.l2i X13.here hx rfl (hb hby at_52) rfl k) ?_
    obtain ⟨v32, T32, L32, X32, q32, st32⟩ := callSt X13 hx hZ hown (hw _ w_0) (hw _ w_1) (hw _ w_2) (hw _ w_3) (by decide) (W := 0) (rmMk l Z a0 hw n0 h0 O (Int64.toInt32 p2)) e13 (by decide) (by decide) (by decide) (by decide) (g := (mkF m 53 #[.val (.long p0), .second, vi p1, .val (.long p2), .second, vi p3, vi p4, vi (p4 &&& (3 : Int32)), vi ((XT.ushr p4 (2 : Int32)) &&& (3 : Int32)), vi r11, vi r12, vi r13, .unset, .unset, .unset, .unset, .unset, .unset, .unset, .unset, .unset] [(.int (Int64.toInt32 p2))])) rfl (by rw [hml]; rfl) (argsL := [(.int (Int64.toInt32 p2))]) (rest := []) (lenOf pd_oIcC rfl) rfl (wk rfl rfl) (hb hby at_53)
    obtain ⟨r32, rfl, e32, rfl, hr32⟩ := q32
    have N32 := Fr.app N13 (Fr.nil n0)
    refine Fin.go st32 ?_
    show Fin _ _ _ _ _ _ _ _ T32 (mkF m 56 #[.val (.long p0), .second, vi p1, .val (.long p2), .second, vi p3, vi p4, vi (p4 &&& (3 : Int32)), vi ((XT.ushr p4 (2 : Int32)) &&& (3 : Int32)), vi r11, vi r12, vi r13, .unset, .unset, .unset, .unset, .unset, .unset, .unset, .unset, .unset] [(.int r32)])
    exact tailq1 T32 X32 e32 r32 hr32
  · refine .go (fun _ k => XS.ifNo X13.here hx rfl (hb hby at_43) rfl (XT.i0_eq_f c43) k) ?_
    show Fin _ _ _ _ _ _ _ _ T13 (mkF m 46 #[.val (.long p0), .second, vi p1, .val (.long p2), .second, vi p3, vi p4, vi (p4 &&& (3 : Int32)), vi ((XT.ushr p4 (2 : Int32)) &&& (3 : Int32)), vi r11, vi r12, vi r13, .unset, .unset, .unset, .unset, .unset, .unset, .unset, .unset, .unset] [])
    refine .go (fun _ k => XS.iload X13.here hx rfl (hb hby at_46) rfl k) ?_
    refine .go (fun _ k => XS.goto X13.here hx rfl (pc0 := 48) (pc' := 56) rfl (hb hby at_48) (by decide) (by decide) k) ?_
    show Fin _ _ _ _ _ _ _ _ T13 (mkF m 56 #[.val (.long p0), .second, vi p1, .val (.long p2), .second, vi p3, vi p4, vi (p4 &&& (3 : Int32)), vi ((XT.ushr p4 (2 : Int32)) &&& (3 : Int32)), vi r11, vi r12, vi r13, .unset, .unset, .unset, .unset, .unset, .unset, .unset, .unset, .unset] [(.int r11)])
    exact tailq1 T13 X13 e13 r11 hr11
theorem isR_v {args : Array Value} {s : State} {t : Term} (h : (Jvm.Cond.isRef t).value args s none s [] = some true) : ∃ v, t.eval args s none [] s = some v ∧ v.isRef = true := by
  cases q : t.eval args s none [] s with
  | none => simp [Cond.value, q] at h
  | some v => exact ⟨v, rfl, by cases v <;> simp_all [Cond.value, Value.isRef]⟩
set_option maxRecDepth 65536 in
set_option maxHeartbeats 40000000 in
theorem comes_1 {Post : Tables → Env → Array Value → State → Outcome → State → Prop} (hpost : ∀ tb e args s v u, (limb_1_1.after args s (.returned v) u = true ∧ limb_1_2.after args s (.returned v) u = true ∧ True) → ReturnedEndW s (.returned v) u (Jvm.fieldLocs frame_1_writes args s ++ Jvm.arrayLocs frame_1_arrays args s ++ Jvm.staticLocs frame_1_statics s) 32 1216 → Post tb e args s (.returned v) u) :
    ArmFor flags0 classFile x code maxLocals ret World_1 tables_1 room_1 Calls_1 rest_1 Pre_1 Post := by
  intro l hfl _ _ p e ha hc hk s m args below hf hA hF happ hP
  obtain ⟨hcalls, hrest, hpre⟩ := hP
  obtain ⟨-, -, -, hnamed, -, -, -, hat⟩ := (Spec.applies_iff hf).mp happ
  obtain ⟨hg, hn⟩ := and_e (Cond.before_iff.mp (show (Jvm.Cond.and given_1 narrow_1).before args s = true from hpre))
  obtain ⟨hcnt, hg⟩ := and_e hg
  obtain ⟨u0, u1, u2, u3, u4, rfl⟩ : ∃ u0 u1 u2 u3 u4 : Value, args = #[u0, u1, u2, u3, u4] := by
    have hs : args.size = 5 := by simpa [Cond.value, given_1] using hcnt
    obtain ⟨L⟩ := args
    match L, hs with
    | [u0, u1, u2, u3, u4], _ => exact ⟨u0, u1, u2, u3, u4, rfl⟩
  have hw := fun d (hd : d ∈ tables_1) => atoms_spec (ws := Jvm.Cond.code x code maxLocals ret :: tables_1) hat d (List.mem_cons_of_mem _ hd)
  have hfit : Fit s := fun {y c} hc i hi => by
    obtain ⟨ha, rfl⟩ := Array.getElem?_eq_some_iff.mp hc
    have q := List.all_eq_true.mp ((Array.all_eq_true_iff_forall_mem.mp hF) _ (Array.getElem_mem ha)) i (List.mem_range.mpr hi)
    simpa [Array.getElem?_eq_getElem hi] using q
  obtain ⟨g0, hg⟩ := and_e hg
  obtain ⟨i0, ei0⟩ := isL_v g0
  obtain rfl : u0 = (.long i0) := Option.some.inj ei0
  obtain ⟨g1, hg⟩ := and_e hg
  obtain ⟨i1, ei1⟩ := is_v g1
  obtain rfl : u1 = (.int i1) := Option.some.inj ei1
  obtain ⟨g2, hg⟩ := and_e hg
  obtain ⟨i2, ei2⟩ := isL_v g2
  obtain rfl : u2 = (.long i2) := Option.some.inj ei2
  obtain ⟨g3, hg⟩ := and_e hg
  obtain ⟨i3, ei3⟩ := is_v g3
  obtain rfl : u3 = (.int i3) := Option.some.inj ei3
  have g4 := hg
  obtain ⟨i4, ei4⟩ := is_v g4
  obtain rfl : u4 = (.int i4) := Option.some.inj ei4
  have hsets := fun (i : Nat) {w : Jvm.Cond} (h : jdkStatics_1[i]? = some w) => (atoms_of _ (rest_1_c_eq ▸ (show rest_1_c.before _ s = true from hrest))).1 w (List.mem_of_getElem? h)
  have hci := Cond.before_iff.mp (hsets 1 rfl)
  obtain ⟨cs, ecs⟩ := is_v hci
  have S_cs := Sta.start ecs (Or.inl (hsets 0 rfl))
  have hcs : ¬ cs = 0 := gotF (Cond.eq_ints ecs (Term.int_eval 0)) (not_v (Cond.before_iff.mp (hsets 2 rfl)))
  have hheld : ∀ p ∈ EL, Jvm.Lit.constHeld s p.1 p.2 := fun p hp => hcalls.1 p ((by decide : ∀ p ∈ EL, p ∈ consts_1) p hp)
  have hCH : CHv s EL s.vm s.heap := CHv.start (elW hw) hheld (hsets 2 rfl) (hw _ w_28) (hw _ w_11)
  have S_as := Sta.start (show (Jvm.Term.static "java/lang/StringUTF16" "$assertionsDisabled" "Z").eval _ s none [] s = some (.int (1 : Int32)) from eqv_i (F := .int (1 : Int32)) rfl (Cond.before_iff.mp (hsets 12 rfl))) (Or.inl (hsets 11 rfl))
  have S_hb := Sta.start (show (Jvm.Term.static "java/lang/StringUTF16" "HI_BYTE_SHIFT" "I").eval _ s none [] s = some (.int (0 : Int32)) from eqv_i (F := .int (0 : Int32)) rfl (Cond.before_iff.mp (hsets 15 rfl))) (Or.inl (hsets 14 rfl))
  have S_lb := Sta.start (show (Jvm.Term.static "java/lang/StringUTF16" "LO_BYTE_SHIFT" "I").eval _ s none [] s = some (.int (8 : Int32)) from eqv_i (F := .int (8 : Int32)) rfl (Cond.before_iff.mp (hsets 18 rfl))) (Or.inl (hsets 17 rfl))
  obtain ⟨fm, efm, hfm⟩ := isR_v (Cond.before_iff.mp (hsets 8 rfl))
  have S_fm := Sta.start efm (Or.inl (hsets 7 rfl))
  obtain ⟨n, o, h1, h2, h3, _, L, rfl, ⟨rfl, N⟩, -, hq⟩ := law l s _ hw s.heap.size s.heap (Old.start s) i0 i1 i2 i3 i4 cs S_cs hcs S_as S_hb S_lb fm hfm S_fm p e ha hc hk s m _ below hf ((Spec.applies_iff_loose hf).mp happ).1 ⟨rfl, State.Warmed39.refl s, rfl, hCH⟩ trivial
  refine ⟨n, _, h1, h2, h3, hpost _ _ _ _ _ _ ⟨Cond.after_iff.mpr rfl, Cond.after_iff.mpr (eq_i res_at (Term.int_eval (1)) rfl), trivial⟩ ⟨hq.1, hq.2.1, hq.2.2.1, (hq.2.2.2.sift fun y hy => Or.inr (N y hy)).mono (by decide) (by decide)⟩⟩
theorem main_1_1 : Claimed_1_1 := comes_1 fun _ _ _ _ _ _ h hF => ⟨h.1, hF⟩
theorem main_1_2 : Claimed_1_2 := comes_1 fun _ _ _ _ _ _ h hF => ⟨h.2.1, hF⟩
end Jvm.Pilot.@@N@@
namespace Jvm.Pilot.@@N@@
open Jvm Jvm.ClassFile Sem Op Lib Jvm.Free Jvm.Stand Jvm.Pilot.@@N@@.Jvm.D
/-! MADE BY PROGRAM (witnessworld.py) out of the Statement's table words and the real class files: 23 classes; the members and pool entries that the words name. The judged class is class 1, her method 1. -/
namespace start1
open Jvm.ClassFile
def u (s : String) : CpInfo := .utf8 (stringToUtf16 s)
/-- a pool by its gaps: so many unusable entries, then the entry; so many at the end -/
def gap : Nat → List CpInfo → List CpInfo
  | 0, r => r
  | n + 1, r => .unusable :: gap n r
def poolList (es : List (Nat × CpInfo)) (last : Nat) : List CpInfo := es.foldr (fun e r => gap e.1 (e.2 :: r)) (gap last [])
def pool (es : List (Nat × CpInfo)) (last : Nat) : Array CpInfo := ⟨poolList es last⟩
def fileOf (pool : Array CpInfo) (this : Nat) (attrs : Array Attribute := #[]) (ms : Array MethodInfo := #[]) (fl : Nat := 33) (sup : Nat := 0) (ifs : Array Nat := #[]) (fds : Array FieldInfo := #[]) : ClassFile where
  minorVersion := 0
  majorVersion := 65
  constantPool := pool
  accessFlags := fl
  thisClass := this
  superClass := sup
  interfaces := ifs
  fields := fds
  methods := ms
  attributes := attrs
def plain (name : String) (sup : Option ClassId) : Class where
  name := name
  kind := .ordinary
  loader := none
  accessFlags := 33
  super := sup
  interfaces := #[]
  cf := none
  fields := #[]
  methods := #[]
  instanceTypes := #[]
  staticTypes := #[]
  resolved := #[]
  callSites := []
  init := .initialized
  statics := none
  mirror := none

def pool0 : Array CpInfo := pool [(5, u "<init>"), (0, u "()V"), (1, .class_ 10), (1, u "java/lang/Object")] 113

def k0c0 : Code := { maxStack := 0, maxLocals := 1, code := object_method_1_code, exceptionTable := #[], attributes := #[] }
def k0m0 : Method := { name := "<init>", desc := "()V", sig := { parameters := [], returnType := none }, accessFlags := 1, code := some k0c0 }
/-- java/lang/Object -/
def k0 : Class := { plain "java/lang/Object" none with
  accessFlags := 33
  interfaces := #[]
  cf := some (fileOf pool0 8 #[] #[{ accessFlags := 1, nameIndex := 5, descriptorIndex := 6, attributes := #[] }] 33 0 #[] #[])
  fields := #[]
  methods := #[k0m0]
  instanceTypes := #[]
  staticTypes := #[]
  resolved := Array.replicate 124 none
  statics := none }

def pool1 : Array CpInfo := pool [(2, .class_ 4), (1, u "java/lang/Object"), (0, u "<init>"), (0, u "()V"), (0, .methodref 8 9), (0, .class_ 10), (0, .nameAndType 11 12), (0, u "com/example/muster/muster/campaign/TextOrderComparePinLaw"), (0, u "mk"), (0, u "(I)C"), (0, .methodref 8 14), (0, .nameAndType 15 16), (0, u "str"), (0, u "(CCCI)Ljava/lang/String;"), (0, .methodref 18 19), (0, .class_ 20), (0, .nameAndType 21 22), (0, u "com/example/muster/muster/campaign/TextOrder"), (0, u "compare"), (0, u "(Ljava/lang/String;Ljava/lang/String;)I"), (0, .methodref 8 24), (0, .nameAndType 25 26), (0, u "ref"), (0, u "([CI[CI)I"), (0, .methodref 8 28), (0, .nameAndType 29 30), (0, u "sgn"), (0, u "(I)I"), (0, .integer 55296), (0, .integer 56320), (0, .integer 65535), (0, .class_ 35), (0, u "java/lang/String"), (0, .methodref 34 37), (0, .nameAndType 5 38), (0, u "([C)V"), (0, .integer 56319), (0, .integer 57343), (0, .methodref 8 42), (0, .nameAndType 43 44), (0, u "high"), (0, u "(C)Z"), (0, .methodref 8 46), (0, .nameAndType 47 44), (0, u "low"), (0, .methodref 8 49), (0, .nameAndType 50 51), (0, u "pairAt"), (0, u "([CII)Z"), (0, .integer 65536), (0, .methodref 8 54), (0, .nameAndType 55 56), (0, u "at"), (0, u "([CII)I"), (0, .methodref 8 58), (0, .nameAndType 59 56), (0, u "wid"), (0, .methodref 8 61), (0, .nameAndType 62 63), (0, u "cmp"), (0, u "(II)I"), (2, u "law"), (0, u "(JIJII)Z")] 5

def k1m0 : Method := { name := "<init>", desc := "()V", sig := { parameters := [], returnType := none }, accessFlags := 2, code := none }
def k1c1 : Code := { maxStack := 4, maxLocals := 21, code := code, exceptionTable := #[], attributes := #[] }
def k1m1 : Method := { name := "law", desc := "(JIJII)Z", sig := { parameters := [.long, .int, .long, .int, .int], returnType := some .boolean }, accessFlags := 9, code := some k1c1 }
def k1c2 : Code := { maxStack := 3, maxLocals := 3, code := method_3_code, exceptionTable := #[], attributes := #[] }
def k1m2 : Method := { name := "mk", desc := "(I)C", sig := { parameters := [.int], returnType := some .char }, accessFlags := 10, code := some k1c2 }
def k1c3 : Code := { maxStack := 6, maxLocals := 4, code := method_4_code, exceptionTable := #[], attributes := #[] }
def k1m3 : Method := { name := "str", desc := "(CCCI)Ljava/lang/String;", sig := { parameters := [.char, .char, .char, .int], returnType := some (.object "java/lang/String") }, accessFlags := 10, code := some k1c3 }
def k1c4 : Code := { maxStack := 2, maxLocals := 1, code := method_5_code, exceptionTable := #[], attributes := #[] }
def k1m4 : Method := { name := "high", desc := "(C)Z", sig := { parameters := [.char], returnType := some .boolean }, accessFlags := 10, code := some k1c4 }
def k1c5 : Code := { maxStack := 2, maxLocals := 1, code := method_6_code, exceptionTable := #[], attributes := #[] }
def k1m5 : Method := { name := "low", desc := "(C)Z", sig := { parameters := [.char], returnType := some .boolean }, accessFlags := 10, code := some k1c5 }
def k1c6 : Code := { maxStack := 3, maxLocals := 3, code := method_7_code, exceptionTable := #[], attributes := #[] }
def k1m6 : Method := { name := "pairAt", desc := "([CII)Z", sig := { parameters := [(.array .char), .int, .int], returnType := some .boolean }, accessFlags := 10, code := some k1c6 }
def k1c7 : Code := { maxStack := 3, maxLocals := 3, code := method_8_code, exceptionTable := #[], attributes := #[] }
def k1m7 : Method := { name := "wid", desc := "([CII)I", sig := { parameters := [(.array .char), .int, .int], returnType := some .int }, accessFlags := 10, code := some k1c7 }
def k1c8 : Code := { maxStack := 4, maxLocals := 3, code := method_9_code, exceptionTable := #[], attributes := #[] }
def k1m8 : Method := { name := "at", desc := "([CII)I", sig := { parameters := [(.array .char), .int, .int], returnType := some .int }, accessFlags := 10, code := some k1c8 }
def k1c9 : Code := { maxStack := 2, maxLocals := 2, code := method_10_code, exceptionTable := #[], attributes := #[] }
def k1m9 : Method := { name := "cmp", desc := "(II)I", sig := { parameters := [.int, .int], returnType := some .int }, accessFlags := 10, code := some k1c9 }
def k1c10 : Code := { maxStack := 4, maxLocals := 14, code := method_11_code, exceptionTable := #[], attributes := #[] }
def k1m10 : Method := { name := "ref", desc := "([CI[CI)I", sig := { parameters := [(.array .char), .int, (.array .char), .int], returnType := some .int }, accessFlags := 10, code := some k1c10 }
def k1c11 : Code := { maxStack := 1, maxLocals := 1, code := method_12_code, exceptionTable := #[], attributes := #[] }
def k1m11 : Method := { name := "sgn", desc := "(I)I", sig := { parameters := [.int], returnType := some .int }, accessFlags := 10, code := some k1c11 }
/-- com/example/muster/muster/campaign/TextOrderComparePinLaw -/
def k1 : Class := { plain "com/example/muster/muster/campaign/TextOrderComparePinLaw" (some 0) with
  accessFlags := 49
  interfaces := #[]
  cf := some (fileOf pool1 8 #[] #[{ accessFlags := 2, nameIndex := 5, descriptorIndex := 6, attributes := #[] }, { accessFlags := 9, nameIndex := 66, descriptorIndex := 67, attributes := #[] }, { accessFlags := 10, nameIndex := 11, descriptorIndex := 12, attributes := #[] }, { accessFlags := 10, nameIndex := 15, descriptorIndex := 16, attributes := #[] }, { accessFlags := 10, nameIndex := 43, descriptorIndex := 44, attributes := #[] }, { accessFlags := 10, nameIndex := 47, descriptorIndex := 44, attributes := #[] }, { accessFlags := 10, nameIndex := 50, descriptorIndex := 51, attributes := #[] }, { accessFlags := 10, nameIndex := 59, descriptorIndex := 56, attributes := #[] }, { accessFlags := 10, nameIndex := 55, descriptorIndex := 56, attributes := #[] }, { accessFlags := 10, nameIndex := 62, descriptorIndex := 63, attributes := #[] }, { accessFlags := 10, nameIndex := 25, descriptorIndex := 26, attributes := #[] }, { accessFlags := 10, nameIndex := 29, descriptorIndex := 30, attributes := #[] }] 49 2 #[] #[])
  fields := #[]
  methods := #[k1m0, k1m1, k1m2, k1m3, k1m4, k1m5, k1m6, k1m7, k1m8, k1m9, k1m10, k1m11]
  instanceTypes := #[]
  staticTypes := #[]
  resolved := Array.replicate 73 none
  statics := none }

def pool2 : Array CpInfo := pool [(1, .class_ 2), (0, u "java/io/Serializable"), (0, .class_ 4), (0, u "java/lang/Object")] 2

/-- java/io/Serializable -/
def k2 : Class := { plain "java/io/Serializable" (some 0) with
  accessFlags := 1537
  interfaces := #[]
  cf := some (fileOf pool2 1 #[] #[] 1537 3 #[] #[])
  fields := #[]
  methods := #[]
  instanceTypes := #[]
  staticTypes := #[]
  resolved := Array.replicate 7 none
  statics := none }

def pool3 : Array CpInfo := pool [(1, .class_ 2), (0, u "java/lang/Comparable"), (0, .class_ 4), (0, u "java/lang/Object")] 7

/-- java/lang/Comparable -/
def k3 : Class := { plain "java/lang/Comparable" (some 0) with
  accessFlags := 1537
  interfaces := #[]
  cf := some (fileOf pool3 1 #[] #[] 1537 3 #[] #[])
  fields := #[]
  methods := #[]
  instanceTypes := #[]
  staticTypes := #[]
  resolved := Array.replicate 12 none
  statics := none }

def pool4 : Array CpInfo := pool [(2, .class_ 4), (1, u "java/lang/CharSequence"), (42, .class_ 48), (0, u "java/lang/CharSequence$1CodePointIterator"), (10, .class_ 60), (0, u "java/lang/CharSequence$1CharIterator"), (5, .class_ 67), (0, u "java/lang/Object")] 63

/-- java/lang/CharSequence -/
def k4 : Class := { plain "java/lang/CharSequence" (some 0) with
  accessFlags := 1537
  interfaces := #[]
  cf := some (fileOf pool4 2 #[.nestMembers #[47, 59]] #[] 1537 66 #[] #[])
  fields := #[]
  methods := #[]
  instanceTypes := #[]
  staticTypes := #[]
  resolved := Array.replicate 131 none
  statics := none }

def pool5 : Array CpInfo := pool [(1, .class_ 2), (0, u "java/lang/constant/Constable"), (0, .class_ 4), (0, u "java/lang/Object")] 6

/-- java/lang/constant/Constable -/
def k5 : Class := { plain "java/lang/constant/Constable" (some 0) with
  accessFlags := 1537
  interfaces := #[]
  cf := some (fileOf pool5 1 #[] #[] 1537 3 #[] #[])
  fields := #[]
  methods := #[]
  instanceTypes := #[]
  staticTypes := #[]
  resolved := Array.replicate 11 none
  statics := none }

def pool6 : Array CpInfo := pool [(1, .class_ 2), (0, u "java/lang/constant/ConstantDesc"), (0, .class_ 4), (0, u "java/lang/Object")] 32

/-- java/lang/constant/ConstantDesc -/
def k6 : Class := { plain "java/lang/constant/ConstantDesc" (some 0) with
  accessFlags := 1537
  interfaces := #[]
  cf := some (fileOf pool6 1 #[] #[] 1537 3 #[] #[])
  fields := #[]
  methods := #[]
  instanceTypes := #[]
  staticTypes := #[]
  resolved := Array.replicate 37 none
  statics := none }

def pool7 : Array CpInfo := pool [(1, .methodref 2 3), (0, .class_ 4), (0, .nameAndType 5 6), (0, u "java/lang/Object"), (0, u "<init>"), (0, u "()V"), (0, .string 8), (0, u ""), (0, .fieldref 10 11), (0, .class_ 12), (0, .nameAndType 13 14), (0, u "java/lang/String"), (0, u "value"), (0, u "[B"), (0, .fieldref 10 16), (0, .nameAndType 17 18), (0, u "coder"), (0, u "B"), (2, u "hash"), (0, u "I"), (2, u "hashIsZero"), (0, u "Z"), (0, .methodref 10 28), (0, .nameAndType 5 29), (0, u "([CIILjava/lang/Void;)V"), (8, .fieldref 10 39), (0, .nameAndType 40 26), (0, u "COMPACT_STRINGS"), (1, .class_ 44), (1, u "java/lang/StringUTF16"), (0, u "compress"), (1, .methodref 42 48), (0, .nameAndType 49 50), (0, u "coderFromArrayLen"), (0, u "([BI)B"), (46, u "([BII)I"), (44, u "()Z"), (34, .methodref 42 178), (0, .nameAndType 45 179), (0, u "([CII)[B"), (154, u "()I"), (0, .methodref 10 336), (0, .nameAndType 17 337), (0, u "()B"), (53, u "(II)V"), (100, .methodref 10 493), (0, .nameAndType 494 142), (0, u "isLatin1"), (4, .methodref 10 500), (0, .nameAndType 501 391), (0, u "checkIndex"), (0, .methodref 42 503), (0, .nameAndType 504 97), (0, u "codePointAt"), (2, u "length"), (67, .class_ 576), (0, u "java/lang/CharSequence"), (22, u "CASE_INSENSITIVE_ORDER"), (0, u "Ljava/util/Comparator;"), (164, u "(I)I"), (244, u "([C)V"), (42, .fieldref 1054 1055), (0, .class_ 1056), (0, .nameAndType 1057 1058), (0, u "jdk/internal/util/Preconditions"), (0, u "SIOOBE_FORMATTER"), (0, u "Ljava/util/function/BiFunction;"), (0, .methodref 1054 1060), (0, .nameAndType 501 1061), (0, u "(IILjava/util/function/BiFunction;)I"), (39, u "serialPersistentFields"), (0, u "[Ljava/io/ObjectStreamField;"), (0, .class_ 1104), (0, u "java/lang/String$CaseInsensitiveComparator"), (1, .class_ 1107), (0, u "java/io/Serializable"), (0, .class_ 1109), (0, u "java/lang/Comparable"), (0, .class_ 1111), (0, u "java/lang/constant/Constable"), (0, .class_ 1113), (0, u "java/lang/constant/ConstantDesc"), (2, u "serialVersionUID"), (0, u "J"), (3, u "REPL"), (0, u "C"), (2, u "LATIN1"), (1, u "UTF16")] 323

def k7m0 : Method := { name := "<init>", desc := "()V", sig := { parameters := [], returnType := none }, accessFlags := 1, code := none }
def k7c1 : Code := { maxStack := 5, maxLocals := 2, code := jdk_42_method_3_code, exceptionTable := #[], attributes := #[] }
def k7m1 : Method := { name := "<init>", desc := "([C)V", sig := { parameters := [(.array .char)], returnType := none }, accessFlags := 1, code := some k7c1 }
def k7c2 : Code := { maxStack := 2, maxLocals := 1, code := jdk_42_method_54_code, exceptionTable := #[], attributes := #[] }
def k7m2 : Method := { name := "length", desc := "()I", sig := { parameters := [], returnType := some .int }, accessFlags := 1, code := some k7c2 }
def k7c3 : Code := { maxStack := 3, maxLocals := 3, code := jdk_42_method_57_code, exceptionTable := #[], attributes := #[] }
def k7m3 : Method := { name := "codePointAt", desc := "(I)I", sig := { parameters := [.int], returnType := some .int }, accessFlags := 1, code := some k7c3 }
def k7c4 : Code := { maxStack := 4, maxLocals := 6, code := jdk_42_method_149_code, exceptionTable := #[], attributes := #[] }
def k7m4 : Method := { name := "<init>", desc := "([CIILjava/lang/Void;)V", sig := { parameters := [(.array .char), .int, .int, (.object "java/lang/Void")], returnType := none }, accessFlags := 2, code := some k7c4 }
def k7c5 : Code := { maxStack := 1, maxLocals := 1, code := jdk_42_method_152_code, exceptionTable := #[], attributes := #[] }
def k7m5 : Method := { name := "coder", desc := "()B", sig := { parameters := [], returnType := some .byte }, accessFlags := 0, code := some k7c5 }
def k7c6 : Code := { maxStack := 1, maxLocals := 1, code := jdk_42_method_154_code, exceptionTable := #[], attributes := #[] }
def k7m6 : Method := { name := "isLatin1", desc := "()Z", sig := { parameters := [], returnType := some .boolean }, accessFlags := 0, code := some k7c6 }
def k7c7 : Code := { maxStack := 3, maxLocals := 2, code := jdk_42_method_155_code, exceptionTable := #[], attributes := #[] }
def k7m7 : Method := { name := "checkIndex", desc := "(II)V", sig := { parameters := [.int, .int], returnType := none }, accessFlags := 8, code := some k7c7 }
/-- java/lang/String -/
def k7 : Class := { plain "java/lang/String" (some 0) with
  accessFlags := 49
  interfaces := #[2, 3, 4, 5, 6]
  cf := some (fileOf pool7 10 #[.nestMembers #[1103]] #[{ accessFlags := 1, nameIndex := 5, descriptorIndex := 6, attributes := #[] }, { accessFlags := 1, nameIndex := 5, descriptorIndex := 1010, attributes := #[] }, { accessFlags := 1, nameIndex := 507, descriptorIndex := 334, attributes := #[] }, { accessFlags := 1, nameIndex := 504, descriptorIndex := 765, attributes := #[] }, { accessFlags := 2, nameIndex := 5, descriptorIndex := 29, attributes := #[] }, { accessFlags := 0, nameIndex := 17, descriptorIndex := 337, attributes := #[] }, { accessFlags := 0, nameIndex := 494, descriptorIndex := 142, attributes := #[] }, { accessFlags := 8, nameIndex := 501, descriptorIndex := 391, attributes := #[] }] 49 2 #[1106, 1108, 575, 1110, 1112] #[{ accessFlags := 18, nameIndex := 13, descriptorIndex := 14, attributes := #[] }, { accessFlags := 18, nameIndex := 17, descriptorIndex := 18, attributes := #[] }, { accessFlags := 2, nameIndex := 21, descriptorIndex := 22, attributes := #[] }, { accessFlags := 2, nameIndex := 25, descriptorIndex := 26, attributes := #[] }, { accessFlags := 26, nameIndex := 1116, descriptorIndex := 1117, attributes := #[] }, { accessFlags := 24, nameIndex := 40, descriptorIndex := 26, attributes := #[] }, { accessFlags := 26, nameIndex := 1101, descriptorIndex := 1102, attributes := #[] }, { accessFlags := 26, nameIndex := 1121, descriptorIndex := 1122, attributes := #[] }, { accessFlags := 25, nameIndex := 599, descriptorIndex := 600, attributes := #[] }, { accessFlags := 24, nameIndex := 1125, descriptorIndex := 18, attributes := #[] }, { accessFlags := 24, nameIndex := 1127, descriptorIndex := 18, attributes := #[] }])
  fields := #[{ name := "value", type := (.array .byte), accessFlags := 18, slot := 0, constantValue := 0 }, { name := "coder", type := .byte, accessFlags := 18, slot := 1, constantValue := 0 }, { name := "hash", type := .int, accessFlags := 2, slot := 2, constantValue := 0 }, { name := "hashIsZero", type := .boolean, accessFlags := 2, slot := 3, constantValue := 0 }, { name := "serialVersionUID", type := .long, accessFlags := 26, slot := 0, constantValue := 0 }, { name := "COMPACT_STRINGS", type := .boolean, accessFlags := 24, slot := 1, constantValue := 0 }, { name := "serialPersistentFields", type := (.array (.object "java/io/ObjectStreamField")), accessFlags := 26, slot := 2, constantValue := 0 }, { name := "REPL", type := .char, accessFlags := 26, slot := 3, constantValue := 0 }, { name := "CASE_INSENSITIVE_ORDER", type := (.object "java/util/Comparator"), accessFlags := 25, slot := 4, constantValue := 0 }, { name := "LATIN1", type := .byte, accessFlags := 24, slot := 5, constantValue := 0 }, { name := "UTF16", type := .byte, accessFlags := 24, slot := 6, constantValue := 0 }]
  methods := #[k7m0, k7m1, k7m2, k7m3, k7m4, k7m5, k7m6, k7m7]
  instanceTypes := #[(.array .byte), .byte, .int, .boolean]
  staticTypes := #[.long, .boolean, (.array (.object "java/io/ObjectStreamField")), .char, (.object "java/util/Comparator"), .byte, .byte]
  resolved := Array.replicate 1451 none
  statics := some 0 }

def pool8 : Array CpInfo := pool [(6, .class_ 8), (1, u "java/lang/Object"), (0, u "<init>"), (0, u "()V"), (0, .methodref 12 13), (0, .class_ 14), (0, .nameAndType 15 16), (0, u "java/lang/StringUTF16"), (0, u "newBytesLength"), (0, u "(I)I"), (3, .integer 1073741823), (23, .fieldref 12 45), (0, .nameAndType 46 47), (0, u "$assertionsDisabled"), (0, u "Z"), (11, .fieldref 12 60), (0, .nameAndType 61 62), (0, u "HI_BYTE_SHIFT"), (0, u "I"), (0, .fieldref 12 64), (0, .nameAndType 65 62), (0, u "LO_BYTE_SHIFT"), (5, .methodref 12 72), (0, .nameAndType 73 74), (0, u "getChar"), (0, u "([BI)C"), (0, .methodref 76 77), (0, .class_ 78), (0, .nameAndType 79 80), (0, u "java/lang/Character"), (0, u "isHighSurrogate"), (0, u "(C)Z"), (0, .methodref 76 82), (0, .nameAndType 83 80), (0, u "isLowSurrogate"), (0, .methodref 76 85), (0, .nameAndType 86 87), (0, u "toCodePoint"), (0, u "(CC)I"), (0, .methodref 12 89), (0, .nameAndType 90 91), (0, u "codePointAt"), (0, u "([BIIZ)I"), (15, .methodref 12 108), (0, .nameAndType 109 110), (0, u "newBytesFor"), (0, u "(I)[B"), (0, .methodref 12 112), (0, .nameAndType 113 114), (0, u "putChar"), (0, u "([BII)V"), (0, .methodref 12 116), (0, .nameAndType 117 118), (0, u "compress"), (0, u "([CI[BII)I"), (0, .methodref 12 120), (0, .nameAndType 121 122), (0, u "toBytes"), (0, u "([CII)[B"), (127, u "([BII)I"), (10, u "coderFromArrayLen"), (0, u "([BI)B"), (106, .class_ 371), (1, u "java/lang/StringUTF16$LinesSpliterator"), (58, u "MAX_LENGTH"), (196, .class_ 628), (0, u "java/lang/StringUTF16$CodePointsSpliterator"), (0, .class_ 630), (0, u "java/lang/StringUTF16$CharsSpliterator")] 4

def k8m0 : Method := { name := "<init>", desc := "()V", sig := { parameters := [], returnType := none }, accessFlags := 0, code := none }
def k8c1 : Code := { maxStack := 1, maxLocals := 1, code := jdk_52_method_2_code, exceptionTable := #[], attributes := #[] }
def k8m1 : Method := { name := "newBytesFor", desc := "(I)[B", sig := { parameters := [.int], returnType := some (.array .byte) }, accessFlags := 9, code := some k8c1 }
def k8c2 : Code := { maxStack := 4, maxLocals := 1, code := jdk_52_method_3_code, exceptionTable := #[], attributes := #[] }
def k8m2 : Method := { name := "newBytesLength", desc := "(I)I", sig := { parameters := [.int], returnType := some .int }, accessFlags := 9, code := some k8c2 }
def k8c3 : Code := { maxStack := 4, maxLocals := 3, code := jdk_52_method_4_code, exceptionTable := #[], attributes := #[] }
def k8m3 : Method := { name := "putChar", desc := "([BII)V", sig := { parameters := [(.array .byte), .int, .int], returnType := none }, accessFlags := 8, code := some k8c3 }
def k8c4 : Code := { maxStack := 3, maxLocals := 2, code := jdk_52_method_5_code, exceptionTable := #[], attributes := #[] }
def k8m4 : Method := { name := "getChar", desc := "([BI)C", sig := { parameters := [(.array .byte), .int], returnType := some .char }, accessFlags := 8, code := some k8c4 }
def k8c5 : Code := { maxStack := 2, maxLocals := 6, code := jdk_52_method_7_code, exceptionTable := #[], attributes := #[] }
def k8m5 : Method := { name := "codePointAt", desc := "([BIIZ)I", sig := { parameters := [(.array .byte), .int, .int, .boolean], returnType := some .int }, accessFlags := 10, code := some k8c5 }
def k8c6 : Code := { maxStack := 4, maxLocals := 3, code := jdk_52_method_8_code, exceptionTable := #[], attributes := #[] }
def k8m6 : Method := { name := "codePointAt", desc := "([BII)I", sig := { parameters := [(.array .byte), .int, .int], returnType := some .int }, accessFlags := 9, code := some k8c6 }
def k8c7 : Code := { maxStack := 4, maxLocals := 5, code := jdk_52_method_14_code, exceptionTable := #[], attributes := #[] }
def k8m7 : Method := { name := "toBytes", desc := "([CII)[B", sig := { parameters := [(.array .char), .int, .int], returnType := some (.array .byte) }, accessFlags := 9, code := some k8c7 }
def k8c8 : Code := { maxStack := 2, maxLocals := 2, code := jdk_52_method_15_code, exceptionTable := #[], attributes := #[] }
def k8m8 : Method := { name := "coderFromArrayLen", desc := "([BI)B", sig := { parameters := [(.array .byte), .int], returnType := some .byte }, accessFlags := 8, code := some k8c8 }
def k8c9 : Code := { maxStack := 5, maxLocals := 6, code := jdk_52_method_16_code, exceptionTable := #[], attributes := #[] }
def k8m9 : Method := { name := "compress", desc := "([CII)[B", sig := { parameters := [(.array .char), .int, .int], returnType := some (.array .byte) }, accessFlags := 9, code := some k8c9 }
def k8c10 : Code := { maxStack := 3, maxLocals := 7, code := jdk_52_method_21_code, exceptionTable := #[], attributes := #[] }
def k8m10 : Method := { name := "compress", desc := "([CI[BII)I", sig := { parameters := [(.array .char), .int, (.array .byte), .int, .int], returnType := some .int }, accessFlags := 9, code := some k8c10 }
/-- java/lang/StringUTF16 -/
def k8 : Class := { plain "java/lang/StringUTF16" (some 0) with
  accessFlags := 48
  interfaces := #[]
  cf := some (fileOf pool8 12 #[.nestMembers #[627, 629, 369]] #[{ accessFlags := 0, nameIndex := 9, descriptorIndex := 10, attributes := #[] }, { accessFlags := 9, nameIndex := 109, descriptorIndex := 110, attributes := #[] }, { accessFlags := 9, nameIndex := 15, descriptorIndex := 16, attributes := #[] }, { accessFlags := 8, nameIndex := 113, descriptorIndex := 114, attributes := #[] }, { accessFlags := 8, nameIndex := 73, descriptorIndex := 74, attributes := #[] }, { accessFlags := 10, nameIndex := 90, descriptorIndex := 91, attributes := #[] }, { accessFlags := 9, nameIndex := 90, descriptorIndex := 250, attributes := #[] }, { accessFlags := 9, nameIndex := 121, descriptorIndex := 122, attributes := #[] }, { accessFlags := 8, nameIndex := 261, descriptorIndex := 262, attributes := #[] }, { accessFlags := 9, nameIndex := 117, descriptorIndex := 122, attributes := #[] }, { accessFlags := 9, nameIndex := 117, descriptorIndex := 118, attributes := #[] }] 48 6 #[] #[{ accessFlags := 26, nameIndex := 61, descriptorIndex := 62, attributes := #[] }, { accessFlags := 26, nameIndex := 65, descriptorIndex := 62, attributes := #[] }, { accessFlags := 24, nameIndex := 430, descriptorIndex := 62, attributes := #[] }, { accessFlags := 4120, nameIndex := 46, descriptorIndex := 47, attributes := #[] }])
  fields := #[{ name := "HI_BYTE_SHIFT", type := .int, accessFlags := 26, slot := 0, constantValue := 0 }, { name := "LO_BYTE_SHIFT", type := .int, accessFlags := 26, slot := 1, constantValue := 0 }, { name := "MAX_LENGTH", type := .int, accessFlags := 24, slot := 2, constantValue := 0 }, { name := "$assertionsDisabled", type := .boolean, accessFlags := 4120, slot := 3, constantValue := 0 }]
  methods := #[k8m0, k8m1, k8m2, k8m3, k8m4, k8m5, k8m6, k8m7, k8m8, k8m9, k8m10]
  instanceTypes := #[]
  staticTypes := #[.int, .int, .int, .boolean]
  resolved := Array.replicate 635 none
  statics := some 1 }

def pool9 : Array CpInfo := pool [(2, .class_ 4), (1, u "java/lang/Object"), (0, u "<init>"), (0, u "()V"), (0, .methodref 8 9), (0, .class_ 10), (0, .nameAndType 11 12), (0, u "java/lang/String"), (0, u "length"), (0, u "()I"), (0, .methodref 8 14), (0, .nameAndType 15 16), (0, u "codePointAt"), (0, u "(I)I"), (0, .methodref 18 19), (0, .class_ 20), (0, .nameAndType 21 22), (0, u "java/lang/Integer"), (0, u "compare"), (0, u "(II)I"), (0, .methodref 24 25), (0, .class_ 26), (0, .nameAndType 27 16), (0, u "java/lang/Character"), (0, u "charCount"), (0, .class_ 29), (0, u "com/example/muster/muster/campaign/TextOrder"), (2, u "(Ljava/lang/String;Ljava/lang/String;)I")] 3

def k9m0 : Method := { name := "<init>", desc := "()V", sig := { parameters := [], returnType := none }, accessFlags := 2, code := none }
def k9c1 : Code := { maxStack := 3, maxLocals := 6, code := prog_9_method_2_code, exceptionTable := #[], attributes := #[] }
def k9m1 : Method := { name := "compare", desc := "(Ljava/lang/String;Ljava/lang/String;)I", sig := { parameters := [(.object "java/lang/String"), (.object "java/lang/String")], returnType := some .int }, accessFlags := 9, code := some k9c1 }
/-- com/example/muster/muster/campaign/TextOrder -/
def k9 : Class := { plain "com/example/muster/muster/campaign/TextOrder" (some 0) with
  accessFlags := 49
  interfaces := #[]
  cf := some (fileOf pool9 28 #[] #[{ accessFlags := 2, nameIndex := 5, descriptorIndex := 6, attributes := #[] }, { accessFlags := 9, nameIndex := 21, descriptorIndex := 32, attributes := #[] }] 49 2 #[] #[])
  fields := #[]
  methods := #[k9m0, k9m1]
  instanceTypes := #[]
  staticTypes := #[]
  resolved := Array.replicate 36 none
  statics := none }

def pool10 : Array CpInfo := pool [(2, .class_ 4), (1, u "java/lang/Object"), (0, u "<init>"), (0, u "()V"), (1, .class_ 10), (1, u "java/lang/Number"), (2, .class_ 14), (0, u "java/io/Serializable"), (0, u "serialVersionUID"), (0, u "J")] 20

def k10m0 : Method := { name := "<init>", desc := "()V", sig := { parameters := [], returnType := none }, accessFlags := 1, code := none }
/-- java/lang/Number -/
def k10 : Class := { plain "java/lang/Number" (some 0) with
  accessFlags := 1057
  interfaces := #[2]
  cf := some (fileOf pool10 8 #[] #[{ accessFlags := 1, nameIndex := 5, descriptorIndex := 6, attributes := #[] }] 1057 2 #[13] #[{ accessFlags := 26, nameIndex := 15, descriptorIndex := 16, attributes := #[] }])
  fields := #[{ name := "serialVersionUID", type := .long, accessFlags := 26, slot := 0, constantValue := 0 }]
  methods := #[k10m0]
  instanceTypes := #[]
  staticTypes := #[.long]
  resolved := Array.replicate 37 none
  statics := none }

def pool11 : Array CpInfo := pool [(1, .class_ 2), (0, u "java/lang/Integer"), (16, u "digits"), (0, u "[C"), (39, u "(II)I"), (24, u "DigitOnes"), (0, u "[B"), (2, u "DigitTens"), (99, .class_ 190), (0, u "java/lang/Integer$IntegerCache"), (3, u "I"), (8, .class_ 204), (0, u "java/lang/Number"), (2, u "value"), (53, u "compare"), (40, u "TYPE"), (0, u "Ljava/lang/Class;"), (0, .class_ 305), (0, u "java/lang/Comparable"), (0, .class_ 307), (0, u "java/lang/constant/Constable"), (0, .class_ 309), (0, u "java/lang/constant/ConstantDesc"), (0, u "MIN_VALUE"), (1, u "MAX_VALUE"), (3, u "SIZE"), (1, u "BYTES"), (1, u "serialVersionUID"), (0, u "J")] 131

def k11c0 : Code := { maxStack := 2, maxLocals := 2, code := jdk_33_method_40_code, exceptionTable := #[], attributes := #[] }
def k11m0 : Method := { name := "compare", desc := "(II)I", sig := { parameters := [.int, .int], returnType := some .int }, accessFlags := 9, code := some k11c0 }
/-- java/lang/Integer -/
def k11 : Class := { plain "java/lang/Integer" (some 10) with
  accessFlags := 49
  interfaces := #[3, 5, 6]
  cf := some (fileOf pool11 1 #[.nestMembers #[189]] #[{ accessFlags := 9, nameIndex := 261, descriptorIndex := 60, attributes := #[] }] 49 203 #[304, 306, 308] #[{ accessFlags := 25, nameIndex := 310, descriptorIndex := 194, attributes := #[] }, { accessFlags := 25, nameIndex := 312, descriptorIndex := 194, attributes := #[] }, { accessFlags := 25, nameIndex := 302, descriptorIndex := 303, attributes := #[] }, { accessFlags := 24, nameIndex := 19, descriptorIndex := 20, attributes := #[] }, { accessFlags := 24, nameIndex := 89, descriptorIndex := 86, attributes := #[] }, { accessFlags := 24, nameIndex := 85, descriptorIndex := 86, attributes := #[] }, { accessFlags := 18, nameIndex := 207, descriptorIndex := 194, attributes := #[] }, { accessFlags := 25, nameIndex := 316, descriptorIndex := 194, attributes := #[] }, { accessFlags := 25, nameIndex := 318, descriptorIndex := 194, attributes := #[] }, { accessFlags := 26, nameIndex := 320, descriptorIndex := 321, attributes := #[] }])
  fields := #[{ name := "MIN_VALUE", type := .int, accessFlags := 25, slot := 0, constantValue := 0 }, { name := "MAX_VALUE", type := .int, accessFlags := 25, slot := 1, constantValue := 0 }, { name := "TYPE", type := (.object "java/lang/Class"), accessFlags := 25, slot := 2, constantValue := 0 }, { name := "digits", type := (.array .char), accessFlags := 24, slot := 3, constantValue := 0 }, { name := "DigitTens", type := (.array .byte), accessFlags := 24, slot := 4, constantValue := 0 }, { name := "DigitOnes", type := (.array .byte), accessFlags := 24, slot := 5, constantValue := 0 }, { name := "value", type := .int, accessFlags := 18, slot := 0, constantValue := 0 }, { name := "SIZE", type := .int, accessFlags := 25, slot := 6, constantValue := 0 }, { name := "BYTES", type := .int, accessFlags := 25, slot := 7, constantValue := 0 }, { name := "serialVersionUID", type := .long, accessFlags := 26, slot := 8, constantValue := 0 }]
  methods := #[k11m0]
  instanceTypes := #[.int]
  staticTypes := #[.int, .int, (.object "java/lang/Class"), (.array .char), (.array .byte), (.array .byte), .int, .int, .long]
  resolved := Array.replicate 453 none
  statics := none }

def pool12 : Array CpInfo := pool [(2, .class_ 4), (1, u "java/lang/Object"), (0, u "<init>"), (0, u "()V"), (17, .class_ 26), (1, u "jdk/internal/util/Preconditions"), (6, u "checkIndex"), (21, .class_ 56), (0, u "jdk/internal/util/Preconditions$4"), (57, .class_ 115), (0, u "jdk/internal/util/Preconditions$1"), (7, u "SIOOBE_FORMATTER"), (0, u "Ljava/util/function/BiFunction;"), (0, .class_ 126), (0, u "jdk/internal/util/Preconditions$2"), (3, u "AIOOBE_FORMATTER"), (0, .class_ 132), (0, u "jdk/internal/util/Preconditions$3"), (3, u "IOOBE_FORMATTER"), (41, u "(IILjava/util/function/BiFunction;)I")] 15

def k12m0 : Method := { name := "<init>", desc := "()V", sig := { parameters := [], returnType := none }, accessFlags := 1, code := none }
def k12c1 : Code := { maxStack := 3, maxLocals := 3, code := jdk_41_method_11_code, exceptionTable := #[], attributes := #[] }
def k12m1 : Method := { name := "checkIndex", desc := "(IILjava/util/function/BiFunction;)I", sig := { parameters := [.int, .int, (.object "java/util/function/BiFunction")], returnType := some .int }, accessFlags := 9, code := some k12c1 }
/-- jdk/internal/util/Preconditions -/
def k12 : Class := { plain "jdk/internal/util/Preconditions" (some 0) with
  accessFlags := 33
  interfaces := #[]
  cf := some (fileOf pool12 24 #[.nestMembers #[55, 131, 125, 114]] #[{ accessFlags := 1, nameIndex := 5, descriptorIndex := 6, attributes := #[] }, { accessFlags := 9, nameIndex := 33, descriptorIndex := 178, attributes := #[] }] 33 2 #[] #[{ accessFlags := 25, nameIndex := 123, descriptorIndex := 124, attributes := #[] }, { accessFlags := 25, nameIndex := 130, descriptorIndex := 124, attributes := #[] }, { accessFlags := 25, nameIndex := 136, descriptorIndex := 124, attributes := #[] }])
  fields := #[{ name := "SIOOBE_FORMATTER", type := (.object "java/util/function/BiFunction"), accessFlags := 25, slot := 0, constantValue := 0 }, { name := "AIOOBE_FORMATTER", type := (.object "java/util/function/BiFunction"), accessFlags := 25, slot := 1, constantValue := 0 }, { name := "IOOBE_FORMATTER", type := (.object "java/util/function/BiFunction"), accessFlags := 25, slot := 2, constantValue := 0 }]
  methods := #[k12m0, k12m1]
  instanceTypes := #[]
  staticTypes := #[(.object "java/util/function/BiFunction"), (.object "java/util/function/BiFunction"), (.object "java/util/function/BiFunction")]
  resolved := Array.replicate 194 none
  statics := some 2 }

def pool13 : Array CpInfo := pool [(1, .class_ 2), (0, u "java/lang/Character"), (18, u "value"), (0, u "C"), (19, .class_ 44), (1, u "java/lang/Object"), (3, .class_ 50), (1, u "java/lang/Character$CharacterCache"), (22, .integer 65536), (1, .integer 55296), (0, .integer 56320), (0, .integer 57344), (2, u "isHighSurrogate"), (0, u "(C)Z"), (2, u "isLowSurrogate"), (0, .integer 4238353408), (12, u "toCodePoint"), (0, u "(CC)I"), (74, u "(I)I"), (109, u "$assertionsDisabled"), (0, u "Z"), (21, .class_ 309), (1, u "java/lang/Character$UnicodeBlock"), (73, u "TYPE"), (0, u "Ljava/lang/Class;"), (0, .class_ 386), (0, u "java/io/Serializable"), (0, .class_ 388), (0, u "java/lang/Comparable"), (0, .class_ 390), (0, u "java/lang/constant/Constable"), (0, u "MIN_RADIX"), (0, u "I"), (2, u "MAX_RADIX"), (1, u "MIN_VALUE"), (1, u "MAX_VALUE"), (3, u "UNASSIGNED"), (0, u "B"), (0, u "UPPERCASE_LETTER"), (1, u "LOWERCASE_LETTER"), (0, u "TITLECASE_LETTER"), (1, u "MODIFIER_LETTER"), (1, u "OTHER_LETTER"), (1, u "NON_SPACING_MARK"), (1, u "ENCLOSING_MARK"), (1, u "COMBINING_SPACING_MARK"), (1, u "DECIMAL_DIGIT_NUMBER"), (1, u "LETTER_NUMBER"), (1, u "OTHER_NUMBER"), (1, u "SPACE_SEPARATOR"), (1, u "LINE_SEPARATOR"), (1, u "PARAGRAPH_SEPARATOR"), (1, u "CONTROL"), (1, u "FORMAT"), (1, u "PRIVATE_USE"), (1, u "SURROGATE"), (1, u "DASH_PUNCTUATION"), (1, u "START_PUNCTUATION"), (1, u "END_PUNCTUATION"), (1, u "CONNECTOR_PUNCTUATION"), (1, u "OTHER_PUNCTUATION"), (1, u "MATH_SYMBOL"), (1, u "CURRENCY_SYMBOL"), (1, u "MODIFIER_SYMBOL"), (1, u "OTHER_SYMBOL"), (1, u "INITIAL_QUOTE_PUNCTUATION"), (1, u "FINAL_QUOTE_PUNCTUATION"), (1, u "ERROR"), (1, u "DIRECTIONALITY_UNDEFINED"), (0, u "DIRECTIONALITY_LEFT_TO_RIGHT"), (0, u "DIRECTIONALITY_RIGHT_TO_LEFT"), (0, u "DIRECTIONALITY_RIGHT_TO_LEFT_ARABIC"), (0, u "DIRECTIONALITY_EUROPEAN_NUMBER"), (0, u "DIRECTIONALITY_EUROPEAN_NUMBER_SEPARATOR"), (0, u "DIRECTIONALITY_EUROPEAN_NUMBER_TERMINATOR"), (0, u "DIRECTIONALITY_ARABIC_NUMBER"), (0, u "DIRECTIONALITY_COMMON_NUMBER_SEPARATOR"), (0, u "DIRECTIONALITY_NONSPACING_MARK"), (0, u "DIRECTIONALITY_BOUNDARY_NEUTRAL"), (0, u "DIRECTIONALITY_PARAGRAPH_SEPARATOR"), (0, u "DIRECTIONALITY_SEGMENT_SEPARATOR"), (0, u "DIRECTIONALITY_WHITESPACE"), (0, u "DIRECTIONALITY_OTHER_NEUTRALS"), (0, u "DIRECTIONALITY_LEFT_TO_RIGHT_EMBEDDING"), (0, u "DIRECTIONALITY_LEFT_TO_RIGHT_OVERRIDE"), (0, u "DIRECTIONALITY_RIGHT_TO_LEFT_EMBEDDING"), (0, u "DIRECTIONALITY_RIGHT_TO_LEFT_OVERRIDE"), (1, u "DIRECTIONALITY_POP_DIRECTIONAL_FORMAT"), (0, u "DIRECTIONALITY_LEFT_TO_RIGHT_ISOLATE"), (0, u "DIRECTIONALITY_RIGHT_TO_LEFT_ISOLATE"), (0, u "DIRECTIONALITY_FIRST_STRONG_ISOLATE"), (0, u "DIRECTIONALITY_POP_DIRECTIONAL_ISOLATE"), (0, u "MIN_HIGH_SURROGATE"), (0, u "MAX_HIGH_SURROGATE"), (1, u "MIN_LOW_SURROGATE"), (0, u "MAX_LOW_SURROGATE"), (1, u "MIN_SURROGATE"), (0, u "MAX_SURROGATE"), (0, u "MIN_SUPPLEMENTARY_CODE_POINT"), (0, u "MIN_CODE_POINT"), (0, u "MAX_CODE_POINT"), (1, u "serialVersionUID"), (0, u "J"), (2, u "SIZE"), (0, u "BYTES"), (29, u "charCount"), (58, .class_ 596), (0, u "java/lang/Character$UnicodeScript"), (0, .class_ 598), (0, u "java/lang/Character$Subset")] 5

def k13c0 : Code := { maxStack := 2, maxLocals := 1, code := jdk_89_method_14_code, exceptionTable := #[], attributes := #[] }
def k13m0 : Method := { name := "isHighSurrogate", desc := "(C)Z", sig := { parameters := [.char], returnType := some .boolean }, accessFlags := 9, code := some k13c0 }
def k13c1 : Code := { maxStack := 2, maxLocals := 1, code := jdk_89_method_15_code, exceptionTable := #[], attributes := #[] }
def k13m1 : Method := { name := "isLowSurrogate", desc := "(C)Z", sig := { parameters := [.char], returnType := some .boolean }, accessFlags := 9, code := some k13c1 }
def k13c2 : Code := { maxStack := 2, maxLocals := 1, code := jdk_89_method_18_code, exceptionTable := #[], attributes := #[] }
def k13m2 : Method := { name := "charCount", desc := "(I)I", sig := { parameters := [.int], returnType := some .int }, accessFlags := 9, code := some k13c2 }
def k13c3 : Code := { maxStack := 2, maxLocals := 2, code := jdk_89_method_19_code, exceptionTable := #[], attributes := #[] }
def k13m3 : Method := { name := "toCodePoint", desc := "(CC)I", sig := { parameters := [.char, .char], returnType := some .int }, accessFlags := 9, code := some k13c3 }
/-- java/lang/Character -/
def k13 : Class := { plain "java/lang/Character" (some 0) with
  accessFlags := 49
  interfaces := #[2, 3, 5]
  cf := some (fileOf pool13 1 #[.nestMembers #[48, 595, 307, 597]] #[{ accessFlags := 9, nameIndex := 80, descriptorIndex := 81, attributes := #[] }, { accessFlags := 9, nameIndex := 84, descriptorIndex := 81, attributes := #[] }, { accessFlags := 9, nameIndex := 536, descriptorIndex := 174, attributes := #[] }, { accessFlags := 9, nameIndex := 98, descriptorIndex := 99, attributes := #[] }] 49 42 #[385, 387, 389] #[{ accessFlags := 25, nameIndex := 391, descriptorIndex := 392, attributes := #[] }, { accessFlags := 25, nameIndex := 395, descriptorIndex := 392, attributes := #[] }, { accessFlags := 25, nameIndex := 397, descriptorIndex := 22, attributes := #[] }, { accessFlags := 25, nameIndex := 399, descriptorIndex := 22, attributes := #[] }, { accessFlags := 25, nameIndex := 383, descriptorIndex := 384, attributes := #[] }, { accessFlags := 25, nameIndex := 403, descriptorIndex := 404, attributes := #[] }, { accessFlags := 25, nameIndex := 405, descriptorIndex := 404, attributes := #[] }, { accessFlags := 25, nameIndex := 407, descriptorIndex := 404, attributes := #[] }, { accessFlags := 25, nameIndex := 408, descriptorIndex := 404, attributes := #[] }, { accessFlags := 25, nameIndex := 410, descriptorIndex := 404, attributes := #[] }, { accessFlags := 25, nameIndex := 412, descriptorIndex := 404, attributes := #[] }, { accessFlags := 25, nameIndex := 414, descriptorIndex := 404, attributes := #[] }, { accessFlags := 25, nameIndex := 416, descriptorIndex := 404, attributes := #[] }, { accessFlags := 25, nameIndex := 418, descriptorIndex := 404, attributes := #[] }, { accessFlags := 25, nameIndex := 420, descriptorIndex := 404, attributes := #[] }, { accessFlags := 25, nameIndex := 422, descriptorIndex := 404, attributes := #[] }, { accessFlags := 25, nameIndex := 424, descriptorIndex := 404, attributes := #[] }, { accessFlags := 25, nameIndex := 426, descriptorIndex := 404, attributes := #[] }, { accessFlags := 25, nameIndex := 428, descriptorIndex := 404, attributes := #[] }, { accessFlags := 25, nameIndex := 430, descriptorIndex := 404, attributes := #[] }, { accessFlags := 25, nameIndex := 432, descriptorIndex := 404, attributes := #[] }, { accessFlags := 25, nameIndex := 434, descriptorIndex := 404, attributes := #[] }, { accessFlags := 25, nameIndex := 436, descriptorIndex := 404, attributes := #[] }, { accessFlags := 25, nameIndex := 438, descriptorIndex := 404, attributes := #[] }, { accessFlags := 25, nameIndex := 440, descriptorIndex := 404, attributes := #[] }, { accessFlags := 25, nameIndex := 442, descriptorIndex := 404, attributes := #[] }, { accessFlags := 25, nameIndex := 444, descriptorIndex := 404, attributes := #[] }, { accessFlags := 25, nameIndex := 446, descriptorIndex := 404, attributes := #[] }, { accessFlags := 25, nameIndex := 448, descriptorIndex := 404, attributes := #[] }, { accessFlags := 25, nameIndex := 450, descriptorIndex := 404, attributes := #[] }, { accessFlags := 25, nameIndex := 452, descriptorIndex := 404, attributes := #[] }, { accessFlags := 25, nameIndex := 454, descriptorIndex := 404, attributes := #[] }, { accessFlags := 25, nameIndex := 456, descriptorIndex := 404, attributes := #[] }, { accessFlags := 25, nameIndex := 458, descriptorIndex := 404, attributes := #[] }, { accessFlags := 25, nameIndex := 460, descriptorIndex := 404, attributes := #[] }, { accessFlags := 24, nameIndex := 462, descriptorIndex := 392, attributes := #[] }, { accessFlags := 25, nameIndex := 464, descriptorIndex := 404, attributes := #[] }, { accessFlags := 25, nameIndex := 465, descriptorIndex := 404, attributes := #[] }, { accessFlags := 25, nameIndex := 466, descriptorIndex := 404, attributes := #[] }, { accessFlags := 25, nameIndex := 467, descriptorIndex := 404, attributes := #[] }, { accessFlags := 25, nameIndex := 468, descriptorIndex := 404, attributes := #[] }, { accessFlags := 25, nameIndex := 469, descriptorIndex := 404, attributes := #[] }, { accessFlags := 25, nameIndex := 470, descriptorIndex := 404, attributes := #[] }, { accessFlags := 25, nameIndex := 471, descriptorIndex := 404, attributes := #[] }, { accessFlags := 25, nameIndex := 472, descriptorIndex := 404, attributes := #[] }, { accessFlags := 25, nameIndex := 473, descriptorIndex := 404, attributes := #[] }, { accessFlags := 25, nameIndex := 474, descriptorIndex := 404, attributes := #[] }, { accessFlags := 25, nameIndex := 475, descriptorIndex := 404, attributes := #[] }, { accessFlags := 25, nameIndex := 476, descriptorIndex := 404, attributes := #[] }, { accessFlags := 25, nameIndex := 477, descriptorIndex := 404, attributes := #[] }, { accessFlags := 25, nameIndex := 478, descriptorIndex := 404, attributes := #[] }, { accessFlags := 25, nameIndex := 479, descriptorIndex := 404, attributes := #[] }, { accessFlags := 25, nameIndex := 480, descriptorIndex := 404, attributes := #[] }, { accessFlags := 25, nameIndex := 481, descriptorIndex := 404, attributes := #[] }, { accessFlags := 25, nameIndex := 482, descriptorIndex := 404, attributes := #[] }, { accessFlags := 25, nameIndex := 484, descriptorIndex := 404, attributes := #[] }, { accessFlags := 25, nameIndex := 485, descriptorIndex := 404, attributes := #[] }, { accessFlags := 25, nameIndex := 486, descriptorIndex := 404, attributes := #[] }, { accessFlags := 25, nameIndex := 487, descriptorIndex := 404, attributes := #[] }, { accessFlags := 25, nameIndex := 488, descriptorIndex := 404, attributes := #[] }, { accessFlags := 25, nameIndex := 489, descriptorIndex := 22, attributes := #[] }, { accessFlags := 25, nameIndex := 490, descriptorIndex := 22, attributes := #[] }, { accessFlags := 25, nameIndex := 492, descriptorIndex := 22, attributes := #[] }, { accessFlags := 25, nameIndex := 493, descriptorIndex := 22, attributes := #[] }, { accessFlags := 25, nameIndex := 495, descriptorIndex := 22, attributes := #[] }, { accessFlags := 25, nameIndex := 496, descriptorIndex := 22, attributes := #[] }, { accessFlags := 25, nameIndex := 497, descriptorIndex := 392, attributes := #[] }, { accessFlags := 25, nameIndex := 498, descriptorIndex := 392, attributes := #[] }, { accessFlags := 25, nameIndex := 499, descriptorIndex := 392, attributes := #[] }, { accessFlags := 18, nameIndex := 21, descriptorIndex := 22, attributes := #[] }, { accessFlags := 26, nameIndex := 501, descriptorIndex := 502, attributes := #[] }, { accessFlags := 25, nameIndex := 505, descriptorIndex := 392, attributes := #[] }, { accessFlags := 25, nameIndex := 506, descriptorIndex := 392, attributes := #[] }, { accessFlags := 4120, nameIndex := 284, descriptorIndex := 285, attributes := #[] }])
  fields := #[{ name := "MIN_RADIX", type := .int, accessFlags := 25, slot := 0, constantValue := 0 }, { name := "MAX_RADIX", type := .int, accessFlags := 25, slot := 1, constantValue := 0 }, { name := "MIN_VALUE", type := .char, accessFlags := 25, slot := 2, constantValue := 0 }, { name := "MAX_VALUE", type := .char, accessFlags := 25, slot := 3, constantValue := 0 }, { name := "TYPE", type := (.object "java/lang/Class"), accessFlags := 25, slot := 4, constantValue := 0 }, { name := "UNASSIGNED", type := .byte, accessFlags := 25, slot := 5, constantValue := 0 }, { name := "UPPERCASE_LETTER", type := .byte, accessFlags := 25, slot := 6, constantValue := 0 }, { name := "LOWERCASE_LETTER", type := .byte, accessFlags := 25, slot := 7, constantValue := 0 }, { name := "TITLECASE_LETTER", type := .byte, accessFlags := 25, slot := 8, constantValue := 0 }, { name := "MODIFIER_LETTER", type := .byte, accessFlags := 25, slot := 9, constantValue := 0 }, { name := "OTHER_LETTER", type := .byte, accessFlags := 25, slot := 10, constantValue := 0 }, { name := "NON_SPACING_MARK", type := .byte, accessFlags := 25, slot := 11, constantValue := 0 }, { name := "ENCLOSING_MARK", type := .byte, accessFlags := 25, slot := 12, constantValue := 0 }, { name := "COMBINING_SPACING_MARK", type := .byte, accessFlags := 25, slot := 13, constantValue := 0 }, { name := "DECIMAL_DIGIT_NUMBER", type := .byte, accessFlags := 25, slot := 14, constantValue := 0 }, { name := "LETTER_NUMBER", type := .byte, accessFlags := 25, slot := 15, constantValue := 0 }, { name := "OTHER_NUMBER", type := .byte, accessFlags := 25, slot := 16, constantValue := 0 }, { name := "SPACE_SEPARATOR", type := .byte, accessFlags := 25, slot := 17, constantValue := 0 }, { name := "LINE_SEPARATOR", type := .byte, accessFlags := 25, slot := 18, constantValue := 0 }, { name := "PARAGRAPH_SEPARATOR", type := .byte, accessFlags := 25, slot := 19, constantValue := 0 }, { name := "CONTROL", type := .byte, accessFlags := 25, slot := 20, constantValue := 0 }, { name := "FORMAT", type := .byte, accessFlags := 25, slot := 21, constantValue := 0 }, { name := "PRIVATE_USE", type := .byte, accessFlags := 25, slot := 22, constantValue := 0 }, { name := "SURROGATE", type := .byte, accessFlags := 25, slot := 23, constantValue := 0 }, { name := "DASH_PUNCTUATION", type := .byte, accessFlags := 25, slot := 24, constantValue := 0 }, { name := "START_PUNCTUATION", type := .byte, accessFlags := 25, slot := 25, constantValue := 0 }, { name := "END_PUNCTUATION", type := .byte, accessFlags := 25, slot := 26, constantValue := 0 }, { name := "CONNECTOR_PUNCTUATION", type := .byte, accessFlags := 25, slot := 27, constantValue := 0 }, { name := "OTHER_PUNCTUATION", type := .byte, accessFlags := 25, slot := 28, constantValue := 0 }, { name := "MATH_SYMBOL", type := .byte, accessFlags := 25, slot := 29, constantValue := 0 }, { name := "CURRENCY_SYMBOL", type := .byte, accessFlags := 25, slot := 30, constantValue := 0 }, { name := "MODIFIER_SYMBOL", type := .byte, accessFlags := 25, slot := 31, constantValue := 0 }, { name := "OTHER_SYMBOL", type := .byte, accessFlags := 25, slot := 32, constantValue := 0 }, { name := "INITIAL_QUOTE_PUNCTUATION", type := .byte, accessFlags := 25, slot := 33, constantValue := 0 }, { name := "FINAL_QUOTE_PUNCTUATION", type := .byte, accessFlags := 25, slot := 34, constantValue := 0 }, { name := "ERROR", type := .int, accessFlags := 24, slot := 35, constantValue := 0 }, { name := "DIRECTIONALITY_UNDEFINED", type := .byte, accessFlags := 25, slot := 36, constantValue := 0 }, { name := "DIRECTIONALITY_LEFT_TO_RIGHT", type := .byte, accessFlags := 25, slot := 37, constantValue := 0 }, { name := "DIRECTIONALITY_RIGHT_TO_LEFT", type := .byte, accessFlags := 25, slot := 38, constantValue := 0 }, { name := "DIRECTIONALITY_RIGHT_TO_LEFT_ARABIC", type := .byte, accessFlags := 25, slot := 39, constantValue := 0 }, { name := "DIRECTIONALITY_EUROPEAN_NUMBER", type := .byte, accessFlags := 25, slot := 40, constantValue := 0 }, { name := "DIRECTIONALITY_EUROPEAN_NUMBER_SEPARATOR", type := .byte, accessFlags := 25, slot := 41, constantValue := 0 }, { name := "DIRECTIONALITY_EUROPEAN_NUMBER_TERMINATOR", type := .byte, accessFlags := 25, slot := 42, constantValue := 0 }, { name := "DIRECTIONALITY_ARABIC_NUMBER", type := .byte, accessFlags := 25, slot := 43, constantValue := 0 }, { name := "DIRECTIONALITY_COMMON_NUMBER_SEPARATOR", type := .byte, accessFlags := 25, slot := 44, constantValue := 0 }, { name := "DIRECTIONALITY_NONSPACING_MARK", type := .byte, accessFlags := 25, slot := 45, constantValue := 0 }, { name := "DIRECTIONALITY_BOUNDARY_NEUTRAL", type := .byte, accessFlags := 25, slot := 46, constantValue := 0 }, { name := "DIRECTIONALITY_PARAGRAPH_SEPARATOR", type := .byte, accessFlags := 25, slot := 47, constantValue := 0 }, { name := "DIRECTIONALITY_SEGMENT_SEPARATOR", type := .byte, accessFlags := 25, slot := 48, constantValue := 0 }, { name := "DIRECTIONALITY_WHITESPACE", type := .byte, accessFlags := 25, slot := 49, constantValue := 0 }, { name := "DIRECTIONALITY_OTHER_NEUTRALS", type := .byte, accessFlags := 25, slot := 50, constantValue := 0 }, { name := "DIRECTIONALITY_LEFT_TO_RIGHT_EMBEDDING", type := .byte, accessFlags := 25, slot := 51, constantValue := 0 }, { name := "DIRECTIONALITY_LEFT_TO_RIGHT_OVERRIDE", type := .byte, accessFlags := 25, slot := 52, constantValue := 0 }, { name := "DIRECTIONALITY_RIGHT_TO_LEFT_EMBEDDING", type := .byte, accessFlags := 25, slot := 53, constantValue := 0 }, { name := "DIRECTIONALITY_RIGHT_TO_LEFT_OVERRIDE", type := .byte, accessFlags := 25, slot := 54, constantValue := 0 }, { name := "DIRECTIONALITY_POP_DIRECTIONAL_FORMAT", type := .byte, accessFlags := 25, slot := 55, constantValue := 0 }, { name := "DIRECTIONALITY_LEFT_TO_RIGHT_ISOLATE", type := .byte, accessFlags := 25, slot := 56, constantValue := 0 }, { name := "DIRECTIONALITY_RIGHT_TO_LEFT_ISOLATE", type := .byte, accessFlags := 25, slot := 57, constantValue := 0 }, { name := "DIRECTIONALITY_FIRST_STRONG_ISOLATE", type := .byte, accessFlags := 25, slot := 58, constantValue := 0 }, { name := "DIRECTIONALITY_POP_DIRECTIONAL_ISOLATE", type := .byte, accessFlags := 25, slot := 59, constantValue := 0 }, { name := "MIN_HIGH_SURROGATE", type := .char, accessFlags := 25, slot := 60, constantValue := 0 }, { name := "MAX_HIGH_SURROGATE", type := .char, accessFlags := 25, slot := 61, constantValue := 0 }, { name := "MIN_LOW_SURROGATE", type := .char, accessFlags := 25, slot := 62, constantValue := 0 }, { name := "MAX_LOW_SURROGATE", type := .char, accessFlags := 25, slot := 63, constantValue := 0 }, { name := "MIN_SURROGATE", type := .char, accessFlags := 25, slot := 64, constantValue := 0 }, { name := "MAX_SURROGATE", type := .char, accessFlags := 25, slot := 65, constantValue := 0 }, { name := "MIN_SUPPLEMENTARY_CODE_POINT", type := .int, accessFlags := 25, slot := 66, constantValue := 0 }, { name := "MIN_CODE_POINT", type := .int, accessFlags := 25, slot := 67, constantValue := 0 }, { name := "MAX_CODE_POINT", type := .int, accessFlags := 25, slot := 68, constantValue := 0 }, { name := "value", type := .char, accessFlags := 18, slot := 0, constantValue := 0 }, { name := "serialVersionUID", type := .long, accessFlags := 26, slot := 69, constantValue := 0 }, { name := "SIZE", type := .int, accessFlags := 25, slot := 70, constantValue := 0 }, { name := "BYTES", type := .int, accessFlags := 25, slot := 71, constantValue := 0 }, { name := "$assertionsDisabled", type := .boolean, accessFlags := 4120, slot := 72, constantValue := 0 }]
  methods := #[k13m0, k13m1, k13m2, k13m3]
  instanceTypes := #[.char]
  staticTypes := #[.int, .int, .char, .char, (.object "java/lang/Class"), .byte, .byte, .byte, .byte, .byte, .byte, .byte, .byte, .byte, .byte, .byte, .byte, .byte, .byte, .byte, .byte, .byte, .byte, .byte, .byte, .byte, .byte, .byte, .byte, .byte, .byte, .byte, .byte, .byte, .byte, .int, .byte, .byte, .byte, .byte, .byte, .byte, .byte, .byte, .byte, .byte, .byte, .byte, .byte, .byte, .byte, .byte, .byte, .byte, .byte, .byte, .byte, .byte, .byte, .byte, .char, .char, .char, .char, .char, .char, .int, .int, .int, .long, .int, .int, .boolean]
  resolved := Array.replicate 604 none
  statics := none }

def pool14 : Array CpInfo := pool [(4, .class_ 6), (1, u "java/lang/Object"), (0, u "<init>"), (0, u "()V"), (5, .class_ 16), (1, u "java/lang/StringLatin1"), (104, u "$assertionsDisabled"), (0, u "Z"), (98, .class_ 223), (1, u "java/lang/StringLatin1$LinesSpliterator"), (166, .class_ 391), (0, u "java/lang/StringLatin1$CharsSpliterator")] 3

def k14m0 : Method := { name := "<init>", desc := "()V", sig := { parameters := [], returnType := none }, accessFlags := 0, code := none }
/-- java/lang/StringLatin1 -/
def k14 : Class := { plain "java/lang/StringLatin1" (some 0) with
  accessFlags := 48
  interfaces := #[]
  cf := some (fileOf pool14 14 #[.nestMembers #[390, 221]] #[{ accessFlags := 0, nameIndex := 7, descriptorIndex := 8, attributes := #[] }] 48 4 #[] #[{ accessFlags := 4120, nameIndex := 121, descriptorIndex := 122, attributes := #[] }])
  fields := #[{ name := "$assertionsDisabled", type := .boolean, accessFlags := 4120, slot := 0, constantValue := 0 }]
  methods := #[k14m0]
  instanceTypes := #[]
  staticTypes := #[.boolean]
  resolved := Array.replicate 395 none
  statics := none }

def pool15 : Array CpInfo := pool [(9, u "<init>"), (6, .class_ 18), (1, u "java/lang/Object"), (0, u "()V"), (1, .class_ 23), (1, u "jdk/internal/util/ArraysSupport"), (0, u "LOG2_ARRAY_LONG_INDEX_SCALE"), (0, u "I"), (2, u "U"), (0, u "Ljdk/internal/misc/Unsafe;"), (8, u "BIG_ENDIAN"), (0, u "Z"), (8, u "LOG2_BYTE_BIT_SIZE"), (4, u "LOG2_ARRAY_INT_INDEX_SCALE"), (54, u "JLA"), (0, u "Ljdk/internal/access/JavaLangAccess;"), (11, u "LOG2_ARRAY_BOOLEAN_INDEX_SCALE"), (9, u "LOG2_ARRAY_BYTE_INDEX_SCALE"), (5, u "LOG2_ARRAY_CHAR_INDEX_SCALE"), (5, u "LOG2_ARRAY_SHORT_INDEX_SCALE"), (18, u "LOG2_ARRAY_FLOAT_INDEX_SCALE"), (24, u "LOG2_ARRAY_DOUBLE_INDEX_SCALE"), (89, u "T_BOOLEAN"), (2, u "T_CHAR"), (1, u "T_FLOAT"), (1, u "T_DOUBLE"), (1, u "T_BYTE"), (1, u "T_SHORT"), (1, u "T_INT"), (1, u "T_LONG"), (1, u "SOFT_MAX_ARRAY_LENGTH")] 83

def k15m0 : Method := { name := "<init>", desc := "()V", sig := { parameters := [], returnType := none }, accessFlags := 2, code := none }
/-- jdk/internal/util/ArraysSupport -/
def k15 : Class := { plain "jdk/internal/util/ArraysSupport" (some 0) with
  accessFlags := 33
  interfaces := #[]
  cf := some (fileOf pool15 21 #[] #[{ accessFlags := 2, nameIndex := 9, descriptorIndex := 19, attributes := #[] }] 33 16 #[] #[{ accessFlags := 24, nameIndex := 28, descriptorIndex := 29, attributes := #[] }, { accessFlags := 26, nameIndex := 38, descriptorIndex := 39, attributes := #[] }, { accessFlags := 25, nameIndex := 121, descriptorIndex := 25, attributes := #[] }, { accessFlags := 25, nameIndex := 131, descriptorIndex := 25, attributes := #[] }, { accessFlags := 25, nameIndex := 137, descriptorIndex := 25, attributes := #[] }, { accessFlags := 25, nameIndex := 143, descriptorIndex := 25, attributes := #[] }, { accessFlags := 25, nameIndex := 53, descriptorIndex := 25, attributes := #[] }, { accessFlags := 25, nameIndex := 24, descriptorIndex := 25, attributes := #[] }, { accessFlags := 25, nameIndex := 162, descriptorIndex := 25, attributes := #[] }, { accessFlags := 25, nameIndex := 187, descriptorIndex := 25, attributes := #[] }, { accessFlags := 26, nameIndex := 48, descriptorIndex := 25, attributes := #[] }, { accessFlags := 25, nameIndex := 277, descriptorIndex := 25, attributes := #[] }, { accessFlags := 25, nameIndex := 280, descriptorIndex := 25, attributes := #[] }, { accessFlags := 25, nameIndex := 282, descriptorIndex := 25, attributes := #[] }, { accessFlags := 25, nameIndex := 284, descriptorIndex := 25, attributes := #[] }, { accessFlags := 25, nameIndex := 286, descriptorIndex := 25, attributes := #[] }, { accessFlags := 25, nameIndex := 288, descriptorIndex := 25, attributes := #[] }, { accessFlags := 25, nameIndex := 290, descriptorIndex := 25, attributes := #[] }, { accessFlags := 25, nameIndex := 292, descriptorIndex := 25, attributes := #[] }, { accessFlags := 26, nameIndex := 108, descriptorIndex := 109, attributes := #[] }, { accessFlags := 25, nameIndex := 294, descriptorIndex := 25, attributes := #[] }])
  fields := #[{ name := "U", type := (.object "jdk/internal/misc/Unsafe"), accessFlags := 24, slot := 0, constantValue := 0 }, { name := "BIG_ENDIAN", type := .boolean, accessFlags := 26, slot := 1, constantValue := 0 }, { name := "LOG2_ARRAY_BOOLEAN_INDEX_SCALE", type := .int, accessFlags := 25, slot := 2, constantValue := 0 }, { name := "LOG2_ARRAY_BYTE_INDEX_SCALE", type := .int, accessFlags := 25, slot := 3, constantValue := 0 }, { name := "LOG2_ARRAY_CHAR_INDEX_SCALE", type := .int, accessFlags := 25, slot := 4, constantValue := 0 }, { name := "LOG2_ARRAY_SHORT_INDEX_SCALE", type := .int, accessFlags := 25, slot := 5, constantValue := 0 }, { name := "LOG2_ARRAY_INT_INDEX_SCALE", type := .int, accessFlags := 25, slot := 6, constantValue := 0 }, { name := "LOG2_ARRAY_LONG_INDEX_SCALE", type := .int, accessFlags := 25, slot := 7, constantValue := 0 }, { name := "LOG2_ARRAY_FLOAT_INDEX_SCALE", type := .int, accessFlags := 25, slot := 8, constantValue := 0 }, { name := "LOG2_ARRAY_DOUBLE_INDEX_SCALE", type := .int, accessFlags := 25, slot := 9, constantValue := 0 }, { name := "LOG2_BYTE_BIT_SIZE", type := .int, accessFlags := 26, slot := 10, constantValue := 0 }, { name := "T_BOOLEAN", type := .int, accessFlags := 25, slot := 11, constantValue := 0 }, { name := "T_CHAR", type := .int, accessFlags := 25, slot := 12, constantValue := 0 }, { name := "T_FLOAT", type := .int, accessFlags := 25, slot := 13, constantValue := 0 }, { name := "T_DOUBLE", type := .int, accessFlags := 25, slot := 14, constantValue := 0 }, { name := "T_BYTE", type := .int, accessFlags := 25, slot := 15, constantValue := 0 }, { name := "T_SHORT", type := .int, accessFlags := 25, slot := 16, constantValue := 0 }, { name := "T_INT", type := .int, accessFlags := 25, slot := 17, constantValue := 0 }, { name := "T_LONG", type := .int, accessFlags := 25, slot := 18, constantValue := 0 }, { name := "JLA", type := (.object "jdk/internal/access/JavaLangAccess"), accessFlags := 26, slot := 19, constantValue := 0 }, { name := "SOFT_MAX_ARRAY_LENGTH", type := .int, accessFlags := 25, slot := 20, constantValue := 0 }]
  methods := #[k15m0]
  instanceTypes := #[]
  staticTypes := #[(.object "jdk/internal/misc/Unsafe"), .boolean, .int, .int, .int, .int, .int, .int, .int, .int, .int, .int, .int, .int, .int, .int, .int, .int, .int, (.object "jdk/internal/access/JavaLangAccess"), .int]
  resolved := Array.replicate 378 none
  statics := none }

def pool16 : Array CpInfo := pool [(1, u "java/lang/Cloneable"), (0, .class_ 1), (0, u "java/lang/Object"), (0, .class_ 3)] 3

/-- java/lang/Cloneable -/
def k16 : Class := { plain "java/lang/Cloneable" (some 0) with
  accessFlags := 1537
  interfaces := #[]
  cf := some (fileOf pool16 2 #[] #[] 1537 4 #[] #[])
  fields := #[]
  methods := #[]
  instanceTypes := #[]
  staticTypes := #[]
  resolved := Array.replicate 8 none
  statics := none }

/-- the primitive byte -/
def k17 : Class := { plain "byte" none with kind := .primitive 'B', accessFlags := 0x411 }
/-- [B -/
def k18 : Class := { plain "[B" (some 0) with kind := .array 17 .byte, interfaces := #[16, 2], accessFlags := 1041 }

/-- the primitive char -/
def k19 : Class := { plain "char" none with kind := .primitive 'C', accessFlags := 0x411 }
/-- [C -/
def k20 : Class := { plain "[C" (some 0) with kind := .array 19 .char, interfaces := #[16, 2], accessFlags := 1041 }

/-- the primitive int -/
def k21 : Class := { plain "int" none with kind := .primitive 'I', accessFlags := 0x411 }
/-- [I -/
def k22 : Class := { plain "[I" (some 0) with kind := .array 21 .int, interfaces := #[16, 2], accessFlags := 1041 }

def heap : Heap := #[{ cls := 7, slots := #[.long 0, .int 1, .null, .int 0, .null, .int 0, .int 0], vm := .statics 7 },
  { cls := 8, slots := #[.int 0, .int 8, .int 0, .int 1], vm := .statics 8 },
  { cls := 12, slots := #[.null, .null, .null], vm := .statics 12 }]
def classes : Array Class := #[k0, k1, k2, k3, k4, k5, k6, k7, k8, k9, k10, k11, k12, k13, k14, k15, k16, k17, k18, k19, k20, k21, k22]
def interned : List (Array UInt16 × Addr) := []
def slotsUsed : Nat := 14
def theMethod : MethodId := ⟨1, 1⟩
def args0 : Array Value := #[.long 0, .int 0, .long 0, .int 0, .int 0]
def aboutOver (below : List Frame) : State where
  vm := { classes := classes, interned := interned.toArray }
  heap := heap
  slotsUsed := slotsUsed
  threads := #[{ frames := .invoking theMethod args0 :: below }]
def below0 : List Frame := [.native { method := ⟨0, 0⟩, args := #[] }]
def about1 : State := aboutOver below0
def p0 : Program := .bare "" "" ""
def e0 : Env := launch0.env 0 0 0
theorem w_frames : about1.frames = Frame.invoking theMethod args0 :: below0 := rfl
set_option maxRecDepth 65536 in
theorem w_args : argsFit about1.vm theMethod args0 = true := by decide +kernel
set_option maxRecDepth 65536 in
theorem w_heap : heapFits about1 = true := by decide +kernel
set_option maxRecDepth 65536 in
theorem w_runnable : about1.curStatus? = some .runnable := by decide +kernel
set_option maxRecDepth 65536 in
theorem w_alone : about1.alone = true := by decide +kernel
set_option maxRecDepth 65536 in
theorem w_named : about1.methodNamed? x = some theMethod := by decide +kernel
set_option maxRecDepth 65536 in
theorem w_hears : about1.hears theMethod below0 = true := by decide +kernel
set_option maxRecDepth 65536 in
theorem w_ripe : about1.ripe theMethod args0 below0 = true := by decide +kernel
theorem w_running : about1.status = .running := rfl
set_option maxRecDepth 65536 in
theorem w_room : about1.hasRoom e0.platform room_1 = true :=
  launch0.hasRoom_least _ room_1 (by decide +kernel) (by decide +kernel) (by decide +kernel) (by decide +kernel) (by decide +kernel) (by decide +kernel)
theorem allAtoms_all (ts : List Jvm.Cond) (a : Array Jvm.Value) (st : Jvm.State) : (allAtoms ts).before a st = ts.all (fun c => c.before a st) := by
  induction ts with
  | nil => rfl
  | cons c t ih =>
    show (Jvm.Cond.and c (allAtoms t)).before a st = _
    rw [Jvm.Cond.before_and, ih, List.all_cons]
def words1 : List Jvm.Cond := Jvm.Cond.code x code maxLocals ret :: tables_1
/-- a 'code' word, met by the world's own term for the bytes: nothing is compared byte by byte -/
theorem code_word {y : MethodName} {bytes : ByteArray} {mx : Nat} {rt : Option FieldType} {a : Array Value} {s : State} {m : MethodId} {meth : Method} {c : Code} (h1 : s.methodNamed? y = some m) (h2 : s.vm.method? m = some meth) (h3 : meth.code = some c) (h4 : c.code = bytes)
    (h5 : (c.maxLocals == mx && c.exceptionTable.isEmpty && decide (c.maxStack ≤ mostOperands) && decide (meth.sig.returnType = rt) && !meth.locks && decide (parseMethodDescriptor y.desc = some meth.sig)) = true) : (Jvm.Cond.code y bytes mx rt).before a s = true := by
  simp only [Bool.and_eq_true, beq_iff_eq, Bool.not_eq_true', decide_eq_true_eq] at h5
  obtain ⟨⟨⟨⟨⟨g1, g2⟩, g3⟩, g4⟩, g5⟩, g6⟩ := h5
  simp [Cond.before, Cond.holds, Cond.value, h1, h2, h3, h4, g1, g2, g3, g4, g5, g6]
def isCode : Jvm.Cond → Bool
  | .code _ _ _ _ => true
  | _ => false
theorem all_split {L : List Jvm.Cond} {P : Jvm.Cond → Bool} (h1 : L.all (fun c => isCode c || P c) = true) (h2 : ∀ c ∈ L.filter isCode, P c = true) : L.all P = true := by
  refine List.all_eq_true.mpr fun c hc => ?_
  have h := List.all_eq_true.mp h1 c hc
  rcases Bool.eq_false_or_eq_true (isCode c) with hi | hi
  · exact h2 c (List.mem_filter.mpr ⟨hc, hi⟩)
  · simpa [hi] using h
set_option maxRecDepth 65536 in
theorem w_c0 : (Jvm.Cond.code x code maxLocals ret).before args0 about1 = true := code_word (m := ⟨1, 1⟩) (meth := k1m1) (c := k1c1) (by decide +kernel) rfl rfl rfl (by decide +kernel)
set_option maxRecDepth 65536 in
theorem w_c1 : (Jvm.Cond.code ({ cls := "com/example/muster/muster/campaign/TextOrderComparePinLaw", name := "mk", desc := "(I)C" } : Jvm.MethodName) method_3_code (3 : Nat) (Option.some Jvm.ClassFile.FieldType.char)).before args0 about1 = true := code_word (m := ⟨1, 2⟩) (meth := k1m2) (c := k1c2) (by decide +kernel) rfl rfl rfl (by decide +kernel)
set_option maxRecDepth 65536 in
theorem w_c2 : (Jvm.Cond.code ({ cls := "com/example/muster/muster/campaign/TextOrderComparePinLaw", name := "str", desc := "(CCCI)Ljava/lang/String;" } : Jvm.MethodName) method_4_code (4 : Nat) (Option.some (Jvm.ClassFile.FieldType.object "java/lang/String"))).before args0 about1 = true := code_word (m := ⟨1, 3⟩) (meth := k1m3) (c := k1c3) (by decide +kernel) rfl rfl rfl (by decide +kernel)
set_option maxRecDepth 65536 in
theorem w_c3 : (Jvm.Cond.code ({ cls := "java/lang/String", name := "<init>", desc := "([C)V" } : Jvm.MethodName) jdk_42_method_3_code (2 : Nat) (Option.none : Option Jvm.ClassFile.FieldType)).before args0 about1 = true := code_word (m := ⟨7, 1⟩) (meth := k7m1) (c := k7c1) (by decide +kernel) rfl rfl rfl (by decide +kernel)
set_option maxRecDepth 65536 in
theorem w_c4 : (Jvm.Cond.code ({ cls := "java/lang/String", name := "<init>", desc := "([CIILjava/lang/Void;)V" } : Jvm.MethodName) jdk_42_method_149_code (6 : Nat) (Option.none : Option Jvm.ClassFile.FieldType)).before args0 about1 = true := code_word (m := ⟨7, 4⟩) (meth := k7m4) (c := k7c4) (by decide +kernel) rfl rfl rfl (by decide +kernel)
set_option maxRecDepth 65536 in
theorem w_c5 : (Jvm.Cond.code ({ cls := "java/lang/Object", name := "<init>", desc := "()V" } : Jvm.MethodName) object_method_1_code (1 : Nat) (Option.none : Option Jvm.ClassFile.FieldType)).before args0 about1 = true := code_word (m := ⟨0, 0⟩) (meth := k0m0) (c := k0c0) (by decide +kernel) rfl rfl rfl (by decide +kernel)
set_option maxRecDepth 65536 in
theorem w_c6 : (Jvm.Cond.code ({ cls := "java/lang/StringUTF16", name := "compress", desc := "([CII)[B" } : Jvm.MethodName) jdk_52_method_16_code (6 : Nat) (Option.some (Jvm.ClassFile.FieldType.array Jvm.ClassFile.FieldType.byte))).before args0 about1 = true := code_word (m := ⟨8, 9⟩) (meth := k8m9) (c := k8c9) (by decide +kernel) rfl rfl rfl (by decide +kernel)
set_option maxRecDepth 65536 in
theorem w_c7 : (Jvm.Cond.code ({ cls := "java/lang/StringUTF16", name := "compress", desc := "([CI[BII)I" } : Jvm.MethodName) jdk_52_method_21_code (7 : Nat) (Option.some Jvm.ClassFile.FieldType.int)).before args0 about1 = true := code_word (m := ⟨8, 10⟩) (meth := k8m10) (c := k8c10) (by decide +kernel) rfl rfl rfl (by decide +kernel)
set_option maxRecDepth 65536 in
theorem w_c8 : (Jvm.Cond.code ({ cls := "java/lang/StringUTF16", name := "coderFromArrayLen", desc := "([BI)B" } : Jvm.MethodName) jdk_52_method_15_code (2 : Nat) (Option.some Jvm.ClassFile.FieldType.byte)).before args0 about1 = true := code_word (m := ⟨8, 8⟩) (meth := k8m8) (c := k8c8) (by decide +kernel) rfl rfl rfl (by decide +kernel)
set_option maxRecDepth 65536 in
theorem w_c9 : (Jvm.Cond.code ({ cls := "com/example/muster/muster/campaign/TextOrder", name := "compare", desc := "(Ljava/lang/String;Ljava/lang/String;)I" } : Jvm.MethodName) prog_9_method_2_code (6 : Nat) (Option.some Jvm.ClassFile.FieldType.int)).before args0 about1 = true := code_word (m := ⟨9, 1⟩) (meth := k9m1) (c := k9c1) (by decide +kernel) rfl rfl rfl (by decide +kernel)
set_option maxRecDepth 65536 in
theorem w_c10 : (Jvm.Cond.code ({ cls := "java/lang/String", name := "length", desc := "()I" } : Jvm.MethodName) jdk_42_method_54_code (1 : Nat) (Option.some Jvm.ClassFile.FieldType.int)).before args0 about1 = true := code_word (m := ⟨7, 2⟩) (meth := k7m2) (c := k7c2) (by decide +kernel) rfl rfl rfl (by decide +kernel)
set_option maxRecDepth 65536 in
theorem w_c11 : (Jvm.Cond.code ({ cls := "java/lang/String", name := "coder", desc := "()B" } : Jvm.MethodName) jdk_42_method_152_code (1 : Nat) (Option.some Jvm.ClassFile.FieldType.byte)).before args0 about1 = true := code_word (m := ⟨7, 5⟩) (meth := k7m5) (c := k7c5) (by decide +kernel) rfl rfl rfl (by decide +kernel)
set_option maxRecDepth 65536 in
theorem w_c12 : (Jvm.Cond.code ({ cls := "java/lang/Integer", name := "compare", desc := "(II)I" } : Jvm.MethodName) jdk_33_method_40_code (2 : Nat) (Option.some Jvm.ClassFile.FieldType.int)).before args0 about1 = true := code_word (m := ⟨11, 0⟩) (meth := k11m0) (c := k11c0) (by decide +kernel) rfl rfl rfl (by decide +kernel)
set_option maxRecDepth 65536 in
theorem w_c13 : (Jvm.Cond.code ({ cls := "com/example/muster/muster/campaign/TextOrderComparePinLaw", name := "ref", desc := "([CI[CI)I" } : Jvm.MethodName) method_11_code (14 : Nat) (Option.some Jvm.ClassFile.FieldType.int)).before args0 about1 = true := code_word (m := ⟨1, 10⟩) (meth := k1m10) (c := k1c10) (by decide +kernel) rfl rfl rfl (by decide +kernel)
set_option maxRecDepth 65536 in
theorem w_c14 : (Jvm.Cond.code ({ cls := "com/example/muster/muster/campaign/TextOrderComparePinLaw", name := "at", desc := "([CII)I" } : Jvm.MethodName) method_9_code (3 : Nat) (Option.some Jvm.ClassFile.FieldType.int)).before args0 about1 = true := code_word (m := ⟨1, 8⟩) (meth := k1m8) (c := k1c8) (by decide +kernel) rfl rfl rfl (by decide +kernel)
set_option maxRecDepth 65536 in
theorem w_c15 : (Jvm.Cond.code ({ cls := "com/example/muster/muster/campaign/TextOrderComparePinLaw", name := "pairAt", desc := "([CII)Z" } : Jvm.MethodName) method_7_code (3 : Nat) (Option.some Jvm.ClassFile.FieldType.boolean)).before args0 about1 = true := code_word (m := ⟨1, 6⟩) (meth := k1m6) (c := k1c6) (by decide +kernel) rfl rfl rfl (by decide +kernel)
set_option maxRecDepth 65536 in
theorem w_c16 : (Jvm.Cond.code ({ cls := "com/example/muster/muster/campaign/TextOrderComparePinLaw", name := "high", desc := "(C)Z" } : Jvm.MethodName) method_5_code (1 : Nat) (Option.some Jvm.ClassFile.FieldType.boolean)).before args0 about1 = true := code_word (m := ⟨1, 4⟩) (meth := k1m4) (c := k1c4) (by decide +kernel) rfl rfl rfl (by decide +kernel)
set_option maxRecDepth 65536 in
theorem w_c17 : (Jvm.Cond.code ({ cls := "com/example/muster/muster/campaign/TextOrderComparePinLaw", name := "wid", desc := "([CII)I" } : Jvm.MethodName) method_8_code (3 : Nat) (Option.some Jvm.ClassFile.FieldType.int)).before args0 about1 = true := code_word (m := ⟨1, 7⟩) (meth := k1m7) (c := k1c7) (by decide +kernel) rfl rfl rfl (by decide +kernel)
set_option maxRecDepth 65536 in
theorem w_c18 : (Jvm.Cond.code ({ cls := "com/example/muster/muster/campaign/TextOrderComparePinLaw", name := "cmp", desc := "(II)I" } : Jvm.MethodName) method_10_code (2 : Nat) (Option.some Jvm.ClassFile.FieldType.int)).before args0 about1 = true := code_word (m := ⟨1, 9⟩) (meth := k1m9) (c := k1c9) (by decide +kernel) rfl rfl rfl (by decide +kernel)
set_option maxRecDepth 65536 in
theorem w_c19 : (Jvm.Cond.code ({ cls := "com/example/muster/muster/campaign/TextOrderComparePinLaw", name := "sgn", desc := "(I)I" } : Jvm.MethodName) method_12_code (1 : Nat) (Option.some Jvm.ClassFile.FieldType.int)).before args0 about1 = true := code_word (m := ⟨1, 11⟩) (meth := k1m11) (c := k1c11) (by decide +kernel) rfl rfl rfl (by decide +kernel)
set_option maxRecDepth 65536 in
theorem w_c20 : (Jvm.Cond.code ({ cls := "java/lang/StringUTF16", name := "toBytes", desc := "([CII)[B" } : Jvm.MethodName) jdk_52_method_14_code (5 : Nat) (Option.some (Jvm.ClassFile.FieldType.array Jvm.ClassFile.FieldType.byte))).before args0 about1 = true := code_word (m := ⟨8, 7⟩) (meth := k8m7) (c := k8c7) (by decide +kernel) rfl rfl rfl (by decide +kernel)
set_option maxRecDepth 65536 in
theorem w_c21 : (Jvm.Cond.code ({ cls := "java/lang/StringUTF16", name := "newBytesFor", desc := "(I)[B" } : Jvm.MethodName) jdk_52_method_2_code (1 : Nat) (Option.some (Jvm.ClassFile.FieldType.array Jvm.ClassFile.FieldType.byte))).before args0 about1 = true := code_word (m := ⟨8, 1⟩) (meth := k8m1) (c := k8c1) (by decide +kernel) rfl rfl rfl (by decide +kernel)
set_option maxRecDepth 65536 in
theorem w_c22 : (Jvm.Cond.code ({ cls := "java/lang/StringUTF16", name := "newBytesLength", desc := "(I)I" } : Jvm.MethodName) jdk_52_method_3_code (1 : Nat) (Option.some Jvm.ClassFile.FieldType.int)).before args0 about1 = true := code_word (m := ⟨8, 2⟩) (meth := k8m2) (c := k8c2) (by decide +kernel) rfl rfl rfl (by decide +kernel)
set_option maxRecDepth 65536 in
theorem w_c23 : (Jvm.Cond.code ({ cls := "java/lang/StringUTF16", name := "putChar", desc := "([BII)V" } : Jvm.MethodName) jdk_52_method_4_code (3 : Nat) (Option.none : Option Jvm.ClassFile.FieldType)).before args0 about1 = true := code_word (m := ⟨8, 3⟩) (meth := k8m3) (c := k8c3) (by decide +kernel) rfl rfl rfl (by decide +kernel)
set_option maxRecDepth 65536 in
theorem w_c24 : (Jvm.Cond.code ({ cls := "java/lang/StringUTF16", name := "getChar", desc := "([BI)C" } : Jvm.MethodName) jdk_52_method_5_code (2 : Nat) (Option.some Jvm.ClassFile.FieldType.char)).before args0 about1 = true := code_word (m := ⟨8, 4⟩) (meth := k8m4) (c := k8c4) (by decide +kernel) rfl rfl rfl (by decide +kernel)
set_option maxRecDepth 65536 in
theorem w_c25 : (Jvm.Cond.code ({ cls := "java/lang/String", name := "codePointAt", desc := "(I)I" } : Jvm.MethodName) jdk_42_method_57_code (3 : Nat) (Option.some Jvm.ClassFile.FieldType.int)).before args0 about1 = true := code_word (m := ⟨7, 3⟩) (meth := k7m3) (c := k7c3) (by decide +kernel) rfl rfl rfl (by decide +kernel)
set_option maxRecDepth 65536 in
theorem w_c26 : (Jvm.Cond.code ({ cls := "java/lang/String", name := "isLatin1", desc := "()Z" } : Jvm.MethodName) jdk_42_method_154_code (1 : Nat) (Option.some Jvm.ClassFile.FieldType.boolean)).before args0 about1 = true := code_word (m := ⟨7, 6⟩) (meth := k7m6) (c := k7c6) (by decide +kernel) rfl rfl rfl (by decide +kernel)
set_option maxRecDepth 65536 in
theorem w_c27 : (Jvm.Cond.code ({ cls := "java/lang/String", name := "checkIndex", desc := "(II)V" } : Jvm.MethodName) jdk_42_method_155_code (2 : Nat) (Option.none : Option Jvm.ClassFile.FieldType)).before args0 about1 = true := code_word (m := ⟨7, 7⟩) (meth := k7m7) (c := k7c7) (by decide +kernel) rfl rfl rfl (by decide +kernel)
set_option maxRecDepth 65536 in
theorem w_c28 : (Jvm.Cond.code ({ cls := "jdk/internal/util/Preconditions", name := "checkIndex", desc := "(IILjava/util/function/BiFunction;)I" } : Jvm.MethodName) jdk_41_method_11_code (3 : Nat) (Option.some Jvm.ClassFile.FieldType.int)).before args0 about1 = true := code_word (m := ⟨12, 1⟩) (meth := k12m1) (c := k12c1) (by decide +kernel) rfl rfl rfl (by decide +kernel)
set_option maxRecDepth 65536 in
theorem w_c29 : (Jvm.Cond.code ({ cls := "java/lang/StringUTF16", name := "codePointAt", desc := "([BII)I" } : Jvm.MethodName) jdk_52_method_8_code (3 : Nat) (Option.some Jvm.ClassFile.FieldType.int)).before args0 about1 = true := code_word (m := ⟨8, 6⟩) (meth := k8m6) (c := k8c6) (by decide +kernel) rfl rfl rfl (by decide +kernel)
set_option maxRecDepth 65536 in
theorem w_c30 : (Jvm.Cond.code ({ cls := "java/lang/StringUTF16", name := "codePointAt", desc := "([BIIZ)I" } : Jvm.MethodName) jdk_52_method_7_code (6 : Nat) (Option.some Jvm.ClassFile.FieldType.int)).before args0 about1 = true := code_word (m := ⟨8, 5⟩) (meth := k8m5) (c := k8c5) (by decide +kernel) rfl rfl rfl (by decide +kernel)
set_option maxRecDepth 65536 in
theorem w_c31 : (Jvm.Cond.code ({ cls := "java/lang/Character", name := "isHighSurrogate", desc := "(C)Z" } : Jvm.MethodName) jdk_89_method_14_code (1 : Nat) (Option.some Jvm.ClassFile.FieldType.boolean)).before args0 about1 = true := code_word (m := ⟨13, 0⟩) (meth := k13m0) (c := k13c0) (by decide +kernel) rfl rfl rfl (by decide +kernel)
set_option maxRecDepth 65536 in
theorem w_c32 : (Jvm.Cond.code ({ cls := "java/lang/Character", name := "isLowSurrogate", desc := "(C)Z" } : Jvm.MethodName) jdk_89_method_15_code (1 : Nat) (Option.some Jvm.ClassFile.FieldType.boolean)).before args0 about1 = true := code_word (m := ⟨13, 1⟩) (meth := k13m1) (c := k13c1) (by decide +kernel) rfl rfl rfl (by decide +kernel)
set_option maxRecDepth 65536 in
theorem w_c33 : (Jvm.Cond.code ({ cls := "com/example/muster/muster/campaign/TextOrderComparePinLaw", name := "low", desc := "(C)Z" } : Jvm.MethodName) method_6_code (1 : Nat) (Option.some Jvm.ClassFile.FieldType.boolean)).before args0 about1 = true := code_word (m := ⟨1, 5⟩) (meth := k1m5) (c := k1c5) (by decide +kernel) rfl rfl rfl (by decide +kernel)
set_option maxRecDepth 65536 in
theorem w_c34 : (Jvm.Cond.code ({ cls := "java/lang/Character", name := "charCount", desc := "(I)I" } : Jvm.MethodName) jdk_89_method_18_code (1 : Nat) (Option.some Jvm.ClassFile.FieldType.int)).before args0 about1 = true := code_word (m := ⟨13, 2⟩) (meth := k13m2) (c := k13c2) (by decide +kernel) rfl rfl rfl (by decide +kernel)
set_option maxRecDepth 65536 in
theorem w_c35 : (Jvm.Cond.code ({ cls := "java/lang/Character", name := "toCodePoint", desc := "(CC)I" } : Jvm.MethodName) jdk_89_method_19_code (2 : Nat) (Option.some Jvm.ClassFile.FieldType.int)).before args0 about1 = true := code_word (m := ⟨13, 3⟩) (meth := k13m3) (c := k13c3) (by decide +kernel) rfl rfl rfl (by decide +kernel)
def codes1 : List Jvm.Cond := [Jvm.Cond.code x code maxLocals ret, Jvm.Cond.code ({ cls := "com/example/muster/muster/campaign/TextOrderComparePinLaw", name := "mk", desc := "(I)C" } : Jvm.MethodName) method_3_code (3 : Nat) (Option.some Jvm.ClassFile.FieldType.char), Jvm.Cond.code ({ cls := "com/example/muster/muster/campaign/TextOrderComparePinLaw", name := "str", desc := "(CCCI)Ljava/lang/String;" } : Jvm.MethodName) method_4_code (4 : Nat) (Option.some (Jvm.ClassFile.FieldType.object "java/lang/String")), Jvm.Cond.code ({ cls := "java/lang/String", name := "<init>", desc := "([C)V" } : Jvm.MethodName) jdk_42_method_3_code (2 : Nat) (Option.none : Option Jvm.ClassFile.FieldType), Jvm.Cond.code ({ cls := "java/lang/String", name := "<init>", desc := "([CIILjava/lang/Void;)V" } : Jvm.MethodName) jdk_42_method_149_code (6 : Nat) (Option.none : Option Jvm.ClassFile.FieldType), Jvm.Cond.code ({ cls := "java/lang/Object", name := "<init>", desc := "()V" } : Jvm.MethodName) object_method_1_code (1 : Nat) (Option.none : Option Jvm.ClassFile.FieldType), Jvm.Cond.code ({ cls := "java/lang/StringUTF16", name := "compress", desc := "([CII)[B" } : Jvm.MethodName) jdk_52_method_16_code (6 : Nat) (Option.some (Jvm.ClassFile.FieldType.array Jvm.ClassFile.FieldType.byte)), Jvm.Cond.code ({ cls := "java/lang/StringUTF16", name := "compress", desc := "([CI[BII)I" } : Jvm.MethodName) jdk_52_method_21_code (7 : Nat) (Option.some Jvm.ClassFile.FieldType.int), Jvm.Cond.code ({ cls := "java/lang/StringUTF16", name := "coderFromArrayLen", desc := "([BI)B" } : Jvm.MethodName) jdk_52_method_15_code (2 : Nat) (Option.some Jvm.ClassFile.FieldType.byte), Jvm.Cond.code ({ cls := "com/example/muster/muster/campaign/TextOrder", name := "compare", desc := "(Ljava/lang/String;Ljava/lang/String;)I" } : Jvm.MethodName) prog_9_method_2_code (6 : Nat) (Option.some Jvm.ClassFile.FieldType.int), Jvm.Cond.code ({ cls := "java/lang/String", name := "length", desc := "()I" } : Jvm.MethodName) jdk_42_method_54_code (1 : Nat) (Option.some Jvm.ClassFile.FieldType.int), Jvm.Cond.code ({ cls := "java/lang/String", name := "coder", desc := "()B" } : Jvm.MethodName) jdk_42_method_152_code (1 : Nat) (Option.some Jvm.ClassFile.FieldType.byte), Jvm.Cond.code ({ cls := "java/lang/Integer", name := "compare", desc := "(II)I" } : Jvm.MethodName) jdk_33_method_40_code (2 : Nat) (Option.some Jvm.ClassFile.FieldType.int), Jvm.Cond.code ({ cls := "com/example/muster/muster/campaign/TextOrderComparePinLaw", name := "ref", desc := "([CI[CI)I" } : Jvm.MethodName) method_11_code (14 : Nat) (Option.some Jvm.ClassFile.FieldType.int), Jvm.Cond.code ({ cls := "com/example/muster/muster/campaign/TextOrderComparePinLaw", name := "at", desc := "([CII)I" } : Jvm.MethodName) method_9_code (3 : Nat) (Option.some Jvm.ClassFile.FieldType.int), Jvm.Cond.code ({ cls := "com/example/muster/muster/campaign/TextOrderComparePinLaw", name := "pairAt", desc := "([CII)Z" } : Jvm.MethodName) method_7_code (3 : Nat) (Option.some Jvm.ClassFile.FieldType.boolean), Jvm.Cond.code ({ cls := "com/example/muster/muster/campaign/TextOrderComparePinLaw", name := "high", desc := "(C)Z" } : Jvm.MethodName) method_5_code (1 : Nat) (Option.some Jvm.ClassFile.FieldType.boolean), Jvm.Cond.code ({ cls := "com/example/muster/muster/campaign/TextOrderComparePinLaw", name := "wid", desc := "([CII)I" } : Jvm.MethodName) method_8_code (3 : Nat) (Option.some Jvm.ClassFile.FieldType.int), Jvm.Cond.code ({ cls := "com/example/muster/muster/campaign/TextOrderComparePinLaw", name := "cmp", desc := "(II)I" } : Jvm.MethodName) method_10_code (2 : Nat) (Option.some Jvm.ClassFile.FieldType.int), Jvm.Cond.code ({ cls := "com/example/muster/muster/campaign/TextOrderComparePinLaw", name := "sgn", desc := "(I)I" } : Jvm.MethodName) method_12_code (1 : Nat) (Option.some Jvm.ClassFile.FieldType.int), Jvm.Cond.code ({ cls := "java/lang/StringUTF16", name := "toBytes", desc := "([CII)[B" } : Jvm.MethodName) jdk_52_method_14_code (5 : Nat) (Option.some (Jvm.ClassFile.FieldType.array Jvm.ClassFile.FieldType.byte)), Jvm.Cond.code ({ cls := "java/lang/StringUTF16", name := "newBytesFor", desc := "(I)[B" } : Jvm.MethodName) jdk_52_method_2_code (1 : Nat) (Option.some (Jvm.ClassFile.FieldType.array Jvm.ClassFile.FieldType.byte)), Jvm.Cond.code ({ cls := "java/lang/StringUTF16", name := "newBytesLength", desc := "(I)I" } : Jvm.MethodName) jdk_52_method_3_code (1 : Nat) (Option.some Jvm.ClassFile.FieldType.int), Jvm.Cond.code ({ cls := "java/lang/StringUTF16", name := "putChar", desc := "([BII)V" } : Jvm.MethodName) jdk_52_method_4_code (3 : Nat) (Option.none : Option Jvm.ClassFile.FieldType), Jvm.Cond.code ({ cls := "java/lang/StringUTF16", name := "getChar", desc := "([BI)C" } : Jvm.MethodName) jdk_52_method_5_code (2 : Nat) (Option.some Jvm.ClassFile.FieldType.char), Jvm.Cond.code ({ cls := "java/lang/String", name := "codePointAt", desc := "(I)I" } : Jvm.MethodName) jdk_42_method_57_code (3 : Nat) (Option.some Jvm.ClassFile.FieldType.int), Jvm.Cond.code ({ cls := "java/lang/String", name := "isLatin1", desc := "()Z" } : Jvm.MethodName) jdk_42_method_154_code (1 : Nat) (Option.some Jvm.ClassFile.FieldType.boolean), Jvm.Cond.code ({ cls := "java/lang/String", name := "checkIndex", desc := "(II)V" } : Jvm.MethodName) jdk_42_method_155_code (2 : Nat) (Option.none : Option Jvm.ClassFile.FieldType), Jvm.Cond.code ({ cls := "jdk/internal/util/Preconditions", name := "checkIndex", desc := "(IILjava/util/function/BiFunction;)I" } : Jvm.MethodName) jdk_41_method_11_code (3 : Nat) (Option.some Jvm.ClassFile.FieldType.int), Jvm.Cond.code ({ cls := "java/lang/StringUTF16", name := "codePointAt", desc := "([BII)I" } : Jvm.MethodName) jdk_52_method_8_code (3 : Nat) (Option.some Jvm.ClassFile.FieldType.int), Jvm.Cond.code ({ cls := "java/lang/StringUTF16", name := "codePointAt", desc := "([BIIZ)I" } : Jvm.MethodName) jdk_52_method_7_code (6 : Nat) (Option.some Jvm.ClassFile.FieldType.int), Jvm.Cond.code ({ cls := "java/lang/Character", name := "isHighSurrogate", desc := "(C)Z" } : Jvm.MethodName) jdk_89_method_14_code (1 : Nat) (Option.some Jvm.ClassFile.FieldType.boolean), Jvm.Cond.code ({ cls := "java/lang/Character", name := "isLowSurrogate", desc := "(C)Z" } : Jvm.MethodName) jdk_89_method_15_code (1 : Nat) (Option.some Jvm.ClassFile.FieldType.boolean), Jvm.Cond.code ({ cls := "com/example/muster/muster/campaign/TextOrderComparePinLaw", name := "low", desc := "(C)Z" } : Jvm.MethodName) method_6_code (1 : Nat) (Option.some Jvm.ClassFile.FieldType.boolean), Jvm.Cond.code ({ cls := "java/lang/Character", name := "charCount", desc := "(I)I" } : Jvm.MethodName) jdk_89_method_18_code (1 : Nat) (Option.some Jvm.ClassFile.FieldType.int), Jvm.Cond.code ({ cls := "java/lang/Character", name := "toCodePoint", desc := "(CC)I" } : Jvm.MethodName) jdk_89_method_19_code (2 : Nat) (Option.some Jvm.ClassFile.FieldType.int)]
set_option maxRecDepth 65536 in
theorem codes_eq : words1.filter isCode = codes1 := rfl
theorem w_codes : ∀ c ∈ words1.filter isCode, c.before args0 about1 = true := by
  rw [codes_eq]
  intro c hc
  simp only [codes1, List.mem_cons, List.not_mem_nil, or_false] at hc
  rcases hc with rfl | rfl | rfl | rfl | rfl | rfl | rfl | rfl | rfl | rfl | rfl | rfl | rfl | rfl | rfl | rfl | rfl | rfl | rfl | rfl | rfl | rfl | rfl | rfl | rfl | rfl | rfl | rfl | rfl | rfl | rfl | rfl | rfl | rfl | rfl | rfl
  · exact w_c0
  · exact w_c1
  · exact w_c2
  · exact w_c3
  · exact w_c4
  · exact w_c5
  · exact w_c6
  · exact w_c7
  · exact w_c8
  · exact w_c9
  · exact w_c10
  · exact w_c11
  · exact w_c12
  · exact w_c13
  · exact w_c14
  · exact w_c15
  · exact w_c16
  · exact w_c17
  · exact w_c18
  · exact w_c19
  · exact w_c20
  · exact w_c21
  · exact w_c22
  · exact w_c23
  · exact w_c24
  · exact w_c25
  · exact w_c26
  · exact w_c27
  · exact w_c28
  · exact w_c29
  · exact w_c30
  · exact w_c31
  · exact w_c32
  · exact w_c33
  · exact w_c34
  · exact w_c35
set_option maxRecDepth 65536 in
theorem w_t1 : (words1.take 24).all (fun c => isCode c || c.before args0 about1) = true := by decide +kernel
set_option maxRecDepth 65536 in
theorem w_t2 : ((words1.drop 24).take 24).all (fun c => isCode c || c.before args0 about1) = true := by decide +kernel
set_option maxRecDepth 65536 in
theorem w_t3 : (((words1.drop 24).drop 24).take 24).all (fun c => isCode c || c.before args0 about1) = true := by decide +kernel
set_option maxRecDepth 65536 in
theorem w_t4 : ((((words1.drop 24).drop 24).drop 24).take 24).all (fun c => isCode c || c.before args0 about1) = true := by decide +kernel
set_option maxRecDepth 65536 in
theorem w_t5 : (((((words1.drop 24).drop 24).drop 24).drop 24).take 24).all (fun c => isCode c || c.before args0 about1) = true := by decide +kernel
set_option maxRecDepth 65536 in
theorem w_t6 : ((((((words1.drop 24).drop 24).drop 24).drop 24).drop 24).take 24).all (fun c => isCode c || c.before args0 about1) = true := by decide +kernel
set_option maxRecDepth 65536 in
theorem w_t7 : ((((((words1.drop 24).drop 24).drop 24).drop 24).drop 24).drop 24).all (fun c => isCode c || c.before args0 about1) = true := by decide +kernel
theorem w_tables : (allAtoms (Jvm.Cond.code x code maxLocals ret :: tables_1)).before args0 about1 = true := by
  rw [allAtoms_all]
  show words1.all (fun c => c.before args0 about1) = true
  refine all_split ?_ w_codes
  rw [← List.take_append_drop 24 words1, List.all_append, w_t1, ← List.take_append_drop 24 (words1.drop 24), List.all_append, w_t2, ← List.take_append_drop 24 ((words1.drop 24).drop 24), List.all_append, w_t3, ← List.take_append_drop 24 (((words1.drop 24).drop 24).drop 24), List.all_append, w_t4, ← List.take_append_drop 24 ((((words1.drop 24).drop 24).drop 24).drop 24), List.all_append, w_t5, ← List.take_append_drop 24 (((((words1.drop 24).drop 24).drop 24).drop 24).drop 24), List.all_append, w_t6, w_t7]
  rfl
set_option maxRecDepth 65536 in
theorem w_rest : rest_1_c.before args0 about1 = true := by decide +kernel
set_option maxRecDepth 65536 in
theorem w_case : (Jvm.Cond.and given_1 narrow_1).before args0 about1 = true := by decide +kernel
set_option maxRecDepth 65536 in
theorem w_consts : constsHeld consts_1 about1 := Jvm.Lit.constsHeldB_iff.mp (by decide +kernel)
theorem w_applies : (headSpec (Jvm.Cond.code x code maxLocals ret :: tables_1) room_1).applies x e0.platform about1 = true :=
  (Spec.applies_iff w_frames).mpr ⟨w_running, w_runnable, w_alone, w_named, w_hears, w_ripe, w_room, w_tables⟩
theorem atStart : AtStart classFile x code maxLocals ret World_1 tables_1 room_1 Calls_1 rest_1 Pre_1 launch0 p0 e0 about1 theMethod args0 below0 :=
  ⟨lists_1, trivial, launch0.admits_env _ _ _, launch0.least_env, fairChoices_fair.cas, fairChoices_fair.clock, w_frames, w_args, w_heap, w_applies, ⟨w_consts, trivial⟩, w_rest, w_case⟩
end start1
theorem witness_1 : WitnessClaimed_1 := ⟨start1.p0, start1.e0, start1.about1, start1.theMethod, start1.args0, start1.below0, start1.atStart⟩
end Jvm.Pilot.@@N@@
