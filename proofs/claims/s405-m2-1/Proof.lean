import JvmDerived
import JvmDerived.Pilot.@@N@@Statement
import JvmDerived.Pilot.@@N@@Code
set_option linter.unusedVariables false
set_option linter.unusedSimpArgs false
namespace Jvm.RoadKit
open Sem ClassFile Op Lib Bundle Jvm.Stand Jvm.Free Jvm.LawKit
section Own
variable {p : Program} {l : Launch} {e : Env} {R : Room} {s : State} {m : MethodId} {args : Array Value} {below : List Frame} {meth : Method} {c : Code} {T : State} {locs : List Loc} {cells slots : Nat} {Z : State} {a0 : Array Value} {h : Heap}
/-- from T, with g on top, this invocation comes to an end of which F holds -/
def own_Go (p : Program) (e : Env) (below : List Frame) (F : State → Outcome → Prop) (T : State) (g : JFrame) : Prop := ∃ s₂ o, Steps p.tables e below (T.setTop g) s₂ ∧ F s₂ o
theorem own_step {F : State → Outcome → Prop} {T' : State} {g g' : JFrame} (h : ∀ t, Steps p.tables e below (T'.setTop g') t → Steps p.tables e below (T.setTop g) t) (H : own_Go p e below F T' g') : own_Go p e below F T g := by
  obtain ⟨s₂, o, h1, r⟩ := H
  exact ⟨s₂, o, h _ h1, r⟩
def own_EndN (below : List Frame) (s : State) (Q : Option Value → Heap → List Loc → Prop) (k n : Nat) : State → Outcome → Prop := fun s₂ o => s₂.status = .running ∧ Ended s₂ below o ∧ ∃ v L, o = .returned v ∧ Q v s₂.heap L ∧ FrameEnd s o s₂ L k n
def own_EndW (below : List Frame) (s Z : State) (EL : List (String × Nat)) (Q : Option Value → Heap → List Loc → Prop) (k n : Nat) : State → Outcome → Prop := fun s₂ o => s₂.status = .running ∧ Ended s₂ below o ∧ ∃ v L, o = .returned v ∧ Q v s₂.heap L ∧ CHr Z EL s.vm s.heap s₂.vm s₂.heap ∧ ReturnedEndW s o s₂ L k n
/-- what a return owes -/
def own_Out (below : List Frame) (s : State) (F : State → Outcome → Prop) (T : State) (v : Option Value) (locs : List Loc) (cells slots : Nat) : Prop := ∀ fs, (T.setFrames fs).status = .running → Ended (T.setFrames fs) below (.returned v) → s.WarmedH (T.setFrames fs).vm → s.sameButNew ({ T.setFrames fs with vm := s.vm } : State) locs cells slots → F (T.setFrames fs) (.returned v)
theorem own_N {v : Option Value} {Q : Option Value → Heap → List Loc → Prop} {k n : Nat} (hQ : Q v T.heap locs) (hk : cells ≤ k) (hn : slots ≤ n) : own_Out below s (own_EndN below s Q k n) T v locs cells slots := fun fs h1 h2 h3 h4 => ⟨h1, h2, v, locs, rfl, hQ, ⟨_, rfl⟩, h3, h4.mono hk hn⟩
theorem own_W {vm0 : Vm} {EL : List (String × Nat)} {k0 : Nat} {h0 : Heap} (X : Stand p l e R (s.setVm vm0) m args below meth c T locs cells slots) (hS : s.Since vm0 k0) (hk0 : k0 ≤ h.size) (eT : T.heap = h) (eS : s.heap = h0) (hZ : Z.Warmed39 vm0) (hEL : EW Z a0 EL) (C : CHr Z EL s.vm h0 vm0 h)
    {v : Option Value} {Q : Option Value → Heap → List Loc → Prop} {k n : Nat} (hQ : Q v T.heap locs) (hk : cells ≤ k) (hn : slots ≤ n) : own_Out below (s.setVm vm0) (own_EndW below s Z EL Q k n) T v locs cells slots := fun fs h1 h2 h3 h4 => by
  obtain ⟨a, b, c'⟩ := hS.ended (U := T.setFrames fs) h3 (by show k0 ≤ T.heap.size; rw [eT]; exact hk0) h4
  refine ⟨h1, h2, v, locs, rfl, hQ, ?_, ⟨_, rfl⟩, a, b, c'.mono hk hn⟩
  show CHr Z EL s.vm s.heap T.vm T.heap
  rw [eS, eT]; exact C.trans (CHv.at X hZ hEL C.1)
theorem own_ret (X : Stand p l e R s m args below meth c T locs cells slots) {v : Option Value} (hv : meth.sig.returnType = none → v = none) (hlk : meth.locks = false) {g : JFrame} {F : State → Outcome → Prop}
    (st : ∀ fs, (∀ (f : JFrame) (acts : List Action), f.method = m → f.locked = none → f.entered = [] → (doReturn e (T.setTop f) acts v).1 = T.setFrames fs) → Steps p.tables e below (T.setTop g) (T.setFrames fs))
    (hF : own_Out below s F T v locs cells slots) : own_Go p e below F T g := by
  obtain ⟨fs, hr, hrun, hended, hW, hsame⟩ := X.leave (v := v) hv hlk
  exact ⟨_, _, st fs hr, hF fs hrun hended hW hsame⟩
theorem own_retI (X : Stand p l e R s m args below meth c T locs cells slots) (hx : p.tables.exec = Jvm.exec) (hret : meth.sig.returnType = some .int) (hlk : meth.locks = false) {pc : Nat} {Ls : Array Slot} {z : Int32} {rest : List Value} (hd : decode c.code pc = .ok (.ireturn, 1)) {F : State → Outcome → Prop}
    (hF : own_Out below s F T (some (.int z)) locs cells slots) : own_Go p e below F T (mkF m pc Ls (.int z :: rest)) :=
  own_ret X (fun q => by rw [hret] at q; cases q) hlk (fun fs hr => retOut X hx hret rfl (Or.inl ⟨rfl, Or.inl rfl, z, rfl⟩) hd hr) hF
theorem own_retN (X : Stand p l e R s m args below meth c T locs cells slots) (hx : p.tables.exec = Jvm.exec) {t : FieldType} (hret : meth.sig.returnType = some t) (ht : t = .boolean ∨ t = .byte ∨ t = .char ∨ t = .short) (hlk : meth.locks = false) {pc : Nat} {Ls : Array Slot} {z v : Int32} {rest : List Value} (hd : decode c.code pc = .ok (.ireturn, 1)) {F : State → Outcome → Prop}
    (hv : nar t z = v) (hF : own_Out below s F T (some (.int v)) locs cells slots) : own_Go p e below F T (mkF m pc Ls (.int z :: rest)) :=
  own_ret X (v := some (.int v)) (fun q => by rw [hret] at q; cases q) hlk (fun fs hr => retN X hx hret ht hd (by rw [hv]; exact hr)) hF
theorem own_retL (X : Stand p l e R s m args below meth c T locs cells slots) (hx : p.tables.exec = Jvm.exec) (hret : meth.sig.returnType = some .long) (hlk : meth.locks = false) {pc : Nat} {Ls : Array Slot} {z : Int64} {rest : List Value} (hd : decode c.code pc = .ok (.lreturn, 1)) {F : State → Outcome → Prop}
    (hF : own_Out below s F T (some (.long z)) locs cells slots) : own_Go p e below F T (mkF m pc Ls (.long z :: rest)) :=
  own_ret X (fun q => by rw [hret] at q; cases q) hlk (fun fs hr => retOut X hx hret rfl (Or.inr (Or.inl ⟨rfl, rfl, z, rfl⟩)) hd hr) hF
theorem own_retA (X : Stand p l e R s m args below meth c T locs cells slots) (hx : p.tables.exec = Jvm.exec) {t : FieldType} (hret : meth.sig.returnType = some t) (ht : t.isReference = true) (hlk : meth.locks = false) {pc : Nat} {Ls : Array Slot} {z : Value} {rest : List Value} (hz : z.isRef = true) (hn0 : narrow t z = z) (hd : decode c.code pc = .ok (.areturn, 1)) {F : State → Outcome → Prop}
    (hF : own_Out below s F T (some z) locs cells slots) : own_Go p e below F T (mkF m pc Ls (z :: rest)) :=
  own_ret X (fun q => by rw [hret] at q; cases q) hlk (fun fs hr => retOut X hx hret hn0 (Or.inr (Or.inr (Or.inr (Or.inr ⟨rfl, ht, hz⟩)))) hd hr) hF
theorem own_retV (X : Stand p l e R s m args below meth c T locs cells slots) (hx : p.tables.exec = Jvm.exec) (hret : meth.sig.returnType = none) (hlk : meth.locks = false) {pc : Nat} {Ls : Array Slot} (hd : decode c.code pc = .ok (.return_, 1)) {F : State → Outcome → Prop}
    (hF : own_Out below s F T none locs cells slots) : own_Go p e below F T (mkF m pc Ls []) :=
  own_ret X (fun _ => rfl) hlk (fun fs hr => X.returnOut hx hret hd hr) hF
/-- a contract: called with as' over the heap h0, the method comes back and Q holds -/
def own_Met (l : Launch) (y : MethodName) (bytes : ByteArray) (maxL : Nat) (ret : Option FieldType) (ws : List Jvm.Cond) (rm : Room) (as' : Array Value) (Z : State) (h0 : Heap) (Q : Option Value → Heap → List Loc → Prop) : Prop :=
  MetFree l y (head1 (Jvm.Cond.code y bytes maxL ret :: ws) rm) (fun a U => a = as' ∧ Z.Warmed39 U.vm ∧ U.heap = h0) (fun _ _ _ _ _ => True) (fun _ U o U' => ∃ v L, o = .returned v ∧ Q v U'.heap L ∧ FrameEnd U o U' L rm.cells rm.slots)
theorem own_body {y : MethodName} {bytes : ByteArray} {maxL : Nat} {ret : Option FieldType} {ws : List Jvm.Cond} {rm : Room} {as' : Array Value} {h0 : Heap} {Q : Option Value → Heap → List Loc → Prop} (hy : plainFor y = true) {g0 : MethodId → JFrame} (ef : ∀ m, entryFrame m as' maxL = g0 m)
    (body : ∀ (p : Program) (e : Env) (s : State) (m : MethodId) (below : List Frame) (meth : Method) (c : Code) (T : State), Stand p l e rm s m as' below meth c T [] 0 0 → p.tables.exec = Jvm.exec → c.code = bytes → c.maxLocals = maxL → meth.sig.returnType = ret → meth.locks = false → meth.name = y.name → s.vm.findClass y.cls = some m.cls → Z.Warmed39 s.vm → T.heap = h0 → own_Go p e below (own_EndN below s Q rm.cells rm.slots) T (g0 m)) :
    own_Met l y bytes maxL ret ws rm as' Z h0 Q := by
  refine MetFree.of_bodySF hy hisR ?_
  intro p e s m args below meth c s₁ Bd hml hP hK
  obtain ⟨ha, hZ, hh⟩ := hP
  subst ha
  have q := body p e s m below meth c s₁ (Stand.of_body Bd) Bd.exec Bd.bytes hml Bd.returns Bd.notSynchronized (name_of_methodNamed Bd.named Bd.method).1 (findClass_of_methodNamed Bd.named) hZ (by rw [← hh, Bd.state]; rfl)
  rw [← ef m] at q
  exact q
/-- a contract of a method that may load a String constant -/
def own_MetW (l : Launch) (y : MethodName) (bytes : ByteArray) (maxL : Nat) (ret : Option FieldType) (ws : List Jvm.Cond) (rm : Room) (as' : Array Value) (Z : State) (EL : List (String × Nat)) (h0 : Heap) (Q : Option Value → Heap → List Loc → Prop) : Prop :=
  MetFree l y (head1 (Jvm.Cond.code y bytes maxL ret :: ws) rm) (fun a U => a = as' ∧ Z.Warmed39 U.vm ∧ U.heap = h0 ∧ CHv Z EL U.vm h0) (fun _ _ _ _ _ => True) (fun _ U o U' => ∃ v L, o = .returned v ∧ Q v U'.heap L ∧ CHr Z EL U.vm U.heap U'.vm U'.heap ∧ ReturnedEndW U o U' L rm.cells rm.slots)
theorem own_bodyW {EL : List (String × Nat)} {y : MethodName} {bytes : ByteArray} {maxL : Nat} {ret : Option FieldType} {ws : List Jvm.Cond} {rm : Room} {as' : Array Value} {h0 : Heap} {Q : Option Value → Heap → List Loc → Prop} (hy : plainFor y = true) {g0 : MethodId → JFrame} (ef : ∀ m, entryFrame m as' maxL = g0 m)
    (body : ∀ (p : Program) (e : Env) (s : State) (m : MethodId) (below : List Frame) (meth : Method) (c : Code) (T : State), Stand p l e rm (s.setVm s.vm) m as' below meth c T [] 0 0 → p.tables.exec = Jvm.exec → c.code = bytes → c.maxLocals = maxL → meth.sig.returnType = ret → meth.locks = false → meth.name = y.name → s.vm.findClass y.cls = some m.cls → Z.Warmed39 s.vm → T.heap = h0 → s.heap = h0 → CHv Z EL s.vm h0 → s.Since s.vm h0.size → own_Go p e below (own_EndW below s Z EL Q rm.cells rm.slots) T (g0 m)) :
    own_MetW l y bytes maxL ret ws rm as' Z EL h0 Q := by
  refine MetFree.of_bodySF hy hisR ?_
  intro p e s m args below meth c s₁ Bd hml hP hK
  obtain ⟨ha, hZ, hh, hC⟩ := hP
  subst ha
  have q := body p e s m below meth c s₁ (Stand.of_body Bd) Bd.exec Bd.bytes hml Bd.returns Bd.notSynchronized (name_of_methodNamed Bd.named Bd.method).1 (findClass_of_methodNamed Bd.named) hZ (by rw [← hh, Bd.state]; rfl) hh hC (State.WarmedH.since (State.WarmedH.refl s) _)
  rw [← ef m] at q
  exact q
theorem own_callS (X : Stand p l e R s m args below meth c T locs cells slots) (hx : p.tables.exec = Jvm.exec) (hZ : Z.Warmed39 s.vm) {own : String} {index : Nat} {y : MethodName} {bytes : ByteArray} {maxL : Nat} {ret : Option FieldType}
    (hown : s.vm.findClass own = some m.cls) (wl : (Jvm.Cond.methodLink own index y).before a0 Z = true) (wst : (Jvm.Cond.static y).before a0 Z = true) (wi : (Jvm.Cond.initialized y.cls).before a0 Z = true) (wc : (Jvm.Cond.code y bytes maxL ret).before a0 Z = true)
    (hy : y.cls ≠ "java/lang/invoke/MethodHandle" ∧ y.cls ≠ "java/lang/invoke/VarHandle") {rm : Room} {as' : Array Value} {Qc : Option Value → Heap → List Loc → Prop} (hM : own_Met l y bytes maxL ret [] rm as' Z h Qc) (eT : T.heap = h) (W : Nat)
    (hf : rm.frames + 1 ≤ R.frames) (hlo : W + (maxL + 11) + rm.locals ≤ R.locals) (hcl : cells + rm.cells ≤ R.cells) (hsl : slots + rm.slots ≤ R.slots)
    {g : JFrame} (hg : g.method = m) (hsize : g.locals.size = c.maxLocals) (argsL rest : List Value) {ps : List FieldType} {r : Option FieldType} (hpd : parseMethodDescriptor y.desc = some ⟨ps, r⟩) (hlen : argsL.length = ps.length) (has : argsL.toArray = as')
    (hstack : g.stack = argsL.reverse ++ rest) (hW : 2 * g.monitorRoom + (rest.map fun v => v.category).sum ≤ W) (hdg : decode c.code g.pc = .ok (.invokestatic index, 3)) {F : State → Outcome → Prop}
    (cont : ∀ v T' L, Stand p l e R s m args below meth c T' (locs ++ L) (cells + rm.cells) (slots + rm.slots) → Qc v T'.heap L → own_Go p e below F T' { g with pc := g.pc + 3, stack := v.toList ++ rest }) : own_Go p e below F T g := by
  obtain ⟨v, _, ⟨T2, L2, k2, n2⟩, -, X2, ⟨Lc, hQ, l2, y2, z2⟩, st⟩ := Jvm.LawKit.callS X hx (y := y) hown (mvT hZ wl) (mvT hZ wst) (mvT hZ wi) (mvT hZ wc) hy (backOf (W := W) hM hZ wc wi hf hlo) hg hsize (argsL := argsL) (rest := rest) (lenOf hpd hlen) hstack hW hdg (fun _ _ => ⟨has, eT, hcl, hsl⟩)
  dsimp only [Pt.U, Pt.locs, Pt.cells, Pt.slots] at X2 l2 y2 z2 st hQ
  subst l2 y2 z2
  exact own_step st (cont v T2 Lc X2 hQ)
theorem own_callV (X : Stand p l e R s m args below meth c T locs cells slots) (hx : p.tables.exec = Jvm.exec) (hZ : Z.Warmed39 s.vm) {own C : String} {index : Nat} {y z : MethodName} {bytes : ByteArray} {maxL : Nat} {ret : Option FieldType}
    (hown : s.vm.findClass own = some m.cls) (wl : (Jvm.Cond.methodLink own index y).before a0 Z = true) (wd : (Jvm.Cond.declares y).before a0 Z = true) (wf : (Jvm.Cond.selects y.cls y y).before a0 Z = true) (ws : (Jvm.Cond.selects C y z).before a0 Z = true) (wm : (Jvm.Cond.instanceMethod z).before a0 Z = true) (wi : (Jvm.Cond.initialized z.cls).before a0 Z = true) (wc : (Jvm.Cond.code z bytes maxL ret).before a0 Z = true)
    (hy : y.cls ≠ "java/lang/invoke/MethodHandle" ∧ y.cls ≠ "java/lang/invoke/VarHandle") {rm : Room} {as' : Array Value} {Qc : Option Value → Heap → List Loc → Prop} (hM : own_Met l z bytes maxL ret [] rm as' Z h Qc) (eT : T.heap = h) {b : Addr} (hE : Exa Z h b C) (W : Nat)
    (hf : rm.frames + 1 ≤ R.frames) (hlo : W + (maxL + 11) + rm.locals ≤ R.locals) (hcl : cells + rm.cells ≤ R.cells) (hsl : slots + rm.slots ≤ R.slots)
    {g : JFrame} (hg : g.method = m) (hsize : g.locals.size = c.maxLocals) (argsL rest : List Value) {ps : List FieldType} {r : Option FieldType} (hpd : parseMethodDescriptor y.desc = some ⟨ps, r⟩) (hlen : argsL.length = ps.length) (has : (Value.ref b :: argsL).toArray = as')
    (hstack : g.stack = argsL.reverse ++ .ref b :: rest) (hW : 2 * g.monitorRoom + (rest.map fun v => v.category).sum ≤ W) (hdg : decode c.code g.pc = .ok (.invokevirtual index, 3)) {F : State → Outcome → Prop}
    (cont : ∀ v T' L, Stand p l e R s m args below meth c T' (locs ++ L) (cells + rm.cells) (slots + rm.slots) → Qc v T'.heap L → own_Go p e below F T' { g with pc := g.pc + 3, stack := v.toList ++ rest }) : own_Go p e below F T g := by
  obtain ⟨cq, kq, q1, q2, q3⟩ := isOf hZ eT hE
  obtain ⟨v, _, ⟨T2, L2, k2, n2⟩, -, X2, ⟨Lc, hQ, l2, y2, z2⟩, st⟩ := X.virtualBack hx (y := y) (z := z) hown (mvT hZ wl) (mvT hZ wd) (notFace_of_selects (args := #[]) (mvT hZ wf)) (mvT hZ ws) (mvT hZ wm) hy (backOf (W := W) hM hZ wc wi hf hlo) q1 q3 hg hsize (Steps.refl _) (argsL := argsL) (rest := rest) (lenOf hpd hlen) hstack hW hdg (fun _ _ => ⟨has, eT, hcl, hsl⟩)
  dsimp only [Pt.U, Pt.locs, Pt.cells, Pt.slots] at X2 l2 y2 z2 st hQ
  subst l2 y2 z2
  exact own_step (fun _ k => st.trans k) (cont v T2 Lc X2 hQ)
theorem own_callC (X : Stand p l e R s m args below meth c T locs cells slots) (hx : p.tables.exec = Jvm.exec) (hZ : Z.Warmed39 s.vm) {own : String} {index : Nat} {y : MethodName} {bytes : ByteArray} {maxL : Nat} (hy1 : y.name = "<init>")
    (hown : s.vm.findClass own = some m.cls) (wl : (Jvm.Cond.methodLink own index y).before a0 Z = true) (wm : (Jvm.Cond.instanceMethod y).before a0 Z = true) (wi : (Jvm.Cond.initialized y.cls).before a0 Z = true) (wc : (Jvm.Cond.code y bytes maxL none).before a0 Z = true)
    (hy : y.cls ≠ "java/lang/invoke/MethodHandle" ∧ y.cls ≠ "java/lang/invoke/VarHandle") {rm : Room} {as' : Array Value} {Qc : Option Value → Heap → List Loc → Prop} (hM : own_Met l y bytes maxL none [] rm as' Z h Qc) (eT : T.heap = h) {b : Addr} (W : Nat)
    (hf : rm.frames + 1 ≤ R.frames) (hlo : W + (maxL + 11) + rm.locals ≤ R.locals) (hcl : cells + rm.cells ≤ R.cells) (hsl : slots + rm.slots ≤ R.slots)
    {g : JFrame} (hg : g.method = m) (hsize : g.locals.size = c.maxLocals) (argsL rest : List Value) {ps : List FieldType} {r : Option FieldType} (hpd : parseMethodDescriptor y.desc = some ⟨ps, r⟩) (hlen : argsL.length = ps.length) (has : (Value.ref b :: argsL).toArray = as')
    (hstack : g.stack = argsL.reverse ++ .ref b :: rest) (hW : 2 * g.monitorRoom + (rest.map fun v => v.category).sum ≤ W) (hdg : decode c.code g.pc = .ok (.invokespecial index, 3)) {F : State → Outcome → Prop}
    (cont : ∀ v T' L, Stand p l e R s m args below meth c T' (locs ++ L) (cells + rm.cells) (slots + rm.slots) → Qc v T'.heap L → own_Go p e below F T' { g with pc := g.pc + 3, stack := v.toList ++ rest }) : own_Go p e below F T g := by
  obtain ⟨v, _, ⟨T2, L2, k2, n2⟩, -, X2, ⟨Lc, hQ, l2, y2, z2⟩, st⟩ := X.specialBack hx (y := y) hy1 hown (mvT hZ wl) (mvT hZ wm) (mvT hZ wc) hy (backOf (W := W) hM hZ wc wi hf hlo) hg hsize (Steps.refl _) (a := b) (argsL := argsL) (rest := rest) (lenOf hpd hlen) hstack hW hdg (fun _ _ => ⟨has, eT, hcl, hsl⟩)
  dsimp only [Pt.U, Pt.locs, Pt.cells, Pt.slots] at X2 l2 y2 z2 st hQ
  subst l2 y2 z2
  exact own_step (fun _ k => st.trans k) (cont v T2 Lc X2 hQ)
theorem own_callSW {vm0 : Vm} {EL : List (String × Nat)} {k0 : Nat} (X : Stand p l e R (s.setVm vm0) m args below meth c T locs cells slots) (hx : p.tables.exec = Jvm.exec) (hZ : Z.Warmed39 vm0) {own : String} {index : Nat} {y : MethodName} {bytes : ByteArray} {maxL : Nat} {ret : Option FieldType}
    (hown : vm0.findClass own = some m.cls) (wl : (Jvm.Cond.methodLink own index y).before a0 Z = true) (wst : (Jvm.Cond.static y).before a0 Z = true) (wi : (Jvm.Cond.initialized y.cls).before a0 Z = true) (wc : (Jvm.Cond.code y bytes maxL ret).before a0 Z = true)
    (hy : y.cls ≠ "java/lang/invoke/MethodHandle" ∧ y.cls ≠ "java/lang/invoke/VarHandle") {rm : Room} {as' : Array Value} {Qc : Option Value → Heap → List Loc → Prop} (hM : own_MetW l y bytes maxL ret [] rm as' Z EL h Qc) (eT : T.heap = h) (hEL : EW Z a0 EL) (H : CHv Z EL vm0 h) (hS : s.Since vm0 k0) (hk : k0 ≤ h.size) (W : Nat)
    (hf : rm.frames + 1 ≤ R.frames) (hlo : W + (maxL + 11) + rm.locals ≤ R.locals) (hcl : cells + rm.cells ≤ R.cells) (hsl : slots + rm.slots ≤ R.slots)
    {g : JFrame} (hg : g.method = m) (hsize : g.locals.size = c.maxLocals) (argsL rest : List Value) {ps : List FieldType} {r : Option FieldType} (hpd : parseMethodDescriptor y.desc = some ⟨ps, r⟩) (hlen : argsL.length = ps.length) (has : argsL.toArray = as')
    (hstack : g.stack = argsL.reverse ++ rest) (hW : 2 * g.monitorRoom + (rest.map fun v => v.category).sum ≤ W) (hdg : decode c.code g.pc = .ok (.invokestatic index, 3)) {F : State → Outcome → Prop}
    (cont : ∀ v T' L, Stand p l e R (s.setVm T'.vm) m args below meth c T' (locs ++ L) (cells + rm.cells) (slots + rm.slots) → Qc v T'.heap L → CHr Z EL vm0 h T'.vm T'.heap → s.Since T'.vm T'.heap.size → Z.Warmed39 T'.vm → T'.vm.findClass own = some m.cls → own_Go p e below F T' { g with pc := g.pc + 3, stack := v.toList ++ rest }) : own_Go p e below F T g := by
  have hZ' : Z.Warmed39 (s.setVm vm0).vm := hZ
  obtain ⟨v, _, ⟨T2, L2, k2, n2⟩, -, X2, hS2, hg2, ⟨Lc, hQ, l2, y2, z2, hC⟩, st⟩ := callSS X hx (y := y) hown (mvT hZ' wl) (mvT hZ' wst) (mvT hZ' wi) (mvT hZ' wc) hy (backOfSH (W := W) hM hZ wc wi hf hlo hEL H) hg hsize (argsL := argsL) (rest := rest) (lenOf hpd hlen) hstack hW hdg (fun _ _ => ⟨has, eT, hcl, hsl⟩)
  dsimp only [Pt.U, Pt.locs, Pt.cells, Pt.slots] at X2 l2 y2 z2 st hQ hS2 hg2 hC
  subst l2 y2 z2
  obtain ⟨X3, hS3, hZ3, hown3⟩ := rebS hS hk X2 hS2 (by rw [← eT]; exact hg2) hZ' hown
  exact own_step (fun _ k => st.trans k) (cont v T2 Lc X3 hQ hC hS3 hZ3 hown3)
theorem own_callCW {vm0 : Vm} {EL : List (String × Nat)} {k0 : Nat} (X : Stand p l e R (s.setVm vm0) m args below meth c T locs cells slots) (hx : p.tables.exec = Jvm.exec) (hZ : Z.Warmed39 vm0) {own : String} {index : Nat} {y : MethodName} {bytes : ByteArray} {maxL : Nat} (hy1 : y.name = "<init>")
    (hown : vm0.findClass own = some m.cls) (wl : (Jvm.Cond.methodLink own index y).before a0 Z = true) (wm : (Jvm.Cond.instanceMethod y).before a0 Z = true) (wi : (Jvm.Cond.initialized y.cls).before a0 Z = true) (wc : (Jvm.Cond.code y bytes maxL none).before a0 Z = true)
    (hy : y.cls ≠ "java/lang/invoke/MethodHandle" ∧ y.cls ≠ "java/lang/invoke/VarHandle") {rm : Room} {as' : Array Value} {Qc : Option Value → Heap → List Loc → Prop} (hM : own_MetW l y bytes maxL none [] rm as' Z EL h Qc) (eT : T.heap = h) (hEL : EW Z a0 EL) (H : CHv Z EL vm0 h) (hS : s.Since vm0 k0) (hk : k0 ≤ h.size) {b : Addr} (W : Nat)
    (hf : rm.frames + 1 ≤ R.frames) (hlo : W + (maxL + 11) + rm.locals ≤ R.locals) (hcl : cells + rm.cells ≤ R.cells) (hsl : slots + rm.slots ≤ R.slots)
    {g : JFrame} (hg : g.method = m) (hsize : g.locals.size = c.maxLocals) (argsL rest : List Value) {ps : List FieldType} {r : Option FieldType} (hpd : parseMethodDescriptor y.desc = some ⟨ps, r⟩) (hlen : argsL.length = ps.length) (has : (Value.ref b :: argsL).toArray = as')
    (hstack : g.stack = argsL.reverse ++ .ref b :: rest) (hW : 2 * g.monitorRoom + (rest.map fun v => v.category).sum ≤ W) (hdg : decode c.code g.pc = .ok (.invokespecial index, 3)) {F : State → Outcome → Prop}
    (cont : ∀ v T' L, Stand p l e R (s.setVm T'.vm) m args below meth c T' (locs ++ L) (cells + rm.cells) (slots + rm.slots) → Qc v T'.heap L → CHr Z EL vm0 h T'.vm T'.heap → s.Since T'.vm T'.heap.size → Z.Warmed39 T'.vm → T'.vm.findClass own = some m.cls → own_Go p e below F T' { g with pc := g.pc + 3, stack := v.toList ++ rest }) : own_Go p e below F T g := by
  have hZ' : Z.Warmed39 (s.setVm vm0).vm := hZ
  obtain ⟨v, _, ⟨T2, L2, k2, n2⟩, -, X2, hS2, hg2, ⟨Lc, hQ, l2, y2, z2, hC⟩, st⟩ := X.specialBackS hx (y := y) hy1 hown (mvT hZ' wl) (mvT hZ' wm) (mvT hZ' wc) hy (backOfSH (W := W) hM hZ wc wi hf hlo hEL H) hg hsize (Steps.refl _) (a := b) (argsL := argsL) (rest := rest) (lenOf hpd hlen) hstack hW hdg (fun _ _ => ⟨has, eT, hcl, hsl⟩)
  dsimp only [Pt.U, Pt.locs, Pt.cells, Pt.slots] at X2 l2 y2 z2 st hQ hS2 hg2 hC
  subst l2 y2 z2
  obtain ⟨X3, hS3, hZ3, hown3⟩ := rebS hS hk X2 hS2 (by rw [← eT]; exact hg2) hZ' hown
  exact own_step (fun _ k => st.trans k) (cont v T2 Lc X3 hQ hC hS3 hZ3 hown3)
theorem own_callVW {vm0 : Vm} {EL : List (String × Nat)} {k0 : Nat} (X : Stand p l e R (s.setVm vm0) m args below meth c T locs cells slots) (hx : p.tables.exec = Jvm.exec) (hZ : Z.Warmed39 vm0) {own C : String} {index : Nat} {y z : MethodName} {bytes : ByteArray} {maxL : Nat} {ret : Option FieldType}
    (hown : vm0.findClass own = some m.cls) (wl : (Jvm.Cond.methodLink own index y).before a0 Z = true) (wd : (Jvm.Cond.declares y).before a0 Z = true) (wf : (Jvm.Cond.selects y.cls y y).before a0 Z = true) (ws : (Jvm.Cond.selects C y z).before a0 Z = true) (wm : (Jvm.Cond.instanceMethod z).before a0 Z = true) (wi : (Jvm.Cond.initialized z.cls).before a0 Z = true) (wc : (Jvm.Cond.code z bytes maxL ret).before a0 Z = true)
    (hy : y.cls ≠ "java/lang/invoke/MethodHandle" ∧ y.cls ≠ "java/lang/invoke/VarHandle") {rm : Room} {as' : Array Value} {Qc : Option Value → Heap → List Loc → Prop} (hM : own_MetW l z bytes maxL ret [] rm as' Z EL h Qc) (eT : T.heap = h) (hEL : EW Z a0 EL) (H : CHv Z EL vm0 h) (hS : s.Since vm0 k0) (hk : k0 ≤ h.size) {b : Addr} (hE : Exa Z h b C) (W : Nat)
    (hf : rm.frames + 1 ≤ R.frames) (hlo : W + (maxL + 11) + rm.locals ≤ R.locals) (hcl : cells + rm.cells ≤ R.cells) (hsl : slots + rm.slots ≤ R.slots)
    {g : JFrame} (hg : g.method = m) (hsize : g.locals.size = c.maxLocals) (argsL rest : List Value) {ps : List FieldType} {r : Option FieldType} (hpd : parseMethodDescriptor y.desc = some ⟨ps, r⟩) (hlen : argsL.length = ps.length) (has : (Value.ref b :: argsL).toArray = as')
    (hstack : g.stack = argsL.reverse ++ .ref b :: rest) (hW : 2 * g.monitorRoom + (rest.map fun v => v.category).sum ≤ W) (hdg : decode c.code g.pc = .ok (.invokevirtual index, 3)) {F : State → Outcome → Prop}
    (cont : ∀ v T' L, Stand p l e R (s.setVm T'.vm) m args below meth c T' (locs ++ L) (cells + rm.cells) (slots + rm.slots) → Qc v T'.heap L → CHr Z EL vm0 h T'.vm T'.heap → s.Since T'.vm T'.heap.size → Z.Warmed39 T'.vm → T'.vm.findClass own = some m.cls → own_Go p e below F T' { g with pc := g.pc + 3, stack := v.toList ++ rest }) : own_Go p e below F T g := by
  have hZ' : Z.Warmed39 (s.setVm vm0).vm := hZ
  obtain ⟨cq, kq, q1, q2, q3⟩ := isOf hZ' eT hE
  obtain ⟨v, _, ⟨T2, L2, k2, n2⟩, -, X2, hS2, hg2, ⟨Lc, hQ, l2, y2, z2, hC⟩, st⟩ := X.virtualBackS hx (y := y) (z := z) hown (mvT hZ' wl) (mvT hZ' wd) (notFace_of_selects (args := #[]) (mvT hZ' wf)) (mvT hZ' ws) (mvT hZ' wm) hy (backOfSH (W := W) hM hZ wc wi hf hlo hEL H) q1 q3 hg hsize (Steps.refl _) (argsL := argsL) (rest := rest) (lenOf hpd hlen) hstack hW hdg (fun _ _ => ⟨has, eT, hcl, hsl⟩)
  dsimp only [Pt.U, Pt.locs, Pt.cells, Pt.slots] at X2 l2 y2 z2 st hQ hS2 hg2 hC
  subst l2 y2 z2
  obtain ⟨X3, hS3, hZ3, hown3⟩ := rebS hS hk X2 hS2 (by rw [← eT]; exact hg2) hZ' hown
  exact own_step (fun _ k => st.trans k) (cont v T2 Lc X3 hQ hC hS3 hZ3 hown3)
/-- a String whose value is still null is no booked one -/
theorem own_safe {EL : List (String × Nat)} {vm : Vm} {a : Addr} (hal : Z.vm.Alike vm) (E : Exa Z h a "java/lang/String") (F : Fld Z h a "java/lang/String" "value" "[B" .null) : Safe Z EL vm h a := fun B => by
  obtain ⟨p0, hp, u, a', hb, q, rfl, S, hy⟩ := B
  obtain ⟨cS, ⟨⟨s1, s2, s3, ⟨cv, kv, iv, s4, s4'⟩, ⟨cc, kc, ic, s5, s5'⟩, s6, s7, s8, s9, s10, s11, s12, s13, s14, s15, s16⟩, hfS, hcS⟩, ⟨kS, k1, k2, k3⟩, hB, hbyt⟩ := S
  rcases hy with rfl | rfl
  · obtain ⟨kv', z4⟩ := ff_back (U := Wst Z vm h) hal s4
    obtain ⟨cell, cf, k, i, f, h1, h2, h3, h4, h5, h6, h7⟩ := F
    cases h2.symm.trans z4
    cases h1.symm.trans s1
    cases h7.symm.trans s8
  · obtain ⟨cell, k, h1, h2, h3, h4, -⟩ := E
    cases h1.symm.trans s10
    have e1 : vm.findClass "[B" = some q.SA.cls := hB
    rw [hal.findClass] at e1
    exact ids_ne h2 e1 (by decide) rfl
/-! arrays by their lists -/
variable {a b : Addr} {kA : ClassId} {ty : FieldType} {z : Int32} {vs : List Value} {dv : Value}
theorem own_newA (X : Stand p l e R s m args below meth c T locs cells slots) (hx : p.tables.exec = Jvm.exec) (hZ : Z.Warmed39 s.vm) {aty : ArrayType} (w : (Jvm.Cond.arrayClass (newarray.typeOf aty)).before a0 Z = true) (eT : T.heap = h) {g : JFrame} (hg : g.method = m) (hd : decode c.code g.pc = .ok (.newarray aty, 2)) {n : Int32} {rest : List Value} (hs : g.stack = .int n :: rest)
    (hn : ¬ n < 0) {cap : Nat} (hcap : n.toNatClampNeg ≤ cap) (hb : cap * 8 ≤ 536870912) (hc : cells + 1 ≤ R.cells) (hl : slots + cap ≤ R.slots) :
    ∃ T' h' cA b, b = h.size ∧ Stand p l e R s m args below meth c T' locs (cells + 1) (slots + cap) ∧ T'.heap = h' ∧ Ext h h' ∧ Arv Z h' b cA (newarray.typeOf aty) n (List.replicate cap (defaultValue (newarray.typeOf aty))) (defaultValue (newarray.typeOf aty)) ∧
      ∀ target, Steps p.tables e below (T'.setTop { g with pc := g.pc + 2, stack := .ref b :: rest }) target → Steps p.tables e below (T.setTop g) target := by
  obtain ⟨T', h', cA, X', e', E, A, st⟩ := newP X hx hZ w eT hg hd hs hn hcap hb hc hl
  exact ⟨T', h', cA, _, rfl, X', e', E, (Arv.new A hn).pad (pad_rep [] _ cap), st⟩
theorem own_stB (X : Stand p l e R s m args below meth c T locs cells slots) (hx : p.tables.exec = Jvm.exec) (hZ : Z.Warmed39 s.vm) (eT : T.heap = h) (V : Arv Z h a kA .byte z vs dv) {j x : Int32} (hj : ¬ j < 0 ∧ j < z) (i : Nat) (hi : j.toNatClampNeg = i) (hl : i < vs.length) {g : JFrame} (hg : g.method = m) {rest : List Value} (hs : g.stack = .int x :: .int j :: .ref a :: rest) (hd : decode c.code g.pc = .ok (.bastore, 1)) :
    ∃ T' h' L, Stand p l e R s m args below meth c T' (locs ++ [⟨a, L⟩]) cells slots ∧ T'.heap = h' ∧ Wr h h' a L (.int x.toInt8.toInt32) ∧ Arv Z h' a kA .byte z (vs.set i (.int x.toInt8.toInt32)) dv ∧ ∀ target, Steps p.tables e below (T'.setTop { g with pc := g.pc + 1, stack := rest }) target → Steps p.tables e below (T.setTop g) target := by
  obtain ⟨cl, Ar, q, S, N, H, G⟩ := V
  obtain ⟨T', h', X', e', W, st⟩ := stB X hx hZ eT Ar (inb_of S hj) hg hs hd
  exact ⟨T', h', _, X', e', W, Arv.set Ar q S N H G (fits_nar_byte _) W i hi hl, st⟩
theorem own_stZ (X : Stand p l e R s m args below meth c T locs cells slots) (hx : p.tables.exec = Jvm.exec) (hZ : Z.Warmed39 s.vm) (eT : T.heap = h) (V : Arv Z h a kA .boolean z vs dv) {j x : Int32} (hj : ¬ j < 0 ∧ j < z) (i : Nat) (hi : j.toNatClampNeg = i) (hl : i < vs.length) {g : JFrame} (hg : g.method = m) {rest : List Value} (hs : g.stack = .int x :: .int j :: .ref a :: rest) (hd : decode c.code g.pc = .ok (.bastore, 1)) :
    ∃ T' h' L, Stand p l e R s m args below meth c T' (locs ++ [⟨a, L⟩]) cells slots ∧ T'.heap = h' ∧ Wr h h' a L (.int (nar .boolean x)) ∧ Arv Z h' a kA .boolean z (vs.set i (.int (nar .boolean x))) dv ∧ ∀ target, Steps p.tables e below (T'.setTop { g with pc := g.pc + 1, stack := rest }) target → Steps p.tables e below (T.setTop g) target := by
  obtain ⟨cl, Ar, q, S, N, H, G⟩ := V
  obtain ⟨T', h', X', e', W, st⟩ := stZ X hx hZ eT Ar (inb_of S hj) hg hs hd
  exact ⟨T', h', _, X', e', W, Arv.set Ar q S N H G (fits_nar_bool _) W i hi hl, st⟩
theorem own_stC (X : Stand p l e R s m args below meth c T locs cells slots) (hx : p.tables.exec = Jvm.exec) (hZ : Z.Warmed39 s.vm) (eT : T.heap = h) (V : Arv Z h a kA .char z vs dv) {j x : Int32} (hj : ¬ j < 0 ∧ j < z) (i : Nat) (hi : j.toNatClampNeg = i) (hl : i < vs.length) {g : JFrame} (hg : g.method = m) {rest : List Value} (hs : g.stack = .int x :: .int j :: .ref a :: rest) (hd : decode c.code g.pc = .ok (.castore, 1)) :
    ∃ T' h' L, Stand p l e R s m args below meth c T' (locs ++ [⟨a, L⟩]) cells slots ∧ T'.heap = h' ∧ Wr h h' a L (.int (nar .char x)) ∧ Arv Z h' a kA .char z (vs.set i (.int (nar .char x))) dv ∧ ∀ target, Steps p.tables e below (T'.setTop { g with pc := g.pc + 1, stack := rest }) target → Steps p.tables e below (T.setTop g) target := by
  obtain ⟨cl, Ar, q, S, N, H, G⟩ := V
  obtain ⟨T', h', X', e', W, st⟩ := stC X hx hZ eT Ar (inb_of S hj) hg hs hd
  exact ⟨T', h', _, X', e', W, Arv.set Ar q S N H G (fits_nar_char _) W i hi hl, st⟩
theorem own_stI (X : Stand p l e R s m args below meth c T locs cells slots) (hx : p.tables.exec = Jvm.exec) (hZ : Z.Warmed39 s.vm) (eT : T.heap = h) (V : Arv Z h a kA .int z vs dv) {j x : Int32} (hj : ¬ j < 0 ∧ j < z) (i : Nat) (hi : j.toNatClampNeg = i) (hl : i < vs.length) {g : JFrame} (hg : g.method = m) {rest : List Value} (hs : g.stack = .int x :: .int j :: .ref a :: rest) (hd : decode c.code g.pc = .ok (.iastore, 1)) :
    ∃ T' h' L, Stand p l e R s m args below meth c T' (locs ++ [⟨a, L⟩]) cells slots ∧ T'.heap = h' ∧ Wr h h' a L (.int x) ∧ Arv Z h' a kA .int z (vs.set i (.int x)) dv ∧ ∀ target, Steps p.tables e below (T'.setTop { g with pc := g.pc + 1, stack := rest }) target → Steps p.tables e below (T.setTop g) target := by
  obtain ⟨cl, Ar, q, S, N, H, G⟩ := V
  obtain ⟨T', h', X', e', W, st⟩ := stI X hx hZ eT Ar (inb_of S hj) hg hs hd
  exact ⟨T', h', _, X', e', W, Arv.set Ar q S N H G rfl W i hi hl, st⟩
theorem own_stJ (X : Stand p l e R s m args below meth c T locs cells slots) (hx : p.tables.exec = Jvm.exec) (hZ : Z.Warmed39 s.vm) (eT : T.heap = h) (V : Arv Z h a kA .long z vs dv) {j : Int32} {x : Int64} (hj : ¬ j < 0 ∧ j < z) (i : Nat) (hi : j.toNatClampNeg = i) (hl : i < vs.length) {g : JFrame} (hg : g.method = m) {rest : List Value} (hs : g.stack = .long x :: .int j :: .ref a :: rest) (hd : decode c.code g.pc = .ok (.lastore, 1)) :
    ∃ T' h' L, Stand p l e R s m args below meth c T' (locs ++ [⟨a, L⟩]) cells slots ∧ T'.heap = h' ∧ Wr h h' a L (.long x) ∧ Arv Z h' a kA .long z (vs.set i (.long x)) dv ∧ ∀ target, Steps p.tables e below (T'.setTop { g with pc := g.pc + 1, stack := rest }) target → Steps p.tables e below (T.setTop g) target := by
  obtain ⟨cl, Ar, q, S, N, H, G⟩ := V
  obtain ⟨T', h', X', e', W, st⟩ := stJ X hx hZ eT Ar (inb_of S hj) hg hs hd
  exact ⟨T', h', _, X', e', W, Arv.set Ar q S N H G rfl W i hi hl, st⟩
theorem own_ldB (X : Stand p l e R s m args below meth c T locs cells slots) (hx : p.tables.exec = Jvm.exec) (hZ : Z.Warmed39 s.vm) (eT : T.heap = h) (V : Arv Z h a kA .byte z vs dv) {j : Int32} {v : Value} (hj : ¬ j < 0 ∧ j < z) (hv : vs.getD j.toNatClampNeg dv = v) {g : JFrame} (hg : g.method = m) {rest : List Value} (hs : g.stack = .int j :: .ref a :: rest) (hd : decode c.code g.pc = .ok (.baload, 1)) :
    ∀ t, Steps p.tables e below (T.setTop { g with pc := g.pc + 1, stack := v :: rest }) t → Steps p.tables e below (T.setTop g) t := by
  obtain ⟨cl, Ar, q, S, N, H, G⟩ := V
  exact fun t k => X.baloadBytes hx (by rw [eT]; exact Ar.1) (State.isArrayOf_alike hZ.alike Ar.2.1) Ar.2.2 (inb_of S hj) (Has.at H (inb_of S hj) hv) hg hs hd _ k
theorem own_ldZ (X : Stand p l e R s m args below meth c T locs cells slots) (hx : p.tables.exec = Jvm.exec) (hZ : Z.Warmed39 s.vm) (eT : T.heap = h) (V : Arv Z h a kA .boolean z vs dv) {j : Int32} {v : Value} (hj : ¬ j < 0 ∧ j < z) (hv : vs.getD j.toNatClampNeg dv = v) {g : JFrame} (hg : g.method = m) {rest : List Value} (hs : g.stack = .int j :: .ref a :: rest) (hd : decode c.code g.pc = .ok (.baload, 1)) :
    ∀ t, Steps p.tables e below (T.setTop { g with pc := g.pc + 1, stack := v :: rest }) t → Steps p.tables e below (T.setTop g) t := by
  obtain ⟨cl, Ar, q, S, N, H, G⟩ := V
  exact fun t k => X.baloadBooleans hx (by rw [eT]; exact Ar.1) (State.isArrayOf_alike hZ.alike Ar.2.1) Ar.2.2 (inb_of S hj) (Has.at H (inb_of S hj) hv) hg hs hd _ k
theorem own_ldC (X : Stand p l e R s m args below meth c T locs cells slots) (hx : p.tables.exec = Jvm.exec) (hZ : Z.Warmed39 s.vm) (eT : T.heap = h) (V : Arv Z h a kA .char z vs dv) {j : Int32} {v : Value} (hj : ¬ j < 0 ∧ j < z) (hv : vs.getD j.toNatClampNeg dv = v) {g : JFrame} (hg : g.method = m) {rest : List Value} (hs : g.stack = .int j :: .ref a :: rest) (hd : decode c.code g.pc = .ok (.caload, 1)) :
    ∀ t, Steps p.tables e below (T.setTop { g with pc := g.pc + 1, stack := v :: rest }) t → Steps p.tables e below (T.setTop g) t := by
  obtain ⟨cl, Ar, q, S, N, H, G⟩ := V
  exact fun t k => X.caload hx (by rw [eT]; exact Ar.1) (State.isArrayOf_alike hZ.alike Ar.2.1) Ar.2.2 (inb_of S hj) (Has.at H (inb_of S hj) hv) hg hs hd _ k
theorem own_ldI (X : Stand p l e R s m args below meth c T locs cells slots) (hx : p.tables.exec = Jvm.exec) (hZ : Z.Warmed39 s.vm) (eT : T.heap = h) (V : Arv Z h a kA .int z vs dv) {j : Int32} {v : Value} (hj : ¬ j < 0 ∧ j < z) (hv : vs.getD j.toNatClampNeg dv = v) {g : JFrame} (hg : g.method = m) {rest : List Value} (hs : g.stack = .int j :: .ref a :: rest) (hd : decode c.code g.pc = .ok (.iaload, 1)) :
    ∀ t, Steps p.tables e below (T.setTop { g with pc := g.pc + 1, stack := v :: rest }) t → Steps p.tables e below (T.setTop g) t := by
  obtain ⟨cl, Ar, q, S, N, H, G⟩ := V
  exact fun t k => X.iaload hx (by rw [eT]; exact Ar.1) (State.isArrayOf_alike hZ.alike Ar.2.1) Ar.2.2 (inb_of S hj) (Has.at H (inb_of S hj) hv) hg hs hd _ k
theorem own_ldJ (X : Stand p l e R s m args below meth c T locs cells slots) (hx : p.tables.exec = Jvm.exec) (hZ : Z.Warmed39 s.vm) (eT : T.heap = h) (V : Arv Z h a kA .long z vs dv) {j : Int32} {v : Value} (hj : ¬ j < 0 ∧ j < z) (hv : vs.getD j.toNatClampNeg dv = v) {g : JFrame} (hg : g.method = m) {rest : List Value} (hs : g.stack = .int j :: .ref a :: rest) (hd : decode c.code g.pc = .ok (.laload, 1)) :
    ∀ t, Steps p.tables e below (T.setTop { g with pc := g.pc + 1, stack := v :: rest }) t → Steps p.tables e below (T.setTop g) t := by
  obtain ⟨cl, Ar, q, S, N, H, G⟩ := V
  exact fun t k => X.laload hx (by rw [eT]; exact Ar.1) (State.isArrayOf_alike hZ.alike Ar.2.1) Ar.2.2 (inb_of S hj) (Has.at H (inb_of S hj) hv) hg hs hd _ k
theorem own_ldA (X : Stand p l e R s m args below meth c T locs cells slots) (hx : p.tables.exec = Jvm.exec) (hZ : Z.Warmed39 s.vm) (eT : T.heap = h) (V : Arv Z h a kA ty z vs dv) (hty : ty.isReference = true) {j : Int32} {v : Value} (hj : ¬ j < 0 ∧ j < z) (hv : vs.getD j.toNatClampNeg dv = v) {g : JFrame} (hg : g.method = m) {rest : List Value} (hs : g.stack = .int j :: .ref a :: rest) (hd : decode c.code g.pc = .ok (.aaload, 1)) :
    ∀ t, Steps p.tables e below (T.setTop { g with pc := g.pc + 1, stack := v :: rest }) t → Steps p.tables e below (T.setTop g) t := by
  obtain ⟨cl, Ar, q, S, N, H, G⟩ := V
  exact fun t k => X.aaload hx (by rw [eT]; exact Ar.1) (State.isArrayOf_alike hZ.alike Ar.2.1) hty Ar.2.2 (inb_of S hj) (Has.at H (inb_of S hj) hv) hg hs hd _ k
theorem own_len (X : Stand p l e R s m args below meth c T locs cells slots) (hx : p.tables.exec = Jvm.exec) (hZ : Z.Warmed39 s.vm) (eT : T.heap = h) (V : Arv Z h a kA ty z vs dv) {g : JFrame} (hg : g.method = m) {rest : List Value} (hs : g.stack = .ref a :: rest) (hd : decode c.code g.pc = .ok (.arraylength, 1)) :
    ∀ t, Steps p.tables e below (T.setTop { g with pc := g.pc + 1, stack := .int z :: rest }) t → Steps p.tables e below (T.setTop g) t := by
  obtain ⟨cl, Ar, q, S, N, H, G⟩ := V
  refine fun t k => X.arraylength hx (by rw [eT]; exact Ar.1) (State.isArrayOf_alike hZ.alike Ar.2.1) hg hs hd _ ?_
  rw [len_of S N]; exact k
theorem own_newR (X : Stand p l e R s m args below meth c T locs cells slots) (hx : p.tables.exec = Jvm.exec) (hZ : Z.Warmed39 s.vm) {own C : String} {index : Nat} (hown : s.vm.findClass own = some m.cls) (w1 : (Jvm.Cond.classLink own index C).before a0 Z = true) (w2 : (Jvm.Cond.arrayOver (.object C)).before a0 Z = true)
    (eT : T.heap = h) {g : JFrame} (hg : g.method = m) (hd : decode c.code g.pc = .ok (.anewarray index, 3)) {n : Int32} {rest : List Value} (hs : g.stack = .int n :: rest) (hn : ¬ n < 0) {cap : Nat} (hcap : n.toNatClampNeg ≤ cap) (hb : cap * 8 ≤ 536870912) (hc : cells + 1 ≤ R.cells) (hl : slots + cap ≤ R.slots) :
    ∃ T' h' cA b, b = h.size ∧ Stand p l e R s m args below meth c T' locs (cells + 1) (slots + cap) ∧ T'.heap = h' ∧ Ext h h' ∧ Arv Z h' b cA (.object C) n (List.replicate cap .null) .null ∧ Ovr Z cA C ∧
      ∀ target, Steps p.tables e below (T'.setTop { g with pc := g.pc + 3, stack := .ref b :: rest }) target → Steps p.tables e below (T.setTop g) target := by
  obtain ⟨T', h', cA, X', e', E, A, O, st⟩ := newR X hx hZ hown w1 w2 eT hg hd hs hn hcap hb hc hl
  exact ⟨T', h', cA, _, rfl, X', e', E, (Arv.new A hn).pad (pad_rep [] _ cap), O, st⟩
theorem own_stA (X : Stand p l e R s m args below meth c T locs cells slots) (hx : p.tables.exec = Jvm.exec) (hZ : Z.Warmed39 s.vm) (eT : T.heap = h) {C : String} {y : Addr} (V : Arv Z h a kA (.object C) z vs dv) (O : Ovr Z kA C) (I : Ins Z h y C true) {j : Int32} (hj : ¬ j < 0 ∧ j < z) (i : Nat) (hi : j.toNatClampNeg = i) (hl : i < vs.length) {g : JFrame} (hg : g.method = m) {rest : List Value} (hs : g.stack = .ref y :: .int j :: .ref a :: rest) (hd : decode c.code g.pc = .ok (.aastore, 1)) :
    ∃ T' h' L, Stand p l e R s m args below meth c T' (locs ++ [⟨a, L⟩]) cells slots ∧ T'.heap = h' ∧ Wr h h' a L (.ref y) ∧ Arv Z h' a kA (.object C) z (vs.set i (.ref y)) dv ∧ ∀ target, Steps p.tables e below (T'.setTop { g with pc := g.pc + 1, stack := rest }) target → Steps p.tables e below (T.setTop g) target := by
  obtain ⟨cl, Ar, q, S, N, H, G⟩ := V
  obtain ⟨T', h', X', e', W, st⟩ := stR X hx hZ eT Ar (inb_of S hj) rfl (Sto.ofV Ar q O I) hg hs hd
  exact ⟨T', h', _, X', e', W, Arv.set Ar q S N H G rfl W i hi hl, st⟩
/-! what the case's words say of statics -/
theorem own_eqI {t : Term} {n : Int32} {args : Array Value} {s : State} (q : (Jvm.Cond.eq t (.int n)).value args s none s [] = some true) : t.eval args s none [] s = some (.int n) := by
  cases ht : t.eval args s none [] s with
  | none => simp [Jvm.Cond.value, ht] at q
  | some v => cases v <;> simp [Jvm.Cond.value, ht, Term.eval, Value.isRef] at q ⊢ <;> exact q
theorem own_eqJ {t : Term} {n : Int64} {args : Array Value} {s : State} (q : (Jvm.Cond.eq t (.long n)).value args s none s [] = some true) : t.eval args s none [] s = some (.long n) := by
  cases ht : t.eval args s none [] s with
  | none => simp [Jvm.Cond.value, ht] at q
  | some v => cases v <;> simp [Jvm.Cond.value, ht, Term.eval, Value.isRef] at q ⊢ <;> exact q
theorem own_eqR {t u : Term} {x : Addr} {args : Array Value} {s : State} (hu : u.eval args s none [] s = some (.ref x)) (q : (Jvm.Cond.eq t u).value args s none s [] = some true) : t.eval args s none [] s = some (.ref x) := by
  cases ht : t.eval args s none [] s with
  | none => simp [Jvm.Cond.value, ht] at q
  | some v => cases v <;> simp [Jvm.Cond.value, ht, hu, Value.isRef] at q ⊢ <;> exact q
theorem own_lenT {t : Term} {a : Addr} {cl : Cell} {ty : FieldType} {z : Int32} {args : Array Value} {s : State} (ht : t.eval args s none [] s = some (.ref a)) (A : Arr s s.heap a cl ty) (q : (Term.length t).eval args s none [] s = some (.int z)) : cl.slots.size < 2 ^ 31 ∧ cl.slots.size.toInt32 = z := by
  have ha : s.arrayAt? a = some cl := Arr.fin (Vm.Alike.refl _) A
  by_cases hl : cl.slots.size < 2 ^ 31
  · rw [len_f ht ha hl] at q; cases q; exact ⟨hl, rfl⟩
  · simp [Term.eval, ht, ha, hl] at q
end Own
end Jvm.RoadKit
namespace Jvm.Pilot.@@N@@
open Jvm Jvm.ClassFile Sem Op Lib Jvm.Free Jvm.Stand Jvm.LawKit Jvm.RoadKit Bundle Jvm.Pilot.@@N@@.Jvm.D
theorem own_leafI {x y : Int32} (q : y = x) : some (Value.int x) = some (.int y) := by rw [q]
theorem own_leafJ {x y : Int64} (q : y = x) : some (Value.long x) = some (.long y) := by rw [q]
theorem own_bb (x : Int32) : x.toInt8.toInt32.toInt8.toInt32 = x.toInt8.toInt32 := by
  have h1 := c_i2b x; have h2 := c_i2b x.toInt8.toInt32
  rw [← Int32.toInt_inj]; omega
theorem own_lt {x y : Int32} {n k : Nat} (hx : x.toInt = n) (hy : y.toInt = k) : x < y ↔ n < k := by rw [Int32.lt_iff_toInt_lt]; omega
theorem own_add {x y : Int32} {n k : Nat} (hx : x.toInt = n) (hy : y.toInt = k) (h : n + k < 2147483648) : (x + y).toInt = (n + k : Nat) := by
  have h1 := c_iadd x y; have h2 := rng32 (x + y); omega
theorem own_nn {x : Int32} {n : Nat} (hx : x.toInt = n) : ¬ x < 0 := by
  rw [Int32.lt_iff_toInt_lt]; have e0 : (0 : Int32).toInt = 0 := rfl; omega
theorem own_clamp {x : Int32} {n : Nat} (hx : x.toInt = n) : x.toNatClampNeg = n := by simp only [Int32.toNatClampNeg]; omega
theorem own_lit32 {x : Int32} {n : Nat} (h : x.toInt = n) : x = Int32.ofInt n := by
  rw [← Int32.toInt_inj, Int32.toInt_ofInt, h]
  have := x.toInt_lt
  have es : Int32.size = 4294967296 := rfl
  rw [Int.bmod_eq_of_le (by omega) (by omega)]
theorem own_getI (xs : List Int32) (d : Int32) : ∀ j : Nat, (xs.map Value.int).getD j (.int d) = .int (xs.getD j d) := by
  induction xs with
  | nil => intro j; rfl
  | cons y r ih => intro j; cases j with
    | zero => rfl
    | succ j => exact ih j
theorem own_shr0 (z : Int32) : z >>> ((0 : Int32) &&& 31) = z := by
  have h := c_ishr z (0 : Int32) 0 (by decide)
  rw [← Int32.toInt_inj, h]; simp
theorem own_ci (y : Int32) : ((y &&& (255 : Int32)).toUInt32.toUInt16.toUInt32.toInt32) = (y &&& (255 : Int32)) := by
  have h1 := c_and y (255 : Int32) (by decide)
  have h2 := c_i2c (y &&& (255 : Int32))
  have e : (255 : Int32).toInt = 255 := by decide
  rw [← Int32.toInt_inj]; omega
/-- the bytes of the first j chars, the rest 0 -/
def own_cp (cs : List Int32) (j : Nat) : List Int32 := (cs.take j).map (fun c => c.toInt8.toInt32) ++ List.replicate (cs.length - j) (0 : Int32)
theorem own_cp0 (cs : List Int32) : own_cp cs 0 = List.replicate cs.length (0 : Int32) := by simp [own_cp]
theorem own_cpN (cs : List Int32) : own_cp cs cs.length = cs.map (fun c => c.toInt8.toInt32) := by simp [own_cp]
theorem own_cpl (cs : List Int32) (j : Nat) (h : j ≤ cs.length) : (own_cp cs j).length = cs.length := by
  simp only [own_cp, List.length_append, List.length_map, List.length_take, List.length_replicate]; omega
theorem own_cpS (cs : List Int32) (j : Nat) (h : j < cs.length) : (own_cp cs j).set j ((cs.getD j (0 : Int32)).toInt8.toInt32) = own_cp cs (j + 1) := by
  unfold own_cp
  rw [List.set_append_right _ _ (by rw [List.length_map, List.length_take]; omega), show (List.map (fun c : Int32 => c.toInt8.toInt32) (List.take j cs)).length = j by rw [List.length_map, List.length_take]; omega, Nat.sub_self]
  rw [show cs.length - j = (cs.length - (j + 1)) + 1 by omega, List.replicate_succ, List.set_cons_zero, List.take_succ_eq_append_getElem h, List.map_append, List.append_assoc]
  have e : cs.getD j (0 : Int32) = cs[j] := by simp [h]
  rw [e]; rfl
theorem own_lat (cs : List Int32) (h : ∀ c ∈ cs, ¬ (255 : Int32) < c) : ∀ t, ¬ (255 : Int32) < cs.getD t (0 : Int32) := by
  induction cs with
  | nil => intro t; have e : ([] : List Int32).getD t (0 : Int32) = 0 := by simp
           rw [e]; decide
  | cons y r ih => intro t; cases t with
    | zero => exact h y (List.mem_cons_self ..)
    | succ t => exact ih (fun c hc => h c (List.mem_cons_of_mem _ hc)) t
theorem own_small {K : Nat} {x : Int32} (h0 : 0 ≤ x.toInt) (h1 : x.toInt < K) : ∃ n : Fin K, x = Int32.ofInt (n.1 : Int) := by
  refine ⟨⟨x.toInt.toNat, by omega⟩, ?_⟩
  have h2 : x.toInt = ((x.toInt.toNat : Nat) : Int) := by omega
  exact own_lit32 h2
theorem own_v256 (b : Int32) : ∃ n : Fin 256, (b &&& (255 : Int32)) = Int32.ofInt (n.1 : Int) := by
  have h := c_and b (255 : Int32) (by decide)
  have e : (255 : Int32).toInt = 255 := by decide
  exact own_small h.1 (by omega)
theorem own_b255 (a : Int32) : a.toInt8.toInt32 = (a &&& (255 : Int32)).toInt8.toInt32 := by
  have h1 := c_i2b a; have h2 := c_i2b (a &&& (255 : Int32))
  have h3 := c_mask a (255 : Int32) 8 (by decide) (by decide)
  rw [← Int32.toInt_inj]; omega
theorem own_four (x : Int32) : (x &&& (3 : Int32)) = (0 : Int32) ∨ (x &&& (3 : Int32)) = (1 : Int32) ∨ (x &&& (3 : Int32)) = (2 : Int32) ∨ (x &&& (3 : Int32)) = (3 : Int32) := by
  have h := c_and x (3 : Int32) (by decide)
  have e : (0 : Int32).toInt = 0 ∧ (1 : Int32).toInt = 1 ∧ (2 : Int32).toInt = 2 ∧ (3 : Int32).toInt = 3 := by decide
  simp only [← Int32.toInt_inj]; omega
theorem own_hel {t : Term} {args : Array Value} {s : State} {a : Addr} {cl : Cell} {ty : FieldType} {k : Int64} {G : Jvm.Cond} (hty : ty = .int ∨ ty = .boolean ∨ ty = .byte ∨ ty = .char ∨ ty = .short) (hf : Fit s) (ht : ∀ idx, t.eval args s none idx s = some (.ref a)) (A : Arr s s.heap a cl ty) (hl : cl.slots.size < 2 ^ 31) (h : (Jvm.Cond.all t (Jvm.Cond.or G (Jvm.Cond.eq (.op1 .i2l (.elem t (.index 0))) (.op2 .ladd (.op1 .i2l (.index 0)) (.long k))))).value args s none s [] = some true)
    (i : Nat) (hi : i < cl.slots.size) (hG : G.value args s none s [i] = some false) (y : Int32) (hy : y.toInt64 = (Nat.toInt32 i).toInt64 + k) : cl.slots[i]? = some (.int y) := by
  have ha : s.arrayAt? a = some cl := Arr.fin (Vm.Alike.refl _) A
  have q := Jvm.Cond.all_elim (ht []) ha h i hi
  have e1 : (Nat.toInt32 i).toNatClampNeg = i := by simp only [Int32.toNatClampNeg, len_toInt (Nat.lt_trans hi hl)]; rfl
  obtain ⟨v, hv, hfit⟩ := elem_fit (j := Nat.toInt32 i) hf A (idx_in hi hl)
  obtain ⟨x, rfl⟩ := fit_I hfit hty
  rw [e1] at hv
  have hx : (Term.elem t (.index 0)).eval args s none [i] s = some (.int x) := by
    rw [elem_f (j := Nat.toInt32 i) (ht [i]) (by simp [Term.eval]) ha (by have := idx_in hi hl; exact fun z => this (Or.inl z)), e1]; exact hv
  have q2 : (Jvm.Cond.eq (.op1 .i2l (.elem t (.index 0))) (.op2 .ladd (.op1 .i2l (.index 0)) (.long k))).value args s none s [i] = some true := by
    simpa [Jvm.Cond.value, hG] using q
  have q3 : x.toInt64 = (Nat.toInt32 i).toInt64 + k := by
    have a1 : (Term.op1 .i2l (.elem t (.index 0))).eval args s none [i] s = some (.long x.toInt64) := by rw [op1_f hx]; rfl
    have a2 : (Term.op2 .ladd (.op1 .i2l (.index 0)) (.long k)).eval args s none [i] s = some (.long ((Nat.toInt32 i).toInt64 + k)) := by
      rw [op2_f (x := .long (Nat.toInt32 i).toInt64) (y := .long k) (by rw [op1_f (x := .int (Nat.toInt32 i)) (by simp [Term.eval])]; rfl) rfl]; rfl
    exact gotT (eq_L a1 a2) q2
  have q4 : x = y := by
    rw [← Int32.toInt_inj]; have z1 := c_i2l x; have z2 := c_i2l y; rw [q3, ← hy] at z1; omega
  rw [hv, q4]
def own_EL : List (String × Nat) := [("java/lang/String", 7)]
theorem own_wS {Z : State} {a0 : Array Value} (hw : ∀ d ∈ tables_1, d.before a0 Z = true) : ∀ a ∈ Bundle.stringAtoms, a.before a0 Z = true := by
  intro a ha
  simp only [Bundle.stringAtoms, List.mem_cons, List.not_mem_nil, or_false] at ha
  rcases ha with rfl | rfl | rfl | rfl | rfl | rfl | rfl
  · exact (hw _ (List.mem_of_getElem? (i := 9) rfl))
  · exact (hw _ (List.mem_of_getElem? (i := 8) rfl))
  · exact (hw _ (List.mem_of_getElem? (i := 22) rfl))
  · exact (hw _ (List.mem_of_getElem? (i := 23) rfl))
  · exact (hw _ (List.mem_of_getElem? (i := 24) rfl))
  · exact (hw _ (List.mem_of_getElem? (i := 25) rfl))
  · exact (hw _ (List.mem_of_getElem? (i := 26) rfl))
theorem d7_0 : decode jdk_52_method_21_code 0 = .ok (.iconst 0, 1) := by decide +kernel
theorem d7_1 : decode jdk_52_method_21_code 1 = .ok (.istore 5, 2) := by decide +kernel
theorem d7_3 : decode jdk_52_method_21_code 3 = .ok (.iload 5, 2) := by decide +kernel
theorem d7_5 : decode jdk_52_method_21_code 5 = .ok (.iload 4, 2) := by decide +kernel
theorem d7_7 : decode jdk_52_method_21_code 7 = .ok (.if_icmp .ge 37, 3) := by decide +kernel
theorem d7_10 : decode jdk_52_method_21_code 10 = .ok (.aload_n 0, 1) := by decide +kernel
theorem d7_11 : decode jdk_52_method_21_code 11 = .ok (.iload_n 1, 1) := by decide +kernel
theorem d7_12 : decode jdk_52_method_21_code 12 = .ok (.caload, 1) := by decide +kernel
theorem d7_13 : decode jdk_52_method_21_code 13 = .ok (.istore 6, 2) := by decide +kernel
theorem d7_15 : decode jdk_52_method_21_code 15 = .ok (.iload 6, 2) := by decide +kernel
theorem d7_17 : decode jdk_52_method_21_code 17 = .ok (.sipush 255, 3) := by decide +kernel
theorem d7_20 : decode jdk_52_method_21_code 20 = .ok (.if_icmp .le 6, 3) := by decide +kernel
theorem d7_23 : decode jdk_52_method_21_code 23 = .ok (.iload 5, 2) := by decide +kernel
theorem d7_25 : decode jdk_52_method_21_code 25 = .ok (.ireturn, 1) := by decide +kernel
theorem d7_26 : decode jdk_52_method_21_code 26 = .ok (.aload_n 2, 1) := by decide +kernel
theorem d7_27 : decode jdk_52_method_21_code 27 = .ok (.iload_n 3, 1) := by decide +kernel
theorem d7_28 : decode jdk_52_method_21_code 28 = .ok (.iload 6, 2) := by decide +kernel
theorem d7_30 : decode jdk_52_method_21_code 30 = .ok (.i2b, 1) := by decide +kernel
theorem d7_31 : decode jdk_52_method_21_code 31 = .ok (.bastore, 1) := by decide +kernel
theorem d7_32 : decode jdk_52_method_21_code 32 = .ok (.iinc 1 1, 3) := by decide +kernel
theorem d7_35 : decode jdk_52_method_21_code 35 = .ok (.iinc 3 1, 3) := by decide +kernel
theorem d7_38 : decode jdk_52_method_21_code 38 = .ok (.iinc 5 1, 3) := by decide +kernel
theorem d7_41 : decode jdk_52_method_21_code 41 = .ok (.goto (-38), 3) := by decide +kernel
theorem d7_44 : decode jdk_52_method_21_code 44 = .ok (.iload 4, 2) := by decide +kernel
theorem d7_46 : decode jdk_52_method_21_code 46 = .ok (.ireturn, 1) := by decide +kernel
theorem ef_7 (a1 : Addr) (p2 : Int32) (a3 : Addr) (p4 : Int32) (p5 : Int32) (m : MethodId) : entryFrame m #[(.ref a1), (.int p2), (.ref a3), (.int p4), (.int p5)] 7 = mkF m 0 #[.val (.ref a1), .val (.int p2), .val (.ref a3), .val (.int p4), .val (.int p5), .unset, .unset] [] := by first | (simp [entryFrame, mkF, argsToLocals, Value.category]; done) | rfl
theorem pn_0 : plainName "java/lang/StringUTF16" = true := by first | (simp [plainName, overriddenIn]; done) | decide +kernel
set_option maxRecDepth 65536 in
set_option maxHeartbeats 40000000 in
theorem rm7 (l : Launch) (Z : State) (a0 : Array Value) (hw : ∀ d ∈ tables_1, d.before a0 Z = true) (ws : List Jvm.Cond) (a1 : Addr) (p2 : Int32) (a3 : Addr) (p4 : Int32) (p5 : Int32) (kc kb : ClassId) (z : Int32) (cs : List Int32) (h0 : Heap) (n0 : Nat) (Z0 : n0 ≤ h0.size) (VA : Arv Z h0 a1 kc .char z (cs.map Value.int) (.int (0 : Int32))) (VB : Arv Z h0 a3 kb .byte z ((List.replicate cs.length (0 : Int32)).map Value.int) (.int (0 : Int32))) (hcs : z.toInt = (cs.length : Nat)) (hcap : cs.length ≤ 8) (hlat : ∀ t, ¬ (255 : Int32) < cs.getD t (0 : Int32)) (hne : a1 ≠ a3) (hp5 : p5.toInt = (cs.length : Nat)) (hp2 : p2.toInt = (0 : Nat)) (hp4 : p4.toInt = (0 : Nat)) (g_a3 : n0 ≤ a3) :
    own_Met l (⟨"java/lang/StringUTF16", "compress", "([CI[BII)I"⟩ : MethodName) jdk_52_method_21_code 7 (some .int) ws ({ frames := 0, cells := 0, slots := 0, locals := 0 } : Room) #[(.ref a1), (.int p2), (.ref a3), (.int p4), (.int p5)] Z h0 (fun v h L => v = some (.int p5) ∧ Fr n0 L ∧ Keep h0 h [a3] ∧ Arv Z h a3 kb .byte z ((cs.map (fun c => c.toInt8.toInt32)).map Value.int) (.int (0 : Int32))) := by
  refine own_body (plainFor_of_name pn_0) (ef_7 a1 p2 a3 p4 p5) ?_
  intro p e s m below meth c T0 X0 hx hby hml0 hret hlk hnm hown hZ e0
  have hml : c.maxLocals = 7 := hml0
  have N0 := Fr.nil n0
  have e_1 : (1 : Int32).toInt = (1 : Nat) := by decide
  refine own_step (fun _ k => XS.iconst X0.here hx rfl (hb hby d7_0) k) ?_
  show own_Go _ _ _ _ T0 (mkF m 1 #[.val (.ref a1), .val (.int p2), .val (.ref a3), .val (.int p4), .val (.int p5), .unset, .unset] [(.int (0 : Int32))])
  refine own_step (fun _ k => XS.istore X0.here hx rfl (hb hby d7_1) rfl (l' := #[.val (.ref a1), .val (.int p2), .val (.ref a3), .val (.int p4), .val (.int p5), .val (.int (0 : Int32)), .unset]) rfl k) ?_
  show own_Go _ _ _ _ T0 (mkF m 3 #[.val (.ref a1), .val (.int p2), .val (.ref a3), .val (.int p4), .val (.int p5), .val (.int (0 : Int32)), .unset] [])
  have loop : ∀ (k j : Nat) (i1 i3 i5 : Int32) (s6 : Slot) (T : State) (hp : Heap) (locs : List Loc), Stand p l e ({ frames := 0, cells := 0, slots := 0, locals := 0 } : Room) s m #[(.ref a1), (.int p2), (.ref a3), (.int p4), (.int p5)] below meth c T locs 0 0 → T.heap = hp → Fr n0 locs → Keep h0 hp [a3] → Arv Z hp a3 kb .byte z ((own_cp cs j).map Value.int) (.int (0 : Int32)) → j + k = cs.length → i1.toInt = (j : Nat) → i3.toInt = (j : Nat) → i5.toInt = (j : Nat) → (s6 = .unset ∨ ∃ w, s6 = .val w ∧ w.category = 1) → own_Go p e below (own_EndN below s (fun v h L => v = some (.int p5) ∧ Fr n0 L ∧ Keep h0 h [a3] ∧ Arv Z h a3 kb .byte z ((cs.map (fun c => c.toInt8.toInt32)).map Value.int) (.int (0 : Int32))) ({ frames := 0, cells := 0, slots := 0, locals := 0 } : Room).cells ({ frames := 0, cells := 0, slots := 0, locals := 0 } : Room).slots) T (mkF m 3 #[.val (.ref a1), .val (.int i1), .val (.ref a3), .val (.int i3), .val (.int p5), .val (.int i5), s6] []) := by
    intro k
    induction k with
    | zero =>
      intro j i1 i3 i5 s6 T hp locs X e' N' K' V' hj h1 h3 h5 h6
      have hc : ¬ i5 < p5 := fun q => by have := (own_lt h5 hp5).mp q; omega
      obtain rfl : j = cs.length := by omega
      have Zp := Nat.le_trans Z0 K'.1
      refine own_step (fun _ k => XS.iload X.here hx rfl (hb hby d7_3) rfl k) ?_
      show own_Go _ _ _ _ T (mkF m 5 #[.val (.ref a1), .val (.int i1), .val (.ref a3), .val (.int i3), .val (.int p5), .val (.int i5), s6] [(.int i5)])
      refine own_step (fun _ k => XS.iload X.here hx rfl (hb hby d7_5) rfl k) ?_
      show own_Go _ _ _ _ T (mkF m 7 #[.val (.ref a1), .val (.int i1), .val (.ref a3), .val (.int i3), .val (.int p5), .val (.int i5), s6] [(.int p5), (.int i5)])
      refine own_step (fun _ k => XS.icmpYes X.here hx rfl (pc0 := 7) (pc' := 44) rfl (hb hby d7_7) rfl (flt hc).2.1 (by decide) (by decide) k) ?_
      show own_Go _ _ _ _ T (mkF m 44 #[.val (.ref a1), .val (.int i1), .val (.ref a3), .val (.int i3), .val (.int p5), .val (.int i5), s6] [])
      refine own_step (fun _ k => XS.iload X.here hx rfl (hb hby d7_44) rfl k) ?_
      show own_Go _ _ _ _ T (mkF m 46 #[.val (.ref a1), .val (.int i1), .val (.ref a3), .val (.int i3), .val (.int p5), .val (.int i5), s6] [(.int p5)])
      exact own_retI X hx hret hlk (hb hby d7_46) (own_N (by rw [e']; exact ⟨rfl, N', K', by rw [← own_cpN]; exact V'⟩) (by decide) (by decide)) 
    | succ k ih =>
      intro j i1 i3 i5 s6 T hp locs X e' N' K' V' hj h1 h3 h5 h6
      have hc : i5 < p5 := (own_lt h5 hp5).mpr (by omega)
      have Zp := Nat.le_trans Z0 K'.1
      refine own_step (fun _ k => XS.iload X.here hx rfl (hb hby d7_3) rfl k) ?_
      show own_Go _ _ _ _ T (mkF m 5 #[.val (.ref a1), .val (.int i1), .val (.ref a3), .val (.int i3), .val (.int p5), .val (.int i5), s6] [(.int i5)])
      refine own_step (fun _ k => XS.iload X.here hx rfl (hb hby d7_5) rfl k) ?_
      show own_Go _ _ _ _ T (mkF m 7 #[.val (.ref a1), .val (.int i1), .val (.ref a3), .val (.int i3), .val (.int p5), .val (.int i5), s6] [(.int p5), (.int i5)])
      refine own_step (fun _ k => XS.icmpNo X.here hx rfl (hb hby d7_7) rfl (tlt hc).2.1 k) ?_
      show own_Go _ _ _ _ T (mkF m 10 #[.val (.ref a1), .val (.int i1), .val (.ref a3), .val (.int i3), .val (.int p5), .val (.int i5), s6] [])
      refine own_step (fun _ k => XS.aloadN X.here hx rfl (hb hby d7_10) rfl rfl k) ?_
      show own_Go _ _ _ _ T (mkF m 11 #[.val (.ref a1), .val (.int i1), .val (.ref a3), .val (.int i3), .val (.int p5), .val (.int i5), s6] [(.ref a1)])
      refine own_step (fun _ k => XS.iloadN X.here hx rfl (hb hby d7_11) rfl k) ?_
      show own_Go _ _ _ _ T (mkF m 12 #[.val (.ref a1), .val (.int i1), .val (.ref a3), .val (.int i3), .val (.int p5), .val (.int i5), s6] [(.int i1), (.ref a1)])
      have Q1 := (VA.keep K' (ninS hne nin0))
      refine own_step (own_ldC X hx hZ e' Q1 (j := i1) (v := (.int (cs.getD j (0 : Int32)))) ⟨own_nn h1, (own_lt h1 hcs).mpr (by omega)⟩ (by rw [own_clamp h1]; exact own_getI cs _ j) (g := (mkF m 12 #[.val (.ref a1), .val (.int i1), .val (.ref a3), .val (.int i3), .val (.int p5), .val (.int i5), s6] [(.int i1), (.ref a1)])) rfl rfl (hb hby d7_12)) ?_
      show own_Go _ _ _ _ T (mkF m 13 #[.val (.ref a1), .val (.int i1), .val (.ref a3), .val (.int i3), .val (.int p5), .val (.int i5), s6] [(.int (cs.getD j (0 : Int32)))])
      -- general slot
      refine own_step (fun _ k => XS.istore X.here hx rfl (hb hby d7_13) rfl (l' := #[.val (.ref a1), .val (.int i1), .val (.ref a3), .val (.int i3), .val (.int p5), .val (.int i5), .val (.int (cs.getD j (0 : Int32)))]) (XS.store1 (o := s6) rfl h6 rfl) k) ?_
      show own_Go _ _ _ _ T (mkF m 15 #[.val (.ref a1), .val (.int i1), .val (.ref a3), .val (.int i3), .val (.int p5), .val (.int i5), .val (.int (cs.getD j (0 : Int32)))] [])
      refine own_step (fun _ k => XS.iload X.here hx rfl (hb hby d7_15) rfl k) ?_
      show own_Go _ _ _ _ T (mkF m 17 #[.val (.ref a1), .val (.int i1), .val (.ref a3), .val (.int i3), .val (.int p5), .val (.int i5), .val (.int (cs.getD j (0 : Int32)))] [(.int (cs.getD j (0 : Int32)))])
      refine own_step (fun _ k => XS.sipush X.here hx rfl (hb hby d7_17) k) ?_
      show own_Go _ _ _ _ T (mkF m 20 #[.val (.ref a1), .val (.int i1), .val (.ref a3), .val (.int i3), .val (.int p5), .val (.int i5), .val (.int (cs.getD j (0 : Int32)))] [(.int (255 : Int32)), (.int (cs.getD j (0 : Int32)))])
      refine own_step (fun _ k => XS.icmpYes X.here hx rfl (pc0 := 20) (pc' := 26) rfl (hb hby d7_20) rfl (flt (hlat j)).2.2.2 (by decide) (by decide) k) ?_
      show own_Go _ _ _ _ T (mkF m 26 #[.val (.ref a1), .val (.int i1), .val (.ref a3), .val (.int i3), .val (.int p5), .val (.int i5), .val (.int (cs.getD j (0 : Int32)))] [])
      refine own_step (fun _ k => XS.aloadN X.here hx rfl (hb hby d7_26) rfl rfl k) ?_
      show own_Go _ _ _ _ T (mkF m 27 #[.val (.ref a1), .val (.int i1), .val (.ref a3), .val (.int i3), .val (.int p5), .val (.int i5), .val (.int (cs.getD j (0 : Int32)))] [(.ref a3)])
      refine own_step (fun _ k => XS.iloadN X.here hx rfl (hb hby d7_27) rfl k) ?_
      show own_Go _ _ _ _ T (mkF m 28 #[.val (.ref a1), .val (.int i1), .val (.ref a3), .val (.int i3), .val (.int p5), .val (.int i5), .val (.int (cs.getD j (0 : Int32)))] [(.int i3), (.ref a3)])
      refine own_step (fun _ k => XS.iload X.here hx rfl (hb hby d7_28) rfl k) ?_
      show own_Go _ _ _ _ T (mkF m 30 #[.val (.ref a1), .val (.int i1), .val (.ref a3), .val (.int i3), .val (.int p5), .val (.int i5), .val (.int (cs.getD j (0 : Int32)))] [(.int (cs.getD j (0 : Int32))), (.int i3), (.ref a3)])
      refine own_step (fun _ k => XS.i2b X.here hx rfl (hb hby d7_30) rfl k) ?_
      show own_Go _ _ _ _ T (mkF m 31 #[.val (.ref a1), .val (.int i1), .val (.ref a3), .val (.int i3), .val (.int p5), .val (.int i5), .val (.int (cs.getD j (0 : Int32)))] [(.int ((cs.getD j (0 : Int32)).toInt8.toInt32)), (.int i3), (.ref a3)])
      obtain ⟨T2, h2, l2, X2, e2, W2, V2, st2⟩ := own_stB X hx hZ e' V' (j := i3) ⟨own_nn h3, (own_lt h3 hcs).mpr (by omega)⟩ j (own_clamp h3) (by rw [List.length_map, own_cpl cs j (by omega)]; omega) (g := (mkF m 31 #[.val (.ref a1), .val (.int i1), .val (.ref a3), .val (.int i3), .val (.int p5), .val (.int i5), .val (.int (cs.getD j (0 : Int32)))] [(.int ((cs.getD j (0 : Int32)).toInt8.toInt32)), (.int i3), (.ref a3)])) rfl rfl (hb hby d7_31)
      refine own_step st2 ?_
      have N2 := Fr.snoc X2 N' g_a3
      have Z2 := Nat.le_trans Zp (Keep.of_wr W2).1
      have KK2 := K'.wr W2 (Or.inl (List.mem_of_getElem? (i := 0) rfl))
      rw [own_bb] at V2
      rw [← List.map_set, own_cpS cs j (by omega)] at V2
      have V_a3_2 : Arv Z h2 a3 kb .byte z ((own_cp cs (j + 1)).map Value.int) (.int (0 : Int32)) := V2
      show own_Go _ _ _ _ T2 (mkF m 32 #[.val (.ref a1), .val (.int i1), .val (.ref a3), .val (.int i3), .val (.int p5), .val (.int i5), .val (.int (cs.getD j (0 : Int32)))] [])
      refine own_step (fun _ k => XS.iinc X2.here hx rfl (hb hby d7_32) rfl (l' := #[.val (.ref a1), .val (.int (i1 + (1 : Int32))), .val (.ref a3), .val (.int i3), .val (.int p5), .val (.int i5), .val (.int (cs.getD j (0 : Int32)))]) rfl k) ?_
      show own_Go _ _ _ _ T2 (mkF m 35 #[.val (.ref a1), .val (.int (i1 + (1 : Int32))), .val (.ref a3), .val (.int i3), .val (.int p5), .val (.int i5), .val (.int (cs.getD j (0 : Int32)))] [])
      refine own_step (fun _ k => XS.iinc X2.here hx rfl (hb hby d7_35) rfl (l' := #[.val (.ref a1), .val (.int (i1 + (1 : Int32))), .val (.ref a3), .val (.int (i3 + (1 : Int32))), .val (.int p5), .val (.int i5), .val (.int (cs.getD j (0 : Int32)))]) rfl k) ?_
      show own_Go _ _ _ _ T2 (mkF m 38 #[.val (.ref a1), .val (.int (i1 + (1 : Int32))), .val (.ref a3), .val (.int (i3 + (1 : Int32))), .val (.int p5), .val (.int i5), .val (.int (cs.getD j (0 : Int32)))] [])
      refine own_step (fun _ k => XS.iinc X2.here hx rfl (hb hby d7_38) rfl (l' := #[.val (.ref a1), .val (.int (i1 + (1 : Int32))), .val (.ref a3), .val (.int (i3 + (1 : Int32))), .val (.int p5), .val (.int (i5 + (1 : Int32))), .val (.int (cs.getD j (0 : Int32)))]) rfl k) ?_
      show own_Go _ _ _ _ T2 (mkF m 41 #[.val (.ref a1), .val (.int (i1 + (1 : Int32))), .val (.ref a3), .val (.int (i3 + (1 : Int32))), .val (.int p5), .val (.int (i5 + (1 : Int32))), .val (.int (cs.getD j (0 : Int32)))] [])
      refine own_step (fun _ k => XS.goto X2.here hx rfl (pc0 := 41) (pc' := 3) rfl (hb hby d7_41) (by decide) (by decide) k) ?_
      show own_Go _ _ _ _ T2 (mkF m 3 #[.val (.ref a1), .val (.int (i1 + (1 : Int32))), .val (.ref a3), .val (.int (i3 + (1 : Int32))), .val (.int p5), .val (.int (i5 + (1 : Int32))), .val (.int (cs.getD j (0 : Int32)))] [])
      exact ih (j + 1) _ _ _ _ T2 _ _ X2 e2 N2 KK2 V_a3_2 (by omega) (own_add h1 e_1 (by omega)) (own_add h3 e_1 (by omega)) (own_add h5 e_1 (by omega)) (Or.inr ⟨_, rfl, rfl⟩)
  exact loop cs.length 0 p2 p4 (0 : Int32) .unset T0 h0 [] X0 e0 N0 (Keep.refl h0 [a3]) (by rw [own_cp0]; exact VB) (by omega) hp2 hp4 rfl (Or.inl rfl)
theorem d6_0 : decode jdk_52_method_16_code 0 = .ok (.iload_n 2, 1) := by decide +kernel
theorem d6_1 : decode jdk_52_method_16_code 1 = .ok (.newarray .byte, 2) := by decide +kernel
theorem d6_3 : decode jdk_52_method_16_code 3 = .ok (.astore_n 3, 1) := by decide +kernel
theorem d6_4 : decode jdk_52_method_16_code 4 = .ok (.aload_n 0, 1) := by decide +kernel
theorem d6_5 : decode jdk_52_method_16_code 5 = .ok (.iload_n 1, 1) := by decide +kernel
theorem d6_6 : decode jdk_52_method_16_code 6 = .ok (.aload_n 3, 1) := by decide +kernel
theorem d6_7 : decode jdk_52_method_16_code 7 = .ok (.iconst 0, 1) := by decide +kernel
theorem d6_8 : decode jdk_52_method_16_code 8 = .ok (.iload_n 2, 1) := by decide +kernel
theorem d6_9 : decode jdk_52_method_16_code 9 = .ok (.invokestatic 115, 3) := by decide +kernel
theorem d6_12 : decode jdk_52_method_16_code 12 = .ok (.istore 4, 2) := by decide +kernel
theorem d6_14 : decode jdk_52_method_16_code 14 = .ok (.iload 4, 2) := by decide +kernel
theorem d6_16 : decode jdk_52_method_16_code 16 = .ok (.iload_n 2, 1) := by decide +kernel
theorem d6_17 : decode jdk_52_method_16_code 17 = .ok (.if_icmp .eq 40, 3) := by decide +kernel
theorem d6_20 : decode jdk_52_method_16_code 20 = .ok (.aload_n 0, 1) := by decide +kernel
theorem d6_21 : decode jdk_52_method_16_code 21 = .ok (.iload_n 1, 1) := by decide +kernel
theorem d6_22 : decode jdk_52_method_16_code 22 = .ok (.iload_n 2, 1) := by decide +kernel
theorem d6_23 : decode jdk_52_method_16_code 23 = .ok (.invokestatic 119, 3) := by decide +kernel
theorem d6_26 : decode jdk_52_method_16_code 26 = .ok (.astore 5, 2) := by decide +kernel
theorem d6_28 : decode jdk_52_method_16_code 28 = .ok (.aload 5, 2) := by decide +kernel
theorem d6_30 : decode jdk_52_method_16_code 30 = .ok (.iload 4, 2) := by decide +kernel
theorem d6_32 : decode jdk_52_method_16_code 32 = .ok (.invokestatic 71, 3) := by decide +kernel
theorem d6_35 : decode jdk_52_method_16_code 35 = .ok (.sipush 255, 3) := by decide +kernel
theorem d6_38 : decode jdk_52_method_16_code 38 = .ok (.if_icmp .gt 16, 3) := by decide +kernel
theorem d6_41 : decode jdk_52_method_16_code 41 = .ok (.aload 5, 2) := by decide +kernel
theorem d6_43 : decode jdk_52_method_16_code 43 = .ok (.iconst 0, 1) := by decide +kernel
theorem d6_44 : decode jdk_52_method_16_code 44 = .ok (.aload_n 3, 1) := by decide +kernel
theorem d6_45 : decode jdk_52_method_16_code 45 = .ok (.iconst 0, 1) := by decide +kernel
theorem d6_46 : decode jdk_52_method_16_code 46 = .ok (.iload_n 2, 1) := by decide +kernel
theorem d6_47 : decode jdk_52_method_16_code 47 = .ok (.invokestatic 123, 3) := by decide +kernel
theorem d6_50 : decode jdk_52_method_16_code 50 = .ok (.iload_n 2, 1) := by decide +kernel
theorem d6_51 : decode jdk_52_method_16_code 51 = .ok (.if_icmp .eq 6, 3) := by decide +kernel
theorem d6_54 : decode jdk_52_method_16_code 54 = .ok (.aload 5, 2) := by decide +kernel
theorem d6_56 : decode jdk_52_method_16_code 56 = .ok (.areturn, 1) := by decide +kernel
theorem d6_57 : decode jdk_52_method_16_code 57 = .ok (.aload_n 3, 1) := by decide +kernel
theorem d6_58 : decode jdk_52_method_16_code 58 = .ok (.areturn, 1) := by decide +kernel
theorem ef_6 (a1 : Addr) (p2 : Int32) (z : Int32) (m : MethodId) : entryFrame m #[(.ref a1), (.int p2), (.int z)] 6 = mkF m 0 #[.val (.ref a1), .val (.int p2), .val (.int z), .unset, .unset, .unset] [] := by first | (simp [entryFrame, mkF, argsToLocals, Value.category]; done) | rfl
theorem pd_0 : parseMethodDescriptor "([CI[BII)I" = some ⟨[(.array .char), .int, (.array .byte), .int, .int], some .int⟩ := by decide +kernel
set_option maxRecDepth 65536 in
set_option maxHeartbeats 40000000 in
theorem rm6 (l : Launch) (Z : State) (a0 : Array Value) (hw : ∀ d ∈ tables_1, d.before a0 Z = true) (ws : List Jvm.Cond) (a1 : Addr) (p2 : Int32) (z : Int32) (kc : ClassId) (cs : List Int32) (h0 : Heap) (n0 : Nat) (Z0 : n0 ≤ h0.size) (VA : Arv Z h0 a1 kc .char z (cs.map Value.int) (.int (0 : Int32))) (hcs : z.toInt = (cs.length : Nat)) (hcap : cs.length ≤ 8) (hlat : ∀ t, ¬ (255 : Int32) < cs.getD t (0 : Int32)) (hp2 : p2.toInt = (0 : Nat)) :
    own_Met l (⟨"java/lang/StringUTF16", "compress", "([CII)[B"⟩ : MethodName) jdk_52_method_16_code 6 (some (.array .byte)) ws ({ frames := 1, cells := 1, slots := 8, locals := 18 } : Room) #[(.ref a1), (.int p2), (.int z)] Z h0 (fun v h L => ∃ b k, v = some (.ref b) ∧ Fr n0 L ∧ Keep h0 h [] ∧ n0 ≤ b ∧ h0.size ≤ b ∧ Arv Z h b k .byte z ((cs.map (fun c => c.toInt8.toInt32)).map Value.int) (.int (0 : Int32))) := by
  refine own_body (plainFor_of_name pn_0) (ef_6 a1 p2 z) ?_
  intro p e s m below meth c T0 X0 hx hby hml0 hret hlk hnm hown hZ e0
  have hml : c.maxLocals = 6 := hml0
  have N0 := Fr.nil n0
  refine own_step (fun _ k => XS.iloadN X0.here hx rfl (hb hby d6_0) rfl k) ?_
  show own_Go _ _ _ _ T0 (mkF m 1 #[.val (.ref a1), .val (.int p2), .val (.int z), .unset, .unset, .unset] [(.int z)])
  have hzc := own_clamp hcs
  obtain ⟨T1, h1, k1, b, g1, X1, e1, E1, V1, st1⟩ := own_newA X0 hx hZ (hw _ (List.mem_of_getElem? (i := 22) rfl)) e0 (g := (mkF m 1 #[.val (.ref a1), .val (.int p2), .val (.int z), .unset, .unset, .unset] [(.int z)])) rfl (hb hby d6_1) rfl (own_nn hcs) (cap := 8) (by rw [hzc]; exact hcap) (by decide) (by decide) (by decide)
  have ne_a1_b : a1 ≠ b := Nat.ne_of_lt (Nat.lt_of_lt_of_eq VA.lt g1.symm)
  have g_b : n0 ≤ b := Nat.le_trans Z0 (Nat.le_of_eq g1.symm)
  have sz_b : h0.size ≤ b := Nat.le_trans (Keep.refl h0 []).1 (Nat.le_of_eq g1.symm)
  refine own_step st1 ?_
  have Z1 := Nat.le_trans Z0 E1.1
  have KK1 := (Keep.refl h0 []).ext E1
  have VB : Arv Z h1 b k1 .byte z ((List.replicate cs.length (0 : Int32)).map Value.int) (.int (0 : Int32)) := by
    refine Arv.pad V1 (fun i => ?_)
    rw [List.map_replicate]; show _ = (List.replicate 8 (Value.int 0)).getD i (.int 0)
    simp only [List.getD_eq_getElem?_getD, List.getElem?_replicate]; split <;> split <;> rfl
  show own_Go _ _ _ _ T1 (mkF m 3 #[.val (.ref a1), .val (.int p2), .val (.int z), .unset, .unset, .unset] [(.ref b)])
  refine own_step (fun _ k => XS.astoreN X1.here hx rfl (hb hby d6_3) rfl rfl (l' := #[.val (.ref a1), .val (.int p2), .val (.int z), .val (.ref b), .unset, .unset]) rfl k) ?_
  show own_Go _ _ _ _ T1 (mkF m 4 #[.val (.ref a1), .val (.int p2), .val (.int z), .val (.ref b), .unset, .unset] [])
  refine own_step (fun _ k => XS.aloadN X1.here hx rfl (hb hby d6_4) rfl rfl k) ?_
  show own_Go _ _ _ _ T1 (mkF m 5 #[.val (.ref a1), .val (.int p2), .val (.int z), .val (.ref b), .unset, .unset] [(.ref a1)])
  refine own_step (fun _ k => XS.iloadN X1.here hx rfl (hb hby d6_5) rfl k) ?_
  show own_Go _ _ _ _ T1 (mkF m 6 #[.val (.ref a1), .val (.int p2), .val (.int z), .val (.ref b), .unset, .unset] [(.int p2), (.ref a1)])
  refine own_step (fun _ k => XS.aloadN X1.here hx rfl (hb hby d6_6) rfl rfl k) ?_
  show own_Go _ _ _ _ T1 (mkF m 7 #[.val (.ref a1), .val (.int p2), .val (.int z), .val (.ref b), .unset, .unset] [(.ref b), (.int p2), (.ref a1)])
  refine own_step (fun _ k => XS.iconst X1.here hx rfl (hb hby d6_7) k) ?_
  show own_Go _ _ _ _ T1 (mkF m 8 #[.val (.ref a1), .val (.int p2), .val (.int z), .val (.ref b), .unset, .unset] [(.int (0 : Int32)), (.ref b), (.int p2), (.ref a1)])
  refine own_step (fun _ k => XS.iloadN X1.here hx rfl (hb hby d6_8) rfl k) ?_
  show own_Go _ _ _ _ T1 (mkF m 9 #[.val (.ref a1), .val (.int p2), .val (.int z), .val (.ref b), .unset, .unset] [(.int z), (.int (0 : Int32)), (.ref b), (.int p2), (.ref a1)])
  have Q2 := (VA.ext E1)
  refine own_callS X1 hx hZ (y := (⟨"java/lang/StringUTF16", "compress", "([CI[BII)I"⟩ : MethodName)) hown (hw _ (List.mem_of_getElem? (i := 37) rfl)) (hw _ (List.mem_of_getElem? (i := 38) rfl)) (hw _ (List.mem_of_getElem? (i := 35) rfl)) (hw _ (List.mem_of_getElem? (i := 39) rfl)) (by decide) (rm7 l Z a0 hw [] a1 p2 b (0 : Int32) z kc k1 z cs h1 n0 Z1 Q2 VB hcs hcap hlat ne_a1_b hcs hp2 rfl g_b) e1 0 (by decide) (by decide) (by decide) (by decide) (g := (mkF m 9 #[.val (.ref a1), .val (.int p2), .val (.int z), .val (.ref b), .unset, .unset] [(.int z), (.int (0 : Int32)), (.ref b), (.int p2), (.ref a1)])) rfl (by rw [hml]; rfl) [(.ref a1), (.int p2), (.ref b), (.int (0 : Int32)), (.int z)] [] pd_0 rfl rfl rfl (by show 2 * 0 + _ ≤ _; exact Nat.le_of_eq rfl) (hb hby d6_9) ?_
  rintro v3 T3 L3 X3 ⟨rfl, Nq3, K3, V3⟩
  have N3 := Fr.app N0 Nq3
  show own_Go _ _ _ _ T3 (mkF m 12 #[.val (.ref a1), .val (.int p2), .val (.int z), .val (.ref b), .unset, .unset] [(.int z)])
  have Z3 := Nat.le_trans Z1 K3.1
  have KK3 := KK1.trans K3 (allS (P := fun x => x ∈ [] ∨ h0.size ≤ x) (Or.inr sz_b) all0)
  refine own_step (fun _ k => XS.istore X3.here hx rfl (hb hby d6_12) rfl (l' := #[.val (.ref a1), .val (.int p2), .val (.int z), .val (.ref b), .val (.int z), .unset]) rfl k) ?_
  show own_Go _ _ _ _ T3 (mkF m 14 #[.val (.ref a1), .val (.int p2), .val (.int z), .val (.ref b), .val (.int z), .unset] [])
  refine own_step (fun _ k => XS.iload X3.here hx rfl (hb hby d6_14) rfl k) ?_
  show own_Go _ _ _ _ T3 (mkF m 16 #[.val (.ref a1), .val (.int p2), .val (.int z), .val (.ref b), .val (.int z), .unset] [(.int z)])
  refine own_step (fun _ k => XS.iloadN X3.here hx rfl (hb hby d6_16) rfl k) ?_
  show own_Go _ _ _ _ T3 (mkF m 17 #[.val (.ref a1), .val (.int p2), .val (.int z), .val (.ref b), .val (.int z), .unset] [(.int z), (.int z)])
  refine own_step (fun _ k => XS.icmpYes X3.here hx rfl (pc0 := 17) (pc' := 57) rfl (hb hby d6_17) rfl (teq (rfl : z = z)).1 (by decide) (by decide) k) ?_
  show own_Go _ _ _ _ T3 (mkF m 57 #[.val (.ref a1), .val (.int p2), .val (.int z), .val (.ref b), .val (.int z), .unset] [])
  refine own_step (fun _ k => XS.aloadN X3.here hx rfl (hb hby d6_57) rfl rfl k) ?_
  show own_Go _ _ _ _ T3 (mkF m 58 #[.val (.ref a1), .val (.int p2), .val (.int z), .val (.ref b), .val (.int z), .unset] [(.ref b)])
  exact own_retA X3 hx hret rfl hlk rfl rfl (hb hby d6_58) (own_N (by exact ⟨b, _, rfl, N3, KK3, g_b, sz_b, V3⟩) (by decide) (by decide)) 
theorem d8_0 : decode jdk_52_method_15_code 0 = .ok (.iload_n 1, 1) := by decide +kernel
theorem d8_1 : decode jdk_52_method_15_code 1 = .ok (.aload_n 0, 1) := by decide +kernel
theorem d8_2 : decode jdk_52_method_15_code 2 = .ok (.arraylength, 1) := by decide +kernel
theorem d8_3 : decode jdk_52_method_15_code 3 = .ok (.isub, 1) := by decide +kernel
theorem d8_4 : decode jdk_52_method_15_code 4 = .ok (.bipush 31, 2) := by decide +kernel
theorem d8_6 : decode jdk_52_method_15_code 6 = .ok (.iushr, 1) := by decide +kernel
theorem d8_7 : decode jdk_52_method_15_code 7 = .ok (.i2b, 1) := by decide +kernel
theorem d8_8 : decode jdk_52_method_15_code 8 = .ok (.ireturn, 1) := by decide +kernel
theorem ef_8 (a1 : Addr) (p2 : Int32) (m : MethodId) : entryFrame m #[(.ref a1), (.int p2)] 2 = mkF m 0 #[.val (.ref a1), .val (.int p2)] [] := by first | (simp [entryFrame, mkF, argsToLocals, Value.category]; done) | rfl
set_option maxRecDepth 65536 in
set_option maxHeartbeats 40000000 in
theorem rm8 (l : Launch) (Z : State) (a0 : Array Value) (hw : ∀ d ∈ tables_1, d.before a0 Z = true) (ws : List Jvm.Cond) (a1 : Addr) (p2 : Int32) (kb : ClassId) (vs : List Value) (h0 : Heap) (n0 : Nat) (Z0 : n0 ≤ h0.size) (VB : Arv Z h0 a1 kb .byte p2 vs (.int (0 : Int32))) :
    own_Met l (⟨"java/lang/StringUTF16", "coderFromArrayLen", "([BI)B"⟩ : MethodName) jdk_52_method_15_code 2 (some .byte) ws ({ frames := 0, cells := 0, slots := 0, locals := 0 } : Room) #[(.ref a1), (.int p2)] Z h0 (fun v h L => v = some (.int (0 : Int32)) ∧ Fr n0 L ∧ h = h0) := by
  refine own_body (plainFor_of_name pn_0) (ef_8 a1 p2) ?_
  intro p e s m below meth c T0 X0 hx hby hml0 hret hlk hnm hown hZ e0
  have hml : c.maxLocals = 2 := hml0
  have N0 := Fr.nil n0
  refine own_step (fun _ k => XS.iloadN X0.here hx rfl (hb hby d8_0) rfl k) ?_
  show own_Go _ _ _ _ T0 (mkF m 1 #[.val (.ref a1), .val (.int p2)] [(.int p2)])
  refine own_step (fun _ k => XS.aloadN X0.here hx rfl (hb hby d8_1) rfl rfl k) ?_
  show own_Go _ _ _ _ T0 (mkF m 2 #[.val (.ref a1), .val (.int p2)] [(.ref a1), (.int p2)])
  refine own_step (own_len X0 hx hZ e0 VB (g := (mkF m 2 #[.val (.ref a1), .val (.int p2)] [(.ref a1), (.int p2)])) rfl rfl (hb hby d8_2)) ?_
  show own_Go _ _ _ _ T0 (mkF m 3 #[.val (.ref a1), .val (.int p2)] [(.int p2), (.int p2)])
  refine own_step (fun _ k => XS.isub X0.here hx rfl (hb hby d8_3) rfl k) ?_
  show own_Go _ _ _ _ T0 (mkF m 4 #[.val (.ref a1), .val (.int p2)] [(.int (p2 - p2))])
  rw [Int32.sub_self]
  show own_Go _ _ _ _ T0 (mkF m 4 #[.val (.ref a1), .val (.int p2)] [(.int (0 : Int32))])
  refine own_step (fun _ k => XS.bipush X0.here hx rfl (hb hby d8_4) k) ?_
  show own_Go _ _ _ _ T0 (mkF m 6 #[.val (.ref a1), .val (.int p2)] [(.int (31 : Int32)), (.int (0 : Int32))])
  refine own_step (fun _ k => XS.iushr X0.here hx rfl (hb hby d8_6) rfl k) ?_
  show own_Go _ _ _ _ T0 (mkF m 7 #[.val (.ref a1), .val (.int p2)] [(.int (((0 : Int32).toUInt32 >>> ((31 : Int32) &&& 31).toUInt32).toInt32))])
  refine own_step (fun _ k => XS.i2b X0.here hx rfl (hb hby d8_7) rfl k) ?_
  show own_Go _ _ _ _ T0 (mkF m 8 #[.val (.ref a1), .val (.int p2)] [(.int ((((0 : Int32).toUInt32 >>> ((31 : Int32) &&& 31).toUInt32).toInt32).toInt8.toInt32))])
  show own_Go _ _ _ _ T0 (mkF m 8 #[.val (.ref a1), .val (.int p2)] [(.int (0 : Int32))])
  exact own_retN X0 hx (t := .byte) hret (by simp) hlk (hb hby d8_8) rfl (own_N ⟨rfl, N0, e0⟩ (by decide) (by decide)) 
theorem d3_0 : decode jdk_42_method_149_code 0 = .ok (.aload_n 0, 1) := by decide +kernel
theorem d3_1 : decode jdk_42_method_149_code 1 = .ok (.invokespecial 1, 3) := by decide +kernel
theorem d3_4 : decode jdk_42_method_149_code 4 = .ok (.iload_n 3, 1) := by decide +kernel
theorem d3_5 : decode jdk_42_method_149_code 5 = .ok (.ifCond .ne 22, 3) := by decide +kernel
theorem d3_8 : decode jdk_42_method_149_code 8 = .ok (.aload_n 0, 1) := by decide +kernel
theorem d3_9 : decode jdk_42_method_149_code 9 = .ok (.ldc 7, 2) := by decide +kernel
theorem d3_11 : decode jdk_42_method_149_code 11 = .ok (.getfield 9, 3) := by decide +kernel
theorem d3_14 : decode jdk_42_method_149_code 14 = .ok (.putfield 9, 3) := by decide +kernel
theorem d3_17 : decode jdk_42_method_149_code 17 = .ok (.aload_n 0, 1) := by decide +kernel
theorem d3_18 : decode jdk_42_method_149_code 18 = .ok (.ldc 7, 2) := by decide +kernel
theorem d3_20 : decode jdk_42_method_149_code 20 = .ok (.getfield 15, 3) := by decide +kernel
theorem d3_23 : decode jdk_42_method_149_code 23 = .ok (.putfield 15, 3) := by decide +kernel
theorem d3_26 : decode jdk_42_method_149_code 26 = .ok (.return_, 1) := by decide +kernel
theorem d3_27 : decode jdk_42_method_149_code 27 = .ok (.getstatic 38, 3) := by decide +kernel
theorem d3_30 : decode jdk_42_method_149_code 30 = .ok (.ifCond .eq 28, 3) := by decide +kernel
theorem d3_33 : decode jdk_42_method_149_code 33 = .ok (.aload_n 1, 1) := by decide +kernel
theorem d3_34 : decode jdk_42_method_149_code 34 = .ok (.iload_n 2, 1) := by decide +kernel
theorem d3_35 : decode jdk_42_method_149_code 35 = .ok (.iload_n 3, 1) := by decide +kernel
theorem d3_36 : decode jdk_42_method_149_code 36 = .ok (.invokestatic 177, 3) := by decide +kernel
theorem d3_39 : decode jdk_42_method_149_code 39 = .ok (.astore 5, 2) := by decide +kernel
theorem d3_41 : decode jdk_42_method_149_code 41 = .ok (.aload_n 0, 1) := by decide +kernel
theorem d3_42 : decode jdk_42_method_149_code 42 = .ok (.aload 5, 2) := by decide +kernel
theorem d3_44 : decode jdk_42_method_149_code 44 = .ok (.iload_n 3, 1) := by decide +kernel
theorem d3_45 : decode jdk_42_method_149_code 45 = .ok (.invokestatic 47, 3) := by decide +kernel
theorem d3_48 : decode jdk_42_method_149_code 48 = .ok (.putfield 15, 3) := by decide +kernel
theorem d3_51 : decode jdk_42_method_149_code 51 = .ok (.aload_n 0, 1) := by decide +kernel
theorem d3_52 : decode jdk_42_method_149_code 52 = .ok (.aload 5, 2) := by decide +kernel
theorem d3_54 : decode jdk_42_method_149_code 54 = .ok (.putfield 9, 3) := by decide +kernel
theorem d3_57 : decode jdk_42_method_149_code 57 = .ok (.return_, 1) := by decide +kernel
theorem d3_58 : decode jdk_42_method_149_code 58 = .ok (.aload_n 0, 1) := by decide +kernel
theorem d3_59 : decode jdk_42_method_149_code 59 = .ok (.iconst 1, 1) := by decide +kernel
theorem d3_60 : decode jdk_42_method_149_code 60 = .ok (.putfield 15, 3) := by decide +kernel
theorem d3_63 : decode jdk_42_method_149_code 63 = .ok (.aload_n 0, 1) := by decide +kernel
theorem d3_64 : decode jdk_42_method_149_code 64 = .ok (.aload_n 1, 1) := by decide +kernel
theorem d3_65 : decode jdk_42_method_149_code 65 = .ok (.iload_n 2, 1) := by decide +kernel
theorem d3_66 : decode jdk_42_method_149_code 66 = .ok (.iload_n 3, 1) := by decide +kernel
theorem d3_67 : decode jdk_42_method_149_code 67 = .ok (.invokestatic 180, 3) := by decide +kernel
theorem d3_70 : decode jdk_42_method_149_code 70 = .ok (.putfield 9, 3) := by decide +kernel
theorem d3_73 : decode jdk_42_method_149_code 73 = .ok (.return_, 1) := by decide +kernel
theorem ef_3 (a1 : Addr) (a2 : Addr) (p3 : Int32) (z : Int32) (m : MethodId) : entryFrame m #[(.ref a1), (.ref a2), (.int p3), (.int z), .null] 6 = mkF m 0 #[.val (.ref a1), .val (.ref a2), .val (.int p3), .val (.int z), .val .null, .unset] [] := by first | (simp [entryFrame, mkF, argsToLocals, Value.category]; done) | rfl
theorem pd_1 : parseMethodDescriptor "([CII)[B" = some ⟨[(.array .char), .int, .int], some (.array .byte)⟩ := by decide +kernel
theorem pd_2 : parseMethodDescriptor "([BI)B" = some ⟨[(.array .byte), .int], some .byte⟩ := by decide +kernel
theorem pn_1 : plainName "java/lang/String" = true := by first | (simp [plainName, overriddenIn]; done) | decide +kernel
set_option maxRecDepth 65536 in
set_option maxHeartbeats 40000000 in
theorem rm3 (l : Launch) (Z : State) (a0 : Array Value) (hw : ∀ d ∈ tables_1, d.before a0 Z = true) (ws : List Jvm.Cond) (a1 : Addr) (a2 : Addr) (p3 : Int32) (z : Int32) (kc : ClassId) (cz : Int32) (cs : List Int32) (h0 : Heap) (n0 : Nat) (Z0 : n0 ≤ h0.size) (hEL : EW Z a0 own_EL) (O0 : Old Z n0 h0) (SC : Sta Z Z.heap "java/lang/String" "COMPACT_STRINGS" "Z" (.int cz)) (hcz : ¬ cz = (0 : Int32)) (E_a1 : Exa Z h0 a1 "java/lang/String") (FC_a1 : Fld Z h0 a1 "java/lang/String" "coder" "B" (.int (0 : Int32))) (FV_a1 : Fld Z h0 a1 "java/lang/String" "value" "[B" .null) (VA : Arv Z h0 a2 kc .char z (cs.map Value.int) (.int (0 : Int32))) (hcs : z.toInt = (cs.length : Nat)) (hcap : cs.length ≤ 8) (hlat : ∀ t, ¬ (255 : Int32) < cs.getD t (0 : Int32)) (g_a1 : n0 ≤ a1) (hp3 : p3 = (0 : Int32)) :
    own_MetW l (⟨"java/lang/String", "<init>", "([CIILjava/lang/Void;)V"⟩ : MethodName) jdk_42_method_149_code 6 none ws ({ frames := 2, cells := 4, slots := 8, locals := 35 } : Room) #[(.ref a1), (.ref a2), (.int p3), (.int z), .null] Z own_EL h0 (fun v h L => ∃ b k, v = none ∧ Fr n0 L ∧ Keep h0 h [a1] ∧ (Exa Z h a1 "java/lang/String" ∧ Fld Z h a1 "java/lang/String" "coder" "B" (.int (0 : Int32)) ∧ Fld Z h a1 "java/lang/String" "value" "[B" (.ref b)) ∧ Arv Z h b k .byte z ((cs.map (fun c => c.toInt8.toInt32)).map Value.int) (.int (0 : Int32))) := by
  refine own_bodyW (plainFor_of_name pn_1) (ef_3 a1 a2 p3 z) ?_
  intro p e s m below meth c T0 X0 hx hby hml0 hret hlk hnm hown hZ e0 eS H0 hS0
  have C0 := CHr.refl H0
  have hml : c.maxLocals = 6 := hml0
  have N0 := Fr.nil n0
  have ne_a1_a2 : a1 ≠ a2 := Exa.neArv E_a1 VA (hw _ (List.mem_of_getElem? (i := 8) rfl))
  have Sf0 := own_safe (EL := own_EL) hZ.alike E_a1 FV_a1
  refine own_step (fun _ k => XS.aloadN X0.here hx rfl (hb hby d3_0) rfl rfl k) ?_
  show own_Go _ _ _ _ T0 (mkF m 1 #[.val (.ref a1), .val (.ref a2), .val (.int p3), .val (.int z), .val .null, .unset] [(.ref a1)])
  obtain ⟨T1, X1, e1, st1⟩ := initO X0 hx hZ hown (hw _ (List.mem_of_getElem? (i := 18) rfl)) (hw _ (List.mem_of_getElem? (i := 19) rfl)) (hw _ (List.mem_of_getElem? (i := 20) rfl)) e0 (g := (mkF m 1 #[.val (.ref a1), .val (.ref a2), .val (.int p3), .val (.int z), .val .null, .unset] [(.ref a1)])) rfl (by rw [hml]; rfl) rfl (hb hby d3_1) (by decide) (W := 0) (by show 2 * 0 + _ ≤ _; exact Nat.le_of_eq rfl) (by decide)
  refine own_step st1 ?_
  show own_Go _ _ _ _ T1 (mkF m 4 #[.val (.ref a1), .val (.ref a2), .val (.int p3), .val (.int z), .val .null, .unset] [])
  refine own_step (fun _ k => XS.iloadN X1.here hx rfl (hb hby d3_4) rfl k) ?_
  show own_Go _ _ _ _ T1 (mkF m 5 #[.val (.ref a1), .val (.ref a2), .val (.int p3), .val (.int z), .val .null, .unset] [(.int z)])
  by_cases hz0 : z = (0 : Int32)
  · refine own_step (fun _ k => XS.ifNo X1.here hx rfl (hb hby d3_5) rfl ((if0 _ _).trans (teq hz0).2) k) ?_
    show own_Go _ _ _ _ T1 (mkF m 8 #[.val (.ref a1), .val (.ref a2), .val (.int p3), .val (.int z), .val .null, .unset] [])
    have hnil : cs = [] := List.eq_nil_of_length_eq_zero (by rw [hz0] at hcs; have e0 : (0 : Int32).toInt = 0 := rfl; omega)
    subst hnil
    refine own_step (fun _ k => XS.aloadN X1.here hx rfl (hb hby d3_8) rfl rfl k) ?_
    show own_Go _ _ _ _ T1 (mkF m 9 #[.val (.ref a1), .val (.ref a2), .val (.int p3), .val (.int z), .val .null, .unset] [(.ref a1)])
    obtain ⟨lit2, T2, h2, k12, lib2, kd2, X2, e2, E2, hS2, hk2, hZ, hown, EX2, FC2, FV2, V2, lt12, lt22, D2, Ld2, sf2, st2⟩ := ldcCH X1 hx hZ hown (hw _ (List.mem_of_getElem? (i := 21) rfl)) (own_wS hw) e1 hS0 (Nat.le_refl _) hEL (List.mem_of_getElem? (i := 0) rfl) C0.1 (vs := []) (z := (0 : Int32)) ⟨fun c hc => absurd hc (by simp), rfl⟩ (by decide) rfl (g := (mkF m 9 #[.val (.ref a1), .val (.ref a2), .val (.int p3), .val (.int z), .val .null, .unset] [(.ref a1)])) rfl (hb hby d3_9) (n := 0) (by simp) (by decide) (by decide) (by decide)
    refine own_step st2 ?_
    have Z2 := Nat.le_trans Z0 E2.1
    have KK2 := (Keep.refl h0 [a1]).ext E2
    have Sf_a1_2 := CHr.safe D2 E_a1.lt Sf0
    have C2 := C0.trans D2
    show own_Go _ _ _ _ T2 (mkF m 11 #[.val (.ref a1), .val (.ref a2), .val (.int p3), .val (.int z), .val .null, .unset] [(.ref lit2), (.ref a1)])
    obtain ⟨T3, X3, e3, st3⟩ := getF X2 hx hZ hown (host := "") (Or.inl (hw _ (List.mem_of_getElem? (i := 27) rfl))) Via.refl e2 FV2 (g := (mkF m 11 #[.val (.ref a1), .val (.ref a2), .val (.int p3), .val (.int z), .val .null, .unset] [(.ref lit2), (.ref a1)])) rfl rfl (hb hby d3_11)
    refine own_step st3 ?_
    show own_Go _ _ _ _ T3 (mkF m 14 #[.val (.ref a1), .val (.ref a2), .val (.int p3), .val (.int z), .val .null, .unset] [(.ref lib2), (.ref a1)])
    have Q4 := (FV_a1.ext E2)
    have Q5 := (E_a1.ext E2)
    obtain ⟨T6, h6, X6, e6, W6, st6⟩ := putF X3 hx hZ hown (host := "") (Or.inl (hw _ (List.mem_of_getElem? (i := 27) rfl))) Via.refl e3 Q4 Q5 (Or.inr ⟨(hw _ (List.mem_of_getElem? (i := 23) rfl)), rfl, hnm⟩) (hw _ (List.mem_of_getElem? (i := 8) rfl)) (ty := (.array .byte)) (by decide) rfl rfl (g := (mkF m 14 #[.val (.ref a1), .val (.ref a2), .val (.int p3), .val (.int z), .val .null, .unset] [(.ref lib2), (.ref a1)])) rfl rfl (hb hby d3_14)
    refine own_step st6 ?_
    have N6 := Fr.snoc X6 N0 g_a1
    have F6 := Q4.same W6
    have Dc6 := (CHr.wr W6 Sf_a1_2 C2.1)
    have Sf_a1_6 := CHr.safe Dc6 Q5.lt Sf_a1_2
    have C6 := C2.trans Dc6
    have hk6 := Nat.le_trans hk2 Dc6.2.1
    have Z6 := Nat.le_trans Z2 (Keep.of_wr W6).1
    have KK6 := KK2.wr W6 (Or.inl (List.mem_of_getElem? (i := 0) rfl))
    show own_Go _ _ _ _ T6 (mkF m 17 #[.val (.ref a1), .val (.ref a2), .val (.int p3), .val (.int z), .val .null, .unset] [])
    refine own_step (fun _ k => XS.aloadN X6.here hx rfl (hb hby d3_17) rfl rfl k) ?_
    show own_Go _ _ _ _ T6 (mkF m 18 #[.val (.ref a1), .val (.ref a2), .val (.int p3), .val (.int z), .val .null, .unset] [(.ref a1)])
    obtain ⟨lit7, T7, h7, k17, lib7, kd7, X7, e7, E7, hS7, hk7, hZ, hown, EX7, FC7, FV7, V7, lt17, lt27, D7, Ld7, sf7, st7⟩ := ldcCH X6 hx hZ hown (hw _ (List.mem_of_getElem? (i := 21) rfl)) (own_wS hw) e6 hS2 hk6 hEL (List.mem_of_getElem? (i := 0) rfl) C6.1 (vs := []) (z := (0 : Int32)) ⟨fun c hc => absurd hc (by simp), rfl⟩ (by decide) rfl (g := (mkF m 18 #[.val (.ref a1), .val (.ref a2), .val (.int p3), .val (.int z), .val .null, .unset] [(.ref a1)])) rfl (hb hby d3_18) (n := 0) (by simp) (by decide) (by decide) (by decide)
    refine own_step st7 ?_
    have Q8 := (Q5.wr W6)
    have Z7 := Nat.le_trans Z6 E7.1
    have KK7 := KK6.ext E7
    have Sf_a1_7 := CHr.safe D7 Q8.lt Sf_a1_6
    have C7 := C6.trans D7
    show own_Go _ _ _ _ T7 (mkF m 20 #[.val (.ref a1), .val (.ref a2), .val (.int p3), .val (.int z), .val .null, .unset] [(.ref lit7), (.ref a1)])
    obtain ⟨T9, X9, e9, st9⟩ := getF X7 hx hZ hown (host := "") (Or.inl (hw _ (List.mem_of_getElem? (i := 28) rfl))) Via.refl e7 FC7 (g := (mkF m 20 #[.val (.ref a1), .val (.ref a2), .val (.int p3), .val (.int z), .val .null, .unset] [(.ref lit7), (.ref a1)])) rfl rfl (hb hby d3_20)
    refine own_step st9 ?_
    show own_Go _ _ _ _ T9 (mkF m 23 #[.val (.ref a1), .val (.ref a2), .val (.int p3), .val (.int z), .val .null, .unset] [(.int (0 : Int32)), (.ref a1)])
    have Q10 := (((FC_a1.ext E2).other W6 (Or.inr (slot_ne (Or.inr (hw _ (List.mem_of_getElem? (i := 24) rfl))) (Or.inr (hw _ (List.mem_of_getElem? (i := 23) rfl))) (by decide) (t := .byte) (t' := (.array .byte)) (by decide) (by decide)))).ext E7)
    have Q11 := (Q8.ext E7)
    obtain ⟨T12, h12, X12, e12, W12, st12⟩ := putFN X9 hx hZ hown (hw _ (List.mem_of_getElem? (i := 28) rfl)) Via.refl e9 Q10 Q11 (Or.inr ⟨(hw _ (List.mem_of_getElem? (i := 24) rfl)), rfl, hnm⟩) (hw _ (List.mem_of_getElem? (i := 8) rfl)) (ty := .byte) (v' := (.int (0 : Int32))) (by decide) rfl (fits_nar_byte (0 : Int32)) (g := (mkF m 23 #[.val (.ref a1), .val (.ref a2), .val (.int p3), .val (.int z), .val .null, .unset] [(.int (0 : Int32)), (.ref a1)])) rfl rfl (hb hby d3_23)
    refine own_step st12 ?_
    have N12 := Fr.snoc X12 N6 g_a1
    have F12 := Q10.same W12
    have Dc12 := (CHr.wr W12 Sf_a1_7 C7.1)
    have Sf_a1_12 := CHr.safe Dc12 Q11.lt Sf_a1_7
    have C12 := C7.trans Dc12
    have hk12 := Nat.le_trans hk7 Dc12.2.1
    have Z12 := Nat.le_trans Z7 (Keep.of_wr W12).1
    have KK12 := KK7.wr W12 (Or.inl (List.mem_of_getElem? (i := 0) rfl))
    show own_Go _ _ _ _ T12 (mkF m 26 #[.val (.ref a1), .val (.ref a2), .val (.int p3), .val (.int z), .val .null, .unset] [])
    have Q13 := (Q11.wr W12)
    have Q14 := ((F6.ext E7).other W12 (Or.inr (slot_ne (Or.inr (hw _ (List.mem_of_getElem? (i := 23) rfl))) (Or.inr (hw _ (List.mem_of_getElem? (i := 24) rfl))) (by decide) (t := (.array .byte)) (t' := .byte) (by decide) (by decide))))
    have Q15 := (((V2.other W6 (Ne.symm (sf2 a1 Sf_a1_2).2)).ext E7).other W12 (Ne.symm (sf2 a1 Sf_a1_2).2))
    exact own_retV X12 hx hret hlk (hb hby d3_26) (own_W X12 hS7 hk12 e12 eS hZ hEL C12 (by rw [e12, hz0]; exact ⟨lib2, _, rfl, N12, KK12, ⟨Q13, F12, Q14⟩, Q15⟩) (by decide) (by decide)) 
  · refine own_step (fun _ k => XS.ifYes X1.here hx rfl (pc0 := 5) (pc' := 27) rfl (hb hby d3_5) rfl ((if0 _ _).trans (feq hz0).2) (by decide) (by decide) k) ?_
    show own_Go _ _ _ _ T1 (mkF m 27 #[.val (.ref a1), .val (.ref a2), .val (.int p3), .val (.int z), .val .null, .unset] [])
    obtain ⟨T16, X16, e16, st16⟩ := getS2 X1 hx hZ hown (host := "") (Or.inl (hw _ (List.mem_of_getElem? (i := 32) rfl))) Via.refl e1 (SC.ext O0.2) (g := (mkF m 27 #[.val (.ref a1), .val (.ref a2), .val (.int p3), .val (.int z), .val .null, .unset] [])) rfl (hb hby d3_27)
    refine own_step st16 ?_
    show own_Go _ _ _ _ T16 (mkF m 30 #[.val (.ref a1), .val (.ref a2), .val (.int p3), .val (.int z), .val .null, .unset] [(.int cz)])
    refine own_step (fun _ k => XS.ifNo X16.here hx rfl (hb hby d3_30) rfl ((if0 _ _).trans (feq hcz).1) k) ?_
    show own_Go _ _ _ _ T16 (mkF m 33 #[.val (.ref a1), .val (.ref a2), .val (.int p3), .val (.int z), .val .null, .unset] [])
    refine own_step (fun _ k => XS.aloadN X16.here hx rfl (hb hby d3_33) rfl rfl k) ?_
    show own_Go _ _ _ _ T16 (mkF m 34 #[.val (.ref a1), .val (.ref a2), .val (.int p3), .val (.int z), .val .null, .unset] [(.ref a2)])
    refine own_step (fun _ k => XS.iloadN X16.here hx rfl (hb hby d3_34) rfl k) ?_
    show own_Go _ _ _ _ T16 (mkF m 35 #[.val (.ref a1), .val (.ref a2), .val (.int p3), .val (.int z), .val .null, .unset] [(.int p3), (.ref a2)])
    refine own_step (fun _ k => XS.iloadN X16.here hx rfl (hb hby d3_35) rfl k) ?_
    show own_Go _ _ _ _ T16 (mkF m 36 #[.val (.ref a1), .val (.ref a2), .val (.int p3), .val (.int z), .val .null, .unset] [(.int z), (.int p3), (.ref a2)])
    refine own_callS X16 hx hZ (y := (⟨"java/lang/StringUTF16", "compress", "([CII)[B"⟩ : MethodName)) hown (hw _ (List.mem_of_getElem? (i := 33) rfl)) (hw _ (List.mem_of_getElem? (i := 34) rfl)) (hw _ (List.mem_of_getElem? (i := 35) rfl)) (hw _ (List.mem_of_getElem? (i := 36) rfl)) (by decide) (rm6 l Z a0 hw [] a2 p3 z kc cs h0 n0 Z0 VA hcs hcap hlat (by rw [hp3]; rfl)) e16 0 (by decide) (by decide) (by decide) (by decide) (g := (mkF m 36 #[.val (.ref a1), .val (.ref a2), .val (.int p3), .val (.int z), .val .null, .unset] [(.int z), (.int p3), (.ref a2)])) rfl (by rw [hml]; rfl) [(.ref a2), (.int p3), (.int z)] [] pd_1 rfl rfl rfl (by show 2 * 0 + _ ≤ _; exact Nat.le_of_eq rfl) (hb hby d3_36) ?_
    rintro v17 T17 L17 X17 ⟨bv, kv, rfl, Nq17, K17, g_bv, sb17, V17⟩
    have N17 := Fr.app N0 Nq17
    show own_Go _ _ _ _ T17 (mkF m 39 #[.val (.ref a1), .val (.ref a2), .val (.int p3), .val (.int z), .val .null, .unset] [(.ref bv)])
    have ne_a1_bv : a1 ≠ bv := Nat.ne_of_lt (Nat.lt_of_lt_of_le E_a1.lt sb17)
    have Dc17 := (CHr.keep K17 sf0 C0.1)
    have Sf_a1_17 := CHr.safe Dc17 E_a1.lt Sf0
    have C17 := C0.trans Dc17
    have hk17 := Nat.le_trans (Nat.le_refl _) Dc17.2.1
    have Z17 := Nat.le_trans Z0 K17.1
    have KK17 := (Keep.refl h0 [a1]).trans K17 all0
    refine own_step (fun _ k => XS.astore X17.here hx rfl (hb hby d3_39) rfl rfl (l' := #[.val (.ref a1), .val (.ref a2), .val (.int p3), .val (.int z), .val .null, .val (.ref bv)]) rfl k) ?_
    show own_Go _ _ _ _ T17 (mkF m 41 #[.val (.ref a1), .val (.ref a2), .val (.int p3), .val (.int z), .val .null, .val (.ref bv)] [])
    refine own_step (fun _ k => XS.aloadN X17.here hx rfl (hb hby d3_41) rfl rfl k) ?_
    show own_Go _ _ _ _ T17 (mkF m 42 #[.val (.ref a1), .val (.ref a2), .val (.int p3), .val (.int z), .val .null, .val (.ref bv)] [(.ref a1)])
    refine own_step (fun _ k => XS.aload X17.here hx rfl (hb hby d3_42) rfl rfl k) ?_
    show own_Go _ _ _ _ T17 (mkF m 44 #[.val (.ref a1), .val (.ref a2), .val (.int p3), .val (.int z), .val .null, .val (.ref bv)] [(.ref bv), (.ref a1)])
    refine own_step (fun _ k => XS.iloadN X17.here hx rfl (hb hby d3_44) rfl k) ?_
    show own_Go _ _ _ _ T17 (mkF m 45 #[.val (.ref a1), .val (.ref a2), .val (.int p3), .val (.int z), .val .null, .val (.ref bv)] [(.int z), (.ref bv), (.ref a1)])
    refine own_callS X17 hx hZ (y := (⟨"java/lang/StringUTF16", "coderFromArrayLen", "([BI)B"⟩ : MethodName)) hown (hw _ (List.mem_of_getElem? (i := 40) rfl)) (hw _ (List.mem_of_getElem? (i := 41) rfl)) (hw _ (List.mem_of_getElem? (i := 35) rfl)) (hw _ (List.mem_of_getElem? (i := 42) rfl)) (by decide) (rm8 l Z a0 hw [] bv z kv _ T17.heap n0 Z17 V17) rfl 1 (by decide) (by decide) (by decide) (by decide) (g := (mkF m 45 #[.val (.ref a1), .val (.ref a2), .val (.int p3), .val (.int z), .val .null, .val (.ref bv)] [(.int z), (.ref bv), (.ref a1)])) rfl (by rw [hml]; rfl) [(.ref bv), (.int z)] [(.ref a1)] pd_2 rfl rfl rfl (by show 2 * 0 + _ ≤ _; exact Nat.le_of_eq rfl) (hb hby d3_45) ?_
    rintro v18 T18 L18 X18 ⟨rfl, Nq18, e18⟩
    have N18 := Fr.app N17 Nq18
    show own_Go _ _ _ _ T18 (mkF m 48 #[.val (.ref a1), .val (.ref a2), .val (.int p3), .val (.int z), .val .null, .val (.ref bv)] [(.int (0 : Int32)), (.ref a1)])
    have Q19 := (FC_a1.keep K17 nin0)
    have Q20 := (E_a1.keep K17)
    obtain ⟨T21, h21, X21, e21, W21, st21⟩ := putFN X18 hx hZ hown (hw _ (List.mem_of_getElem? (i := 28) rfl)) Via.refl e18 Q19 Q20 (Or.inr ⟨(hw _ (List.mem_of_getElem? (i := 24) rfl)), rfl, hnm⟩) (hw _ (List.mem_of_getElem? (i := 8) rfl)) (ty := .byte) (v' := (.int (0 : Int32))) (by decide) rfl (fits_nar_byte (0 : Int32)) (g := (mkF m 48 #[.val (.ref a1), .val (.ref a2), .val (.int p3), .val (.int z), .val .null, .val (.ref bv)] [(.int (0 : Int32)), (.ref a1)])) rfl rfl (hb hby d3_48)
    refine own_step st21 ?_
    have N21 := Fr.snoc X21 N18 g_a1
    have F21 := Q19.same W21
    have Dc21 := (CHr.wr W21 Sf_a1_17 C17.1)
    have Sf_a1_21 := CHr.safe Dc21 Q20.lt Sf_a1_17
    have C21 := C17.trans Dc21
    have hk21 := Nat.le_trans hk17 Dc21.2.1
    have Z21 := Nat.le_trans Z17 (Keep.of_wr W21).1
    have KK21 := KK17.wr W21 (Or.inl (List.mem_of_getElem? (i := 0) rfl))
    show own_Go _ _ _ _ T21 (mkF m 51 #[.val (.ref a1), .val (.ref a2), .val (.int p3), .val (.int z), .val .null, .val (.ref bv)] [])
    refine own_step (fun _ k => XS.aloadN X21.here hx rfl (hb hby d3_51) rfl rfl k) ?_
    show own_Go _ _ _ _ T21 (mkF m 52 #[.val (.ref a1), .val (.ref a2), .val (.int p3), .val (.int z), .val .null, .val (.ref bv)] [(.ref a1)])
    refine own_step (fun _ k => XS.aload X21.here hx rfl (hb hby d3_52) rfl rfl k) ?_
    show own_Go _ _ _ _ T21 (mkF m 54 #[.val (.ref a1), .val (.ref a2), .val (.int p3), .val (.int z), .val .null, .val (.ref bv)] [(.ref bv), (.ref a1)])
    have Q22 := ((FV_a1.keep K17 nin0).other W21 (Or.inr (slot_ne (Or.inr (hw _ (List.mem_of_getElem? (i := 23) rfl))) (Or.inr (hw _ (List.mem_of_getElem? (i := 24) rfl))) (by decide) (t := (.array .byte)) (t' := .byte) (by decide) (by decide))))
    have Q23 := (Q20.wr W21)
    obtain ⟨T24, h24, X24, e24, W24, st24⟩ := putF X21 hx hZ hown (host := "") (Or.inl (hw _ (List.mem_of_getElem? (i := 27) rfl))) Via.refl e21 Q22 Q23 (Or.inr ⟨(hw _ (List.mem_of_getElem? (i := 23) rfl)), rfl, hnm⟩) (hw _ (List.mem_of_getElem? (i := 8) rfl)) (ty := (.array .byte)) (by decide) rfl rfl (g := (mkF m 54 #[.val (.ref a1), .val (.ref a2), .val (.int p3), .val (.int z), .val .null, .val (.ref bv)] [(.ref bv), (.ref a1)])) rfl rfl (hb hby d3_54)
    refine own_step st24 ?_
    have N24 := Fr.snoc X24 N21 g_a1
    have F24 := Q22.same W24
    have Dc24 := (CHr.wr W24 Sf_a1_21 C21.1)
    have Sf_a1_24 := CHr.safe Dc24 Q23.lt Sf_a1_21
    have C24 := C21.trans Dc24
    have hk24 := Nat.le_trans hk21 Dc24.2.1
    have Z24 := Nat.le_trans Z21 (Keep.of_wr W24).1
    have KK24 := KK21.wr W24 (Or.inl (List.mem_of_getElem? (i := 0) rfl))
    show own_Go _ _ _ _ T24 (mkF m 57 #[.val (.ref a1), .val (.ref a2), .val (.int p3), .val (.int z), .val .null, .val (.ref bv)] [])
    have Q25 := (Q23.wr W24)
    have Q26 := (F21.other W24 (Or.inr (slot_ne (Or.inr (hw _ (List.mem_of_getElem? (i := 24) rfl))) (Or.inr (hw _ (List.mem_of_getElem? (i := 23) rfl))) (by decide) (t := .byte) (t' := (.array .byte)) (by decide) (by decide))))
    have Q27 := ((V17.other W21 (Ne.symm ne_a1_bv)).other W24 (Ne.symm ne_a1_bv))
    exact own_retV X24 hx hret hlk (hb hby d3_57) (own_W X24 hS0 hk24 e24 eS hZ hEL C24 (by rw [e24]; exact ⟨bv, kv, rfl, N24, KK24, ⟨Q25, Q26, F24⟩, Q27⟩) (by decide) (by decide)) 
theorem d2_0 : decode jdk_42_method_3_code 0 = .ok (.aload_n 0, 1) := by decide +kernel
theorem d2_1 : decode jdk_42_method_3_code 1 = .ok (.aload_n 1, 1) := by decide +kernel
theorem d2_2 : decode jdk_42_method_3_code 2 = .ok (.iconst 0, 1) := by decide +kernel
theorem d2_3 : decode jdk_42_method_3_code 3 = .ok (.aload_n 1, 1) := by decide +kernel
theorem d2_4 : decode jdk_42_method_3_code 4 = .ok (.arraylength, 1) := by decide +kernel
theorem d2_5 : decode jdk_42_method_3_code 5 = .ok (.aconst_null, 1) := by decide +kernel
theorem d2_6 : decode jdk_42_method_3_code 6 = .ok (.invokespecial 27, 3) := by decide +kernel
theorem d2_9 : decode jdk_42_method_3_code 9 = .ok (.return_, 1) := by decide +kernel
theorem ef_2 (a1 : Addr) (a2 : Addr) (m : MethodId) : entryFrame m #[(.ref a1), (.ref a2)] 2 = mkF m 0 #[.val (.ref a1), .val (.ref a2)] [] := by first | (simp [entryFrame, mkF, argsToLocals, Value.category]; done) | rfl
theorem pd_3 : parseMethodDescriptor "([CIILjava/lang/Void;)V" = some ⟨[(.array .char), .int, .int, (.object "java/lang/Void")], none⟩ := by decide +kernel
set_option maxRecDepth 65536 in
set_option maxHeartbeats 40000000 in
theorem rm2 (l : Launch) (Z : State) (a0 : Array Value) (hw : ∀ d ∈ tables_1, d.before a0 Z = true) (ws : List Jvm.Cond) (a1 : Addr) (a2 : Addr) (kc : ClassId) (cz : Int32) (z : Int32) (cs : List Int32) (h0 : Heap) (n0 : Nat) (Z0 : n0 ≤ h0.size) (hEL : EW Z a0 own_EL) (O0 : Old Z n0 h0) (SC : Sta Z Z.heap "java/lang/String" "COMPACT_STRINGS" "Z" (.int cz)) (hcz : ¬ cz = (0 : Int32)) (E_a1 : Exa Z h0 a1 "java/lang/String") (FC_a1 : Fld Z h0 a1 "java/lang/String" "coder" "B" (.int (0 : Int32))) (FV_a1 : Fld Z h0 a1 "java/lang/String" "value" "[B" .null) (VA : Arv Z h0 a2 kc .char z (cs.map Value.int) (.int (0 : Int32))) (hcs : z.toInt = (cs.length : Nat)) (hcap : cs.length ≤ 8) (hlat : ∀ t, ¬ (255 : Int32) < cs.getD t (0 : Int32)) (g_a1 : n0 ≤ a1) :
    own_MetW l (⟨"java/lang/String", "<init>", "([C)V"⟩ : MethodName) jdk_42_method_3_code 2 none ws ({ frames := 3, cells := 4, slots := 8, locals := 52 } : Room) #[(.ref a1), (.ref a2)] Z own_EL h0 (fun v h L => ∃ b k, v = none ∧ Fr n0 L ∧ Keep h0 h [a1] ∧ (Exa Z h a1 "java/lang/String" ∧ Fld Z h a1 "java/lang/String" "coder" "B" (.int (0 : Int32)) ∧ Fld Z h a1 "java/lang/String" "value" "[B" (.ref b)) ∧ Arv Z h b k .byte z ((cs.map (fun c => c.toInt8.toInt32)).map Value.int) (.int (0 : Int32))) := by
  refine own_bodyW (plainFor_of_name pn_1) (ef_2 a1 a2) ?_
  intro p e s m below meth c T0 X0 hx hby hml0 hret hlk hnm hown hZ e0 eS H0 hS0
  have C0 := CHr.refl H0
  have hml : c.maxLocals = 2 := hml0
  have N0 := Fr.nil n0
  have ne_a1_a2 : a1 ≠ a2 := Exa.neArv E_a1 VA (hw _ (List.mem_of_getElem? (i := 8) rfl))
  refine own_step (fun _ k => XS.aloadN X0.here hx rfl (hb hby d2_0) rfl rfl k) ?_
  show own_Go _ _ _ _ T0 (mkF m 1 #[.val (.ref a1), .val (.ref a2)] [(.ref a1)])
  refine own_step (fun _ k => XS.aloadN X0.here hx rfl (hb hby d2_1) rfl rfl k) ?_
  show own_Go _ _ _ _ T0 (mkF m 2 #[.val (.ref a1), .val (.ref a2)] [(.ref a2), (.ref a1)])
  refine own_step (fun _ k => XS.iconst X0.here hx rfl (hb hby d2_2) k) ?_
  show own_Go _ _ _ _ T0 (mkF m 3 #[.val (.ref a1), .val (.ref a2)] [(.int (0 : Int32)), (.ref a2), (.ref a1)])
  refine own_step (fun _ k => XS.aloadN X0.here hx rfl (hb hby d2_3) rfl rfl k) ?_
  show own_Go _ _ _ _ T0 (mkF m 4 #[.val (.ref a1), .val (.ref a2)] [(.ref a2), (.int (0 : Int32)), (.ref a2), (.ref a1)])
  refine own_step (own_len X0 hx hZ e0 VA (g := (mkF m 4 #[.val (.ref a1), .val (.ref a2)] [(.ref a2), (.int (0 : Int32)), (.ref a2), (.ref a1)])) rfl rfl (hb hby d2_4)) ?_
  show own_Go _ _ _ _ T0 (mkF m 5 #[.val (.ref a1), .val (.ref a2)] [(.int z), (.int (0 : Int32)), (.ref a2), (.ref a1)])
  refine own_step (fun _ k => XS.aconstNull X0.here hx rfl (hb hby d2_5) k) ?_
  show own_Go _ _ _ _ T0 (mkF m 6 #[.val (.ref a1), .val (.ref a2)] [.null, (.int z), (.int (0 : Int32)), (.ref a2), (.ref a1)])
  refine own_callCW X0 hx hZ (y := (⟨"java/lang/String", "<init>", "([CIILjava/lang/Void;)V"⟩ : MethodName)) rfl hown (hw _ (List.mem_of_getElem? (i := 14) rfl)) (hw _ (List.mem_of_getElem? (i := 15) rfl)) (hw _ (List.mem_of_getElem? (i := 9) rfl)) (hw _ (List.mem_of_getElem? (i := 17) rfl)) (by decide) (rm3 l Z a0 hw [] a1 a2 (0 : Int32) z kc cz cs h0 n0 Z0 hEL O0 SC hcz E_a1 FC_a1 FV_a1 VA hcs hcap hlat g_a1 rfl) e0 hEL C0.1 hS0 (Nat.le_refl _) (b := a1) 0 (by decide) (by decide) (by decide) (by decide) (g := (mkF m 6 #[.val (.ref a1), .val (.ref a2)] [.null, (.int z), (.int (0 : Int32)), (.ref a2), (.ref a1)])) rfl (by rw [hml]; rfl) [(.ref a2), (.int (0 : Int32)), (.int z), .null] [] pd_3 rfl rfl rfl (by show 2 * 0 + _ ≤ _; exact Nat.le_of_eq rfl) (hb hby d2_6) ?_
  rintro v1 T1 L1 X1 ⟨bv, kv, rfl, Nq1, K1, ⟨EX1, FC1, FV1⟩, V1⟩ D1 hS1 hZ hown
  have N1 := Fr.app N0 Nq1
  show own_Go _ _ _ _ T1 (mkF m 9 #[.val (.ref a1), .val (.ref a2)] [])
  have Dc1 := D1
  have C1 := C0.trans Dc1
  have Z1 := Nat.le_trans Z0 K1.1
  have KK1 := (Keep.refl h0 [a1]).trans K1 (allS (P := fun x => x ∈ [a1] ∨ h0.size ≤ x) (Or.inl (List.mem_of_getElem? (i := 0) rfl)) all0)
  exact own_retV X1 hx hret hlk (hb hby d2_9) (own_W X1 hS1 (Nat.le_refl _) rfl eS hZ hEL C1 (by exact ⟨bv, kv, rfl, N1, KK1, ⟨EX1, FC1, FV1⟩, V1⟩) (by decide) (by decide)) 
theorem d5_0 : decode method_3_code 0 = .ok (.iload_n 0, 1) := by decide +kernel
theorem d5_1 : decode method_3_code 1 = .ok (.iconst 2, 1) := by decide +kernel
theorem d5_2 : decode method_3_code 2 = .ok (.bipush 8, 2) := by decide +kernel
theorem d5_4 : decode method_3_code 4 = .ok (.iload_n 1, 1) := by decide +kernel
theorem d5_5 : decode method_3_code 5 = .ok (.imul, 1) := by decide +kernel
theorem d5_6 : decode method_3_code 6 = .ok (.iadd, 1) := by decide +kernel
theorem d5_7 : decode method_3_code 7 = .ok (.iushr, 1) := by decide +kernel
theorem d5_8 : decode method_3_code 8 = .ok (.sipush 255, 3) := by decide +kernel
theorem d5_11 : decode method_3_code 11 = .ok (.iand, 1) := by decide +kernel
theorem d5_12 : decode method_3_code 12 = .ok (.i2c, 1) := by decide +kernel
theorem d5_13 : decode method_3_code 13 = .ok (.ireturn, 1) := by decide +kernel
theorem ef_5 (p1 : Int32) (p2 : Int32) (m : MethodId) : entryFrame m #[(.int p1), (.int p2)] 2 = mkF m 0 #[.val (.int p1), .val (.int p2)] [] := by first | (simp [entryFrame, mkF, argsToLocals, Value.category]; done) | rfl
def own_ch (p1 : Int32) (p2 : Int32) : Int32 := (((((p1.toUInt32 >>> (((2 : Int32) + ((8 : Int32) * p2)) &&& 31).toUInt32).toInt32) &&& (255 : Int32)).toUInt32.toUInt16.toUInt32.toInt32).toUInt32.toUInt16.toUInt32.toInt32)
theorem pn_2 : plainName "com/example/tickwright/tickwright/AccountEqualsPinLaw" = true := by first | (simp [plainName, overriddenIn]; done) | decide +kernel
set_option maxRecDepth 65536 in
set_option maxHeartbeats 40000000 in
theorem rm5 (l : Launch) (Z : State) (a0 : Array Value) (hw : ∀ d ∈ tables_1, d.before a0 Z = true) (ws : List Jvm.Cond) (p1 : Int32) (p2 : Int32) (h0 : Heap) (n0 : Nat) (Z0 : n0 ≤ h0.size) :
    own_Met l (⟨"com/example/tickwright/tickwright/AccountEqualsPinLaw", "ch", "(II)C"⟩ : MethodName) method_3_code 2 (some .char) ws ({ frames := 0, cells := 0, slots := 0, locals := 0 } : Room) #[(.int p1), (.int p2)] Z h0 (fun v h L => v = some (.int (own_ch p1 p2)) ∧ Fr n0 L ∧ h = h0) := by
  refine own_body (plainFor_of_name pn_2) (ef_5 p1 p2) ?_
  intro p e s m below meth c T0 X0 hx hby hml0 hret hlk hnm hown hZ e0
  have hml : c.maxLocals = 2 := hml0
  have N0 := Fr.nil n0
  refine own_step (fun _ k => XS.iloadN X0.here hx rfl (hb hby d5_0) rfl k) ?_
  show own_Go _ _ _ _ T0 (mkF m 1 #[.val (.int p1), .val (.int p2)] [(.int p1)])
  refine own_step (fun _ k => XS.iconst X0.here hx rfl (hb hby d5_1) k) ?_
  show own_Go _ _ _ _ T0 (mkF m 2 #[.val (.int p1), .val (.int p2)] [(.int (2 : Int32)), (.int p1)])
  refine own_step (fun _ k => XS.bipush X0.here hx rfl (hb hby d5_2) k) ?_
  show own_Go _ _ _ _ T0 (mkF m 4 #[.val (.int p1), .val (.int p2)] [(.int (8 : Int32)), (.int (2 : Int32)), (.int p1)])
  refine own_step (fun _ k => XS.iloadN X0.here hx rfl (hb hby d5_4) rfl k) ?_
  show own_Go _ _ _ _ T0 (mkF m 5 #[.val (.int p1), .val (.int p2)] [(.int p2), (.int (8 : Int32)), (.int (2 : Int32)), (.int p1)])
  refine own_step (fun _ k => XS.imul X0.here hx rfl (hb hby d5_5) rfl k) ?_
  show own_Go _ _ _ _ T0 (mkF m 6 #[.val (.int p1), .val (.int p2)] [(.int ((8 : Int32) * p2)), (.int (2 : Int32)), (.int p1)])
  refine own_step (fun _ k => XS.iadd X0.here hx rfl (hb hby d5_6) rfl k) ?_
  show own_Go _ _ _ _ T0 (mkF m 7 #[.val (.int p1), .val (.int p2)] [(.int ((2 : Int32) + ((8 : Int32) * p2))), (.int p1)])
  refine own_step (fun _ k => XS.iushr X0.here hx rfl (hb hby d5_7) rfl k) ?_
  show own_Go _ _ _ _ T0 (mkF m 8 #[.val (.int p1), .val (.int p2)] [(.int ((p1.toUInt32 >>> (((2 : Int32) + ((8 : Int32) * p2)) &&& 31).toUInt32).toInt32))])
  refine own_step (fun _ k => XS.sipush X0.here hx rfl (hb hby d5_8) k) ?_
  show own_Go _ _ _ _ T0 (mkF m 11 #[.val (.int p1), .val (.int p2)] [(.int (255 : Int32)), (.int ((p1.toUInt32 >>> (((2 : Int32) + ((8 : Int32) * p2)) &&& 31).toUInt32).toInt32))])
  refine own_step (fun _ k => XS.iand X0.here hx rfl (hb hby d5_11) rfl k) ?_
  show own_Go _ _ _ _ T0 (mkF m 12 #[.val (.int p1), .val (.int p2)] [(.int (((p1.toUInt32 >>> (((2 : Int32) + ((8 : Int32) * p2)) &&& 31).toUInt32).toInt32) &&& (255 : Int32)))])
  refine own_step (fun _ k => XS.i2c X0.here hx rfl (hb hby d5_12) rfl k) ?_
  show own_Go _ _ _ _ T0 (mkF m 13 #[.val (.int p1), .val (.int p2)] [(.int ((((p1.toUInt32 >>> (((2 : Int32) + ((8 : Int32) * p2)) &&& 31).toUInt32).toInt32) &&& (255 : Int32)).toUInt32.toUInt16.toUInt32.toInt32))])
  exact own_retN X0 hx (t := .char) hret (by simp) hlk (hb hby d5_13) rfl (own_N ⟨own_leafI rfl, N0, e0⟩ (by decide) (by decide)) 
theorem d10_0 : decode method_5_code 0 = .ok (.iload_n 0, 1) := by decide +kernel
theorem d10_1 : decode method_5_code 1 = .ok (.iconst 3, 1) := by decide +kernel
theorem d10_2 : decode method_5_code 2 = .ok (.iand, 1) := by decide +kernel
theorem d10_3 : decode method_5_code 3 = .ok (.istore_n 2, 1) := by decide +kernel
theorem d10_4 : decode method_5_code 4 = .ok (.iload_n 2, 1) := by decide +kernel
theorem d10_5 : decode method_5_code 5 = .ok (.iload_n 1, 1) := by decide +kernel
theorem d10_6 : decode method_5_code 6 = .ok (.iconst 3, 1) := by decide +kernel
theorem d10_7 : decode method_5_code 7 = .ok (.iand, 1) := by decide +kernel
theorem d10_8 : decode method_5_code 8 = .ok (.if_icmp .eq 5, 3) := by decide +kernel
theorem d10_11 : decode method_5_code 11 = .ok (.iconst 0, 1) := by decide +kernel
theorem d10_12 : decode method_5_code 12 = .ok (.ireturn, 1) := by decide +kernel
theorem d10_13 : decode method_5_code 13 = .ok (.iload_n 2, 1) := by decide +kernel
theorem d10_14 : decode method_5_code 14 = .ok (.iconst 1, 1) := by decide +kernel
theorem d10_15 : decode method_5_code 15 = .ok (.if_icmp .lt 18, 3) := by decide +kernel
theorem d10_18 : decode method_5_code 18 = .ok (.iload_n 0, 1) := by decide +kernel
theorem d10_19 : decode method_5_code 19 = .ok (.iconst 0, 1) := by decide +kernel
theorem d10_20 : decode method_5_code 20 = .ok (.invokestatic 31, 3) := by decide +kernel
theorem d10_23 : decode method_5_code 23 = .ok (.iload_n 1, 1) := by decide +kernel
theorem d10_24 : decode method_5_code 24 = .ok (.iconst 0, 1) := by decide +kernel
theorem d10_25 : decode method_5_code 25 = .ok (.invokestatic 31, 3) := by decide +kernel
theorem d10_28 : decode method_5_code 28 = .ok (.if_icmp .eq 5, 3) := by decide +kernel
theorem d10_31 : decode method_5_code 31 = .ok (.iconst 0, 1) := by decide +kernel
theorem d10_32 : decode method_5_code 32 = .ok (.ireturn, 1) := by decide +kernel
theorem d10_33 : decode method_5_code 33 = .ok (.iload_n 2, 1) := by decide +kernel
theorem d10_34 : decode method_5_code 34 = .ok (.iconst 2, 1) := by decide +kernel
theorem d10_35 : decode method_5_code 35 = .ok (.if_icmp .lt 18, 3) := by decide +kernel
theorem d10_38 : decode method_5_code 38 = .ok (.iload_n 0, 1) := by decide +kernel
theorem d10_39 : decode method_5_code 39 = .ok (.iconst 1, 1) := by decide +kernel
theorem d10_40 : decode method_5_code 40 = .ok (.invokestatic 31, 3) := by decide +kernel
theorem d10_43 : decode method_5_code 43 = .ok (.iload_n 1, 1) := by decide +kernel
theorem d10_44 : decode method_5_code 44 = .ok (.iconst 1, 1) := by decide +kernel
theorem d10_45 : decode method_5_code 45 = .ok (.invokestatic 31, 3) := by decide +kernel
theorem d10_48 : decode method_5_code 48 = .ok (.if_icmp .eq 5, 3) := by decide +kernel
theorem d10_51 : decode method_5_code 51 = .ok (.iconst 0, 1) := by decide +kernel
theorem d10_52 : decode method_5_code 52 = .ok (.ireturn, 1) := by decide +kernel
theorem d10_53 : decode method_5_code 53 = .ok (.iload_n 2, 1) := by decide +kernel
theorem d10_54 : decode method_5_code 54 = .ok (.iconst 3, 1) := by decide +kernel
theorem d10_55 : decode method_5_code 55 = .ok (.if_icmp .lt 18, 3) := by decide +kernel
theorem d10_58 : decode method_5_code 58 = .ok (.iload_n 0, 1) := by decide +kernel
theorem d10_59 : decode method_5_code 59 = .ok (.iconst 2, 1) := by decide +kernel
theorem d10_60 : decode method_5_code 60 = .ok (.invokestatic 31, 3) := by decide +kernel
theorem d10_63 : decode method_5_code 63 = .ok (.iload_n 1, 1) := by decide +kernel
theorem d10_64 : decode method_5_code 64 = .ok (.iconst 2, 1) := by decide +kernel
theorem d10_65 : decode method_5_code 65 = .ok (.invokestatic 31, 3) := by decide +kernel
theorem d10_68 : decode method_5_code 68 = .ok (.if_icmp .eq 5, 3) := by decide +kernel
theorem d10_71 : decode method_5_code 71 = .ok (.iconst 0, 1) := by decide +kernel
theorem d10_72 : decode method_5_code 72 = .ok (.ireturn, 1) := by decide +kernel
theorem d10_73 : decode method_5_code 73 = .ok (.iconst 1, 1) := by decide +kernel
theorem d10_74 : decode method_5_code 74 = .ok (.ireturn, 1) := by decide +kernel
theorem ef_10 (p1 : Int32) (p2 : Int32) (m : MethodId) : entryFrame m #[(.int p1), (.int p2)] 3 = mkF m 0 #[.val (.int p1), .val (.int p2), .unset] [] := by first | (simp [entryFrame, mkF, argsToLocals, Value.category]; done) | rfl
theorem pd_4 : parseMethodDescriptor "(II)C" = some ⟨[.int, .int], some .char⟩ := by decide +kernel
def own_same (p1 : Int32) (p2 : Int32) : Int32 := (if (p1 &&& (3 : Int32)) = (p2 &&& (3 : Int32)) then (if (p1 &&& (3 : Int32)) < (1 : Int32) then (if (p1 &&& (3 : Int32)) < (2 : Int32) then (if (p1 &&& (3 : Int32)) < (3 : Int32) then (1 : Int32) else (if (own_ch p1 (2 : Int32)) = (own_ch p2 (2 : Int32)) then (1 : Int32) else (0 : Int32))) else (if (own_ch p1 (1 : Int32)) = (own_ch p2 (1 : Int32)) then (if (p1 &&& (3 : Int32)) < (3 : Int32) then (1 : Int32) else (if (own_ch p1 (2 : Int32)) = (own_ch p2 (2 : Int32)) then (1 : Int32) else (0 : Int32))) else (0 : Int32))) else (if (own_ch p1 (0 : Int32)) = (own_ch p2 (0 : Int32)) then (if (p1 &&& (3 : Int32)) < (2 : Int32) then (if (p1 &&& (3 : Int32)) < (3 : Int32) then (1 : Int32) else (if (own_ch p1 (2 : Int32)) = (own_ch p2 (2 : Int32)) then (1 : Int32) else (0 : Int32))) else (if (own_ch p1 (1 : Int32)) = (own_ch p2 (1 : Int32)) then (if (p1 &&& (3 : Int32)) < (3 : Int32) then (1 : Int32) else (if (own_ch p1 (2 : Int32)) = (own_ch p2 (2 : Int32)) then (1 : Int32) else (0 : Int32))) else (0 : Int32))) else (0 : Int32))) else (0 : Int32))
set_option maxRecDepth 65536 in
set_option maxHeartbeats 40000000 in
theorem rm10 (l : Launch) (Z : State) (a0 : Array Value) (hw : ∀ d ∈ tables_1, d.before a0 Z = true) (ws : List Jvm.Cond) (p1 : Int32) (p2 : Int32) (h0 : Heap) (n0 : Nat) (Z0 : n0 ≤ h0.size) :
    own_Met l (⟨"com/example/tickwright/tickwright/AccountEqualsPinLaw", "same", "(II)Z"⟩ : MethodName) method_5_code 3 (some .boolean) ws ({ frames := 1, cells := 0, slots := 0, locals := 14 } : Room) #[(.int p1), (.int p2)] Z h0 (fun v h L => v = some (.int (own_same p1 p2)) ∧ Fr n0 L ∧ h = h0) := by
  refine own_body (plainFor_of_name pn_2) (ef_10 p1 p2) ?_
  intro p e s m below meth c T0 X0 hx hby hml0 hret hlk hnm hown hZ e0
  have hml : c.maxLocals = 3 := hml0
  have N0 := Fr.nil n0
  refine own_step (fun _ k => XS.iloadN X0.here hx rfl (hb hby d10_0) rfl k) ?_
  show own_Go _ _ _ _ T0 (mkF m 1 #[.val (.int p1), .val (.int p2), .unset] [(.int p1)])
  refine own_step (fun _ k => XS.iconst X0.here hx rfl (hb hby d10_1) k) ?_
  show own_Go _ _ _ _ T0 (mkF m 2 #[.val (.int p1), .val (.int p2), .unset] [(.int (3 : Int32)), (.int p1)])
  refine own_step (fun _ k => XS.iand X0.here hx rfl (hb hby d10_2) rfl k) ?_
  show own_Go _ _ _ _ T0 (mkF m 3 #[.val (.int p1), .val (.int p2), .unset] [(.int (p1 &&& (3 : Int32)))])
  refine own_step (fun _ k => XS.istoreN X0.here hx rfl (hb hby d10_3) rfl (l' := #[.val (.int p1), .val (.int p2), .val (.int (p1 &&& (3 : Int32)))]) rfl k) ?_
  show own_Go _ _ _ _ T0 (mkF m 4 #[.val (.int p1), .val (.int p2), .val (.int (p1 &&& (3 : Int32)))] [])
  refine own_step (fun _ k => XS.iloadN X0.here hx rfl (hb hby d10_4) rfl k) ?_
  show own_Go _ _ _ _ T0 (mkF m 5 #[.val (.int p1), .val (.int p2), .val (.int (p1 &&& (3 : Int32)))] [(.int (p1 &&& (3 : Int32)))])
  refine own_step (fun _ k => XS.iloadN X0.here hx rfl (hb hby d10_5) rfl k) ?_
  show own_Go _ _ _ _ T0 (mkF m 6 #[.val (.int p1), .val (.int p2), .val (.int (p1 &&& (3 : Int32)))] [(.int p2), (.int (p1 &&& (3 : Int32)))])
  refine own_step (fun _ k => XS.iconst X0.here hx rfl (hb hby d10_6) k) ?_
  show own_Go _ _ _ _ T0 (mkF m 7 #[.val (.int p1), .val (.int p2), .val (.int (p1 &&& (3 : Int32)))] [(.int (3 : Int32)), (.int p2), (.int (p1 &&& (3 : Int32)))])
  refine own_step (fun _ k => XS.iand X0.here hx rfl (hb hby d10_7) rfl k) ?_
  show own_Go _ _ _ _ T0 (mkF m 8 #[.val (.int p1), .val (.int p2), .val (.int (p1 &&& (3 : Int32)))] [(.int (p2 &&& (3 : Int32))), (.int (p1 &&& (3 : Int32)))])
  by_cases hc1 : (p1 &&& (3 : Int32)) = (p2 &&& (3 : Int32))
  · refine own_step (fun _ k => XS.icmpYes X0.here hx rfl (pc0 := 8) (pc' := 13) rfl (hb hby d10_8) rfl (teq hc1).1 (by decide) (by decide) k) ?_
    show own_Go _ _ _ _ T0 (mkF m 13 #[.val (.int p1), .val (.int p2), .val (.int (p1 &&& (3 : Int32)))] [])
    refine own_step (fun _ k => XS.iloadN X0.here hx rfl (hb hby d10_13) rfl k) ?_
    show own_Go _ _ _ _ T0 (mkF m 14 #[.val (.int p1), .val (.int p2), .val (.int (p1 &&& (3 : Int32)))] [(.int (p1 &&& (3 : Int32)))])
    refine own_step (fun _ k => XS.iconst X0.here hx rfl (hb hby d10_14) k) ?_
    show own_Go _ _ _ _ T0 (mkF m 15 #[.val (.int p1), .val (.int p2), .val (.int (p1 &&& (3 : Int32)))] [(.int (1 : Int32)), (.int (p1 &&& (3 : Int32)))])
    by_cases hc2 : (p1 &&& (3 : Int32)) < (1 : Int32)
    · refine own_step (fun _ k => XS.icmpYes X0.here hx rfl (pc0 := 15) (pc' := 33) rfl (hb hby d10_15) rfl (tlt hc2).1 (by decide) (by decide) k) ?_
      show own_Go _ _ _ _ T0 (mkF m 33 #[.val (.int p1), .val (.int p2), .val (.int (p1 &&& (3 : Int32)))] [])
      refine own_step (fun _ k => XS.iloadN X0.here hx rfl (hb hby d10_33) rfl k) ?_
      show own_Go _ _ _ _ T0 (mkF m 34 #[.val (.int p1), .val (.int p2), .val (.int (p1 &&& (3 : Int32)))] [(.int (p1 &&& (3 : Int32)))])
      refine own_step (fun _ k => XS.iconst X0.here hx rfl (hb hby d10_34) k) ?_
      show own_Go _ _ _ _ T0 (mkF m 35 #[.val (.int p1), .val (.int p2), .val (.int (p1 &&& (3 : Int32)))] [(.int (2 : Int32)), (.int (p1 &&& (3 : Int32)))])
      by_cases hc3 : (p1 &&& (3 : Int32)) < (2 : Int32)
      · refine own_step (fun _ k => XS.icmpYes X0.here hx rfl (pc0 := 35) (pc' := 53) rfl (hb hby d10_35) rfl (tlt hc3).1 (by decide) (by decide) k) ?_
        show own_Go _ _ _ _ T0 (mkF m 53 #[.val (.int p1), .val (.int p2), .val (.int (p1 &&& (3 : Int32)))] [])
        refine own_step (fun _ k => XS.iloadN X0.here hx rfl (hb hby d10_53) rfl k) ?_
        show own_Go _ _ _ _ T0 (mkF m 54 #[.val (.int p1), .val (.int p2), .val (.int (p1 &&& (3 : Int32)))] [(.int (p1 &&& (3 : Int32)))])
        refine own_step (fun _ k => XS.iconst X0.here hx rfl (hb hby d10_54) k) ?_
        show own_Go _ _ _ _ T0 (mkF m 55 #[.val (.int p1), .val (.int p2), .val (.int (p1 &&& (3 : Int32)))] [(.int (3 : Int32)), (.int (p1 &&& (3 : Int32)))])
        by_cases hc4 : (p1 &&& (3 : Int32)) < (3 : Int32)
        · refine own_step (fun _ k => XS.icmpYes X0.here hx rfl (pc0 := 55) (pc' := 73) rfl (hb hby d10_55) rfl (tlt hc4).1 (by decide) (by decide) k) ?_
          show own_Go _ _ _ _ T0 (mkF m 73 #[.val (.int p1), .val (.int p2), .val (.int (p1 &&& (3 : Int32)))] [])
          refine own_step (fun _ k => XS.iconst X0.here hx rfl (hb hby d10_73) k) ?_
          show own_Go _ _ _ _ T0 (mkF m 74 #[.val (.int p1), .val (.int p2), .val (.int (p1 &&& (3 : Int32)))] [(.int (1 : Int32))])
          exact own_retN X0 hx (t := .boolean) hret (by simp) hlk (hb hby d10_74) rfl (own_N ⟨own_leafI ((if_pos hc1).trans ((if_pos hc2).trans ((if_pos hc3).trans (if_pos hc4)))), N0, e0⟩ (by decide) (by decide)) 
        · refine own_step (fun _ k => XS.icmpNo X0.here hx rfl (hb hby d10_55) rfl (flt hc4).1 k) ?_
          show own_Go _ _ _ _ T0 (mkF m 58 #[.val (.int p1), .val (.int p2), .val (.int (p1 &&& (3 : Int32)))] [])
          refine own_step (fun _ k => XS.iloadN X0.here hx rfl (hb hby d10_58) rfl k) ?_
          show own_Go _ _ _ _ T0 (mkF m 59 #[.val (.int p1), .val (.int p2), .val (.int (p1 &&& (3 : Int32)))] [(.int p1)])
          refine own_step (fun _ k => XS.iconst X0.here hx rfl (hb hby d10_59) k) ?_
          show own_Go _ _ _ _ T0 (mkF m 60 #[.val (.int p1), .val (.int p2), .val (.int (p1 &&& (3 : Int32)))] [(.int (2 : Int32)), (.int p1)])
          refine own_callS X0 hx hZ (y := (⟨"com/example/tickwright/tickwright/AccountEqualsPinLaw", "ch", "(II)C"⟩ : MethodName)) hown (hw _ (List.mem_of_getElem? (i := 29) rfl)) (hw _ (List.mem_of_getElem? (i := 30) rfl)) (hw _ (List.mem_of_getElem? (i := 5) rfl)) (hw _ (List.mem_of_getElem? (i := 31) rfl)) (by decide) (rm5 l Z a0 hw [] p1 (2 : Int32) h0 n0 Z0) e0 0 (by decide) (by decide) (by decide) (by decide) (g := (mkF m 60 #[.val (.int p1), .val (.int p2), .val (.int (p1 &&& (3 : Int32)))] [(.int (2 : Int32)), (.int p1)])) rfl (by rw [hml]; rfl) [(.int p1), (.int (2 : Int32))] [] pd_4 rfl rfl rfl (by show 2 * 0 + _ ≤ _; exact Nat.le_of_eq rfl) (hb hby d10_60) ?_
          rintro v5 T5 L5 X5 ⟨rfl, Nq5, e5⟩
          have N5 := Fr.app N0 Nq5
          show own_Go _ _ _ _ T5 (mkF m 63 #[.val (.int p1), .val (.int p2), .val (.int (p1 &&& (3 : Int32)))] [(.int (own_ch p1 (2 : Int32)))])
          refine own_step (fun _ k => XS.iloadN X5.here hx rfl (hb hby d10_63) rfl k) ?_
          show own_Go _ _ _ _ T5 (mkF m 64 #[.val (.int p1), .val (.int p2), .val (.int (p1 &&& (3 : Int32)))] [(.int p2), (.int (own_ch p1 (2 : Int32)))])
          refine own_step (fun _ k => XS.iconst X5.here hx rfl (hb hby d10_64) k) ?_
          show own_Go _ _ _ _ T5 (mkF m 65 #[.val (.int p1), .val (.int p2), .val (.int (p1 &&& (3 : Int32)))] [(.int (2 : Int32)), (.int p2), (.int (own_ch p1 (2 : Int32)))])
          refine own_callS X5 hx hZ (y := (⟨"com/example/tickwright/tickwright/AccountEqualsPinLaw", "ch", "(II)C"⟩ : MethodName)) hown (hw _ (List.mem_of_getElem? (i := 29) rfl)) (hw _ (List.mem_of_getElem? (i := 30) rfl)) (hw _ (List.mem_of_getElem? (i := 5) rfl)) (hw _ (List.mem_of_getElem? (i := 31) rfl)) (by decide) (rm5 l Z a0 hw [] p2 (2 : Int32) h0 n0 Z0) e5 1 (by decide) (by decide) (by decide) (by decide) (g := (mkF m 65 #[.val (.int p1), .val (.int p2), .val (.int (p1 &&& (3 : Int32)))] [(.int (2 : Int32)), (.int p2), (.int (own_ch p1 (2 : Int32)))])) rfl (by rw [hml]; rfl) [(.int p2), (.int (2 : Int32))] [(.int (own_ch p1 (2 : Int32)))] pd_4 rfl rfl rfl (by show 2 * 0 + _ ≤ _; exact Nat.le_of_eq rfl) (hb hby d10_65) ?_
          rintro v6 T6 L6 X6 ⟨rfl, Nq6, e6⟩
          have N6 := Fr.app N5 Nq6
          show own_Go _ _ _ _ T6 (mkF m 68 #[.val (.int p1), .val (.int p2), .val (.int (p1 &&& (3 : Int32)))] [(.int (own_ch p2 (2 : Int32))), (.int (own_ch p1 (2 : Int32)))])
          by_cases hc7 : (own_ch p1 (2 : Int32)) = (own_ch p2 (2 : Int32))
          · refine own_step (fun _ k => XS.icmpYes X6.here hx rfl (pc0 := 68) (pc' := 73) rfl (hb hby d10_68) rfl (teq hc7).1 (by decide) (by decide) k) ?_
            show own_Go _ _ _ _ T6 (mkF m 73 #[.val (.int p1), .val (.int p2), .val (.int (p1 &&& (3 : Int32)))] [])
            refine own_step (fun _ k => XS.iconst X6.here hx rfl (hb hby d10_73) k) ?_
            show own_Go _ _ _ _ T6 (mkF m 74 #[.val (.int p1), .val (.int p2), .val (.int (p1 &&& (3 : Int32)))] [(.int (1 : Int32))])
            exact own_retN X6 hx (t := .boolean) hret (by simp) hlk (hb hby d10_74) rfl (own_N ⟨own_leafI ((if_pos hc1).trans ((if_pos hc2).trans ((if_pos hc3).trans ((if_neg hc4).trans (if_pos hc7))))), N6, e6⟩ (by decide) (by decide)) 
          · refine own_step (fun _ k => XS.icmpNo X6.here hx rfl (hb hby d10_68) rfl (feq hc7).1 k) ?_
            show own_Go _ _ _ _ T6 (mkF m 71 #[.val (.int p1), .val (.int p2), .val (.int (p1 &&& (3 : Int32)))] [])
            refine own_step (fun _ k => XS.iconst X6.here hx rfl (hb hby d10_71) k) ?_
            show own_Go _ _ _ _ T6 (mkF m 72 #[.val (.int p1), .val (.int p2), .val (.int (p1 &&& (3 : Int32)))] [(.int (0 : Int32))])
            exact own_retN X6 hx (t := .boolean) hret (by simp) hlk (hb hby d10_72) rfl (own_N ⟨own_leafI ((if_pos hc1).trans ((if_pos hc2).trans ((if_pos hc3).trans ((if_neg hc4).trans (if_neg hc7))))), N6, e6⟩ (by decide) (by decide)) 
      · refine own_step (fun _ k => XS.icmpNo X0.here hx rfl (hb hby d10_35) rfl (flt hc3).1 k) ?_
        show own_Go _ _ _ _ T0 (mkF m 38 #[.val (.int p1), .val (.int p2), .val (.int (p1 &&& (3 : Int32)))] [])
        refine own_step (fun _ k => XS.iloadN X0.here hx rfl (hb hby d10_38) rfl k) ?_
        show own_Go _ _ _ _ T0 (mkF m 39 #[.val (.int p1), .val (.int p2), .val (.int (p1 &&& (3 : Int32)))] [(.int p1)])
        refine own_step (fun _ k => XS.iconst X0.here hx rfl (hb hby d10_39) k) ?_
        show own_Go _ _ _ _ T0 (mkF m 40 #[.val (.int p1), .val (.int p2), .val (.int (p1 &&& (3 : Int32)))] [(.int (1 : Int32)), (.int p1)])
        refine own_callS X0 hx hZ (y := (⟨"com/example/tickwright/tickwright/AccountEqualsPinLaw", "ch", "(II)C"⟩ : MethodName)) hown (hw _ (List.mem_of_getElem? (i := 29) rfl)) (hw _ (List.mem_of_getElem? (i := 30) rfl)) (hw _ (List.mem_of_getElem? (i := 5) rfl)) (hw _ (List.mem_of_getElem? (i := 31) rfl)) (by decide) (rm5 l Z a0 hw [] p1 (1 : Int32) h0 n0 Z0) e0 0 (by decide) (by decide) (by decide) (by decide) (g := (mkF m 40 #[.val (.int p1), .val (.int p2), .val (.int (p1 &&& (3 : Int32)))] [(.int (1 : Int32)), (.int p1)])) rfl (by rw [hml]; rfl) [(.int p1), (.int (1 : Int32))] [] pd_4 rfl rfl rfl (by show 2 * 0 + _ ≤ _; exact Nat.le_of_eq rfl) (hb hby d10_40) ?_
        rintro v8 T8 L8 X8 ⟨rfl, Nq8, e8⟩
        have N8 := Fr.app N0 Nq8
        show own_Go _ _ _ _ T8 (mkF m 43 #[.val (.int p1), .val (.int p2), .val (.int (p1 &&& (3 : Int32)))] [(.int (own_ch p1 (1 : Int32)))])
        refine own_step (fun _ k => XS.iloadN X8.here hx rfl (hb hby d10_43) rfl k) ?_
        show own_Go _ _ _ _ T8 (mkF m 44 #[.val (.int p1), .val (.int p2), .val (.int (p1 &&& (3 : Int32)))] [(.int p2), (.int (own_ch p1 (1 : Int32)))])
        refine own_step (fun _ k => XS.iconst X8.here hx rfl (hb hby d10_44) k) ?_
        show own_Go _ _ _ _ T8 (mkF m 45 #[.val (.int p1), .val (.int p2), .val (.int (p1 &&& (3 : Int32)))] [(.int (1 : Int32)), (.int p2), (.int (own_ch p1 (1 : Int32)))])
        refine own_callS X8 hx hZ (y := (⟨"com/example/tickwright/tickwright/AccountEqualsPinLaw", "ch", "(II)C"⟩ : MethodName)) hown (hw _ (List.mem_of_getElem? (i := 29) rfl)) (hw _ (List.mem_of_getElem? (i := 30) rfl)) (hw _ (List.mem_of_getElem? (i := 5) rfl)) (hw _ (List.mem_of_getElem? (i := 31) rfl)) (by decide) (rm5 l Z a0 hw [] p2 (1 : Int32) h0 n0 Z0) e8 1 (by decide) (by decide) (by decide) (by decide) (g := (mkF m 45 #[.val (.int p1), .val (.int p2), .val (.int (p1 &&& (3 : Int32)))] [(.int (1 : Int32)), (.int p2), (.int (own_ch p1 (1 : Int32)))])) rfl (by rw [hml]; rfl) [(.int p2), (.int (1 : Int32))] [(.int (own_ch p1 (1 : Int32)))] pd_4 rfl rfl rfl (by show 2 * 0 + _ ≤ _; exact Nat.le_of_eq rfl) (hb hby d10_45) ?_
        rintro v9 T9 L9 X9 ⟨rfl, Nq9, e9⟩
        have N9 := Fr.app N8 Nq9
        show own_Go _ _ _ _ T9 (mkF m 48 #[.val (.int p1), .val (.int p2), .val (.int (p1 &&& (3 : Int32)))] [(.int (own_ch p2 (1 : Int32))), (.int (own_ch p1 (1 : Int32)))])
        by_cases hc10 : (own_ch p1 (1 : Int32)) = (own_ch p2 (1 : Int32))
        · refine own_step (fun _ k => XS.icmpYes X9.here hx rfl (pc0 := 48) (pc' := 53) rfl (hb hby d10_48) rfl (teq hc10).1 (by decide) (by decide) k) ?_
          show own_Go _ _ _ _ T9 (mkF m 53 #[.val (.int p1), .val (.int p2), .val (.int (p1 &&& (3 : Int32)))] [])
          refine own_step (fun _ k => XS.iloadN X9.here hx rfl (hb hby d10_53) rfl k) ?_
          show own_Go _ _ _ _ T9 (mkF m 54 #[.val (.int p1), .val (.int p2), .val (.int (p1 &&& (3 : Int32)))] [(.int (p1 &&& (3 : Int32)))])
          refine own_step (fun _ k => XS.iconst X9.here hx rfl (hb hby d10_54) k) ?_
          show own_Go _ _ _ _ T9 (mkF m 55 #[.val (.int p1), .val (.int p2), .val (.int (p1 &&& (3 : Int32)))] [(.int (3 : Int32)), (.int (p1 &&& (3 : Int32)))])
          by_cases hc11 : (p1 &&& (3 : Int32)) < (3 : Int32)
          · refine own_step (fun _ k => XS.icmpYes X9.here hx rfl (pc0 := 55) (pc' := 73) rfl (hb hby d10_55) rfl (tlt hc11).1 (by decide) (by decide) k) ?_
            show own_Go _ _ _ _ T9 (mkF m 73 #[.val (.int p1), .val (.int p2), .val (.int (p1 &&& (3 : Int32)))] [])
            refine own_step (fun _ k => XS.iconst X9.here hx rfl (hb hby d10_73) k) ?_
            show own_Go _ _ _ _ T9 (mkF m 74 #[.val (.int p1), .val (.int p2), .val (.int (p1 &&& (3 : Int32)))] [(.int (1 : Int32))])
            exact own_retN X9 hx (t := .boolean) hret (by simp) hlk (hb hby d10_74) rfl (own_N ⟨own_leafI ((if_pos hc1).trans ((if_pos hc2).trans ((if_neg hc3).trans ((if_pos hc10).trans (if_pos hc11))))), N9, e9⟩ (by decide) (by decide)) 
          · refine own_step (fun _ k => XS.icmpNo X9.here hx rfl (hb hby d10_55) rfl (flt hc11).1 k) ?_
            show own_Go _ _ _ _ T9 (mkF m 58 #[.val (.int p1), .val (.int p2), .val (.int (p1 &&& (3 : Int32)))] [])
            refine own_step (fun _ k => XS.iloadN X9.here hx rfl (hb hby d10_58) rfl k) ?_
            show own_Go _ _ _ _ T9 (mkF m 59 #[.val (.int p1), .val (.int p2), .val (.int (p1 &&& (3 : Int32)))] [(.int p1)])
            refine own_step (fun _ k => XS.iconst X9.here hx rfl (hb hby d10_59) k) ?_
            show own_Go _ _ _ _ T9 (mkF m 60 #[.val (.int p1), .val (.int p2), .val (.int (p1 &&& (3 : Int32)))] [(.int (2 : Int32)), (.int p1)])
            refine own_callS X9 hx hZ (y := (⟨"com/example/tickwright/tickwright/AccountEqualsPinLaw", "ch", "(II)C"⟩ : MethodName)) hown (hw _ (List.mem_of_getElem? (i := 29) rfl)) (hw _ (List.mem_of_getElem? (i := 30) rfl)) (hw _ (List.mem_of_getElem? (i := 5) rfl)) (hw _ (List.mem_of_getElem? (i := 31) rfl)) (by decide) (rm5 l Z a0 hw [] p1 (2 : Int32) h0 n0 Z0) e9 0 (by decide) (by decide) (by decide) (by decide) (g := (mkF m 60 #[.val (.int p1), .val (.int p2), .val (.int (p1 &&& (3 : Int32)))] [(.int (2 : Int32)), (.int p1)])) rfl (by rw [hml]; rfl) [(.int p1), (.int (2 : Int32))] [] pd_4 rfl rfl rfl (by show 2 * 0 + _ ≤ _; exact Nat.le_of_eq rfl) (hb hby d10_60) ?_
            rintro v12 T12 L12 X12 ⟨rfl, Nq12, e12⟩
            have N12 := Fr.app N9 Nq12
            show own_Go _ _ _ _ T12 (mkF m 63 #[.val (.int p1), .val (.int p2), .val (.int (p1 &&& (3 : Int32)))] [(.int (own_ch p1 (2 : Int32)))])
            refine own_step (fun _ k => XS.iloadN X12.here hx rfl (hb hby d10_63) rfl k) ?_
            show own_Go _ _ _ _ T12 (mkF m 64 #[.val (.int p1), .val (.int p2), .val (.int (p1 &&& (3 : Int32)))] [(.int p2), (.int (own_ch p1 (2 : Int32)))])
            refine own_step (fun _ k => XS.iconst X12.here hx rfl (hb hby d10_64) k) ?_
            show own_Go _ _ _ _ T12 (mkF m 65 #[.val (.int p1), .val (.int p2), .val (.int (p1 &&& (3 : Int32)))] [(.int (2 : Int32)), (.int p2), (.int (own_ch p1 (2 : Int32)))])
            refine own_callS X12 hx hZ (y := (⟨"com/example/tickwright/tickwright/AccountEqualsPinLaw", "ch", "(II)C"⟩ : MethodName)) hown (hw _ (List.mem_of_getElem? (i := 29) rfl)) (hw _ (List.mem_of_getElem? (i := 30) rfl)) (hw _ (List.mem_of_getElem? (i := 5) rfl)) (hw _ (List.mem_of_getElem? (i := 31) rfl)) (by decide) (rm5 l Z a0 hw [] p2 (2 : Int32) h0 n0 Z0) e12 1 (by decide) (by decide) (by decide) (by decide) (g := (mkF m 65 #[.val (.int p1), .val (.int p2), .val (.int (p1 &&& (3 : Int32)))] [(.int (2 : Int32)), (.int p2), (.int (own_ch p1 (2 : Int32)))])) rfl (by rw [hml]; rfl) [(.int p2), (.int (2 : Int32))] [(.int (own_ch p1 (2 : Int32)))] pd_4 rfl rfl rfl (by show 2 * 0 + _ ≤ _; exact Nat.le_of_eq rfl) (hb hby d10_65) ?_
            rintro v13 T13 L13 X13 ⟨rfl, Nq13, e13⟩
            have N13 := Fr.app N12 Nq13
            show own_Go _ _ _ _ T13 (mkF m 68 #[.val (.int p1), .val (.int p2), .val (.int (p1 &&& (3 : Int32)))] [(.int (own_ch p2 (2 : Int32))), (.int (own_ch p1 (2 : Int32)))])
            by_cases hc14 : (own_ch p1 (2 : Int32)) = (own_ch p2 (2 : Int32))
            · refine own_step (fun _ k => XS.icmpYes X13.here hx rfl (pc0 := 68) (pc' := 73) rfl (hb hby d10_68) rfl (teq hc14).1 (by decide) (by decide) k) ?_
              show own_Go _ _ _ _ T13 (mkF m 73 #[.val (.int p1), .val (.int p2), .val (.int (p1 &&& (3 : Int32)))] [])
              refine own_step (fun _ k => XS.iconst X13.here hx rfl (hb hby d10_73) k) ?_
              show own_Go _ _ _ _ T13 (mkF m 74 #[.val (.int p1), .val (.int p2), .val (.int (p1 &&& (3 : Int32)))] [(.int (1 : Int32))])
              exact own_retN X13 hx (t := .boolean) hret (by simp) hlk (hb hby d10_74) rfl (own_N ⟨own_leafI ((if_pos hc1).trans ((if_pos hc2).trans ((if_neg hc3).trans ((if_pos hc10).trans ((if_neg hc11).trans (if_pos hc14)))))), N13, e13⟩ (by decide) (by decide)) 
            · refine own_step (fun _ k => XS.icmpNo X13.here hx rfl (hb hby d10_68) rfl (feq hc14).1 k) ?_
              show own_Go _ _ _ _ T13 (mkF m 71 #[.val (.int p1), .val (.int p2), .val (.int (p1 &&& (3 : Int32)))] [])
              refine own_step (fun _ k => XS.iconst X13.here hx rfl (hb hby d10_71) k) ?_
              show own_Go _ _ _ _ T13 (mkF m 72 #[.val (.int p1), .val (.int p2), .val (.int (p1 &&& (3 : Int32)))] [(.int (0 : Int32))])
              exact own_retN X13 hx (t := .boolean) hret (by simp) hlk (hb hby d10_72) rfl (own_N ⟨own_leafI ((if_pos hc1).trans ((if_pos hc2).trans ((if_neg hc3).trans ((if_pos hc10).trans ((if_neg hc11).trans (if_neg hc14)))))), N13, e13⟩ (by decide) (by decide)) 
        · refine own_step (fun _ k => XS.icmpNo X9.here hx rfl (hb hby d10_48) rfl (feq hc10).1 k) ?_
          show own_Go _ _ _ _ T9 (mkF m 51 #[.val (.int p1), .val (.int p2), .val (.int (p1 &&& (3 : Int32)))] [])
          refine own_step (fun _ k => XS.iconst X9.here hx rfl (hb hby d10_51) k) ?_
          show own_Go _ _ _ _ T9 (mkF m 52 #[.val (.int p1), .val (.int p2), .val (.int (p1 &&& (3 : Int32)))] [(.int (0 : Int32))])
          exact own_retN X9 hx (t := .boolean) hret (by simp) hlk (hb hby d10_52) rfl (own_N ⟨own_leafI ((if_pos hc1).trans ((if_pos hc2).trans ((if_neg hc3).trans (if_neg hc10)))), N9, e9⟩ (by decide) (by decide)) 
    · refine own_step (fun _ k => XS.icmpNo X0.here hx rfl (hb hby d10_15) rfl (flt hc2).1 k) ?_
      show own_Go _ _ _ _ T0 (mkF m 18 #[.val (.int p1), .val (.int p2), .val (.int (p1 &&& (3 : Int32)))] [])
      refine own_step (fun _ k => XS.iloadN X0.here hx rfl (hb hby d10_18) rfl k) ?_
      show own_Go _ _ _ _ T0 (mkF m 19 #[.val (.int p1), .val (.int p2), .val (.int (p1 &&& (3 : Int32)))] [(.int p1)])
      refine own_step (fun _ k => XS.iconst X0.here hx rfl (hb hby d10_19) k) ?_
      show own_Go _ _ _ _ T0 (mkF m 20 #[.val (.int p1), .val (.int p2), .val (.int (p1 &&& (3 : Int32)))] [(.int (0 : Int32)), (.int p1)])
      refine own_callS X0 hx hZ (y := (⟨"com/example/tickwright/tickwright/AccountEqualsPinLaw", "ch", "(II)C"⟩ : MethodName)) hown (hw _ (List.mem_of_getElem? (i := 29) rfl)) (hw _ (List.mem_of_getElem? (i := 30) rfl)) (hw _ (List.mem_of_getElem? (i := 5) rfl)) (hw _ (List.mem_of_getElem? (i := 31) rfl)) (by decide) (rm5 l Z a0 hw [] p1 (0 : Int32) h0 n0 Z0) e0 0 (by decide) (by decide) (by decide) (by decide) (g := (mkF m 20 #[.val (.int p1), .val (.int p2), .val (.int (p1 &&& (3 : Int32)))] [(.int (0 : Int32)), (.int p1)])) rfl (by rw [hml]; rfl) [(.int p1), (.int (0 : Int32))] [] pd_4 rfl rfl rfl (by show 2 * 0 + _ ≤ _; exact Nat.le_of_eq rfl) (hb hby d10_20) ?_
      rintro v15 T15 L15 X15 ⟨rfl, Nq15, e15⟩
      have N15 := Fr.app N0 Nq15
      show own_Go _ _ _ _ T15 (mkF m 23 #[.val (.int p1), .val (.int p2), .val (.int (p1 &&& (3 : Int32)))] [(.int (own_ch p1 (0 : Int32)))])
      refine own_step (fun _ k => XS.iloadN X15.here hx rfl (hb hby d10_23) rfl k) ?_
      show own_Go _ _ _ _ T15 (mkF m 24 #[.val (.int p1), .val (.int p2), .val (.int (p1 &&& (3 : Int32)))] [(.int p2), (.int (own_ch p1 (0 : Int32)))])
      refine own_step (fun _ k => XS.iconst X15.here hx rfl (hb hby d10_24) k) ?_
      show own_Go _ _ _ _ T15 (mkF m 25 #[.val (.int p1), .val (.int p2), .val (.int (p1 &&& (3 : Int32)))] [(.int (0 : Int32)), (.int p2), (.int (own_ch p1 (0 : Int32)))])
      refine own_callS X15 hx hZ (y := (⟨"com/example/tickwright/tickwright/AccountEqualsPinLaw", "ch", "(II)C"⟩ : MethodName)) hown (hw _ (List.mem_of_getElem? (i := 29) rfl)) (hw _ (List.mem_of_getElem? (i := 30) rfl)) (hw _ (List.mem_of_getElem? (i := 5) rfl)) (hw _ (List.mem_of_getElem? (i := 31) rfl)) (by decide) (rm5 l Z a0 hw [] p2 (0 : Int32) h0 n0 Z0) e15 1 (by decide) (by decide) (by decide) (by decide) (g := (mkF m 25 #[.val (.int p1), .val (.int p2), .val (.int (p1 &&& (3 : Int32)))] [(.int (0 : Int32)), (.int p2), (.int (own_ch p1 (0 : Int32)))])) rfl (by rw [hml]; rfl) [(.int p2), (.int (0 : Int32))] [(.int (own_ch p1 (0 : Int32)))] pd_4 rfl rfl rfl (by show 2 * 0 + _ ≤ _; exact Nat.le_of_eq rfl) (hb hby d10_25) ?_
      rintro v16 T16 L16 X16 ⟨rfl, Nq16, e16⟩
      have N16 := Fr.app N15 Nq16
      show own_Go _ _ _ _ T16 (mkF m 28 #[.val (.int p1), .val (.int p2), .val (.int (p1 &&& (3 : Int32)))] [(.int (own_ch p2 (0 : Int32))), (.int (own_ch p1 (0 : Int32)))])
      by_cases hc17 : (own_ch p1 (0 : Int32)) = (own_ch p2 (0 : Int32))
      · refine own_step (fun _ k => XS.icmpYes X16.here hx rfl (pc0 := 28) (pc' := 33) rfl (hb hby d10_28) rfl (teq hc17).1 (by decide) (by decide) k) ?_
        show own_Go _ _ _ _ T16 (mkF m 33 #[.val (.int p1), .val (.int p2), .val (.int (p1 &&& (3 : Int32)))] [])
        refine own_step (fun _ k => XS.iloadN X16.here hx rfl (hb hby d10_33) rfl k) ?_
        show own_Go _ _ _ _ T16 (mkF m 34 #[.val (.int p1), .val (.int p2), .val (.int (p1 &&& (3 : Int32)))] [(.int (p1 &&& (3 : Int32)))])
        refine own_step (fun _ k => XS.iconst X16.here hx rfl (hb hby d10_34) k) ?_
        show own_Go _ _ _ _ T16 (mkF m 35 #[.val (.int p1), .val (.int p2), .val (.int (p1 &&& (3 : Int32)))] [(.int (2 : Int32)), (.int (p1 &&& (3 : Int32)))])
        by_cases hc18 : (p1 &&& (3 : Int32)) < (2 : Int32)
        · refine own_step (fun _ k => XS.icmpYes X16.here hx rfl (pc0 := 35) (pc' := 53) rfl (hb hby d10_35) rfl (tlt hc18).1 (by decide) (by decide) k) ?_
          show own_Go _ _ _ _ T16 (mkF m 53 #[.val (.int p1), .val (.int p2), .val (.int (p1 &&& (3 : Int32)))] [])
          refine own_step (fun _ k => XS.iloadN X16.here hx rfl (hb hby d10_53) rfl k) ?_
          show own_Go _ _ _ _ T16 (mkF m 54 #[.val (.int p1), .val (.int p2), .val (.int (p1 &&& (3 : Int32)))] [(.int (p1 &&& (3 : Int32)))])
          refine own_step (fun _ k => XS.iconst X16.here hx rfl (hb hby d10_54) k) ?_
          show own_Go _ _ _ _ T16 (mkF m 55 #[.val (.int p1), .val (.int p2), .val (.int (p1 &&& (3 : Int32)))] [(.int (3 : Int32)), (.int (p1 &&& (3 : Int32)))])
          by_cases hc19 : (p1 &&& (3 : Int32)) < (3 : Int32)
          · refine own_step (fun _ k => XS.icmpYes X16.here hx rfl (pc0 := 55) (pc' := 73) rfl (hb hby d10_55) rfl (tlt hc19).1 (by decide) (by decide) k) ?_
            show own_Go _ _ _ _ T16 (mkF m 73 #[.val (.int p1), .val (.int p2), .val (.int (p1 &&& (3 : Int32)))] [])
            refine own_step (fun _ k => XS.iconst X16.here hx rfl (hb hby d10_73) k) ?_
            show own_Go _ _ _ _ T16 (mkF m 74 #[.val (.int p1), .val (.int p2), .val (.int (p1 &&& (3 : Int32)))] [(.int (1 : Int32))])
            exact own_retN X16 hx (t := .boolean) hret (by simp) hlk (hb hby d10_74) rfl (own_N ⟨own_leafI ((if_pos hc1).trans ((if_neg hc2).trans ((if_pos hc17).trans ((if_pos hc18).trans (if_pos hc19))))), N16, e16⟩ (by decide) (by decide)) 
          · refine own_step (fun _ k => XS.icmpNo X16.here hx rfl (hb hby d10_55) rfl (flt hc19).1 k) ?_
            show own_Go _ _ _ _ T16 (mkF m 58 #[.val (.int p1), .val (.int p2), .val (.int (p1 &&& (3 : Int32)))] [])
            refine own_step (fun _ k => XS.iloadN X16.here hx rfl (hb hby d10_58) rfl k) ?_
            show own_Go _ _ _ _ T16 (mkF m 59 #[.val (.int p1), .val (.int p2), .val (.int (p1 &&& (3 : Int32)))] [(.int p1)])
            refine own_step (fun _ k => XS.iconst X16.here hx rfl (hb hby d10_59) k) ?_
            show own_Go _ _ _ _ T16 (mkF m 60 #[.val (.int p1), .val (.int p2), .val (.int (p1 &&& (3 : Int32)))] [(.int (2 : Int32)), (.int p1)])
            refine own_callS X16 hx hZ (y := (⟨"com/example/tickwright/tickwright/AccountEqualsPinLaw", "ch", "(II)C"⟩ : MethodName)) hown (hw _ (List.mem_of_getElem? (i := 29) rfl)) (hw _ (List.mem_of_getElem? (i := 30) rfl)) (hw _ (List.mem_of_getElem? (i := 5) rfl)) (hw _ (List.mem_of_getElem? (i := 31) rfl)) (by decide) (rm5 l Z a0 hw [] p1 (2 : Int32) h0 n0 Z0) e16 0 (by decide) (by decide) (by decide) (by decide) (g := (mkF m 60 #[.val (.int p1), .val (.int p2), .val (.int (p1 &&& (3 : Int32)))] [(.int (2 : Int32)), (.int p1)])) rfl (by rw [hml]; rfl) [(.int p1), (.int (2 : Int32))] [] pd_4 rfl rfl rfl (by show 2 * 0 + _ ≤ _; exact Nat.le_of_eq rfl) (hb hby d10_60) ?_
            rintro v20 T20 L20 X20 ⟨rfl, Nq20, e20⟩
            have N20 := Fr.app N16 Nq20
            show own_Go _ _ _ _ T20 (mkF m 63 #[.val (.int p1), .val (.int p2), .val (.int (p1 &&& (3 : Int32)))] [(.int (own_ch p1 (2 : Int32)))])
            refine own_step (fun _ k => XS.iloadN X20.here hx rfl (hb hby d10_63) rfl k) ?_
            show own_Go _ _ _ _ T20 (mkF m 64 #[.val (.int p1), .val (.int p2), .val (.int (p1 &&& (3 : Int32)))] [(.int p2), (.int (own_ch p1 (2 : Int32)))])
            refine own_step (fun _ k => XS.iconst X20.here hx rfl (hb hby d10_64) k) ?_
            show own_Go _ _ _ _ T20 (mkF m 65 #[.val (.int p1), .val (.int p2), .val (.int (p1 &&& (3 : Int32)))] [(.int (2 : Int32)), (.int p2), (.int (own_ch p1 (2 : Int32)))])
            refine own_callS X20 hx hZ (y := (⟨"com/example/tickwright/tickwright/AccountEqualsPinLaw", "ch", "(II)C"⟩ : MethodName)) hown (hw _ (List.mem_of_getElem? (i := 29) rfl)) (hw _ (List.mem_of_getElem? (i := 30) rfl)) (hw _ (List.mem_of_getElem? (i := 5) rfl)) (hw _ (List.mem_of_getElem? (i := 31) rfl)) (by decide) (rm5 l Z a0 hw [] p2 (2 : Int32) h0 n0 Z0) e20 1 (by decide) (by decide) (by decide) (by decide) (g := (mkF m 65 #[.val (.int p1), .val (.int p2), .val (.int (p1 &&& (3 : Int32)))] [(.int (2 : Int32)), (.int p2), (.int (own_ch p1 (2 : Int32)))])) rfl (by rw [hml]; rfl) [(.int p2), (.int (2 : Int32))] [(.int (own_ch p1 (2 : Int32)))] pd_4 rfl rfl rfl (by show 2 * 0 + _ ≤ _; exact Nat.le_of_eq rfl) (hb hby d10_65) ?_
            rintro v21 T21 L21 X21 ⟨rfl, Nq21, e21⟩
            have N21 := Fr.app N20 Nq21
            show own_Go _ _ _ _ T21 (mkF m 68 #[.val (.int p1), .val (.int p2), .val (.int (p1 &&& (3 : Int32)))] [(.int (own_ch p2 (2 : Int32))), (.int (own_ch p1 (2 : Int32)))])
            by_cases hc22 : (own_ch p1 (2 : Int32)) = (own_ch p2 (2 : Int32))
            · refine own_step (fun _ k => XS.icmpYes X21.here hx rfl (pc0 := 68) (pc' := 73) rfl (hb hby d10_68) rfl (teq hc22).1 (by decide) (by decide) k) ?_
              show own_Go _ _ _ _ T21 (mkF m 73 #[.val (.int p1), .val (.int p2), .val (.int (p1 &&& (3 : Int32)))] [])
              refine own_step (fun _ k => XS.iconst X21.here hx rfl (hb hby d10_73) k) ?_
              show own_Go _ _ _ _ T21 (mkF m 74 #[.val (.int p1), .val (.int p2), .val (.int (p1 &&& (3 : Int32)))] [(.int (1 : Int32))])
              exact own_retN X21 hx (t := .boolean) hret (by simp) hlk (hb hby d10_74) rfl (own_N ⟨own_leafI ((if_pos hc1).trans ((if_neg hc2).trans ((if_pos hc17).trans ((if_pos hc18).trans ((if_neg hc19).trans (if_pos hc22)))))), N21, e21⟩ (by decide) (by decide)) 
            · refine own_step (fun _ k => XS.icmpNo X21.here hx rfl (hb hby d10_68) rfl (feq hc22).1 k) ?_
              show own_Go _ _ _ _ T21 (mkF m 71 #[.val (.int p1), .val (.int p2), .val (.int (p1 &&& (3 : Int32)))] [])
              refine own_step (fun _ k => XS.iconst X21.here hx rfl (hb hby d10_71) k) ?_
              show own_Go _ _ _ _ T21 (mkF m 72 #[.val (.int p1), .val (.int p2), .val (.int (p1 &&& (3 : Int32)))] [(.int (0 : Int32))])
              exact own_retN X21 hx (t := .boolean) hret (by simp) hlk (hb hby d10_72) rfl (own_N ⟨own_leafI ((if_pos hc1).trans ((if_neg hc2).trans ((if_pos hc17).trans ((if_pos hc18).trans ((if_neg hc19).trans (if_neg hc22)))))), N21, e21⟩ (by decide) (by decide)) 
        · refine own_step (fun _ k => XS.icmpNo X16.here hx rfl (hb hby d10_35) rfl (flt hc18).1 k) ?_
          show own_Go _ _ _ _ T16 (mkF m 38 #[.val (.int p1), .val (.int p2), .val (.int (p1 &&& (3 : Int32)))] [])
          refine own_step (fun _ k => XS.iloadN X16.here hx rfl (hb hby d10_38) rfl k) ?_
          show own_Go _ _ _ _ T16 (mkF m 39 #[.val (.int p1), .val (.int p2), .val (.int (p1 &&& (3 : Int32)))] [(.int p1)])
          refine own_step (fun _ k => XS.iconst X16.here hx rfl (hb hby d10_39) k) ?_
          show own_Go _ _ _ _ T16 (mkF m 40 #[.val (.int p1), .val (.int p2), .val (.int (p1 &&& (3 : Int32)))] [(.int (1 : Int32)), (.int p1)])
          refine own_callS X16 hx hZ (y := (⟨"com/example/tickwright/tickwright/AccountEqualsPinLaw", "ch", "(II)C"⟩ : MethodName)) hown (hw _ (List.mem_of_getElem? (i := 29) rfl)) (hw _ (List.mem_of_getElem? (i := 30) rfl)) (hw _ (List.mem_of_getElem? (i := 5) rfl)) (hw _ (List.mem_of_getElem? (i := 31) rfl)) (by decide) (rm5 l Z a0 hw [] p1 (1 : Int32) h0 n0 Z0) e16 0 (by decide) (by decide) (by decide) (by decide) (g := (mkF m 40 #[.val (.int p1), .val (.int p2), .val (.int (p1 &&& (3 : Int32)))] [(.int (1 : Int32)), (.int p1)])) rfl (by rw [hml]; rfl) [(.int p1), (.int (1 : Int32))] [] pd_4 rfl rfl rfl (by show 2 * 0 + _ ≤ _; exact Nat.le_of_eq rfl) (hb hby d10_40) ?_
          rintro v23 T23 L23 X23 ⟨rfl, Nq23, e23⟩
          have N23 := Fr.app N16 Nq23
          show own_Go _ _ _ _ T23 (mkF m 43 #[.val (.int p1), .val (.int p2), .val (.int (p1 &&& (3 : Int32)))] [(.int (own_ch p1 (1 : Int32)))])
          refine own_step (fun _ k => XS.iloadN X23.here hx rfl (hb hby d10_43) rfl k) ?_
          show own_Go _ _ _ _ T23 (mkF m 44 #[.val (.int p1), .val (.int p2), .val (.int (p1 &&& (3 : Int32)))] [(.int p2), (.int (own_ch p1 (1 : Int32)))])
          refine own_step (fun _ k => XS.iconst X23.here hx rfl (hb hby d10_44) k) ?_
          show own_Go _ _ _ _ T23 (mkF m 45 #[.val (.int p1), .val (.int p2), .val (.int (p1 &&& (3 : Int32)))] [(.int (1 : Int32)), (.int p2), (.int (own_ch p1 (1 : Int32)))])
          refine own_callS X23 hx hZ (y := (⟨"com/example/tickwright/tickwright/AccountEqualsPinLaw", "ch", "(II)C"⟩ : MethodName)) hown (hw _ (List.mem_of_getElem? (i := 29) rfl)) (hw _ (List.mem_of_getElem? (i := 30) rfl)) (hw _ (List.mem_of_getElem? (i := 5) rfl)) (hw _ (List.mem_of_getElem? (i := 31) rfl)) (by decide) (rm5 l Z a0 hw [] p2 (1 : Int32) h0 n0 Z0) e23 1 (by decide) (by decide) (by decide) (by decide) (g := (mkF m 45 #[.val (.int p1), .val (.int p2), .val (.int (p1 &&& (3 : Int32)))] [(.int (1 : Int32)), (.int p2), (.int (own_ch p1 (1 : Int32)))])) rfl (by rw [hml]; rfl) [(.int p2), (.int (1 : Int32))] [(.int (own_ch p1 (1 : Int32)))] pd_4 rfl rfl rfl (by show 2 * 0 + _ ≤ _; exact Nat.le_of_eq rfl) (hb hby d10_45) ?_
          rintro v24 T24 L24 X24 ⟨rfl, Nq24, e24⟩
          have N24 := Fr.app N23 Nq24
          show own_Go _ _ _ _ T24 (mkF m 48 #[.val (.int p1), .val (.int p2), .val (.int (p1 &&& (3 : Int32)))] [(.int (own_ch p2 (1 : Int32))), (.int (own_ch p1 (1 : Int32)))])
          by_cases hc25 : (own_ch p1 (1 : Int32)) = (own_ch p2 (1 : Int32))
          · refine own_step (fun _ k => XS.icmpYes X24.here hx rfl (pc0 := 48) (pc' := 53) rfl (hb hby d10_48) rfl (teq hc25).1 (by decide) (by decide) k) ?_
            show own_Go _ _ _ _ T24 (mkF m 53 #[.val (.int p1), .val (.int p2), .val (.int (p1 &&& (3 : Int32)))] [])
            refine own_step (fun _ k => XS.iloadN X24.here hx rfl (hb hby d10_53) rfl k) ?_
            show own_Go _ _ _ _ T24 (mkF m 54 #[.val (.int p1), .val (.int p2), .val (.int (p1 &&& (3 : Int32)))] [(.int (p1 &&& (3 : Int32)))])
            refine own_step (fun _ k => XS.iconst X24.here hx rfl (hb hby d10_54) k) ?_
            show own_Go _ _ _ _ T24 (mkF m 55 #[.val (.int p1), .val (.int p2), .val (.int (p1 &&& (3 : Int32)))] [(.int (3 : Int32)), (.int (p1 &&& (3 : Int32)))])
            by_cases hc26 : (p1 &&& (3 : Int32)) < (3 : Int32)
            · refine own_step (fun _ k => XS.icmpYes X24.here hx rfl (pc0 := 55) (pc' := 73) rfl (hb hby d10_55) rfl (tlt hc26).1 (by decide) (by decide) k) ?_
              show own_Go _ _ _ _ T24 (mkF m 73 #[.val (.int p1), .val (.int p2), .val (.int (p1 &&& (3 : Int32)))] [])
              refine own_step (fun _ k => XS.iconst X24.here hx rfl (hb hby d10_73) k) ?_
              show own_Go _ _ _ _ T24 (mkF m 74 #[.val (.int p1), .val (.int p2), .val (.int (p1 &&& (3 : Int32)))] [(.int (1 : Int32))])
              exact own_retN X24 hx (t := .boolean) hret (by simp) hlk (hb hby d10_74) rfl (own_N ⟨own_leafI ((if_pos hc1).trans ((if_neg hc2).trans ((if_pos hc17).trans ((if_neg hc18).trans ((if_pos hc25).trans (if_pos hc26)))))), N24, e24⟩ (by decide) (by decide)) 
            · refine own_step (fun _ k => XS.icmpNo X24.here hx rfl (hb hby d10_55) rfl (flt hc26).1 k) ?_
              show own_Go _ _ _ _ T24 (mkF m 58 #[.val (.int p1), .val (.int p2), .val (.int (p1 &&& (3 : Int32)))] [])
              refine own_step (fun _ k => XS.iloadN X24.here hx rfl (hb hby d10_58) rfl k) ?_
              show own_Go _ _ _ _ T24 (mkF m 59 #[.val (.int p1), .val (.int p2), .val (.int (p1 &&& (3 : Int32)))] [(.int p1)])
              refine own_step (fun _ k => XS.iconst X24.here hx rfl (hb hby d10_59) k) ?_
              show own_Go _ _ _ _ T24 (mkF m 60 #[.val (.int p1), .val (.int p2), .val (.int (p1 &&& (3 : Int32)))] [(.int (2 : Int32)), (.int p1)])
              refine own_callS X24 hx hZ (y := (⟨"com/example/tickwright/tickwright/AccountEqualsPinLaw", "ch", "(II)C"⟩ : MethodName)) hown (hw _ (List.mem_of_getElem? (i := 29) rfl)) (hw _ (List.mem_of_getElem? (i := 30) rfl)) (hw _ (List.mem_of_getElem? (i := 5) rfl)) (hw _ (List.mem_of_getElem? (i := 31) rfl)) (by decide) (rm5 l Z a0 hw [] p1 (2 : Int32) h0 n0 Z0) e24 0 (by decide) (by decide) (by decide) (by decide) (g := (mkF m 60 #[.val (.int p1), .val (.int p2), .val (.int (p1 &&& (3 : Int32)))] [(.int (2 : Int32)), (.int p1)])) rfl (by rw [hml]; rfl) [(.int p1), (.int (2 : Int32))] [] pd_4 rfl rfl rfl (by show 2 * 0 + _ ≤ _; exact Nat.le_of_eq rfl) (hb hby d10_60) ?_
              rintro v27 T27 L27 X27 ⟨rfl, Nq27, e27⟩
              have N27 := Fr.app N24 Nq27
              show own_Go _ _ _ _ T27 (mkF m 63 #[.val (.int p1), .val (.int p2), .val (.int (p1 &&& (3 : Int32)))] [(.int (own_ch p1 (2 : Int32)))])
              refine own_step (fun _ k => XS.iloadN X27.here hx rfl (hb hby d10_63) rfl k) ?_
              show own_Go _ _ _ _ T27 (mkF m 64 #[.val (.int p1), .val (.int p2), .val (.int (p1 &&& (3 : Int32)))] [(.int p2), (.int (own_ch p1 (2 : Int32)))])
              refine own_step (fun _ k => XS.iconst X27.here hx rfl (hb hby d10_64) k) ?_
              show own_Go _ _ _ _ T27 (mkF m 65 #[.val (.int p1), .val (.int p2), .val (.int (p1 &&& (3 : Int32)))] [(.int (2 : Int32)), (.int p2), (.int (own_ch p1 (2 : Int32)))])
              refine own_callS X27 hx hZ (y := (⟨"com/example/tickwright/tickwright/AccountEqualsPinLaw", "ch", "(II)C"⟩ : MethodName)) hown (hw _ (List.mem_of_getElem? (i := 29) rfl)) (hw _ (List.mem_of_getElem? (i := 30) rfl)) (hw _ (List.mem_of_getElem? (i := 5) rfl)) (hw _ (List.mem_of_getElem? (i := 31) rfl)) (by decide) (rm5 l Z a0 hw [] p2 (2 : Int32) h0 n0 Z0) e27 1 (by decide) (by decide) (by decide) (by decide) (g := (mkF m 65 #[.val (.int p1), .val (.int p2), .val (.int (p1 &&& (3 : Int32)))] [(.int (2 : Int32)), (.int p2), (.int (own_ch p1 (2 : Int32)))])) rfl (by rw [hml]; rfl) [(.int p2), (.int (2 : Int32))] [(.int (own_ch p1 (2 : Int32)))] pd_4 rfl rfl rfl (by show 2 * 0 + _ ≤ _; exact Nat.le_of_eq rfl) (hb hby d10_65) ?_
              rintro v28 T28 L28 X28 ⟨rfl, Nq28, e28⟩
              have N28 := Fr.app N27 Nq28
              show own_Go _ _ _ _ T28 (mkF m 68 #[.val (.int p1), .val (.int p2), .val (.int (p1 &&& (3 : Int32)))] [(.int (own_ch p2 (2 : Int32))), (.int (own_ch p1 (2 : Int32)))])
              by_cases hc29 : (own_ch p1 (2 : Int32)) = (own_ch p2 (2 : Int32))
              · refine own_step (fun _ k => XS.icmpYes X28.here hx rfl (pc0 := 68) (pc' := 73) rfl (hb hby d10_68) rfl (teq hc29).1 (by decide) (by decide) k) ?_
                show own_Go _ _ _ _ T28 (mkF m 73 #[.val (.int p1), .val (.int p2), .val (.int (p1 &&& (3 : Int32)))] [])
                refine own_step (fun _ k => XS.iconst X28.here hx rfl (hb hby d10_73) k) ?_
                show own_Go _ _ _ _ T28 (mkF m 74 #[.val (.int p1), .val (.int p2), .val (.int (p1 &&& (3 : Int32)))] [(.int (1 : Int32))])
                exact own_retN X28 hx (t := .boolean) hret (by simp) hlk (hb hby d10_74) rfl (own_N ⟨own_leafI ((if_pos hc1).trans ((if_neg hc2).trans ((if_pos hc17).trans ((if_neg hc18).trans ((if_pos hc25).trans ((if_neg hc26).trans (if_pos hc29))))))), N28, e28⟩ (by decide) (by decide)) 
              · refine own_step (fun _ k => XS.icmpNo X28.here hx rfl (hb hby d10_68) rfl (feq hc29).1 k) ?_
                show own_Go _ _ _ _ T28 (mkF m 71 #[.val (.int p1), .val (.int p2), .val (.int (p1 &&& (3 : Int32)))] [])
                refine own_step (fun _ k => XS.iconst X28.here hx rfl (hb hby d10_71) k) ?_
                show own_Go _ _ _ _ T28 (mkF m 72 #[.val (.int p1), .val (.int p2), .val (.int (p1 &&& (3 : Int32)))] [(.int (0 : Int32))])
                exact own_retN X28 hx (t := .boolean) hret (by simp) hlk (hb hby d10_72) rfl (own_N ⟨own_leafI ((if_pos hc1).trans ((if_neg hc2).trans ((if_pos hc17).trans ((if_neg hc18).trans ((if_pos hc25).trans ((if_neg hc26).trans (if_neg hc29))))))), N28, e28⟩ (by decide) (by decide)) 
          · refine own_step (fun _ k => XS.icmpNo X24.here hx rfl (hb hby d10_48) rfl (feq hc25).1 k) ?_
            show own_Go _ _ _ _ T24 (mkF m 51 #[.val (.int p1), .val (.int p2), .val (.int (p1 &&& (3 : Int32)))] [])
            refine own_step (fun _ k => XS.iconst X24.here hx rfl (hb hby d10_51) k) ?_
            show own_Go _ _ _ _ T24 (mkF m 52 #[.val (.int p1), .val (.int p2), .val (.int (p1 &&& (3 : Int32)))] [(.int (0 : Int32))])
            exact own_retN X24 hx (t := .boolean) hret (by simp) hlk (hb hby d10_52) rfl (own_N ⟨own_leafI ((if_pos hc1).trans ((if_neg hc2).trans ((if_pos hc17).trans ((if_neg hc18).trans (if_neg hc25))))), N24, e24⟩ (by decide) (by decide)) 
      · refine own_step (fun _ k => XS.icmpNo X16.here hx rfl (hb hby d10_28) rfl (feq hc17).1 k) ?_
        show own_Go _ _ _ _ T16 (mkF m 31 #[.val (.int p1), .val (.int p2), .val (.int (p1 &&& (3 : Int32)))] [])
        refine own_step (fun _ k => XS.iconst X16.here hx rfl (hb hby d10_31) k) ?_
        show own_Go _ _ _ _ T16 (mkF m 32 #[.val (.int p1), .val (.int p2), .val (.int (p1 &&& (3 : Int32)))] [(.int (0 : Int32))])
        exact own_retN X16 hx (t := .boolean) hret (by simp) hlk (hb hby d10_32) rfl (own_N ⟨own_leafI ((if_pos hc1).trans ((if_neg hc2).trans (if_neg hc17))), N16, e16⟩ (by decide) (by decide)) 
  · refine own_step (fun _ k => XS.icmpNo X0.here hx rfl (hb hby d10_8) rfl (feq hc1).1 k) ?_
    show own_Go _ _ _ _ T0 (mkF m 11 #[.val (.int p1), .val (.int p2), .val (.int (p1 &&& (3 : Int32)))] [])
    refine own_step (fun _ k => XS.iconst X0.here hx rfl (hb hby d10_11) k) ?_
    show own_Go _ _ _ _ T0 (mkF m 12 #[.val (.int p1), .val (.int p2), .val (.int (p1 &&& (3 : Int32)))] [(.int (0 : Int32))])
    exact own_retN X0 hx (t := .boolean) hret (by simp) hlk (hb hby d10_12) rfl (own_N ⟨own_leafI (if_neg hc1), N0, e0⟩ (by decide) (by decide)) 
theorem own_chv (x i : Int32) : own_ch x i = (((x.toUInt32 >>> (((2 : Int32) + ((8 : Int32) * i)) &&& 31).toUInt32).toInt32) &&& (255 : Int32)) := by
  unfold own_ch; rw [own_ci]; try rw [own_ci]
theorem own_chn (x i : Int32) : nar .char (own_ch x i) = own_ch x i := by rw [own_chv]; exact own_ci _
theorem own_chb (x i : Int32) : 0 ≤ (own_ch x i).toInt ∧ (own_ch x i).toInt ≤ 255 := by
  rw [own_chv]
  have h := c_and ((x.toUInt32 >>> (((2 : Int32) + ((8 : Int32) * i)) &&& 31).toUInt32).toInt32) (255 : Int32) (by decide)
  have e : (255 : Int32).toInt = 255 := by decide
  omega
theorem own_chl (x i : Int32) : ¬ (255 : Int32) < own_ch x i := by
  have h := own_chb x i
  have e : (255 : Int32).toInt = 255 := by decide
  rw [Int32.lt_iff_toInt_lt]; omega
theorem own_binj (x i y j : Int32) : (own_ch x i).toInt8.toInt32 = (own_ch y j).toInt8.toInt32 ↔ own_ch x i = own_ch y j := by
  have h1 := own_chb x i; have h2 := own_chb y j; have h3 := c_i2b (own_ch x i); have h4 := c_i2b (own_ch y j)
  rw [← Int32.toInt_inj, ← Int32.toInt_inj]; omega
def own_cs (x : Int32) : List Int32 := if (x &&& (3 : Int32)) = (0 : Int32) then ([] : List Int32) else if (x &&& (3 : Int32)) = (1 : Int32) then ([(own_ch x (0 : Int32))] : List Int32) else if (x &&& (3 : Int32)) = (2 : Int32) then ([(own_ch x (0 : Int32)), (own_ch x (1 : Int32))] : List Int32) else ([(own_ch x (0 : Int32)), (own_ch x (1 : Int32)), (own_ch x (2 : Int32))] : List Int32)
def own_by (x : Int32) : List Int32 := (own_cs x).map (fun c : Int32 => c.toInt8.toInt32)
theorem own_byl (x : Int32) : (x &&& (3 : Int32)).toInt = ((own_by x).length : Nat) := by
  unfold own_by own_cs
  rcases own_four x with h | h | h | h <;> rw [h] <;> rfl
def own_eqb (xs ys : List Int32) : Int32 := if xs = ys then (1 : Int32) else (0 : Int32)
theorem own_eqc (xs ys : List Int32) : own_eqb xs ys = own_eqb ys xs := by
  unfold own_eqb
  by_cases h : xs = ys
  · rw [if_pos h, if_pos h.symm]
  · rw [if_neg h, if_neg (fun q => h q.symm)]
def own_ae (a b : Int32) : Int32 := if a = (0 : Int32) then (0 : Int32) else if b = (0 : Int32) then (0 : Int32) else (1 : Int32)
set_option maxHeartbeats 4000000 in
theorem own_sameb (x y : Int32) : own_same x y = own_eqb (own_by x) (own_by y) := by
  unfold own_same own_eqb own_by own_cs
  rcases own_four x with hx | hx | hx | hx <;> rcases own_four y with hy | hy | hy | hy <;> rw [hx, hy] <;> simp +decide only [if_true, if_false, List.map_cons, List.map_nil, List.cons.injEq, and_true, own_binj, reduceCtorEq, and_false, false_and, List.nil_eq, List.cons_ne_nil]
  · by_cases h0 : own_ch x 0 = own_ch y 0 <;> by_cases h1 : own_ch x 1 = own_ch y 1 <;> simp [h0, h1]
  · by_cases h0 : own_ch x 0 = own_ch y 0 <;> by_cases h1 : own_ch x 1 = own_ch y 1 <;> by_cases h2 : own_ch x 2 = own_ch y 2 <;> simp [h0, h1, h2]
theorem own_dec (x y u v r : Int32) (h : own_ae (own_same x y) (own_same u v) = r) : own_ae (own_eqb (own_by x) (own_by y)) (own_eqb (own_by u) (own_by v)) = r ∧ own_ae (own_eqb (own_by y) (own_by x)) (own_eqb (own_by v) (own_by u)) = r := by
  rw [own_sameb, own_sameb] at h
  exact ⟨h, by rw [own_eqc (own_by y), own_eqc (own_by v)]; exact h⟩
theorem own_tk {xs ys : List Int32} {j : Nat} (hx : j < xs.length) (hy : j < ys.length) (h : xs.take j = ys.take j) (e : xs.getD j (0 : Int32) = ys.getD j (0 : Int32)) : xs.take (j + 1) = ys.take (j + 1) := by
  have e1 : xs.getD j (0 : Int32) = xs[j] := by simp [hx]
  have e2 : ys.getD j (0 : Int32) = ys[j] := by simp [hy]
  rw [e1, e2] at e
  rw [List.take_succ_eq_append_getElem hx, List.take_succ_eq_append_getElem hy, h, e]
theorem own_notof {Z : State} {a0 : Array Value} (hw : ∀ d ∈ tables_1, d.before a0 Z = true) : ∃ c t, Z.vm.findClass "java/lang/String" = some c ∧ Z.vm.findClass "com/example/tickwright/tickwright/Account" = some t ∧ Z.vm.assignable c t = false := by
  obtain ⟨t, k', g0, g2, g5, g7, -⟩ := Cond.instantiable_spec (hw _ (List.mem_of_getElem? (i := 1) rfl))
  have g6 : k'.isInterface = false := by cases q : k'.isInterface <;> simp [q] at g7 ⊢
  have w1 := (hw _ (List.mem_of_getElem? (i := 71) rfl))
  have w2 := (hw _ (List.mem_of_getElem? (i := 72) rfl))
  obtain ⟨o, ko, o1, o2, o3, -, -⟩ := Cond.noSuperclass_spec w2
  have neo := ids_ne o1 g0 (by decide)
  obtain ⟨c, h0⟩ := found_sup w1
  obtain ⟨p, k, kp, h1, h2, h3, h4, h5, -, h7⟩ := Cond.superclass_spec h0 w1
  cases o1.symm.trans h1
  have ne := ids_ne h0 g0 (by decide)
  have n3 : ∀ fuel, Z.vm.isSubclassAux fuel c t = false := by
    intro fuel
    cases fuel with
    | zero => rfl
    | succ f =>
      have n2 : Z.vm.isSubclassAux f o t = false := by
        cases f with
        | zero => rfl
        | succ f => simp [Vm.isSubclassAux, neo, o2, o3]
      simp [Vm.isSubclassAux, ne, h2, h4, n2]
  refine ⟨c, t, h0, g0, ?_⟩
  show Z.vm.assignableAux (255 + 1) c t = false
  simp [Vm.assignableAux, ne, h2, g2, h5, g5, g6, Vm.isSubclass, n3]
theorem d1_0 : decode method_4_code 0 = .ok (.iload_n 0, 1) := by decide +kernel
theorem d1_1 : decode method_4_code 1 = .ok (.iconst 3, 1) := by decide +kernel
theorem d1_2 : decode method_4_code 2 = .ok (.iand, 1) := by decide +kernel
theorem d1_3 : decode method_4_code 3 = .ok (.istore_n 1, 1) := by decide +kernel
theorem d1_4 : decode method_4_code 4 = .ok (.iload_n 1, 1) := by decide +kernel
theorem d1_5 : decode method_4_code 5 = .ok (.ifCond .ne 14, 3) := by decide +kernel
theorem d1_8 : decode method_4_code 8 = .ok (.new 26, 3) := by decide +kernel
theorem d1_11 : decode method_4_code 11 = .ok (.dup, 1) := by decide +kernel
theorem d1_12 : decode method_4_code 12 = .ok (.iconst 0, 1) := by decide +kernel
theorem d1_13 : decode method_4_code 13 = .ok (.newarray .char, 2) := by decide +kernel
theorem d1_15 : decode method_4_code 15 = .ok (.invokespecial 28, 3) := by decide +kernel
theorem d1_18 : decode method_4_code 18 = .ok (.areturn, 1) := by decide +kernel
theorem d1_19 : decode method_4_code 19 = .ok (.iload_n 1, 1) := by decide +kernel
theorem d1_20 : decode method_4_code 20 = .ok (.iconst 1, 1) := by decide +kernel
theorem d1_21 : decode method_4_code 21 = .ok (.if_icmp .ne 22, 3) := by decide +kernel
theorem d1_24 : decode method_4_code 24 = .ok (.new 26, 3) := by decide +kernel
theorem d1_27 : decode method_4_code 27 = .ok (.dup, 1) := by decide +kernel
theorem d1_28 : decode method_4_code 28 = .ok (.iconst 1, 1) := by decide +kernel
theorem d1_29 : decode method_4_code 29 = .ok (.newarray .char, 2) := by decide +kernel
theorem d1_31 : decode method_4_code 31 = .ok (.dup, 1) := by decide +kernel
theorem d1_32 : decode method_4_code 32 = .ok (.iconst 0, 1) := by decide +kernel
theorem d1_33 : decode method_4_code 33 = .ok (.iload_n 0, 1) := by decide +kernel
theorem d1_34 : decode method_4_code 34 = .ok (.iconst 0, 1) := by decide +kernel
theorem d1_35 : decode method_4_code 35 = .ok (.invokestatic 31, 3) := by decide +kernel
theorem d1_38 : decode method_4_code 38 = .ok (.castore, 1) := by decide +kernel
theorem d1_39 : decode method_4_code 39 = .ok (.invokespecial 28, 3) := by decide +kernel
theorem d1_42 : decode method_4_code 42 = .ok (.areturn, 1) := by decide +kernel
theorem d1_43 : decode method_4_code 43 = .ok (.iload_n 1, 1) := by decide +kernel
theorem d1_44 : decode method_4_code 44 = .ok (.iconst 2, 1) := by decide +kernel
theorem d1_45 : decode method_4_code 45 = .ok (.if_icmp .ne 30, 3) := by decide +kernel
theorem d1_48 : decode method_4_code 48 = .ok (.new 26, 3) := by decide +kernel
theorem d1_51 : decode method_4_code 51 = .ok (.dup, 1) := by decide +kernel
theorem d1_52 : decode method_4_code 52 = .ok (.iconst 2, 1) := by decide +kernel
theorem d1_53 : decode method_4_code 53 = .ok (.newarray .char, 2) := by decide +kernel
theorem d1_55 : decode method_4_code 55 = .ok (.dup, 1) := by decide +kernel
theorem d1_56 : decode method_4_code 56 = .ok (.iconst 0, 1) := by decide +kernel
theorem d1_57 : decode method_4_code 57 = .ok (.iload_n 0, 1) := by decide +kernel
theorem d1_58 : decode method_4_code 58 = .ok (.iconst 0, 1) := by decide +kernel
theorem d1_59 : decode method_4_code 59 = .ok (.invokestatic 31, 3) := by decide +kernel
theorem d1_62 : decode method_4_code 62 = .ok (.castore, 1) := by decide +kernel
theorem d1_63 : decode method_4_code 63 = .ok (.dup, 1) := by decide +kernel
theorem d1_64 : decode method_4_code 64 = .ok (.iconst 1, 1) := by decide +kernel
theorem d1_65 : decode method_4_code 65 = .ok (.iload_n 0, 1) := by decide +kernel
theorem d1_66 : decode method_4_code 66 = .ok (.iconst 1, 1) := by decide +kernel
theorem d1_67 : decode method_4_code 67 = .ok (.invokestatic 31, 3) := by decide +kernel
theorem d1_70 : decode method_4_code 70 = .ok (.castore, 1) := by decide +kernel
theorem d1_71 : decode method_4_code 71 = .ok (.invokespecial 28, 3) := by decide +kernel
theorem d1_74 : decode method_4_code 74 = .ok (.areturn, 1) := by decide +kernel
theorem d1_75 : decode method_4_code 75 = .ok (.new 26, 3) := by decide +kernel
theorem d1_78 : decode method_4_code 78 = .ok (.dup, 1) := by decide +kernel
theorem d1_79 : decode method_4_code 79 = .ok (.iconst 3, 1) := by decide +kernel
theorem d1_80 : decode method_4_code 80 = .ok (.newarray .char, 2) := by decide +kernel
theorem d1_82 : decode method_4_code 82 = .ok (.dup, 1) := by decide +kernel
theorem d1_83 : decode method_4_code 83 = .ok (.iconst 0, 1) := by decide +kernel
theorem d1_84 : decode method_4_code 84 = .ok (.iload_n 0, 1) := by decide +kernel
theorem d1_85 : decode method_4_code 85 = .ok (.iconst 0, 1) := by decide +kernel
theorem d1_86 : decode method_4_code 86 = .ok (.invokestatic 31, 3) := by decide +kernel
theorem d1_89 : decode method_4_code 89 = .ok (.castore, 1) := by decide +kernel
theorem d1_90 : decode method_4_code 90 = .ok (.dup, 1) := by decide +kernel
theorem d1_91 : decode method_4_code 91 = .ok (.iconst 1, 1) := by decide +kernel
theorem d1_92 : decode method_4_code 92 = .ok (.iload_n 0, 1) := by decide +kernel
theorem d1_93 : decode method_4_code 93 = .ok (.iconst 1, 1) := by decide +kernel
theorem d1_94 : decode method_4_code 94 = .ok (.invokestatic 31, 3) := by decide +kernel
theorem d1_97 : decode method_4_code 97 = .ok (.castore, 1) := by decide +kernel
theorem d1_98 : decode method_4_code 98 = .ok (.dup, 1) := by decide +kernel
theorem d1_99 : decode method_4_code 99 = .ok (.iconst 2, 1) := by decide +kernel
theorem d1_100 : decode method_4_code 100 = .ok (.iload_n 0, 1) := by decide +kernel
theorem d1_101 : decode method_4_code 101 = .ok (.iconst 2, 1) := by decide +kernel
theorem d1_102 : decode method_4_code 102 = .ok (.invokestatic 31, 3) := by decide +kernel
theorem d1_105 : decode method_4_code 105 = .ok (.castore, 1) := by decide +kernel
theorem d1_106 : decode method_4_code 106 = .ok (.invokespecial 28, 3) := by decide +kernel
theorem d1_109 : decode method_4_code 109 = .ok (.areturn, 1) := by decide +kernel
theorem ef_1 (p1 : Int32) (m : MethodId) : entryFrame m #[(.int p1)] 2 = mkF m 0 #[.val (.int p1), .unset] [] := by first | (simp [entryFrame, mkF, argsToLocals, Value.category]; done) | rfl
theorem pd_5 : parseMethodDescriptor "([C)V" = some ⟨[(.array .char)], none⟩ := by decide +kernel
set_option maxRecDepth 65536 in
set_option maxHeartbeats 40000000 in
theorem rm1 (l : Launch) (Z : State) (a0 : Array Value) (hw : ∀ d ∈ tables_1, d.before a0 Z = true) (ws : List Jvm.Cond) (p1 : Int32) (cz : Int32) (h0 : Heap) (n0 : Nat) (Z0 : n0 ≤ h0.size) (hEL : EW Z a0 own_EL) (O0 : Old Z n0 h0) (SC : Sta Z Z.heap "java/lang/String" "COMPACT_STRINGS" "Z" (.int cz)) (hcz : ¬ cz = (0 : Int32)) :
    own_MetW l (⟨"com/example/tickwright/tickwright/AccountEqualsPinLaw", "str", "(I)Ljava/lang/String;"⟩ : MethodName) method_4_code 2 (some (.object "java/lang/String")) ws ({ frames := 4, cells := 6, slots := 15, locals := 66 } : Room) #[(.int p1)] Z own_EL h0 (fun v h L => ∃ o b k, v = some (.ref o) ∧ Fr n0 L ∧ Keep h0 h [] ∧ h0.size ≤ o ∧ (Exa Z h o "java/lang/String" ∧ Fld Z h o "java/lang/String" "coder" "B" (.int (0 : Int32)) ∧ Fld Z h o "java/lang/String" "value" "[B" (.ref b)) ∧ Arv Z h b k .byte (p1 &&& (3 : Int32)) ((own_by p1).map Value.int) (.int (0 : Int32))) := by
  refine own_bodyW (plainFor_of_name pn_2) (ef_1 p1) ?_
  intro p e s m below meth c T0 X0 hx hby hml0 hret hlk hnm hown hZ e0 eS H0 hS0
  have C0 := CHr.refl H0
  have hml : c.maxLocals = 2 := hml0
  have N0 := Fr.nil n0
  refine own_step (fun _ k => XS.iloadN X0.here hx rfl (hb hby d1_0) rfl k) ?_
  show own_Go _ _ _ _ T0 (mkF m 1 #[.val (.int p1), .unset] [(.int p1)])
  refine own_step (fun _ k => XS.iconst X0.here hx rfl (hb hby d1_1) k) ?_
  show own_Go _ _ _ _ T0 (mkF m 2 #[.val (.int p1), .unset] [(.int (3 : Int32)), (.int p1)])
  refine own_step (fun _ k => XS.iand X0.here hx rfl (hb hby d1_2) rfl k) ?_
  show own_Go _ _ _ _ T0 (mkF m 3 #[.val (.int p1), .unset] [(.int (p1 &&& (3 : Int32)))])
  refine own_step (fun _ k => XS.istoreN X0.here hx rfl (hb hby d1_3) rfl (l' := #[.val (.int p1), .val (.int (p1 &&& (3 : Int32)))]) rfl k) ?_
  show own_Go _ _ _ _ T0 (mkF m 4 #[.val (.int p1), .val (.int (p1 &&& (3 : Int32)))] [])
  refine own_step (fun _ k => XS.iloadN X0.here hx rfl (hb hby d1_4) rfl k) ?_
  show own_Go _ _ _ _ T0 (mkF m 5 #[.val (.int p1), .val (.int (p1 &&& (3 : Int32)))] [(.int (p1 &&& (3 : Int32)))])
  by_cases hc1 : (p1 &&& (3 : Int32)) = (0 : Int32)
  · refine own_step (fun _ k => XS.ifNo X0.here hx rfl (hb hby d1_5) rfl ((if0 _ _).trans (teq hc1).2) k) ?_
    show own_Go _ _ _ _ T0 (mkF m 8 #[.val (.int p1), .val (.int (p1 &&& (3 : Int32)))] [])
    have hbc : own_by p1 = ([] : List Int32).map (fun c : Int32 => c.toInt8.toInt32) := congrArg (List.map (fun c : Int32 => c.toInt8.toInt32)) (if_pos hc1)
    obtain ⟨T2, h2, X2, e2, E2, A2, D2, -, st2⟩ := newO X0 hx hZ hown (hw _ (List.mem_of_getElem? (i := 7) rfl)) (hw _ (List.mem_of_getElem? (i := 8) rfl)) (hw _ (List.mem_of_getElem? (i := 9) rfl)) e0 (g := (mkF m 8 #[.val (.int p1), .val (.int (p1 &&& (3 : Int32)))] [])) rfl (hb hby d1_8) (by decide) (by decide)
    obtain ⟨so, g2⟩ : ∃ z, z = h0.size := ⟨_, rfl⟩
    rw [← g2] at A2 D2 st2
    have g_so : n0 ≤ so := Nat.le_trans Z0 (Nat.le_of_eq g2.symm)
    have sz_so : h0.size ≤ so := Nat.le_trans (Keep.refl h0 []).1 (Nat.le_of_eq g2.symm)
    refine own_step st2 ?_
    have Dc2 := (CHr.ext E2 C0.1)
    have C2 := C0.trans Dc2
    have hk2 := Nat.le_trans (Nat.le_refl _) Dc2.2.1
    have Z2 := Nat.le_trans Z0 E2.1
    have KK2 := (Keep.refl h0 []).ext E2
    have F_value_so : Fld Z h2 so "java/lang/String" "value" "[B" .null := D2 (Or.inr (hw _ (List.mem_of_getElem? (i := 23) rfl))) (ty := (.array .byte)) (by decide)
    have F_coder_so : Fld Z h2 so "java/lang/String" "coder" "B" (.int (0 : Int32)) := D2 (Or.inr (hw _ (List.mem_of_getElem? (i := 24) rfl))) (ty := .byte) (by decide)
    show own_Go _ _ _ _ T2 (mkF m 11 #[.val (.int p1), .val (.int (p1 &&& (3 : Int32)))] [(.ref so)])
    refine own_step (fun _ k => XS.dup X2.here hx rfl (hb hby d1_11) rfl rfl k) ?_
    show own_Go _ _ _ _ T2 (mkF m 12 #[.val (.int p1), .val (.int (p1 &&& (3 : Int32)))] [(.ref so), (.ref so)])
    refine own_step (fun _ k => XS.iconst X2.here hx rfl (hb hby d1_12) k) ?_
    show own_Go _ _ _ _ T2 (mkF m 13 #[.val (.int p1), .val (.int (p1 &&& (3 : Int32)))] [(.int (0 : Int32)), (.ref so), (.ref so)])
    obtain ⟨T3, h3, k3, ca, g3, X3, e3, E3, V3, st3⟩ := own_newA X2 hx hZ (hw _ (List.mem_of_getElem? (i := 10) rfl)) e2 (g := (mkF m 13 #[.val (.int p1), .val (.int (p1 &&& (3 : Int32)))] [(.int (0 : Int32)), (.ref so), (.ref so)])) rfl (hb hby d1_13) rfl (by decide) (cap := 0) (by decide) (by decide) (by decide) (by decide)
    have ne_so_ca : so ≠ ca := Nat.ne_of_lt (Nat.lt_of_lt_of_eq A2.lt g3.symm)
    have g_ca : n0 ≤ ca := Nat.le_trans Z2 (Nat.le_of_eq g3.symm)
    have sz_ca : h0.size ≤ ca := Nat.le_trans KK2.1 (Nat.le_of_eq g3.symm)
    refine own_step st3 ?_
    have Dc3 := (CHr.ext E3 C2.1)
    have C3 := C2.trans Dc3
    have hk3 := Nat.le_trans hk2 Dc3.2.1
    have Z3 := Nat.le_trans Z2 E3.1
    have KK3 := KK2.ext E3
    have V_ca : Arv Z h3 ca k3 .char (0 : Int32) [] (.int (0 : Int32)) := V3
    show own_Go _ _ _ _ T3 (mkF m 15 #[.val (.int p1), .val (.int (p1 &&& (3 : Int32)))] [(.ref ca), (.ref so), (.ref so)])
    have Q4 := ((O0.ext E2).ext E3)
    have Q5 := (A2.ext E3)
    have Q6 := (F_coder_so.ext E3)
    have Q7 := (F_value_so.ext E3)
    refine own_callCW X3 hx hZ (y := (⟨"java/lang/String", "<init>", "([C)V"⟩ : MethodName)) rfl hown (hw _ (List.mem_of_getElem? (i := 11) rfl)) (hw _ (List.mem_of_getElem? (i := 12) rfl)) (hw _ (List.mem_of_getElem? (i := 9) rfl)) (hw _ (List.mem_of_getElem? (i := 13) rfl)) (by decide) (rm2 l Z a0 hw [] so ca k3 cz (0 : Int32) ([] : List Int32) h3 n0 Z3 hEL Q4 SC hcz Q5 Q6 Q7 V_ca rfl (Nat.le_of_ble_eq_true rfl) (own_lat _ (fun c hc => by cases hc)) g_so) e3 hEL C3.1 hS0 hk3 (b := so) 1 (by decide) (by decide) (by decide) (by decide) (g := (mkF m 15 #[.val (.int p1), .val (.int (p1 &&& (3 : Int32)))] [(.ref ca), (.ref so), (.ref so)])) rfl (by rw [hml]; rfl) [(.ref ca)] [(.ref so)] pd_5 rfl rfl rfl (by show 2 * 0 + _ ≤ _; exact Nat.le_of_eq rfl) (hb hby d1_15) ?_
    rintro v8 T8 L8 X8 ⟨va_so, kv_so, rfl, Nq8, K8, ⟨EX8, FC8, FV8⟩, V8⟩ D8 hS8 hZ hown
    have N8 := Fr.app N0 Nq8
    show own_Go _ _ _ _ T8 (mkF m 18 #[.val (.int p1), .val (.int (p1 &&& (3 : Int32)))] [(.ref so)])
    have Dc8 := D8
    have C8 := C3.trans Dc8
    have Z8 := Nat.le_trans Z3 K8.1
    have KK8 := KK3.trans K8 (allS (P := fun x => x ∈ [] ∨ h0.size ≤ x) (Or.inr sz_so) all0)
    exact own_retA X8 hx hret rfl hlk rfl rfl (hb hby d1_18) (own_W X8 hS8 (Nat.le_refl _) rfl eS hZ hEL C8 (by exact ⟨so, va_so, kv_so, rfl, N8, KK8, sz_so, ⟨EX8, FC8, FV8⟩, by rw [hbc, hc1]; exact V8⟩) (by decide) (by decide)) 
  · refine own_step (fun _ k => XS.ifYes X0.here hx rfl (pc0 := 5) (pc' := 19) rfl (hb hby d1_5) rfl ((if0 _ _).trans (feq hc1).2) (by decide) (by decide) k) ?_
    show own_Go _ _ _ _ T0 (mkF m 19 #[.val (.int p1), .val (.int (p1 &&& (3 : Int32)))] [])
    refine own_step (fun _ k => XS.iloadN X0.here hx rfl (hb hby d1_19) rfl k) ?_
    show own_Go _ _ _ _ T0 (mkF m 20 #[.val (.int p1), .val (.int (p1 &&& (3 : Int32)))] [(.int (p1 &&& (3 : Int32)))])
    refine own_step (fun _ k => XS.iconst X0.here hx rfl (hb hby d1_20) k) ?_
    show own_Go _ _ _ _ T0 (mkF m 21 #[.val (.int p1), .val (.int (p1 &&& (3 : Int32)))] [(.int (1 : Int32)), (.int (p1 &&& (3 : Int32)))])
    by_cases hc9 : (p1 &&& (3 : Int32)) = (1 : Int32)
    · refine own_step (fun _ k => XS.icmpNo X0.here hx rfl (hb hby d1_21) rfl (teq hc9).2 k) ?_
      show own_Go _ _ _ _ T0 (mkF m 24 #[.val (.int p1), .val (.int (p1 &&& (3 : Int32)))] [])
      have hbc : own_by p1 = ([(own_ch p1 (0 : Int32))] : List Int32).map (fun c : Int32 => c.toInt8.toInt32) := congrArg (List.map (fun c : Int32 => c.toInt8.toInt32)) ((if_neg hc1).trans (if_pos hc9))
      obtain ⟨T10, h10, X10, e10, E10, A10, D10, -, st10⟩ := newO X0 hx hZ hown (hw _ (List.mem_of_getElem? (i := 7) rfl)) (hw _ (List.mem_of_getElem? (i := 8) rfl)) (hw _ (List.mem_of_getElem? (i := 9) rfl)) e0 (g := (mkF m 24 #[.val (.int p1), .val (.int (p1 &&& (3 : Int32)))] [])) rfl (hb hby d1_24) (by decide) (by decide)
      obtain ⟨so, g10⟩ : ∃ z, z = h0.size := ⟨_, rfl⟩
      rw [← g10] at A10 D10 st10
      have g_so : n0 ≤ so := Nat.le_trans Z0 (Nat.le_of_eq g10.symm)
      have sz_so : h0.size ≤ so := Nat.le_trans (Keep.refl h0 []).1 (Nat.le_of_eq g10.symm)
      refine own_step st10 ?_
      have Dc10 := (CHr.ext E10 C0.1)
      have C10 := C0.trans Dc10
      have hk10 := Nat.le_trans (Nat.le_refl _) Dc10.2.1
      have Z10 := Nat.le_trans Z0 E10.1
      have KK10 := (Keep.refl h0 []).ext E10
      have F_value_so : Fld Z h10 so "java/lang/String" "value" "[B" .null := D10 (Or.inr (hw _ (List.mem_of_getElem? (i := 23) rfl))) (ty := (.array .byte)) (by decide)
      have F_coder_so : Fld Z h10 so "java/lang/String" "coder" "B" (.int (0 : Int32)) := D10 (Or.inr (hw _ (List.mem_of_getElem? (i := 24) rfl))) (ty := .byte) (by decide)
      show own_Go _ _ _ _ T10 (mkF m 27 #[.val (.int p1), .val (.int (p1 &&& (3 : Int32)))] [(.ref so)])
      refine own_step (fun _ k => XS.dup X10.here hx rfl (hb hby d1_27) rfl rfl k) ?_
      show own_Go _ _ _ _ T10 (mkF m 28 #[.val (.int p1), .val (.int (p1 &&& (3 : Int32)))] [(.ref so), (.ref so)])
      refine own_step (fun _ k => XS.iconst X10.here hx rfl (hb hby d1_28) k) ?_
      show own_Go _ _ _ _ T10 (mkF m 29 #[.val (.int p1), .val (.int (p1 &&& (3 : Int32)))] [(.int (1 : Int32)), (.ref so), (.ref so)])
      obtain ⟨T11, h11, k11, ca, g11, X11, e11, E11, V11, st11⟩ := own_newA X10 hx hZ (hw _ (List.mem_of_getElem? (i := 10) rfl)) e10 (g := (mkF m 29 #[.val (.int p1), .val (.int (p1 &&& (3 : Int32)))] [(.int (1 : Int32)), (.ref so), (.ref so)])) rfl (hb hby d1_29) rfl (by decide) (cap := 1) (by decide) (by decide) (by decide) (by decide)
      have ne_so_ca : so ≠ ca := Nat.ne_of_lt (Nat.lt_of_lt_of_eq A10.lt g11.symm)
      have g_ca : n0 ≤ ca := Nat.le_trans Z10 (Nat.le_of_eq g11.symm)
      have sz_ca : h0.size ≤ ca := Nat.le_trans KK10.1 (Nat.le_of_eq g11.symm)
      refine own_step st11 ?_
      have Dc11 := (CHr.ext E11 C10.1)
      have C11 := C10.trans Dc11
      have hk11 := Nat.le_trans hk10 Dc11.2.1
      have Z11 := Nat.le_trans Z10 E11.1
      have KK11 := KK10.ext E11
      have V_ca : Arv Z h11 ca k11 .char (1 : Int32) [(.int (0 : Int32))] (.int (0 : Int32)) := V11
      show own_Go _ _ _ _ T11 (mkF m 31 #[.val (.int p1), .val (.int (p1 &&& (3 : Int32)))] [(.ref ca), (.ref so), (.ref so)])
      refine own_step (fun _ k => XS.dup X11.here hx rfl (hb hby d1_31) rfl rfl k) ?_
      show own_Go _ _ _ _ T11 (mkF m 32 #[.val (.int p1), .val (.int (p1 &&& (3 : Int32)))] [(.ref ca), (.ref ca), (.ref so), (.ref so)])
      refine own_step (fun _ k => XS.iconst X11.here hx rfl (hb hby d1_32) k) ?_
      show own_Go _ _ _ _ T11 (mkF m 33 #[.val (.int p1), .val (.int (p1 &&& (3 : Int32)))] [(.int (0 : Int32)), (.ref ca), (.ref ca), (.ref so), (.ref so)])
      refine own_step (fun _ k => XS.iloadN X11.here hx rfl (hb hby d1_33) rfl k) ?_
      show own_Go _ _ _ _ T11 (mkF m 34 #[.val (.int p1), .val (.int (p1 &&& (3 : Int32)))] [(.int p1), (.int (0 : Int32)), (.ref ca), (.ref ca), (.ref so), (.ref so)])
      refine own_step (fun _ k => XS.iconst X11.here hx rfl (hb hby d1_34) k) ?_
      show own_Go _ _ _ _ T11 (mkF m 35 #[.val (.int p1), .val (.int (p1 &&& (3 : Int32)))] [(.int (0 : Int32)), (.int p1), (.int (0 : Int32)), (.ref ca), (.ref ca), (.ref so), (.ref so)])
      refine own_callS X11 hx hZ (y := (⟨"com/example/tickwright/tickwright/AccountEqualsPinLaw", "ch", "(II)C"⟩ : MethodName)) hown (hw _ (List.mem_of_getElem? (i := 29) rfl)) (hw _ (List.mem_of_getElem? (i := 30) rfl)) (hw _ (List.mem_of_getElem? (i := 5) rfl)) (hw _ (List.mem_of_getElem? (i := 31) rfl)) (by decide) (rm5 l Z a0 hw [] p1 (0 : Int32) h11 n0 Z11) e11 5 (by decide) (by decide) (by decide) (by decide) (g := (mkF m 35 #[.val (.int p1), .val (.int (p1 &&& (3 : Int32)))] [(.int (0 : Int32)), (.int p1), (.int (0 : Int32)), (.ref ca), (.ref ca), (.ref so), (.ref so)])) rfl (by rw [hml]; rfl) [(.int p1), (.int (0 : Int32))] [(.int (0 : Int32)), (.ref ca), (.ref ca), (.ref so), (.ref so)] pd_4 rfl rfl rfl (by show 2 * 0 + _ ≤ _; exact Nat.le_of_eq rfl) (hb hby d1_35) ?_
      rintro v12 T12 L12 X12 ⟨rfl, Nq12, e12⟩
      have N12 := Fr.app N0 Nq12
      show own_Go _ _ _ _ T12 (mkF m 38 #[.val (.int p1), .val (.int (p1 &&& (3 : Int32)))] [(.int (own_ch p1 (0 : Int32))), (.int (0 : Int32)), (.ref ca), (.ref ca), (.ref so), (.ref so)])
      obtain ⟨T13, h13, l13, X13, e13, W13, V13, st13⟩ := own_stC X12 hx hZ e12 V_ca (j := (0 : Int32)) ⟨by decide, by decide⟩ 0 rfl (Nat.le_of_ble_eq_true rfl) (g := (mkF m 38 #[.val (.int p1), .val (.int (p1 &&& (3 : Int32)))] [(.int (own_ch p1 (0 : Int32))), (.int (0 : Int32)), (.ref ca), (.ref ca), (.ref so), (.ref so)])) rfl rfl (hb hby d1_38)
      refine own_step st13 ?_
      have N13 := Fr.snoc X13 N12 g_ca
      have Dc13 := (CHr.wr W13 (Safe.arv (EL := own_EL) hZ.alike V_ca (by decide)) C11.1)
      have C13 := C11.trans Dc13
      have hk13 := Nat.le_trans hk11 Dc13.2.1
      have Z13 := Nat.le_trans Z11 (Keep.of_wr W13).1
      have KK13 := KK11.wr W13 (Or.inr sz_ca)
      rw [own_chn] at V13
      have V_ca_13 : Arv Z h13 ca k11 .char (1 : Int32) [(.int (own_ch p1 (0 : Int32)))] (.int (0 : Int32)) := V13
      show own_Go _ _ _ _ T13 (mkF m 39 #[.val (.int p1), .val (.int (p1 &&& (3 : Int32)))] [(.ref ca), (.ref so), (.ref so)])
      have Q14 := (((O0.ext E10).ext E11).wr W13 g_ca)
      have Q15 := ((A10.ext E11).wr W13)
      have Q16 := ((F_coder_so.ext E11).other W13 (Or.inl ne_so_ca))
      have Q17 := ((F_value_so.ext E11).other W13 (Or.inl ne_so_ca))
      refine own_callCW X13 hx hZ (y := (⟨"java/lang/String", "<init>", "([C)V"⟩ : MethodName)) rfl hown (hw _ (List.mem_of_getElem? (i := 11) rfl)) (hw _ (List.mem_of_getElem? (i := 12) rfl)) (hw _ (List.mem_of_getElem? (i := 9) rfl)) (hw _ (List.mem_of_getElem? (i := 13) rfl)) (by decide) (rm2 l Z a0 hw [] so ca k11 cz (1 : Int32) ([(own_ch p1 (0 : Int32))] : List Int32) h13 n0 Z13 hEL Q14 SC hcz Q15 Q16 Q17 V_ca_13 rfl (Nat.le_of_ble_eq_true rfl) (own_lat _ (by intro c hc; simp only [List.mem_cons, List.not_mem_nil, or_false] at hc; rcases hc with rfl; exact own_chl _ _)) g_so) e13 hEL C13.1 hS0 hk13 (b := so) 1 (by decide) (by decide) (by decide) (by decide) (g := (mkF m 39 #[.val (.int p1), .val (.int (p1 &&& (3 : Int32)))] [(.ref ca), (.ref so), (.ref so)])) rfl (by rw [hml]; rfl) [(.ref ca)] [(.ref so)] pd_5 rfl rfl rfl (by show 2 * 0 + _ ≤ _; exact Nat.le_of_eq rfl) (hb hby d1_39) ?_
      rintro v18 T18 L18 X18 ⟨va_so, kv_so, rfl, Nq18, K18, ⟨EX18, FC18, FV18⟩, V18⟩ D18 hS18 hZ hown
      have N18 := Fr.app N13 Nq18
      show own_Go _ _ _ _ T18 (mkF m 42 #[.val (.int p1), .val (.int (p1 &&& (3 : Int32)))] [(.ref so)])
      have Dc18 := D18
      have C18 := C13.trans Dc18
      have Z18 := Nat.le_trans Z13 K18.1
      have KK18 := KK13.trans K18 (allS (P := fun x => x ∈ [] ∨ h0.size ≤ x) (Or.inr sz_so) all0)
      exact own_retA X18 hx hret rfl hlk rfl rfl (hb hby d1_42) (own_W X18 hS18 (Nat.le_refl _) rfl eS hZ hEL C18 (by exact ⟨so, va_so, kv_so, rfl, N18, KK18, sz_so, ⟨EX18, FC18, FV18⟩, by rw [hbc, hc9]; exact V18⟩) (by decide) (by decide)) 
    · refine own_step (fun _ k => XS.icmpYes X0.here hx rfl (pc0 := 21) (pc' := 43) rfl (hb hby d1_21) rfl (feq hc9).2 (by decide) (by decide) k) ?_
      show own_Go _ _ _ _ T0 (mkF m 43 #[.val (.int p1), .val (.int (p1 &&& (3 : Int32)))] [])
      refine own_step (fun _ k => XS.iloadN X0.here hx rfl (hb hby d1_43) rfl k) ?_
      show own_Go _ _ _ _ T0 (mkF m 44 #[.val (.int p1), .val (.int (p1 &&& (3 : Int32)))] [(.int (p1 &&& (3 : Int32)))])
      refine own_step (fun _ k => XS.iconst X0.here hx rfl (hb hby d1_44) k) ?_
      show own_Go _ _ _ _ T0 (mkF m 45 #[.val (.int p1), .val (.int (p1 &&& (3 : Int32)))] [(.int (2 : Int32)), (.int (p1 &&& (3 : Int32)))])
      by_cases hc19 : (p1 &&& (3 : Int32)) = (2 : Int32)
      · refine own_step (fun _ k => XS.icmpNo X0.here hx rfl (hb hby d1_45) rfl (teq hc19).2 k) ?_
        show own_Go _ _ _ _ T0 (mkF m 48 #[.val (.int p1), .val (.int (p1 &&& (3 : Int32)))] [])
        have hbc : own_by p1 = ([(own_ch p1 (0 : Int32)), (own_ch p1 (1 : Int32))] : List Int32).map (fun c : Int32 => c.toInt8.toInt32) := congrArg (List.map (fun c : Int32 => c.toInt8.toInt32)) ((if_neg hc1).trans ((if_neg hc9).trans (if_pos hc19)))
        obtain ⟨T20, h20, X20, e20, E20, A20, D20, -, st20⟩ := newO X0 hx hZ hown (hw _ (List.mem_of_getElem? (i := 7) rfl)) (hw _ (List.mem_of_getElem? (i := 8) rfl)) (hw _ (List.mem_of_getElem? (i := 9) rfl)) e0 (g := (mkF m 48 #[.val (.int p1), .val (.int (p1 &&& (3 : Int32)))] [])) rfl (hb hby d1_48) (by decide) (by decide)
        obtain ⟨so, g20⟩ : ∃ z, z = h0.size := ⟨_, rfl⟩
        rw [← g20] at A20 D20 st20
        have g_so : n0 ≤ so := Nat.le_trans Z0 (Nat.le_of_eq g20.symm)
        have sz_so : h0.size ≤ so := Nat.le_trans (Keep.refl h0 []).1 (Nat.le_of_eq g20.symm)
        refine own_step st20 ?_
        have Dc20 := (CHr.ext E20 C0.1)
        have C20 := C0.trans Dc20
        have hk20 := Nat.le_trans (Nat.le_refl _) Dc20.2.1
        have Z20 := Nat.le_trans Z0 E20.1
        have KK20 := (Keep.refl h0 []).ext E20
        have F_value_so : Fld Z h20 so "java/lang/String" "value" "[B" .null := D20 (Or.inr (hw _ (List.mem_of_getElem? (i := 23) rfl))) (ty := (.array .byte)) (by decide)
        have F_coder_so : Fld Z h20 so "java/lang/String" "coder" "B" (.int (0 : Int32)) := D20 (Or.inr (hw _ (List.mem_of_getElem? (i := 24) rfl))) (ty := .byte) (by decide)
        show own_Go _ _ _ _ T20 (mkF m 51 #[.val (.int p1), .val (.int (p1 &&& (3 : Int32)))] [(.ref so)])
        refine own_step (fun _ k => XS.dup X20.here hx rfl (hb hby d1_51) rfl rfl k) ?_
        show own_Go _ _ _ _ T20 (mkF m 52 #[.val (.int p1), .val (.int (p1 &&& (3 : Int32)))] [(.ref so), (.ref so)])
        refine own_step (fun _ k => XS.iconst X20.here hx rfl (hb hby d1_52) k) ?_
        show own_Go _ _ _ _ T20 (mkF m 53 #[.val (.int p1), .val (.int (p1 &&& (3 : Int32)))] [(.int (2 : Int32)), (.ref so), (.ref so)])
        obtain ⟨T21, h21, k21, ca, g21, X21, e21, E21, V21, st21⟩ := own_newA X20 hx hZ (hw _ (List.mem_of_getElem? (i := 10) rfl)) e20 (g := (mkF m 53 #[.val (.int p1), .val (.int (p1 &&& (3 : Int32)))] [(.int (2 : Int32)), (.ref so), (.ref so)])) rfl (hb hby d1_53) rfl (by decide) (cap := 2) (by decide) (by decide) (by decide) (by decide)
        have ne_so_ca : so ≠ ca := Nat.ne_of_lt (Nat.lt_of_lt_of_eq A20.lt g21.symm)
        have g_ca : n0 ≤ ca := Nat.le_trans Z20 (Nat.le_of_eq g21.symm)
        have sz_ca : h0.size ≤ ca := Nat.le_trans KK20.1 (Nat.le_of_eq g21.symm)
        refine own_step st21 ?_
        have Dc21 := (CHr.ext E21 C20.1)
        have C21 := C20.trans Dc21
        have hk21 := Nat.le_trans hk20 Dc21.2.1
        have Z21 := Nat.le_trans Z20 E21.1
        have KK21 := KK20.ext E21
        have V_ca : Arv Z h21 ca k21 .char (2 : Int32) [(.int (0 : Int32)), (.int (0 : Int32))] (.int (0 : Int32)) := V21
        show own_Go _ _ _ _ T21 (mkF m 55 #[.val (.int p1), .val (.int (p1 &&& (3 : Int32)))] [(.ref ca), (.ref so), (.ref so)])
        refine own_step (fun _ k => XS.dup X21.here hx rfl (hb hby d1_55) rfl rfl k) ?_
        show own_Go _ _ _ _ T21 (mkF m 56 #[.val (.int p1), .val (.int (p1 &&& (3 : Int32)))] [(.ref ca), (.ref ca), (.ref so), (.ref so)])
        refine own_step (fun _ k => XS.iconst X21.here hx rfl (hb hby d1_56) k) ?_
        show own_Go _ _ _ _ T21 (mkF m 57 #[.val (.int p1), .val (.int (p1 &&& (3 : Int32)))] [(.int (0 : Int32)), (.ref ca), (.ref ca), (.ref so), (.ref so)])
        refine own_step (fun _ k => XS.iloadN X21.here hx rfl (hb hby d1_57) rfl k) ?_
        show own_Go _ _ _ _ T21 (mkF m 58 #[.val (.int p1), .val (.int (p1 &&& (3 : Int32)))] [(.int p1), (.int (0 : Int32)), (.ref ca), (.ref ca), (.ref so), (.ref so)])
        refine own_step (fun _ k => XS.iconst X21.here hx rfl (hb hby d1_58) k) ?_
        show own_Go _ _ _ _ T21 (mkF m 59 #[.val (.int p1), .val (.int (p1 &&& (3 : Int32)))] [(.int (0 : Int32)), (.int p1), (.int (0 : Int32)), (.ref ca), (.ref ca), (.ref so), (.ref so)])
        refine own_callS X21 hx hZ (y := (⟨"com/example/tickwright/tickwright/AccountEqualsPinLaw", "ch", "(II)C"⟩ : MethodName)) hown (hw _ (List.mem_of_getElem? (i := 29) rfl)) (hw _ (List.mem_of_getElem? (i := 30) rfl)) (hw _ (List.mem_of_getElem? (i := 5) rfl)) (hw _ (List.mem_of_getElem? (i := 31) rfl)) (by decide) (rm5 l Z a0 hw [] p1 (0 : Int32) h21 n0 Z21) e21 5 (by decide) (by decide) (by decide) (by decide) (g := (mkF m 59 #[.val (.int p1), .val (.int (p1 &&& (3 : Int32)))] [(.int (0 : Int32)), (.int p1), (.int (0 : Int32)), (.ref ca), (.ref ca), (.ref so), (.ref so)])) rfl (by rw [hml]; rfl) [(.int p1), (.int (0 : Int32))] [(.int (0 : Int32)), (.ref ca), (.ref ca), (.ref so), (.ref so)] pd_4 rfl rfl rfl (by show 2 * 0 + _ ≤ _; exact Nat.le_of_eq rfl) (hb hby d1_59) ?_
        rintro v22 T22 L22 X22 ⟨rfl, Nq22, e22⟩
        have N22 := Fr.app N0 Nq22
        show own_Go _ _ _ _ T22 (mkF m 62 #[.val (.int p1), .val (.int (p1 &&& (3 : Int32)))] [(.int (own_ch p1 (0 : Int32))), (.int (0 : Int32)), (.ref ca), (.ref ca), (.ref so), (.ref so)])
        obtain ⟨T23, h23, l23, X23, e23, W23, V23, st23⟩ := own_stC X22 hx hZ e22 V_ca (j := (0 : Int32)) ⟨by decide, by decide⟩ 0 rfl (Nat.le_of_ble_eq_true rfl) (g := (mkF m 62 #[.val (.int p1), .val (.int (p1 &&& (3 : Int32)))] [(.int (own_ch p1 (0 : Int32))), (.int (0 : Int32)), (.ref ca), (.ref ca), (.ref so), (.ref so)])) rfl rfl (hb hby d1_62)
        refine own_step st23 ?_
        have N23 := Fr.snoc X23 N22 g_ca
        have Dc23 := (CHr.wr W23 (Safe.arv (EL := own_EL) hZ.alike V_ca (by decide)) C21.1)
        have C23 := C21.trans Dc23
        have hk23 := Nat.le_trans hk21 Dc23.2.1
        have Z23 := Nat.le_trans Z21 (Keep.of_wr W23).1
        have KK23 := KK21.wr W23 (Or.inr sz_ca)
        rw [own_chn] at V23
        have V_ca_23 : Arv Z h23 ca k21 .char (2 : Int32) [(.int (own_ch p1 (0 : Int32))), (.int (0 : Int32))] (.int (0 : Int32)) := V23
        show own_Go _ _ _ _ T23 (mkF m 63 #[.val (.int p1), .val (.int (p1 &&& (3 : Int32)))] [(.ref ca), (.ref so), (.ref so)])
        refine own_step (fun _ k => XS.dup X23.here hx rfl (hb hby d1_63) rfl rfl k) ?_
        show own_Go _ _ _ _ T23 (mkF m 64 #[.val (.int p1), .val (.int (p1 &&& (3 : Int32)))] [(.ref ca), (.ref ca), (.ref so), (.ref so)])
        refine own_step (fun _ k => XS.iconst X23.here hx rfl (hb hby d1_64) k) ?_
        show own_Go _ _ _ _ T23 (mkF m 65 #[.val (.int p1), .val (.int (p1 &&& (3 : Int32)))] [(.int (1 : Int32)), (.ref ca), (.ref ca), (.ref so), (.ref so)])
        refine own_step (fun _ k => XS.iloadN X23.here hx rfl (hb hby d1_65) rfl k) ?_
        show own_Go _ _ _ _ T23 (mkF m 66 #[.val (.int p1), .val (.int (p1 &&& (3 : Int32)))] [(.int p1), (.int (1 : Int32)), (.ref ca), (.ref ca), (.ref so), (.ref so)])
        refine own_step (fun _ k => XS.iconst X23.here hx rfl (hb hby d1_66) k) ?_
        show own_Go _ _ _ _ T23 (mkF m 67 #[.val (.int p1), .val (.int (p1 &&& (3 : Int32)))] [(.int (1 : Int32)), (.int p1), (.int (1 : Int32)), (.ref ca), (.ref ca), (.ref so), (.ref so)])
        refine own_callS X23 hx hZ (y := (⟨"com/example/tickwright/tickwright/AccountEqualsPinLaw", "ch", "(II)C"⟩ : MethodName)) hown (hw _ (List.mem_of_getElem? (i := 29) rfl)) (hw _ (List.mem_of_getElem? (i := 30) rfl)) (hw _ (List.mem_of_getElem? (i := 5) rfl)) (hw _ (List.mem_of_getElem? (i := 31) rfl)) (by decide) (rm5 l Z a0 hw [] p1 (1 : Int32) h23 n0 Z23) e23 5 (by decide) (by decide) (by decide) (by decide) (g := (mkF m 67 #[.val (.int p1), .val (.int (p1 &&& (3 : Int32)))] [(.int (1 : Int32)), (.int p1), (.int (1 : Int32)), (.ref ca), (.ref ca), (.ref so), (.ref so)])) rfl (by rw [hml]; rfl) [(.int p1), (.int (1 : Int32))] [(.int (1 : Int32)), (.ref ca), (.ref ca), (.ref so), (.ref so)] pd_4 rfl rfl rfl (by show 2 * 0 + _ ≤ _; exact Nat.le_of_eq rfl) (hb hby d1_67) ?_
        rintro v24 T24 L24 X24 ⟨rfl, Nq24, e24⟩
        have N24 := Fr.app N23 Nq24
        show own_Go _ _ _ _ T24 (mkF m 70 #[.val (.int p1), .val (.int (p1 &&& (3 : Int32)))] [(.int (own_ch p1 (1 : Int32))), (.int (1 : Int32)), (.ref ca), (.ref ca), (.ref so), (.ref so)])
        obtain ⟨T25, h25, l25, X25, e25, W25, V25, st25⟩ := own_stC X24 hx hZ e24 V_ca_23 (j := (1 : Int32)) ⟨by decide, by decide⟩ 1 rfl (Nat.le_of_ble_eq_true rfl) (g := (mkF m 70 #[.val (.int p1), .val (.int (p1 &&& (3 : Int32)))] [(.int (own_ch p1 (1 : Int32))), (.int (1 : Int32)), (.ref ca), (.ref ca), (.ref so), (.ref so)])) rfl rfl (hb hby d1_70)
        refine own_step st25 ?_
        have N25 := Fr.snoc X25 N24 g_ca
        have Dc25 := (CHr.wr W25 (Safe.arv (EL := own_EL) hZ.alike V_ca_23 (by decide)) C23.1)
        have C25 := C23.trans Dc25
        have hk25 := Nat.le_trans hk23 Dc25.2.1
        have Z25 := Nat.le_trans Z23 (Keep.of_wr W25).1
        have KK25 := KK23.wr W25 (Or.inr sz_ca)
        rw [own_chn] at V25
        have V_ca_25 : Arv Z h25 ca k21 .char (2 : Int32) [(.int (own_ch p1 (0 : Int32))), (.int (own_ch p1 (1 : Int32)))] (.int (0 : Int32)) := V25
        show own_Go _ _ _ _ T25 (mkF m 71 #[.val (.int p1), .val (.int (p1 &&& (3 : Int32)))] [(.ref ca), (.ref so), (.ref so)])
        have Q26 := ((((O0.ext E20).ext E21).wr W23 g_ca).wr W25 g_ca)
        have Q27 := (((A20.ext E21).wr W23).wr W25)
        have Q28 := (((F_coder_so.ext E21).other W23 (Or.inl ne_so_ca)).other W25 (Or.inl ne_so_ca))
        have Q29 := (((F_value_so.ext E21).other W23 (Or.inl ne_so_ca)).other W25 (Or.inl ne_so_ca))
        refine own_callCW X25 hx hZ (y := (⟨"java/lang/String", "<init>", "([C)V"⟩ : MethodName)) rfl hown (hw _ (List.mem_of_getElem? (i := 11) rfl)) (hw _ (List.mem_of_getElem? (i := 12) rfl)) (hw _ (List.mem_of_getElem? (i := 9) rfl)) (hw _ (List.mem_of_getElem? (i := 13) rfl)) (by decide) (rm2 l Z a0 hw [] so ca k21 cz (2 : Int32) ([(own_ch p1 (0 : Int32)), (own_ch p1 (1 : Int32))] : List Int32) h25 n0 Z25 hEL Q26 SC hcz Q27 Q28 Q29 V_ca_25 rfl (Nat.le_of_ble_eq_true rfl) (own_lat _ (by intro c hc; simp only [List.mem_cons, List.not_mem_nil, or_false] at hc; rcases hc with rfl | rfl; exact own_chl _ _; exact own_chl _ _)) g_so) e25 hEL C25.1 hS0 hk25 (b := so) 1 (by decide) (by decide) (by decide) (by decide) (g := (mkF m 71 #[.val (.int p1), .val (.int (p1 &&& (3 : Int32)))] [(.ref ca), (.ref so), (.ref so)])) rfl (by rw [hml]; rfl) [(.ref ca)] [(.ref so)] pd_5 rfl rfl rfl (by show 2 * 0 + _ ≤ _; exact Nat.le_of_eq rfl) (hb hby d1_71) ?_
        rintro v30 T30 L30 X30 ⟨va_so, kv_so, rfl, Nq30, K30, ⟨EX30, FC30, FV30⟩, V30⟩ D30 hS30 hZ hown
        have N30 := Fr.app N25 Nq30
        show own_Go _ _ _ _ T30 (mkF m 74 #[.val (.int p1), .val (.int (p1 &&& (3 : Int32)))] [(.ref so)])
        have Dc30 := D30
        have C30 := C25.trans Dc30
        have Z30 := Nat.le_trans Z25 K30.1
        have KK30 := KK25.trans K30 (allS (P := fun x => x ∈ [] ∨ h0.size ≤ x) (Or.inr sz_so) all0)
        exact own_retA X30 hx hret rfl hlk rfl rfl (hb hby d1_74) (own_W X30 hS30 (Nat.le_refl _) rfl eS hZ hEL C30 (by exact ⟨so, va_so, kv_so, rfl, N30, KK30, sz_so, ⟨EX30, FC30, FV30⟩, by rw [hbc, hc19]; exact V30⟩) (by decide) (by decide)) 
      · refine own_step (fun _ k => XS.icmpYes X0.here hx rfl (pc0 := 45) (pc' := 75) rfl (hb hby d1_45) rfl (feq hc19).2 (by decide) (by decide) k) ?_
        show own_Go _ _ _ _ T0 (mkF m 75 #[.val (.int p1), .val (.int (p1 &&& (3 : Int32)))] [])
        have hbc : own_by p1 = ([(own_ch p1 (0 : Int32)), (own_ch p1 (1 : Int32)), (own_ch p1 (2 : Int32))] : List Int32).map (fun c : Int32 => c.toInt8.toInt32) := congrArg (List.map (fun c : Int32 => c.toInt8.toInt32)) ((if_neg hc1).trans ((if_neg hc9).trans (if_neg hc19)))
        have hz3 : (p1 &&& (3 : Int32)) = (3 : Int32) := by rcases own_four p1 with q | q | q | q; exact absurd q hc1; exact absurd q hc9; exact absurd q hc19; exact q
        obtain ⟨T31, h31, X31, e31, E31, A31, D31, -, st31⟩ := newO X0 hx hZ hown (hw _ (List.mem_of_getElem? (i := 7) rfl)) (hw _ (List.mem_of_getElem? (i := 8) rfl)) (hw _ (List.mem_of_getElem? (i := 9) rfl)) e0 (g := (mkF m 75 #[.val (.int p1), .val (.int (p1 &&& (3 : Int32)))] [])) rfl (hb hby d1_75) (by decide) (by decide)
        obtain ⟨so, g31⟩ : ∃ z, z = h0.size := ⟨_, rfl⟩
        rw [← g31] at A31 D31 st31
        have g_so : n0 ≤ so := Nat.le_trans Z0 (Nat.le_of_eq g31.symm)
        have sz_so : h0.size ≤ so := Nat.le_trans (Keep.refl h0 []).1 (Nat.le_of_eq g31.symm)
        refine own_step st31 ?_
        have Dc31 := (CHr.ext E31 C0.1)
        have C31 := C0.trans Dc31
        have hk31 := Nat.le_trans (Nat.le_refl _) Dc31.2.1
        have Z31 := Nat.le_trans Z0 E31.1
        have KK31 := (Keep.refl h0 []).ext E31
        have F_value_so : Fld Z h31 so "java/lang/String" "value" "[B" .null := D31 (Or.inr (hw _ (List.mem_of_getElem? (i := 23) rfl))) (ty := (.array .byte)) (by decide)
        have F_coder_so : Fld Z h31 so "java/lang/String" "coder" "B" (.int (0 : Int32)) := D31 (Or.inr (hw _ (List.mem_of_getElem? (i := 24) rfl))) (ty := .byte) (by decide)
        show own_Go _ _ _ _ T31 (mkF m 78 #[.val (.int p1), .val (.int (p1 &&& (3 : Int32)))] [(.ref so)])
        refine own_step (fun _ k => XS.dup X31.here hx rfl (hb hby d1_78) rfl rfl k) ?_
        show own_Go _ _ _ _ T31 (mkF m 79 #[.val (.int p1), .val (.int (p1 &&& (3 : Int32)))] [(.ref so), (.ref so)])
        refine own_step (fun _ k => XS.iconst X31.here hx rfl (hb hby d1_79) k) ?_
        show own_Go _ _ _ _ T31 (mkF m 80 #[.val (.int p1), .val (.int (p1 &&& (3 : Int32)))] [(.int (3 : Int32)), (.ref so), (.ref so)])
        obtain ⟨T32, h32, k32, ca, g32, X32, e32, E32, V32, st32⟩ := own_newA X31 hx hZ (hw _ (List.mem_of_getElem? (i := 10) rfl)) e31 (g := (mkF m 80 #[.val (.int p1), .val (.int (p1 &&& (3 : Int32)))] [(.int (3 : Int32)), (.ref so), (.ref so)])) rfl (hb hby d1_80) rfl (by decide) (cap := 3) (by decide) (by decide) (by decide) (by decide)
        have ne_so_ca : so ≠ ca := Nat.ne_of_lt (Nat.lt_of_lt_of_eq A31.lt g32.symm)
        have g_ca : n0 ≤ ca := Nat.le_trans Z31 (Nat.le_of_eq g32.symm)
        have sz_ca : h0.size ≤ ca := Nat.le_trans KK31.1 (Nat.le_of_eq g32.symm)
        refine own_step st32 ?_
        have Dc32 := (CHr.ext E32 C31.1)
        have C32 := C31.trans Dc32
        have hk32 := Nat.le_trans hk31 Dc32.2.1
        have Z32 := Nat.le_trans Z31 E32.1
        have KK32 := KK31.ext E32
        have V_ca : Arv Z h32 ca k32 .char (3 : Int32) [(.int (0 : Int32)), (.int (0 : Int32)), (.int (0 : Int32))] (.int (0 : Int32)) := V32
        show own_Go _ _ _ _ T32 (mkF m 82 #[.val (.int p1), .val (.int (p1 &&& (3 : Int32)))] [(.ref ca), (.ref so), (.ref so)])
        refine own_step (fun _ k => XS.dup X32.here hx rfl (hb hby d1_82) rfl rfl k) ?_
        show own_Go _ _ _ _ T32 (mkF m 83 #[.val (.int p1), .val (.int (p1 &&& (3 : Int32)))] [(.ref ca), (.ref ca), (.ref so), (.ref so)])
        refine own_step (fun _ k => XS.iconst X32.here hx rfl (hb hby d1_83) k) ?_
        show own_Go _ _ _ _ T32 (mkF m 84 #[.val (.int p1), .val (.int (p1 &&& (3 : Int32)))] [(.int (0 : Int32)), (.ref ca), (.ref ca), (.ref so), (.ref so)])
        refine own_step (fun _ k => XS.iloadN X32.here hx rfl (hb hby d1_84) rfl k) ?_
        show own_Go _ _ _ _ T32 (mkF m 85 #[.val (.int p1), .val (.int (p1 &&& (3 : Int32)))] [(.int p1), (.int (0 : Int32)), (.ref ca), (.ref ca), (.ref so), (.ref so)])
        refine own_step (fun _ k => XS.iconst X32.here hx rfl (hb hby d1_85) k) ?_
        show own_Go _ _ _ _ T32 (mkF m 86 #[.val (.int p1), .val (.int (p1 &&& (3 : Int32)))] [(.int (0 : Int32)), (.int p1), (.int (0 : Int32)), (.ref ca), (.ref ca), (.ref so), (.ref so)])
        refine own_callS X32 hx hZ (y := (⟨"com/example/tickwright/tickwright/AccountEqualsPinLaw", "ch", "(II)C"⟩ : MethodName)) hown (hw _ (List.mem_of_getElem? (i := 29) rfl)) (hw _ (List.mem_of_getElem? (i := 30) rfl)) (hw _ (List.mem_of_getElem? (i := 5) rfl)) (hw _ (List.mem_of_getElem? (i := 31) rfl)) (by decide) (rm5 l Z a0 hw [] p1 (0 : Int32) h32 n0 Z32) e32 5 (by decide) (by decide) (by decide) (by decide) (g := (mkF m 86 #[.val (.int p1), .val (.int (p1 &&& (3 : Int32)))] [(.int (0 : Int32)), (.int p1), (.int (0 : Int32)), (.ref ca), (.ref ca), (.ref so), (.ref so)])) rfl (by rw [hml]; rfl) [(.int p1), (.int (0 : Int32))] [(.int (0 : Int32)), (.ref ca), (.ref ca), (.ref so), (.ref so)] pd_4 rfl rfl rfl (by show 2 * 0 + _ ≤ _; exact Nat.le_of_eq rfl) (hb hby d1_86) ?_
        rintro v33 T33 L33 X33 ⟨rfl, Nq33, e33⟩
        have N33 := Fr.app N0 Nq33
        show own_Go _ _ _ _ T33 (mkF m 89 #[.val (.int p1), .val (.int (p1 &&& (3 : Int32)))] [(.int (own_ch p1 (0 : Int32))), (.int (0 : Int32)), (.ref ca), (.ref ca), (.ref so), (.ref so)])
        obtain ⟨T34, h34, l34, X34, e34, W34, V34, st34⟩ := own_stC X33 hx hZ e33 V_ca (j := (0 : Int32)) ⟨by decide, by decide⟩ 0 rfl (Nat.le_of_ble_eq_true rfl) (g := (mkF m 89 #[.val (.int p1), .val (.int (p1 &&& (3 : Int32)))] [(.int (own_ch p1 (0 : Int32))), (.int (0 : Int32)), (.ref ca), (.ref ca), (.ref so), (.ref so)])) rfl rfl (hb hby d1_89)
        refine own_step st34 ?_
        have N34 := Fr.snoc X34 N33 g_ca
        have Dc34 := (CHr.wr W34 (Safe.arv (EL := own_EL) hZ.alike V_ca (by decide)) C32.1)
        have C34 := C32.trans Dc34
        have hk34 := Nat.le_trans hk32 Dc34.2.1
        have Z34 := Nat.le_trans Z32 (Keep.of_wr W34).1
        have KK34 := KK32.wr W34 (Or.inr sz_ca)
        rw [own_chn] at V34
        have V_ca_34 : Arv Z h34 ca k32 .char (3 : Int32) [(.int (own_ch p1 (0 : Int32))), (.int (0 : Int32)), (.int (0 : Int32))] (.int (0 : Int32)) := V34
        show own_Go _ _ _ _ T34 (mkF m 90 #[.val (.int p1), .val (.int (p1 &&& (3 : Int32)))] [(.ref ca), (.ref so), (.ref so)])
        refine own_step (fun _ k => XS.dup X34.here hx rfl (hb hby d1_90) rfl rfl k) ?_
        show own_Go _ _ _ _ T34 (mkF m 91 #[.val (.int p1), .val (.int (p1 &&& (3 : Int32)))] [(.ref ca), (.ref ca), (.ref so), (.ref so)])
        refine own_step (fun _ k => XS.iconst X34.here hx rfl (hb hby d1_91) k) ?_
        show own_Go _ _ _ _ T34 (mkF m 92 #[.val (.int p1), .val (.int (p1 &&& (3 : Int32)))] [(.int (1 : Int32)), (.ref ca), (.ref ca), (.ref so), (.ref so)])
        refine own_step (fun _ k => XS.iloadN X34.here hx rfl (hb hby d1_92) rfl k) ?_
        show own_Go _ _ _ _ T34 (mkF m 93 #[.val (.int p1), .val (.int (p1 &&& (3 : Int32)))] [(.int p1), (.int (1 : Int32)), (.ref ca), (.ref ca), (.ref so), (.ref so)])
        refine own_step (fun _ k => XS.iconst X34.here hx rfl (hb hby d1_93) k) ?_
        show own_Go _ _ _ _ T34 (mkF m 94 #[.val (.int p1), .val (.int (p1 &&& (3 : Int32)))] [(.int (1 : Int32)), (.int p1), (.int (1 : Int32)), (.ref ca), (.ref ca), (.ref so), (.ref so)])
        refine own_callS X34 hx hZ (y := (⟨"com/example/tickwright/tickwright/AccountEqualsPinLaw", "ch", "(II)C"⟩ : MethodName)) hown (hw _ (List.mem_of_getElem? (i := 29) rfl)) (hw _ (List.mem_of_getElem? (i := 30) rfl)) (hw _ (List.mem_of_getElem? (i := 5) rfl)) (hw _ (List.mem_of_getElem? (i := 31) rfl)) (by decide) (rm5 l Z a0 hw [] p1 (1 : Int32) h34 n0 Z34) e34 5 (by decide) (by decide) (by decide) (by decide) (g := (mkF m 94 #[.val (.int p1), .val (.int (p1 &&& (3 : Int32)))] [(.int (1 : Int32)), (.int p1), (.int (1 : Int32)), (.ref ca), (.ref ca), (.ref so), (.ref so)])) rfl (by rw [hml]; rfl) [(.int p1), (.int (1 : Int32))] [(.int (1 : Int32)), (.ref ca), (.ref ca), (.ref so), (.ref so)] pd_4 rfl rfl rfl (by show 2 * 0 + _ ≤ _; exact Nat.le_of_eq rfl) (hb hby d1_94) ?_
        rintro v35 T35 L35 X35 ⟨rfl, Nq35, e35⟩
        have N35 := Fr.app N34 Nq35
        show own_Go _ _ _ _ T35 (mkF m 97 #[.val (.int p1), .val (.int (p1 &&& (3 : Int32)))] [(.int (own_ch p1 (1 : Int32))), (.int (1 : Int32)), (.ref ca), (.ref ca), (.ref so), (.ref so)])
        obtain ⟨T36, h36, l36, X36, e36, W36, V36, st36⟩ := own_stC X35 hx hZ e35 V_ca_34 (j := (1 : Int32)) ⟨by decide, by decide⟩ 1 rfl (Nat.le_of_ble_eq_true rfl) (g := (mkF m 97 #[.val (.int p1), .val (.int (p1 &&& (3 : Int32)))] [(.int (own_ch p1 (1 : Int32))), (.int (1 : Int32)), (.ref ca), (.ref ca), (.ref so), (.ref so)])) rfl rfl (hb hby d1_97)
        refine own_step st36 ?_
        have N36 := Fr.snoc X36 N35 g_ca
        have Dc36 := (CHr.wr W36 (Safe.arv (EL := own_EL) hZ.alike V_ca_34 (by decide)) C34.1)
        have C36 := C34.trans Dc36
        have hk36 := Nat.le_trans hk34 Dc36.2.1
        have Z36 := Nat.le_trans Z34 (Keep.of_wr W36).1
        have KK36 := KK34.wr W36 (Or.inr sz_ca)
        rw [own_chn] at V36
        have V_ca_36 : Arv Z h36 ca k32 .char (3 : Int32) [(.int (own_ch p1 (0 : Int32))), (.int (own_ch p1 (1 : Int32))), (.int (0 : Int32))] (.int (0 : Int32)) := V36
        show own_Go _ _ _ _ T36 (mkF m 98 #[.val (.int p1), .val (.int (p1 &&& (3 : Int32)))] [(.ref ca), (.ref so), (.ref so)])
        refine own_step (fun _ k => XS.dup X36.here hx rfl (hb hby d1_98) rfl rfl k) ?_
        show own_Go _ _ _ _ T36 (mkF m 99 #[.val (.int p1), .val (.int (p1 &&& (3 : Int32)))] [(.ref ca), (.ref ca), (.ref so), (.ref so)])
        refine own_step (fun _ k => XS.iconst X36.here hx rfl (hb hby d1_99) k) ?_
        show own_Go _ _ _ _ T36 (mkF m 100 #[.val (.int p1), .val (.int (p1 &&& (3 : Int32)))] [(.int (2 : Int32)), (.ref ca), (.ref ca), (.ref so), (.ref so)])
        refine own_step (fun _ k => XS.iloadN X36.here hx rfl (hb hby d1_100) rfl k) ?_
        show own_Go _ _ _ _ T36 (mkF m 101 #[.val (.int p1), .val (.int (p1 &&& (3 : Int32)))] [(.int p1), (.int (2 : Int32)), (.ref ca), (.ref ca), (.ref so), (.ref so)])
        refine own_step (fun _ k => XS.iconst X36.here hx rfl (hb hby d1_101) k) ?_
        show own_Go _ _ _ _ T36 (mkF m 102 #[.val (.int p1), .val (.int (p1 &&& (3 : Int32)))] [(.int (2 : Int32)), (.int p1), (.int (2 : Int32)), (.ref ca), (.ref ca), (.ref so), (.ref so)])
        refine own_callS X36 hx hZ (y := (⟨"com/example/tickwright/tickwright/AccountEqualsPinLaw", "ch", "(II)C"⟩ : MethodName)) hown (hw _ (List.mem_of_getElem? (i := 29) rfl)) (hw _ (List.mem_of_getElem? (i := 30) rfl)) (hw _ (List.mem_of_getElem? (i := 5) rfl)) (hw _ (List.mem_of_getElem? (i := 31) rfl)) (by decide) (rm5 l Z a0 hw [] p1 (2 : Int32) h36 n0 Z36) e36 5 (by decide) (by decide) (by decide) (by decide) (g := (mkF m 102 #[.val (.int p1), .val (.int (p1 &&& (3 : Int32)))] [(.int (2 : Int32)), (.int p1), (.int (2 : Int32)), (.ref ca), (.ref ca), (.ref so), (.ref so)])) rfl (by rw [hml]; rfl) [(.int p1), (.int (2 : Int32))] [(.int (2 : Int32)), (.ref ca), (.ref ca), (.ref so), (.ref so)] pd_4 rfl rfl rfl (by show 2 * 0 + _ ≤ _; exact Nat.le_of_eq rfl) (hb hby d1_102) ?_
        rintro v37 T37 L37 X37 ⟨rfl, Nq37, e37⟩
        have N37 := Fr.app N36 Nq37
        show own_Go _ _ _ _ T37 (mkF m 105 #[.val (.int p1), .val (.int (p1 &&& (3 : Int32)))] [(.int (own_ch p1 (2 : Int32))), (.int (2 : Int32)), (.ref ca), (.ref ca), (.ref so), (.ref so)])
        obtain ⟨T38, h38, l38, X38, e38, W38, V38, st38⟩ := own_stC X37 hx hZ e37 V_ca_36 (j := (2 : Int32)) ⟨by decide, by decide⟩ 2 rfl (Nat.le_of_ble_eq_true rfl) (g := (mkF m 105 #[.val (.int p1), .val (.int (p1 &&& (3 : Int32)))] [(.int (own_ch p1 (2 : Int32))), (.int (2 : Int32)), (.ref ca), (.ref ca), (.ref so), (.ref so)])) rfl rfl (hb hby d1_105)
        refine own_step st38 ?_
        have N38 := Fr.snoc X38 N37 g_ca
        have Dc38 := (CHr.wr W38 (Safe.arv (EL := own_EL) hZ.alike V_ca_36 (by decide)) C36.1)
        have C38 := C36.trans Dc38
        have hk38 := Nat.le_trans hk36 Dc38.2.1
        have Z38 := Nat.le_trans Z36 (Keep.of_wr W38).1
        have KK38 := KK36.wr W38 (Or.inr sz_ca)
        rw [own_chn] at V38
        have V_ca_38 : Arv Z h38 ca k32 .char (3 : Int32) [(.int (own_ch p1 (0 : Int32))), (.int (own_ch p1 (1 : Int32))), (.int (own_ch p1 (2 : Int32)))] (.int (0 : Int32)) := V38
        show own_Go _ _ _ _ T38 (mkF m 106 #[.val (.int p1), .val (.int (p1 &&& (3 : Int32)))] [(.ref ca), (.ref so), (.ref so)])
        have Q39 := (((((O0.ext E31).ext E32).wr W34 g_ca).wr W36 g_ca).wr W38 g_ca)
        have Q40 := ((((A31.ext E32).wr W34).wr W36).wr W38)
        have Q41 := ((((F_coder_so.ext E32).other W34 (Or.inl ne_so_ca)).other W36 (Or.inl ne_so_ca)).other W38 (Or.inl ne_so_ca))
        have Q42 := ((((F_value_so.ext E32).other W34 (Or.inl ne_so_ca)).other W36 (Or.inl ne_so_ca)).other W38 (Or.inl ne_so_ca))
        refine own_callCW X38 hx hZ (y := (⟨"java/lang/String", "<init>", "([C)V"⟩ : MethodName)) rfl hown (hw _ (List.mem_of_getElem? (i := 11) rfl)) (hw _ (List.mem_of_getElem? (i := 12) rfl)) (hw _ (List.mem_of_getElem? (i := 9) rfl)) (hw _ (List.mem_of_getElem? (i := 13) rfl)) (by decide) (rm2 l Z a0 hw [] so ca k32 cz (3 : Int32) ([(own_ch p1 (0 : Int32)), (own_ch p1 (1 : Int32)), (own_ch p1 (2 : Int32))] : List Int32) h38 n0 Z38 hEL Q39 SC hcz Q40 Q41 Q42 V_ca_38 rfl (Nat.le_of_ble_eq_true rfl) (own_lat _ (by intro c hc; simp only [List.mem_cons, List.not_mem_nil, or_false] at hc; rcases hc with rfl | rfl | rfl; exact own_chl _ _; exact own_chl _ _; exact own_chl _ _)) g_so) e38 hEL C38.1 hS0 hk38 (b := so) 1 (by decide) (by decide) (by decide) (by decide) (g := (mkF m 106 #[.val (.int p1), .val (.int (p1 &&& (3 : Int32)))] [(.ref ca), (.ref so), (.ref so)])) rfl (by rw [hml]; rfl) [(.ref ca)] [(.ref so)] pd_5 rfl rfl rfl (by show 2 * 0 + _ ≤ _; exact Nat.le_of_eq rfl) (hb hby d1_106) ?_
        rintro v43 T43 L43 X43 ⟨va_so, kv_so, rfl, Nq43, K43, ⟨EX43, FC43, FV43⟩, V43⟩ D43 hS43 hZ hown
        have N43 := Fr.app N38 Nq43
        show own_Go _ _ _ _ T43 (mkF m 109 #[.val (.int p1), .val (.int (p1 &&& (3 : Int32)))] [(.ref so)])
        have Dc43 := D43
        have C43 := C38.trans Dc43
        have Z43 := Nat.le_trans Z38 K43.1
        have KK43 := KK38.trans K43 (allS (P := fun x => x ∈ [] ∨ h0.size ≤ x) (Or.inr sz_so) all0)
        exact own_retA X43 hx hret rfl hlk rfl rfl (hb hby d1_109) (own_W X43 hS43 (Nat.le_refl _) rfl eS hZ hEL C43 (by exact ⟨so, va_so, kv_so, rfl, N43, KK43, sz_so, ⟨EX43, FC43, FV43⟩, by rw [hbc, hz3]; exact V43⟩) (by decide) (by decide)) 
theorem d9_0 : decode prog_1_method_1_code 0 = .ok (.aload_n 0, 1) := by decide +kernel
theorem d9_1 : decode prog_1_method_1_code 1 = .ok (.invokespecial 1, 3) := by decide +kernel
theorem d9_4 : decode prog_1_method_1_code 4 = .ok (.aload_n 0, 1) := by decide +kernel
theorem d9_5 : decode prog_1_method_1_code 5 = .ok (.aload_n 1, 1) := by decide +kernel
theorem d9_6 : decode prog_1_method_1_code 6 = .ok (.putfield 7, 3) := by decide +kernel
theorem d9_9 : decode prog_1_method_1_code 9 = .ok (.aload_n 0, 1) := by decide +kernel
theorem d9_10 : decode prog_1_method_1_code 10 = .ok (.aload_n 2, 1) := by decide +kernel
theorem d9_11 : decode prog_1_method_1_code 11 = .ok (.putfield 13, 3) := by decide +kernel
theorem d9_14 : decode prog_1_method_1_code 14 = .ok (.return_, 1) := by decide +kernel
theorem ef_9 (a1 : Addr) (a2 : Addr) (a3 : Addr) (m : MethodId) : entryFrame m #[(.ref a1), (.ref a2), (.ref a3)] 3 = mkF m 0 #[.val (.ref a1), .val (.ref a2), .val (.ref a3)] [] := by first | (simp [entryFrame, mkF, argsToLocals, Value.category]; done) | rfl
theorem pn_3 : plainName "com/example/tickwright/tickwright/Account" = true := by first | (simp [plainName, overriddenIn]; done) | decide +kernel
set_option maxRecDepth 65536 in
set_option maxHeartbeats 40000000 in
theorem rm9 (l : Launch) (Z : State) (a0 : Array Value) (hw : ∀ d ∈ tables_1, d.before a0 Z = true) (ws : List Jvm.Cond) (a1 : Addr) (a2 : Addr) (a3 : Addr) (h0 : Heap) (n0 : Nat) (Z0 : n0 ≤ h0.size) (E_a1 : Exa Z h0 a1 "com/example/tickwright/tickwright/Account") (FB0 : Fld Z h0 a1 "com/example/tickwright/tickwright/Account" "mBroker" "Ljava/lang/String;" .null) (FI0 : Fld Z h0 a1 "com/example/tickwright/tickwright/Account" "mId" "Ljava/lang/String;" .null) (g_a1 : n0 ≤ a1) :
    own_Met l (⟨"com/example/tickwright/tickwright/Account", "<init>", "(Ljava/lang/String;Ljava/lang/String;)V"⟩ : MethodName) prog_1_method_1_code 3 none ws ({ frames := 1, cells := 0, slots := 0, locals := 12 } : Room) #[(.ref a1), (.ref a2), (.ref a3)] Z h0 (fun v h L => v = none ∧ Fr n0 L ∧ Keep h0 h [a1] ∧ Fld Z h a1 "com/example/tickwright/tickwright/Account" "mBroker" "Ljava/lang/String;" (.ref a2) ∧ Fld Z h a1 "com/example/tickwright/tickwright/Account" "mId" "Ljava/lang/String;" (.ref a3)) := by
  refine own_body (plainFor_of_name pn_3) (ef_9 a1 a2 a3) ?_
  intro p e s m below meth c T0 X0 hx hby hml0 hret hlk hnm hown hZ e0
  have hml : c.maxLocals = 3 := hml0
  have N0 := Fr.nil n0
  refine own_step (fun _ k => XS.aloadN X0.here hx rfl (hb hby d9_0) rfl rfl k) ?_
  show own_Go _ _ _ _ T0 (mkF m 1 #[.val (.ref a1), .val (.ref a2), .val (.ref a3)] [(.ref a1)])
  obtain ⟨T1, X1, e1, st1⟩ := initO X0 hx hZ hown (hw _ (List.mem_of_getElem? (i := 46) rfl)) (hw _ (List.mem_of_getElem? (i := 19) rfl)) (hw _ (List.mem_of_getElem? (i := 20) rfl)) e0 (g := (mkF m 1 #[.val (.ref a1), .val (.ref a2), .val (.ref a3)] [(.ref a1)])) rfl (by rw [hml]; rfl) rfl (hb hby d9_1) (by decide) (W := 0) (by show 2 * 0 + _ ≤ _; exact Nat.le_of_eq rfl) (by decide)
  refine own_step st1 ?_
  show own_Go _ _ _ _ T1 (mkF m 4 #[.val (.ref a1), .val (.ref a2), .val (.ref a3)] [])
  refine own_step (fun _ k => XS.aloadN X1.here hx rfl (hb hby d9_4) rfl rfl k) ?_
  show own_Go _ _ _ _ T1 (mkF m 5 #[.val (.ref a1), .val (.ref a2), .val (.ref a3)] [(.ref a1)])
  refine own_step (fun _ k => XS.aloadN X1.here hx rfl (hb hby d9_5) rfl rfl k) ?_
  show own_Go _ _ _ _ T1 (mkF m 6 #[.val (.ref a1), .val (.ref a2), .val (.ref a3)] [(.ref a2), (.ref a1)])
  obtain ⟨T2, h2, X2, e2, W2, st2⟩ := putF X1 hx hZ hown (host := "") (Or.inl (hw _ (List.mem_of_getElem? (i := 47) rfl))) Via.refl e1 FB0 E_a1 (Or.inr ⟨(hw _ (List.mem_of_getElem? (i := 48) rfl)), rfl, hnm⟩) (hw _ (List.mem_of_getElem? (i := 1) rfl)) (ty := (.object "java/lang/String")) (by decide) rfl rfl (g := (mkF m 6 #[.val (.ref a1), .val (.ref a2), .val (.ref a3)] [(.ref a2), (.ref a1)])) rfl rfl (hb hby d9_6)
  refine own_step st2 ?_
  have N2 := Fr.snoc X2 N0 g_a1
  have F2 := FB0.same W2
  have Z2 := Nat.le_trans Z0 (Keep.of_wr W2).1
  have KK2 := (Keep.refl h0 [a1]).wr W2 (Or.inl (List.mem_of_getElem? (i := 0) rfl))
  show own_Go _ _ _ _ T2 (mkF m 9 #[.val (.ref a1), .val (.ref a2), .val (.ref a3)] [])
  refine own_step (fun _ k => XS.aloadN X2.here hx rfl (hb hby d9_9) rfl rfl k) ?_
  show own_Go _ _ _ _ T2 (mkF m 10 #[.val (.ref a1), .val (.ref a2), .val (.ref a3)] [(.ref a1)])
  refine own_step (fun _ k => XS.aloadN X2.here hx rfl (hb hby d9_10) rfl rfl k) ?_
  show own_Go _ _ _ _ T2 (mkF m 11 #[.val (.ref a1), .val (.ref a2), .val (.ref a3)] [(.ref a3), (.ref a1)])
  have Q3 := (FI0.other W2 (Or.inr (slot_ne (Or.inr (hw _ (List.mem_of_getElem? (i := 50) rfl))) (Or.inr (hw _ (List.mem_of_getElem? (i := 48) rfl))) (by decide) (t := (.object "java/lang/String")) (t' := (.object "java/lang/String")) (by decide) (by decide))))
  have Q4 := (E_a1.wr W2)
  obtain ⟨T5, h5, X5, e5, W5, st5⟩ := putF X2 hx hZ hown (host := "") (Or.inl (hw _ (List.mem_of_getElem? (i := 49) rfl))) Via.refl e2 Q3 Q4 (Or.inr ⟨(hw _ (List.mem_of_getElem? (i := 50) rfl)), rfl, hnm⟩) (hw _ (List.mem_of_getElem? (i := 1) rfl)) (ty := (.object "java/lang/String")) (by decide) rfl rfl (g := (mkF m 11 #[.val (.ref a1), .val (.ref a2), .val (.ref a3)] [(.ref a3), (.ref a1)])) rfl rfl (hb hby d9_11)
  refine own_step st5 ?_
  have N5 := Fr.snoc X5 N2 g_a1
  have F5 := Q3.same W5
  have Z5 := Nat.le_trans Z2 (Keep.of_wr W5).1
  have KK5 := KK2.wr W5 (Or.inl (List.mem_of_getElem? (i := 0) rfl))
  show own_Go _ _ _ _ T5 (mkF m 14 #[.val (.ref a1), .val (.ref a2), .val (.ref a3)] [])
  have Q6 := (F2.other W5 (Or.inr (slot_ne (Or.inr (hw _ (List.mem_of_getElem? (i := 48) rfl))) (Or.inr (hw _ (List.mem_of_getElem? (i := 50) rfl))) (by decide) (t := (.object "java/lang/String")) (t' := (.object "java/lang/String")) (by decide) (by decide))))
  exact own_retV X5 hx hret hlk (hb hby d9_14) (own_N (by rw [e5]; exact ⟨rfl, N5, KK5, Q6, F5⟩) (by decide) (by decide)) 
theorem d13_0 : decode jdk_43_method_13_code 0 = .ok (.aload_n 0, 1) := by decide +kernel
theorem d13_1 : decode jdk_43_method_13_code 1 = .ok (.arraylength, 1) := by decide +kernel
theorem d13_2 : decode jdk_43_method_13_code 2 = .ok (.aload_n 1, 1) := by decide +kernel
theorem d13_3 : decode jdk_43_method_13_code 3 = .ok (.arraylength, 1) := by decide +kernel
theorem d13_4 : decode jdk_43_method_13_code 4 = .ok (.if_icmp .ne 30, 3) := by decide +kernel
theorem d13_7 : decode jdk_43_method_13_code 7 = .ok (.iconst 0, 1) := by decide +kernel
theorem d13_8 : decode jdk_43_method_13_code 8 = .ok (.istore_n 2, 1) := by decide +kernel
theorem d13_9 : decode jdk_43_method_13_code 9 = .ok (.iload_n 2, 1) := by decide +kernel
theorem d13_10 : decode jdk_43_method_13_code 10 = .ok (.aload_n 0, 1) := by decide +kernel
theorem d13_11 : decode jdk_43_method_13_code 11 = .ok (.arraylength, 1) := by decide +kernel
theorem d13_12 : decode jdk_43_method_13_code 12 = .ok (.if_icmp .ge 20, 3) := by decide +kernel
theorem d13_15 : decode jdk_43_method_13_code 15 = .ok (.aload_n 0, 1) := by decide +kernel
theorem d13_16 : decode jdk_43_method_13_code 16 = .ok (.iload_n 2, 1) := by decide +kernel
theorem d13_17 : decode jdk_43_method_13_code 17 = .ok (.baload, 1) := by decide +kernel
theorem d13_18 : decode jdk_43_method_13_code 18 = .ok (.aload_n 1, 1) := by decide +kernel
theorem d13_19 : decode jdk_43_method_13_code 19 = .ok (.iload_n 2, 1) := by decide +kernel
theorem d13_20 : decode jdk_43_method_13_code 20 = .ok (.baload, 1) := by decide +kernel
theorem d13_21 : decode jdk_43_method_13_code 21 = .ok (.if_icmp .eq 5, 3) := by decide +kernel
theorem d13_24 : decode jdk_43_method_13_code 24 = .ok (.iconst 0, 1) := by decide +kernel
theorem d13_25 : decode jdk_43_method_13_code 25 = .ok (.ireturn, 1) := by decide +kernel
theorem d13_26 : decode jdk_43_method_13_code 26 = .ok (.iinc 2 1, 3) := by decide +kernel
theorem d13_29 : decode jdk_43_method_13_code 29 = .ok (.goto (-20), 3) := by decide +kernel
theorem d13_32 : decode jdk_43_method_13_code 32 = .ok (.iconst 1, 1) := by decide +kernel
theorem d13_33 : decode jdk_43_method_13_code 33 = .ok (.ireturn, 1) := by decide +kernel
theorem d13_34 : decode jdk_43_method_13_code 34 = .ok (.iconst 0, 1) := by decide +kernel
theorem d13_35 : decode jdk_43_method_13_code 35 = .ok (.ireturn, 1) := by decide +kernel
theorem ef_13 (a1 : Addr) (a2 : Addr) (m : MethodId) : entryFrame m #[(.ref a1), (.ref a2)] 3 = mkF m 0 #[.val (.ref a1), .val (.ref a2), .unset] [] := by first | (simp [entryFrame, mkF, argsToLocals, Value.category]; done) | rfl
theorem pn_4 : plainName "java/lang/StringLatin1" = true := by first | (simp [plainName, overriddenIn]; done) | decide +kernel
set_option maxRecDepth 65536 in
set_option maxHeartbeats 40000000 in
theorem rm13 (l : Launch) (Z : State) (a0 : Array Value) (hw : ∀ d ∈ tables_1, d.before a0 Z = true) (ws : List Jvm.Cond) (a1 : Addr) (a2 : Addr) (k1 k2 : ClassId) (z1 z2 : Int32) (xs ys : List Int32) (h0 : Heap) (n0 : Nat) (Z0 : n0 ≤ h0.size) (VA : Arv Z h0 a1 k1 .byte z1 (xs.map Value.int) (.int (0 : Int32))) (VB : Arv Z h0 a2 k2 .byte z2 (ys.map Value.int) (.int (0 : Int32))) (hl1 : z1.toInt = (xs.length : Nat)) (hl2 : z2.toInt = (ys.length : Nat)) (hcap : xs.length ≤ 3) :
    own_Met l (⟨"java/lang/StringLatin1", "equals", "([B[B)Z"⟩ : MethodName) jdk_43_method_13_code 3 (some .boolean) ws ({ frames := 0, cells := 0, slots := 0, locals := 0 } : Room) #[(.ref a1), (.ref a2)] Z h0 (fun v h L => v = some (.int (own_eqb xs ys)) ∧ Fr n0 L ∧ h = h0) := by
  refine own_body (plainFor_of_name pn_4) (ef_13 a1 a2) ?_
  intro p e s m below meth c T0 X0 hx hby hml0 hret hlk hnm hown hZ e0
  have hml : c.maxLocals = 3 := hml0
  have N0 := Fr.nil n0
  have e_1 : (1 : Int32).toInt = (1 : Nat) := by decide
  refine own_step (fun _ k => XS.aloadN X0.here hx rfl (hb hby d13_0) rfl rfl k) ?_
  show own_Go _ _ _ _ T0 (mkF m 1 #[.val (.ref a1), .val (.ref a2), .unset] [(.ref a1)])
  refine own_step (own_len X0 hx hZ e0 VA (g := (mkF m 1 #[.val (.ref a1), .val (.ref a2), .unset] [(.ref a1)])) rfl rfl (hb hby d13_1)) ?_
  show own_Go _ _ _ _ T0 (mkF m 2 #[.val (.ref a1), .val (.ref a2), .unset] [(.int z1)])
  refine own_step (fun _ k => XS.aloadN X0.here hx rfl (hb hby d13_2) rfl rfl k) ?_
  show own_Go _ _ _ _ T0 (mkF m 3 #[.val (.ref a1), .val (.ref a2), .unset] [(.ref a2), (.int z1)])
  refine own_step (own_len X0 hx hZ e0 VB (g := (mkF m 3 #[.val (.ref a1), .val (.ref a2), .unset] [(.ref a2), (.int z1)])) rfl rfl (hb hby d13_3)) ?_
  show own_Go _ _ _ _ T0 (mkF m 4 #[.val (.ref a1), .val (.ref a2), .unset] [(.int z2), (.int z1)])
  by_cases hz : z1 = z2
  · refine own_step (fun _ k => XS.icmpNo X0.here hx rfl (hb hby d13_4) rfl (teq hz).2 k) ?_
    show own_Go _ _ _ _ T0 (mkF m 7 #[.val (.ref a1), .val (.ref a2), .unset] [])
    refine own_step (fun _ k => XS.iconst X0.here hx rfl (hb hby d13_7) k) ?_
    show own_Go _ _ _ _ T0 (mkF m 8 #[.val (.ref a1), .val (.ref a2), .unset] [(.int (0 : Int32))])
    refine own_step (fun _ k => XS.istoreN X0.here hx rfl (hb hby d13_8) rfl (l' := #[.val (.ref a1), .val (.ref a2), .val (.int (0 : Int32))]) rfl k) ?_
    show own_Go _ _ _ _ T0 (mkF m 9 #[.val (.ref a1), .val (.ref a2), .val (.int (0 : Int32))] [])
    have hlen : xs.length = ys.length := by rw [hz] at hl1; omega
    have loop : ∀ (k j : Nat) (i : Int32), j + k = xs.length → i.toInt = (j : Nat) → xs.take j = ys.take j → own_Go p e below (own_EndN below s (fun v h L => v = some (.int (own_eqb xs ys)) ∧ Fr n0 L ∧ h = h0) ({ frames := 0, cells := 0, slots := 0, locals := 0 } : Room).cells ({ frames := 0, cells := 0, slots := 0, locals := 0 } : Room).slots) T0 (mkF m 9 #[.val (.ref a1), .val (.ref a2), .val (.int i)] []) := by
      intro k
      induction k with
      | zero =>
        intro j i hj hi ht
        have hc : ¬ i < z1 := fun q => by have := (own_lt hi hl1).mp q; omega
        obtain rfl : j = xs.length := by omega
        have heq : xs = ys := by rw [List.take_of_length_le (Nat.le_refl _), List.take_of_length_le (by omega)] at ht; exact ht
        refine own_step (fun _ k => XS.iloadN X0.here hx rfl (hb hby d13_9) rfl k) ?_
        show own_Go _ _ _ _ T0 (mkF m 10 #[.val (.ref a1), .val (.ref a2), .val (.int i)] [(.int i)])
        refine own_step (fun _ k => XS.aloadN X0.here hx rfl (hb hby d13_10) rfl rfl k) ?_
        show own_Go _ _ _ _ T0 (mkF m 11 #[.val (.ref a1), .val (.ref a2), .val (.int i)] [(.ref a1), (.int i)])
        refine own_step (own_len X0 hx hZ e0 VA (g := (mkF m 11 #[.val (.ref a1), .val (.ref a2), .val (.int i)] [(.ref a1), (.int i)])) rfl rfl (hb hby d13_11)) ?_
        show own_Go _ _ _ _ T0 (mkF m 12 #[.val (.ref a1), .val (.ref a2), .val (.int i)] [(.int z1), (.int i)])
        refine own_step (fun _ k => XS.icmpYes X0.here hx rfl (pc0 := 12) (pc' := 32) rfl (hb hby d13_12) rfl (flt hc).2.1 (by decide) (by decide) k) ?_
        show own_Go _ _ _ _ T0 (mkF m 32 #[.val (.ref a1), .val (.ref a2), .val (.int i)] [])
        refine own_step (fun _ k => XS.iconst X0.here hx rfl (hb hby d13_32) k) ?_
        show own_Go _ _ _ _ T0 (mkF m 33 #[.val (.ref a1), .val (.ref a2), .val (.int i)] [(.int (1 : Int32))])
        exact own_retN X0 hx (t := .boolean) hret (by simp) hlk (hb hby d13_33) rfl (own_N ⟨own_leafI (if_pos heq), N0, e0⟩ (by decide) (by decide)) 
      | succ k ih =>
        intro j i hj hi ht
        have hc : i < z1 := (own_lt hi hl1).mpr (by omega)
        have hc2 : i < z2 := (own_lt hi hl2).mpr (by omega)
        refine own_step (fun _ k => XS.iloadN X0.here hx rfl (hb hby d13_9) rfl k) ?_
        show own_Go _ _ _ _ T0 (mkF m 10 #[.val (.ref a1), .val (.ref a2), .val (.int i)] [(.int i)])
        refine own_step (fun _ k => XS.aloadN X0.here hx rfl (hb hby d13_10) rfl rfl k) ?_
        show own_Go _ _ _ _ T0 (mkF m 11 #[.val (.ref a1), .val (.ref a2), .val (.int i)] [(.ref a1), (.int i)])
        refine own_step (own_len X0 hx hZ e0 VA (g := (mkF m 11 #[.val (.ref a1), .val (.ref a2), .val (.int i)] [(.ref a1), (.int i)])) rfl rfl (hb hby d13_11)) ?_
        show own_Go _ _ _ _ T0 (mkF m 12 #[.val (.ref a1), .val (.ref a2), .val (.int i)] [(.int z1), (.int i)])
        refine own_step (fun _ k => XS.icmpNo X0.here hx rfl (hb hby d13_12) rfl (tlt hc).2.1 k) ?_
        show own_Go _ _ _ _ T0 (mkF m 15 #[.val (.ref a1), .val (.ref a2), .val (.int i)] [])
        refine own_step (fun _ k => XS.aloadN X0.here hx rfl (hb hby d13_15) rfl rfl k) ?_
        show own_Go _ _ _ _ T0 (mkF m 16 #[.val (.ref a1), .val (.ref a2), .val (.int i)] [(.ref a1)])
        refine own_step (fun _ k => XS.iloadN X0.here hx rfl (hb hby d13_16) rfl k) ?_
        show own_Go _ _ _ _ T0 (mkF m 17 #[.val (.ref a1), .val (.ref a2), .val (.int i)] [(.int i), (.ref a1)])
        refine own_step (own_ldB X0 hx hZ e0 VA (j := i) (v := (.int (xs.getD j (0 : Int32)))) ⟨own_nn hi, hc⟩ (by rw [own_clamp hi]; exact own_getI xs _ j) (g := (mkF m 17 #[.val (.ref a1), .val (.ref a2), .val (.int i)] [(.int i), (.ref a1)])) rfl rfl (hb hby d13_17)) ?_
        show own_Go _ _ _ _ T0 (mkF m 18 #[.val (.ref a1), .val (.ref a2), .val (.int i)] [(.int (xs.getD j (0 : Int32)))])
        refine own_step (fun _ k => XS.aloadN X0.here hx rfl (hb hby d13_18) rfl rfl k) ?_
        show own_Go _ _ _ _ T0 (mkF m 19 #[.val (.ref a1), .val (.ref a2), .val (.int i)] [(.ref a2), (.int (xs.getD j (0 : Int32)))])
        refine own_step (fun _ k => XS.iloadN X0.here hx rfl (hb hby d13_19) rfl k) ?_
        show own_Go _ _ _ _ T0 (mkF m 20 #[.val (.ref a1), .val (.ref a2), .val (.int i)] [(.int i), (.ref a2), (.int (xs.getD j (0 : Int32)))])
        refine own_step (own_ldB X0 hx hZ e0 VB (j := i) (v := (.int (ys.getD j (0 : Int32)))) ⟨own_nn hi, hc2⟩ (by rw [own_clamp hi]; exact own_getI ys _ j) (g := (mkF m 20 #[.val (.ref a1), .val (.ref a2), .val (.int i)] [(.int i), (.ref a2), (.int (xs.getD j (0 : Int32)))])) rfl rfl (hb hby d13_20)) ?_
        show own_Go _ _ _ _ T0 (mkF m 21 #[.val (.ref a1), .val (.ref a2), .val (.int i)] [(.int (ys.getD j (0 : Int32))), (.int (xs.getD j (0 : Int32)))])
        by_cases he : (xs.getD j (0 : Int32)) = (ys.getD j (0 : Int32))
        · refine own_step (fun _ k => XS.icmpYes X0.here hx rfl (pc0 := 21) (pc' := 26) rfl (hb hby d13_21) rfl (teq he).1 (by decide) (by decide) k) ?_
          show own_Go _ _ _ _ T0 (mkF m 26 #[.val (.ref a1), .val (.ref a2), .val (.int i)] [])
          refine own_step (fun _ k => XS.iinc X0.here hx rfl (hb hby d13_26) rfl (l' := #[.val (.ref a1), .val (.ref a2), .val (.int (i + (1 : Int32)))]) rfl k) ?_
          show own_Go _ _ _ _ T0 (mkF m 29 #[.val (.ref a1), .val (.ref a2), .val (.int (i + (1 : Int32)))] [])
          refine own_step (fun _ k => XS.goto X0.here hx rfl (pc0 := 29) (pc' := 9) rfl (hb hby d13_29) (by decide) (by decide) k) ?_
          show own_Go _ _ _ _ T0 (mkF m 9 #[.val (.ref a1), .val (.ref a2), .val (.int (i + (1 : Int32)))] [])
          exact ih (j + 1) _ (by omega) (own_add hi e_1 (by omega)) (own_tk (by omega) (by omega) ht he)
        · refine own_step (fun _ k => XS.icmpNo X0.here hx rfl (hb hby d13_21) rfl (feq he).1 k) ?_
          show own_Go _ _ _ _ T0 (mkF m 24 #[.val (.ref a1), .val (.ref a2), .val (.int i)] [])
          refine own_step (fun _ k => XS.iconst X0.here hx rfl (hb hby d13_24) k) ?_
          show own_Go _ _ _ _ T0 (mkF m 25 #[.val (.ref a1), .val (.ref a2), .val (.int i)] [(.int (0 : Int32))])
          exact own_retN X0 hx (t := .boolean) hret (by simp) hlk (hb hby d13_25) rfl (own_N ⟨own_leafI (if_neg fun q => he (by rw [q])), N0, e0⟩ (by decide) (by decide)) 
    exact loop xs.length 0 (0 : Int32) (by omega) rfl rfl
  · refine own_step (fun _ k => XS.icmpYes X0.here hx rfl (pc0 := 4) (pc' := 34) rfl (hb hby d13_4) rfl (feq hz).2 (by decide) (by decide) k) ?_
    show own_Go _ _ _ _ T0 (mkF m 34 #[.val (.ref a1), .val (.ref a2), .unset] [])
    refine own_step (fun _ k => XS.iconst X0.here hx rfl (hb hby d13_34) k) ?_
    show own_Go _ _ _ _ T0 (mkF m 35 #[.val (.ref a1), .val (.ref a2), .unset] [(.int (0 : Int32))])
    exact own_retN X0 hx (t := .boolean) hret (by simp) hlk (hb hby d13_35) rfl (own_N ⟨own_leafI (if_neg fun q => hz (Int32.toInt_inj.mp (by rw [hl1, hl2, q]))), N0, e0⟩ (by decide) (by decide)) 
theorem own_byc (x : Int32) : (own_by x).length ≤ 3 := by
  have h := own_byl x; have h2 := c_and x (3 : Int32) (by decide); have e : (3 : Int32).toInt = 3 := by decide
  omega
theorem d12_0 : decode jdk_42_method_66_code 0 = .ok (.aload_n 0, 1) := by decide +kernel
theorem d12_1 : decode jdk_42_method_66_code 1 = .ok (.aload_n 1, 1) := by decide +kernel
theorem d12_2 : decode jdk_42_method_66_code 2 = .ok (.if_acmp .ne 5, 3) := by decide +kernel
theorem d12_5 : decode jdk_42_method_66_code 5 = .ok (.iconst 1, 1) := by decide +kernel
theorem d12_6 : decode jdk_42_method_66_code 6 = .ok (.ireturn, 1) := by decide +kernel
theorem d12_7 : decode jdk_42_method_66_code 7 = .ok (.aload_n 1, 1) := by decide +kernel
theorem d12_8 : decode jdk_42_method_66_code 8 = .ok (.instanceof 10, 3) := by decide +kernel
theorem d12_11 : decode jdk_42_method_66_code 11 = .ok (.ifCond .eq 43, 3) := by decide +kernel
theorem d12_14 : decode jdk_42_method_66_code 14 = .ok (.aload_n 1, 1) := by decide +kernel
theorem d12_15 : decode jdk_42_method_66_code 15 = .ok (.checkcast 10, 3) := by decide +kernel
theorem d12_18 : decode jdk_42_method_66_code 18 = .ok (.astore_n 2, 1) := by decide +kernel
theorem d12_19 : decode jdk_42_method_66_code 19 = .ok (.getstatic 38, 3) := by decide +kernel
theorem d12_22 : decode jdk_42_method_66_code 22 = .ok (.ifCond .eq 14, 3) := by decide +kernel
theorem d12_25 : decode jdk_42_method_66_code 25 = .ok (.aload_n 0, 1) := by decide +kernel
theorem d12_26 : decode jdk_42_method_66_code 26 = .ok (.getfield 15, 3) := by decide +kernel
theorem d12_29 : decode jdk_42_method_66_code 29 = .ok (.aload_n 2, 1) := by decide +kernel
theorem d12_30 : decode jdk_42_method_66_code 30 = .ok (.getfield 15, 3) := by decide +kernel
theorem d12_33 : decode jdk_42_method_66_code 33 = .ok (.if_icmp .ne 21, 3) := by decide +kernel
theorem d12_36 : decode jdk_42_method_66_code 36 = .ok (.aload_n 0, 1) := by decide +kernel
theorem d12_37 : decode jdk_42_method_66_code 37 = .ok (.getfield 9, 3) := by decide +kernel
theorem d12_40 : decode jdk_42_method_66_code 40 = .ok (.aload_n 2, 1) := by decide +kernel
theorem d12_41 : decode jdk_42_method_66_code 41 = .ok (.getfield 9, 3) := by decide +kernel
theorem d12_44 : decode jdk_42_method_66_code 44 = .ok (.invokestatic 541, 3) := by decide +kernel
theorem d12_47 : decode jdk_42_method_66_code 47 = .ok (.ifCond .eq 7, 3) := by decide +kernel
theorem d12_50 : decode jdk_42_method_66_code 50 = .ok (.iconst 1, 1) := by decide +kernel
theorem d12_51 : decode jdk_42_method_66_code 51 = .ok (.goto 4, 3) := by decide +kernel
theorem d12_54 : decode jdk_42_method_66_code 54 = .ok (.iconst 0, 1) := by decide +kernel
theorem d12_55 : decode jdk_42_method_66_code 55 = .ok (.ireturn, 1) := by decide +kernel
theorem ef_12 (a1 : Addr) (a2 : Addr) (m : MethodId) : entryFrame m #[(.ref a1), (.ref a2)] 3 = mkF m 0 #[.val (.ref a1), .val (.ref a2), .unset] [] := by first | (simp [entryFrame, mkF, argsToLocals, Value.category]; done) | rfl
set_option maxRecDepth 65536 in
set_option maxHeartbeats 40000000 in
theorem rm12_s (l : Launch) (Z : State) (a0 : Array Value) (hw : ∀ d ∈ tables_1, d.before a0 Z = true) (ws : List Jvm.Cond) (a1 : Addr) (a2 : Addr) (h0 : Heap) (n0 : Nat) (Z0 : n0 ≤ h0.size) (h12 : a1 = a2) :
    own_Met l (⟨"java/lang/String", "equals", "(Ljava/lang/Object;)Z"⟩ : MethodName) jdk_42_method_66_code 3 (some .boolean) ws ({ frames := 0, cells := 0, slots := 0, locals := 0 } : Room) #[(.ref a1), (.ref a2)] Z h0 (fun v h L => v = some (.int (1 : Int32)) ∧ Fr n0 L ∧ h = h0) := by
  refine own_body (plainFor_of_name pn_1) (ef_12 a1 a2) ?_
  intro p e s m below meth c T0 X0 hx hby hml0 hret hlk hnm hown hZ e0
  have hml : c.maxLocals = 3 := hml0
  have N0 := Fr.nil n0
  refine own_step (fun _ k => XS.aloadN X0.here hx rfl (hb hby d12_0) rfl rfl k) ?_
  show own_Go _ _ _ _ T0 (mkF m 1 #[.val (.ref a1), .val (.ref a2), .unset] [(.ref a1)])
  refine own_step (fun _ k => XS.aloadN X0.here hx rfl (hb hby d12_1) rfl rfl k) ?_
  show own_Go _ _ _ _ T0 (mkF m 2 #[.val (.ref a1), .val (.ref a2), .unset] [(.ref a2), (.ref a1)])
  refine own_step (fun _ k => Jvm.RoadKit.acmp (g := (mkF m 2 #[.val (.ref a1), .val (.ref a2), .unset] [(.ref a2), (.ref a1)])) X0 hx rfl rfl rfl (pc0 := 2) (pc' := 5) (same := true) rfl (hb hby d12_2) rfl (decide_eq_true (congrArg Value.ref h12)) (by decide) (by decide) k) ?_
  show own_Go _ _ _ _ T0 (mkF m 5 #[.val (.ref a1), .val (.ref a2), .unset] [])
  refine own_step (fun _ k => XS.iconst X0.here hx rfl (hb hby d12_5) k) ?_
  show own_Go _ _ _ _ T0 (mkF m 6 #[.val (.ref a1), .val (.ref a2), .unset] [(.int (1 : Int32))])
  exact own_retN X0 hx (t := .boolean) hret (by simp) hlk (hb hby d12_6) rfl (own_N ⟨rfl, N0, e0⟩ (by decide) (by decide)) 
theorem own_eq1 {xs ys : List Int32} (h : ¬ own_eqb xs ys = (0 : Int32)) : own_eqb xs ys = (1 : Int32) := by
  unfold own_eqb at *
  by_cases q : xs = ys
  · exact if_pos q
  · exact absurd (if_neg q) h
theorem pd_6 : parseMethodDescriptor "([B[B)Z" = some ⟨[(.array .byte), (.array .byte)], some .boolean⟩ := by decide +kernel
set_option maxRecDepth 65536 in
set_option maxHeartbeats 40000000 in
theorem rm12_d (l : Launch) (Z : State) (a0 : Array Value) (hw : ∀ d ∈ tables_1, d.before a0 Z = true) (ws : List Jvm.Cond) (a1 : Addr) (a2 : Addr) (cz : Int32) (b1 b2 : Addr) (k1 k2 : ClassId) (z1 z2 : Int32) (xs ys : List Int32) (h0 : Heap) (n0 : Nat) (Z0 : n0 ≤ h0.size) (O0 : Old Z n0 h0) (SC : Sta Z Z.heap "java/lang/String" "COMPACT_STRINGS" "Z" (.int cz)) (hcz : ¬ cz = (0 : Int32)) (E_a1 : Exa Z h0 a1 "java/lang/String") (FC_a1 : Fld Z h0 a1 "java/lang/String" "coder" "B" (.int (0 : Int32))) (FV_a1 : Fld Z h0 a1 "java/lang/String" "value" "[B" (.ref b1)) (Vb1 : Arv Z h0 b1 k1 .byte z1 (xs.map Value.int) (.int (0 : Int32))) (E_a2 : Exa Z h0 a2 "java/lang/String") (FC_a2 : Fld Z h0 a2 "java/lang/String" "coder" "B" (.int (0 : Int32))) (FV_a2 : Fld Z h0 a2 "java/lang/String" "value" "[B" (.ref b2)) (Vb2 : Arv Z h0 b2 k2 .byte z2 (ys.map Value.int) (.int (0 : Int32))) (hl1 : z1.toInt = (xs.length : Nat)) (hl2 : z2.toInt = (ys.length : Nat)) (hcap : xs.length ≤ 3) (h12 : ¬ a1 = a2) :
    own_Met l (⟨"java/lang/String", "equals", "(Ljava/lang/Object;)Z"⟩ : MethodName) jdk_42_method_66_code 3 (some .boolean) ws ({ frames := 1, cells := 0, slots := 0, locals := 14 } : Room) #[(.ref a1), (.ref a2)] Z h0 (fun v h L => v = some (.int (own_eqb xs ys)) ∧ Fr n0 L ∧ h = h0) := by
  refine own_body (plainFor_of_name pn_1) (ef_12 a1 a2) ?_
  intro p e s m below meth c T0 X0 hx hby hml0 hret hlk hnm hown hZ e0
  have hml : c.maxLocals = 3 := hml0
  have N0 := Fr.nil n0
  refine own_step (fun _ k => XS.aloadN X0.here hx rfl (hb hby d12_0) rfl rfl k) ?_
  show own_Go _ _ _ _ T0 (mkF m 1 #[.val (.ref a1), .val (.ref a2), .unset] [(.ref a1)])
  refine own_step (fun _ k => XS.aloadN X0.here hx rfl (hb hby d12_1) rfl rfl k) ?_
  show own_Go _ _ _ _ T0 (mkF m 2 #[.val (.ref a1), .val (.ref a2), .unset] [(.ref a2), (.ref a1)])
  refine own_step (fun _ k => Jvm.RoadKit.acmp (g := (mkF m 2 #[.val (.ref a1), .val (.ref a2), .unset] [(.ref a2), (.ref a1)])) X0 hx rfl rfl rfl (pc0 := 2) (pc' := 7) (same := false) rfl (hb hby d12_2) rfl (decide_eq_false fun q => h12 (Value.ref.inj q)) (by decide) (by decide) k) ?_
  show own_Go _ _ _ _ T0 (mkF m 7 #[.val (.ref a1), .val (.ref a2), .unset] [])
  refine own_step (fun _ k => XS.aloadN X0.here hx rfl (hb hby d12_7) rfl rfl k) ?_
  show own_Go _ _ _ _ T0 (mkF m 8 #[.val (.ref a1), .val (.ref a2), .unset] [(.ref a2)])
  obtain ⟨T1, X1, e1, st1⟩ := instY X0 hx hZ hown (hw _ (List.mem_of_getElem? (i := 66) rfl)) e0 (Ins.self E_a2) (g := (mkF m 8 #[.val (.ref a1), .val (.ref a2), .unset] [(.ref a2)])) rfl rfl (hb hby d12_8)
  refine own_step st1 ?_
  show own_Go _ _ _ _ T1 (mkF m 11 #[.val (.ref a1), .val (.ref a2), .unset] [(.int (1 : Int32))])
  refine own_step (fun _ k => XS.ifNo X1.here hx rfl (hb hby d12_11) rfl ((if0 _ _).trans (feq (by decide : ¬ ((1 : Int32) = (0 : Int32)))).1) k) ?_
  show own_Go _ _ _ _ T1 (mkF m 14 #[.val (.ref a1), .val (.ref a2), .unset] [])
  refine own_step (fun _ k => XS.aloadN X1.here hx rfl (hb hby d12_14) rfl rfl k) ?_
  show own_Go _ _ _ _ T1 (mkF m 15 #[.val (.ref a1), .val (.ref a2), .unset] [(.ref a2)])
  obtain ⟨T2, X2, e2, st2⟩ := castY X1 hx hZ hown (hw _ (List.mem_of_getElem? (i := 66) rfl)) e1 (Ins.self E_a2) (g := (mkF m 15 #[.val (.ref a1), .val (.ref a2), .unset] [(.ref a2)])) rfl rfl (hb hby d12_15)
  refine own_step st2 ?_
  show own_Go _ _ _ _ T2 (mkF m 18 #[.val (.ref a1), .val (.ref a2), .unset] [(.ref a2)])
  refine own_step (fun _ k => XS.astoreN X2.here hx rfl (hb hby d12_18) rfl rfl (l' := #[.val (.ref a1), .val (.ref a2), .val (.ref a2)]) rfl k) ?_
  show own_Go _ _ _ _ T2 (mkF m 19 #[.val (.ref a1), .val (.ref a2), .val (.ref a2)] [])
  obtain ⟨T3, X3, e3, st3⟩ := getS2 X2 hx hZ hown (host := "") (Or.inl (hw _ (List.mem_of_getElem? (i := 32) rfl))) Via.refl e2 (SC.ext O0.2) (g := (mkF m 19 #[.val (.ref a1), .val (.ref a2), .val (.ref a2)] [])) rfl (hb hby d12_19)
  refine own_step st3 ?_
  show own_Go _ _ _ _ T3 (mkF m 22 #[.val (.ref a1), .val (.ref a2), .val (.ref a2)] [(.int cz)])
  refine own_step (fun _ k => XS.ifNo X3.here hx rfl (hb hby d12_22) rfl ((if0 _ _).trans (feq hcz).1) k) ?_
  show own_Go _ _ _ _ T3 (mkF m 25 #[.val (.ref a1), .val (.ref a2), .val (.ref a2)] [])
  refine own_step (fun _ k => XS.aloadN X3.here hx rfl (hb hby d12_25) rfl rfl k) ?_
  show own_Go _ _ _ _ T3 (mkF m 26 #[.val (.ref a1), .val (.ref a2), .val (.ref a2)] [(.ref a1)])
  obtain ⟨T4, X4, e4, st4⟩ := getF X3 hx hZ hown (host := "") (Or.inl (hw _ (List.mem_of_getElem? (i := 28) rfl))) Via.refl e3 FC_a1 (g := (mkF m 26 #[.val (.ref a1), .val (.ref a2), .val (.ref a2)] [(.ref a1)])) rfl rfl (hb hby d12_26)
  refine own_step st4 ?_
  show own_Go _ _ _ _ T4 (mkF m 29 #[.val (.ref a1), .val (.ref a2), .val (.ref a2)] [(.int (0 : Int32))])
  refine own_step (fun _ k => XS.aloadN X4.here hx rfl (hb hby d12_29) rfl rfl k) ?_
  show own_Go _ _ _ _ T4 (mkF m 30 #[.val (.ref a1), .val (.ref a2), .val (.ref a2)] [(.ref a2), (.int (0 : Int32))])
  obtain ⟨T5, X5, e5, st5⟩ := getF X4 hx hZ hown (host := "") (Or.inl (hw _ (List.mem_of_getElem? (i := 28) rfl))) Via.refl e4 FC_a2 (g := (mkF m 30 #[.val (.ref a1), .val (.ref a2), .val (.ref a2)] [(.ref a2), (.int (0 : Int32))])) rfl rfl (hb hby d12_30)
  refine own_step st5 ?_
  show own_Go _ _ _ _ T5 (mkF m 33 #[.val (.ref a1), .val (.ref a2), .val (.ref a2)] [(.int (0 : Int32)), (.int (0 : Int32))])
  refine own_step (fun _ k => XS.icmpNo X5.here hx rfl (hb hby d12_33) rfl (teq (by decide : (0 : Int32) = (0 : Int32))).2 k) ?_
  show own_Go _ _ _ _ T5 (mkF m 36 #[.val (.ref a1), .val (.ref a2), .val (.ref a2)] [])
  refine own_step (fun _ k => XS.aloadN X5.here hx rfl (hb hby d12_36) rfl rfl k) ?_
  show own_Go _ _ _ _ T5 (mkF m 37 #[.val (.ref a1), .val (.ref a2), .val (.ref a2)] [(.ref a1)])
  obtain ⟨T6, X6, e6, st6⟩ := getF X5 hx hZ hown (host := "") (Or.inl (hw _ (List.mem_of_getElem? (i := 27) rfl))) Via.refl e5 FV_a1 (g := (mkF m 37 #[.val (.ref a1), .val (.ref a2), .val (.ref a2)] [(.ref a1)])) rfl rfl (hb hby d12_37)
  refine own_step st6 ?_
  show own_Go _ _ _ _ T6 (mkF m 40 #[.val (.ref a1), .val (.ref a2), .val (.ref a2)] [(.ref b1)])
  refine own_step (fun _ k => XS.aloadN X6.here hx rfl (hb hby d12_40) rfl rfl k) ?_
  show own_Go _ _ _ _ T6 (mkF m 41 #[.val (.ref a1), .val (.ref a2), .val (.ref a2)] [(.ref a2), (.ref b1)])
  obtain ⟨T7, X7, e7, st7⟩ := getF X6 hx hZ hown (host := "") (Or.inl (hw _ (List.mem_of_getElem? (i := 27) rfl))) Via.refl e6 FV_a2 (g := (mkF m 41 #[.val (.ref a1), .val (.ref a2), .val (.ref a2)] [(.ref a2), (.ref b1)])) rfl rfl (hb hby d12_41)
  refine own_step st7 ?_
  show own_Go _ _ _ _ T7 (mkF m 44 #[.val (.ref a1), .val (.ref a2), .val (.ref a2)] [(.ref b2), (.ref b1)])
  refine own_callS X7 hx hZ (y := (⟨"java/lang/StringLatin1", "equals", "([B[B)Z"⟩ : MethodName)) hown (hw _ (List.mem_of_getElem? (i := 67) rfl)) (hw _ (List.mem_of_getElem? (i := 68) rfl)) (hw _ (List.mem_of_getElem? (i := 69) rfl)) (hw _ (List.mem_of_getElem? (i := 70) rfl)) (by decide) (rm13 l Z a0 hw [] b1 b2 k1 k2 z1 z2 xs ys h0 n0 Z0 Vb1 Vb2 hl1 hl2 hcap) e7 0 (by decide) (by decide) (by decide) (by decide) (g := (mkF m 44 #[.val (.ref a1), .val (.ref a2), .val (.ref a2)] [(.ref b2), (.ref b1)])) rfl (by rw [hml]; rfl) [(.ref b1), (.ref b2)] [] pd_6 rfl rfl rfl (by show 2 * 0 + _ ≤ _; exact Nat.le_of_eq rfl) (hb hby d12_44) ?_
  rintro v8 T8 L8 X8 ⟨rfl, Nq8, e8⟩
  have N8 := Fr.app N0 Nq8
  show own_Go _ _ _ _ T8 (mkF m 47 #[.val (.ref a1), .val (.ref a2), .val (.ref a2)] [(.int (own_eqb xs ys))])
  by_cases hc9 : (own_eqb xs ys) = (0 : Int32)
  · refine own_step (fun _ k => XS.ifYes X8.here hx rfl (pc0 := 47) (pc' := 54) rfl (hb hby d12_47) rfl ((if0 _ _).trans (teq hc9).1) (by decide) (by decide) k) ?_
    show own_Go _ _ _ _ T8 (mkF m 54 #[.val (.ref a1), .val (.ref a2), .val (.ref a2)] [])
    refine own_step (fun _ k => XS.iconst X8.here hx rfl (hb hby d12_54) k) ?_
    show own_Go _ _ _ _ T8 (mkF m 55 #[.val (.ref a1), .val (.ref a2), .val (.ref a2)] [(.int (0 : Int32))])
    exact own_retN X8 hx (t := .boolean) hret (by simp) hlk (hb hby d12_55) rfl (own_N ⟨own_leafI hc9, N8, e8⟩ (by decide) (by decide)) 
  · refine own_step (fun _ k => XS.ifNo X8.here hx rfl (hb hby d12_47) rfl ((if0 _ _).trans (feq hc9).1) k) ?_
    show own_Go _ _ _ _ T8 (mkF m 50 #[.val (.ref a1), .val (.ref a2), .val (.ref a2)] [])
    refine own_step (fun _ k => XS.iconst X8.here hx rfl (hb hby d12_50) k) ?_
    show own_Go _ _ _ _ T8 (mkF m 51 #[.val (.ref a1), .val (.ref a2), .val (.ref a2)] [(.int (1 : Int32))])
    refine own_step (fun _ k => XS.goto X8.here hx rfl (pc0 := 51) (pc' := 55) rfl (hb hby d12_51) (by decide) (by decide) k) ?_
    show own_Go _ _ _ _ T8 (mkF m 55 #[.val (.ref a1), .val (.ref a2), .val (.ref a2)] [(.int (1 : Int32))])
    exact own_retN X8 hx (t := .boolean) hret (by simp) hlk (hb hby d12_55) rfl (own_N ⟨own_leafI (own_eq1 hc9), N8, e8⟩ (by decide) (by decide)) 
theorem d11_0 : decode prog_1_method_7_code 0 = .ok (.aload_n 1, 1) := by decide +kernel
theorem d11_1 : decode prog_1_method_7_code 1 = .ok (.instanceof 8, 3) := by decide +kernel
theorem d11_4 : decode prog_1_method_7_code 4 = .ok (.ifCond .eq 41, 3) := by decide +kernel
theorem d11_7 : decode prog_1_method_7_code 7 = .ok (.aload_n 0, 1) := by decide +kernel
theorem d11_8 : decode prog_1_method_7_code 8 = .ok (.getfield 7, 3) := by decide +kernel
theorem d11_11 : decode prog_1_method_7_code 11 = .ok (.aload_n 1, 1) := by decide +kernel
theorem d11_12 : decode prog_1_method_7_code 12 = .ok (.checkcast 8, 3) := by decide +kernel
theorem d11_15 : decode prog_1_method_7_code 15 = .ok (.getfield 7, 3) := by decide +kernel
theorem d11_18 : decode prog_1_method_7_code 18 = .ok (.invokevirtual 45, 3) := by decide +kernel
theorem d11_21 : decode prog_1_method_7_code 21 = .ok (.ifCond .eq 24, 3) := by decide +kernel
theorem d11_24 : decode prog_1_method_7_code 24 = .ok (.aload_n 0, 1) := by decide +kernel
theorem d11_25 : decode prog_1_method_7_code 25 = .ok (.getfield 13, 3) := by decide +kernel
theorem d11_28 : decode prog_1_method_7_code 28 = .ok (.aload_n 1, 1) := by decide +kernel
theorem d11_29 : decode prog_1_method_7_code 29 = .ok (.checkcast 8, 3) := by decide +kernel
theorem d11_32 : decode prog_1_method_7_code 32 = .ok (.getfield 13, 3) := by decide +kernel
theorem d11_35 : decode prog_1_method_7_code 35 = .ok (.invokevirtual 45, 3) := by decide +kernel
theorem d11_38 : decode prog_1_method_7_code 38 = .ok (.ifCond .eq 7, 3) := by decide +kernel
theorem d11_41 : decode prog_1_method_7_code 41 = .ok (.iconst 1, 1) := by decide +kernel
theorem d11_42 : decode prog_1_method_7_code 42 = .ok (.goto 4, 3) := by decide +kernel
theorem d11_45 : decode prog_1_method_7_code 45 = .ok (.iconst 0, 1) := by decide +kernel
theorem d11_46 : decode prog_1_method_7_code 46 = .ok (.ireturn, 1) := by decide +kernel
theorem ef_11 (a1 : Addr) (a2 : Addr) (m : MethodId) : entryFrame m #[(.ref a1), (.ref a2)] 2 = mkF m 0 #[.val (.ref a1), .val (.ref a2)] [] := by first | (simp [entryFrame, mkF, argsToLocals, Value.category]; done) | rfl
theorem ef_11_n (a1 : Addr) (m : MethodId) : entryFrame m #[(.ref a1), .null] 2 = mkF m 0 #[.val (.ref a1), .val .null] [] := by first | (simp [entryFrame, mkF, argsToLocals, Value.category]; done) | rfl
set_option maxRecDepth 65536 in
set_option maxHeartbeats 40000000 in
theorem rm11_n (l : Launch) (Z : State) (a0 : Array Value) (hw : ∀ d ∈ tables_1, d.before a0 Z = true) (ws : List Jvm.Cond) (a1 : Addr) (h0 : Heap) (n0 : Nat) (Z0 : n0 ≤ h0.size) :
    own_Met l (⟨"com/example/tickwright/tickwright/Account", "equals", "(Ljava/lang/Object;)Z"⟩ : MethodName) prog_1_method_7_code 2 (some .boolean) ws ({ frames := 0, cells := 0, slots := 0, locals := 0 } : Room) #[(.ref a1), .null] Z h0 (fun v h L => v = some (.int (0 : Int32)) ∧ Fr n0 L ∧ h = h0) := by
  refine own_body (plainFor_of_name pn_3) (ef_11_n a1) ?_
  intro p e s m below meth c T0 X0 hx hby hml0 hret hlk hnm hown hZ e0
  have hml : c.maxLocals = 2 := hml0
  have N0 := Fr.nil n0
  refine own_step (fun _ k => XS.aloadN X0.here hx rfl (hb hby d11_0) rfl rfl k) ?_
  show own_Go _ _ _ _ T0 (mkF m 1 #[.val (.ref a1), .val .null] [.null])
  refine own_step (fun _ k => X0.instanceofNull hx (g := (mkF m 1 #[.val (.ref a1), .val .null] [.null])) rfl rfl (hb hby d11_1) _ k) ?_
  show own_Go _ _ _ _ T0 (mkF m 4 #[.val (.ref a1), .val .null] [(.int (0 : Int32))])
  refine own_step (fun _ k => XS.ifYes X0.here hx rfl (pc0 := 4) (pc' := 45) rfl (hb hby d11_4) rfl ((if0 _ _).trans (teq (by decide : (0 : Int32) = (0 : Int32))).1) (by decide) (by decide) k) ?_
  show own_Go _ _ _ _ T0 (mkF m 45 #[.val (.ref a1), .val .null] [])
  refine own_step (fun _ k => XS.iconst X0.here hx rfl (hb hby d11_45) k) ?_
  show own_Go _ _ _ _ T0 (mkF m 46 #[.val (.ref a1), .val .null] [(.int (0 : Int32))])
  exact own_retN X0 hx (t := .boolean) hret (by simp) hlk (hb hby d11_46) rfl (own_N ⟨rfl, N0, e0⟩ (by decide) (by decide)) 
set_option maxRecDepth 65536 in
set_option maxHeartbeats 40000000 in
theorem rm11_t (l : Launch) (Z : State) (a0 : Array Value) (hw : ∀ d ∈ tables_1, d.before a0 Z = true) (ws : List Jvm.Cond) (a1 : Addr) (a2 : Addr) (h0 : Heap) (n0 : Nat) (Z0 : n0 ≤ h0.size) (E_a2 : Exa Z h0 a2 "java/lang/String") :
    own_Met l (⟨"com/example/tickwright/tickwright/Account", "equals", "(Ljava/lang/Object;)Z"⟩ : MethodName) prog_1_method_7_code 2 (some .boolean) ws ({ frames := 0, cells := 0, slots := 0, locals := 0 } : Room) #[(.ref a1), (.ref a2)] Z h0 (fun v h L => v = some (.int (0 : Int32)) ∧ Fr n0 L ∧ h = h0) := by
  refine own_body (plainFor_of_name pn_3) (ef_11 a1 a2) ?_
  intro p e s m below meth c T0 X0 hx hby hml0 hret hlk hnm hown hZ e0
  have hml : c.maxLocals = 2 := hml0
  have N0 := Fr.nil n0
  refine own_step (fun _ k => XS.aloadN X0.here hx rfl (hb hby d11_0) rfl rfl k) ?_
  show own_Go _ _ _ _ T0 (mkF m 1 #[.val (.ref a1), .val (.ref a2)] [(.ref a2)])
  obtain ⟨T1, X1, e1, st1⟩ := instNo X0 hx hZ hown (hw _ (List.mem_of_getElem? (i := 59) rfl)) e0 E_a2 (own_notof hw) (g := (mkF m 1 #[.val (.ref a1), .val (.ref a2)] [(.ref a2)])) rfl rfl (hb hby d11_1)
  refine own_step st1 ?_
  show own_Go _ _ _ _ T1 (mkF m 4 #[.val (.ref a1), .val (.ref a2)] [(.int (0 : Int32))])
  refine own_step (fun _ k => XS.ifYes X1.here hx rfl (pc0 := 4) (pc' := 45) rfl (hb hby d11_4) rfl ((if0 _ _).trans (teq (by decide : (0 : Int32) = (0 : Int32))).1) (by decide) (by decide) k) ?_
  show own_Go _ _ _ _ T1 (mkF m 45 #[.val (.ref a1), .val (.ref a2)] [])
  refine own_step (fun _ k => XS.iconst X1.here hx rfl (hb hby d11_45) k) ?_
  show own_Go _ _ _ _ T1 (mkF m 46 #[.val (.ref a1), .val (.ref a2)] [(.int (0 : Int32))])
  exact own_retN X1 hx (t := .boolean) hret (by simp) hlk (hb hby d11_46) rfl (own_N ⟨rfl, N0, e1⟩ (by decide) (by decide)) 
theorem pd_7 : parseMethodDescriptor "(Ljava/lang/Object;)Z" = some ⟨[(.object "java/lang/Object")], some .boolean⟩ := by decide +kernel
set_option maxRecDepth 65536 in
set_option maxHeartbeats 40000000 in
theorem rm11_s (l : Launch) (Z : State) (a0 : Array Value) (hw : ∀ d ∈ tables_1, d.before a0 Z = true) (ws : List Jvm.Cond) (a1 : Addr) (a2 : Addr) (x1 y1 : Addr) (h0 : Heap) (n0 : Nat) (Z0 : n0 ≤ h0.size) (h12 : a1 = a2) (E_a1 : Exa Z h0 a1 "com/example/tickwright/tickwright/Account") (FB1 : Fld Z h0 a1 "com/example/tickwright/tickwright/Account" "mBroker" "Ljava/lang/String;" (.ref x1)) (FI1 : Fld Z h0 a1 "com/example/tickwright/tickwright/Account" "mId" "Ljava/lang/String;" (.ref y1)) (E_x1 : Exa Z h0 x1 "java/lang/String") (E_y1 : Exa Z h0 y1 "java/lang/String") :
    own_Met l (⟨"com/example/tickwright/tickwright/Account", "equals", "(Ljava/lang/Object;)Z"⟩ : MethodName) prog_1_method_7_code 2 (some .boolean) ws ({ frames := 1, cells := 0, slots := 0, locals := 14 } : Room) #[(.ref a1), (.ref a2)] Z h0 (fun v h L => v = some (.int (1 : Int32)) ∧ Fr n0 L ∧ h = h0) := by
  refine own_body (plainFor_of_name pn_3) (ef_11 a1 a2) ?_
  intro p e s m below meth c T0 X0 hx hby hml0 hret hlk hnm hown hZ e0
  have hml : c.maxLocals = 2 := hml0
  have N0 := Fr.nil n0
  subst h12
  refine own_step (fun _ k => XS.aloadN X0.here hx rfl (hb hby d11_0) rfl rfl k) ?_
  show own_Go _ _ _ _ T0 (mkF m 1 #[.val (.ref a1), .val (.ref a1)] [(.ref a1)])
  obtain ⟨T1, X1, e1, st1⟩ := instY X0 hx hZ hown (hw _ (List.mem_of_getElem? (i := 59) rfl)) e0 (Ins.self E_a1) (g := (mkF m 1 #[.val (.ref a1), .val (.ref a1)] [(.ref a1)])) rfl rfl (hb hby d11_1)
  refine own_step st1 ?_
  show own_Go _ _ _ _ T1 (mkF m 4 #[.val (.ref a1), .val (.ref a1)] [(.int (1 : Int32))])
  refine own_step (fun _ k => XS.ifNo X1.here hx rfl (hb hby d11_4) rfl ((if0 _ _).trans (feq (by decide : ¬ ((1 : Int32) = (0 : Int32)))).1) k) ?_
  show own_Go _ _ _ _ T1 (mkF m 7 #[.val (.ref a1), .val (.ref a1)] [])
  refine own_step (fun _ k => XS.aloadN X1.here hx rfl (hb hby d11_7) rfl rfl k) ?_
  show own_Go _ _ _ _ T1 (mkF m 8 #[.val (.ref a1), .val (.ref a1)] [(.ref a1)])
  obtain ⟨T2, X2, e2, st2⟩ := getF X1 hx hZ hown (host := "") (Or.inl (hw _ (List.mem_of_getElem? (i := 47) rfl))) Via.refl e1 FB1 (g := (mkF m 8 #[.val (.ref a1), .val (.ref a1)] [(.ref a1)])) rfl rfl (hb hby d11_8)
  refine own_step st2 ?_
  show own_Go _ _ _ _ T2 (mkF m 11 #[.val (.ref a1), .val (.ref a1)] [(.ref x1)])
  refine own_step (fun _ k => XS.aloadN X2.here hx rfl (hb hby d11_11) rfl rfl k) ?_
  show own_Go _ _ _ _ T2 (mkF m 12 #[.val (.ref a1), .val (.ref a1)] [(.ref a1), (.ref x1)])
  obtain ⟨T3, X3, e3, st3⟩ := castY X2 hx hZ hown (hw _ (List.mem_of_getElem? (i := 59) rfl)) e2 (Ins.self E_a1) (g := (mkF m 12 #[.val (.ref a1), .val (.ref a1)] [(.ref a1), (.ref x1)])) rfl rfl (hb hby d11_12)
  refine own_step st3 ?_
  show own_Go _ _ _ _ T3 (mkF m 15 #[.val (.ref a1), .val (.ref a1)] [(.ref a1), (.ref x1)])
  obtain ⟨T4, X4, e4, st4⟩ := getF X3 hx hZ hown (host := "") (Or.inl (hw _ (List.mem_of_getElem? (i := 47) rfl))) Via.refl e3 FB1 (g := (mkF m 15 #[.val (.ref a1), .val (.ref a1)] [(.ref a1), (.ref x1)])) rfl rfl (hb hby d11_15)
  refine own_step st4 ?_
  show own_Go _ _ _ _ T4 (mkF m 18 #[.val (.ref a1), .val (.ref a1)] [(.ref x1), (.ref x1)])
  refine own_callV X4 hx hZ (y := (⟨"java/lang/String", "equals", "(Ljava/lang/Object;)Z"⟩ : MethodName)) (z := (⟨"java/lang/String", "equals", "(Ljava/lang/Object;)Z"⟩ : MethodName)) hown (hw _ (List.mem_of_getElem? (i := 61) rfl)) (hw _ (List.mem_of_getElem? (i := 62) rfl)) (hw _ (List.mem_of_getElem? (i := 64) rfl)) (hw _ (List.mem_of_getElem? (i := 64) rfl)) (hw _ (List.mem_of_getElem? (i := 63) rfl)) (hw _ (List.mem_of_getElem? (i := 9) rfl)) (hw _ (List.mem_of_getElem? (i := 65) rfl)) (by decide) (rm12_s l Z a0 hw [] x1 x1  h0 n0 Z0 rfl) e4 (b := x1) E_x1 0 (by decide) (by decide) (by decide) (by decide) (g := (mkF m 18 #[.val (.ref a1), .val (.ref a1)] [(.ref x1), (.ref x1)])) rfl (by rw [hml]; rfl) [(.ref x1)] [] pd_7 rfl rfl rfl (by show 2 * 0 + _ ≤ _; exact Nat.le_of_eq rfl) (hb hby d11_18) ?_
  rintro v5 T5 L5 X5 ⟨rfl, Nq5, e5⟩
  have N5 := Fr.app N0 Nq5
  show own_Go _ _ _ _ T5 (mkF m 21 #[.val (.ref a1), .val (.ref a1)] [(.int (1 : Int32))])
  refine own_step (fun _ k => XS.ifNo X5.here hx rfl (hb hby d11_21) rfl ((if0 _ _).trans (feq (by decide : ¬ ((1 : Int32) = (0 : Int32)))).1) k) ?_
  show own_Go _ _ _ _ T5 (mkF m 24 #[.val (.ref a1), .val (.ref a1)] [])
  refine own_step (fun _ k => XS.aloadN X5.here hx rfl (hb hby d11_24) rfl rfl k) ?_
  show own_Go _ _ _ _ T5 (mkF m 25 #[.val (.ref a1), .val (.ref a1)] [(.ref a1)])
  obtain ⟨T6, X6, e6, st6⟩ := getF X5 hx hZ hown (host := "") (Or.inl (hw _ (List.mem_of_getElem? (i := 49) rfl))) Via.refl e5 FI1 (g := (mkF m 25 #[.val (.ref a1), .val (.ref a1)] [(.ref a1)])) rfl rfl (hb hby d11_25)
  refine own_step st6 ?_
  show own_Go _ _ _ _ T6 (mkF m 28 #[.val (.ref a1), .val (.ref a1)] [(.ref y1)])
  refine own_step (fun _ k => XS.aloadN X6.here hx rfl (hb hby d11_28) rfl rfl k) ?_
  show own_Go _ _ _ _ T6 (mkF m 29 #[.val (.ref a1), .val (.ref a1)] [(.ref a1), (.ref y1)])
  obtain ⟨T7, X7, e7, st7⟩ := castY X6 hx hZ hown (hw _ (List.mem_of_getElem? (i := 59) rfl)) e6 (Ins.self E_a1) (g := (mkF m 29 #[.val (.ref a1), .val (.ref a1)] [(.ref a1), (.ref y1)])) rfl rfl (hb hby d11_29)
  refine own_step st7 ?_
  show own_Go _ _ _ _ T7 (mkF m 32 #[.val (.ref a1), .val (.ref a1)] [(.ref a1), (.ref y1)])
  obtain ⟨T8, X8, e8, st8⟩ := getF X7 hx hZ hown (host := "") (Or.inl (hw _ (List.mem_of_getElem? (i := 49) rfl))) Via.refl e7 FI1 (g := (mkF m 32 #[.val (.ref a1), .val (.ref a1)] [(.ref a1), (.ref y1)])) rfl rfl (hb hby d11_32)
  refine own_step st8 ?_
  show own_Go _ _ _ _ T8 (mkF m 35 #[.val (.ref a1), .val (.ref a1)] [(.ref y1), (.ref y1)])
  refine own_callV X8 hx hZ (y := (⟨"java/lang/String", "equals", "(Ljava/lang/Object;)Z"⟩ : MethodName)) (z := (⟨"java/lang/String", "equals", "(Ljava/lang/Object;)Z"⟩ : MethodName)) hown (hw _ (List.mem_of_getElem? (i := 61) rfl)) (hw _ (List.mem_of_getElem? (i := 62) rfl)) (hw _ (List.mem_of_getElem? (i := 64) rfl)) (hw _ (List.mem_of_getElem? (i := 64) rfl)) (hw _ (List.mem_of_getElem? (i := 63) rfl)) (hw _ (List.mem_of_getElem? (i := 9) rfl)) (hw _ (List.mem_of_getElem? (i := 65) rfl)) (by decide) (rm12_s l Z a0 hw [] y1 y1  h0 n0 Z0 rfl) e8 (b := y1) E_y1 0 (by decide) (by decide) (by decide) (by decide) (g := (mkF m 35 #[.val (.ref a1), .val (.ref a1)] [(.ref y1), (.ref y1)])) rfl (by rw [hml]; rfl) [(.ref y1)] [] pd_7 rfl rfl rfl (by show 2 * 0 + _ ≤ _; exact Nat.le_of_eq rfl) (hb hby d11_35) ?_
  rintro v9 T9 L9 X9 ⟨rfl, Nq9, e9⟩
  have N9 := Fr.app N5 Nq9
  show own_Go _ _ _ _ T9 (mkF m 38 #[.val (.ref a1), .val (.ref a1)] [(.int (1 : Int32))])
  refine own_step (fun _ k => XS.ifNo X9.here hx rfl (hb hby d11_38) rfl ((if0 _ _).trans (feq (by decide : ¬ ((1 : Int32) = (0 : Int32)))).1) k) ?_
  show own_Go _ _ _ _ T9 (mkF m 41 #[.val (.ref a1), .val (.ref a1)] [])
  refine own_step (fun _ k => XS.iconst X9.here hx rfl (hb hby d11_41) k) ?_
  show own_Go _ _ _ _ T9 (mkF m 42 #[.val (.ref a1), .val (.ref a1)] [(.int (1 : Int32))])
  refine own_step (fun _ k => XS.goto X9.here hx rfl (pc0 := 42) (pc' := 46) rfl (hb hby d11_42) (by decide) (by decide) k) ?_
  show own_Go _ _ _ _ T9 (mkF m 46 #[.val (.ref a1), .val (.ref a1)] [(.int (1 : Int32))])
  exact own_retN X9 hx (t := .boolean) hret (by simp) hlk (hb hby d11_46) rfl (own_N ⟨rfl, N9, e9⟩ (by decide) (by decide)) 
set_option maxRecDepth 65536 in
set_option maxHeartbeats 40000000 in
theorem rm11_d (l : Launch) (Z : State) (a0 : Array Value) (hw : ∀ d ∈ tables_1, d.before a0 Z = true) (ws : List Jvm.Cond) (a1 : Addr) (a2 : Addr) (cz : Int32) (x1 y1 x2 y2 b1 b2 b3 b4 : Addr) (k1 k2 k3 k4 : ClassId) (z1 z2 z3 z4 : Int32) (us vs xs ys : List Int32) (h0 : Heap) (n0 : Nat) (Z0 : n0 ≤ h0.size) (O0 : Old Z n0 h0) (SC : Sta Z Z.heap "java/lang/String" "COMPACT_STRINGS" "Z" (.int cz)) (hcz : ¬ cz = (0 : Int32)) (E_a1 : Exa Z h0 a1 "com/example/tickwright/tickwright/Account") (E_a2 : Exa Z h0 a2 "com/example/tickwright/tickwright/Account") (FB1 : Fld Z h0 a1 "com/example/tickwright/tickwright/Account" "mBroker" "Ljava/lang/String;" (.ref x1)) (FI1 : Fld Z h0 a1 "com/example/tickwright/tickwright/Account" "mId" "Ljava/lang/String;" (.ref y1)) (FB2 : Fld Z h0 a2 "com/example/tickwright/tickwright/Account" "mBroker" "Ljava/lang/String;" (.ref x2)) (FI2 : Fld Z h0 a2 "com/example/tickwright/tickwright/Account" "mId" "Ljava/lang/String;" (.ref y2)) (E_x1 : Exa Z h0 x1 "java/lang/String") (FC_x1 : Fld Z h0 x1 "java/lang/String" "coder" "B" (.int (0 : Int32))) (FV_x1 : Fld Z h0 x1 "java/lang/String" "value" "[B" (.ref b1)) (Vb1 : Arv Z h0 b1 k1 .byte z1 (us.map Value.int) (.int (0 : Int32))) (E_x2 : Exa Z h0 x2 "java/lang/String") (FC_x2 : Fld Z h0 x2 "java/lang/String" "coder" "B" (.int (0 : Int32))) (FV_x2 : Fld Z h0 x2 "java/lang/String" "value" "[B" (.ref b2)) (Vb2 : Arv Z h0 b2 k2 .byte z2 (vs.map Value.int) (.int (0 : Int32))) (E_y1 : Exa Z h0 y1 "java/lang/String") (FC_y1 : Fld Z h0 y1 "java/lang/String" "coder" "B" (.int (0 : Int32))) (FV_y1 : Fld Z h0 y1 "java/lang/String" "value" "[B" (.ref b3)) (Vb3 : Arv Z h0 b3 k3 .byte z3 (xs.map Value.int) (.int (0 : Int32))) (E_y2 : Exa Z h0 y2 "java/lang/String") (FC_y2 : Fld Z h0 y2 "java/lang/String" "coder" "B" (.int (0 : Int32))) (FV_y2 : Fld Z h0 y2 "java/lang/String" "value" "[B" (.ref b4)) (Vb4 : Arv Z h0 b4 k4 .byte z4 (ys.map Value.int) (.int (0 : Int32))) (hl1 : z1.toInt = (us.length : Nat)) (hl2 : z2.toInt = (vs.length : Nat)) (hl3 : z3.toInt = (xs.length : Nat)) (hl4 : z4.toInt = (ys.length : Nat)) (hc1 : us.length ≤ 3) (hc3 : xs.length ≤ 3) (hx12 : ¬ x1 = x2) (hy12 : ¬ y1 = y2) :
    own_Met l (⟨"com/example/tickwright/tickwright/Account", "equals", "(Ljava/lang/Object;)Z"⟩ : MethodName) prog_1_method_7_code 2 (some .boolean) ws ({ frames := 2, cells := 0, slots := 0, locals := 28 } : Room) #[(.ref a1), (.ref a2)] Z h0 (fun v h L => v = some (.int (own_ae (own_eqb us vs) (own_eqb xs ys))) ∧ Fr n0 L ∧ h = h0) := by
  refine own_body (plainFor_of_name pn_3) (ef_11 a1 a2) ?_
  intro p e s m below meth c T0 X0 hx hby hml0 hret hlk hnm hown hZ e0
  have hml : c.maxLocals = 2 := hml0
  have N0 := Fr.nil n0
  refine own_step (fun _ k => XS.aloadN X0.here hx rfl (hb hby d11_0) rfl rfl k) ?_
  show own_Go _ _ _ _ T0 (mkF m 1 #[.val (.ref a1), .val (.ref a2)] [(.ref a2)])
  obtain ⟨T1, X1, e1, st1⟩ := instY X0 hx hZ hown (hw _ (List.mem_of_getElem? (i := 59) rfl)) e0 (Ins.self E_a2) (g := (mkF m 1 #[.val (.ref a1), .val (.ref a2)] [(.ref a2)])) rfl rfl (hb hby d11_1)
  refine own_step st1 ?_
  show own_Go _ _ _ _ T1 (mkF m 4 #[.val (.ref a1), .val (.ref a2)] [(.int (1 : Int32))])
  refine own_step (fun _ k => XS.ifNo X1.here hx rfl (hb hby d11_4) rfl ((if0 _ _).trans (feq (by decide : ¬ ((1 : Int32) = (0 : Int32)))).1) k) ?_
  show own_Go _ _ _ _ T1 (mkF m 7 #[.val (.ref a1), .val (.ref a2)] [])
  refine own_step (fun _ k => XS.aloadN X1.here hx rfl (hb hby d11_7) rfl rfl k) ?_
  show own_Go _ _ _ _ T1 (mkF m 8 #[.val (.ref a1), .val (.ref a2)] [(.ref a1)])
  obtain ⟨T2, X2, e2, st2⟩ := getF X1 hx hZ hown (host := "") (Or.inl (hw _ (List.mem_of_getElem? (i := 47) rfl))) Via.refl e1 FB1 (g := (mkF m 8 #[.val (.ref a1), .val (.ref a2)] [(.ref a1)])) rfl rfl (hb hby d11_8)
  refine own_step st2 ?_
  show own_Go _ _ _ _ T2 (mkF m 11 #[.val (.ref a1), .val (.ref a2)] [(.ref x1)])
  refine own_step (fun _ k => XS.aloadN X2.here hx rfl (hb hby d11_11) rfl rfl k) ?_
  show own_Go _ _ _ _ T2 (mkF m 12 #[.val (.ref a1), .val (.ref a2)] [(.ref a2), (.ref x1)])
  obtain ⟨T3, X3, e3, st3⟩ := castY X2 hx hZ hown (hw _ (List.mem_of_getElem? (i := 59) rfl)) e2 (Ins.self E_a2) (g := (mkF m 12 #[.val (.ref a1), .val (.ref a2)] [(.ref a2), (.ref x1)])) rfl rfl (hb hby d11_12)
  refine own_step st3 ?_
  show own_Go _ _ _ _ T3 (mkF m 15 #[.val (.ref a1), .val (.ref a2)] [(.ref a2), (.ref x1)])
  obtain ⟨T4, X4, e4, st4⟩ := getF X3 hx hZ hown (host := "") (Or.inl (hw _ (List.mem_of_getElem? (i := 47) rfl))) Via.refl e3 FB2 (g := (mkF m 15 #[.val (.ref a1), .val (.ref a2)] [(.ref a2), (.ref x1)])) rfl rfl (hb hby d11_15)
  refine own_step st4 ?_
  show own_Go _ _ _ _ T4 (mkF m 18 #[.val (.ref a1), .val (.ref a2)] [(.ref x2), (.ref x1)])
  refine own_callV X4 hx hZ (y := (⟨"java/lang/String", "equals", "(Ljava/lang/Object;)Z"⟩ : MethodName)) (z := (⟨"java/lang/String", "equals", "(Ljava/lang/Object;)Z"⟩ : MethodName)) hown (hw _ (List.mem_of_getElem? (i := 61) rfl)) (hw _ (List.mem_of_getElem? (i := 62) rfl)) (hw _ (List.mem_of_getElem? (i := 64) rfl)) (hw _ (List.mem_of_getElem? (i := 64) rfl)) (hw _ (List.mem_of_getElem? (i := 63) rfl)) (hw _ (List.mem_of_getElem? (i := 9) rfl)) (hw _ (List.mem_of_getElem? (i := 65) rfl)) (by decide) (rm12_d l Z a0 hw [] x1 x2 cz b1 b2 k1 k2 z1 z2 us vs h0 n0 Z0 O0 SC hcz E_x1 FC_x1 FV_x1 Vb1 E_x2 FC_x2 FV_x2 Vb2 hl1 hl2 hc1 hx12) e4 (b := x1) E_x1 0 (by decide) (by decide) (by decide) (by decide) (g := (mkF m 18 #[.val (.ref a1), .val (.ref a2)] [(.ref x2), (.ref x1)])) rfl (by rw [hml]; rfl) [(.ref x2)] [] pd_7 rfl rfl rfl (by show 2 * 0 + _ ≤ _; exact Nat.le_of_eq rfl) (hb hby d11_18) ?_
  rintro v5 T5 L5 X5 ⟨rfl, Nq5, e5⟩
  have N5 := Fr.app N0 Nq5
  show own_Go _ _ _ _ T5 (mkF m 21 #[.val (.ref a1), .val (.ref a2)] [(.int (own_eqb us vs))])
  by_cases hc6 : (own_eqb us vs) = (0 : Int32)
  · refine own_step (fun _ k => XS.ifYes X5.here hx rfl (pc0 := 21) (pc' := 45) rfl (hb hby d11_21) rfl ((if0 _ _).trans (teq hc6).1) (by decide) (by decide) k) ?_
    show own_Go _ _ _ _ T5 (mkF m 45 #[.val (.ref a1), .val (.ref a2)] [])
    refine own_step (fun _ k => XS.iconst X5.here hx rfl (hb hby d11_45) k) ?_
    show own_Go _ _ _ _ T5 (mkF m 46 #[.val (.ref a1), .val (.ref a2)] [(.int (0 : Int32))])
    exact own_retN X5 hx (t := .boolean) hret (by simp) hlk (hb hby d11_46) rfl (own_N ⟨own_leafI (if_pos hc6), N5, e5⟩ (by decide) (by decide)) 
  · refine own_step (fun _ k => XS.ifNo X5.here hx rfl (hb hby d11_21) rfl ((if0 _ _).trans (feq hc6).1) k) ?_
    show own_Go _ _ _ _ T5 (mkF m 24 #[.val (.ref a1), .val (.ref a2)] [])
    refine own_step (fun _ k => XS.aloadN X5.here hx rfl (hb hby d11_24) rfl rfl k) ?_
    show own_Go _ _ _ _ T5 (mkF m 25 #[.val (.ref a1), .val (.ref a2)] [(.ref a1)])
    obtain ⟨T7, X7, e7, st7⟩ := getF X5 hx hZ hown (host := "") (Or.inl (hw _ (List.mem_of_getElem? (i := 49) rfl))) Via.refl e5 FI1 (g := (mkF m 25 #[.val (.ref a1), .val (.ref a2)] [(.ref a1)])) rfl rfl (hb hby d11_25)
    refine own_step st7 ?_
    show own_Go _ _ _ _ T7 (mkF m 28 #[.val (.ref a1), .val (.ref a2)] [(.ref y1)])
    refine own_step (fun _ k => XS.aloadN X7.here hx rfl (hb hby d11_28) rfl rfl k) ?_
    show own_Go _ _ _ _ T7 (mkF m 29 #[.val (.ref a1), .val (.ref a2)] [(.ref a2), (.ref y1)])
    obtain ⟨T8, X8, e8, st8⟩ := castY X7 hx hZ hown (hw _ (List.mem_of_getElem? (i := 59) rfl)) e7 (Ins.self E_a2) (g := (mkF m 29 #[.val (.ref a1), .val (.ref a2)] [(.ref a2), (.ref y1)])) rfl rfl (hb hby d11_29)
    refine own_step st8 ?_
    show own_Go _ _ _ _ T8 (mkF m 32 #[.val (.ref a1), .val (.ref a2)] [(.ref a2), (.ref y1)])
    obtain ⟨T9, X9, e9, st9⟩ := getF X8 hx hZ hown (host := "") (Or.inl (hw _ (List.mem_of_getElem? (i := 49) rfl))) Via.refl e8 FI2 (g := (mkF m 32 #[.val (.ref a1), .val (.ref a2)] [(.ref a2), (.ref y1)])) rfl rfl (hb hby d11_32)
    refine own_step st9 ?_
    show own_Go _ _ _ _ T9 (mkF m 35 #[.val (.ref a1), .val (.ref a2)] [(.ref y2), (.ref y1)])
    refine own_callV X9 hx hZ (y := (⟨"java/lang/String", "equals", "(Ljava/lang/Object;)Z"⟩ : MethodName)) (z := (⟨"java/lang/String", "equals", "(Ljava/lang/Object;)Z"⟩ : MethodName)) hown (hw _ (List.mem_of_getElem? (i := 61) rfl)) (hw _ (List.mem_of_getElem? (i := 62) rfl)) (hw _ (List.mem_of_getElem? (i := 64) rfl)) (hw _ (List.mem_of_getElem? (i := 64) rfl)) (hw _ (List.mem_of_getElem? (i := 63) rfl)) (hw _ (List.mem_of_getElem? (i := 9) rfl)) (hw _ (List.mem_of_getElem? (i := 65) rfl)) (by decide) (rm12_d l Z a0 hw [] y1 y2 cz b3 b4 k3 k4 z3 z4 xs ys h0 n0 Z0 O0 SC hcz E_y1 FC_y1 FV_y1 Vb3 E_y2 FC_y2 FV_y2 Vb4 hl3 hl4 hc3 hy12) e9 (b := y1) E_y1 0 (by decide) (by decide) (by decide) (by decide) (g := (mkF m 35 #[.val (.ref a1), .val (.ref a2)] [(.ref y2), (.ref y1)])) rfl (by rw [hml]; rfl) [(.ref y2)] [] pd_7 rfl rfl rfl (by show 2 * 0 + _ ≤ _; exact Nat.le_of_eq rfl) (hb hby d11_35) ?_
    rintro v10 T10 L10 X10 ⟨rfl, Nq10, e10⟩
    have N10 := Fr.app N5 Nq10
    show own_Go _ _ _ _ T10 (mkF m 38 #[.val (.ref a1), .val (.ref a2)] [(.int (own_eqb xs ys))])
    by_cases hc11 : (own_eqb xs ys) = (0 : Int32)
    · refine own_step (fun _ k => XS.ifYes X10.here hx rfl (pc0 := 38) (pc' := 45) rfl (hb hby d11_38) rfl ((if0 _ _).trans (teq hc11).1) (by decide) (by decide) k) ?_
      show own_Go _ _ _ _ T10 (mkF m 45 #[.val (.ref a1), .val (.ref a2)] [])
      refine own_step (fun _ k => XS.iconst X10.here hx rfl (hb hby d11_45) k) ?_
      show own_Go _ _ _ _ T10 (mkF m 46 #[.val (.ref a1), .val (.ref a2)] [(.int (0 : Int32))])
      exact own_retN X10 hx (t := .boolean) hret (by simp) hlk (hb hby d11_46) rfl (own_N ⟨own_leafI ((if_neg hc6).trans (if_pos hc11)), N10, e10⟩ (by decide) (by decide)) 
    · refine own_step (fun _ k => XS.ifNo X10.here hx rfl (hb hby d11_38) rfl ((if0 _ _).trans (feq hc11).1) k) ?_
      show own_Go _ _ _ _ T10 (mkF m 41 #[.val (.ref a1), .val (.ref a2)] [])
      refine own_step (fun _ k => XS.iconst X10.here hx rfl (hb hby d11_41) k) ?_
      show own_Go _ _ _ _ T10 (mkF m 42 #[.val (.ref a1), .val (.ref a2)] [(.int (1 : Int32))])
      refine own_step (fun _ k => XS.goto X10.here hx rfl (pc0 := 42) (pc' := 46) rfl (hb hby d11_42) (by decide) (by decide) k) ?_
      show own_Go _ _ _ _ T10 (mkF m 46 #[.val (.ref a1), .val (.ref a2)] [(.int (1 : Int32))])
      exact own_retN X10 hx (t := .boolean) hret (by simp) hlk (hb hby d11_46) rfl (own_N ⟨own_leafI ((if_neg hc6).trans (if_neg hc11)), N10, e10⟩ (by decide) (by decide)) 
theorem ef_0 (p1 : Int32) (p2 : Int32) (p3 : Int32) (p4 : Int32) (p5 : Int32) (m : MethodId) : entryFrame m #[(.int p1), (.int p2), (.int p3), (.int p4), (.int p5)] maxLocals = mkF m 0 #[.val (.int p1), .val (.int p2), .val (.int p3), .val (.int p4), .val (.int p5), .unset, .unset, .unset, .unset, .unset, .unset, .unset, .unset] [] := by first | (simp [entryFrame, mkF, argsToLocals, Value.category, maxLocals]; done) | rfl
theorem pd_8 : parseMethodDescriptor "(I)Ljava/lang/String;" = some ⟨[.int], some (.object "java/lang/String")⟩ := by decide +kernel
theorem pd_9 : parseMethodDescriptor "(Ljava/lang/String;Ljava/lang/String;)V" = some ⟨[(.object "java/lang/String"), (.object "java/lang/String")], none⟩ := by decide +kernel
theorem pd_10 : parseMethodDescriptor "(II)Z" = some ⟨[.int, .int], some .boolean⟩ := by decide +kernel
set_option maxRecDepth 65536 in
set_option maxHeartbeats 40000000 in
theorem rm0 (l : Launch) (Z : State) (a0 : Array Value) (hw : ∀ d ∈ tables_1, d.before a0 Z = true) (ws : List Jvm.Cond) (p1 : Int32) (p2 : Int32) (p3 : Int32) (p4 : Int32) (p5 : Int32) (cz : Int32) (h0 : Heap) (n0 : Nat) (Z0 : n0 ≤ h0.size) (hEL : EW Z a0 own_EL) (O0 : Old Z n0 h0) (SC : Sta Z Z.heap "java/lang/String" "COMPACT_STRINGS" "Z" (.int cz)) (hcz : ¬ cz = (0 : Int32)) :
    own_MetW l x code maxLocals ret ws room_1 #[(.int p1), (.int p2), (.int p3), (.int p4), (.int p5)] Z own_EL h0 (fun v h L => v = some (.int (1 : Int32)) ∧ Fr n0 L) := by
  refine own_bodyW (plainFor_of_name pn_2) (ef_0 p1 p2 p3 p4 p5) ?_
  intro p e s m below meth c T0 X0 hx hby hml0 hret hlk hnm hown hZ e0 eS H0 hS0
  have C0 := CHr.refl H0
  have hml : c.maxLocals = 13 := hml0
  have N0 := Fr.nil n0
  have join : ∀ x5 x6 : Int32, own_Go p e below (own_EndW below s Z own_EL (fun v h L => v = some (.int (1 : Int32)) ∧ Fr n0 L) room_1.cells room_1.slots) T0 (mkF m 26 #[.val (.int p1), .val (.int p2), .val (.int p3), .val (.int p4), .val (.int p5), .val (.int x5), .val (.int x6), .unset, .unset, .unset, .unset, .unset, .unset] []) := by
    intro x5 x6
    refine own_step (fun _ k => XS.iload X0.here hx rfl (hb hby at_26) rfl k) ?_
    show own_Go _ _ _ _ T0 (mkF m 28 #[.val (.int p1), .val (.int p2), .val (.int p3), .val (.int p4), .val (.int p5), .val (.int x5), .val (.int x6), .unset, .unset, .unset, .unset, .unset, .unset] [(.int p5)])
    refine own_step (fun _ k => XS.iconst X0.here hx rfl (hb hby at_28) k) ?_
    show own_Go _ _ _ _ T0 (mkF m 29 #[.val (.int p1), .val (.int p2), .val (.int p3), .val (.int p4), .val (.int p5), .val (.int x5), .val (.int x6), .unset, .unset, .unset, .unset, .unset, .unset] [(.int (2 : Int32)), (.int p5)])
    refine own_step (fun _ k => XS.iushr X0.here hx rfl (hb hby at_29) rfl k) ?_
    show own_Go _ _ _ _ T0 (mkF m 30 #[.val (.int p1), .val (.int p2), .val (.int p3), .val (.int p4), .val (.int p5), .val (.int x5), .val (.int x6), .unset, .unset, .unset, .unset, .unset, .unset] [(.int ((p5.toUInt32 >>> ((2 : Int32) &&& 31).toUInt32).toInt32))])
    refine own_step (fun _ k => XS.iconst X0.here hx rfl (hb hby at_30) k) ?_
    show own_Go _ _ _ _ T0 (mkF m 31 #[.val (.int p1), .val (.int p2), .val (.int p3), .val (.int p4), .val (.int p5), .val (.int x5), .val (.int x6), .unset, .unset, .unset, .unset, .unset, .unset] [(.int (3 : Int32)), (.int ((p5.toUInt32 >>> ((2 : Int32) &&& 31).toUInt32).toInt32))])
    refine own_step (fun _ k => XS.iand X0.here hx rfl (hb hby at_31) rfl k) ?_
    show own_Go _ _ _ _ T0 (mkF m 32 #[.val (.int p1), .val (.int p2), .val (.int p3), .val (.int p4), .val (.int p5), .val (.int x5), .val (.int x6), .unset, .unset, .unset, .unset, .unset, .unset] [(.int (((p5.toUInt32 >>> ((2 : Int32) &&& 31).toUInt32).toInt32) &&& (3 : Int32)))])
    refine own_step (fun _ k => XS.istore X0.here hx rfl (hb hby at_32) rfl (l' := #[.val (.int p1), .val (.int p2), .val (.int p3), .val (.int p4), .val (.int p5), .val (.int x5), .val (.int x6), .val (.int (((p5.toUInt32 >>> ((2 : Int32) &&& 31).toUInt32).toInt32) &&& (3 : Int32))), .unset, .unset, .unset, .unset, .unset]) rfl k) ?_
    show own_Go _ _ _ _ T0 (mkF m 34 #[.val (.int p1), .val (.int p2), .val (.int p3), .val (.int p4), .val (.int p5), .val (.int x5), .val (.int x6), .val (.int (((p5.toUInt32 >>> ((2 : Int32) &&& 31).toUInt32).toInt32) &&& (3 : Int32))), .unset, .unset, .unset, .unset, .unset] [])
    obtain ⟨T1, h1, X1, e1, E1, A1, D1, -, st1⟩ := newO X0 hx hZ hown (hw _ (List.mem_of_getElem? (i := 0) rfl)) (hw _ (List.mem_of_getElem? (i := 1) rfl)) (hw _ (List.mem_of_getElem? (i := 2) rfl)) e0 (g := (mkF m 34 #[.val (.int p1), .val (.int p2), .val (.int p3), .val (.int p4), .val (.int p5), .val (.int x5), .val (.int x6), .val (.int (((p5.toUInt32 >>> ((2 : Int32) &&& 31).toUInt32).toInt32) &&& (3 : Int32))), .unset, .unset, .unset, .unset, .unset] [])) rfl (hb hby at_34) (by decide) (by decide)
    obtain ⟨b1, g1⟩ : ∃ z, z = h0.size := ⟨_, rfl⟩
    rw [← g1] at A1 D1 st1
    have g_b1 : n0 ≤ b1 := Nat.le_trans Z0 (Nat.le_of_eq g1.symm)
    refine own_step st1 ?_
    have Dc1 := (CHr.ext E1 C0.1)
    have C1 := C0.trans Dc1
    have hk1 := Nat.le_trans (Nat.le_refl _) Dc1.2.1
    have Z1 := Nat.le_trans Z0 E1.1
    have F_mBroker_b1 : Fld Z h1 b1 "com/example/tickwright/tickwright/Account" "mBroker" "Ljava/lang/String;" .null := D1 (Or.inr (hw _ (List.mem_of_getElem? (i := 48) rfl))) (ty := (.object "java/lang/String")) (by decide)
    have F_mId_b1 : Fld Z h1 b1 "com/example/tickwright/tickwright/Account" "mId" "Ljava/lang/String;" .null := D1 (Or.inr (hw _ (List.mem_of_getElem? (i := 50) rfl))) (ty := (.object "java/lang/String")) (by decide)
    show own_Go _ _ _ _ T1 (mkF m 37 #[.val (.int p1), .val (.int p2), .val (.int p3), .val (.int p4), .val (.int p5), .val (.int x5), .val (.int x6), .val (.int (((p5.toUInt32 >>> ((2 : Int32) &&& 31).toUInt32).toInt32) &&& (3 : Int32))), .unset, .unset, .unset, .unset, .unset] [(.ref b1)])
    refine own_step (fun _ k => XS.dup X1.here hx rfl (hb hby at_37) rfl rfl k) ?_
    show own_Go _ _ _ _ T1 (mkF m 38 #[.val (.int p1), .val (.int p2), .val (.int p3), .val (.int p4), .val (.int p5), .val (.int x5), .val (.int x6), .val (.int (((p5.toUInt32 >>> ((2 : Int32) &&& 31).toUInt32).toInt32) &&& (3 : Int32))), .unset, .unset, .unset, .unset, .unset] [(.ref b1), (.ref b1)])
    refine own_step (fun _ k => XS.iloadN X1.here hx rfl (hb hby at_38) rfl k) ?_
    show own_Go _ _ _ _ T1 (mkF m 39 #[.val (.int p1), .val (.int p2), .val (.int p3), .val (.int p4), .val (.int p5), .val (.int x5), .val (.int x6), .val (.int (((p5.toUInt32 >>> ((2 : Int32) &&& 31).toUInt32).toInt32) &&& (3 : Int32))), .unset, .unset, .unset, .unset, .unset] [(.int p1), (.ref b1), (.ref b1)])
    have Q2 := (O0.ext E1)
    refine own_callSW X1 hx hZ (y := (⟨"com/example/tickwright/tickwright/AccountEqualsPinLaw", "str", "(I)Ljava/lang/String;"⟩ : MethodName)) hown (hw _ (List.mem_of_getElem? (i := 3) rfl)) (hw _ (List.mem_of_getElem? (i := 4) rfl)) (hw _ (List.mem_of_getElem? (i := 5) rfl)) (hw _ (List.mem_of_getElem? (i := 6) rfl)) (by decide) (rm1 l Z a0 hw [] p1 cz h1 n0 Z1 hEL Q2 SC hcz) e1 hEL C1.1 hS0 hk1 2 (by decide) (by decide) (by decide) (by decide) (g := (mkF m 39 #[.val (.int p1), .val (.int p2), .val (.int p3), .val (.int p4), .val (.int p5), .val (.int x5), .val (.int x6), .val (.int (((p5.toUInt32 >>> ((2 : Int32) &&& 31).toUInt32).toInt32) &&& (3 : Int32))), .unset, .unset, .unset, .unset, .unset] [(.int p1), (.ref b1), (.ref b1)])) rfl (by rw [hml]; rfl) [(.int p1)] [(.ref b1), (.ref b1)] pd_8 rfl rfl rfl (by show 2 * 0 + _ ≤ _; exact Nat.le_of_eq rfl) (hb hby at_39) ?_
    rintro v3 T3 L3 X3 ⟨so3, sv3, sk3, rfl, Nq3, K3, sz3, ⟨EX3, FC3, FV3⟩, V3⟩ D3 hS3 hZ hown
    have N3 := Fr.app N0 Nq3
    show own_Go _ _ _ _ T3 (mkF m 42 #[.val (.int p1), .val (.int p2), .val (.int p3), .val (.int p4), .val (.int p5), .val (.int x5), .val (.int x6), .val (.int (((p5.toUInt32 >>> ((2 : Int32) &&& 31).toUInt32).toInt32) &&& (3 : Int32))), .unset, .unset, .unset, .unset, .unset] [(.ref so3), (.ref b1), (.ref b1)])
    have ne_b1_so3 : b1 ≠ so3 := Nat.ne_of_lt (Nat.lt_of_lt_of_le A1.lt sz3)
    have Dc3 := D3
    have C3 := C1.trans Dc3
    have Z3 := Nat.le_trans Z1 K3.1
    have Q4 := (A1.keep K3)
    have ne_b1_sv3 : b1 ≠ sv3 := Exa.neArv Q4 V3 (hw _ (List.mem_of_getElem? (i := 1) rfl))
    refine own_step (fun _ k => XS.iloadN X3.here hx rfl (hb hby at_42) rfl k) ?_
    show own_Go _ _ _ _ T3 (mkF m 43 #[.val (.int p1), .val (.int p2), .val (.int p3), .val (.int p4), .val (.int p5), .val (.int x5), .val (.int x6), .val (.int (((p5.toUInt32 >>> ((2 : Int32) &&& 31).toUInt32).toInt32) &&& (3 : Int32))), .unset, .unset, .unset, .unset, .unset] [(.int p2), (.ref so3), (.ref b1), (.ref b1)])
    have Q5 := (Q2.keep K3 all0)
    refine own_callSW X3 hx hZ (y := (⟨"com/example/tickwright/tickwright/AccountEqualsPinLaw", "str", "(I)Ljava/lang/String;"⟩ : MethodName)) hown (hw _ (List.mem_of_getElem? (i := 3) rfl)) (hw _ (List.mem_of_getElem? (i := 4) rfl)) (hw _ (List.mem_of_getElem? (i := 5) rfl)) (hw _ (List.mem_of_getElem? (i := 6) rfl)) (by decide) (rm1 l Z a0 hw [] p2 cz T3.heap n0 Z3 hEL Q5 SC hcz) rfl hEL C3.1 hS3 (Nat.le_refl _) 3 (by decide) (by decide) (by decide) (by decide) (g := (mkF m 43 #[.val (.int p1), .val (.int p2), .val (.int p3), .val (.int p4), .val (.int p5), .val (.int x5), .val (.int x6), .val (.int (((p5.toUInt32 >>> ((2 : Int32) &&& 31).toUInt32).toInt32) &&& (3 : Int32))), .unset, .unset, .unset, .unset, .unset] [(.int p2), (.ref so3), (.ref b1), (.ref b1)])) rfl (by rw [hml]; rfl) [(.int p2)] [(.ref so3), (.ref b1), (.ref b1)] pd_8 rfl rfl rfl (by show 2 * 0 + _ ≤ _; exact Nat.le_of_eq rfl) (hb hby at_43) ?_
    rintro v6 T6 L6 X6 ⟨so6, sv6, sk6, rfl, Nq6, K6, sz6, ⟨EX6, FC6, FV6⟩, V6⟩ D6 hS6 hZ hown
    have N6 := Fr.app N3 Nq6
    show own_Go _ _ _ _ T6 (mkF m 46 #[.val (.int p1), .val (.int p2), .val (.int p3), .val (.int p4), .val (.int p5), .val (.int x5), .val (.int x6), .val (.int (((p5.toUInt32 >>> ((2 : Int32) &&& 31).toUInt32).toInt32) &&& (3 : Int32))), .unset, .unset, .unset, .unset, .unset] [(.ref so6), (.ref so3), (.ref b1), (.ref b1)])
    have ne_b1_so6 : b1 ≠ so6 := Nat.ne_of_lt (Nat.lt_of_lt_of_le Q4.lt sz6)
    have ne_so3_so6 : so3 ≠ so6 := Nat.ne_of_lt (Nat.lt_of_lt_of_le EX3.lt sz6)
    have ne_sv3_so6 : sv3 ≠ so6 := Nat.ne_of_lt (Nat.lt_of_lt_of_le V3.lt sz6)
    have Dc6 := D6
    have C6 := C3.trans Dc6
    have Z6 := Nat.le_trans Z3 K6.1
    have Q7 := (Q4.keep K6)
    have ne_b1_sv6 : b1 ≠ sv6 := Exa.neArv Q7 V6 (hw _ (List.mem_of_getElem? (i := 1) rfl))
    have Q8 := ((F_mBroker_b1.keep K3 nin0).keep K6 nin0)
    have Q9 := ((F_mId_b1.keep K3 nin0).keep K6 nin0)
    refine own_callC X6 hx hZ (y := (⟨"com/example/tickwright/tickwright/Account", "<init>", "(Ljava/lang/String;Ljava/lang/String;)V"⟩ : MethodName)) rfl hown (hw _ (List.mem_of_getElem? (i := 43) rfl)) (hw _ (List.mem_of_getElem? (i := 44) rfl)) (hw _ (List.mem_of_getElem? (i := 2) rfl)) (hw _ (List.mem_of_getElem? (i := 45) rfl)) (by decide) (rm9 l Z a0 hw [] b1 so3 so6  T6.heap n0 Z6 Q7 Q8 Q9 g_b1) rfl (b := b1) 1 (by decide) (by decide) (by decide) (by decide) (g := (mkF m 46 #[.val (.int p1), .val (.int p2), .val (.int p3), .val (.int p4), .val (.int p5), .val (.int x5), .val (.int x6), .val (.int (((p5.toUInt32 >>> ((2 : Int32) &&& 31).toUInt32).toInt32) &&& (3 : Int32))), .unset, .unset, .unset, .unset, .unset] [(.ref so6), (.ref so3), (.ref b1), (.ref b1)])) rfl (by rw [hml]; rfl) [(.ref so3), (.ref so6)] [(.ref b1)] pd_9 rfl rfl rfl (by show 2 * 0 + _ ≤ _; exact Nat.le_of_eq rfl) (hb hby at_46) ?_
    rintro v10 T10 L10 X10 ⟨rfl, Nq10, K10, FB10, FI10⟩
    have N10 := Fr.app N6 Nq10
    show own_Go _ _ _ _ T10 (mkF m 49 #[.val (.int p1), .val (.int p2), .val (.int p3), .val (.int p4), .val (.int p5), .val (.int x5), .val (.int x6), .val (.int (((p5.toUInt32 >>> ((2 : Int32) &&& 31).toUInt32).toInt32) &&& (3 : Int32))), .unset, .unset, .unset, .unset, .unset] [(.ref b1)])
    have Dc10 := (CHr.keep K10 (sfS (Safe.exa (EL := own_EL) hZ.alike Q7 (by decide) (by decide)) sf0) C6.1)
    have C10 := C6.trans Dc10
    have hk10 := Nat.le_trans (Nat.le_refl _) Dc10.2.1
    have Z10 := Nat.le_trans Z6 K10.1
    refine own_step (fun _ k => XS.astore X10.here hx rfl (hb hby at_49) rfl rfl (l' := #[.val (.int p1), .val (.int p2), .val (.int p3), .val (.int p4), .val (.int p5), .val (.int x5), .val (.int x6), .val (.int (((p5.toUInt32 >>> ((2 : Int32) &&& 31).toUInt32).toInt32) &&& (3 : Int32))), .val (.ref b1), .unset, .unset, .unset, .unset]) rfl k) ?_
    show own_Go _ _ _ _ T10 (mkF m 51 #[.val (.int p1), .val (.int p2), .val (.int p3), .val (.int p4), .val (.int p5), .val (.int x5), .val (.int x6), .val (.int (((p5.toUInt32 >>> ((2 : Int32) &&& 31).toUInt32).toInt32) &&& (3 : Int32))), .val (.ref b1), .unset, .unset, .unset, .unset] [])
    refine own_step (fun _ k => XS.aconstNull X10.here hx rfl (hb hby at_51) k) ?_
    show own_Go _ _ _ _ T10 (mkF m 52 #[.val (.int p1), .val (.int p2), .val (.int p3), .val (.int p4), .val (.int p5), .val (.int x5), .val (.int x6), .val (.int (((p5.toUInt32 >>> ((2 : Int32) &&& 31).toUInt32).toInt32) &&& (3 : Int32))), .val (.ref b1), .unset, .unset, .unset, .unset] [.null])
    refine own_step (fun _ k => XS.astore X10.here hx rfl (hb hby at_52) rfl rfl (l' := #[.val (.int p1), .val (.int p2), .val (.int p3), .val (.int p4), .val (.int p5), .val (.int x5), .val (.int x6), .val (.int (((p5.toUInt32 >>> ((2 : Int32) &&& 31).toUInt32).toInt32) &&& (3 : Int32))), .val (.ref b1), .val .null, .unset, .unset, .unset]) rfl k) ?_
    show own_Go _ _ _ _ T10 (mkF m 54 #[.val (.int p1), .val (.int p2), .val (.int p3), .val (.int p4), .val (.int p5), .val (.int x5), .val (.int x6), .val (.int (((p5.toUInt32 >>> ((2 : Int32) &&& 31).toUInt32).toInt32) &&& (3 : Int32))), .val (.ref b1), .val .null, .unset, .unset, .unset] [])
    refine own_step (fun _ k => XS.iload X10.here hx rfl (hb hby at_54) rfl k) ?_
    show own_Go _ _ _ _ T10 (mkF m 56 #[.val (.int p1), .val (.int p2), .val (.int p3), .val (.int p4), .val (.int p5), .val (.int x5), .val (.int x6), .val (.int (((p5.toUInt32 >>> ((2 : Int32) &&& 31).toUInt32).toInt32) &&& (3 : Int32))), .val (.ref b1), .val .null, .unset, .unset, .unset] [(.int (((p5.toUInt32 >>> ((2 : Int32) &&& 31).toUInt32).toInt32) &&& (3 : Int32)))])
    by_cases hc11 : (((p5.toUInt32 >>> ((2 : Int32) &&& 31).toUInt32).toInt32) &&& (3 : Int32)) = (0 : Int32)
    · refine own_step (fun _ k => XS.ifNo X10.here hx rfl (hb hby at_56) rfl ((if0 _ _).trans (teq hc11).2) k) ?_
      show own_Go _ _ _ _ T10 (mkF m 59 #[.val (.int p1), .val (.int p2), .val (.int p3), .val (.int p4), .val (.int p5), .val (.int x5), .val (.int x6), .val (.int (((p5.toUInt32 >>> ((2 : Int32) &&& 31).toUInt32).toInt32) &&& (3 : Int32))), .val (.ref b1), .val .null, .unset, .unset, .unset] [])
      obtain ⟨T12, h12, X12, e12, E12, A12, D12, -, st12⟩ := newO X10 hx hZ hown (hw _ (List.mem_of_getElem? (i := 0) rfl)) (hw _ (List.mem_of_getElem? (i := 1) rfl)) (hw _ (List.mem_of_getElem? (i := 2) rfl)) rfl (g := (mkF m 59 #[.val (.int p1), .val (.int p2), .val (.int p3), .val (.int p4), .val (.int p5), .val (.int x5), .val (.int x6), .val (.int (((p5.toUInt32 >>> ((2 : Int32) &&& 31).toUInt32).toInt32) &&& (3 : Int32))), .val (.ref b1), .val .null, .unset, .unset, .unset] [])) rfl (hb hby at_59) (by decide) (by decide)
      obtain ⟨b12, g12⟩ : ∃ z, z = T10.heap.size := ⟨_, rfl⟩
      rw [← g12] at A12 D12 st12
      have Q13 := (Q7.keep K10)
      have ne_b1_b12 : b1 ≠ b12 := Nat.ne_of_lt (Nat.lt_of_lt_of_eq Q13.lt g12.symm)
      have Q14 := ((EX3.keep K6).keep K10)
      have ne_so3_b12 : so3 ≠ b12 := Nat.ne_of_lt (Nat.lt_of_lt_of_eq Q14.lt g12.symm)
      have Q15 := ((V3.keep K6 nin0).keep K10 (ninS (Ne.symm ne_b1_sv3) nin0))
      have ne_sv3_b12 : sv3 ≠ b12 := Nat.ne_of_lt (Nat.lt_of_lt_of_eq Q15.lt g12.symm)
      have Q16 := (EX6.keep K10)
      have ne_so6_b12 : so6 ≠ b12 := Nat.ne_of_lt (Nat.lt_of_lt_of_eq Q16.lt g12.symm)
      have Q17 := (V6.keep K10 (ninS (Ne.symm ne_b1_sv6) nin0))
      have ne_sv6_b12 : sv6 ≠ b12 := Nat.ne_of_lt (Nat.lt_of_lt_of_eq Q17.lt g12.symm)
      have g_b12 : n0 ≤ b12 := Nat.le_trans Z10 (Nat.le_of_eq g12.symm)
      refine own_step st12 ?_
      have Dc12 := (CHr.ext E12 C10.1)
      have C12 := C10.trans Dc12
      have hk12 := Nat.le_trans hk10 Dc12.2.1
      have Z12 := Nat.le_trans Z10 E12.1
      have F_mBroker_b12 : Fld Z h12 b12 "com/example/tickwright/tickwright/Account" "mBroker" "Ljava/lang/String;" .null := D12 (Or.inr (hw _ (List.mem_of_getElem? (i := 48) rfl))) (ty := (.object "java/lang/String")) (by decide)
      have F_mId_b12 : Fld Z h12 b12 "com/example/tickwright/tickwright/Account" "mId" "Ljava/lang/String;" .null := D12 (Or.inr (hw _ (List.mem_of_getElem? (i := 50) rfl))) (ty := (.object "java/lang/String")) (by decide)
      show own_Go _ _ _ _ T12 (mkF m 62 #[.val (.int p1), .val (.int p2), .val (.int p3), .val (.int p4), .val (.int p5), .val (.int x5), .val (.int x6), .val (.int (((p5.toUInt32 >>> ((2 : Int32) &&& 31).toUInt32).toInt32) &&& (3 : Int32))), .val (.ref b1), .val .null, .unset, .unset, .unset] [(.ref b12)])
      refine own_step (fun _ k => XS.dup X12.here hx rfl (hb hby at_62) rfl rfl k) ?_
      show own_Go _ _ _ _ T12 (mkF m 63 #[.val (.int p1), .val (.int p2), .val (.int p3), .val (.int p4), .val (.int p5), .val (.int x5), .val (.int x6), .val (.int (((p5.toUInt32 >>> ((2 : Int32) &&& 31).toUInt32).toInt32) &&& (3 : Int32))), .val (.ref b1), .val .null, .unset, .unset, .unset] [(.ref b12), (.ref b12)])
      refine own_step (fun _ k => XS.iload X12.here hx rfl (hb hby at_63) rfl k) ?_
      show own_Go _ _ _ _ T12 (mkF m 65 #[.val (.int p1), .val (.int p2), .val (.int p3), .val (.int p4), .val (.int p5), .val (.int x5), .val (.int x6), .val (.int (((p5.toUInt32 >>> ((2 : Int32) &&& 31).toUInt32).toInt32) &&& (3 : Int32))), .val (.ref b1), .val .null, .unset, .unset, .unset] [(.int x5), (.ref b12), (.ref b12)])
      have Q18 := (((Q5.keep K6 all0).keep K10 (allS g_b1 all0)).ext E12)
      refine own_callSW X12 hx hZ (y := (⟨"com/example/tickwright/tickwright/AccountEqualsPinLaw", "str", "(I)Ljava/lang/String;"⟩ : MethodName)) hown (hw _ (List.mem_of_getElem? (i := 3) rfl)) (hw _ (List.mem_of_getElem? (i := 4) rfl)) (hw _ (List.mem_of_getElem? (i := 5) rfl)) (hw _ (List.mem_of_getElem? (i := 6) rfl)) (by decide) (rm1 l Z a0 hw [] x5 cz h12 n0 Z12 hEL Q18 SC hcz) e12 hEL C12.1 hS6 hk12 2 (by decide) (by decide) (by decide) (by decide) (g := (mkF m 65 #[.val (.int p1), .val (.int p2), .val (.int p3), .val (.int p4), .val (.int p5), .val (.int x5), .val (.int x6), .val (.int (((p5.toUInt32 >>> ((2 : Int32) &&& 31).toUInt32).toInt32) &&& (3 : Int32))), .val (.ref b1), .val .null, .unset, .unset, .unset] [(.int x5), (.ref b12), (.ref b12)])) rfl (by rw [hml]; rfl) [(.int x5)] [(.ref b12), (.ref b12)] pd_8 rfl rfl rfl (by show 2 * 0 + _ ≤ _; exact Nat.le_of_eq rfl) (hb hby at_65) ?_
      rintro v19 T19 L19 X19 ⟨so19, sv19, sk19, rfl, Nq19, K19, sz19, ⟨EX19, FC19, FV19⟩, V19⟩ D19 hS19 hZ hown
      have N19 := Fr.app N10 Nq19
      show own_Go _ _ _ _ T19 (mkF m 68 #[.val (.int p1), .val (.int p2), .val (.int p3), .val (.int p4), .val (.int p5), .val (.int x5), .val (.int x6), .val (.int (((p5.toUInt32 >>> ((2 : Int32) &&& 31).toUInt32).toInt32) &&& (3 : Int32))), .val (.ref b1), .val .null, .unset, .unset, .unset] [(.ref so19), (.ref b12), (.ref b12)])
      have Q20 := (Q13.ext E12)
      have ne_b1_so19 : b1 ≠ so19 := Nat.ne_of_lt (Nat.lt_of_lt_of_le Q20.lt sz19)
      have Q21 := (Q14.ext E12)
      have ne_so3_so19 : so3 ≠ so19 := Nat.ne_of_lt (Nat.lt_of_lt_of_le Q21.lt sz19)
      have Q22 := (Q15.ext E12)
      have ne_sv3_so19 : sv3 ≠ so19 := Nat.ne_of_lt (Nat.lt_of_lt_of_le Q22.lt sz19)
      have Q23 := (Q16.ext E12)
      have ne_so6_so19 : so6 ≠ so19 := Nat.ne_of_lt (Nat.lt_of_lt_of_le Q23.lt sz19)
      have Q24 := (Q17.ext E12)
      have ne_sv6_so19 : sv6 ≠ so19 := Nat.ne_of_lt (Nat.lt_of_lt_of_le Q24.lt sz19)
      have ne_b12_so19 : b12 ≠ so19 := Nat.ne_of_lt (Nat.lt_of_lt_of_le A12.lt sz19)
      have Dc19 := D19
      have C19 := C12.trans Dc19
      have Z19 := Nat.le_trans Z12 K19.1
      have Q25 := (Q20.keep K19)
      have ne_b1_sv19 : b1 ≠ sv19 := Exa.neArv Q25 V19 (hw _ (List.mem_of_getElem? (i := 1) rfl))
      have Q26 := (A12.keep K19)
      have ne_b12_sv19 : b12 ≠ sv19 := Exa.neArv Q26 V19 (hw _ (List.mem_of_getElem? (i := 1) rfl))
      refine own_step (fun _ k => XS.iload X19.here hx rfl (hb hby at_68) rfl k) ?_
      show own_Go _ _ _ _ T19 (mkF m 70 #[.val (.int p1), .val (.int p2), .val (.int p3), .val (.int p4), .val (.int p5), .val (.int x5), .val (.int x6), .val (.int (((p5.toUInt32 >>> ((2 : Int32) &&& 31).toUInt32).toInt32) &&& (3 : Int32))), .val (.ref b1), .val .null, .unset, .unset, .unset] [(.int x6), (.ref so19), (.ref b12), (.ref b12)])
      have Q27 := (Q18.keep K19 all0)
      refine own_callSW X19 hx hZ (y := (⟨"com/example/tickwright/tickwright/AccountEqualsPinLaw", "str", "(I)Ljava/lang/String;"⟩ : MethodName)) hown (hw _ (List.mem_of_getElem? (i := 3) rfl)) (hw _ (List.mem_of_getElem? (i := 4) rfl)) (hw _ (List.mem_of_getElem? (i := 5) rfl)) (hw _ (List.mem_of_getElem? (i := 6) rfl)) (by decide) (rm1 l Z a0 hw [] x6 cz T19.heap n0 Z19 hEL Q27 SC hcz) rfl hEL C19.1 hS19 (Nat.le_refl _) 3 (by decide) (by decide) (by decide) (by decide) (g := (mkF m 70 #[.val (.int p1), .val (.int p2), .val (.int p3), .val (.int p4), .val (.int p5), .val (.int x5), .val (.int x6), .val (.int (((p5.toUInt32 >>> ((2 : Int32) &&& 31).toUInt32).toInt32) &&& (3 : Int32))), .val (.ref b1), .val .null, .unset, .unset, .unset] [(.int x6), (.ref so19), (.ref b12), (.ref b12)])) rfl (by rw [hml]; rfl) [(.int x6)] [(.ref so19), (.ref b12), (.ref b12)] pd_8 rfl rfl rfl (by show 2 * 0 + _ ≤ _; exact Nat.le_of_eq rfl) (hb hby at_70) ?_
      rintro v28 T28 L28 X28 ⟨so28, sv28, sk28, rfl, Nq28, K28, sz28, ⟨EX28, FC28, FV28⟩, V28⟩ D28 hS28 hZ hown
      have N28 := Fr.app N19 Nq28
      show own_Go _ _ _ _ T28 (mkF m 73 #[.val (.int p1), .val (.int p2), .val (.int p3), .val (.int p4), .val (.int p5), .val (.int x5), .val (.int x6), .val (.int (((p5.toUInt32 >>> ((2 : Int32) &&& 31).toUInt32).toInt32) &&& (3 : Int32))), .val (.ref b1), .val .null, .unset, .unset, .unset] [(.ref so28), (.ref so19), (.ref b12), (.ref b12)])
      have ne_b1_so28 : b1 ≠ so28 := Nat.ne_of_lt (Nat.lt_of_lt_of_le Q25.lt sz28)
      have Q29 := (Q21.keep K19)
      have ne_so3_so28 : so3 ≠ so28 := Nat.ne_of_lt (Nat.lt_of_lt_of_le Q29.lt sz28)
      have Q30 := (Q22.keep K19 nin0)
      have ne_sv3_so28 : sv3 ≠ so28 := Nat.ne_of_lt (Nat.lt_of_lt_of_le Q30.lt sz28)
      have Q31 := (Q23.keep K19)
      have ne_so6_so28 : so6 ≠ so28 := Nat.ne_of_lt (Nat.lt_of_lt_of_le Q31.lt sz28)
      have Q32 := (Q24.keep K19 nin0)
      have ne_sv6_so28 : sv6 ≠ so28 := Nat.ne_of_lt (Nat.lt_of_lt_of_le Q32.lt sz28)
      have ne_b12_so28 : b12 ≠ so28 := Nat.ne_of_lt (Nat.lt_of_lt_of_le Q26.lt sz28)
      have ne_so19_so28 : so19 ≠ so28 := Nat.ne_of_lt (Nat.lt_of_lt_of_le EX19.lt sz28)
      have ne_sv19_so28 : sv19 ≠ so28 := Nat.ne_of_lt (Nat.lt_of_lt_of_le V19.lt sz28)
      have Dc28 := D28
      have C28 := C19.trans Dc28
      have Z28 := Nat.le_trans Z19 K28.1
      have Q33 := (Q25.keep K28)
      have ne_b1_sv28 : b1 ≠ sv28 := Exa.neArv Q33 V28 (hw _ (List.mem_of_getElem? (i := 1) rfl))
      have Q34 := (Q26.keep K28)
      have ne_b12_sv28 : b12 ≠ sv28 := Exa.neArv Q34 V28 (hw _ (List.mem_of_getElem? (i := 1) rfl))
      have Q35 := ((F_mBroker_b12.keep K19 nin0).keep K28 nin0)
      have Q36 := ((F_mId_b12.keep K19 nin0).keep K28 nin0)
      refine own_callC X28 hx hZ (y := (⟨"com/example/tickwright/tickwright/Account", "<init>", "(Ljava/lang/String;Ljava/lang/String;)V"⟩ : MethodName)) rfl hown (hw _ (List.mem_of_getElem? (i := 43) rfl)) (hw _ (List.mem_of_getElem? (i := 44) rfl)) (hw _ (List.mem_of_getElem? (i := 2) rfl)) (hw _ (List.mem_of_getElem? (i := 45) rfl)) (by decide) (rm9 l Z a0 hw [] b12 so19 so28  T28.heap n0 Z28 Q34 Q35 Q36 g_b12) rfl (b := b12) 1 (by decide) (by decide) (by decide) (by decide) (g := (mkF m 73 #[.val (.int p1), .val (.int p2), .val (.int p3), .val (.int p4), .val (.int p5), .val (.int x5), .val (.int x6), .val (.int (((p5.toUInt32 >>> ((2 : Int32) &&& 31).toUInt32).toInt32) &&& (3 : Int32))), .val (.ref b1), .val .null, .unset, .unset, .unset] [(.ref so28), (.ref so19), (.ref b12), (.ref b12)])) rfl (by rw [hml]; rfl) [(.ref so19), (.ref so28)] [(.ref b12)] pd_9 rfl rfl rfl (by show 2 * 0 + _ ≤ _; exact Nat.le_of_eq rfl) (hb hby at_73) ?_
      rintro v37 T37 L37 X37 ⟨rfl, Nq37, K37, FB37, FI37⟩
      have N37 := Fr.app N28 Nq37
      show own_Go _ _ _ _ T37 (mkF m 76 #[.val (.int p1), .val (.int p2), .val (.int p3), .val (.int p4), .val (.int p5), .val (.int x5), .val (.int x6), .val (.int (((p5.toUInt32 >>> ((2 : Int32) &&& 31).toUInt32).toInt32) &&& (3 : Int32))), .val (.ref b1), .val .null, .unset, .unset, .unset] [(.ref b12)])
      have Dc37 := (CHr.keep K37 (sfS (Safe.exa (EL := own_EL) hZ.alike Q34 (by decide) (by decide)) sf0) C28.1)
      have C37 := C28.trans Dc37
      have hk37 := Nat.le_trans (Nat.le_refl _) Dc37.2.1
      have Z37 := Nat.le_trans Z28 K37.1
      refine own_step (fun _ k => XS.astore X37.here hx rfl (hb hby at_76) rfl rfl (l' := #[.val (.int p1), .val (.int p2), .val (.int p3), .val (.int p4), .val (.int p5), .val (.int x5), .val (.int x6), .val (.int (((p5.toUInt32 >>> ((2 : Int32) &&& 31).toUInt32).toInt32) &&& (3 : Int32))), .val (.ref b1), .val (.ref b12), .unset, .unset, .unset]) rfl k) ?_
      show own_Go _ _ _ _ T37 (mkF m 78 #[.val (.int p1), .val (.int p2), .val (.int p3), .val (.int p4), .val (.int p5), .val (.int x5), .val (.int x6), .val (.int (((p5.toUInt32 >>> ((2 : Int32) &&& 31).toUInt32).toInt32) &&& (3 : Int32))), .val (.ref b1), .val (.ref b12), .unset, .unset, .unset] [])
      refine own_step (fun _ k => XS.aload X37.here hx rfl (hb hby at_78) rfl rfl k) ?_
      show own_Go _ _ _ _ T37 (mkF m 80 #[.val (.int p1), .val (.int p2), .val (.int p3), .val (.int p4), .val (.int p5), .val (.int x5), .val (.int x6), .val (.int (((p5.toUInt32 >>> ((2 : Int32) &&& 31).toUInt32).toInt32) &&& (3 : Int32))), .val (.ref b1), .val (.ref b12), .unset, .unset, .unset] [(.ref b12)])
      refine own_step (fun _ k => XS.astore X37.here hx rfl (hb hby at_80) rfl rfl (l' := #[.val (.int p1), .val (.int p2), .val (.int p3), .val (.int p4), .val (.int p5), .val (.int x5), .val (.int x6), .val (.int (((p5.toUInt32 >>> ((2 : Int32) &&& 31).toUInt32).toInt32) &&& (3 : Int32))), .val (.ref b1), .val (.ref b12), .val (.ref b12), .unset, .unset]) rfl k) ?_
      show own_Go _ _ _ _ T37 (mkF m 82 #[.val (.int p1), .val (.int p2), .val (.int p3), .val (.int p4), .val (.int p5), .val (.int x5), .val (.int x6), .val (.int (((p5.toUInt32 >>> ((2 : Int32) &&& 31).toUInt32).toInt32) &&& (3 : Int32))), .val (.ref b1), .val (.ref b12), .val (.ref b12), .unset, .unset] [])
      refine own_step (fun _ k => XS.iloadN X37.here hx rfl (hb hby at_82) rfl k) ?_
      show own_Go _ _ _ _ T37 (mkF m 83 #[.val (.int p1), .val (.int p2), .val (.int p3), .val (.int p4), .val (.int p5), .val (.int x5), .val (.int x6), .val (.int (((p5.toUInt32 >>> ((2 : Int32) &&& 31).toUInt32).toInt32) &&& (3 : Int32))), .val (.ref b1), .val (.ref b12), .val (.ref b12), .unset, .unset] [(.int p1)])
      refine own_step (fun _ k => XS.iload X37.here hx rfl (hb hby at_83) rfl k) ?_
      show own_Go _ _ _ _ T37 (mkF m 85 #[.val (.int p1), .val (.int p2), .val (.int p3), .val (.int p4), .val (.int p5), .val (.int x5), .val (.int x6), .val (.int (((p5.toUInt32 >>> ((2 : Int32) &&& 31).toUInt32).toInt32) &&& (3 : Int32))), .val (.ref b1), .val (.ref b12), .val (.ref b12), .unset, .unset] [(.int x5), (.int p1)])
      refine own_callS X37 hx hZ (y := (⟨"com/example/tickwright/tickwright/AccountEqualsPinLaw", "same", "(II)Z"⟩ : MethodName)) hown (hw _ (List.mem_of_getElem? (i := 51) rfl)) (hw _ (List.mem_of_getElem? (i := 52) rfl)) (hw _ (List.mem_of_getElem? (i := 5) rfl)) (hw _ (List.mem_of_getElem? (i := 53) rfl)) (by decide) (rm10 l Z a0 hw [] p1 x5 T37.heap n0 Z37) rfl 0 (by decide) (by decide) (by decide) (by decide) (g := (mkF m 85 #[.val (.int p1), .val (.int p2), .val (.int p3), .val (.int p4), .val (.int p5), .val (.int x5), .val (.int x6), .val (.int (((p5.toUInt32 >>> ((2 : Int32) &&& 31).toUInt32).toInt32) &&& (3 : Int32))), .val (.ref b1), .val (.ref b12), .val (.ref b12), .unset, .unset] [(.int x5), (.int p1)])) rfl (by rw [hml]; rfl) [(.int p1), (.int x5)] [] pd_10 rfl rfl rfl (by show 2 * 0 + _ ≤ _; exact Nat.le_of_eq rfl) (hb hby at_85) ?_
      rintro v38 T38 L38 X38 ⟨rfl, Nq38, e38⟩
      have N38 := Fr.app N37 Nq38
      show own_Go _ _ _ _ T38 (mkF m 88 #[.val (.int p1), .val (.int p2), .val (.int p3), .val (.int p4), .val (.int p5), .val (.int x5), .val (.int x6), .val (.int (((p5.toUInt32 >>> ((2 : Int32) &&& 31).toUInt32).toInt32) &&& (3 : Int32))), .val (.ref b1), .val (.ref b12), .val (.ref b12), .unset, .unset] [(.int (own_same p1 x5))])
      by_cases hc39 : (own_same p1 x5) = (0 : Int32)
      · refine own_step (fun _ k => XS.ifYes X38.here hx rfl (pc0 := 88) (pc' := 104) rfl (hb hby at_88) rfl ((if0 _ _).trans (teq hc39).1) (by decide) (by decide) k) ?_
        show own_Go _ _ _ _ T38 (mkF m 104 #[.val (.int p1), .val (.int p2), .val (.int p3), .val (.int p4), .val (.int p5), .val (.int x5), .val (.int x6), .val (.int (((p5.toUInt32 >>> ((2 : Int32) &&& 31).toUInt32).toInt32) &&& (3 : Int32))), .val (.ref b1), .val (.ref b12), .val (.ref b12), .unset, .unset] [])
        refine own_step (fun _ k => XS.iconst X38.here hx rfl (hb hby at_104) k) ?_
        show own_Go _ _ _ _ T38 (mkF m 105 #[.val (.int p1), .val (.int p2), .val (.int p3), .val (.int p4), .val (.int p5), .val (.int x5), .val (.int x6), .val (.int (((p5.toUInt32 >>> ((2 : Int32) &&& 31).toUInt32).toInt32) &&& (3 : Int32))), .val (.ref b1), .val (.ref b12), .val (.ref b12), .unset, .unset] [(.int (0 : Int32))])
        refine own_step (fun _ k => XS.istore X38.here hx rfl (hb hby at_105) rfl (l' := #[.val (.int p1), .val (.int p2), .val (.int p3), .val (.int p4), .val (.int p5), .val (.int x5), .val (.int x6), .val (.int (((p5.toUInt32 >>> ((2 : Int32) &&& 31).toUInt32).toInt32) &&& (3 : Int32))), .val (.ref b1), .val (.ref b12), .val (.ref b12), .val (.int (0 : Int32)), .unset]) rfl k) ?_
        show own_Go _ _ _ _ T38 (mkF m 107 #[.val (.int p1), .val (.int p2), .val (.int p3), .val (.int p4), .val (.int p5), .val (.int x5), .val (.int x6), .val (.int (((p5.toUInt32 >>> ((2 : Int32) &&& 31).toUInt32).toInt32) &&& (3 : Int32))), .val (.ref b1), .val (.ref b12), .val (.ref b12), .val (.int (0 : Int32)), .unset] [])
        refine own_step (fun _ k => XS.goto X38.here hx rfl (pc0 := 107) (pc' := 150) rfl (hb hby at_107) (by decide) (by decide) k) ?_
        show own_Go _ _ _ _ T38 (mkF m 150 #[.val (.int p1), .val (.int p2), .val (.int p3), .val (.int p4), .val (.int p5), .val (.int x5), .val (.int x6), .val (.int (((p5.toUInt32 >>> ((2 : Int32) &&& 31).toUInt32).toInt32) &&& (3 : Int32))), .val (.ref b1), .val (.ref b12), .val (.ref b12), .val (.int (0 : Int32)), .unset] [])
        refine own_step (fun _ k => XS.aload X38.here hx rfl (hb hby at_150) rfl rfl k) ?_
        show own_Go _ _ _ _ T38 (mkF m 152 #[.val (.int p1), .val (.int p2), .val (.int p3), .val (.int p4), .val (.int p5), .val (.int x5), .val (.int x6), .val (.int (((p5.toUInt32 >>> ((2 : Int32) &&& 31).toUInt32).toInt32) &&& (3 : Int32))), .val (.ref b1), .val (.ref b12), .val (.ref b12), .val (.int (0 : Int32)), .unset] [(.ref b1)])
        refine own_step (fun _ k => XS.aload X38.here hx rfl (hb hby at_152) rfl rfl k) ?_
        show own_Go _ _ _ _ T38 (mkF m 154 #[.val (.int p1), .val (.int p2), .val (.int p3), .val (.int p4), .val (.int p5), .val (.int x5), .val (.int x6), .val (.int (((p5.toUInt32 >>> ((2 : Int32) &&& 31).toUInt32).toInt32) &&& (3 : Int32))), .val (.ref b1), .val (.ref b12), .val (.ref b12), .val (.int (0 : Int32)), .unset] [(.ref b12), (.ref b1)])
        have Q40 := ((Q27.keep K28 all0).keep K37 (allS g_b12 all0))
        have Q41 := (Q33.keep K37)
        have Q42 := (Q34.keep K37)
        have Q43 := ((((FB10.ext E12).keep K19 nin0).keep K28 nin0).keep K37 (ninS ne_b1_b12 nin0))
        have Q44 := ((((FI10.ext E12).keep K19 nin0).keep K28 nin0).keep K37 (ninS ne_b1_b12 nin0))
        have Q45 := ((Q29.keep K28).keep K37)
        have Q46 := ((((((FC3.keep K6 nin0).keep K10 (ninS (Ne.symm ne_b1_so3) nin0)).ext E12).keep K19 nin0).keep K28 nin0).keep K37 (ninS ne_so3_b12 nin0))
        have Q47 := ((((((FV3.keep K6 nin0).keep K10 (ninS (Ne.symm ne_b1_so3) nin0)).ext E12).keep K19 nin0).keep K28 nin0).keep K37 (ninS ne_so3_b12 nin0))
        have Q48 := ((Q30.keep K28 nin0).keep K37 (ninS ne_sv3_b12 nin0))
        have Q49 := ((EX19.keep K28).keep K37)
        have Q50 := ((FC19.keep K28 nin0).keep K37 (ninS (Ne.symm ne_b12_so19) nin0))
        have Q51 := ((FV19.keep K28 nin0).keep K37 (ninS (Ne.symm ne_b12_so19) nin0))
        have Q52 := ((V19.keep K28 nin0).keep K37 (ninS (Ne.symm ne_b12_sv19) nin0))
        have Q53 := ((Q31.keep K28).keep K37)
        have Q54 := (((((FC6.keep K10 (ninS (Ne.symm ne_b1_so6) nin0)).ext E12).keep K19 nin0).keep K28 nin0).keep K37 (ninS ne_so6_b12 nin0))
        have Q55 := (((((FV6.keep K10 (ninS (Ne.symm ne_b1_so6) nin0)).ext E12).keep K19 nin0).keep K28 nin0).keep K37 (ninS ne_so6_b12 nin0))
        have Q56 := ((Q32.keep K28 nin0).keep K37 (ninS ne_sv6_b12 nin0))
        have Q57 := (EX28.keep K37)
        have Q58 := (FC28.keep K37 (ninS (Ne.symm ne_b12_so28) nin0))
        have Q59 := (FV28.keep K37 (ninS (Ne.symm ne_b12_so28) nin0))
        have Q60 := (V28.keep K37 (ninS (Ne.symm ne_b12_sv28) nin0))
        refine own_callV X38 hx hZ (y := (⟨"com/example/tickwright/tickwright/Account", "equals", "(Ljava/lang/Object;)Z"⟩ : MethodName)) (z := (⟨"com/example/tickwright/tickwright/Account", "equals", "(Ljava/lang/Object;)Z"⟩ : MethodName)) hown (hw _ (List.mem_of_getElem? (i := 54) rfl)) (hw _ (List.mem_of_getElem? (i := 55) rfl)) (hw _ (List.mem_of_getElem? (i := 57) rfl)) (hw _ (List.mem_of_getElem? (i := 57) rfl)) (hw _ (List.mem_of_getElem? (i := 56) rfl)) (hw _ (List.mem_of_getElem? (i := 2) rfl)) (hw _ (List.mem_of_getElem? (i := 58) rfl)) (by decide) (rm11_d l Z a0 hw [] b1 b12 cz so3 so6 so19 so28 sv3 sv19 sv6 sv28 sk3 sk19 sk6 sk28 (p1 &&& (3 : Int32)) (x5 &&& (3 : Int32)) (p2 &&& (3 : Int32)) (x6 &&& (3 : Int32)) (own_by p1) (own_by x5) (own_by p2) (own_by x6) T37.heap n0 Z37 Q40 SC hcz Q41 Q42 Q43 Q44 FB37 FI37 Q45 Q46 Q47 Q48 Q49 Q50 Q51 Q52 Q53 Q54 Q55 Q56 Q57 Q58 Q59 Q60 (own_byl p1) (own_byl x5) (own_byl p2) (own_byl x6) (own_byc p1) (own_byc p2) ne_so3_so19 ne_so6_so28) e38 (b := b1) Q41 0 (by decide) (by decide) (by decide) (by decide) (g := (mkF m 154 #[.val (.int p1), .val (.int p2), .val (.int p3), .val (.int p4), .val (.int p5), .val (.int x5), .val (.int x6), .val (.int (((p5.toUInt32 >>> ((2 : Int32) &&& 31).toUInt32).toInt32) &&& (3 : Int32))), .val (.ref b1), .val (.ref b12), .val (.ref b12), .val (.int (0 : Int32)), .unset] [(.ref b12), (.ref b1)])) rfl (by rw [hml]; rfl) [(.ref b12)] [] pd_7 rfl rfl rfl (by show 2 * 0 + _ ≤ _; exact Nat.le_of_eq rfl) (hb hby at_154) ?_
        rintro v61 T61 L61 X61 ⟨rfl, Nq61, e61⟩
        have N61 := Fr.app N38 Nq61
        show own_Go _ _ _ _ T61 (mkF m 157 #[.val (.int p1), .val (.int p2), .val (.int p3), .val (.int p4), .val (.int p5), .val (.int x5), .val (.int x6), .val (.int (((p5.toUInt32 >>> ((2 : Int32) &&& 31).toUInt32).toInt32) &&& (3 : Int32))), .val (.ref b1), .val (.ref b12), .val (.ref b12), .val (.int (0 : Int32)), .unset] [(.int (own_ae (own_eqb (own_by p1) (own_by x5)) (own_eqb (own_by p2) (own_by x6))))])
        refine own_step (fun _ k => XS.istore X61.here hx rfl (hb hby at_157) rfl (l' := #[.val (.int p1), .val (.int p2), .val (.int p3), .val (.int p4), .val (.int p5), .val (.int x5), .val (.int x6), .val (.int (((p5.toUInt32 >>> ((2 : Int32) &&& 31).toUInt32).toInt32) &&& (3 : Int32))), .val (.ref b1), .val (.ref b12), .val (.ref b12), .val (.int (0 : Int32)), .val (.int (own_ae (own_eqb (own_by p1) (own_by x5)) (own_eqb (own_by p2) (own_by x6))))]) rfl k) ?_
        show own_Go _ _ _ _ T61 (mkF m 159 #[.val (.int p1), .val (.int p2), .val (.int p3), .val (.int p4), .val (.int p5), .val (.int x5), .val (.int x6), .val (.int (((p5.toUInt32 >>> ((2 : Int32) &&& 31).toUInt32).toInt32) &&& (3 : Int32))), .val (.ref b1), .val (.ref b12), .val (.ref b12), .val (.int (0 : Int32)), .val (.int (own_ae (own_eqb (own_by p1) (own_by x5)) (own_eqb (own_by p2) (own_by x6))))] [])
        refine own_step (fun _ k => XS.iload X61.here hx rfl (hb hby at_159) rfl k) ?_
        show own_Go _ _ _ _ T61 (mkF m 161 #[.val (.int p1), .val (.int p2), .val (.int p3), .val (.int p4), .val (.int p5), .val (.int x5), .val (.int x6), .val (.int (((p5.toUInt32 >>> ((2 : Int32) &&& 31).toUInt32).toInt32) &&& (3 : Int32))), .val (.ref b1), .val (.ref b12), .val (.ref b12), .val (.int (0 : Int32)), .val (.int (own_ae (own_eqb (own_by p1) (own_by x5)) (own_eqb (own_by p2) (own_by x6))))] [(.int (own_ae (own_eqb (own_by p1) (own_by x5)) (own_eqb (own_by p2) (own_by x6))))])
        refine own_step (fun _ k => XS.iload X61.here hx rfl (hb hby at_161) rfl k) ?_
        show own_Go _ _ _ _ T61 (mkF m 163 #[.val (.int p1), .val (.int p2), .val (.int p3), .val (.int p4), .val (.int p5), .val (.int x5), .val (.int x6), .val (.int (((p5.toUInt32 >>> ((2 : Int32) &&& 31).toUInt32).toInt32) &&& (3 : Int32))), .val (.ref b1), .val (.ref b12), .val (.ref b12), .val (.int (0 : Int32)), .val (.int (own_ae (own_eqb (own_by p1) (own_by x5)) (own_eqb (own_by p2) (own_by x6))))] [(.int (0 : Int32)), (.int (own_ae (own_eqb (own_by p1) (own_by x5)) (own_eqb (own_by p2) (own_by x6))))])
        refine own_step (fun _ k => XS.icmpYes X61.here hx rfl (pc0 := 163) (pc' := 168) rfl (hb hby at_163) rfl (teq (own_dec p1 x5 p2 x6 (0 : Int32) (if_pos hc39)).1).1 (by decide) (by decide) k) ?_
        show own_Go _ _ _ _ T61 (mkF m 168 #[.val (.int p1), .val (.int p2), .val (.int p3), .val (.int p4), .val (.int p5), .val (.int x5), .val (.int x6), .val (.int (((p5.toUInt32 >>> ((2 : Int32) &&& 31).toUInt32).toInt32) &&& (3 : Int32))), .val (.ref b1), .val (.ref b12), .val (.ref b12), .val (.int (0 : Int32)), .val (.int (own_ae (own_eqb (own_by p1) (own_by x5)) (own_eqb (own_by p2) (own_by x6))))] [])
        refine own_step (fun _ k => XS.aload X61.here hx rfl (hb hby at_168) rfl rfl k) ?_
        show own_Go _ _ _ _ T61 (mkF m 170 #[.val (.int p1), .val (.int p2), .val (.int p3), .val (.int p4), .val (.int p5), .val (.int x5), .val (.int x6), .val (.int (((p5.toUInt32 >>> ((2 : Int32) &&& 31).toUInt32).toInt32) &&& (3 : Int32))), .val (.ref b1), .val (.ref b12), .val (.ref b12), .val (.int (0 : Int32)), .val (.int (own_ae (own_eqb (own_by p1) (own_by x5)) (own_eqb (own_by p2) (own_by x6))))] [(.ref b12)])
        refine own_step (fun _ k => XS.ifnullNo X61.here hx rfl (hb hby at_170) rfl k) ?_
        show own_Go _ _ _ _ T61 (mkF m 173 #[.val (.int p1), .val (.int p2), .val (.int p3), .val (.int p4), .val (.int p5), .val (.int x5), .val (.int x6), .val (.int (((p5.toUInt32 >>> ((2 : Int32) &&& 31).toUInt32).toInt32) &&& (3 : Int32))), .val (.ref b1), .val (.ref b12), .val (.ref b12), .val (.int (0 : Int32)), .val (.int (own_ae (own_eqb (own_by p1) (own_by x5)) (own_eqb (own_by p2) (own_by x6))))] [])
        refine own_step (fun _ k => XS.aload X61.here hx rfl (hb hby at_173) rfl rfl k) ?_
        show own_Go _ _ _ _ T61 (mkF m 175 #[.val (.int p1), .val (.int p2), .val (.int p3), .val (.int p4), .val (.int p5), .val (.int x5), .val (.int x6), .val (.int (((p5.toUInt32 >>> ((2 : Int32) &&& 31).toUInt32).toInt32) &&& (3 : Int32))), .val (.ref b1), .val (.ref b12), .val (.ref b12), .val (.int (0 : Int32)), .val (.int (own_ae (own_eqb (own_by p1) (own_by x5)) (own_eqb (own_by p2) (own_by x6))))] [(.ref b12)])
        refine own_step (fun _ k => XS.aload X61.here hx rfl (hb hby at_175) rfl rfl k) ?_
        show own_Go _ _ _ _ T61 (mkF m 177 #[.val (.int p1), .val (.int p2), .val (.int p3), .val (.int p4), .val (.int p5), .val (.int x5), .val (.int x6), .val (.int (((p5.toUInt32 >>> ((2 : Int32) &&& 31).toUInt32).toInt32) &&& (3 : Int32))), .val (.ref b1), .val (.ref b12), .val (.ref b12), .val (.int (0 : Int32)), .val (.int (own_ae (own_eqb (own_by p1) (own_by x5)) (own_eqb (own_by p2) (own_by x6))))] [(.ref b1), (.ref b12)])
        refine own_callV X61 hx hZ (y := (⟨"com/example/tickwright/tickwright/Account", "equals", "(Ljava/lang/Object;)Z"⟩ : MethodName)) (z := (⟨"com/example/tickwright/tickwright/Account", "equals", "(Ljava/lang/Object;)Z"⟩ : MethodName)) hown (hw _ (List.mem_of_getElem? (i := 54) rfl)) (hw _ (List.mem_of_getElem? (i := 55) rfl)) (hw _ (List.mem_of_getElem? (i := 57) rfl)) (hw _ (List.mem_of_getElem? (i := 57) rfl)) (hw _ (List.mem_of_getElem? (i := 56) rfl)) (hw _ (List.mem_of_getElem? (i := 2) rfl)) (hw _ (List.mem_of_getElem? (i := 58) rfl)) (by decide) (rm11_d l Z a0 hw [] b12 b1 cz so19 so28 so3 so6 sv19 sv3 sv28 sv6 sk19 sk3 sk28 sk6 (x5 &&& (3 : Int32)) (p1 &&& (3 : Int32)) (x6 &&& (3 : Int32)) (p2 &&& (3 : Int32)) (own_by x5) (own_by p1) (own_by x6) (own_by p2) T37.heap n0 Z37 Q40 SC hcz Q42 Q41 FB37 FI37 Q43 Q44 Q49 Q50 Q51 Q52 Q45 Q46 Q47 Q48 Q57 Q58 Q59 Q60 Q53 Q54 Q55 Q56 (own_byl x5) (own_byl p1) (own_byl x6) (own_byl p2) (own_byc x5) (own_byc x6) (Ne.symm ne_so3_so19) (Ne.symm ne_so6_so28)) e61 (b := b12) Q42 0 (by decide) (by decide) (by decide) (by decide) (g := (mkF m 177 #[.val (.int p1), .val (.int p2), .val (.int p3), .val (.int p4), .val (.int p5), .val (.int x5), .val (.int x6), .val (.int (((p5.toUInt32 >>> ((2 : Int32) &&& 31).toUInt32).toInt32) &&& (3 : Int32))), .val (.ref b1), .val (.ref b12), .val (.ref b12), .val (.int (0 : Int32)), .val (.int (own_ae (own_eqb (own_by p1) (own_by x5)) (own_eqb (own_by p2) (own_by x6))))] [(.ref b1), (.ref b12)])) rfl (by rw [hml]; rfl) [(.ref b1)] [] pd_7 rfl rfl rfl (by show 2 * 0 + _ ≤ _; exact Nat.le_of_eq rfl) (hb hby at_177) ?_
        rintro v62 T62 L62 X62 ⟨rfl, Nq62, e62⟩
        have N62 := Fr.app N61 Nq62
        show own_Go _ _ _ _ T62 (mkF m 180 #[.val (.int p1), .val (.int p2), .val (.int p3), .val (.int p4), .val (.int p5), .val (.int x5), .val (.int x6), .val (.int (((p5.toUInt32 >>> ((2 : Int32) &&& 31).toUInt32).toInt32) &&& (3 : Int32))), .val (.ref b1), .val (.ref b12), .val (.ref b12), .val (.int (0 : Int32)), .val (.int (own_ae (own_eqb (own_by p1) (own_by x5)) (own_eqb (own_by p2) (own_by x6))))] [(.int (own_ae (own_eqb (own_by x5) (own_by p1)) (own_eqb (own_by x6) (own_by p2))))])
        refine own_step (fun _ k => XS.iload X62.here hx rfl (hb hby at_180) rfl k) ?_
        show own_Go _ _ _ _ T62 (mkF m 182 #[.val (.int p1), .val (.int p2), .val (.int p3), .val (.int p4), .val (.int p5), .val (.int x5), .val (.int x6), .val (.int (((p5.toUInt32 >>> ((2 : Int32) &&& 31).toUInt32).toInt32) &&& (3 : Int32))), .val (.ref b1), .val (.ref b12), .val (.ref b12), .val (.int (0 : Int32)), .val (.int (own_ae (own_eqb (own_by p1) (own_by x5)) (own_eqb (own_by p2) (own_by x6))))] [(.int (0 : Int32)), (.int (own_ae (own_eqb (own_by x5) (own_by p1)) (own_eqb (own_by x6) (own_by p2))))])
        refine own_step (fun _ k => XS.icmpNo X62.here hx rfl (hb hby at_182) rfl (teq (own_dec p1 x5 p2 x6 (0 : Int32) (if_pos hc39)).2).2 k) ?_
        show own_Go _ _ _ _ T62 (mkF m 185 #[.val (.int p1), .val (.int p2), .val (.int p3), .val (.int p4), .val (.int p5), .val (.int x5), .val (.int x6), .val (.int (((p5.toUInt32 >>> ((2 : Int32) &&& 31).toUInt32).toInt32) &&& (3 : Int32))), .val (.ref b1), .val (.ref b12), .val (.ref b12), .val (.int (0 : Int32)), .val (.int (own_ae (own_eqb (own_by p1) (own_by x5)) (own_eqb (own_by p2) (own_by x6))))] [])
        refine own_step (fun _ k => XS.iconst X62.here hx rfl (hb hby at_185) k) ?_
        show own_Go _ _ _ _ T62 (mkF m 186 #[.val (.int p1), .val (.int p2), .val (.int p3), .val (.int p4), .val (.int p5), .val (.int x5), .val (.int x6), .val (.int (((p5.toUInt32 >>> ((2 : Int32) &&& 31).toUInt32).toInt32) &&& (3 : Int32))), .val (.ref b1), .val (.ref b12), .val (.ref b12), .val (.int (0 : Int32)), .val (.int (own_ae (own_eqb (own_by p1) (own_by x5)) (own_eqb (own_by p2) (own_by x6))))] [(.int (1 : Int32))])
        refine own_step (fun _ k => XS.goto X62.here hx rfl (pc0 := 186) (pc' := 190) rfl (hb hby at_186) (by decide) (by decide) k) ?_
        show own_Go _ _ _ _ T62 (mkF m 190 #[.val (.int p1), .val (.int p2), .val (.int p3), .val (.int p4), .val (.int p5), .val (.int x5), .val (.int x6), .val (.int (((p5.toUInt32 >>> ((2 : Int32) &&& 31).toUInt32).toInt32) &&& (3 : Int32))), .val (.ref b1), .val (.ref b12), .val (.ref b12), .val (.int (0 : Int32)), .val (.int (own_ae (own_eqb (own_by p1) (own_by x5)) (own_eqb (own_by p2) (own_by x6))))] [(.int (1 : Int32))])
        exact own_retN X62 hx (t := .boolean) hret (by simp) hlk (hb hby at_190) rfl (own_W X62 hS28 hk37 e62 eS hZ hEL C37 ⟨rfl, N62⟩ (by decide) (by decide)) 
      · refine own_step (fun _ k => XS.ifNo X38.here hx rfl (hb hby at_88) rfl ((if0 _ _).trans (feq hc39).1) k) ?_
        show own_Go _ _ _ _ T38 (mkF m 91 #[.val (.int p1), .val (.int p2), .val (.int p3), .val (.int p4), .val (.int p5), .val (.int x5), .val (.int x6), .val (.int (((p5.toUInt32 >>> ((2 : Int32) &&& 31).toUInt32).toInt32) &&& (3 : Int32))), .val (.ref b1), .val (.ref b12), .val (.ref b12), .unset, .unset] [])
        refine own_step (fun _ k => XS.iloadN X38.here hx rfl (hb hby at_91) rfl k) ?_
        show own_Go _ _ _ _ T38 (mkF m 92 #[.val (.int p1), .val (.int p2), .val (.int p3), .val (.int p4), .val (.int p5), .val (.int x5), .val (.int x6), .val (.int (((p5.toUInt32 >>> ((2 : Int32) &&& 31).toUInt32).toInt32) &&& (3 : Int32))), .val (.ref b1), .val (.ref b12), .val (.ref b12), .unset, .unset] [(.int p2)])
        refine own_step (fun _ k => XS.iload X38.here hx rfl (hb hby at_92) rfl k) ?_
        show own_Go _ _ _ _ T38 (mkF m 94 #[.val (.int p1), .val (.int p2), .val (.int p3), .val (.int p4), .val (.int p5), .val (.int x5), .val (.int x6), .val (.int (((p5.toUInt32 >>> ((2 : Int32) &&& 31).toUInt32).toInt32) &&& (3 : Int32))), .val (.ref b1), .val (.ref b12), .val (.ref b12), .unset, .unset] [(.int x6), (.int p2)])
        refine own_callS X38 hx hZ (y := (⟨"com/example/tickwright/tickwright/AccountEqualsPinLaw", "same", "(II)Z"⟩ : MethodName)) hown (hw _ (List.mem_of_getElem? (i := 51) rfl)) (hw _ (List.mem_of_getElem? (i := 52) rfl)) (hw _ (List.mem_of_getElem? (i := 5) rfl)) (hw _ (List.mem_of_getElem? (i := 53) rfl)) (by decide) (rm10 l Z a0 hw [] p2 x6 T37.heap n0 Z37) e38 0 (by decide) (by decide) (by decide) (by decide) (g := (mkF m 94 #[.val (.int p1), .val (.int p2), .val (.int p3), .val (.int p4), .val (.int p5), .val (.int x5), .val (.int x6), .val (.int (((p5.toUInt32 >>> ((2 : Int32) &&& 31).toUInt32).toInt32) &&& (3 : Int32))), .val (.ref b1), .val (.ref b12), .val (.ref b12), .unset, .unset] [(.int x6), (.int p2)])) rfl (by rw [hml]; rfl) [(.int p2), (.int x6)] [] pd_10 rfl rfl rfl (by show 2 * 0 + _ ≤ _; exact Nat.le_of_eq rfl) (hb hby at_94) ?_
        rintro v63 T63 L63 X63 ⟨rfl, Nq63, e63⟩
        have N63 := Fr.app N38 Nq63
        show own_Go _ _ _ _ T63 (mkF m 97 #[.val (.int p1), .val (.int p2), .val (.int p3), .val (.int p4), .val (.int p5), .val (.int x5), .val (.int x6), .val (.int (((p5.toUInt32 >>> ((2 : Int32) &&& 31).toUInt32).toInt32) &&& (3 : Int32))), .val (.ref b1), .val (.ref b12), .val (.ref b12), .unset, .unset] [(.int (own_same p2 x6))])
        by_cases hc64 : (own_same p2 x6) = (0 : Int32)
        · refine own_step (fun _ k => XS.ifYes X63.here hx rfl (pc0 := 97) (pc' := 104) rfl (hb hby at_97) rfl ((if0 _ _).trans (teq hc64).1) (by decide) (by decide) k) ?_
          show own_Go _ _ _ _ T63 (mkF m 104 #[.val (.int p1), .val (.int p2), .val (.int p3), .val (.int p4), .val (.int p5), .val (.int x5), .val (.int x6), .val (.int (((p5.toUInt32 >>> ((2 : Int32) &&& 31).toUInt32).toInt32) &&& (3 : Int32))), .val (.ref b1), .val (.ref b12), .val (.ref b12), .unset, .unset] [])
          refine own_step (fun _ k => XS.iconst X63.here hx rfl (hb hby at_104) k) ?_
          show own_Go _ _ _ _ T63 (mkF m 105 #[.val (.int p1), .val (.int p2), .val (.int p3), .val (.int p4), .val (.int p5), .val (.int x5), .val (.int x6), .val (.int (((p5.toUInt32 >>> ((2 : Int32) &&& 31).toUInt32).toInt32) &&& (3 : Int32))), .val (.ref b1), .val (.ref b12), .val (.ref b12), .unset, .unset] [(.int (0 : Int32))])
          refine own_step (fun _ k => XS.istore X63.here hx rfl (hb hby at_105) rfl (l' := #[.val (.int p1), .val (.int p2), .val (.int p3), .val (.int p4), .val (.int p5), .val (.int x5), .val (.int x6), .val (.int (((p5.toUInt32 >>> ((2 : Int32) &&& 31).toUInt32).toInt32) &&& (3 : Int32))), .val (.ref b1), .val (.ref b12), .val (.ref b12), .val (.int (0 : Int32)), .unset]) rfl k) ?_
          show own_Go _ _ _ _ T63 (mkF m 107 #[.val (.int p1), .val (.int p2), .val (.int p3), .val (.int p4), .val (.int p5), .val (.int x5), .val (.int x6), .val (.int (((p5.toUInt32 >>> ((2 : Int32) &&& 31).toUInt32).toInt32) &&& (3 : Int32))), .val (.ref b1), .val (.ref b12), .val (.ref b12), .val (.int (0 : Int32)), .unset] [])
          refine own_step (fun _ k => XS.goto X63.here hx rfl (pc0 := 107) (pc' := 150) rfl (hb hby at_107) (by decide) (by decide) k) ?_
          show own_Go _ _ _ _ T63 (mkF m 150 #[.val (.int p1), .val (.int p2), .val (.int p3), .val (.int p4), .val (.int p5), .val (.int x5), .val (.int x6), .val (.int (((p5.toUInt32 >>> ((2 : Int32) &&& 31).toUInt32).toInt32) &&& (3 : Int32))), .val (.ref b1), .val (.ref b12), .val (.ref b12), .val (.int (0 : Int32)), .unset] [])
          refine own_step (fun _ k => XS.aload X63.here hx rfl (hb hby at_150) rfl rfl k) ?_
          show own_Go _ _ _ _ T63 (mkF m 152 #[.val (.int p1), .val (.int p2), .val (.int p3), .val (.int p4), .val (.int p5), .val (.int x5), .val (.int x6), .val (.int (((p5.toUInt32 >>> ((2 : Int32) &&& 31).toUInt32).toInt32) &&& (3 : Int32))), .val (.ref b1), .val (.ref b12), .val (.ref b12), .val (.int (0 : Int32)), .unset] [(.ref b1)])
          refine own_step (fun _ k => XS.aload X63.here hx rfl (hb hby at_152) rfl rfl k) ?_
          show own_Go _ _ _ _ T63 (mkF m 154 #[.val (.int p1), .val (.int p2), .val (.int p3), .val (.int p4), .val (.int p5), .val (.int x5), .val (.int x6), .val (.int (((p5.toUInt32 >>> ((2 : Int32) &&& 31).toUInt32).toInt32) &&& (3 : Int32))), .val (.ref b1), .val (.ref b12), .val (.ref b12), .val (.int (0 : Int32)), .unset] [(.ref b12), (.ref b1)])
          have Q65 := ((Q27.keep K28 all0).keep K37 (allS g_b12 all0))
          have Q66 := (Q33.keep K37)
          have Q67 := (Q34.keep K37)
          have Q68 := ((((FB10.ext E12).keep K19 nin0).keep K28 nin0).keep K37 (ninS ne_b1_b12 nin0))
          have Q69 := ((((FI10.ext E12).keep K19 nin0).keep K28 nin0).keep K37 (ninS ne_b1_b12 nin0))
          have Q70 := ((Q29.keep K28).keep K37)
          have Q71 := ((((((FC3.keep K6 nin0).keep K10 (ninS (Ne.symm ne_b1_so3) nin0)).ext E12).keep K19 nin0).keep K28 nin0).keep K37 (ninS ne_so3_b12 nin0))
          have Q72 := ((((((FV3.keep K6 nin0).keep K10 (ninS (Ne.symm ne_b1_so3) nin0)).ext E12).keep K19 nin0).keep K28 nin0).keep K37 (ninS ne_so3_b12 nin0))
          have Q73 := ((Q30.keep K28 nin0).keep K37 (ninS ne_sv3_b12 nin0))
          have Q74 := ((EX19.keep K28).keep K37)
          have Q75 := ((FC19.keep K28 nin0).keep K37 (ninS (Ne.symm ne_b12_so19) nin0))
          have Q76 := ((FV19.keep K28 nin0).keep K37 (ninS (Ne.symm ne_b12_so19) nin0))
          have Q77 := ((V19.keep K28 nin0).keep K37 (ninS (Ne.symm ne_b12_sv19) nin0))
          have Q78 := ((Q31.keep K28).keep K37)
          have Q79 := (((((FC6.keep K10 (ninS (Ne.symm ne_b1_so6) nin0)).ext E12).keep K19 nin0).keep K28 nin0).keep K37 (ninS ne_so6_b12 nin0))
          have Q80 := (((((FV6.keep K10 (ninS (Ne.symm ne_b1_so6) nin0)).ext E12).keep K19 nin0).keep K28 nin0).keep K37 (ninS ne_so6_b12 nin0))
          have Q81 := ((Q32.keep K28 nin0).keep K37 (ninS ne_sv6_b12 nin0))
          have Q82 := (EX28.keep K37)
          have Q83 := (FC28.keep K37 (ninS (Ne.symm ne_b12_so28) nin0))
          have Q84 := (FV28.keep K37 (ninS (Ne.symm ne_b12_so28) nin0))
          have Q85 := (V28.keep K37 (ninS (Ne.symm ne_b12_sv28) nin0))
          refine own_callV X63 hx hZ (y := (⟨"com/example/tickwright/tickwright/Account", "equals", "(Ljava/lang/Object;)Z"⟩ : MethodName)) (z := (⟨"com/example/tickwright/tickwright/Account", "equals", "(Ljava/lang/Object;)Z"⟩ : MethodName)) hown (hw _ (List.mem_of_getElem? (i := 54) rfl)) (hw _ (List.mem_of_getElem? (i := 55) rfl)) (hw _ (List.mem_of_getElem? (i := 57) rfl)) (hw _ (List.mem_of_getElem? (i := 57) rfl)) (hw _ (List.mem_of_getElem? (i := 56) rfl)) (hw _ (List.mem_of_getElem? (i := 2) rfl)) (hw _ (List.mem_of_getElem? (i := 58) rfl)) (by decide) (rm11_d l Z a0 hw [] b1 b12 cz so3 so6 so19 so28 sv3 sv19 sv6 sv28 sk3 sk19 sk6 sk28 (p1 &&& (3 : Int32)) (x5 &&& (3 : Int32)) (p2 &&& (3 : Int32)) (x6 &&& (3 : Int32)) (own_by p1) (own_by x5) (own_by p2) (own_by x6) T37.heap n0 Z37 Q65 SC hcz Q66 Q67 Q68 Q69 FB37 FI37 Q70 Q71 Q72 Q73 Q74 Q75 Q76 Q77 Q78 Q79 Q80 Q81 Q82 Q83 Q84 Q85 (own_byl p1) (own_byl x5) (own_byl p2) (own_byl x6) (own_byc p1) (own_byc p2) ne_so3_so19 ne_so6_so28) e63 (b := b1) Q66 0 (by decide) (by decide) (by decide) (by decide) (g := (mkF m 154 #[.val (.int p1), .val (.int p2), .val (.int p3), .val (.int p4), .val (.int p5), .val (.int x5), .val (.int x6), .val (.int (((p5.toUInt32 >>> ((2 : Int32) &&& 31).toUInt32).toInt32) &&& (3 : Int32))), .val (.ref b1), .val (.ref b12), .val (.ref b12), .val (.int (0 : Int32)), .unset] [(.ref b12), (.ref b1)])) rfl (by rw [hml]; rfl) [(.ref b12)] [] pd_7 rfl rfl rfl (by show 2 * 0 + _ ≤ _; exact Nat.le_of_eq rfl) (hb hby at_154) ?_
          rintro v86 T86 L86 X86 ⟨rfl, Nq86, e86⟩
          have N86 := Fr.app N63 Nq86
          show own_Go _ _ _ _ T86 (mkF m 157 #[.val (.int p1), .val (.int p2), .val (.int p3), .val (.int p4), .val (.int p5), .val (.int x5), .val (.int x6), .val (.int (((p5.toUInt32 >>> ((2 : Int32) &&& 31).toUInt32).toInt32) &&& (3 : Int32))), .val (.ref b1), .val (.ref b12), .val (.ref b12), .val (.int (0 : Int32)), .unset] [(.int (own_ae (own_eqb (own_by p1) (own_by x5)) (own_eqb (own_by p2) (own_by x6))))])
          refine own_step (fun _ k => XS.istore X86.here hx rfl (hb hby at_157) rfl (l' := #[.val (.int p1), .val (.int p2), .val (.int p3), .val (.int p4), .val (.int p5), .val (.int x5), .val (.int x6), .val (.int (((p5.toUInt32 >>> ((2 : Int32) &&& 31).toUInt32).toInt32) &&& (3 : Int32))), .val (.ref b1), .val (.ref b12), .val (.ref b12), .val (.int (0 : Int32)), .val (.int (own_ae (own_eqb (own_by p1) (own_by x5)) (own_eqb (own_by p2) (own_by x6))))]) rfl k) ?_
          show own_Go _ _ _ _ T86 (mkF m 159 #[.val (.int p1), .val (.int p2), .val (.int p3), .val (.int p4), .val (.int p5), .val (.int x5), .val (.int x6), .val (.int (((p5.toUInt32 >>> ((2 : Int32) &&& 31).toUInt32).toInt32) &&& (3 : Int32))), .val (.ref b1), .val (.ref b12), .val (.ref b12), .val (.int (0 : Int32)), .val (.int (own_ae (own_eqb (own_by p1) (own_by x5)) (own_eqb (own_by p2) (own_by x6))))] [])
          refine own_step (fun _ k => XS.iload X86.here hx rfl (hb hby at_159) rfl k) ?_
          show own_Go _ _ _ _ T86 (mkF m 161 #[.val (.int p1), .val (.int p2), .val (.int p3), .val (.int p4), .val (.int p5), .val (.int x5), .val (.int x6), .val (.int (((p5.toUInt32 >>> ((2 : Int32) &&& 31).toUInt32).toInt32) &&& (3 : Int32))), .val (.ref b1), .val (.ref b12), .val (.ref b12), .val (.int (0 : Int32)), .val (.int (own_ae (own_eqb (own_by p1) (own_by x5)) (own_eqb (own_by p2) (own_by x6))))] [(.int (own_ae (own_eqb (own_by p1) (own_by x5)) (own_eqb (own_by p2) (own_by x6))))])
          refine own_step (fun _ k => XS.iload X86.here hx rfl (hb hby at_161) rfl k) ?_
          show own_Go _ _ _ _ T86 (mkF m 163 #[.val (.int p1), .val (.int p2), .val (.int p3), .val (.int p4), .val (.int p5), .val (.int x5), .val (.int x6), .val (.int (((p5.toUInt32 >>> ((2 : Int32) &&& 31).toUInt32).toInt32) &&& (3 : Int32))), .val (.ref b1), .val (.ref b12), .val (.ref b12), .val (.int (0 : Int32)), .val (.int (own_ae (own_eqb (own_by p1) (own_by x5)) (own_eqb (own_by p2) (own_by x6))))] [(.int (0 : Int32)), (.int (own_ae (own_eqb (own_by p1) (own_by x5)) (own_eqb (own_by p2) (own_by x6))))])
          refine own_step (fun _ k => XS.icmpYes X86.here hx rfl (pc0 := 163) (pc' := 168) rfl (hb hby at_163) rfl (teq (own_dec p1 x5 p2 x6 (0 : Int32) ((if_neg hc39).trans (if_pos hc64))).1).1 (by decide) (by decide) k) ?_
          show own_Go _ _ _ _ T86 (mkF m 168 #[.val (.int p1), .val (.int p2), .val (.int p3), .val (.int p4), .val (.int p5), .val (.int x5), .val (.int x6), .val (.int (((p5.toUInt32 >>> ((2 : Int32) &&& 31).toUInt32).toInt32) &&& (3 : Int32))), .val (.ref b1), .val (.ref b12), .val (.ref b12), .val (.int (0 : Int32)), .val (.int (own_ae (own_eqb (own_by p1) (own_by x5)) (own_eqb (own_by p2) (own_by x6))))] [])
          refine own_step (fun _ k => XS.aload X86.here hx rfl (hb hby at_168) rfl rfl k) ?_
          show own_Go _ _ _ _ T86 (mkF m 170 #[.val (.int p1), .val (.int p2), .val (.int p3), .val (.int p4), .val (.int p5), .val (.int x5), .val (.int x6), .val (.int (((p5.toUInt32 >>> ((2 : Int32) &&& 31).toUInt32).toInt32) &&& (3 : Int32))), .val (.ref b1), .val (.ref b12), .val (.ref b12), .val (.int (0 : Int32)), .val (.int (own_ae (own_eqb (own_by p1) (own_by x5)) (own_eqb (own_by p2) (own_by x6))))] [(.ref b12)])
          refine own_step (fun _ k => XS.ifnullNo X86.here hx rfl (hb hby at_170) rfl k) ?_
          show own_Go _ _ _ _ T86 (mkF m 173 #[.val (.int p1), .val (.int p2), .val (.int p3), .val (.int p4), .val (.int p5), .val (.int x5), .val (.int x6), .val (.int (((p5.toUInt32 >>> ((2 : Int32) &&& 31).toUInt32).toInt32) &&& (3 : Int32))), .val (.ref b1), .val (.ref b12), .val (.ref b12), .val (.int (0 : Int32)), .val (.int (own_ae (own_eqb (own_by p1) (own_by x5)) (own_eqb (own_by p2) (own_by x6))))] [])
          refine own_step (fun _ k => XS.aload X86.here hx rfl (hb hby at_173) rfl rfl k) ?_
          show own_Go _ _ _ _ T86 (mkF m 175 #[.val (.int p1), .val (.int p2), .val (.int p3), .val (.int p4), .val (.int p5), .val (.int x5), .val (.int x6), .val (.int (((p5.toUInt32 >>> ((2 : Int32) &&& 31).toUInt32).toInt32) &&& (3 : Int32))), .val (.ref b1), .val (.ref b12), .val (.ref b12), .val (.int (0 : Int32)), .val (.int (own_ae (own_eqb (own_by p1) (own_by x5)) (own_eqb (own_by p2) (own_by x6))))] [(.ref b12)])
          refine own_step (fun _ k => XS.aload X86.here hx rfl (hb hby at_175) rfl rfl k) ?_
          show own_Go _ _ _ _ T86 (mkF m 177 #[.val (.int p1), .val (.int p2), .val (.int p3), .val (.int p4), .val (.int p5), .val (.int x5), .val (.int x6), .val (.int (((p5.toUInt32 >>> ((2 : Int32) &&& 31).toUInt32).toInt32) &&& (3 : Int32))), .val (.ref b1), .val (.ref b12), .val (.ref b12), .val (.int (0 : Int32)), .val (.int (own_ae (own_eqb (own_by p1) (own_by x5)) (own_eqb (own_by p2) (own_by x6))))] [(.ref b1), (.ref b12)])
          refine own_callV X86 hx hZ (y := (⟨"com/example/tickwright/tickwright/Account", "equals", "(Ljava/lang/Object;)Z"⟩ : MethodName)) (z := (⟨"com/example/tickwright/tickwright/Account", "equals", "(Ljava/lang/Object;)Z"⟩ : MethodName)) hown (hw _ (List.mem_of_getElem? (i := 54) rfl)) (hw _ (List.mem_of_getElem? (i := 55) rfl)) (hw _ (List.mem_of_getElem? (i := 57) rfl)) (hw _ (List.mem_of_getElem? (i := 57) rfl)) (hw _ (List.mem_of_getElem? (i := 56) rfl)) (hw _ (List.mem_of_getElem? (i := 2) rfl)) (hw _ (List.mem_of_getElem? (i := 58) rfl)) (by decide) (rm11_d l Z a0 hw [] b12 b1 cz so19 so28 so3 so6 sv19 sv3 sv28 sv6 sk19 sk3 sk28 sk6 (x5 &&& (3 : Int32)) (p1 &&& (3 : Int32)) (x6 &&& (3 : Int32)) (p2 &&& (3 : Int32)) (own_by x5) (own_by p1) (own_by x6) (own_by p2) T37.heap n0 Z37 Q65 SC hcz Q67 Q66 FB37 FI37 Q68 Q69 Q74 Q75 Q76 Q77 Q70 Q71 Q72 Q73 Q82 Q83 Q84 Q85 Q78 Q79 Q80 Q81 (own_byl x5) (own_byl p1) (own_byl x6) (own_byl p2) (own_byc x5) (own_byc x6) (Ne.symm ne_so3_so19) (Ne.symm ne_so6_so28)) e86 (b := b12) Q67 0 (by decide) (by decide) (by decide) (by decide) (g := (mkF m 177 #[.val (.int p1), .val (.int p2), .val (.int p3), .val (.int p4), .val (.int p5), .val (.int x5), .val (.int x6), .val (.int (((p5.toUInt32 >>> ((2 : Int32) &&& 31).toUInt32).toInt32) &&& (3 : Int32))), .val (.ref b1), .val (.ref b12), .val (.ref b12), .val (.int (0 : Int32)), .val (.int (own_ae (own_eqb (own_by p1) (own_by x5)) (own_eqb (own_by p2) (own_by x6))))] [(.ref b1), (.ref b12)])) rfl (by rw [hml]; rfl) [(.ref b1)] [] pd_7 rfl rfl rfl (by show 2 * 0 + _ ≤ _; exact Nat.le_of_eq rfl) (hb hby at_177) ?_
          rintro v87 T87 L87 X87 ⟨rfl, Nq87, e87⟩
          have N87 := Fr.app N86 Nq87
          show own_Go _ _ _ _ T87 (mkF m 180 #[.val (.int p1), .val (.int p2), .val (.int p3), .val (.int p4), .val (.int p5), .val (.int x5), .val (.int x6), .val (.int (((p5.toUInt32 >>> ((2 : Int32) &&& 31).toUInt32).toInt32) &&& (3 : Int32))), .val (.ref b1), .val (.ref b12), .val (.ref b12), .val (.int (0 : Int32)), .val (.int (own_ae (own_eqb (own_by p1) (own_by x5)) (own_eqb (own_by p2) (own_by x6))))] [(.int (own_ae (own_eqb (own_by x5) (own_by p1)) (own_eqb (own_by x6) (own_by p2))))])
          refine own_step (fun _ k => XS.iload X87.here hx rfl (hb hby at_180) rfl k) ?_
          show own_Go _ _ _ _ T87 (mkF m 182 #[.val (.int p1), .val (.int p2), .val (.int p3), .val (.int p4), .val (.int p5), .val (.int x5), .val (.int x6), .val (.int (((p5.toUInt32 >>> ((2 : Int32) &&& 31).toUInt32).toInt32) &&& (3 : Int32))), .val (.ref b1), .val (.ref b12), .val (.ref b12), .val (.int (0 : Int32)), .val (.int (own_ae (own_eqb (own_by p1) (own_by x5)) (own_eqb (own_by p2) (own_by x6))))] [(.int (0 : Int32)), (.int (own_ae (own_eqb (own_by x5) (own_by p1)) (own_eqb (own_by x6) (own_by p2))))])
          refine own_step (fun _ k => XS.icmpNo X87.here hx rfl (hb hby at_182) rfl (teq (own_dec p1 x5 p2 x6 (0 : Int32) ((if_neg hc39).trans (if_pos hc64))).2).2 k) ?_
          show own_Go _ _ _ _ T87 (mkF m 185 #[.val (.int p1), .val (.int p2), .val (.int p3), .val (.int p4), .val (.int p5), .val (.int x5), .val (.int x6), .val (.int (((p5.toUInt32 >>> ((2 : Int32) &&& 31).toUInt32).toInt32) &&& (3 : Int32))), .val (.ref b1), .val (.ref b12), .val (.ref b12), .val (.int (0 : Int32)), .val (.int (own_ae (own_eqb (own_by p1) (own_by x5)) (own_eqb (own_by p2) (own_by x6))))] [])
          refine own_step (fun _ k => XS.iconst X87.here hx rfl (hb hby at_185) k) ?_
          show own_Go _ _ _ _ T87 (mkF m 186 #[.val (.int p1), .val (.int p2), .val (.int p3), .val (.int p4), .val (.int p5), .val (.int x5), .val (.int x6), .val (.int (((p5.toUInt32 >>> ((2 : Int32) &&& 31).toUInt32).toInt32) &&& (3 : Int32))), .val (.ref b1), .val (.ref b12), .val (.ref b12), .val (.int (0 : Int32)), .val (.int (own_ae (own_eqb (own_by p1) (own_by x5)) (own_eqb (own_by p2) (own_by x6))))] [(.int (1 : Int32))])
          refine own_step (fun _ k => XS.goto X87.here hx rfl (pc0 := 186) (pc' := 190) rfl (hb hby at_186) (by decide) (by decide) k) ?_
          show own_Go _ _ _ _ T87 (mkF m 190 #[.val (.int p1), .val (.int p2), .val (.int p3), .val (.int p4), .val (.int p5), .val (.int x5), .val (.int x6), .val (.int (((p5.toUInt32 >>> ((2 : Int32) &&& 31).toUInt32).toInt32) &&& (3 : Int32))), .val (.ref b1), .val (.ref b12), .val (.ref b12), .val (.int (0 : Int32)), .val (.int (own_ae (own_eqb (own_by p1) (own_by x5)) (own_eqb (own_by p2) (own_by x6))))] [(.int (1 : Int32))])
          exact own_retN X87 hx (t := .boolean) hret (by simp) hlk (hb hby at_190) rfl (own_W X87 hS28 hk37 e87 eS hZ hEL C37 ⟨rfl, N87⟩ (by decide) (by decide)) 
        · refine own_step (fun _ k => XS.ifNo X63.here hx rfl (hb hby at_97) rfl ((if0 _ _).trans (feq hc64).1) k) ?_
          show own_Go _ _ _ _ T63 (mkF m 100 #[.val (.int p1), .val (.int p2), .val (.int p3), .val (.int p4), .val (.int p5), .val (.int x5), .val (.int x6), .val (.int (((p5.toUInt32 >>> ((2 : Int32) &&& 31).toUInt32).toInt32) &&& (3 : Int32))), .val (.ref b1), .val (.ref b12), .val (.ref b12), .unset, .unset] [])
          refine own_step (fun _ k => XS.iconst X63.here hx rfl (hb hby at_100) k) ?_
          show own_Go _ _ _ _ T63 (mkF m 101 #[.val (.int p1), .val (.int p2), .val (.int p3), .val (.int p4), .val (.int p5), .val (.int x5), .val (.int x6), .val (.int (((p5.toUInt32 >>> ((2 : Int32) &&& 31).toUInt32).toInt32) &&& (3 : Int32))), .val (.ref b1), .val (.ref b12), .val (.ref b12), .unset, .unset] [(.int (1 : Int32))])
          refine own_step (fun _ k => XS.goto X63.here hx rfl (pc0 := 101) (pc' := 105) rfl (hb hby at_101) (by decide) (by decide) k) ?_
          show own_Go _ _ _ _ T63 (mkF m 105 #[.val (.int p1), .val (.int p2), .val (.int p3), .val (.int p4), .val (.int p5), .val (.int x5), .val (.int x6), .val (.int (((p5.toUInt32 >>> ((2 : Int32) &&& 31).toUInt32).toInt32) &&& (3 : Int32))), .val (.ref b1), .val (.ref b12), .val (.ref b12), .unset, .unset] [(.int (1 : Int32))])
          refine own_step (fun _ k => XS.istore X63.here hx rfl (hb hby at_105) rfl (l' := #[.val (.int p1), .val (.int p2), .val (.int p3), .val (.int p4), .val (.int p5), .val (.int x5), .val (.int x6), .val (.int (((p5.toUInt32 >>> ((2 : Int32) &&& 31).toUInt32).toInt32) &&& (3 : Int32))), .val (.ref b1), .val (.ref b12), .val (.ref b12), .val (.int (1 : Int32)), .unset]) rfl k) ?_
          show own_Go _ _ _ _ T63 (mkF m 107 #[.val (.int p1), .val (.int p2), .val (.int p3), .val (.int p4), .val (.int p5), .val (.int x5), .val (.int x6), .val (.int (((p5.toUInt32 >>> ((2 : Int32) &&& 31).toUInt32).toInt32) &&& (3 : Int32))), .val (.ref b1), .val (.ref b12), .val (.ref b12), .val (.int (1 : Int32)), .unset] [])
          refine own_step (fun _ k => XS.goto X63.here hx rfl (pc0 := 107) (pc' := 150) rfl (hb hby at_107) (by decide) (by decide) k) ?_
          show own_Go _ _ _ _ T63 (mkF m 150 #[.val (.int p1), .val (.int p2), .val (.int p3), .val (.int p4), .val (.int p5), .val (.int x5), .val (.int x6), .val (.int (((p5.toUInt32 >>> ((2 : Int32) &&& 31).toUInt32).toInt32) &&& (3 : Int32))), .val (.ref b1), .val (.ref b12), .val (.ref b12), .val (.int (1 : Int32)), .unset] [])
          refine own_step (fun _ k => XS.aload X63.here hx rfl (hb hby at_150) rfl rfl k) ?_
          show own_Go _ _ _ _ T63 (mkF m 152 #[.val (.int p1), .val (.int p2), .val (.int p3), .val (.int p4), .val (.int p5), .val (.int x5), .val (.int x6), .val (.int (((p5.toUInt32 >>> ((2 : Int32) &&& 31).toUInt32).toInt32) &&& (3 : Int32))), .val (.ref b1), .val (.ref b12), .val (.ref b12), .val (.int (1 : Int32)), .unset] [(.ref b1)])
          refine own_step (fun _ k => XS.aload X63.here hx rfl (hb hby at_152) rfl rfl k) ?_
          show own_Go _ _ _ _ T63 (mkF m 154 #[.val (.int p1), .val (.int p2), .val (.int p3), .val (.int p4), .val (.int p5), .val (.int x5), .val (.int x6), .val (.int (((p5.toUInt32 >>> ((2 : Int32) &&& 31).toUInt32).toInt32) &&& (3 : Int32))), .val (.ref b1), .val (.ref b12), .val (.ref b12), .val (.int (1 : Int32)), .unset] [(.ref b12), (.ref b1)])
          have Q88 := ((Q27.keep K28 all0).keep K37 (allS g_b12 all0))
          have Q89 := (Q33.keep K37)
          have Q90 := (Q34.keep K37)
          have Q91 := ((((FB10.ext E12).keep K19 nin0).keep K28 nin0).keep K37 (ninS ne_b1_b12 nin0))
          have Q92 := ((((FI10.ext E12).keep K19 nin0).keep K28 nin0).keep K37 (ninS ne_b1_b12 nin0))
          have Q93 := ((Q29.keep K28).keep K37)
          have Q94 := ((((((FC3.keep K6 nin0).keep K10 (ninS (Ne.symm ne_b1_so3) nin0)).ext E12).keep K19 nin0).keep K28 nin0).keep K37 (ninS ne_so3_b12 nin0))
          have Q95 := ((((((FV3.keep K6 nin0).keep K10 (ninS (Ne.symm ne_b1_so3) nin0)).ext E12).keep K19 nin0).keep K28 nin0).keep K37 (ninS ne_so3_b12 nin0))
          have Q96 := ((Q30.keep K28 nin0).keep K37 (ninS ne_sv3_b12 nin0))
          have Q97 := ((EX19.keep K28).keep K37)
          have Q98 := ((FC19.keep K28 nin0).keep K37 (ninS (Ne.symm ne_b12_so19) nin0))
          have Q99 := ((FV19.keep K28 nin0).keep K37 (ninS (Ne.symm ne_b12_so19) nin0))
          have Q100 := ((V19.keep K28 nin0).keep K37 (ninS (Ne.symm ne_b12_sv19) nin0))
          have Q101 := ((Q31.keep K28).keep K37)
          have Q102 := (((((FC6.keep K10 (ninS (Ne.symm ne_b1_so6) nin0)).ext E12).keep K19 nin0).keep K28 nin0).keep K37 (ninS ne_so6_b12 nin0))
          have Q103 := (((((FV6.keep K10 (ninS (Ne.symm ne_b1_so6) nin0)).ext E12).keep K19 nin0).keep K28 nin0).keep K37 (ninS ne_so6_b12 nin0))
          have Q104 := ((Q32.keep K28 nin0).keep K37 (ninS ne_sv6_b12 nin0))
          have Q105 := (EX28.keep K37)
          have Q106 := (FC28.keep K37 (ninS (Ne.symm ne_b12_so28) nin0))
          have Q107 := (FV28.keep K37 (ninS (Ne.symm ne_b12_so28) nin0))
          have Q108 := (V28.keep K37 (ninS (Ne.symm ne_b12_sv28) nin0))
          refine own_callV X63 hx hZ (y := (⟨"com/example/tickwright/tickwright/Account", "equals", "(Ljava/lang/Object;)Z"⟩ : MethodName)) (z := (⟨"com/example/tickwright/tickwright/Account", "equals", "(Ljava/lang/Object;)Z"⟩ : MethodName)) hown (hw _ (List.mem_of_getElem? (i := 54) rfl)) (hw _ (List.mem_of_getElem? (i := 55) rfl)) (hw _ (List.mem_of_getElem? (i := 57) rfl)) (hw _ (List.mem_of_getElem? (i := 57) rfl)) (hw _ (List.mem_of_getElem? (i := 56) rfl)) (hw _ (List.mem_of_getElem? (i := 2) rfl)) (hw _ (List.mem_of_getElem? (i := 58) rfl)) (by decide) (rm11_d l Z a0 hw [] b1 b12 cz so3 so6 so19 so28 sv3 sv19 sv6 sv28 sk3 sk19 sk6 sk28 (p1 &&& (3 : Int32)) (x5 &&& (3 : Int32)) (p2 &&& (3 : Int32)) (x6 &&& (3 : Int32)) (own_by p1) (own_by x5) (own_by p2) (own_by x6) T37.heap n0 Z37 Q88 SC hcz Q89 Q90 Q91 Q92 FB37 FI37 Q93 Q94 Q95 Q96 Q97 Q98 Q99 Q100 Q101 Q102 Q103 Q104 Q105 Q106 Q107 Q108 (own_byl p1) (own_byl x5) (own_byl p2) (own_byl x6) (own_byc p1) (own_byc p2) ne_so3_so19 ne_so6_so28) e63 (b := b1) Q89 0 (by decide) (by decide) (by decide) (by decide) (g := (mkF m 154 #[.val (.int p1), .val (.int p2), .val (.int p3), .val (.int p4), .val (.int p5), .val (.int x5), .val (.int x6), .val (.int (((p5.toUInt32 >>> ((2 : Int32) &&& 31).toUInt32).toInt32) &&& (3 : Int32))), .val (.ref b1), .val (.ref b12), .val (.ref b12), .val (.int (1 : Int32)), .unset] [(.ref b12), (.ref b1)])) rfl (by rw [hml]; rfl) [(.ref b12)] [] pd_7 rfl rfl rfl (by show 2 * 0 + _ ≤ _; exact Nat.le_of_eq rfl) (hb hby at_154) ?_
          rintro v109 T109 L109 X109 ⟨rfl, Nq109, e109⟩
          have N109 := Fr.app N63 Nq109
          show own_Go _ _ _ _ T109 (mkF m 157 #[.val (.int p1), .val (.int p2), .val (.int p3), .val (.int p4), .val (.int p5), .val (.int x5), .val (.int x6), .val (.int (((p5.toUInt32 >>> ((2 : Int32) &&& 31).toUInt32).toInt32) &&& (3 : Int32))), .val (.ref b1), .val (.ref b12), .val (.ref b12), .val (.int (1 : Int32)), .unset] [(.int (own_ae (own_eqb (own_by p1) (own_by x5)) (own_eqb (own_by p2) (own_by x6))))])
          refine own_step (fun _ k => XS.istore X109.here hx rfl (hb hby at_157) rfl (l' := #[.val (.int p1), .val (.int p2), .val (.int p3), .val (.int p4), .val (.int p5), .val (.int x5), .val (.int x6), .val (.int (((p5.toUInt32 >>> ((2 : Int32) &&& 31).toUInt32).toInt32) &&& (3 : Int32))), .val (.ref b1), .val (.ref b12), .val (.ref b12), .val (.int (1 : Int32)), .val (.int (own_ae (own_eqb (own_by p1) (own_by x5)) (own_eqb (own_by p2) (own_by x6))))]) rfl k) ?_
          show own_Go _ _ _ _ T109 (mkF m 159 #[.val (.int p1), .val (.int p2), .val (.int p3), .val (.int p4), .val (.int p5), .val (.int x5), .val (.int x6), .val (.int (((p5.toUInt32 >>> ((2 : Int32) &&& 31).toUInt32).toInt32) &&& (3 : Int32))), .val (.ref b1), .val (.ref b12), .val (.ref b12), .val (.int (1 : Int32)), .val (.int (own_ae (own_eqb (own_by p1) (own_by x5)) (own_eqb (own_by p2) (own_by x6))))] [])
          refine own_step (fun _ k => XS.iload X109.here hx rfl (hb hby at_159) rfl k) ?_
          show own_Go _ _ _ _ T109 (mkF m 161 #[.val (.int p1), .val (.int p2), .val (.int p3), .val (.int p4), .val (.int p5), .val (.int x5), .val (.int x6), .val (.int (((p5.toUInt32 >>> ((2 : Int32) &&& 31).toUInt32).toInt32) &&& (3 : Int32))), .val (.ref b1), .val (.ref b12), .val (.ref b12), .val (.int (1 : Int32)), .val (.int (own_ae (own_eqb (own_by p1) (own_by x5)) (own_eqb (own_by p2) (own_by x6))))] [(.int (own_ae (own_eqb (own_by p1) (own_by x5)) (own_eqb (own_by p2) (own_by x6))))])
          refine own_step (fun _ k => XS.iload X109.here hx rfl (hb hby at_161) rfl k) ?_
          show own_Go _ _ _ _ T109 (mkF m 163 #[.val (.int p1), .val (.int p2), .val (.int p3), .val (.int p4), .val (.int p5), .val (.int x5), .val (.int x6), .val (.int (((p5.toUInt32 >>> ((2 : Int32) &&& 31).toUInt32).toInt32) &&& (3 : Int32))), .val (.ref b1), .val (.ref b12), .val (.ref b12), .val (.int (1 : Int32)), .val (.int (own_ae (own_eqb (own_by p1) (own_by x5)) (own_eqb (own_by p2) (own_by x6))))] [(.int (1 : Int32)), (.int (own_ae (own_eqb (own_by p1) (own_by x5)) (own_eqb (own_by p2) (own_by x6))))])
          refine own_step (fun _ k => XS.icmpYes X109.here hx rfl (pc0 := 163) (pc' := 168) rfl (hb hby at_163) rfl (teq (own_dec p1 x5 p2 x6 (1 : Int32) ((if_neg hc39).trans (if_neg hc64))).1).1 (by decide) (by decide) k) ?_
          show own_Go _ _ _ _ T109 (mkF m 168 #[.val (.int p1), .val (.int p2), .val (.int p3), .val (.int p4), .val (.int p5), .val (.int x5), .val (.int x6), .val (.int (((p5.toUInt32 >>> ((2 : Int32) &&& 31).toUInt32).toInt32) &&& (3 : Int32))), .val (.ref b1), .val (.ref b12), .val (.ref b12), .val (.int (1 : Int32)), .val (.int (own_ae (own_eqb (own_by p1) (own_by x5)) (own_eqb (own_by p2) (own_by x6))))] [])
          refine own_step (fun _ k => XS.aload X109.here hx rfl (hb hby at_168) rfl rfl k) ?_
          show own_Go _ _ _ _ T109 (mkF m 170 #[.val (.int p1), .val (.int p2), .val (.int p3), .val (.int p4), .val (.int p5), .val (.int x5), .val (.int x6), .val (.int (((p5.toUInt32 >>> ((2 : Int32) &&& 31).toUInt32).toInt32) &&& (3 : Int32))), .val (.ref b1), .val (.ref b12), .val (.ref b12), .val (.int (1 : Int32)), .val (.int (own_ae (own_eqb (own_by p1) (own_by x5)) (own_eqb (own_by p2) (own_by x6))))] [(.ref b12)])
          refine own_step (fun _ k => XS.ifnullNo X109.here hx rfl (hb hby at_170) rfl k) ?_
          show own_Go _ _ _ _ T109 (mkF m 173 #[.val (.int p1), .val (.int p2), .val (.int p3), .val (.int p4), .val (.int p5), .val (.int x5), .val (.int x6), .val (.int (((p5.toUInt32 >>> ((2 : Int32) &&& 31).toUInt32).toInt32) &&& (3 : Int32))), .val (.ref b1), .val (.ref b12), .val (.ref b12), .val (.int (1 : Int32)), .val (.int (own_ae (own_eqb (own_by p1) (own_by x5)) (own_eqb (own_by p2) (own_by x6))))] [])
          refine own_step (fun _ k => XS.aload X109.here hx rfl (hb hby at_173) rfl rfl k) ?_
          show own_Go _ _ _ _ T109 (mkF m 175 #[.val (.int p1), .val (.int p2), .val (.int p3), .val (.int p4), .val (.int p5), .val (.int x5), .val (.int x6), .val (.int (((p5.toUInt32 >>> ((2 : Int32) &&& 31).toUInt32).toInt32) &&& (3 : Int32))), .val (.ref b1), .val (.ref b12), .val (.ref b12), .val (.int (1 : Int32)), .val (.int (own_ae (own_eqb (own_by p1) (own_by x5)) (own_eqb (own_by p2) (own_by x6))))] [(.ref b12)])
          refine own_step (fun _ k => XS.aload X109.here hx rfl (hb hby at_175) rfl rfl k) ?_
          show own_Go _ _ _ _ T109 (mkF m 177 #[.val (.int p1), .val (.int p2), .val (.int p3), .val (.int p4), .val (.int p5), .val (.int x5), .val (.int x6), .val (.int (((p5.toUInt32 >>> ((2 : Int32) &&& 31).toUInt32).toInt32) &&& (3 : Int32))), .val (.ref b1), .val (.ref b12), .val (.ref b12), .val (.int (1 : Int32)), .val (.int (own_ae (own_eqb (own_by p1) (own_by x5)) (own_eqb (own_by p2) (own_by x6))))] [(.ref b1), (.ref b12)])
          refine own_callV X109 hx hZ (y := (⟨"com/example/tickwright/tickwright/Account", "equals", "(Ljava/lang/Object;)Z"⟩ : MethodName)) (z := (⟨"com/example/tickwright/tickwright/Account", "equals", "(Ljava/lang/Object;)Z"⟩ : MethodName)) hown (hw _ (List.mem_of_getElem? (i := 54) rfl)) (hw _ (List.mem_of_getElem? (i := 55) rfl)) (hw _ (List.mem_of_getElem? (i := 57) rfl)) (hw _ (List.mem_of_getElem? (i := 57) rfl)) (hw _ (List.mem_of_getElem? (i := 56) rfl)) (hw _ (List.mem_of_getElem? (i := 2) rfl)) (hw _ (List.mem_of_getElem? (i := 58) rfl)) (by decide) (rm11_d l Z a0 hw [] b12 b1 cz so19 so28 so3 so6 sv19 sv3 sv28 sv6 sk19 sk3 sk28 sk6 (x5 &&& (3 : Int32)) (p1 &&& (3 : Int32)) (x6 &&& (3 : Int32)) (p2 &&& (3 : Int32)) (own_by x5) (own_by p1) (own_by x6) (own_by p2) T37.heap n0 Z37 Q88 SC hcz Q90 Q89 FB37 FI37 Q91 Q92 Q97 Q98 Q99 Q100 Q93 Q94 Q95 Q96 Q105 Q106 Q107 Q108 Q101 Q102 Q103 Q104 (own_byl x5) (own_byl p1) (own_byl x6) (own_byl p2) (own_byc x5) (own_byc x6) (Ne.symm ne_so3_so19) (Ne.symm ne_so6_so28)) e109 (b := b12) Q90 0 (by decide) (by decide) (by decide) (by decide) (g := (mkF m 177 #[.val (.int p1), .val (.int p2), .val (.int p3), .val (.int p4), .val (.int p5), .val (.int x5), .val (.int x6), .val (.int (((p5.toUInt32 >>> ((2 : Int32) &&& 31).toUInt32).toInt32) &&& (3 : Int32))), .val (.ref b1), .val (.ref b12), .val (.ref b12), .val (.int (1 : Int32)), .val (.int (own_ae (own_eqb (own_by p1) (own_by x5)) (own_eqb (own_by p2) (own_by x6))))] [(.ref b1), (.ref b12)])) rfl (by rw [hml]; rfl) [(.ref b1)] [] pd_7 rfl rfl rfl (by show 2 * 0 + _ ≤ _; exact Nat.le_of_eq rfl) (hb hby at_177) ?_
          rintro v110 T110 L110 X110 ⟨rfl, Nq110, e110⟩
          have N110 := Fr.app N109 Nq110
          show own_Go _ _ _ _ T110 (mkF m 180 #[.val (.int p1), .val (.int p2), .val (.int p3), .val (.int p4), .val (.int p5), .val (.int x5), .val (.int x6), .val (.int (((p5.toUInt32 >>> ((2 : Int32) &&& 31).toUInt32).toInt32) &&& (3 : Int32))), .val (.ref b1), .val (.ref b12), .val (.ref b12), .val (.int (1 : Int32)), .val (.int (own_ae (own_eqb (own_by p1) (own_by x5)) (own_eqb (own_by p2) (own_by x6))))] [(.int (own_ae (own_eqb (own_by x5) (own_by p1)) (own_eqb (own_by x6) (own_by p2))))])
          refine own_step (fun _ k => XS.iload X110.here hx rfl (hb hby at_180) rfl k) ?_
          show own_Go _ _ _ _ T110 (mkF m 182 #[.val (.int p1), .val (.int p2), .val (.int p3), .val (.int p4), .val (.int p5), .val (.int x5), .val (.int x6), .val (.int (((p5.toUInt32 >>> ((2 : Int32) &&& 31).toUInt32).toInt32) &&& (3 : Int32))), .val (.ref b1), .val (.ref b12), .val (.ref b12), .val (.int (1 : Int32)), .val (.int (own_ae (own_eqb (own_by p1) (own_by x5)) (own_eqb (own_by p2) (own_by x6))))] [(.int (1 : Int32)), (.int (own_ae (own_eqb (own_by x5) (own_by p1)) (own_eqb (own_by x6) (own_by p2))))])
          refine own_step (fun _ k => XS.icmpNo X110.here hx rfl (hb hby at_182) rfl (teq (own_dec p1 x5 p2 x6 (1 : Int32) ((if_neg hc39).trans (if_neg hc64))).2).2 k) ?_
          show own_Go _ _ _ _ T110 (mkF m 185 #[.val (.int p1), .val (.int p2), .val (.int p3), .val (.int p4), .val (.int p5), .val (.int x5), .val (.int x6), .val (.int (((p5.toUInt32 >>> ((2 : Int32) &&& 31).toUInt32).toInt32) &&& (3 : Int32))), .val (.ref b1), .val (.ref b12), .val (.ref b12), .val (.int (1 : Int32)), .val (.int (own_ae (own_eqb (own_by p1) (own_by x5)) (own_eqb (own_by p2) (own_by x6))))] [])
          refine own_step (fun _ k => XS.iconst X110.here hx rfl (hb hby at_185) k) ?_
          show own_Go _ _ _ _ T110 (mkF m 186 #[.val (.int p1), .val (.int p2), .val (.int p3), .val (.int p4), .val (.int p5), .val (.int x5), .val (.int x6), .val (.int (((p5.toUInt32 >>> ((2 : Int32) &&& 31).toUInt32).toInt32) &&& (3 : Int32))), .val (.ref b1), .val (.ref b12), .val (.ref b12), .val (.int (1 : Int32)), .val (.int (own_ae (own_eqb (own_by p1) (own_by x5)) (own_eqb (own_by p2) (own_by x6))))] [(.int (1 : Int32))])
          refine own_step (fun _ k => XS.goto X110.here hx rfl (pc0 := 186) (pc' := 190) rfl (hb hby at_186) (by decide) (by decide) k) ?_
          show own_Go _ _ _ _ T110 (mkF m 190 #[.val (.int p1), .val (.int p2), .val (.int p3), .val (.int p4), .val (.int p5), .val (.int x5), .val (.int x6), .val (.int (((p5.toUInt32 >>> ((2 : Int32) &&& 31).toUInt32).toInt32) &&& (3 : Int32))), .val (.ref b1), .val (.ref b12), .val (.ref b12), .val (.int (1 : Int32)), .val (.int (own_ae (own_eqb (own_by p1) (own_by x5)) (own_eqb (own_by p2) (own_by x6))))] [(.int (1 : Int32))])
          exact own_retN X110 hx (t := .boolean) hret (by simp) hlk (hb hby at_190) rfl (own_W X110 hS28 hk37 e110 eS hZ hEL C37 ⟨rfl, N110⟩ (by decide) (by decide)) 
    · refine own_step (fun _ k => XS.ifYes X10.here hx rfl (pc0 := 56) (pc' := 110) rfl (hb hby at_56) rfl ((if0 _ _).trans (feq hc11).2) (by decide) (by decide) k) ?_
      show own_Go _ _ _ _ T10 (mkF m 110 #[.val (.int p1), .val (.int p2), .val (.int p3), .val (.int p4), .val (.int p5), .val (.int x5), .val (.int x6), .val (.int (((p5.toUInt32 >>> ((2 : Int32) &&& 31).toUInt32).toInt32) &&& (3 : Int32))), .val (.ref b1), .val .null, .unset, .unset, .unset] [])
      refine own_step (fun _ k => XS.iload X10.here hx rfl (hb hby at_110) rfl k) ?_
      show own_Go _ _ _ _ T10 (mkF m 112 #[.val (.int p1), .val (.int p2), .val (.int p3), .val (.int p4), .val (.int p5), .val (.int x5), .val (.int x6), .val (.int (((p5.toUInt32 >>> ((2 : Int32) &&& 31).toUInt32).toInt32) &&& (3 : Int32))), .val (.ref b1), .val .null, .unset, .unset, .unset] [(.int (((p5.toUInt32 >>> ((2 : Int32) &&& 31).toUInt32).toInt32) &&& (3 : Int32)))])
      refine own_step (fun _ k => XS.iconst X10.here hx rfl (hb hby at_112) k) ?_
      show own_Go _ _ _ _ T10 (mkF m 113 #[.val (.int p1), .val (.int p2), .val (.int p3), .val (.int p4), .val (.int p5), .val (.int x5), .val (.int x6), .val (.int (((p5.toUInt32 >>> ((2 : Int32) &&& 31).toUInt32).toInt32) &&& (3 : Int32))), .val (.ref b1), .val .null, .unset, .unset, .unset] [(.int (1 : Int32)), (.int (((p5.toUInt32 >>> ((2 : Int32) &&& 31).toUInt32).toInt32) &&& (3 : Int32)))])
      by_cases hc111 : (((p5.toUInt32 >>> ((2 : Int32) &&& 31).toUInt32).toInt32) &&& (3 : Int32)) = (1 : Int32)
      · refine own_step (fun _ k => XS.icmpNo X10.here hx rfl (hb hby at_113) rfl (teq hc111).2 k) ?_
        show own_Go _ _ _ _ T10 (mkF m 116 #[.val (.int p1), .val (.int p2), .val (.int p3), .val (.int p4), .val (.int p5), .val (.int x5), .val (.int x6), .val (.int (((p5.toUInt32 >>> ((2 : Int32) &&& 31).toUInt32).toInt32) &&& (3 : Int32))), .val (.ref b1), .val .null, .unset, .unset, .unset] [])
        refine own_step (fun _ k => XS.aload X10.here hx rfl (hb hby at_116) rfl rfl k) ?_
        show own_Go _ _ _ _ T10 (mkF m 118 #[.val (.int p1), .val (.int p2), .val (.int p3), .val (.int p4), .val (.int p5), .val (.int x5), .val (.int x6), .val (.int (((p5.toUInt32 >>> ((2 : Int32) &&& 31).toUInt32).toInt32) &&& (3 : Int32))), .val (.ref b1), .val .null, .unset, .unset, .unset] [(.ref b1)])
        refine own_step (fun _ k => XS.astore X10.here hx rfl (hb hby at_118) rfl rfl (l' := #[.val (.int p1), .val (.int p2), .val (.int p3), .val (.int p4), .val (.int p5), .val (.int x5), .val (.int x6), .val (.int (((p5.toUInt32 >>> ((2 : Int32) &&& 31).toUInt32).toInt32) &&& (3 : Int32))), .val (.ref b1), .val .null, .val (.ref b1), .unset, .unset]) rfl k) ?_
        show own_Go _ _ _ _ T10 (mkF m 120 #[.val (.int p1), .val (.int p2), .val (.int p3), .val (.int p4), .val (.int p5), .val (.int x5), .val (.int x6), .val (.int (((p5.toUInt32 >>> ((2 : Int32) &&& 31).toUInt32).toInt32) &&& (3 : Int32))), .val (.ref b1), .val .null, .val (.ref b1), .unset, .unset] [])
        refine own_step (fun _ k => XS.iconst X10.here hx rfl (hb hby at_120) k) ?_
        show own_Go _ _ _ _ T10 (mkF m 121 #[.val (.int p1), .val (.int p2), .val (.int p3), .val (.int p4), .val (.int p5), .val (.int x5), .val (.int x6), .val (.int (((p5.toUInt32 >>> ((2 : Int32) &&& 31).toUInt32).toInt32) &&& (3 : Int32))), .val (.ref b1), .val .null, .val (.ref b1), .unset, .unset] [(.int (1 : Int32))])
        refine own_step (fun _ k => XS.istore X10.here hx rfl (hb hby at_121) rfl (l' := #[.val (.int p1), .val (.int p2), .val (.int p3), .val (.int p4), .val (.int p5), .val (.int x5), .val (.int x6), .val (.int (((p5.toUInt32 >>> ((2 : Int32) &&& 31).toUInt32).toInt32) &&& (3 : Int32))), .val (.ref b1), .val .null, .val (.ref b1), .val (.int (1 : Int32)), .unset]) rfl k) ?_
        show own_Go _ _ _ _ T10 (mkF m 123 #[.val (.int p1), .val (.int p2), .val (.int p3), .val (.int p4), .val (.int p5), .val (.int x5), .val (.int x6), .val (.int (((p5.toUInt32 >>> ((2 : Int32) &&& 31).toUInt32).toInt32) &&& (3 : Int32))), .val (.ref b1), .val .null, .val (.ref b1), .val (.int (1 : Int32)), .unset] [])
        refine own_step (fun _ k => XS.goto X10.here hx rfl (pc0 := 123) (pc' := 150) rfl (hb hby at_123) (by decide) (by decide) k) ?_
        show own_Go _ _ _ _ T10 (mkF m 150 #[.val (.int p1), .val (.int p2), .val (.int p3), .val (.int p4), .val (.int p5), .val (.int x5), .val (.int x6), .val (.int (((p5.toUInt32 >>> ((2 : Int32) &&& 31).toUInt32).toInt32) &&& (3 : Int32))), .val (.ref b1), .val .null, .val (.ref b1), .val (.int (1 : Int32)), .unset] [])
        refine own_step (fun _ k => XS.aload X10.here hx rfl (hb hby at_150) rfl rfl k) ?_
        show own_Go _ _ _ _ T10 (mkF m 152 #[.val (.int p1), .val (.int p2), .val (.int p3), .val (.int p4), .val (.int p5), .val (.int x5), .val (.int x6), .val (.int (((p5.toUInt32 >>> ((2 : Int32) &&& 31).toUInt32).toInt32) &&& (3 : Int32))), .val (.ref b1), .val .null, .val (.ref b1), .val (.int (1 : Int32)), .unset] [(.ref b1)])
        refine own_step (fun _ k => XS.aload X10.here hx rfl (hb hby at_152) rfl rfl k) ?_
        show own_Go _ _ _ _ T10 (mkF m 154 #[.val (.int p1), .val (.int p2), .val (.int p3), .val (.int p4), .val (.int p5), .val (.int x5), .val (.int x6), .val (.int (((p5.toUInt32 >>> ((2 : Int32) &&& 31).toUInt32).toInt32) &&& (3 : Int32))), .val (.ref b1), .val .null, .val (.ref b1), .val (.int (1 : Int32)), .unset] [(.ref b1), (.ref b1)])
        have Q112 := (Q7.keep K10)
        have Q113 := ((EX3.keep K6).keep K10)
        have Q114 := (EX6.keep K10)
        refine own_callV X10 hx hZ (y := (⟨"com/example/tickwright/tickwright/Account", "equals", "(Ljava/lang/Object;)Z"⟩ : MethodName)) (z := (⟨"com/example/tickwright/tickwright/Account", "equals", "(Ljava/lang/Object;)Z"⟩ : MethodName)) hown (hw _ (List.mem_of_getElem? (i := 54) rfl)) (hw _ (List.mem_of_getElem? (i := 55) rfl)) (hw _ (List.mem_of_getElem? (i := 57) rfl)) (hw _ (List.mem_of_getElem? (i := 57) rfl)) (hw _ (List.mem_of_getElem? (i := 56) rfl)) (hw _ (List.mem_of_getElem? (i := 2) rfl)) (hw _ (List.mem_of_getElem? (i := 58) rfl)) (by decide) (rm11_s l Z a0 hw [] b1 b1 so3 so6 T10.heap n0 Z10 rfl Q112 FB10 FI10 Q113 Q114) rfl (b := b1) Q112 0 (by decide) (by decide) (by decide) (by decide) (g := (mkF m 154 #[.val (.int p1), .val (.int p2), .val (.int p3), .val (.int p4), .val (.int p5), .val (.int x5), .val (.int x6), .val (.int (((p5.toUInt32 >>> ((2 : Int32) &&& 31).toUInt32).toInt32) &&& (3 : Int32))), .val (.ref b1), .val .null, .val (.ref b1), .val (.int (1 : Int32)), .unset] [(.ref b1), (.ref b1)])) rfl (by rw [hml]; rfl) [(.ref b1)] [] pd_7 rfl rfl rfl (by show 2 * 0 + _ ≤ _; exact Nat.le_of_eq rfl) (hb hby at_154) ?_
        rintro v115 T115 L115 X115 ⟨rfl, Nq115, e115⟩
        have N115 := Fr.app N10 Nq115
        show own_Go _ _ _ _ T115 (mkF m 157 #[.val (.int p1), .val (.int p2), .val (.int p3), .val (.int p4), .val (.int p5), .val (.int x5), .val (.int x6), .val (.int (((p5.toUInt32 >>> ((2 : Int32) &&& 31).toUInt32).toInt32) &&& (3 : Int32))), .val (.ref b1), .val .null, .val (.ref b1), .val (.int (1 : Int32)), .unset] [(.int (1 : Int32))])
        refine own_step (fun _ k => XS.istore X115.here hx rfl (hb hby at_157) rfl (l' := #[.val (.int p1), .val (.int p2), .val (.int p3), .val (.int p4), .val (.int p5), .val (.int x5), .val (.int x6), .val (.int (((p5.toUInt32 >>> ((2 : Int32) &&& 31).toUInt32).toInt32) &&& (3 : Int32))), .val (.ref b1), .val .null, .val (.ref b1), .val (.int (1 : Int32)), .val (.int (1 : Int32))]) rfl k) ?_
        show own_Go _ _ _ _ T115 (mkF m 159 #[.val (.int p1), .val (.int p2), .val (.int p3), .val (.int p4), .val (.int p5), .val (.int x5), .val (.int x6), .val (.int (((p5.toUInt32 >>> ((2 : Int32) &&& 31).toUInt32).toInt32) &&& (3 : Int32))), .val (.ref b1), .val .null, .val (.ref b1), .val (.int (1 : Int32)), .val (.int (1 : Int32))] [])
        refine own_step (fun _ k => XS.iload X115.here hx rfl (hb hby at_159) rfl k) ?_
        show own_Go _ _ _ _ T115 (mkF m 161 #[.val (.int p1), .val (.int p2), .val (.int p3), .val (.int p4), .val (.int p5), .val (.int x5), .val (.int x6), .val (.int (((p5.toUInt32 >>> ((2 : Int32) &&& 31).toUInt32).toInt32) &&& (3 : Int32))), .val (.ref b1), .val .null, .val (.ref b1), .val (.int (1 : Int32)), .val (.int (1 : Int32))] [(.int (1 : Int32))])
        refine own_step (fun _ k => XS.iload X115.here hx rfl (hb hby at_161) rfl k) ?_
        show own_Go _ _ _ _ T115 (mkF m 163 #[.val (.int p1), .val (.int p2), .val (.int p3), .val (.int p4), .val (.int p5), .val (.int x5), .val (.int x6), .val (.int (((p5.toUInt32 >>> ((2 : Int32) &&& 31).toUInt32).toInt32) &&& (3 : Int32))), .val (.ref b1), .val .null, .val (.ref b1), .val (.int (1 : Int32)), .val (.int (1 : Int32))] [(.int (1 : Int32)), (.int (1 : Int32))])
        refine own_step (fun _ k => XS.icmpYes X115.here hx rfl (pc0 := 163) (pc' := 168) rfl (hb hby at_163) rfl (teq (by decide : (1 : Int32) = (1 : Int32))).1 (by decide) (by decide) k) ?_
        show own_Go _ _ _ _ T115 (mkF m 168 #[.val (.int p1), .val (.int p2), .val (.int p3), .val (.int p4), .val (.int p5), .val (.int x5), .val (.int x6), .val (.int (((p5.toUInt32 >>> ((2 : Int32) &&& 31).toUInt32).toInt32) &&& (3 : Int32))), .val (.ref b1), .val .null, .val (.ref b1), .val (.int (1 : Int32)), .val (.int (1 : Int32))] [])
        refine own_step (fun _ k => XS.aload X115.here hx rfl (hb hby at_168) rfl rfl k) ?_
        show own_Go _ _ _ _ T115 (mkF m 170 #[.val (.int p1), .val (.int p2), .val (.int p3), .val (.int p4), .val (.int p5), .val (.int x5), .val (.int x6), .val (.int (((p5.toUInt32 >>> ((2 : Int32) &&& 31).toUInt32).toInt32) &&& (3 : Int32))), .val (.ref b1), .val .null, .val (.ref b1), .val (.int (1 : Int32)), .val (.int (1 : Int32))] [.null])
        refine own_step (fun _ k => XS.ifnullYes X115.here hx rfl (pc0 := 170) (pc' := 191) rfl (hb hby at_170) rfl (by decide) (by decide) k) ?_
        show own_Go _ _ _ _ T115 (mkF m 191 #[.val (.int p1), .val (.int p2), .val (.int p3), .val (.int p4), .val (.int p5), .val (.int x5), .val (.int x6), .val (.int (((p5.toUInt32 >>> ((2 : Int32) &&& 31).toUInt32).toInt32) &&& (3 : Int32))), .val (.ref b1), .val .null, .val (.ref b1), .val (.int (1 : Int32)), .val (.int (1 : Int32))] [])
        refine own_step (fun _ k => XS.iconst X115.here hx rfl (hb hby at_191) k) ?_
        show own_Go _ _ _ _ T115 (mkF m 192 #[.val (.int p1), .val (.int p2), .val (.int p3), .val (.int p4), .val (.int p5), .val (.int x5), .val (.int x6), .val (.int (((p5.toUInt32 >>> ((2 : Int32) &&& 31).toUInt32).toInt32) &&& (3 : Int32))), .val (.ref b1), .val .null, .val (.ref b1), .val (.int (1 : Int32)), .val (.int (1 : Int32))] [(.int (1 : Int32))])
        exact own_retN X115 hx (t := .boolean) hret (by simp) hlk (hb hby at_192) rfl (own_W X115 hS6 hk10 e115 eS hZ hEL C10 ⟨rfl, N115⟩ (by decide) (by decide)) 
      · refine own_step (fun _ k => XS.icmpYes X10.here hx rfl (pc0 := 113) (pc' := 126) rfl (hb hby at_113) rfl (feq hc111).2 (by decide) (by decide) k) ?_
        show own_Go _ _ _ _ T10 (mkF m 126 #[.val (.int p1), .val (.int p2), .val (.int p3), .val (.int p4), .val (.int p5), .val (.int x5), .val (.int x6), .val (.int (((p5.toUInt32 >>> ((2 : Int32) &&& 31).toUInt32).toInt32) &&& (3 : Int32))), .val (.ref b1), .val .null, .unset, .unset, .unset] [])
        refine own_step (fun _ k => XS.iload X10.here hx rfl (hb hby at_126) rfl k) ?_
        show own_Go _ _ _ _ T10 (mkF m 128 #[.val (.int p1), .val (.int p2), .val (.int p3), .val (.int p4), .val (.int p5), .val (.int x5), .val (.int x6), .val (.int (((p5.toUInt32 >>> ((2 : Int32) &&& 31).toUInt32).toInt32) &&& (3 : Int32))), .val (.ref b1), .val .null, .unset, .unset, .unset] [(.int (((p5.toUInt32 >>> ((2 : Int32) &&& 31).toUInt32).toInt32) &&& (3 : Int32)))])
        refine own_step (fun _ k => XS.iconst X10.here hx rfl (hb hby at_128) k) ?_
        show own_Go _ _ _ _ T10 (mkF m 129 #[.val (.int p1), .val (.int p2), .val (.int p3), .val (.int p4), .val (.int p5), .val (.int x5), .val (.int x6), .val (.int (((p5.toUInt32 >>> ((2 : Int32) &&& 31).toUInt32).toInt32) &&& (3 : Int32))), .val (.ref b1), .val .null, .unset, .unset, .unset] [(.int (2 : Int32)), (.int (((p5.toUInt32 >>> ((2 : Int32) &&& 31).toUInt32).toInt32) &&& (3 : Int32)))])
        by_cases hc116 : (((p5.toUInt32 >>> ((2 : Int32) &&& 31).toUInt32).toInt32) &&& (3 : Int32)) = (2 : Int32)
        · refine own_step (fun _ k => XS.icmpNo X10.here hx rfl (hb hby at_129) rfl (teq hc116).2 k) ?_
          show own_Go _ _ _ _ T10 (mkF m 132 #[.val (.int p1), .val (.int p2), .val (.int p3), .val (.int p4), .val (.int p5), .val (.int x5), .val (.int x6), .val (.int (((p5.toUInt32 >>> ((2 : Int32) &&& 31).toUInt32).toInt32) &&& (3 : Int32))), .val (.ref b1), .val .null, .unset, .unset, .unset] [])
          refine own_step (fun _ k => XS.iloadN X10.here hx rfl (hb hby at_132) rfl k) ?_
          show own_Go _ _ _ _ T10 (mkF m 133 #[.val (.int p1), .val (.int p2), .val (.int p3), .val (.int p4), .val (.int p5), .val (.int x5), .val (.int x6), .val (.int (((p5.toUInt32 >>> ((2 : Int32) &&& 31).toUInt32).toInt32) &&& (3 : Int32))), .val (.ref b1), .val .null, .unset, .unset, .unset] [(.int p1)])
          have Q117 := ((Q5.keep K6 all0).keep K10 (allS g_b1 all0))
          refine own_callSW X10 hx hZ (y := (⟨"com/example/tickwright/tickwright/AccountEqualsPinLaw", "str", "(I)Ljava/lang/String;"⟩ : MethodName)) hown (hw _ (List.mem_of_getElem? (i := 3) rfl)) (hw _ (List.mem_of_getElem? (i := 4) rfl)) (hw _ (List.mem_of_getElem? (i := 5) rfl)) (hw _ (List.mem_of_getElem? (i := 6) rfl)) (by decide) (rm1 l Z a0 hw [] p1 cz T10.heap n0 Z10 hEL Q117 SC hcz) rfl hEL C10.1 hS6 hk10 0 (by decide) (by decide) (by decide) (by decide) (g := (mkF m 133 #[.val (.int p1), .val (.int p2), .val (.int p3), .val (.int p4), .val (.int p5), .val (.int x5), .val (.int x6), .val (.int (((p5.toUInt32 >>> ((2 : Int32) &&& 31).toUInt32).toInt32) &&& (3 : Int32))), .val (.ref b1), .val .null, .unset, .unset, .unset] [(.int p1)])) rfl (by rw [hml]; rfl) [(.int p1)] [] pd_8 rfl rfl rfl (by show 2 * 0 + _ ≤ _; exact Nat.le_of_eq rfl) (hb hby at_133) ?_
          rintro v118 T118 L118 X118 ⟨so118, sv118, sk118, rfl, Nq118, K118, sz118, ⟨EX118, FC118, FV118⟩, V118⟩ D118 hS118 hZ hown
          have N118 := Fr.app N10 Nq118
          show own_Go _ _ _ _ T118 (mkF m 136 #[.val (.int p1), .val (.int p2), .val (.int p3), .val (.int p4), .val (.int p5), .val (.int x5), .val (.int x6), .val (.int (((p5.toUInt32 >>> ((2 : Int32) &&& 31).toUInt32).toInt32) &&& (3 : Int32))), .val (.ref b1), .val .null, .unset, .unset, .unset] [(.ref so118)])
          have Q119 := (Q7.keep K10)
          have ne_b1_so118 : b1 ≠ so118 := Nat.ne_of_lt (Nat.lt_of_lt_of_le Q119.lt sz118)
          have Q120 := ((EX3.keep K6).keep K10)
          have ne_so3_so118 : so3 ≠ so118 := Nat.ne_of_lt (Nat.lt_of_lt_of_le Q120.lt sz118)
          have Q121 := ((V3.keep K6 nin0).keep K10 (ninS (Ne.symm ne_b1_sv3) nin0))
          have ne_sv3_so118 : sv3 ≠ so118 := Nat.ne_of_lt (Nat.lt_of_lt_of_le Q121.lt sz118)
          have Q122 := (EX6.keep K10)
          have ne_so6_so118 : so6 ≠ so118 := Nat.ne_of_lt (Nat.lt_of_lt_of_le Q122.lt sz118)
          have Q123 := (V6.keep K10 (ninS (Ne.symm ne_b1_sv6) nin0))
          have ne_sv6_so118 : sv6 ≠ so118 := Nat.ne_of_lt (Nat.lt_of_lt_of_le Q123.lt sz118)
          have Dc118 := D118
          have C118 := C10.trans Dc118
          have Z118 := Nat.le_trans Z10 K118.1
          have Q124 := (Q119.keep K118)
          have ne_b1_sv118 : b1 ≠ sv118 := Exa.neArv Q124 V118 (hw _ (List.mem_of_getElem? (i := 1) rfl))
          refine own_step (fun _ k => XS.astore X118.here hx rfl (hb hby at_136) rfl rfl (l' := #[.val (.int p1), .val (.int p2), .val (.int p3), .val (.int p4), .val (.int p5), .val (.int x5), .val (.int x6), .val (.int (((p5.toUInt32 >>> ((2 : Int32) &&& 31).toUInt32).toInt32) &&& (3 : Int32))), .val (.ref b1), .val .null, .val (.ref so118), .unset, .unset]) rfl k) ?_
          show own_Go _ _ _ _ T118 (mkF m 138 #[.val (.int p1), .val (.int p2), .val (.int p3), .val (.int p4), .val (.int p5), .val (.int x5), .val (.int x6), .val (.int (((p5.toUInt32 >>> ((2 : Int32) &&& 31).toUInt32).toInt32) &&& (3 : Int32))), .val (.ref b1), .val .null, .val (.ref so118), .unset, .unset] [])
          refine own_step (fun _ k => XS.iconst X118.here hx rfl (hb hby at_138) k) ?_
          show own_Go _ _ _ _ T118 (mkF m 139 #[.val (.int p1), .val (.int p2), .val (.int p3), .val (.int p4), .val (.int p5), .val (.int x5), .val (.int x6), .val (.int (((p5.toUInt32 >>> ((2 : Int32) &&& 31).toUInt32).toInt32) &&& (3 : Int32))), .val (.ref b1), .val .null, .val (.ref so118), .unset, .unset] [(.int (0 : Int32))])
          refine own_step (fun _ k => XS.istore X118.here hx rfl (hb hby at_139) rfl (l' := #[.val (.int p1), .val (.int p2), .val (.int p3), .val (.int p4), .val (.int p5), .val (.int x5), .val (.int x6), .val (.int (((p5.toUInt32 >>> ((2 : Int32) &&& 31).toUInt32).toInt32) &&& (3 : Int32))), .val (.ref b1), .val .null, .val (.ref so118), .val (.int (0 : Int32)), .unset]) rfl k) ?_
          show own_Go _ _ _ _ T118 (mkF m 141 #[.val (.int p1), .val (.int p2), .val (.int p3), .val (.int p4), .val (.int p5), .val (.int x5), .val (.int x6), .val (.int (((p5.toUInt32 >>> ((2 : Int32) &&& 31).toUInt32).toInt32) &&& (3 : Int32))), .val (.ref b1), .val .null, .val (.ref so118), .val (.int (0 : Int32)), .unset] [])
          refine own_step (fun _ k => XS.goto X118.here hx rfl (pc0 := 141) (pc' := 150) rfl (hb hby at_141) (by decide) (by decide) k) ?_
          show own_Go _ _ _ _ T118 (mkF m 150 #[.val (.int p1), .val (.int p2), .val (.int p3), .val (.int p4), .val (.int p5), .val (.int x5), .val (.int x6), .val (.int (((p5.toUInt32 >>> ((2 : Int32) &&& 31).toUInt32).toInt32) &&& (3 : Int32))), .val (.ref b1), .val .null, .val (.ref so118), .val (.int (0 : Int32)), .unset] [])
          refine own_step (fun _ k => XS.aload X118.here hx rfl (hb hby at_150) rfl rfl k) ?_
          show own_Go _ _ _ _ T118 (mkF m 152 #[.val (.int p1), .val (.int p2), .val (.int p3), .val (.int p4), .val (.int p5), .val (.int x5), .val (.int x6), .val (.int (((p5.toUInt32 >>> ((2 : Int32) &&& 31).toUInt32).toInt32) &&& (3 : Int32))), .val (.ref b1), .val .null, .val (.ref so118), .val (.int (0 : Int32)), .unset] [(.ref b1)])
          refine own_step (fun _ k => XS.aload X118.here hx rfl (hb hby at_152) rfl rfl k) ?_
          show own_Go _ _ _ _ T118 (mkF m 154 #[.val (.int p1), .val (.int p2), .val (.int p3), .val (.int p4), .val (.int p5), .val (.int x5), .val (.int x6), .val (.int (((p5.toUInt32 >>> ((2 : Int32) &&& 31).toUInt32).toInt32) &&& (3 : Int32))), .val (.ref b1), .val .null, .val (.ref so118), .val (.int (0 : Int32)), .unset] [(.ref so118), (.ref b1)])
          refine own_callV X118 hx hZ (y := (⟨"com/example/tickwright/tickwright/Account", "equals", "(Ljava/lang/Object;)Z"⟩ : MethodName)) (z := (⟨"com/example/tickwright/tickwright/Account", "equals", "(Ljava/lang/Object;)Z"⟩ : MethodName)) hown (hw _ (List.mem_of_getElem? (i := 54) rfl)) (hw _ (List.mem_of_getElem? (i := 55) rfl)) (hw _ (List.mem_of_getElem? (i := 57) rfl)) (hw _ (List.mem_of_getElem? (i := 57) rfl)) (hw _ (List.mem_of_getElem? (i := 56) rfl)) (hw _ (List.mem_of_getElem? (i := 2) rfl)) (hw _ (List.mem_of_getElem? (i := 58) rfl)) (by decide) (rm11_t l Z a0 hw [] b1 so118  T118.heap n0 Z118 EX118) rfl (b := b1) Q124 0 (by decide) (by decide) (by decide) (by decide) (g := (mkF m 154 #[.val (.int p1), .val (.int p2), .val (.int p3), .val (.int p4), .val (.int p5), .val (.int x5), .val (.int x6), .val (.int (((p5.toUInt32 >>> ((2 : Int32) &&& 31).toUInt32).toInt32) &&& (3 : Int32))), .val (.ref b1), .val .null, .val (.ref so118), .val (.int (0 : Int32)), .unset] [(.ref so118), (.ref b1)])) rfl (by rw [hml]; rfl) [(.ref so118)] [] pd_7 rfl rfl rfl (by show 2 * 0 + _ ≤ _; exact Nat.le_of_eq rfl) (hb hby at_154) ?_
          rintro v125 T125 L125 X125 ⟨rfl, Nq125, e125⟩
          have N125 := Fr.app N118 Nq125
          show own_Go _ _ _ _ T125 (mkF m 157 #[.val (.int p1), .val (.int p2), .val (.int p3), .val (.int p4), .val (.int p5), .val (.int x5), .val (.int x6), .val (.int (((p5.toUInt32 >>> ((2 : Int32) &&& 31).toUInt32).toInt32) &&& (3 : Int32))), .val (.ref b1), .val .null, .val (.ref so118), .val (.int (0 : Int32)), .unset] [(.int (0 : Int32))])
          refine own_step (fun _ k => XS.istore X125.here hx rfl (hb hby at_157) rfl (l' := #[.val (.int p1), .val (.int p2), .val (.int p3), .val (.int p4), .val (.int p5), .val (.int x5), .val (.int x6), .val (.int (((p5.toUInt32 >>> ((2 : Int32) &&& 31).toUInt32).toInt32) &&& (3 : Int32))), .val (.ref b1), .val .null, .val (.ref so118), .val (.int (0 : Int32)), .val (.int (0 : Int32))]) rfl k) ?_
          show own_Go _ _ _ _ T125 (mkF m 159 #[.val (.int p1), .val (.int p2), .val (.int p3), .val (.int p4), .val (.int p5), .val (.int x5), .val (.int x6), .val (.int (((p5.toUInt32 >>> ((2 : Int32) &&& 31).toUInt32).toInt32) &&& (3 : Int32))), .val (.ref b1), .val .null, .val (.ref so118), .val (.int (0 : Int32)), .val (.int (0 : Int32))] [])
          refine own_step (fun _ k => XS.iload X125.here hx rfl (hb hby at_159) rfl k) ?_
          show own_Go _ _ _ _ T125 (mkF m 161 #[.val (.int p1), .val (.int p2), .val (.int p3), .val (.int p4), .val (.int p5), .val (.int x5), .val (.int x6), .val (.int (((p5.toUInt32 >>> ((2 : Int32) &&& 31).toUInt32).toInt32) &&& (3 : Int32))), .val (.ref b1), .val .null, .val (.ref so118), .val (.int (0 : Int32)), .val (.int (0 : Int32))] [(.int (0 : Int32))])
          refine own_step (fun _ k => XS.iload X125.here hx rfl (hb hby at_161) rfl k) ?_
          show own_Go _ _ _ _ T125 (mkF m 163 #[.val (.int p1), .val (.int p2), .val (.int p3), .val (.int p4), .val (.int p5), .val (.int x5), .val (.int x6), .val (.int (((p5.toUInt32 >>> ((2 : Int32) &&& 31).toUInt32).toInt32) &&& (3 : Int32))), .val (.ref b1), .val .null, .val (.ref so118), .val (.int (0 : Int32)), .val (.int (0 : Int32))] [(.int (0 : Int32)), (.int (0 : Int32))])
          refine own_step (fun _ k => XS.icmpYes X125.here hx rfl (pc0 := 163) (pc' := 168) rfl (hb hby at_163) rfl (teq (by decide : (0 : Int32) = (0 : Int32))).1 (by decide) (by decide) k) ?_
          show own_Go _ _ _ _ T125 (mkF m 168 #[.val (.int p1), .val (.int p2), .val (.int p3), .val (.int p4), .val (.int p5), .val (.int x5), .val (.int x6), .val (.int (((p5.toUInt32 >>> ((2 : Int32) &&& 31).toUInt32).toInt32) &&& (3 : Int32))), .val (.ref b1), .val .null, .val (.ref so118), .val (.int (0 : Int32)), .val (.int (0 : Int32))] [])
          refine own_step (fun _ k => XS.aload X125.here hx rfl (hb hby at_168) rfl rfl k) ?_
          show own_Go _ _ _ _ T125 (mkF m 170 #[.val (.int p1), .val (.int p2), .val (.int p3), .val (.int p4), .val (.int p5), .val (.int x5), .val (.int x6), .val (.int (((p5.toUInt32 >>> ((2 : Int32) &&& 31).toUInt32).toInt32) &&& (3 : Int32))), .val (.ref b1), .val .null, .val (.ref so118), .val (.int (0 : Int32)), .val (.int (0 : Int32))] [.null])
          refine own_step (fun _ k => XS.ifnullYes X125.here hx rfl (pc0 := 170) (pc' := 191) rfl (hb hby at_170) rfl (by decide) (by decide) k) ?_
          show own_Go _ _ _ _ T125 (mkF m 191 #[.val (.int p1), .val (.int p2), .val (.int p3), .val (.int p4), .val (.int p5), .val (.int x5), .val (.int x6), .val (.int (((p5.toUInt32 >>> ((2 : Int32) &&& 31).toUInt32).toInt32) &&& (3 : Int32))), .val (.ref b1), .val .null, .val (.ref so118), .val (.int (0 : Int32)), .val (.int (0 : Int32))] [])
          refine own_step (fun _ k => XS.iconst X125.here hx rfl (hb hby at_191) k) ?_
          show own_Go _ _ _ _ T125 (mkF m 192 #[.val (.int p1), .val (.int p2), .val (.int p3), .val (.int p4), .val (.int p5), .val (.int x5), .val (.int x6), .val (.int (((p5.toUInt32 >>> ((2 : Int32) &&& 31).toUInt32).toInt32) &&& (3 : Int32))), .val (.ref b1), .val .null, .val (.ref so118), .val (.int (0 : Int32)), .val (.int (0 : Int32))] [(.int (1 : Int32))])
          exact own_retN X125 hx (t := .boolean) hret (by simp) hlk (hb hby at_192) rfl (own_W X125 hS118 (Nat.le_refl _) e125 eS hZ hEL C118 ⟨rfl, N125⟩ (by decide) (by decide)) 
        · refine own_step (fun _ k => XS.icmpYes X10.here hx rfl (pc0 := 129) (pc' := 144) rfl (hb hby at_129) rfl (feq hc116).2 (by decide) (by decide) k) ?_
          show own_Go _ _ _ _ T10 (mkF m 144 #[.val (.int p1), .val (.int p2), .val (.int p3), .val (.int p4), .val (.int p5), .val (.int x5), .val (.int x6), .val (.int (((p5.toUInt32 >>> ((2 : Int32) &&& 31).toUInt32).toInt32) &&& (3 : Int32))), .val (.ref b1), .val .null, .unset, .unset, .unset] [])
          refine own_step (fun _ k => XS.aconstNull X10.here hx rfl (hb hby at_144) k) ?_
          show own_Go _ _ _ _ T10 (mkF m 145 #[.val (.int p1), .val (.int p2), .val (.int p3), .val (.int p4), .val (.int p5), .val (.int x5), .val (.int x6), .val (.int (((p5.toUInt32 >>> ((2 : Int32) &&& 31).toUInt32).toInt32) &&& (3 : Int32))), .val (.ref b1), .val .null, .unset, .unset, .unset] [.null])
          refine own_step (fun _ k => XS.astore X10.here hx rfl (hb hby at_145) rfl rfl (l' := #[.val (.int p1), .val (.int p2), .val (.int p3), .val (.int p4), .val (.int p5), .val (.int x5), .val (.int x6), .val (.int (((p5.toUInt32 >>> ((2 : Int32) &&& 31).toUInt32).toInt32) &&& (3 : Int32))), .val (.ref b1), .val .null, .val .null, .unset, .unset]) rfl k) ?_
          show own_Go _ _ _ _ T10 (mkF m 147 #[.val (.int p1), .val (.int p2), .val (.int p3), .val (.int p4), .val (.int p5), .val (.int x5), .val (.int x6), .val (.int (((p5.toUInt32 >>> ((2 : Int32) &&& 31).toUInt32).toInt32) &&& (3 : Int32))), .val (.ref b1), .val .null, .val .null, .unset, .unset] [])
          refine own_step (fun _ k => XS.iconst X10.here hx rfl (hb hby at_147) k) ?_
          show own_Go _ _ _ _ T10 (mkF m 148 #[.val (.int p1), .val (.int p2), .val (.int p3), .val (.int p4), .val (.int p5), .val (.int x5), .val (.int x6), .val (.int (((p5.toUInt32 >>> ((2 : Int32) &&& 31).toUInt32).toInt32) &&& (3 : Int32))), .val (.ref b1), .val .null, .val .null, .unset, .unset] [(.int (0 : Int32))])
          refine own_step (fun _ k => XS.istore X10.here hx rfl (hb hby at_148) rfl (l' := #[.val (.int p1), .val (.int p2), .val (.int p3), .val (.int p4), .val (.int p5), .val (.int x5), .val (.int x6), .val (.int (((p5.toUInt32 >>> ((2 : Int32) &&& 31).toUInt32).toInt32) &&& (3 : Int32))), .val (.ref b1), .val .null, .val .null, .val (.int (0 : Int32)), .unset]) rfl k) ?_
          show own_Go _ _ _ _ T10 (mkF m 150 #[.val (.int p1), .val (.int p2), .val (.int p3), .val (.int p4), .val (.int p5), .val (.int x5), .val (.int x6), .val (.int (((p5.toUInt32 >>> ((2 : Int32) &&& 31).toUInt32).toInt32) &&& (3 : Int32))), .val (.ref b1), .val .null, .val .null, .val (.int (0 : Int32)), .unset] [])
          refine own_step (fun _ k => XS.aload X10.here hx rfl (hb hby at_150) rfl rfl k) ?_
          show own_Go _ _ _ _ T10 (mkF m 152 #[.val (.int p1), .val (.int p2), .val (.int p3), .val (.int p4), .val (.int p5), .val (.int x5), .val (.int x6), .val (.int (((p5.toUInt32 >>> ((2 : Int32) &&& 31).toUInt32).toInt32) &&& (3 : Int32))), .val (.ref b1), .val .null, .val .null, .val (.int (0 : Int32)), .unset] [(.ref b1)])
          refine own_step (fun _ k => XS.aload X10.here hx rfl (hb hby at_152) rfl rfl k) ?_
          show own_Go _ _ _ _ T10 (mkF m 154 #[.val (.int p1), .val (.int p2), .val (.int p3), .val (.int p4), .val (.int p5), .val (.int x5), .val (.int x6), .val (.int (((p5.toUInt32 >>> ((2 : Int32) &&& 31).toUInt32).toInt32) &&& (3 : Int32))), .val (.ref b1), .val .null, .val .null, .val (.int (0 : Int32)), .unset] [.null, (.ref b1)])
          have Q127 := (Q7.keep K10)
          refine own_callV X10 hx hZ (y := (⟨"com/example/tickwright/tickwright/Account", "equals", "(Ljava/lang/Object;)Z"⟩ : MethodName)) (z := (⟨"com/example/tickwright/tickwright/Account", "equals", "(Ljava/lang/Object;)Z"⟩ : MethodName)) hown (hw _ (List.mem_of_getElem? (i := 54) rfl)) (hw _ (List.mem_of_getElem? (i := 55) rfl)) (hw _ (List.mem_of_getElem? (i := 57) rfl)) (hw _ (List.mem_of_getElem? (i := 57) rfl)) (hw _ (List.mem_of_getElem? (i := 56) rfl)) (hw _ (List.mem_of_getElem? (i := 2) rfl)) (hw _ (List.mem_of_getElem? (i := 58) rfl)) (by decide) (rm11_n l Z a0 hw [] b1  T10.heap n0 Z10 ) rfl (b := b1) Q127 0 (by decide) (by decide) (by decide) (by decide) (g := (mkF m 154 #[.val (.int p1), .val (.int p2), .val (.int p3), .val (.int p4), .val (.int p5), .val (.int x5), .val (.int x6), .val (.int (((p5.toUInt32 >>> ((2 : Int32) &&& 31).toUInt32).toInt32) &&& (3 : Int32))), .val (.ref b1), .val .null, .val .null, .val (.int (0 : Int32)), .unset] [.null, (.ref b1)])) rfl (by rw [hml]; rfl) [.null] [] pd_7 rfl rfl rfl (by show 2 * 0 + _ ≤ _; exact Nat.le_of_eq rfl) (hb hby at_154) ?_
          rintro v126 T126 L126 X126 ⟨rfl, Nq126, e126⟩
          have N126 := Fr.app N10 Nq126
          show own_Go _ _ _ _ T126 (mkF m 157 #[.val (.int p1), .val (.int p2), .val (.int p3), .val (.int p4), .val (.int p5), .val (.int x5), .val (.int x6), .val (.int (((p5.toUInt32 >>> ((2 : Int32) &&& 31).toUInt32).toInt32) &&& (3 : Int32))), .val (.ref b1), .val .null, .val .null, .val (.int (0 : Int32)), .unset] [(.int (0 : Int32))])
          refine own_step (fun _ k => XS.istore X126.here hx rfl (hb hby at_157) rfl (l' := #[.val (.int p1), .val (.int p2), .val (.int p3), .val (.int p4), .val (.int p5), .val (.int x5), .val (.int x6), .val (.int (((p5.toUInt32 >>> ((2 : Int32) &&& 31).toUInt32).toInt32) &&& (3 : Int32))), .val (.ref b1), .val .null, .val .null, .val (.int (0 : Int32)), .val (.int (0 : Int32))]) rfl k) ?_
          show own_Go _ _ _ _ T126 (mkF m 159 #[.val (.int p1), .val (.int p2), .val (.int p3), .val (.int p4), .val (.int p5), .val (.int x5), .val (.int x6), .val (.int (((p5.toUInt32 >>> ((2 : Int32) &&& 31).toUInt32).toInt32) &&& (3 : Int32))), .val (.ref b1), .val .null, .val .null, .val (.int (0 : Int32)), .val (.int (0 : Int32))] [])
          refine own_step (fun _ k => XS.iload X126.here hx rfl (hb hby at_159) rfl k) ?_
          show own_Go _ _ _ _ T126 (mkF m 161 #[.val (.int p1), .val (.int p2), .val (.int p3), .val (.int p4), .val (.int p5), .val (.int x5), .val (.int x6), .val (.int (((p5.toUInt32 >>> ((2 : Int32) &&& 31).toUInt32).toInt32) &&& (3 : Int32))), .val (.ref b1), .val .null, .val .null, .val (.int (0 : Int32)), .val (.int (0 : Int32))] [(.int (0 : Int32))])
          refine own_step (fun _ k => XS.iload X126.here hx rfl (hb hby at_161) rfl k) ?_
          show own_Go _ _ _ _ T126 (mkF m 163 #[.val (.int p1), .val (.int p2), .val (.int p3), .val (.int p4), .val (.int p5), .val (.int x5), .val (.int x6), .val (.int (((p5.toUInt32 >>> ((2 : Int32) &&& 31).toUInt32).toInt32) &&& (3 : Int32))), .val (.ref b1), .val .null, .val .null, .val (.int (0 : Int32)), .val (.int (0 : Int32))] [(.int (0 : Int32)), (.int (0 : Int32))])
          refine own_step (fun _ k => XS.icmpYes X126.here hx rfl (pc0 := 163) (pc' := 168) rfl (hb hby at_163) rfl (teq (by decide : (0 : Int32) = (0 : Int32))).1 (by decide) (by decide) k) ?_
          show own_Go _ _ _ _ T126 (mkF m 168 #[.val (.int p1), .val (.int p2), .val (.int p3), .val (.int p4), .val (.int p5), .val (.int x5), .val (.int x6), .val (.int (((p5.toUInt32 >>> ((2 : Int32) &&& 31).toUInt32).toInt32) &&& (3 : Int32))), .val (.ref b1), .val .null, .val .null, .val (.int (0 : Int32)), .val (.int (0 : Int32))] [])
          refine own_step (fun _ k => XS.aload X126.here hx rfl (hb hby at_168) rfl rfl k) ?_
          show own_Go _ _ _ _ T126 (mkF m 170 #[.val (.int p1), .val (.int p2), .val (.int p3), .val (.int p4), .val (.int p5), .val (.int x5), .val (.int x6), .val (.int (((p5.toUInt32 >>> ((2 : Int32) &&& 31).toUInt32).toInt32) &&& (3 : Int32))), .val (.ref b1), .val .null, .val .null, .val (.int (0 : Int32)), .val (.int (0 : Int32))] [.null])
          refine own_step (fun _ k => XS.ifnullYes X126.here hx rfl (pc0 := 170) (pc' := 191) rfl (hb hby at_170) rfl (by decide) (by decide) k) ?_
          show own_Go _ _ _ _ T126 (mkF m 191 #[.val (.int p1), .val (.int p2), .val (.int p3), .val (.int p4), .val (.int p5), .val (.int x5), .val (.int x6), .val (.int (((p5.toUInt32 >>> ((2 : Int32) &&& 31).toUInt32).toInt32) &&& (3 : Int32))), .val (.ref b1), .val .null, .val .null, .val (.int (0 : Int32)), .val (.int (0 : Int32))] [])
          refine own_step (fun _ k => XS.iconst X126.here hx rfl (hb hby at_191) k) ?_
          show own_Go _ _ _ _ T126 (mkF m 192 #[.val (.int p1), .val (.int p2), .val (.int p3), .val (.int p4), .val (.int p5), .val (.int x5), .val (.int x6), .val (.int (((p5.toUInt32 >>> ((2 : Int32) &&& 31).toUInt32).toInt32) &&& (3 : Int32))), .val (.ref b1), .val .null, .val .null, .val (.int (0 : Int32)), .val (.int (0 : Int32))] [(.int (1 : Int32))])
          exact own_retN X126 hx (t := .boolean) hret (by simp) hlk (hb hby at_192) rfl (own_W X126 hS6 hk10 e126 eS hZ hEL C10 ⟨rfl, N126⟩ (by decide) (by decide)) 
  refine own_step (fun _ k => XS.iloadN X0.here hx rfl (hb hby at_0) rfl k) ?_
  show own_Go _ _ _ _ T0 (mkF m 1 #[.val (.int p1), .val (.int p2), .val (.int p3), .val (.int p4), .val (.int p5), .unset, .unset, .unset, .unset, .unset, .unset, .unset, .unset] [(.int p3)])
  refine own_step (fun _ k => XS.istore X0.here hx rfl (hb hby at_1) rfl (l' := #[.val (.int p1), .val (.int p2), .val (.int p3), .val (.int p4), .val (.int p5), .val (.int p3), .unset, .unset, .unset, .unset, .unset, .unset, .unset]) rfl k) ?_
  show own_Go _ _ _ _ T0 (mkF m 3 #[.val (.int p1), .val (.int p2), .val (.int p3), .val (.int p4), .val (.int p5), .val (.int p3), .unset, .unset, .unset, .unset, .unset, .unset, .unset] [])
  refine own_step (fun _ k => XS.iloadN X0.here hx rfl (hb hby at_3) rfl k) ?_
  show own_Go _ _ _ _ T0 (mkF m 4 #[.val (.int p1), .val (.int p2), .val (.int p3), .val (.int p4), .val (.int p5), .val (.int p3), .unset, .unset, .unset, .unset, .unset, .unset, .unset] [(.int p4)])
  refine own_step (fun _ k => XS.istore X0.here hx rfl (hb hby at_4) rfl (l' := #[.val (.int p1), .val (.int p2), .val (.int p3), .val (.int p4), .val (.int p5), .val (.int p3), .val (.int p4), .unset, .unset, .unset, .unset, .unset, .unset]) rfl k) ?_
  show own_Go _ _ _ _ T0 (mkF m 6 #[.val (.int p1), .val (.int p2), .val (.int p3), .val (.int p4), .val (.int p5), .val (.int p3), .val (.int p4), .unset, .unset, .unset, .unset, .unset, .unset] [])
  refine own_step (fun _ k => XS.iload X0.here hx rfl (hb hby at_6) rfl k) ?_
  show own_Go _ _ _ _ T0 (mkF m 8 #[.val (.int p1), .val (.int p2), .val (.int p3), .val (.int p4), .val (.int p5), .val (.int p3), .val (.int p4), .unset, .unset, .unset, .unset, .unset, .unset] [(.int p5)])
  refine own_step (fun _ k => XS.iconst X0.here hx rfl (hb hby at_8) k) ?_
  show own_Go _ _ _ _ T0 (mkF m 9 #[.val (.int p1), .val (.int p2), .val (.int p3), .val (.int p4), .val (.int p5), .val (.int p3), .val (.int p4), .unset, .unset, .unset, .unset, .unset, .unset] [(.int (1 : Int32)), (.int p5)])
  refine own_step (fun _ k => XS.iand X0.here hx rfl (hb hby at_9) rfl k) ?_
  show own_Go _ _ _ _ T0 (mkF m 10 #[.val (.int p1), .val (.int p2), .val (.int p3), .val (.int p4), .val (.int p5), .val (.int p3), .val (.int p4), .unset, .unset, .unset, .unset, .unset, .unset] [(.int (p5 &&& (1 : Int32)))])
  by_cases hc128 : (p5 &&& (1 : Int32)) = (0 : Int32)
  · refine own_step (fun _ k => XS.ifYes X0.here hx rfl (pc0 := 10) (pc' := 16) rfl (hb hby at_10) rfl ((if0 _ _).trans (teq hc128).1) (by decide) (by decide) k) ?_
    show own_Go _ _ _ _ T0 (mkF m 16 #[.val (.int p1), .val (.int p2), .val (.int p3), .val (.int p4), .val (.int p5), .val (.int p3), .val (.int p4), .unset, .unset, .unset, .unset, .unset, .unset] [])
    refine own_step (fun _ k => XS.iload X0.here hx rfl (hb hby at_16) rfl k) ?_
    show own_Go _ _ _ _ T0 (mkF m 18 #[.val (.int p1), .val (.int p2), .val (.int p3), .val (.int p4), .val (.int p5), .val (.int p3), .val (.int p4), .unset, .unset, .unset, .unset, .unset, .unset] [(.int p5)])
    refine own_step (fun _ k => XS.iconst X0.here hx rfl (hb hby at_18) k) ?_
    show own_Go _ _ _ _ T0 (mkF m 19 #[.val (.int p1), .val (.int p2), .val (.int p3), .val (.int p4), .val (.int p5), .val (.int p3), .val (.int p4), .unset, .unset, .unset, .unset, .unset, .unset] [(.int (2 : Int32)), (.int p5)])
    refine own_step (fun _ k => XS.iand X0.here hx rfl (hb hby at_19) rfl k) ?_
    show own_Go _ _ _ _ T0 (mkF m 20 #[.val (.int p1), .val (.int p2), .val (.int p3), .val (.int p4), .val (.int p5), .val (.int p3), .val (.int p4), .unset, .unset, .unset, .unset, .unset, .unset] [(.int (p5 &&& (2 : Int32)))])
    by_cases hc129 : (p5 &&& (2 : Int32)) = (0 : Int32)
    · refine own_step (fun _ k => XS.ifYes X0.here hx rfl (pc0 := 20) (pc' := 26) rfl (hb hby at_20) rfl ((if0 _ _).trans (teq hc129).1) (by decide) (by decide) k) ?_
      show own_Go _ _ _ _ T0 (mkF m 26 #[.val (.int p1), .val (.int p2), .val (.int p3), .val (.int p4), .val (.int p5), .val (.int p3), .val (.int p4), .unset, .unset, .unset, .unset, .unset, .unset] [])
      exact join _ _
    · refine own_step (fun _ k => XS.ifNo X0.here hx rfl (hb hby at_20) rfl ((if0 _ _).trans (feq hc129).1) k) ?_
      show own_Go _ _ _ _ T0 (mkF m 23 #[.val (.int p1), .val (.int p2), .val (.int p3), .val (.int p4), .val (.int p5), .val (.int p3), .val (.int p4), .unset, .unset, .unset, .unset, .unset, .unset] [])
      refine own_step (fun _ k => XS.iloadN X0.here hx rfl (hb hby at_23) rfl k) ?_
      show own_Go _ _ _ _ T0 (mkF m 24 #[.val (.int p1), .val (.int p2), .val (.int p3), .val (.int p4), .val (.int p5), .val (.int p3), .val (.int p4), .unset, .unset, .unset, .unset, .unset, .unset] [(.int p2)])
      refine own_step (fun _ k => XS.istore X0.here hx rfl (hb hby at_24) rfl (l' := #[.val (.int p1), .val (.int p2), .val (.int p3), .val (.int p4), .val (.int p5), .val (.int p3), .val (.int p2), .unset, .unset, .unset, .unset, .unset, .unset]) rfl k) ?_
      show own_Go _ _ _ _ T0 (mkF m 26 #[.val (.int p1), .val (.int p2), .val (.int p3), .val (.int p4), .val (.int p5), .val (.int p3), .val (.int p2), .unset, .unset, .unset, .unset, .unset, .unset] [])
      exact join _ _
  · refine own_step (fun _ k => XS.ifNo X0.here hx rfl (hb hby at_10) rfl ((if0 _ _).trans (feq hc128).1) k) ?_
    show own_Go _ _ _ _ T0 (mkF m 13 #[.val (.int p1), .val (.int p2), .val (.int p3), .val (.int p4), .val (.int p5), .val (.int p3), .val (.int p4), .unset, .unset, .unset, .unset, .unset, .unset] [])
    refine own_step (fun _ k => XS.iloadN X0.here hx rfl (hb hby at_13) rfl k) ?_
    show own_Go _ _ _ _ T0 (mkF m 14 #[.val (.int p1), .val (.int p2), .val (.int p3), .val (.int p4), .val (.int p5), .val (.int p3), .val (.int p4), .unset, .unset, .unset, .unset, .unset, .unset] [(.int p1)])
    refine own_step (fun _ k => XS.istore X0.here hx rfl (hb hby at_14) rfl (l' := #[.val (.int p1), .val (.int p2), .val (.int p3), .val (.int p4), .val (.int p5), .val (.int p1), .val (.int p4), .unset, .unset, .unset, .unset, .unset, .unset]) rfl k) ?_
    show own_Go _ _ _ _ T0 (mkF m 16 #[.val (.int p1), .val (.int p2), .val (.int p3), .val (.int p4), .val (.int p5), .val (.int p1), .val (.int p4), .unset, .unset, .unset, .unset, .unset, .unset] [])
    refine own_step (fun _ k => XS.iload X0.here hx rfl (hb hby at_16) rfl k) ?_
    show own_Go _ _ _ _ T0 (mkF m 18 #[.val (.int p1), .val (.int p2), .val (.int p3), .val (.int p4), .val (.int p5), .val (.int p1), .val (.int p4), .unset, .unset, .unset, .unset, .unset, .unset] [(.int p5)])
    refine own_step (fun _ k => XS.iconst X0.here hx rfl (hb hby at_18) k) ?_
    show own_Go _ _ _ _ T0 (mkF m 19 #[.val (.int p1), .val (.int p2), .val (.int p3), .val (.int p4), .val (.int p5), .val (.int p1), .val (.int p4), .unset, .unset, .unset, .unset, .unset, .unset] [(.int (2 : Int32)), (.int p5)])
    refine own_step (fun _ k => XS.iand X0.here hx rfl (hb hby at_19) rfl k) ?_
    show own_Go _ _ _ _ T0 (mkF m 20 #[.val (.int p1), .val (.int p2), .val (.int p3), .val (.int p4), .val (.int p5), .val (.int p1), .val (.int p4), .unset, .unset, .unset, .unset, .unset, .unset] [(.int (p5 &&& (2 : Int32)))])
    by_cases hc130 : (p5 &&& (2 : Int32)) = (0 : Int32)
    · refine own_step (fun _ k => XS.ifYes X0.here hx rfl (pc0 := 20) (pc' := 26) rfl (hb hby at_20) rfl ((if0 _ _).trans (teq hc130).1) (by decide) (by decide) k) ?_
      show own_Go _ _ _ _ T0 (mkF m 26 #[.val (.int p1), .val (.int p2), .val (.int p3), .val (.int p4), .val (.int p5), .val (.int p1), .val (.int p4), .unset, .unset, .unset, .unset, .unset, .unset] [])
      exact join _ _
    · refine own_step (fun _ k => XS.ifNo X0.here hx rfl (hb hby at_20) rfl ((if0 _ _).trans (feq hc130).1) k) ?_
      show own_Go _ _ _ _ T0 (mkF m 23 #[.val (.int p1), .val (.int p2), .val (.int p3), .val (.int p4), .val (.int p5), .val (.int p1), .val (.int p4), .unset, .unset, .unset, .unset, .unset, .unset] [])
      refine own_step (fun _ k => XS.iloadN X0.here hx rfl (hb hby at_23) rfl k) ?_
      show own_Go _ _ _ _ T0 (mkF m 24 #[.val (.int p1), .val (.int p2), .val (.int p3), .val (.int p4), .val (.int p5), .val (.int p1), .val (.int p4), .unset, .unset, .unset, .unset, .unset, .unset] [(.int p2)])
      refine own_step (fun _ k => XS.istore X0.here hx rfl (hb hby at_24) rfl (l' := #[.val (.int p1), .val (.int p2), .val (.int p3), .val (.int p4), .val (.int p5), .val (.int p1), .val (.int p2), .unset, .unset, .unset, .unset, .unset, .unset]) rfl k) ?_
      show own_Go _ _ _ _ T0 (mkF m 26 #[.val (.int p1), .val (.int p2), .val (.int p3), .val (.int p4), .val (.int p5), .val (.int p1), .val (.int p2), .unset, .unset, .unset, .unset, .unset, .unset] [])
      exact join _ _
set_option maxRecDepth 65536 in
set_option maxHeartbeats 40000000 in
theorem comes_1 {Post : Tables → Env → Array Value → State → Outcome → State → Prop} (hpost : ∀ tb e args s v u, (limb_1_1.after args s (.returned v) u = true ∧ limb_1_2.after args s (.returned v) u = true ∧ True) → ReturnedEndW s (.returned v) u (Jvm.fieldLocs frame_1_writes args s ++ Jvm.arrayLocs frame_1_arrays args s ++ Jvm.staticLocs frame_1_statics s) 40 1216 → Post tb e args s (.returned v) u) :
    ArmFor flags0 classFile x code maxLocals ret World_1 tables_1 room_1 Calls_1 rest_1 Pre_1 Post := by
  intro l hfl _ _ p e ha hc hk s m args below hf hA hF happ hP
  obtain ⟨hcalls, hrest, hpre⟩ := hP
  obtain ⟨-, -, -, hnamed, -, -, -, hat⟩ := (Spec.applies_iff hf).mp happ
  obtain ⟨hg, hn⟩ := and_e (Cond.before_iff.mp (show (Jvm.Cond.and given_1 narrow_1).before args s = true from hpre))
  obtain ⟨gc, g0⟩ := and_e hg
  obtain ⟨h0, g1⟩ := and_e g0
  obtain ⟨h1, g2⟩ := and_e g1
  obtain ⟨h2, g3⟩ := and_e g2
  obtain ⟨h3, g4⟩ := and_e g3
  have h4 := g4
  obtain ⟨w0, w1, w2, w3, w4, rfl⟩ : ∃ w0 w1 w2 w3 w4 : Value, args = #[w0, w1, w2, w3, w4] := by
    have hs : args.size = 5 := by simpa [Cond.value, given_1] using gc
    obtain ⟨L⟩ := args
    match L, hs with
    | [w0, w1, w2, w3, w4], _ => exact ⟨w0, w1, w2, w3, w4, rfl⟩
  have hw := fun d (hd : d ∈ tables_1) => atoms_spec (ws := Jvm.Cond.code x code maxLocals ret :: tables_1) hat d (List.mem_cons_of_mem _ hd)
  have hfit : Fit s := fun {y c} hc i hi => by
    obtain ⟨ha, rfl⟩ := Array.getElem?_eq_some_iff.mp hc
    have q := List.all_eq_true.mp ((Array.all_eq_true_iff_forall_mem.mp hF) _ (Array.getElem_mem ha)) i (List.mem_range.mpr hi)
    simpa [Array.getElem?_eq_getElem hi] using q
  obtain ⟨hsets, hown0⟩ := atoms_of _ (rest_1_c_eq ▸ (show rest_1_c.before _ s = true from hrest))
  have hr0 := Cond.before_iff.mp hown0
  obtain ⟨i0, ei0⟩ := is_v h0
  obtain rfl : w0 = (.int i0) := Option.some.inj ei0
  obtain ⟨i1, ei1⟩ := is_v h1
  obtain rfl : w1 = (.int i1) := Option.some.inj ei1
  obtain ⟨i2, ei2⟩ := is_v h2
  obtain rfl : w2 = (.int i2) := Option.some.inj ei2
  obtain ⟨i3, ei3⟩ := is_v h3
  obtain rfl : w3 = (.int i3) := Option.some.inj ei3
  obtain ⟨i4, ei4⟩ := is_v h4
  obtain rfl : w4 = (.int i4) := Option.some.inj ei4
  obtain ⟨cz, ecz⟩ := is_v (Cond.before_iff.mp (hsets _ (List.mem_of_getElem? (i := 1) rfl)))
  have SC := Sta.start ecz (Or.inl (hsets _ (List.mem_of_getElem? (i := 0) rfl)))
  have hcz : ¬ (cz = (0 : Int32)) := gotF (Cond.eq_ints ecz (Term.int_eval (0))) (not_v (Cond.before_iff.mp (hsets _ (List.mem_of_getElem? (i := 2) rfl))))
  have hEL : EW s _ own_EL := (EW.cons (hw _ (List.mem_of_getElem? (i := 21) rfl)) (fun c hc => absurd hc (by simp)) EW.nil)
  have hCH : CHv s own_EL s.vm s.heap := CHv.start hEL (fun p hp => hcalls.1 p hp) (hsets _ (List.mem_of_getElem? (i := 2) rfl)) (hw _ (List.mem_of_getElem? (i := 22) rfl)) (hw _ (List.mem_of_getElem? (i := 8) rfl))
  obtain ⟨n, o, h1, h2, h3, _, L, rfl, ⟨rfl, N⟩, -, hq⟩ := rm0 l s _ hw tables_1 i0 i1 i2 i3 i4 cz s.heap s.heap.size (Nat.le_refl _) hEL (Old.start s) SC hcz p e ha hc hk s m _ below hf ((Spec.applies_iff_loose hf).mp happ).1 ⟨rfl, State.Warmed39.refl s, rfl, hCH⟩ trivial
  refine ⟨n, _, h1, h2, h3, hpost _ _ _ _ _ _ ⟨Cond.after_iff.mpr rfl, Cond.after_iff.mpr (eq_i res_at (Term.int_eval (1)) rfl), trivial⟩ ⟨hq.1, hq.2.1, hq.2.2.1, (hq.2.2.2.sift fun y hy => Or.inr (N y hy)).mono (by decide) (by decide)⟩⟩
theorem main_1_1 : Claimed_1_1 := comes_1 fun _ _ _ _ _ _ h hF => ⟨h.1, hF⟩
theorem main_1_2 : Claimed_1_2 := comes_1 fun _ _ _ _ _ _ h hF => ⟨h.2.1, hF⟩
end Jvm.Pilot.@@N@@
namespace Jvm.Pilot.@@N@@
open Jvm Jvm.ClassFile Sem Op Lib Jvm.Free Jvm.Stand Jvm.Pilot.@@N@@.Jvm.D
/-! MADE BY PROGRAM (witnessworld.py) out of the Statement's table words and the real class files: 20 classes; the members and pool entries that the words name. The judged class is class 1, her method 1. -/
namespace start1
open Jvm.ClassFile
def u (s : String) : CpInfo := .utf8 (stringToUtf16 s)
/-- a pool by its gaps: so many unusable entries, then the entry; so many at the end -/
def gap : Nat → List CpInfo → List CpInfo
  | 0, r => r
  | n + 1, r => .unusable :: gap n r
def poolList (es : List (Nat × CpInfo)) (last : Nat) : List CpInfo := es.foldr (fun e r => gap e.1 (e.2 :: r)) (gap last [])
def pool (es : List (Nat × CpInfo)) (last : Nat) : Array CpInfo := ⟨poolList es last⟩
def fileOf (pool : Array CpInfo) (this : Nat) (attrs : Array Attribute := #[]) (ms : Array MethodInfo := #[]) (fl : Nat := 33) (sup : Nat := 0) (ifs : Array Nat := #[]) (fds : Array FieldInfo := #[]) : ClassFile where
  minorVersion := 0
  majorVersion := 65
  constantPool := pool
  accessFlags := fl
  thisClass := this
  superClass := sup
  interfaces := ifs
  fields := fds
  methods := ms
  attributes := attrs
def plain (name : String) (sup : Option ClassId) : Class where
  name := name
  kind := .ordinary
  loader := none
  accessFlags := 33
  super := sup
  interfaces := #[]
  cf := none
  fields := #[]
  methods := #[]
  instanceTypes := #[]
  staticTypes := #[]
  resolved := #[]
  callSites := []
  init := .initialized
  statics := none
  mirror := none

def pool0 : Array CpInfo := pool [(5, u "<init>"), (0, u "()V"), (1, .class_ 10), (1, u "java/lang/Object")] 113

def k0c0 : Code := { maxStack := 0, maxLocals := 1, code := object_method_1_code, exceptionTable := #[], attributes := #[] }
def k0m0 : Method := { name := "<init>", desc := "()V", sig := { parameters := [], returnType := none }, accessFlags := 1, code := some k0c0 }
/-- java/lang/Object -/
def k0 : Class := { plain "java/lang/Object" none with
  accessFlags := 33
  interfaces := #[]
  cf := some (fileOf pool0 8 #[] #[{ accessFlags := 1, nameIndex := 5, descriptorIndex := 6, attributes := #[] }] 33 0 #[] #[])
  fields := #[]
  methods := #[k0m0]
  instanceTypes := #[]
  staticTypes := #[]
  resolved := Array.replicate 124 none
  statics := none }

def pool1 : Array CpInfo := pool [(2, .class_ 4), (1, u "java/lang/Object"), (0, u "<init>"), (0, u "()V"), (0, .class_ 8), (0, u "com/example/tickwright/tickwright/Account"), (0, .methodref 10 11), (0, .class_ 12), (0, .nameAndType 13 14), (0, u "com/example/tickwright/tickwright/AccountEqualsPinLaw"), (0, u "str"), (0, u "(I)Ljava/lang/String;"), (0, .methodref 7 16), (0, .nameAndType 5 17), (0, u "(Ljava/lang/String;Ljava/lang/String;)V"), (0, .methodref 10 19), (0, .nameAndType 20 21), (0, u "same"), (0, u "(II)Z"), (0, .methodref 7 23), (0, .nameAndType 24 25), (0, u "equals"), (0, u "(Ljava/lang/Object;)Z"), (0, .class_ 27), (0, u "java/lang/String"), (0, .methodref 26 29), (0, .nameAndType 5 30), (0, u "([C)V"), (0, .methodref 10 32), (0, .nameAndType 33 34), (0, u "ch"), (0, u "(II)C"), (2, u "law"), (0, u "(IIIII)Z")] 3

def k1m0 : Method := { name := "<init>", desc := "()V", sig := { parameters := [], returnType := none }, accessFlags := 1, code := none }
def k1c1 : Code := { maxStack := 4, maxLocals := 13, code := code, exceptionTable := #[], attributes := #[] }
def k1m1 : Method := { name := "law", desc := "(IIIII)Z", sig := { parameters := [.int, .int, .int, .int, .int], returnType := some .boolean }, accessFlags := 9, code := some k1c1 }
def k1c2 : Code := { maxStack := 4, maxLocals := 2, code := method_3_code, exceptionTable := #[], attributes := #[] }
def k1m2 : Method := { name := "ch", desc := "(II)C", sig := { parameters := [.int, .int], returnType := some .char }, accessFlags := 10, code := some k1c2 }
def k1c3 : Code := { maxStack := 7, maxLocals := 2, code := method_4_code, exceptionTable := #[], attributes := #[] }
def k1m3 : Method := { name := "str", desc := "(I)Ljava/lang/String;", sig := { parameters := [.int], returnType := some (.object "java/lang/String") }, accessFlags := 10, code := some k1c3 }
def k1c4 : Code := { maxStack := 3, maxLocals := 3, code := method_5_code, exceptionTable := #[], attributes := #[] }
def k1m4 : Method := { name := "same", desc := "(II)Z", sig := { parameters := [.int, .int], returnType := some .boolean }, accessFlags := 10, code := some k1c4 }
/-- com/example/tickwright/tickwright/AccountEqualsPinLaw -/
def k1 : Class := { plain "com/example/tickwright/tickwright/AccountEqualsPinLaw" (some 0) with
  accessFlags := 49
  interfaces := #[]
  cf := some (fileOf pool1 10 #[] #[{ accessFlags := 1, nameIndex := 5, descriptorIndex := 6, attributes := #[] }, { accessFlags := 9, nameIndex := 37, descriptorIndex := 38, attributes := #[] }, { accessFlags := 10, nameIndex := 33, descriptorIndex := 34, attributes := #[] }, { accessFlags := 10, nameIndex := 13, descriptorIndex := 14, attributes := #[] }, { accessFlags := 10, nameIndex := 20, descriptorIndex := 21, attributes := #[] }] 49 2 #[] #[])
  fields := #[]
  methods := #[k1m0, k1m1, k1m2, k1m3, k1m4]
  instanceTypes := #[]
  staticTypes := #[]
  resolved := Array.replicate 42 none
  statics := none }

def pool2 : Array CpInfo := pool [(1, .class_ 2), (0, u "java/lang/Comparable"), (0, .class_ 4), (0, u "java/lang/Object")] 7

/-- java/lang/Comparable -/
def k2 : Class := { plain "java/lang/Comparable" (some 0) with
  accessFlags := 1537
  interfaces := #[]
  cf := some (fileOf pool2 1 #[] #[] 1537 3 #[] #[])
  fields := #[]
  methods := #[]
  instanceTypes := #[]
  staticTypes := #[]
  resolved := Array.replicate 12 none
  statics := none }

def pool3 : Array CpInfo := pool [(1, .methodref 2 3), (0, .class_ 4), (0, .nameAndType 5 6), (0, u "java/lang/Object"), (0, u "<init>"), (0, u "()V"), (0, .fieldref 8 9), (0, .class_ 10), (0, .nameAndType 11 12), (0, u "com/example/tickwright/tickwright/Account"), (0, u "mBroker"), (0, u "Ljava/lang/String;"), (0, .fieldref 8 14), (0, .nameAndType 15 12), (0, u "mId"), (22, u "(Ljava/lang/String;Ljava/lang/String;)V"), (1, .class_ 42), (1, u "java/lang/String"), (2, .methodref 40 46), (0, .nameAndType 47 48), (0, u "equals"), (0, u "(Ljava/lang/Object;)Z"), (17, .class_ 67), (0, u "java/lang/Comparable")] 35

def k3c0 : Code := { maxStack := 2, maxLocals := 3, code := prog_1_method_1_code, exceptionTable := #[], attributes := #[] }
def k3m0 : Method := { name := "<init>", desc := "(Ljava/lang/String;Ljava/lang/String;)V", sig := { parameters := [(.object "java/lang/String"), (.object "java/lang/String")], returnType := none }, accessFlags := 0, code := some k3c0 }
def k3c1 : Code := { maxStack := 2, maxLocals := 2, code := prog_1_method_7_code, exceptionTable := #[], attributes := #[] }
def k3m1 : Method := { name := "equals", desc := "(Ljava/lang/Object;)Z", sig := { parameters := [(.object "java/lang/Object")], returnType := some .boolean }, accessFlags := 1, code := some k3c1 }
/-- com/example/tickwright/tickwright/Account -/
def k3 : Class := { plain "com/example/tickwright/tickwright/Account" (some 0) with
  accessFlags := 32
  interfaces := #[2]
  cf := some (fileOf pool3 8 #[] #[{ accessFlags := 0, nameIndex := 5, descriptorIndex := 38, attributes := #[] }, { accessFlags := 1, nameIndex := 47, descriptorIndex := 48, attributes := #[] }] 32 2 #[66] #[{ accessFlags := 18, nameIndex := 11, descriptorIndex := 12, attributes := #[] }, { accessFlags := 18, nameIndex := 15, descriptorIndex := 12, attributes := #[] }])
  fields := #[{ name := "mBroker", type := (.object "java/lang/String"), accessFlags := 18, slot := 0, constantValue := 0 }, { name := "mId", type := (.object "java/lang/String"), accessFlags := 18, slot := 1, constantValue := 0 }]
  methods := #[k3m0, k3m1]
  instanceTypes := #[(.object "java/lang/String"), (.object "java/lang/String")]
  staticTypes := #[]
  resolved := Array.replicate 103 none
  statics := none }

def pool4 : Array CpInfo := pool [(1, .class_ 2), (0, u "java/io/Serializable"), (0, .class_ 4), (0, u "java/lang/Object")] 2

/-- java/io/Serializable -/
def k4 : Class := { plain "java/io/Serializable" (some 0) with
  accessFlags := 1537
  interfaces := #[]
  cf := some (fileOf pool4 1 #[] #[] 1537 3 #[] #[])
  fields := #[]
  methods := #[]
  instanceTypes := #[]
  staticTypes := #[]
  resolved := Array.replicate 7 none
  statics := none }

def pool5 : Array CpInfo := pool [(2, .class_ 4), (1, u "java/lang/CharSequence"), (42, .class_ 48), (0, u "java/lang/CharSequence$1CodePointIterator"), (10, .class_ 60), (0, u "java/lang/CharSequence$1CharIterator"), (5, .class_ 67), (0, u "java/lang/Object")] 63

/-- java/lang/CharSequence -/
def k5 : Class := { plain "java/lang/CharSequence" (some 0) with
  accessFlags := 1537
  interfaces := #[]
  cf := some (fileOf pool5 2 #[.nestMembers #[47, 59]] #[] 1537 66 #[] #[])
  fields := #[]
  methods := #[]
  instanceTypes := #[]
  staticTypes := #[]
  resolved := Array.replicate 131 none
  statics := none }

def pool6 : Array CpInfo := pool [(1, .class_ 2), (0, u "java/lang/constant/Constable"), (0, .class_ 4), (0, u "java/lang/Object")] 6

/-- java/lang/constant/Constable -/
def k6 : Class := { plain "java/lang/constant/Constable" (some 0) with
  accessFlags := 1537
  interfaces := #[]
  cf := some (fileOf pool6 1 #[] #[] 1537 3 #[] #[])
  fields := #[]
  methods := #[]
  instanceTypes := #[]
  staticTypes := #[]
  resolved := Array.replicate 11 none
  statics := none }

def pool7 : Array CpInfo := pool [(1, .class_ 2), (0, u "java/lang/constant/ConstantDesc"), (0, .class_ 4), (0, u "java/lang/Object")] 32

/-- java/lang/constant/ConstantDesc -/
def k7 : Class := { plain "java/lang/constant/ConstantDesc" (some 0) with
  accessFlags := 1537
  interfaces := #[]
  cf := some (fileOf pool7 1 #[] #[] 1537 3 #[] #[])
  fields := #[]
  methods := #[]
  instanceTypes := #[]
  staticTypes := #[]
  resolved := Array.replicate 37 none
  statics := none }

def pool8 : Array CpInfo := pool [(1, .methodref 2 3), (0, .class_ 4), (0, .nameAndType 5 6), (0, u "java/lang/Object"), (0, u "<init>"), (0, u "()V"), (0, .string 8), (0, u ""), (0, .fieldref 10 11), (0, .class_ 12), (0, .nameAndType 13 14), (0, u "java/lang/String"), (0, u "value"), (0, u "[B"), (0, .fieldref 10 16), (0, .nameAndType 17 18), (0, u "coder"), (0, u "B"), (2, u "hash"), (0, u "I"), (2, u "hashIsZero"), (0, u "Z"), (0, .methodref 10 28), (0, .nameAndType 5 29), (0, u "([CIILjava/lang/Void;)V"), (8, .fieldref 10 39), (0, .nameAndType 40 26), (0, u "COMPACT_STRINGS"), (1, .class_ 44), (1, u "java/lang/StringUTF16"), (0, u "compress"), (1, .methodref 42 48), (0, .nameAndType 49 50), (0, u "coderFromArrayLen"), (0, u "([BI)B"), (56, .class_ 109), (1, u "java/lang/StringLatin1"), (67, .methodref 42 178), (0, .nameAndType 45 179), (0, u "([CII)[B"), (361, .methodref 107 542), (0, .nameAndType 543 544), (0, u "equals"), (0, u "([B[B)Z"), (28, u "(Ljava/lang/Object;)Z"), (1, .class_ 576), (0, u "java/lang/CharSequence"), (22, u "CASE_INSENSITIVE_ORDER"), (0, u "Ljava/util/Comparator;"), (409, u "([C)V"), (90, u "serialPersistentFields"), (0, u "[Ljava/io/ObjectStreamField;"), (0, .class_ 1104), (0, u "java/lang/String$CaseInsensitiveComparator"), (1, .class_ 1107), (0, u "java/io/Serializable"), (0, .class_ 1109), (0, u "java/lang/Comparable"), (0, .class_ 1111), (0, u "java/lang/constant/Constable"), (0, .class_ 1113), (0, u "java/lang/constant/ConstantDesc"), (2, u "serialVersionUID"), (0, u "J"), (3, u "REPL"), (0, u "C"), (2, u "LATIN1"), (1, u "UTF16")] 323

def k8m0 : Method := { name := "<init>", desc := "()V", sig := { parameters := [], returnType := none }, accessFlags := 1, code := none }
def k8c1 : Code := { maxStack := 5, maxLocals := 2, code := jdk_42_method_3_code, exceptionTable := #[], attributes := #[] }
def k8m1 : Method := { name := "<init>", desc := "([C)V", sig := { parameters := [(.array .char)], returnType := none }, accessFlags := 1, code := some k8c1 }
def k8c2 : Code := { maxStack := 2, maxLocals := 3, code := jdk_42_method_66_code, exceptionTable := #[], attributes := #[] }
def k8m2 : Method := { name := "equals", desc := "(Ljava/lang/Object;)Z", sig := { parameters := [(.object "java/lang/Object")], returnType := some .boolean }, accessFlags := 1, code := some k8c2 }
def k8c3 : Code := { maxStack := 4, maxLocals := 6, code := jdk_42_method_149_code, exceptionTable := #[], attributes := #[] }
def k8m3 : Method := { name := "<init>", desc := "([CIILjava/lang/Void;)V", sig := { parameters := [(.array .char), .int, .int, (.object "java/lang/Void")], returnType := none }, accessFlags := 2, code := some k8c3 }
/-- java/lang/String -/
def k8 : Class := { plain "java/lang/String" (some 0) with
  accessFlags := 49
  interfaces := #[4, 2, 5, 6, 7]
  cf := some (fileOf pool8 10 #[.nestMembers #[1103]] #[{ accessFlags := 1, nameIndex := 5, descriptorIndex := 6, attributes := #[] }, { accessFlags := 1, nameIndex := 5, descriptorIndex := 1010, attributes := #[] }, { accessFlags := 1, nameIndex := 543, descriptorIndex := 573, attributes := #[] }, { accessFlags := 2, nameIndex := 5, descriptorIndex := 29, attributes := #[] }] 49 2 #[1106, 1108, 575, 1110, 1112] #[{ accessFlags := 18, nameIndex := 13, descriptorIndex := 14, attributes := #[] }, { accessFlags := 18, nameIndex := 17, descriptorIndex := 18, attributes := #[] }, { accessFlags := 2, nameIndex := 21, descriptorIndex := 22, attributes := #[] }, { accessFlags := 2, nameIndex := 25, descriptorIndex := 26, attributes := #[] }, { accessFlags := 26, nameIndex := 1116, descriptorIndex := 1117, attributes := #[] }, { accessFlags := 24, nameIndex := 40, descriptorIndex := 26, attributes := #[] }, { accessFlags := 26, nameIndex := 1101, descriptorIndex := 1102, attributes := #[] }, { accessFlags := 26, nameIndex := 1121, descriptorIndex := 1122, attributes := #[] }, { accessFlags := 25, nameIndex := 599, descriptorIndex := 600, attributes := #[] }, { accessFlags := 24, nameIndex := 1125, descriptorIndex := 18, attributes := #[] }, { accessFlags := 24, nameIndex := 1127, descriptorIndex := 18, attributes := #[] }])
  fields := #[{ name := "value", type := (.array .byte), accessFlags := 18, slot := 0, constantValue := 0 }, { name := "coder", type := .byte, accessFlags := 18, slot := 1, constantValue := 0 }, { name := "hash", type := .int, accessFlags := 2, slot := 2, constantValue := 0 }, { name := "hashIsZero", type := .boolean, accessFlags := 2, slot := 3, constantValue := 0 }, { name := "serialVersionUID", type := .long, accessFlags := 26, slot := 0, constantValue := 0 }, { name := "COMPACT_STRINGS", type := .boolean, accessFlags := 24, slot := 1, constantValue := 0 }, { name := "serialPersistentFields", type := (.array (.object "java/io/ObjectStreamField")), accessFlags := 26, slot := 2, constantValue := 0 }, { name := "REPL", type := .char, accessFlags := 26, slot := 3, constantValue := 0 }, { name := "CASE_INSENSITIVE_ORDER", type := (.object "java/util/Comparator"), accessFlags := 25, slot := 4, constantValue := 0 }, { name := "LATIN1", type := .byte, accessFlags := 24, slot := 5, constantValue := 0 }, { name := "UTF16", type := .byte, accessFlags := 24, slot := 6, constantValue := 0 }]
  methods := #[k8m0, k8m1, k8m2, k8m3]
  instanceTypes := #[(.array .byte), .byte, .int, .boolean]
  staticTypes := #[.long, .boolean, (.array (.object "java/io/ObjectStreamField")), .char, (.object "java/util/Comparator"), .byte, .byte]
  resolved := Array.replicate 1451 none
  statics := some 0 }

def pool9 : Array CpInfo := pool [(6, .class_ 8), (1, u "java/lang/Object"), (0, u "<init>"), (0, u "()V"), (1, .class_ 14), (1, u "java/lang/StringUTF16"), (31, u "$assertionsDisabled"), (0, u "Z"), (13, u "HI_BYTE_SHIFT"), (0, u "I"), (2, u "LO_BYTE_SHIFT"), (49, .methodref 12 116), (0, .nameAndType 117 118), (0, u "compress"), (0, u "([CI[BII)I"), (3, u "([CII)[B"), (138, u "coderFromArrayLen"), (0, u "([BI)B"), (106, .class_ 371), (1, u "java/lang/StringUTF16$LinesSpliterator"), (58, u "MAX_LENGTH"), (196, .class_ 628), (0, u "java/lang/StringUTF16$CodePointsSpliterator"), (0, .class_ 630), (0, u "java/lang/StringUTF16$CharsSpliterator")] 4

def k9m0 : Method := { name := "<init>", desc := "()V", sig := { parameters := [], returnType := none }, accessFlags := 0, code := none }
def k9c1 : Code := { maxStack := 2, maxLocals := 2, code := jdk_52_method_15_code, exceptionTable := #[], attributes := #[] }
def k9m1 : Method := { name := "coderFromArrayLen", desc := "([BI)B", sig := { parameters := [(.array .byte), .int], returnType := some .byte }, accessFlags := 8, code := some k9c1 }
def k9c2 : Code := { maxStack := 5, maxLocals := 6, code := jdk_52_method_16_code, exceptionTable := #[], attributes := #[] }
def k9m2 : Method := { name := "compress", desc := "([CII)[B", sig := { parameters := [(.array .char), .int, .int], returnType := some (.array .byte) }, accessFlags := 9, code := some k9c2 }
def k9c3 : Code := { maxStack := 3, maxLocals := 7, code := jdk_52_method_21_code, exceptionTable := #[], attributes := #[] }
def k9m3 : Method := { name := "compress", desc := "([CI[BII)I", sig := { parameters := [(.array .char), .int, (.array .byte), .int, .int], returnType := some .int }, accessFlags := 9, code := some k9c3 }
/-- java/lang/StringUTF16 -/
def k9 : Class := { plain "java/lang/StringUTF16" (some 0) with
  accessFlags := 48
  interfaces := #[]
  cf := some (fileOf pool9 12 #[.nestMembers #[627, 629, 369]] #[{ accessFlags := 0, nameIndex := 9, descriptorIndex := 10, attributes := #[] }, { accessFlags := 8, nameIndex := 261, descriptorIndex := 262, attributes := #[] }, { accessFlags := 9, nameIndex := 117, descriptorIndex := 122, attributes := #[] }, { accessFlags := 9, nameIndex := 117, descriptorIndex := 118, attributes := #[] }] 48 6 #[] #[{ accessFlags := 26, nameIndex := 61, descriptorIndex := 62, attributes := #[] }, { accessFlags := 26, nameIndex := 65, descriptorIndex := 62, attributes := #[] }, { accessFlags := 24, nameIndex := 430, descriptorIndex := 62, attributes := #[] }, { accessFlags := 4120, nameIndex := 46, descriptorIndex := 47, attributes := #[] }])
  fields := #[{ name := "HI_BYTE_SHIFT", type := .int, accessFlags := 26, slot := 0, constantValue := 0 }, { name := "LO_BYTE_SHIFT", type := .int, accessFlags := 26, slot := 1, constantValue := 0 }, { name := "MAX_LENGTH", type := .int, accessFlags := 24, slot := 2, constantValue := 0 }, { name := "$assertionsDisabled", type := .boolean, accessFlags := 4120, slot := 3, constantValue := 0 }]
  methods := #[k9m0, k9m1, k9m2, k9m3]
  instanceTypes := #[]
  staticTypes := #[.int, .int, .int, .boolean]
  resolved := Array.replicate 635 none
  statics := none }

def pool10 : Array CpInfo := pool [(4, .class_ 6), (1, u "java/lang/Object"), (0, u "<init>"), (0, u "()V"), (5, .class_ 16), (1, u "java/lang/StringLatin1"), (104, u "$assertionsDisabled"), (0, u "Z"), (98, .class_ 223), (1, u "java/lang/StringLatin1$LinesSpliterator"), (57, u "equals"), (0, u "([B[B)Z"), (107, .class_ 391), (0, u "java/lang/StringLatin1$CharsSpliterator")] 3

def k10m0 : Method := { name := "<init>", desc := "()V", sig := { parameters := [], returnType := none }, accessFlags := 0, code := none }
def k10c1 : Code := { maxStack := 3, maxLocals := 3, code := jdk_43_method_13_code, exceptionTable := #[], attributes := #[] }
def k10m1 : Method := { name := "equals", desc := "([B[B)Z", sig := { parameters := [(.array .byte), (.array .byte)], returnType := some .boolean }, accessFlags := 9, code := some k10c1 }
/-- java/lang/StringLatin1 -/
def k10 : Class := { plain "java/lang/StringLatin1" (some 0) with
  accessFlags := 48
  interfaces := #[]
  cf := some (fileOf pool10 14 #[.nestMembers #[390, 221]] #[{ accessFlags := 0, nameIndex := 7, descriptorIndex := 8, attributes := #[] }, { accessFlags := 9, nameIndex := 281, descriptorIndex := 282, attributes := #[] }] 48 4 #[] #[{ accessFlags := 4120, nameIndex := 121, descriptorIndex := 122, attributes := #[] }])
  fields := #[{ name := "$assertionsDisabled", type := .boolean, accessFlags := 4120, slot := 0, constantValue := 0 }]
  methods := #[k10m0, k10m1]
  instanceTypes := #[]
  staticTypes := #[.boolean]
  resolved := Array.replicate 395 none
  statics := none }

def pool11 : Array CpInfo := pool [(2, .class_ 4), (1, u "java/lang/Object"), (0, u "<init>"), (0, u "()V"), (17, .class_ 26), (1, u "jdk/internal/util/Preconditions"), (28, .class_ 56), (0, u "jdk/internal/util/Preconditions$4"), (57, .class_ 115), (0, u "jdk/internal/util/Preconditions$1"), (7, u "SIOOBE_FORMATTER"), (0, u "Ljava/util/function/BiFunction;"), (0, .class_ 126), (0, u "jdk/internal/util/Preconditions$2"), (3, u "AIOOBE_FORMATTER"), (0, .class_ 132), (0, u "jdk/internal/util/Preconditions$3"), (3, u "IOOBE_FORMATTER")] 57

def k11m0 : Method := { name := "<init>", desc := "()V", sig := { parameters := [], returnType := none }, accessFlags := 1, code := none }
/-- jdk/internal/util/Preconditions -/
def k11 : Class := { plain "jdk/internal/util/Preconditions" (some 0) with
  accessFlags := 33
  interfaces := #[]
  cf := some (fileOf pool11 24 #[.nestMembers #[55, 131, 125, 114]] #[{ accessFlags := 1, nameIndex := 5, descriptorIndex := 6, attributes := #[] }] 33 2 #[] #[{ accessFlags := 25, nameIndex := 123, descriptorIndex := 124, attributes := #[] }, { accessFlags := 25, nameIndex := 130, descriptorIndex := 124, attributes := #[] }, { accessFlags := 25, nameIndex := 136, descriptorIndex := 124, attributes := #[] }])
  fields := #[{ name := "SIOOBE_FORMATTER", type := (.object "java/util/function/BiFunction"), accessFlags := 25, slot := 0, constantValue := 0 }, { name := "AIOOBE_FORMATTER", type := (.object "java/util/function/BiFunction"), accessFlags := 25, slot := 1, constantValue := 0 }, { name := "IOOBE_FORMATTER", type := (.object "java/util/function/BiFunction"), accessFlags := 25, slot := 2, constantValue := 0 }]
  methods := #[k11m0]
  instanceTypes := #[]
  staticTypes := #[(.object "java/util/function/BiFunction"), (.object "java/util/function/BiFunction"), (.object "java/util/function/BiFunction")]
  resolved := Array.replicate 194 none
  statics := some 1 }

def pool12 : Array CpInfo := pool [(9, u "<init>"), (6, .class_ 18), (1, u "java/lang/Object"), (0, u "()V"), (1, .class_ 23), (1, u "jdk/internal/util/ArraysSupport"), (0, u "LOG2_ARRAY_LONG_INDEX_SCALE"), (0, u "I"), (2, u "U"), (0, u "Ljdk/internal/misc/Unsafe;"), (8, u "BIG_ENDIAN"), (0, u "Z"), (8, u "LOG2_BYTE_BIT_SIZE"), (4, u "LOG2_ARRAY_INT_INDEX_SCALE"), (54, u "JLA"), (0, u "Ljdk/internal/access/JavaLangAccess;"), (11, u "LOG2_ARRAY_BOOLEAN_INDEX_SCALE"), (9, u "LOG2_ARRAY_BYTE_INDEX_SCALE"), (5, u "LOG2_ARRAY_CHAR_INDEX_SCALE"), (5, u "LOG2_ARRAY_SHORT_INDEX_SCALE"), (18, u "LOG2_ARRAY_FLOAT_INDEX_SCALE"), (24, u "LOG2_ARRAY_DOUBLE_INDEX_SCALE"), (89, u "T_BOOLEAN"), (2, u "T_CHAR"), (1, u "T_FLOAT"), (1, u "T_DOUBLE"), (1, u "T_BYTE"), (1, u "T_SHORT"), (1, u "T_INT"), (1, u "T_LONG"), (1, u "SOFT_MAX_ARRAY_LENGTH")] 83

def k12m0 : Method := { name := "<init>", desc := "()V", sig := { parameters := [], returnType := none }, accessFlags := 2, code := none }
/-- jdk/internal/util/ArraysSupport -/
def k12 : Class := { plain "jdk/internal/util/ArraysSupport" (some 0) with
  accessFlags := 33
  interfaces := #[]
  cf := some (fileOf pool12 21 #[] #[{ accessFlags := 2, nameIndex := 9, descriptorIndex := 19, attributes := #[] }] 33 16 #[] #[{ accessFlags := 24, nameIndex := 28, descriptorIndex := 29, attributes := #[] }, { accessFlags := 26, nameIndex := 38, descriptorIndex := 39, attributes := #[] }, { accessFlags := 25, nameIndex := 121, descriptorIndex := 25, attributes := #[] }, { accessFlags := 25, nameIndex := 131, descriptorIndex := 25, attributes := #[] }, { accessFlags := 25, nameIndex := 137, descriptorIndex := 25, attributes := #[] }, { accessFlags := 25, nameIndex := 143, descriptorIndex := 25, attributes := #[] }, { accessFlags := 25, nameIndex := 53, descriptorIndex := 25, attributes := #[] }, { accessFlags := 25, nameIndex := 24, descriptorIndex := 25, attributes := #[] }, { accessFlags := 25, nameIndex := 162, descriptorIndex := 25, attributes := #[] }, { accessFlags := 25, nameIndex := 187, descriptorIndex := 25, attributes := #[] }, { accessFlags := 26, nameIndex := 48, descriptorIndex := 25, attributes := #[] }, { accessFlags := 25, nameIndex := 277, descriptorIndex := 25, attributes := #[] }, { accessFlags := 25, nameIndex := 280, descriptorIndex := 25, attributes := #[] }, { accessFlags := 25, nameIndex := 282, descriptorIndex := 25, attributes := #[] }, { accessFlags := 25, nameIndex := 284, descriptorIndex := 25, attributes := #[] }, { accessFlags := 25, nameIndex := 286, descriptorIndex := 25, attributes := #[] }, { accessFlags := 25, nameIndex := 288, descriptorIndex := 25, attributes := #[] }, { accessFlags := 25, nameIndex := 290, descriptorIndex := 25, attributes := #[] }, { accessFlags := 25, nameIndex := 292, descriptorIndex := 25, attributes := #[] }, { accessFlags := 26, nameIndex := 108, descriptorIndex := 109, attributes := #[] }, { accessFlags := 25, nameIndex := 294, descriptorIndex := 25, attributes := #[] }])
  fields := #[{ name := "U", type := (.object "jdk/internal/misc/Unsafe"), accessFlags := 24, slot := 0, constantValue := 0 }, { name := "BIG_ENDIAN", type := .boolean, accessFlags := 26, slot := 1, constantValue := 0 }, { name := "LOG2_ARRAY_BOOLEAN_INDEX_SCALE", type := .int, accessFlags := 25, slot := 2, constantValue := 0 }, { name := "LOG2_ARRAY_BYTE_INDEX_SCALE", type := .int, accessFlags := 25, slot := 3, constantValue := 0 }, { name := "LOG2_ARRAY_CHAR_INDEX_SCALE", type := .int, accessFlags := 25, slot := 4, constantValue := 0 }, { name := "LOG2_ARRAY_SHORT_INDEX_SCALE", type := .int, accessFlags := 25, slot := 5, constantValue := 0 }, { name := "LOG2_ARRAY_INT_INDEX_SCALE", type := .int, accessFlags := 25, slot := 6, constantValue := 0 }, { name := "LOG2_ARRAY_LONG_INDEX_SCALE", type := .int, accessFlags := 25, slot := 7, constantValue := 0 }, { name := "LOG2_ARRAY_FLOAT_INDEX_SCALE", type := .int, accessFlags := 25, slot := 8, constantValue := 0 }, { name := "LOG2_ARRAY_DOUBLE_INDEX_SCALE", type := .int, accessFlags := 25, slot := 9, constantValue := 0 }, { name := "LOG2_BYTE_BIT_SIZE", type := .int, accessFlags := 26, slot := 10, constantValue := 0 }, { name := "T_BOOLEAN", type := .int, accessFlags := 25, slot := 11, constantValue := 0 }, { name := "T_CHAR", type := .int, accessFlags := 25, slot := 12, constantValue := 0 }, { name := "T_FLOAT", type := .int, accessFlags := 25, slot := 13, constantValue := 0 }, { name := "T_DOUBLE", type := .int, accessFlags := 25, slot := 14, constantValue := 0 }, { name := "T_BYTE", type := .int, accessFlags := 25, slot := 15, constantValue := 0 }, { name := "T_SHORT", type := .int, accessFlags := 25, slot := 16, constantValue := 0 }, { name := "T_INT", type := .int, accessFlags := 25, slot := 17, constantValue := 0 }, { name := "T_LONG", type := .int, accessFlags := 25, slot := 18, constantValue := 0 }, { name := "JLA", type := (.object "jdk/internal/access/JavaLangAccess"), accessFlags := 26, slot := 19, constantValue := 0 }, { name := "SOFT_MAX_ARRAY_LENGTH", type := .int, accessFlags := 25, slot := 20, constantValue := 0 }]
  methods := #[k12m0]
  instanceTypes := #[]
  staticTypes := #[(.object "jdk/internal/misc/Unsafe"), .boolean, .int, .int, .int, .int, .int, .int, .int, .int, .int, .int, .int, .int, .int, .int, .int, .int, .int, (.object "jdk/internal/access/JavaLangAccess"), .int]
  resolved := Array.replicate 378 none
  statics := none }

def pool13 : Array CpInfo := pool [(1, u "java/lang/Cloneable"), (0, .class_ 1), (0, u "java/lang/Object"), (0, .class_ 3)] 3

/-- java/lang/Cloneable -/
def k13 : Class := { plain "java/lang/Cloneable" (some 0) with
  accessFlags := 1537
  interfaces := #[]
  cf := some (fileOf pool13 2 #[] #[] 1537 4 #[] #[])
  fields := #[]
  methods := #[]
  instanceTypes := #[]
  staticTypes := #[]
  resolved := Array.replicate 8 none
  statics := none }

/-- the primitive byte -/
def k14 : Class := { plain "byte" none with kind := .primitive 'B', accessFlags := 0x411 }
/-- [B -/
def k15 : Class := { plain "[B" (some 0) with kind := .array 14 .byte, interfaces := #[13, 4], accessFlags := 1041 }

/-- the primitive char -/
def k16 : Class := { plain "char" none with kind := .primitive 'C', accessFlags := 0x411 }
/-- [C -/
def k17 : Class := { plain "[C" (some 0) with kind := .array 16 .char, interfaces := #[13, 4], accessFlags := 1041 }

/-- the primitive int -/
def k18 : Class := { plain "int" none with kind := .primitive 'I', accessFlags := 0x411 }
/-- [I -/
def k19 : Class := { plain "[I" (some 0) with kind := .array 18 .int, interfaces := #[13, 4], accessFlags := 1041 }

def heap : Heap := #[{ cls := 8, slots := #[.long 0, .int 1, .null, .int 0, .null, .int 0, .int 0], vm := .statics 8 },
  { cls := 11, slots := #[.null, .null, .null], vm := .statics 11 }]
def classes : Array Class := #[k0, k1, k2, k3, k4, k5, k6, k7, k8, k9, k10, k11, k12, k13, k14, k15, k16, k17, k18, k19]
def interned : List (Array UInt16 × Addr) := []
def slotsUsed : Nat := 10
def theMethod : MethodId := ⟨1, 1⟩
def args0 : Array Value := #[.int 65, .int 3, .int 3, .int 3, .int 0]
def aboutOver (below : List Frame) : State where
  vm := { classes := classes, interned := interned.toArray }
  heap := heap
  slotsUsed := slotsUsed
  threads := #[{ frames := .invoking theMethod args0 :: below }]
def below0 : List Frame := [.native { method := ⟨0, 0⟩, args := #[] }]
def about1 : State := aboutOver below0
def p0 : Program := .bare "" "" ""
def e0 : Env := launch0.env 0 0 0
theorem w_frames : about1.frames = Frame.invoking theMethod args0 :: below0 := rfl
set_option maxRecDepth 65536 in
theorem w_args : argsFit about1.vm theMethod args0 = true := by decide +kernel
set_option maxRecDepth 65536 in
theorem w_heap : heapFits about1 = true := by decide +kernel
set_option maxRecDepth 65536 in
theorem w_runnable : about1.curStatus? = some .runnable := by decide +kernel
set_option maxRecDepth 65536 in
theorem w_alone : about1.alone = true := by decide +kernel
set_option maxRecDepth 65536 in
theorem w_named : about1.methodNamed? x = some theMethod := by decide +kernel
set_option maxRecDepth 65536 in
theorem w_hears : about1.hears theMethod below0 = true := by decide +kernel
set_option maxRecDepth 65536 in
theorem w_ripe : about1.ripe theMethod args0 below0 = true := by decide +kernel
theorem w_running : about1.status = .running := rfl
set_option maxRecDepth 65536 in
theorem w_room : about1.hasRoom e0.platform room_1 = true :=
  launch0.hasRoom_least _ room_1 (by decide +kernel) (by decide +kernel) (by decide +kernel) (by decide +kernel) (by decide +kernel) (by decide +kernel)
theorem allAtoms_all (ts : List Jvm.Cond) (a : Array Jvm.Value) (st : Jvm.State) : (allAtoms ts).before a st = ts.all (fun c => c.before a st) := by
  induction ts with
  | nil => rfl
  | cons c t ih =>
    show (Jvm.Cond.and c (allAtoms t)).before a st = _
    rw [Jvm.Cond.before_and, ih, List.all_cons]
def words1 : List Jvm.Cond := Jvm.Cond.code x code maxLocals ret :: tables_1
/-- a 'code' word, met by the world's own term for the bytes: nothing is compared byte by byte -/
theorem code_word {y : MethodName} {bytes : ByteArray} {mx : Nat} {rt : Option FieldType} {a : Array Value} {s : State} {m : MethodId} {meth : Method} {c : Code} (h1 : s.methodNamed? y = some m) (h2 : s.vm.method? m = some meth) (h3 : meth.code = some c) (h4 : c.code = bytes)
    (h5 : (c.maxLocals == mx && c.exceptionTable.isEmpty && decide (c.maxStack ≤ mostOperands) && decide (meth.sig.returnType = rt) && !meth.locks && decide (parseMethodDescriptor y.desc = some meth.sig)) = true) : (Jvm.Cond.code y bytes mx rt).before a s = true := by
  simp only [Bool.and_eq_true, beq_iff_eq, Bool.not_eq_true', decide_eq_true_eq] at h5
  obtain ⟨⟨⟨⟨⟨g1, g2⟩, g3⟩, g4⟩, g5⟩, g6⟩ := h5
  simp [Cond.before, Cond.holds, Cond.value, h1, h2, h3, h4, g1, g2, g3, g4, g5, g6]
def isCode : Jvm.Cond → Bool
  | .code _ _ _ _ => true
  | _ => false
theorem all_split {L : List Jvm.Cond} {P : Jvm.Cond → Bool} (h1 : L.all (fun c => isCode c || P c) = true) (h2 : ∀ c ∈ L.filter isCode, P c = true) : L.all P = true := by
  refine List.all_eq_true.mpr fun c hc => ?_
  have h := List.all_eq_true.mp h1 c hc
  rcases Bool.eq_false_or_eq_true (isCode c) with hi | hi
  · exact h2 c (List.mem_filter.mpr ⟨hc, hi⟩)
  · simpa [hi] using h
set_option maxRecDepth 65536 in
theorem w_c0 : (Jvm.Cond.code x code maxLocals ret).before args0 about1 = true := code_word (m := ⟨1, 1⟩) (meth := k1m1) (c := k1c1) (by decide +kernel) rfl rfl rfl (by decide +kernel)
set_option maxRecDepth 65536 in
theorem w_c1 : (Jvm.Cond.code ({ cls := "com/example/tickwright/tickwright/AccountEqualsPinLaw", name := "str", desc := "(I)Ljava/lang/String;" } : Jvm.MethodName) method_4_code (2 : Nat) (Option.some (Jvm.ClassFile.FieldType.object "java/lang/String"))).before args0 about1 = true := code_word (m := ⟨1, 3⟩) (meth := k1m3) (c := k1c3) (by decide +kernel) rfl rfl rfl (by decide +kernel)
set_option maxRecDepth 65536 in
theorem w_c2 : (Jvm.Cond.code ({ cls := "java/lang/String", name := "<init>", desc := "([C)V" } : Jvm.MethodName) jdk_42_method_3_code (2 : Nat) (Option.none : Option Jvm.ClassFile.FieldType)).before args0 about1 = true := code_word (m := ⟨8, 1⟩) (meth := k8m1) (c := k8c1) (by decide +kernel) rfl rfl rfl (by decide +kernel)
set_option maxRecDepth 65536 in
theorem w_c3 : (Jvm.Cond.code ({ cls := "java/lang/String", name := "<init>", desc := "([CIILjava/lang/Void;)V" } : Jvm.MethodName) jdk_42_method_149_code (6 : Nat) (Option.none : Option Jvm.ClassFile.FieldType)).before args0 about1 = true := code_word (m := ⟨8, 3⟩) (meth := k8m3) (c := k8c3) (by decide +kernel) rfl rfl rfl (by decide +kernel)
set_option maxRecDepth 65536 in
theorem w_c4 : (Jvm.Cond.code ({ cls := "java/lang/Object", name := "<init>", desc := "()V" } : Jvm.MethodName) object_method_1_code (1 : Nat) (Option.none : Option Jvm.ClassFile.FieldType)).before args0 about1 = true := code_word (m := ⟨0, 0⟩) (meth := k0m0) (c := k0c0) (by decide +kernel) rfl rfl rfl (by decide +kernel)
set_option maxRecDepth 65536 in
theorem w_c5 : (Jvm.Cond.code ({ cls := "com/example/tickwright/tickwright/AccountEqualsPinLaw", name := "ch", desc := "(II)C" } : Jvm.MethodName) method_3_code (2 : Nat) (Option.some Jvm.ClassFile.FieldType.char)).before args0 about1 = true := code_word (m := ⟨1, 2⟩) (meth := k1m2) (c := k1c2) (by decide +kernel) rfl rfl rfl (by decide +kernel)
set_option maxRecDepth 65536 in
theorem w_c6 : (Jvm.Cond.code ({ cls := "java/lang/StringUTF16", name := "compress", desc := "([CII)[B" } : Jvm.MethodName) jdk_52_method_16_code (6 : Nat) (Option.some (Jvm.ClassFile.FieldType.array Jvm.ClassFile.FieldType.byte))).before args0 about1 = true := code_word (m := ⟨9, 2⟩) (meth := k9m2) (c := k9c2) (by decide +kernel) rfl rfl rfl (by decide +kernel)
set_option maxRecDepth 65536 in
theorem w_c7 : (Jvm.Cond.code ({ cls := "java/lang/StringUTF16", name := "compress", desc := "([CI[BII)I" } : Jvm.MethodName) jdk_52_method_21_code (7 : Nat) (Option.some Jvm.ClassFile.FieldType.int)).before args0 about1 = true := code_word (m := ⟨9, 3⟩) (meth := k9m3) (c := k9c3) (by decide +kernel) rfl rfl rfl (by decide +kernel)
set_option maxRecDepth 65536 in
theorem w_c8 : (Jvm.Cond.code ({ cls := "java/lang/StringUTF16", name := "coderFromArrayLen", desc := "([BI)B" } : Jvm.MethodName) jdk_52_method_15_code (2 : Nat) (Option.some Jvm.ClassFile.FieldType.byte)).before args0 about1 = true := code_word (m := ⟨9, 1⟩) (meth := k9m1) (c := k9c1) (by decide +kernel) rfl rfl rfl (by decide +kernel)
set_option maxRecDepth 65536 in
theorem w_c9 : (Jvm.Cond.code ({ cls := "com/example/tickwright/tickwright/Account", name := "<init>", desc := "(Ljava/lang/String;Ljava/lang/String;)V" } : Jvm.MethodName) prog_1_method_1_code (3 : Nat) (Option.none : Option Jvm.ClassFile.FieldType)).before args0 about1 = true := code_word (m := ⟨3, 0⟩) (meth := k3m0) (c := k3c0) (by decide +kernel) rfl rfl rfl (by decide +kernel)
set_option maxRecDepth 65536 in
theorem w_c10 : (Jvm.Cond.code ({ cls := "com/example/tickwright/tickwright/AccountEqualsPinLaw", name := "same", desc := "(II)Z" } : Jvm.MethodName) method_5_code (3 : Nat) (Option.some Jvm.ClassFile.FieldType.boolean)).before args0 about1 = true := code_word (m := ⟨1, 4⟩) (meth := k1m4) (c := k1c4) (by decide +kernel) rfl rfl rfl (by decide +kernel)
set_option maxRecDepth 65536 in
theorem w_c11 : (Jvm.Cond.code ({ cls := "com/example/tickwright/tickwright/Account", name := "equals", desc := "(Ljava/lang/Object;)Z" } : Jvm.MethodName) prog_1_method_7_code (2 : Nat) (Option.some Jvm.ClassFile.FieldType.boolean)).before args0 about1 = true := code_word (m := ⟨3, 1⟩) (meth := k3m1) (c := k3c1) (by decide +kernel) rfl rfl rfl (by decide +kernel)
set_option maxRecDepth 65536 in
theorem w_c12 : (Jvm.Cond.code ({ cls := "java/lang/String", name := "equals", desc := "(Ljava/lang/Object;)Z" } : Jvm.MethodName) jdk_42_method_66_code (3 : Nat) (Option.some Jvm.ClassFile.FieldType.boolean)).before args0 about1 = true := code_word (m := ⟨8, 2⟩) (meth := k8m2) (c := k8c2) (by decide +kernel) rfl rfl rfl (by decide +kernel)
set_option maxRecDepth 65536 in
theorem w_c13 : (Jvm.Cond.code ({ cls := "java/lang/StringLatin1", name := "equals", desc := "([B[B)Z" } : Jvm.MethodName) jdk_43_method_13_code (3 : Nat) (Option.some Jvm.ClassFile.FieldType.boolean)).before args0 about1 = true := code_word (m := ⟨10, 1⟩) (meth := k10m1) (c := k10c1) (by decide +kernel) rfl rfl rfl (by decide +kernel)
def codes1 : List Jvm.Cond := [Jvm.Cond.code x code maxLocals ret, Jvm.Cond.code ({ cls := "com/example/tickwright/tickwright/AccountEqualsPinLaw", name := "str", desc := "(I)Ljava/lang/String;" } : Jvm.MethodName) method_4_code (2 : Nat) (Option.some (Jvm.ClassFile.FieldType.object "java/lang/String")), Jvm.Cond.code ({ cls := "java/lang/String", name := "<init>", desc := "([C)V" } : Jvm.MethodName) jdk_42_method_3_code (2 : Nat) (Option.none : Option Jvm.ClassFile.FieldType), Jvm.Cond.code ({ cls := "java/lang/String", name := "<init>", desc := "([CIILjava/lang/Void;)V" } : Jvm.MethodName) jdk_42_method_149_code (6 : Nat) (Option.none : Option Jvm.ClassFile.FieldType), Jvm.Cond.code ({ cls := "java/lang/Object", name := "<init>", desc := "()V" } : Jvm.MethodName) object_method_1_code (1 : Nat) (Option.none : Option Jvm.ClassFile.FieldType), Jvm.Cond.code ({ cls := "com/example/tickwright/tickwright/AccountEqualsPinLaw", name := "ch", desc := "(II)C" } : Jvm.MethodName) method_3_code (2 : Nat) (Option.some Jvm.ClassFile.FieldType.char), Jvm.Cond.code ({ cls := "java/lang/StringUTF16", name := "compress", desc := "([CII)[B" } : Jvm.MethodName) jdk_52_method_16_code (6 : Nat) (Option.some (Jvm.ClassFile.FieldType.array Jvm.ClassFile.FieldType.byte)), Jvm.Cond.code ({ cls := "java/lang/StringUTF16", name := "compress", desc := "([CI[BII)I" } : Jvm.MethodName) jdk_52_method_21_code (7 : Nat) (Option.some Jvm.ClassFile.FieldType.int), Jvm.Cond.code ({ cls := "java/lang/StringUTF16", name := "coderFromArrayLen", desc := "([BI)B" } : Jvm.MethodName) jdk_52_method_15_code (2 : Nat) (Option.some Jvm.ClassFile.FieldType.byte), Jvm.Cond.code ({ cls := "com/example/tickwright/tickwright/Account", name := "<init>", desc := "(Ljava/lang/String;Ljava/lang/String;)V" } : Jvm.MethodName) prog_1_method_1_code (3 : Nat) (Option.none : Option Jvm.ClassFile.FieldType), Jvm.Cond.code ({ cls := "com/example/tickwright/tickwright/AccountEqualsPinLaw", name := "same", desc := "(II)Z" } : Jvm.MethodName) method_5_code (3 : Nat) (Option.some Jvm.ClassFile.FieldType.boolean), Jvm.Cond.code ({ cls := "com/example/tickwright/tickwright/Account", name := "equals", desc := "(Ljava/lang/Object;)Z" } : Jvm.MethodName) prog_1_method_7_code (2 : Nat) (Option.some Jvm.ClassFile.FieldType.boolean), Jvm.Cond.code ({ cls := "java/lang/String", name := "equals", desc := "(Ljava/lang/Object;)Z" } : Jvm.MethodName) jdk_42_method_66_code (3 : Nat) (Option.some Jvm.ClassFile.FieldType.boolean), Jvm.Cond.code ({ cls := "java/lang/StringLatin1", name := "equals", desc := "([B[B)Z" } : Jvm.MethodName) jdk_43_method_13_code (3 : Nat) (Option.some Jvm.ClassFile.FieldType.boolean)]
set_option maxRecDepth 65536 in
theorem codes_eq : words1.filter isCode = codes1 := rfl
theorem w_codes : ∀ c ∈ words1.filter isCode, c.before args0 about1 = true := by
  rw [codes_eq]
  intro c hc
  simp only [codes1, List.mem_cons, List.not_mem_nil, or_false] at hc
  rcases hc with rfl | rfl | rfl | rfl | rfl | rfl | rfl | rfl | rfl | rfl | rfl | rfl | rfl | rfl
  · exact w_c0
  · exact w_c1
  · exact w_c2
  · exact w_c3
  · exact w_c4
  · exact w_c5
  · exact w_c6
  · exact w_c7
  · exact w_c8
  · exact w_c9
  · exact w_c10
  · exact w_c11
  · exact w_c12
  · exact w_c13
set_option maxRecDepth 65536 in
theorem w_t1 : (words1.take 24).all (fun c => isCode c || c.before args0 about1) = true := by decide +kernel
set_option maxRecDepth 65536 in
theorem w_t2 : ((words1.drop 24).take 24).all (fun c => isCode c || c.before args0 about1) = true := by decide +kernel
set_option maxRecDepth 65536 in
theorem w_t3 : (((words1.drop 24).drop 24).take 24).all (fun c => isCode c || c.before args0 about1) = true := by decide +kernel
set_option maxRecDepth 65536 in
theorem w_t4 : (((words1.drop 24).drop 24).drop 24).all (fun c => isCode c || c.before args0 about1) = true := by decide +kernel
theorem w_tables : (allAtoms (Jvm.Cond.code x code maxLocals ret :: tables_1)).before args0 about1 = true := by
  rw [allAtoms_all]
  show words1.all (fun c => c.before args0 about1) = true
  refine all_split ?_ w_codes
  rw [← List.take_append_drop 24 words1, List.all_append, w_t1, ← List.take_append_drop 24 (words1.drop 24), List.all_append, w_t2, ← List.take_append_drop 24 ((words1.drop 24).drop 24), List.all_append, w_t3, w_t4]
  rfl
set_option maxRecDepth 65536 in
theorem w_rest : rest_1_c.before args0 about1 = true := by decide +kernel
set_option maxRecDepth 65536 in
theorem w_case : (Jvm.Cond.and given_1 narrow_1).before args0 about1 = true := by decide +kernel
set_option maxRecDepth 65536 in
theorem w_consts : constsHeld consts_1 about1 := Jvm.Lit.constsHeldB_iff.mp (by decide +kernel)
theorem w_applies : (headSpec (Jvm.Cond.code x code maxLocals ret :: tables_1) room_1).applies x e0.platform about1 = true :=
  (Spec.applies_iff w_frames).mpr ⟨w_running, w_runnable, w_alone, w_named, w_hears, w_ripe, w_room, w_tables⟩
theorem atStart : AtStart classFile x code maxLocals ret World_1 tables_1 room_1 Calls_1 rest_1 Pre_1 launch0 p0 e0 about1 theMethod args0 below0 :=
  ⟨lists_1, trivial, launch0.admits_env _ _ _, launch0.least_env, fairChoices_fair.cas, fairChoices_fair.clock, w_frames, w_args, w_heap, w_applies, ⟨w_consts, trivial⟩, w_rest, w_case⟩
end start1
theorem witness_1 : WitnessClaimed_1 := ⟨start1.p0, start1.e0, start1.about1, start1.theMethod, start1.args0, start1.below0, start1.atStart⟩
end Jvm.Pilot.@@N@@
