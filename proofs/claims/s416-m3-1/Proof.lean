import JvmDerived
import JvmDerived.Pilot.@@N@@Statement
import JvmDerived.Pilot.@@N@@Code
set_option linter.unusedVariables false
set_option linter.unusedSimpArgs false
namespace Jvm.RoadKit
open Sem ClassFile Op Lib Bundle Jvm.Stand Jvm.Free Jvm.LawKit
section Own
variable {p : Program} {l : Launch} {e : Env} {R : Room} {s : State} {m : MethodId} {args : Array Value} {below : List Frame} {meth : Method} {c : Code} {T : State} {locs : List Loc} {cells slots : Nat} {Z : State} {a0 : Array Value} {h : Heap}
/-- from T, with g on top, this invocation comes to an end of which F holds -/
def own_Go (p : Program) (e : Env) (below : List Frame) (F : State → Outcome → Prop) (T : State) (g : JFrame) : Prop := ∃ s₂ o, Steps p.tables e below (T.setTop g) s₂ ∧ F s₂ o
theorem own_step {F : State → Outcome → Prop} {T' : State} {g g' : JFrame} (h : ∀ t, Steps p.tables e below (T'.setTop g') t → Steps p.tables e below (T.setTop g) t) (H : own_Go p e below F T' g') : own_Go p e below F T g := by
  obtain ⟨s₂, o, h1, r⟩ := H
  exact ⟨s₂, o, h _ h1, r⟩
def own_EndN (below : List Frame) (s : State) (Q : Option Value → Heap → List Loc → Prop) (k n : Nat) : State → Outcome → Prop := fun s₂ o => s₂.status = .running ∧ Ended s₂ below o ∧ ∃ v L, o = .returned v ∧ Q v s₂.heap L ∧ FrameEnd s o s₂ L k n
def own_EndW (below : List Frame) (s Z : State) (EL : List (String × Nat)) (Q : Option Value → Heap → List Loc → Prop) (k n : Nat) : State → Outcome → Prop := fun s₂ o => s₂.status = .running ∧ Ended s₂ below o ∧ ∃ v L, o = .returned v ∧ Q v s₂.heap L ∧ CHr Z EL s.vm s.heap s₂.vm s₂.heap ∧ ReturnedEndW s o s₂ L k n
/-- what a return owes -/
def own_Out (below : List Frame) (s : State) (F : State → Outcome → Prop) (T : State) (v : Option Value) (locs : List Loc) (cells slots : Nat) : Prop := ∀ fs, (T.setFrames fs).status = .running → Ended (T.setFrames fs) below (.returned v) → s.WarmedH (T.setFrames fs).vm → s.sameButNew ({ T.setFrames fs with vm := s.vm } : State) locs cells slots → F (T.setFrames fs) (.returned v)
theorem own_N {v : Option Value} {Q : Option Value → Heap → List Loc → Prop} {k n : Nat} (hQ : Q v T.heap locs) (hk : cells ≤ k) (hn : slots ≤ n) : own_Out below s (own_EndN below s Q k n) T v locs cells slots := fun fs h1 h2 h3 h4 => ⟨h1, h2, v, locs, rfl, hQ, ⟨_, rfl⟩, h3, h4.mono hk hn⟩
theorem own_W {vm0 : Vm} {EL : List (String × Nat)} {k0 : Nat} {h0 : Heap} (X : Stand p l e R (s.setVm vm0) m args below meth c T locs cells slots) (hS : s.Since vm0 k0) (hk0 : k0 ≤ h.size) (eT : T.heap = h) (eS : s.heap = h0) (hZ : Z.Warmed39 vm0) (hEL : EW Z a0 EL) (C : CHr Z EL s.vm h0 vm0 h)
    {v : Option Value} {Q : Option Value → Heap → List Loc → Prop} {k n : Nat} (hQ : Q v T.heap locs) (hk : cells ≤ k) (hn : slots ≤ n) : own_Out below (s.setVm vm0) (own_EndW below s Z EL Q k n) T v locs cells slots := fun fs h1 h2 h3 h4 => by
  obtain ⟨a, b, c'⟩ := hS.ended (U := T.setFrames fs) h3 (by show k0 ≤ T.heap.size; rw [eT]; exact hk0) h4
  refine ⟨h1, h2, v, locs, rfl, hQ, ?_, ⟨_, rfl⟩, a, b, c'.mono hk hn⟩
  show CHr Z EL s.vm s.heap T.vm T.heap
  rw [eS, eT]; exact C.trans (CHv.at X hZ hEL C.1)
theorem own_ret (X : Stand p l e R s m args below meth c T locs cells slots) {v : Option Value} (hv : meth.sig.returnType = none → v = none) (hlk : meth.locks = false) {g : JFrame} {F : State → Outcome → Prop}
    (st : ∀ fs, (∀ (f : JFrame) (acts : List Action), f.method = m → f.locked = none → f.entered = [] → (doReturn e (T.setTop f) acts v).1 = T.setFrames fs) → Steps p.tables e below (T.setTop g) (T.setFrames fs))
    (hF : own_Out below s F T v locs cells slots) : own_Go p e below F T g := by
  obtain ⟨fs, hr, hrun, hended, hW, hsame⟩ := X.leave (v := v) hv hlk
  exact ⟨_, _, st fs hr, hF fs hrun hended hW hsame⟩
theorem own_retI (X : Stand p l e R s m args below meth c T locs cells slots) (hx : p.tables.exec = Jvm.exec) (hret : meth.sig.returnType = some .int) (hlk : meth.locks = false) {pc : Nat} {Ls : Array Slot} {z : Int32} {rest : List Value} (hd : decode c.code pc = .ok (.ireturn, 1)) {F : State → Outcome → Prop}
    (hF : own_Out below s F T (some (.int z)) locs cells slots) : own_Go p e below F T (mkF m pc Ls (.int z :: rest)) :=
  own_ret X (fun q => by rw [hret] at q; cases q) hlk (fun fs hr => retOut X hx hret rfl (Or.inl ⟨rfl, Or.inl rfl, z, rfl⟩) hd hr) hF
theorem own_retN (X : Stand p l e R s m args below meth c T locs cells slots) (hx : p.tables.exec = Jvm.exec) {t : FieldType} (hret : meth.sig.returnType = some t) (ht : t = .boolean ∨ t = .byte ∨ t = .char ∨ t = .short) (hlk : meth.locks = false) {pc : Nat} {Ls : Array Slot} {z v : Int32} {rest : List Value} (hd : decode c.code pc = .ok (.ireturn, 1)) {F : State → Outcome → Prop}
    (hv : nar t z = v) (hF : own_Out below s F T (some (.int v)) locs cells slots) : own_Go p e below F T (mkF m pc Ls (.int z :: rest)) :=
  own_ret X (v := some (.int v)) (fun q => by rw [hret] at q; cases q) hlk (fun fs hr => retN X hx hret ht hd (by rw [hv]; exact hr)) hF
theorem own_retL (X : Stand p l e R s m args below meth c T locs cells slots) (hx : p.tables.exec = Jvm.exec) (hret : meth.sig.returnType = some .long) (hlk : meth.locks = false) {pc : Nat} {Ls : Array Slot} {z : Int64} {rest : List Value} (hd : decode c.code pc = .ok (.lreturn, 1)) {F : State → Outcome → Prop}
    (hF : own_Out below s F T (some (.long z)) locs cells slots) : own_Go p e below F T (mkF m pc Ls (.long z :: rest)) :=
  own_ret X (fun q => by rw [hret] at q; cases q) hlk (fun fs hr => retOut X hx hret rfl (Or.inr (Or.inl ⟨rfl, rfl, z, rfl⟩)) hd hr) hF
theorem own_retA (X : Stand p l e R s m args below meth c T locs cells slots) (hx : p.tables.exec = Jvm.exec) {t : FieldType} (hret : meth.sig.returnType = some t) (ht : t.isReference = true) (hlk : meth.locks = false) {pc : Nat} {Ls : Array Slot} {z : Value} {rest : List Value} (hz : z.isRef = true) (hn0 : narrow t z = z) (hd : decode c.code pc = .ok (.areturn, 1)) {F : State → Outcome → Prop}
    (hF : own_Out below s F T (some z) locs cells slots) : own_Go p e below F T (mkF m pc Ls (z :: rest)) :=
  own_ret X (fun q => by rw [hret] at q; cases q) hlk (fun fs hr => retOut X hx hret hn0 (Or.inr (Or.inr (Or.inr (Or.inr ⟨rfl, ht, hz⟩)))) hd hr) hF
theorem own_retV (X : Stand p l e R s m args below meth c T locs cells slots) (hx : p.tables.exec = Jvm.exec) (hret : meth.sig.returnType = none) (hlk : meth.locks = false) {pc : Nat} {Ls : Array Slot} (hd : decode c.code pc = .ok (.return_, 1)) {F : State → Outcome → Prop}
    (hF : own_Out below s F T none locs cells slots) : own_Go p e below F T (mkF m pc Ls []) :=
  own_ret X (fun _ => rfl) hlk (fun fs hr => X.returnOut hx hret hd hr) hF
/-- a contract: called with as' over the heap h0, the method comes back and Q holds -/
def own_Met (l : Launch) (y : MethodName) (bytes : ByteArray) (maxL : Nat) (ret : Option FieldType) (ws : List Jvm.Cond) (rm : Room) (as' : Array Value) (Z : State) (h0 : Heap) (Q : Option Value → Heap → List Loc → Prop) : Prop :=
  MetFree l y (head1 (Jvm.Cond.code y bytes maxL ret :: ws) rm) (fun a U => a = as' ∧ Z.Warmed39 U.vm ∧ U.heap = h0) (fun _ _ _ _ _ => True) (fun _ U o U' => ∃ v L, o = .returned v ∧ Q v U'.heap L ∧ FrameEnd U o U' L rm.cells rm.slots)
theorem own_body {y : MethodName} {bytes : ByteArray} {maxL : Nat} {ret : Option FieldType} {ws : List Jvm.Cond} {rm : Room} {as' : Array Value} {h0 : Heap} {Q : Option Value → Heap → List Loc → Prop} (hy : plainFor y = true) {g0 : MethodId → JFrame} (ef : ∀ m, entryFrame m as' maxL = g0 m)
    (body : ∀ (p : Program) (e : Env) (s : State) (m : MethodId) (below : List Frame) (meth : Method) (c : Code) (T : State), Stand p l e rm s m as' below meth c T [] 0 0 → p.tables.exec = Jvm.exec → c.code = bytes → c.maxLocals = maxL → meth.sig.returnType = ret → meth.locks = false → meth.name = y.name → s.vm.findClass y.cls = some m.cls → Z.Warmed39 s.vm → T.heap = h0 → own_Go p e below (own_EndN below s Q rm.cells rm.slots) T (g0 m)) :
    own_Met l y bytes maxL ret ws rm as' Z h0 Q := by
  refine MetFree.of_bodySF hy hisR ?_
  intro p e s m args below meth c s₁ Bd hml hP hK
  obtain ⟨ha, hZ, hh⟩ := hP
  subst ha
  have q := body p e s m below meth c s₁ (Stand.of_body Bd) Bd.exec Bd.bytes hml Bd.returns Bd.notSynchronized (name_of_methodNamed Bd.named Bd.method).1 (findClass_of_methodNamed Bd.named) hZ (by rw [← hh, Bd.state]; rfl)
  rw [← ef m] at q
  exact q
/-- a contract of a method that may load a String constant -/
def own_MetW (l : Launch) (y : MethodName) (bytes : ByteArray) (maxL : Nat) (ret : Option FieldType) (ws : List Jvm.Cond) (rm : Room) (as' : Array Value) (Z : State) (EL : List (String × Nat)) (h0 : Heap) (Q : Option Value → Heap → List Loc → Prop) : Prop :=
  MetFree l y (head1 (Jvm.Cond.code y bytes maxL ret :: ws) rm) (fun a U => a = as' ∧ Z.Warmed39 U.vm ∧ U.heap = h0 ∧ CHv Z EL U.vm h0) (fun _ _ _ _ _ => True) (fun _ U o U' => ∃ v L, o = .returned v ∧ Q v U'.heap L ∧ CHr Z EL U.vm U.heap U'.vm U'.heap ∧ ReturnedEndW U o U' L rm.cells rm.slots)
theorem own_bodyW {EL : List (String × Nat)} {y : MethodName} {bytes : ByteArray} {maxL : Nat} {ret : Option FieldType} {ws : List Jvm.Cond} {rm : Room} {as' : Array Value} {h0 : Heap} {Q : Option Value → Heap → List Loc → Prop} (hy : plainFor y = true) {g0 : MethodId → JFrame} (ef : ∀ m, entryFrame m as' maxL = g0 m)
    (body : ∀ (p : Program) (e : Env) (s : State) (m : MethodId) (below : List Frame) (meth : Method) (c : Code) (T : State), Stand p l e rm (s.setVm s.vm) m as' below meth c T [] 0 0 → p.tables.exec = Jvm.exec → c.code = bytes → c.maxLocals = maxL → meth.sig.returnType = ret → meth.locks = false → meth.name = y.name → s.vm.findClass y.cls = some m.cls → Z.Warmed39 s.vm → T.heap = h0 → s.heap = h0 → CHv Z EL s.vm h0 → s.Since s.vm h0.size → own_Go p e below (own_EndW below s Z EL Q rm.cells rm.slots) T (g0 m)) :
    own_MetW l y bytes maxL ret ws rm as' Z EL h0 Q := by
  refine MetFree.of_bodySF hy hisR ?_
  intro p e s m args below meth c s₁ Bd hml hP hK
  obtain ⟨ha, hZ, hh, hC⟩ := hP
  subst ha
  have q := body p e s m below meth c s₁ (Stand.of_body Bd) Bd.exec Bd.bytes hml Bd.returns Bd.notSynchronized (name_of_methodNamed Bd.named Bd.method).1 (findClass_of_methodNamed Bd.named) hZ (by rw [← hh, Bd.state]; rfl) hh hC (State.WarmedH.since (State.WarmedH.refl s) _)
  rw [← ef m] at q
  exact q
theorem own_callS (X : Stand p l e R s m args below meth c T locs cells slots) (hx : p.tables.exec = Jvm.exec) (hZ : Z.Warmed39 s.vm) {own : String} {index : Nat} {y : MethodName} {bytes : ByteArray} {maxL : Nat} {ret : Option FieldType}
    (hown : s.vm.findClass own = some m.cls) (wl : (Jvm.Cond.methodLink own index y).before a0 Z = true) (wst : (Jvm.Cond.static y).before a0 Z = true) (wi : (Jvm.Cond.initialized y.cls).before a0 Z = true) (wc : (Jvm.Cond.code y bytes maxL ret).before a0 Z = true)
    (hy : y.cls ≠ "java/lang/invoke/MethodHandle" ∧ y.cls ≠ "java/lang/invoke/VarHandle") {rm : Room} {as' : Array Value} {Qc : Option Value → Heap → List Loc → Prop} (hM : own_Met l y bytes maxL ret [] rm as' Z h Qc) (eT : T.heap = h) (W : Nat)
    (hf : rm.frames + 1 ≤ R.frames) (hlo : W + (maxL + 11) + rm.locals ≤ R.locals) (hcl : cells + rm.cells ≤ R.cells) (hsl : slots + rm.slots ≤ R.slots)
    {g : JFrame} (hg : g.method = m) (hsize : g.locals.size = c.maxLocals) (argsL rest : List Value) {ps : List FieldType} {r : Option FieldType} (hpd : parseMethodDescriptor y.desc = some ⟨ps, r⟩) (hlen : argsL.length = ps.length) (has : argsL.toArray = as')
    (hstack : g.stack = argsL.reverse ++ rest) (hW : 2 * g.monitorRoom + (rest.map fun v => v.category).sum ≤ W) (hdg : decode c.code g.pc = .ok (.invokestatic index, 3)) {F : State → Outcome → Prop}
    (cont : ∀ v T' L, Stand p l e R s m args below meth c T' (locs ++ L) (cells + rm.cells) (slots + rm.slots) → Qc v T'.heap L → own_Go p e below F T' { g with pc := g.pc + 3, stack := v.toList ++ rest }) : own_Go p e below F T g := by
  obtain ⟨v, _, ⟨T2, L2, k2, n2⟩, -, X2, ⟨Lc, hQ, l2, y2, z2⟩, st⟩ := Jvm.LawKit.callS X hx (y := y) hown (mvT hZ wl) (mvT hZ wst) (mvT hZ wi) (mvT hZ wc) hy (backOf (W := W) hM hZ wc wi hf hlo) hg hsize (argsL := argsL) (rest := rest) (lenOf hpd hlen) hstack hW hdg (fun _ _ => ⟨has, eT, hcl, hsl⟩)
  dsimp only [Pt.U, Pt.locs, Pt.cells, Pt.slots] at X2 l2 y2 z2 st hQ
  subst l2 y2 z2
  exact own_step st (cont v T2 Lc X2 hQ)
theorem own_callV (X : Stand p l e R s m args below meth c T locs cells slots) (hx : p.tables.exec = Jvm.exec) (hZ : Z.Warmed39 s.vm) {own C : String} {index : Nat} {y z : MethodName} {bytes : ByteArray} {maxL : Nat} {ret : Option FieldType}
    (hown : s.vm.findClass own = some m.cls) (wl : (Jvm.Cond.methodLink own index y).before a0 Z = true) (wd : (Jvm.Cond.declares y).before a0 Z = true) (wf : (Jvm.Cond.selects y.cls y y).before a0 Z = true) (ws : (Jvm.Cond.selects C y z).before a0 Z = true) (wm : (Jvm.Cond.instanceMethod z).before a0 Z = true) (wi : (Jvm.Cond.initialized z.cls).before a0 Z = true) (wc : (Jvm.Cond.code z bytes maxL ret).before a0 Z = true)
    (hy : y.cls ≠ "java/lang/invoke/MethodHandle" ∧ y.cls ≠ "java/lang/invoke/VarHandle") {rm : Room} {as' : Array Value} {Qc : Option Value → Heap → List Loc → Prop} (hM : own_Met l z bytes maxL ret [] rm as' Z h Qc) (eT : T.heap = h) {b : Addr} (hE : Exa Z h b C) (W : Nat)
    (hf : rm.frames + 1 ≤ R.frames) (hlo : W + (maxL + 11) + rm.locals ≤ R.locals) (hcl : cells + rm.cells ≤ R.cells) (hsl : slots + rm.slots ≤ R.slots)
    {g : JFrame} (hg : g.method = m) (hsize : g.locals.size = c.maxLocals) (argsL rest : List Value) {ps : List FieldType} {r : Option FieldType} (hpd : parseMethodDescriptor y.desc = some ⟨ps, r⟩) (hlen : argsL.length = ps.length) (has : (Value.ref b :: argsL).toArray = as')
    (hstack : g.stack = argsL.reverse ++ .ref b :: rest) (hW : 2 * g.monitorRoom + (rest.map fun v => v.category).sum ≤ W) (hdg : decode c.code g.pc = .ok (.invokevirtual index, 3)) {F : State → Outcome → Prop}
    (cont : ∀ v T' L, Stand p l e R s m args below meth c T' (locs ++ L) (cells + rm.cells) (slots + rm.slots) → Qc v T'.heap L → own_Go p e below F T' { g with pc := g.pc + 3, stack := v.toList ++ rest }) : own_Go p e below F T g := by
  obtain ⟨cq, kq, q1, q2, q3⟩ := isOf hZ eT hE
  obtain ⟨v, _, ⟨T2, L2, k2, n2⟩, -, X2, ⟨Lc, hQ, l2, y2, z2⟩, st⟩ := X.virtualBack hx (y := y) (z := z) hown (mvT hZ wl) (mvT hZ wd) (notFace_of_selects (args := #[]) (mvT hZ wf)) (mvT hZ ws) (mvT hZ wm) hy (backOf (W := W) hM hZ wc wi hf hlo) q1 q3 hg hsize (Steps.refl _) (argsL := argsL) (rest := rest) (lenOf hpd hlen) hstack hW hdg (fun _ _ => ⟨has, eT, hcl, hsl⟩)
  dsimp only [Pt.U, Pt.locs, Pt.cells, Pt.slots] at X2 l2 y2 z2 st hQ
  subst l2 y2 z2
  exact own_step (fun _ k => st.trans k) (cont v T2 Lc X2 hQ)
theorem own_callC (X : Stand p l e R s m args below meth c T locs cells slots) (hx : p.tables.exec = Jvm.exec) (hZ : Z.Warmed39 s.vm) {own : String} {index : Nat} {y : MethodName} {bytes : ByteArray} {maxL : Nat} (hy1 : y.name = "<init>")
    (hown : s.vm.findClass own = some m.cls) (wl : (Jvm.Cond.methodLink own index y).before a0 Z = true) (wm : (Jvm.Cond.instanceMethod y).before a0 Z = true) (wi : (Jvm.Cond.initialized y.cls).before a0 Z = true) (wc : (Jvm.Cond.code y bytes maxL none).before a0 Z = true)
    (hy : y.cls ≠ "java/lang/invoke/MethodHandle" ∧ y.cls ≠ "java/lang/invoke/VarHandle") {rm : Room} {as' : Array Value} {Qc : Option Value → Heap → List Loc → Prop} (hM : own_Met l y bytes maxL none [] rm as' Z h Qc) (eT : T.heap = h) {b : Addr} (W : Nat)
    (hf : rm.frames + 1 ≤ R.frames) (hlo : W + (maxL + 11) + rm.locals ≤ R.locals) (hcl : cells + rm.cells ≤ R.cells) (hsl : slots + rm.slots ≤ R.slots)
    {g : JFrame} (hg : g.method = m) (hsize : g.locals.size = c.maxLocals) (argsL rest : List Value) {ps : List FieldType} {r : Option FieldType} (hpd : parseMethodDescriptor y.desc = some ⟨ps, r⟩) (hlen : argsL.length = ps.length) (has : (Value.ref b :: argsL).toArray = as')
    (hstack : g.stack = argsL.reverse ++ .ref b :: rest) (hW : 2 * g.monitorRoom + (rest.map fun v => v.category).sum ≤ W) (hdg : decode c.code g.pc = .ok (.invokespecial index, 3)) {F : State → Outcome → Prop}
    (cont : ∀ v T' L, Stand p l e R s m args below meth c T' (locs ++ L) (cells + rm.cells) (slots + rm.slots) → Qc v T'.heap L → own_Go p e below F T' { g with pc := g.pc + 3, stack := v.toList ++ rest }) : own_Go p e below F T g := by
  obtain ⟨v, _, ⟨T2, L2, k2, n2⟩, -, X2, ⟨Lc, hQ, l2, y2, z2⟩, st⟩ := X.specialBack hx (y := y) hy1 hown (mvT hZ wl) (mvT hZ wm) (mvT hZ wc) hy (backOf (W := W) hM hZ wc wi hf hlo) hg hsize (Steps.refl _) (a := b) (argsL := argsL) (rest := rest) (lenOf hpd hlen) hstack hW hdg (fun _ _ => ⟨has, eT, hcl, hsl⟩)
  dsimp only [Pt.U, Pt.locs, Pt.cells, Pt.slots] at X2 l2 y2 z2 st hQ
  subst l2 y2 z2
  exact own_step (fun _ k => st.trans k) (cont v T2 Lc X2 hQ)
theorem own_callSW {vm0 : Vm} {EL : List (String × Nat)} {k0 : Nat} (X : Stand p l e R (s.setVm vm0) m args below meth c T locs cells slots) (hx : p.tables.exec = Jvm.exec) (hZ : Z.Warmed39 vm0) {own : String} {index : Nat} {y : MethodName} {bytes : ByteArray} {maxL : Nat} {ret : Option FieldType}
    (hown : vm0.findClass own = some m.cls) (wl : (Jvm.Cond.methodLink own index y).before a0 Z = true) (wst : (Jvm.Cond.static y).before a0 Z = true) (wi : (Jvm.Cond.initialized y.cls).before a0 Z = true) (wc : (Jvm.Cond.code y bytes maxL ret).before a0 Z = true)
    (hy : y.cls ≠ "java/lang/invoke/MethodHandle" ∧ y.cls ≠ "java/lang/invoke/VarHandle") {rm : Room} {as' : Array Value} {Qc : Option Value → Heap → List Loc → Prop} (hM : own_MetW l y bytes maxL ret [] rm as' Z EL h Qc) (eT : T.heap = h) (hEL : EW Z a0 EL) (H : CHv Z EL vm0 h) (hS : s.Since vm0 k0) (hk : k0 ≤ h.size) (W : Nat)
    (hf : rm.frames + 1 ≤ R.frames) (hlo : W + (maxL + 11) + rm.locals ≤ R.locals) (hcl : cells + rm.cells ≤ R.cells) (hsl : slots + rm.slots ≤ R.slots)
    {g : JFrame} (hg : g.method = m) (hsize : g.locals.size = c.maxLocals) (argsL rest : List Value) {ps : List FieldType} {r : Option FieldType} (hpd : parseMethodDescriptor y.desc = some ⟨ps, r⟩) (hlen : argsL.length = ps.length) (has : argsL.toArray = as')
    (hstack : g.stack = argsL.reverse ++ rest) (hW : 2 * g.monitorRoom + (rest.map fun v => v.category).sum ≤ W) (hdg : decode c.code g.pc = .ok (.invokestatic index, 3)) {F : State → Outcome → Prop}
    (cont : ∀ v T' L, Stand p l e R (s.setVm T'.vm) m args below meth c T' (locs ++ L) (cells + rm.cells) (slots + rm.slots) → Qc v T'.heap L → CHr Z EL vm0 h T'.vm T'.heap → s.Since T'.vm T'.heap.size → Z.Warmed39 T'.vm → T'.vm.findClass own = some m.cls → own_Go p e below F T' { g with pc := g.pc + 3, stack := v.toList ++ rest }) : own_Go p e below F T g := by
  have hZ' : Z.Warmed39 (s.setVm vm0).vm := hZ
  obtain ⟨v, _, ⟨T2, L2, k2, n2⟩, -, X2, hS2, hg2, ⟨Lc, hQ, l2, y2, z2, hC⟩, st⟩ := callSS X hx (y := y) hown (mvT hZ' wl) (mvT hZ' wst) (mvT hZ' wi) (mvT hZ' wc) hy (backOfSH (W := W) hM hZ wc wi hf hlo hEL H) hg hsize (argsL := argsL) (rest := rest) (lenOf hpd hlen) hstack hW hdg (fun _ _ => ⟨has, eT, hcl, hsl⟩)
  dsimp only [Pt.U, Pt.locs, Pt.cells, Pt.slots] at X2 l2 y2 z2 st hQ hS2 hg2 hC
  subst l2 y2 z2
  obtain ⟨X3, hS3, hZ3, hown3⟩ := rebS hS hk X2 hS2 (by rw [← eT]; exact hg2) hZ' hown
  exact own_step (fun _ k => st.trans k) (cont v T2 Lc X3 hQ hC hS3 hZ3 hown3)
theorem own_callCW {vm0 : Vm} {EL : List (String × Nat)} {k0 : Nat} (X : Stand p l e R (s.setVm vm0) m args below meth c T locs cells slots) (hx : p.tables.exec = Jvm.exec) (hZ : Z.Warmed39 vm0) {own : String} {index : Nat} {y : MethodName} {bytes : ByteArray} {maxL : Nat} (hy1 : y.name = "<init>")
    (hown : vm0.findClass own = some m.cls) (wl : (Jvm.Cond.methodLink own index y).before a0 Z = true) (wm : (Jvm.Cond.instanceMethod y).before a0 Z = true) (wi : (Jvm.Cond.initialized y.cls).before a0 Z = true) (wc : (Jvm.Cond.code y bytes maxL none).before a0 Z = true)
    (hy : y.cls ≠ "java/lang/invoke/MethodHandle" ∧ y.cls ≠ "java/lang/invoke/VarHandle") {rm : Room} {as' : Array Value} {Qc : Option Value → Heap → List Loc → Prop} (hM : own_MetW l y bytes maxL none [] rm as' Z EL h Qc) (eT : T.heap = h) (hEL : EW Z a0 EL) (H : CHv Z EL vm0 h) (hS : s.Since vm0 k0) (hk : k0 ≤ h.size) {b : Addr} (W : Nat)
    (hf : rm.frames + 1 ≤ R.frames) (hlo : W + (maxL + 11) + rm.locals ≤ R.locals) (hcl : cells + rm.cells ≤ R.cells) (hsl : slots + rm.slots ≤ R.slots)
    {g : JFrame} (hg : g.method = m) (hsize : g.locals.size = c.maxLocals) (argsL rest : List Value) {ps : List FieldType} {r : Option FieldType} (hpd : parseMethodDescriptor y.desc = some ⟨ps, r⟩) (hlen : argsL.length = ps.length) (has : (Value.ref b :: argsL).toArray = as')
    (hstack : g.stack = argsL.reverse ++ .ref b :: rest) (hW : 2 * g.monitorRoom + (rest.map fun v => v.category).sum ≤ W) (hdg : decode c.code g.pc = .ok (.invokespecial index, 3)) {F : State → Outcome → Prop}
    (cont : ∀ v T' L, Stand p l e R (s.setVm T'.vm) m args below meth c T' (locs ++ L) (cells + rm.cells) (slots + rm.slots) → Qc v T'.heap L → CHr Z EL vm0 h T'.vm T'.heap → s.Since T'.vm T'.heap.size → Z.Warmed39 T'.vm → T'.vm.findClass own = some m.cls → own_Go p e below F T' { g with pc := g.pc + 3, stack := v.toList ++ rest }) : own_Go p e below F T g := by
  have hZ' : Z.Warmed39 (s.setVm vm0).vm := hZ
  obtain ⟨v, _, ⟨T2, L2, k2, n2⟩, -, X2, hS2, hg2, ⟨Lc, hQ, l2, y2, z2, hC⟩, st⟩ := X.specialBackS hx (y := y) hy1 hown (mvT hZ' wl) (mvT hZ' wm) (mvT hZ' wc) hy (backOfSH (W := W) hM hZ wc wi hf hlo hEL H) hg hsize (Steps.refl _) (a := b) (argsL := argsL) (rest := rest) (lenOf hpd hlen) hstack hW hdg (fun _ _ => ⟨has, eT, hcl, hsl⟩)
  dsimp only [Pt.U, Pt.locs, Pt.cells, Pt.slots] at X2 l2 y2 z2 st hQ hS2 hg2 hC
  subst l2 y2 z2
  obtain ⟨X3, hS3, hZ3, hown3⟩ := rebS hS hk X2 hS2 (by rw [← eT]; exact hg2) hZ' hown
  exact own_step (fun _ k => st.trans k) (cont v T2 Lc X3 hQ hC hS3 hZ3 hown3)
theorem own_callVW {vm0 : Vm} {EL : List (String × Nat)} {k0 : Nat} (X : Stand p l e R (s.setVm vm0) m args below meth c T locs cells slots) (hx : p.tables.exec = Jvm.exec) (hZ : Z.Warmed39 vm0) {own C : String} {index : Nat} {y z : MethodName} {bytes : ByteArray} {maxL : Nat} {ret : Option FieldType}
    (hown : vm0.findClass own = some m.cls) (wl : (Jvm.Cond.methodLink own index y).before a0 Z = true) (wd : (Jvm.Cond.declares y).before a0 Z = true) (wf : (Jvm.Cond.selects y.cls y y).before a0 Z = true) (ws : (Jvm.Cond.selects C y z).before a0 Z = true) (wm : (Jvm.Cond.instanceMethod z).before a0 Z = true) (wi : (Jvm.Cond.initialized z.cls).before a0 Z = true) (wc : (Jvm.Cond.code z bytes maxL ret).before a0 Z = true)
    (hy : y.cls ≠ "java/lang/invoke/MethodHandle" ∧ y.cls ≠ "java/lang/invoke/VarHandle") {rm : Room} {as' : Array Value} {Qc : Option Value → Heap → List Loc → Prop} (hM : own_MetW l z bytes maxL ret [] rm as' Z EL h Qc) (eT : T.heap = h) (hEL : EW Z a0 EL) (H : CHv Z EL vm0 h) (hS : s.Since vm0 k0) (hk : k0 ≤ h.size) {b : Addr} (hE : Exa Z h b C) (W : Nat)
    (hf : rm.frames + 1 ≤ R.frames) (hlo : W + (maxL + 11) + rm.locals ≤ R.locals) (hcl : cells + rm.cells ≤ R.cells) (hsl : slots + rm.slots ≤ R.slots)
    {g : JFrame} (hg : g.method = m) (hsize : g.locals.size = c.maxLocals) (argsL rest : List Value) {ps : List FieldType} {r : Option FieldType} (hpd : parseMethodDescriptor y.desc = some ⟨ps, r⟩) (hlen : argsL.length = ps.length) (has : (Value.ref b :: argsL).toArray = as')
    (hstack : g.stack = argsL.reverse ++ .ref b :: rest) (hW : 2 * g.monitorRoom + (rest.map fun v => v.category).sum ≤ W) (hdg : decode c.code g.pc = .ok (.invokevirtual index, 3)) {F : State → Outcome → Prop}
    (cont : ∀ v T' L, Stand p l e R (s.setVm T'.vm) m args below meth c T' (locs ++ L) (cells + rm.cells) (slots + rm.slots) → Qc v T'.heap L → CHr Z EL vm0 h T'.vm T'.heap → s.Since T'.vm T'.heap.size → Z.Warmed39 T'.vm → T'.vm.findClass own = some m.cls → own_Go p e below F T' { g with pc := g.pc + 3, stack := v.toList ++ rest }) : own_Go p e below F T g := by
  have hZ' : Z.Warmed39 (s.setVm vm0).vm := hZ
  obtain ⟨cq, kq, q1, q2, q3⟩ := isOf hZ' eT hE
  obtain ⟨v, _, ⟨T2, L2, k2, n2⟩, -, X2, hS2, hg2, ⟨Lc, hQ, l2, y2, z2, hC⟩, st⟩ := X.virtualBackS hx (y := y) (z := z) hown (mvT hZ' wl) (mvT hZ' wd) (notFace_of_selects (args := #[]) (mvT hZ' wf)) (mvT hZ' ws) (mvT hZ' wm) hy (backOfSH (W := W) hM hZ wc wi hf hlo hEL H) q1 q3 hg hsize (Steps.refl _) (argsL := argsL) (rest := rest) (lenOf hpd hlen) hstack hW hdg (fun _ _ => ⟨has, eT, hcl, hsl⟩)
  dsimp only [Pt.U, Pt.locs, Pt.cells, Pt.slots] at X2 l2 y2 z2 st hQ hS2 hg2 hC
  subst l2 y2 z2
  obtain ⟨X3, hS3, hZ3, hown3⟩ := rebS hS hk X2 hS2 (by rw [← eT]; exact hg2) hZ' hown
  exact own_step (fun _ k => st.trans k) (cont v T2 Lc X3 hQ hC hS3 hZ3 hown3)
/-- a String whose value is still null is no booked one -/
theorem own_safe {EL : List (String × Nat)} {vm : Vm} {a : Addr} (hal : Z.vm.Alike vm) (E : Exa Z h a "java/lang/String") (F : Fld Z h a "java/lang/String" "value" "[B" .null) : Safe Z EL vm h a := fun B => by
  obtain ⟨p0, hp, u, a', hb, q, rfl, S, hy⟩ := B
  obtain ⟨cS, ⟨⟨s1, s2, s3, ⟨cv, kv, iv, s4, s4'⟩, ⟨cc, kc, ic, s5, s5'⟩, s6, s7, s8, s9, s10, s11, s12, s13, s14, s15, s16⟩, hfS, hcS⟩, ⟨kS, k1, k2, k3⟩, hB, hbyt⟩ := S
  rcases hy with rfl | rfl
  · obtain ⟨kv', z4⟩ := ff_back (U := Wst Z vm h) hal s4
    obtain ⟨cell, cf, k, i, f, h1, h2, h3, h4, h5, h6, h7⟩ := F
    cases h2.symm.trans z4
    cases h1.symm.trans s1
    cases h7.symm.trans s8
  · obtain ⟨cell, k, h1, h2, h3, h4, -⟩ := E
    cases h1.symm.trans s10
    have e1 : vm.findClass "[B" = some q.SA.cls := hB
    rw [hal.findClass] at e1
    exact ids_ne h2 e1 (by decide) rfl
/-! arrays by their lists -/
variable {a b : Addr} {kA : ClassId} {ty : FieldType} {z : Int32} {vs : List Value} {dv : Value}
theorem own_newA (X : Stand p l e R s m args below meth c T locs cells slots) (hx : p.tables.exec = Jvm.exec) (hZ : Z.Warmed39 s.vm) {aty : ArrayType} (w : (Jvm.Cond.arrayClass (newarray.typeOf aty)).before a0 Z = true) (eT : T.heap = h) {g : JFrame} (hg : g.method = m) (hd : decode c.code g.pc = .ok (.newarray aty, 2)) {n : Int32} {rest : List Value} (hs : g.stack = .int n :: rest)
    (hn : ¬ n < 0) {cap : Nat} (hcap : n.toNatClampNeg ≤ cap) (hb : cap * 8 ≤ 536870912) (hc : cells + 1 ≤ R.cells) (hl : slots + cap ≤ R.slots) :
    ∃ T' h' cA b, b = h.size ∧ Stand p l e R s m args below meth c T' locs (cells + 1) (slots + cap) ∧ T'.heap = h' ∧ Ext h h' ∧ Arv Z h' b cA (newarray.typeOf aty) n (List.replicate cap (defaultValue (newarray.typeOf aty))) (defaultValue (newarray.typeOf aty)) ∧
      ∀ target, Steps p.tables e below (T'.setTop { g with pc := g.pc + 2, stack := .ref b :: rest }) target → Steps p.tables e below (T.setTop g) target := by
  obtain ⟨T', h', cA, X', e', E, A, st⟩ := newP X hx hZ w eT hg hd hs hn hcap hb hc hl
  exact ⟨T', h', cA, _, rfl, X', e', E, (Arv.new A hn).pad (pad_rep [] _ cap), st⟩
theorem own_stB (X : Stand p l e R s m args below meth c T locs cells slots) (hx : p.tables.exec = Jvm.exec) (hZ : Z.Warmed39 s.vm) (eT : T.heap = h) (V : Arv Z h a kA .byte z vs dv) {j x : Int32} (hj : ¬ j < 0 ∧ j < z) (i : Nat) (hi : j.toNatClampNeg = i) (hl : i < vs.length) {g : JFrame} (hg : g.method = m) {rest : List Value} (hs : g.stack = .int x :: .int j :: .ref a :: rest) (hd : decode c.code g.pc = .ok (.bastore, 1)) :
    ∃ T' h' L, Stand p l e R s m args below meth c T' (locs ++ [⟨a, L⟩]) cells slots ∧ T'.heap = h' ∧ Wr h h' a L (.int x.toInt8.toInt32) ∧ Arv Z h' a kA .byte z (vs.set i (.int x.toInt8.toInt32)) dv ∧ ∀ target, Steps p.tables e below (T'.setTop { g with pc := g.pc + 1, stack := rest }) target → Steps p.tables e below (T.setTop g) target := by
  obtain ⟨cl, Ar, q, S, N, H, G⟩ := V
  obtain ⟨T', h', X', e', W, st⟩ := stB X hx hZ eT Ar (inb_of S hj) hg hs hd
  exact ⟨T', h', _, X', e', W, Arv.set Ar q S N H G (fits_nar_byte _) W i hi hl, st⟩
theorem own_stZ (X : Stand p l e R s m args below meth c T locs cells slots) (hx : p.tables.exec = Jvm.exec) (hZ : Z.Warmed39 s.vm) (eT : T.heap = h) (V : Arv Z h a kA .boolean z vs dv) {j x : Int32} (hj : ¬ j < 0 ∧ j < z) (i : Nat) (hi : j.toNatClampNeg = i) (hl : i < vs.length) {g : JFrame} (hg : g.method = m) {rest : List Value} (hs : g.stack = .int x :: .int j :: .ref a :: rest) (hd : decode c.code g.pc = .ok (.bastore, 1)) :
    ∃ T' h' L, Stand p l e R s m args below meth c T' (locs ++ [⟨a, L⟩]) cells slots ∧ T'.heap = h' ∧ Wr h h' a L (.int (nar .boolean x)) ∧ Arv Z h' a kA .boolean z (vs.set i (.int (nar .boolean x))) dv ∧ ∀ target, Steps p.tables e below (T'.setTop { g with pc := g.pc + 1, stack := rest }) target → Steps p.tables e below (T.setTop g) target := by
  obtain ⟨cl, Ar, q, S, N, H, G⟩ := V
  obtain ⟨T', h', X', e', W, st⟩ := stZ X hx hZ eT Ar (inb_of S hj) hg hs hd
  exact ⟨T', h', _, X', e', W, Arv.set Ar q S N H G (fits_nar_bool _) W i hi hl, st⟩
theorem own_stC (X : Stand p l e R s m args below meth c T locs cells slots) (hx : p.tables.exec = Jvm.exec) (hZ : Z.Warmed39 s.vm) (eT : T.heap = h) (V : Arv Z h a kA .char z vs dv) {j x : Int32} (hj : ¬ j < 0 ∧ j < z) (i : Nat) (hi : j.toNatClampNeg = i) (hl : i < vs.length) {g : JFrame} (hg : g.method = m) {rest : List Value} (hs : g.stack = .int x :: .int j :: .ref a :: rest) (hd : decode c.code g.pc = .ok (.castore, 1)) :
    ∃ T' h' L, Stand p l e R s m args below meth c T' (locs ++ [⟨a, L⟩]) cells slots ∧ T'.heap = h' ∧ Wr h h' a L (.int (nar .char x)) ∧ Arv Z h' a kA .char z (vs.set i (.int (nar .char x))) dv ∧ ∀ target, Steps p.tables e below (T'.setTop { g with pc := g.pc + 1, stack := rest }) target → Steps p.tables e below (T.setTop g) target := by
  obtain ⟨cl, Ar, q, S, N, H, G⟩ := V
  obtain ⟨T', h', X', e', W, st⟩ := stC X hx hZ eT Ar (inb_of S hj) hg hs hd
  exact ⟨T', h', _, X', e', W, Arv.set Ar q S N H G (fits_nar_char _) W i hi hl, st⟩
theorem own_stI (X : Stand p l e R s m args below meth c T locs cells slots) (hx : p.tables.exec = Jvm.exec) (hZ : Z.Warmed39 s.vm) (eT : T.heap = h) (V : Arv Z h a kA .int z vs dv) {j x : Int32} (hj : ¬ j < 0 ∧ j < z) (i : Nat) (hi : j.toNatClampNeg = i) (hl : i < vs.length) {g : JFrame} (hg : g.method = m) {rest : List Value} (hs : g.stack = .int x :: .int j :: .ref a :: rest) (hd : decode c.code g.pc = .ok (.iastore, 1)) :
    ∃ T' h' L, Stand p l e R s m args below meth c T' (locs ++ [⟨a, L⟩]) cells slots ∧ T'.heap = h' ∧ Wr h h' a L (.int x) ∧ Arv Z h' a kA .int z (vs.set i (.int x)) dv ∧ ∀ target, Steps p.tables e below (T'.setTop { g with pc := g.pc + 1, stack := rest }) target → Steps p.tables e below (T.setTop g) target := by
  obtain ⟨cl, Ar, q, S, N, H, G⟩ := V
  obtain ⟨T', h', X', e', W, st⟩ := stI X hx hZ eT Ar (inb_of S hj) hg hs hd
  exact ⟨T', h', _, X', e', W, Arv.set Ar q S N H G rfl W i hi hl, st⟩
theorem own_stJ (X : Stand p l e R s m args below meth c T locs cells slots) (hx : p.tables.exec = Jvm.exec) (hZ : Z.Warmed39 s.vm) (eT : T.heap = h) (V : Arv Z h a kA .long z vs dv) {j : Int32} {x : Int64} (hj : ¬ j < 0 ∧ j < z) (i : Nat) (hi : j.toNatClampNeg = i) (hl : i < vs.length) {g : JFrame} (hg : g.method = m) {rest : List Value} (hs : g.stack = .long x :: .int j :: .ref a :: rest) (hd : decode c.code g.pc = .ok (.lastore, 1)) :
    ∃ T' h' L, Stand p l e R s m args below meth c T' (locs ++ [⟨a, L⟩]) cells slots ∧ T'.heap = h' ∧ Wr h h' a L (.long x) ∧ Arv Z h' a kA .long z (vs.set i (.long x)) dv ∧ ∀ target, Steps p.tables e below (T'.setTop { g with pc := g.pc + 1, stack := rest }) target → Steps p.tables e below (T.setTop g) target := by
  obtain ⟨cl, Ar, q, S, N, H, G⟩ := V
  obtain ⟨T', h', X', e', W, st⟩ := stJ X hx hZ eT Ar (inb_of S hj) hg hs hd
  exact ⟨T', h', _, X', e', W, Arv.set Ar q S N H G rfl W i hi hl, st⟩
theorem own_ldB (X : Stand p l e R s m args below meth c T locs cells slots) (hx : p.tables.exec = Jvm.exec) (hZ : Z.Warmed39 s.vm) (eT : T.heap = h) (V : Arv Z h a kA .byte z vs dv) {j : Int32} {v : Value} (hj : ¬ j < 0 ∧ j < z) (hv : vs.getD j.toNatClampNeg dv = v) {g : JFrame} (hg : g.method = m) {rest : List Value} (hs : g.stack = .int j :: .ref a :: rest) (hd : decode c.code g.pc = .ok (.baload, 1)) :
    ∀ t, Steps p.tables e below (T.setTop { g with pc := g.pc + 1, stack := v :: rest }) t → Steps p.tables e below (T.setTop g) t := by
  obtain ⟨cl, Ar, q, S, N, H, G⟩ := V
  exact fun t k => X.baloadBytes hx (by rw [eT]; exact Ar.1) (State.isArrayOf_alike hZ.alike Ar.2.1) Ar.2.2 (inb_of S hj) (Has.at H (inb_of S hj) hv) hg hs hd _ k
theorem own_ldZ (X : Stand p l e R s m args below meth c T locs cells slots) (hx : p.tables.exec = Jvm.exec) (hZ : Z.Warmed39 s.vm) (eT : T.heap = h) (V : Arv Z h a kA .boolean z vs dv) {j : Int32} {v : Value} (hj : ¬ j < 0 ∧ j < z) (hv : vs.getD j.toNatClampNeg dv = v) {g : JFrame} (hg : g.method = m) {rest : List Value} (hs : g.stack = .int j :: .ref a :: rest) (hd : decode c.code g.pc = .ok (.baload, 1)) :
    ∀ t, Steps p.tables e below (T.setTop { g with pc := g.pc + 1, stack := v :: rest }) t → Steps p.tables e below (T.setTop g) t := by
  obtain ⟨cl, Ar, q, S, N, H, G⟩ := V
  exact fun t k => X.baloadBooleans hx (by rw [eT]; exact Ar.1) (State.isArrayOf_alike hZ.alike Ar.2.1) Ar.2.2 (inb_of S hj) (Has.at H (inb_of S hj) hv) hg hs hd _ k
theorem own_ldC (X : Stand p l e R s m args below meth c T locs cells slots) (hx : p.tables.exec = Jvm.exec) (hZ : Z.Warmed39 s.vm) (eT : T.heap = h) (V : Arv Z h a kA .char z vs dv) {j : Int32} {v : Value} (hj : ¬ j < 0 ∧ j < z) (hv : vs.getD j.toNatClampNeg dv = v) {g : JFrame} (hg : g.method = m) {rest : List Value} (hs : g.stack = .int j :: .ref a :: rest) (hd : decode c.code g.pc = .ok (.caload, 1)) :
    ∀ t, Steps p.tables e below (T.setTop { g with pc := g.pc + 1, stack := v :: rest }) t → Steps p.tables e below (T.setTop g) t := by
  obtain ⟨cl, Ar, q, S, N, H, G⟩ := V
  exact fun t k => X.caload hx (by rw [eT]; exact Ar.1) (State.isArrayOf_alike hZ.alike Ar.2.1) Ar.2.2 (inb_of S hj) (Has.at H (inb_of S hj) hv) hg hs hd _ k
theorem own_ldI (X : Stand p l e R s m args below meth c T locs cells slots) (hx : p.tables.exec = Jvm.exec) (hZ : Z.Warmed39 s.vm) (eT : T.heap = h) (V : Arv Z h a kA .int z vs dv) {j : Int32} {v : Value} (hj : ¬ j < 0 ∧ j < z) (hv : vs.getD j.toNatClampNeg dv = v) {g : JFrame} (hg : g.method = m) {rest : List Value} (hs : g.stack = .int j :: .ref a :: rest) (hd : decode c.code g.pc = .ok (.iaload, 1)) :
    ∀ t, Steps p.tables e below (T.setTop { g with pc := g.pc + 1, stack := v :: rest }) t → Steps p.tables e below (T.setTop g) t := by
  obtain ⟨cl, Ar, q, S, N, H, G⟩ := V
  exact fun t k => X.iaload hx (by rw [eT]; exact Ar.1) (State.isArrayOf_alike hZ.alike Ar.2.1) Ar.2.2 (inb_of S hj) (Has.at H (inb_of S hj) hv) hg hs hd _ k
theorem own_ldJ (X : Stand p l e R s m args below meth c T locs cells slots) (hx : p.tables.exec = Jvm.exec) (hZ : Z.Warmed39 s.vm) (eT : T.heap = h) (V : Arv Z h a kA .long z vs dv) {j : Int32} {v : Value} (hj : ¬ j < 0 ∧ j < z) (hv : vs.getD j.toNatClampNeg dv = v) {g : JFrame} (hg : g.method = m) {rest : List Value} (hs : g.stack = .int j :: .ref a :: rest) (hd : decode c.code g.pc = .ok (.laload, 1)) :
    ∀ t, Steps p.tables e below (T.setTop { g with pc := g.pc + 1, stack := v :: rest }) t → Steps p.tables e below (T.setTop g) t := by
  obtain ⟨cl, Ar, q, S, N, H, G⟩ := V
  exact fun t k => X.laload hx (by rw [eT]; exact Ar.1) (State.isArrayOf_alike hZ.alike Ar.2.1) Ar.2.2 (inb_of S hj) (Has.at H (inb_of S hj) hv) hg hs hd _ k
theorem own_ldA (X : Stand p l e R s m args below meth c T locs cells slots) (hx : p.tables.exec = Jvm.exec) (hZ : Z.Warmed39 s.vm) (eT : T.heap = h) (V : Arv Z h a kA ty z vs dv) (hty : ty.isReference = true) {j : Int32} {v : Value} (hj : ¬ j < 0 ∧ j < z) (hv : vs.getD j.toNatClampNeg dv = v) {g : JFrame} (hg : g.method = m) {rest : List Value} (hs : g.stack = .int j :: .ref a :: rest) (hd : decode c.code g.pc = .ok (.aaload, 1)) :
    ∀ t, Steps p.tables e below (T.setTop { g with pc := g.pc + 1, stack := v :: rest }) t → Steps p.tables e below (T.setTop g) t := by
  obtain ⟨cl, Ar, q, S, N, H, G⟩ := V
  exact fun t k => X.aaload hx (by rw [eT]; exact Ar.1) (State.isArrayOf_alike hZ.alike Ar.2.1) hty Ar.2.2 (inb_of S hj) (Has.at H (inb_of S hj) hv) hg hs hd _ k
theorem own_len (X : Stand p l e R s m args below meth c T locs cells slots) (hx : p.tables.exec = Jvm.exec) (hZ : Z.Warmed39 s.vm) (eT : T.heap = h) (V : Arv Z h a kA ty z vs dv) {g : JFrame} (hg : g.method = m) {rest : List Value} (hs : g.stack = .ref a :: rest) (hd : decode c.code g.pc = .ok (.arraylength, 1)) :
    ∀ t, Steps p.tables e below (T.setTop { g with pc := g.pc + 1, stack := .int z :: rest }) t → Steps p.tables e below (T.setTop g) t := by
  obtain ⟨cl, Ar, q, S, N, H, G⟩ := V
  refine fun t k => X.arraylength hx (by rw [eT]; exact Ar.1) (State.isArrayOf_alike hZ.alike Ar.2.1) hg hs hd _ ?_
  rw [len_of S N]; exact k
theorem own_newR (X : Stand p l e R s m args below meth c T locs cells slots) (hx : p.tables.exec = Jvm.exec) (hZ : Z.Warmed39 s.vm) {own C : String} {index : Nat} (hown : s.vm.findClass own = some m.cls) (w1 : (Jvm.Cond.classLink own index C).before a0 Z = true) (w2 : (Jvm.Cond.arrayOver (.object C)).before a0 Z = true)
    (eT : T.heap = h) {g : JFrame} (hg : g.method = m) (hd : decode c.code g.pc = .ok (.anewarray index, 3)) {n : Int32} {rest : List Value} (hs : g.stack = .int n :: rest) (hn : ¬ n < 0) {cap : Nat} (hcap : n.toNatClampNeg ≤ cap) (hb : cap * 8 ≤ 536870912) (hc : cells + 1 ≤ R.cells) (hl : slots + cap ≤ R.slots) :
    ∃ T' h' cA b, b = h.size ∧ Stand p l e R s m args below meth c T' locs (cells + 1) (slots + cap) ∧ T'.heap = h' ∧ Ext h h' ∧ Arv Z h' b cA (.object C) n (List.replicate cap .null) .null ∧ Ovr Z cA C ∧
      ∀ target, Steps p.tables e below (T'.setTop { g with pc := g.pc + 3, stack := .ref b :: rest }) target → Steps p.tables e below (T.setTop g) target := by
  obtain ⟨T', h', cA, X', e', E, A, O, st⟩ := newR X hx hZ hown w1 w2 eT hg hd hs hn hcap hb hc hl
  exact ⟨T', h', cA, _, rfl, X', e', E, (Arv.new A hn).pad (pad_rep [] _ cap), O, st⟩
theorem own_stA (X : Stand p l e R s m args below meth c T locs cells slots) (hx : p.tables.exec = Jvm.exec) (hZ : Z.Warmed39 s.vm) (eT : T.heap = h) {C : String} {y : Addr} (V : Arv Z h a kA (.object C) z vs dv) (O : Ovr Z kA C) (I : Ins Z h y C true) {j : Int32} (hj : ¬ j < 0 ∧ j < z) (i : Nat) (hi : j.toNatClampNeg = i) (hl : i < vs.length) {g : JFrame} (hg : g.method = m) {rest : List Value} (hs : g.stack = .ref y :: .int j :: .ref a :: rest) (hd : decode c.code g.pc = .ok (.aastore, 1)) :
    ∃ T' h' L, Stand p l e R s m args below meth c T' (locs ++ [⟨a, L⟩]) cells slots ∧ T'.heap = h' ∧ Wr h h' a L (.ref y) ∧ Arv Z h' a kA (.object C) z (vs.set i (.ref y)) dv ∧ ∀ target, Steps p.tables e below (T'.setTop { g with pc := g.pc + 1, stack := rest }) target → Steps p.tables e below (T.setTop g) target := by
  obtain ⟨cl, Ar, q, S, N, H, G⟩ := V
  obtain ⟨T', h', X', e', W, st⟩ := stR X hx hZ eT Ar (inb_of S hj) rfl (Sto.ofV Ar q O I) hg hs hd
  exact ⟨T', h', _, X', e', W, Arv.set Ar q S N H G rfl W i hi hl, st⟩
/-! what the case's words say of statics -/
theorem own_eqI {t : Term} {n : Int32} {args : Array Value} {s : State} (q : (Jvm.Cond.eq t (.int n)).value args s none s [] = some true) : t.eval args s none [] s = some (.int n) := by
  cases ht : t.eval args s none [] s with
  | none => simp [Jvm.Cond.value, ht] at q
  | some v => cases v <;> simp [Jvm.Cond.value, ht, Term.eval, Value.isRef] at q ⊢ <;> exact q
theorem own_eqJ {t : Term} {n : Int64} {args : Array Value} {s : State} (q : (Jvm.Cond.eq t (.long n)).value args s none s [] = some true) : t.eval args s none [] s = some (.long n) := by
  cases ht : t.eval args s none [] s with
  | none => simp [Jvm.Cond.value, ht] at q
  | some v => cases v <;> simp [Jvm.Cond.value, ht, Term.eval, Value.isRef] at q ⊢ <;> exact q
theorem own_eqR {t u : Term} {x : Addr} {args : Array Value} {s : State} (hu : u.eval args s none [] s = some (.ref x)) (q : (Jvm.Cond.eq t u).value args s none s [] = some true) : t.eval args s none [] s = some (.ref x) := by
  cases ht : t.eval args s none [] s with
  | none => simp [Jvm.Cond.value, ht] at q
  | some v => cases v <;> simp [Jvm.Cond.value, ht, hu, Value.isRef] at q ⊢ <;> exact q
theorem own_lenT {t : Term} {a : Addr} {cl : Cell} {ty : FieldType} {z : Int32} {args : Array Value} {s : State} (ht : t.eval args s none [] s = some (.ref a)) (A : Arr s s.heap a cl ty) (q : (Term.length t).eval args s none [] s = some (.int z)) : cl.slots.size < 2 ^ 31 ∧ cl.slots.size.toInt32 = z := by
  have ha : s.arrayAt? a = some cl := Arr.fin (Vm.Alike.refl _) A
  by_cases hl : cl.slots.size < 2 ^ 31
  · rw [len_f ht ha hl] at q; cases q; exact ⟨hl, rfl⟩
  · simp [Term.eval, ht, ha, hl] at q
end Own
end Jvm.RoadKit
namespace Jvm.Pilot.@@N@@
open Jvm Jvm.ClassFile Sem Op Lib Jvm.Free Jvm.Stand Jvm.LawKit Jvm.RoadKit Bundle Jvm.Pilot.@@N@@.Jvm.D
theorem own_leafI {x y : Int32} (q : y = x) : some (Value.int x) = some (.int y) := by rw [q]
theorem own_leafJ {x y : Int64} (q : y = x) : some (Value.long x) = some (.long y) := by rw [q]
theorem own_bb (x : Int32) : x.toInt8.toInt32.toInt8.toInt32 = x.toInt8.toInt32 := by
  have h1 := c_i2b x; have h2 := c_i2b x.toInt8.toInt32
  rw [← Int32.toInt_inj]; omega
theorem own_lt {x y : Int32} {n k : Nat} (hx : x.toInt = n) (hy : y.toInt = k) : x < y ↔ n < k := by rw [Int32.lt_iff_toInt_lt]; omega
theorem own_add {x y : Int32} {n k : Nat} (hx : x.toInt = n) (hy : y.toInt = k) (h : n + k < 2147483648) : (x + y).toInt = (n + k : Nat) := by
  have h1 := c_iadd x y; have h2 := rng32 (x + y); omega
theorem own_nn {x : Int32} {n : Nat} (hx : x.toInt = n) : ¬ x < 0 := by
  rw [Int32.lt_iff_toInt_lt]; have e0 : (0 : Int32).toInt = 0 := rfl; omega
theorem own_clamp {x : Int32} {n : Nat} (hx : x.toInt = n) : x.toNatClampNeg = n := by simp only [Int32.toNatClampNeg]; omega
theorem own_lit32 {x : Int32} {n : Nat} (h : x.toInt = n) : x = Int32.ofInt n := by
  rw [← Int32.toInt_inj, Int32.toInt_ofInt, h]
  have := x.toInt_lt
  have es : Int32.size = 4294967296 := rfl
  rw [Int.bmod_eq_of_le (by omega) (by omega)]
theorem own_getI (xs : List Int32) (d : Int32) : ∀ j : Nat, (xs.map Value.int).getD j (.int d) = .int (xs.getD j d) := by
  induction xs with
  | nil => intro j; rfl
  | cons y r ih => intro j; cases j with
    | zero => rfl
    | succ j => exact ih j
theorem own_shr0 (z : Int32) : z >>> ((0 : Int32) &&& 31) = z := by
  have h := c_ishr z (0 : Int32) 0 (by decide)
  rw [← Int32.toInt_inj, h]; simp
theorem own_ci (y : Int32) : ((y &&& (255 : Int32)).toUInt32.toUInt16.toUInt32.toInt32) = (y &&& (255 : Int32)) := by
  have h1 := c_and y (255 : Int32) (by decide)
  have h2 := c_i2c (y &&& (255 : Int32))
  have e : (255 : Int32).toInt = 255 := by decide
  rw [← Int32.toInt_inj]; omega
/-- the bytes of the first j chars, the rest 0 -/
def own_cp (cs : List Int32) (j : Nat) : List Int32 := (cs.take j).map (fun c => c.toInt8.toInt32) ++ List.replicate (cs.length - j) (0 : Int32)
theorem own_cp0 (cs : List Int32) : own_cp cs 0 = List.replicate cs.length (0 : Int32) := by simp [own_cp]
theorem own_cpN (cs : List Int32) : own_cp cs cs.length = cs.map (fun c => c.toInt8.toInt32) := by simp [own_cp]
theorem own_cpl (cs : List Int32) (j : Nat) (h : j ≤ cs.length) : (own_cp cs j).length = cs.length := by
  simp only [own_cp, List.length_append, List.length_map, List.length_take, List.length_replicate]; omega
theorem own_cpS (cs : List Int32) (j : Nat) (h : j < cs.length) : (own_cp cs j).set j ((cs.getD j (0 : Int32)).toInt8.toInt32) = own_cp cs (j + 1) := by
  unfold own_cp
  rw [List.set_append_right _ _ (by rw [List.length_map, List.length_take]; omega), show (List.map (fun c : Int32 => c.toInt8.toInt32) (List.take j cs)).length = j by rw [List.length_map, List.length_take]; omega, Nat.sub_self]
  rw [show cs.length - j = (cs.length - (j + 1)) + 1 by omega, List.replicate_succ, List.set_cons_zero, List.take_succ_eq_append_getElem h, List.map_append, List.append_assoc]
  have e : cs.getD j (0 : Int32) = cs[j] := by simp [h]
  rw [e]; rfl
theorem own_lat (cs : List Int32) (h : ∀ c ∈ cs, ¬ (255 : Int32) < c) : ∀ t, ¬ (255 : Int32) < cs.getD t (0 : Int32) := by
  induction cs with
  | nil => intro t; have e : ([] : List Int32).getD t (0 : Int32) = 0 := by simp
           rw [e]; decide
  | cons y r ih => intro t; cases t with
    | zero => exact h y (List.mem_cons_self ..)
    | succ t => exact ih (fun c hc => h c (List.mem_cons_of_mem _ hc)) t
theorem own_small {K : Nat} {x : Int32} (h0 : 0 ≤ x.toInt) (h1 : x.toInt < K) : ∃ n : Fin K, x = Int32.ofInt (n.1 : Int) := by
  refine ⟨⟨x.toInt.toNat, by omega⟩, ?_⟩
  have h2 : x.toInt = ((x.toInt.toNat : Nat) : Int) := by omega
  exact own_lit32 h2
theorem own_v256 (b : Int32) : ∃ n : Fin 256, (b &&& (255 : Int32)) = Int32.ofInt (n.1 : Int) := by
  have h := c_and b (255 : Int32) (by decide)
  have e : (255 : Int32).toInt = 255 := by decide
  exact own_small h.1 (by omega)
theorem own_b255 (a : Int32) : a.toInt8.toInt32 = (a &&& (255 : Int32)).toInt8.toInt32 := by
  have h1 := c_i2b a; have h2 := c_i2b (a &&& (255 : Int32))
  have h3 := c_mask a (255 : Int32) 8 (by decide) (by decide)
  rw [← Int32.toInt_inj]; omega
theorem own_four (x : Int32) : (x &&& (3 : Int32)) = (0 : Int32) ∨ (x &&& (3 : Int32)) = (1 : Int32) ∨ (x &&& (3 : Int32)) = (2 : Int32) ∨ (x &&& (3 : Int32)) = (3 : Int32) := by
  have h := c_and x (3 : Int32) (by decide)
  have e : (0 : Int32).toInt = 0 ∧ (1 : Int32).toInt = 1 ∧ (2 : Int32).toInt = 2 ∧ (3 : Int32).toInt = 3 := by decide
  simp only [← Int32.toInt_inj]; omega
theorem own_hel {t : Term} {args : Array Value} {s : State} {a : Addr} {cl : Cell} {ty : FieldType} {k : Int64} {G : Jvm.Cond} (hty : ty = .int ∨ ty = .boolean ∨ ty = .byte ∨ ty = .char ∨ ty = .short) (hf : Fit s) (ht : ∀ idx, t.eval args s none idx s = some (.ref a)) (A : Arr s s.heap a cl ty) (hl : cl.slots.size < 2 ^ 31) (h : (Jvm.Cond.all t (Jvm.Cond.or G (Jvm.Cond.eq (.op1 .i2l (.elem t (.index 0))) (.op2 .ladd (.op1 .i2l (.index 0)) (.long k))))).value args s none s [] = some true)
    (i : Nat) (hi : i < cl.slots.size) (hG : G.value args s none s [i] = some false) (y : Int32) (hy : y.toInt64 = (Nat.toInt32 i).toInt64 + k) : cl.slots[i]? = some (.int y) := by
  have ha : s.arrayAt? a = some cl := Arr.fin (Vm.Alike.refl _) A
  have q := Jvm.Cond.all_elim (ht []) ha h i hi
  have e1 : (Nat.toInt32 i).toNatClampNeg = i := by simp only [Int32.toNatClampNeg, len_toInt (Nat.lt_trans hi hl)]; rfl
  obtain ⟨v, hv, hfit⟩ := elem_fit (j := Nat.toInt32 i) hf A (idx_in hi hl)
  obtain ⟨x, rfl⟩ := fit_I hfit hty
  rw [e1] at hv
  have hx : (Term.elem t (.index 0)).eval args s none [i] s = some (.int x) := by
    rw [elem_f (j := Nat.toInt32 i) (ht [i]) (by simp [Term.eval]) ha (by have := idx_in hi hl; exact fun z => this (Or.inl z)), e1]; exact hv
  have q2 : (Jvm.Cond.eq (.op1 .i2l (.elem t (.index 0))) (.op2 .ladd (.op1 .i2l (.index 0)) (.long k))).value args s none s [i] = some true := by
    simpa [Jvm.Cond.value, hG] using q
  have q3 : x.toInt64 = (Nat.toInt32 i).toInt64 + k := by
    have a1 : (Term.op1 .i2l (.elem t (.index 0))).eval args s none [i] s = some (.long x.toInt64) := by rw [op1_f hx]; rfl
    have a2 : (Term.op2 .ladd (.op1 .i2l (.index 0)) (.long k)).eval args s none [i] s = some (.long ((Nat.toInt32 i).toInt64 + k)) := by
      rw [op2_f (x := .long (Nat.toInt32 i).toInt64) (y := .long k) (by rw [op1_f (x := .int (Nat.toInt32 i)) (by simp [Term.eval])]; rfl) rfl]; rfl
    exact gotT (eq_L a1 a2) q2
  have q4 : x = y := by
    rw [← Int32.toInt_inj]; have z1 := c_i2l x; have z2 := c_i2l y; rw [q3, ← hy] at z1; omega
  rw [hv, q4]
theorem d11_0 : decode jdk_42_method_152_code 0 = .ok (.getstatic 38, 3) := by decide +kernel
theorem d11_3 : decode jdk_42_method_152_code 3 = .ok (.ifCond .eq 10, 3) := by decide +kernel
theorem d11_6 : decode jdk_42_method_152_code 6 = .ok (.aload_n 0, 1) := by decide +kernel
theorem d11_7 : decode jdk_42_method_152_code 7 = .ok (.getfield 15, 3) := by decide +kernel
theorem d11_10 : decode jdk_42_method_152_code 10 = .ok (.goto 4, 3) := by decide +kernel
theorem d11_13 : decode jdk_42_method_152_code 13 = .ok (.iconst 1, 1) := by decide +kernel
theorem d11_14 : decode jdk_42_method_152_code 14 = .ok (.ireturn, 1) := by decide +kernel
theorem ef_11 (a1 : Addr) (m : MethodId) : entryFrame m #[(.ref a1)] 1 = mkF m 0 #[.val (.ref a1)] [] := by first | (simp [entryFrame, mkF, argsToLocals, Value.category]; done) | rfl
theorem pn_0 : plainName "java/lang/String" = true := by first | (simp [plainName, overriddenIn]; done) | decide +kernel
set_option maxRecDepth 65536 in
set_option maxHeartbeats 40000000 in
theorem rm11 (l : Launch) (Z : State) (a0 : Array Value) (hw : ∀ d ∈ tables_1, d.before a0 Z = true) (ws : List Jvm.Cond) (a1 : Addr) (cz : Int32) (h0 : Heap) (n0 : Nat) (Z0 : n0 ≤ h0.size) (O0 : Old Z n0 h0) (SC : Sta Z Z.heap "java/lang/String" "COMPACT_STRINGS" "Z" (.int cz)) (hcz : ¬ cz = (0 : Int32)) (FC_a1 : Fld Z h0 a1 "java/lang/String" "coder" "B" (.int (0 : Int32))) :
    own_Met l (⟨"java/lang/String", "coder", "()B"⟩ : MethodName) jdk_42_method_152_code 1 (some .byte) ws ({ frames := 0, cells := 0, slots := 0, locals := 0 } : Room) #[(.ref a1)] Z h0 (fun v h L => v = some (.int (0 : Int32)) ∧ Fr n0 L ∧ h = h0) := by
  refine own_body (plainFor_of_name pn_0) (ef_11 a1) ?_
  intro p e s m below meth c T0 X0 hx hby hml0 hret hlk hnm hown hZ e0
  have hml : c.maxLocals = 1 := hml0
  have N0 := Fr.nil n0
  obtain ⟨T1, X1, e1, st1⟩ := getS2 X0 hx hZ hown (host := "") (Or.inl (hw _ (List.mem_of_getElem? (i := 49) rfl))) Via.refl e0 (SC.ext O0.2) (g := (mkF m 0 #[.val (.ref a1)] [])) rfl (hb hby d11_0)
  refine own_step st1 ?_
  show own_Go _ _ _ _ T1 (mkF m 3 #[.val (.ref a1)] [(.int cz)])
  refine own_step (fun _ k => XS.ifNo X1.here hx rfl (hb hby d11_3) rfl ((if0 _ _).trans (feq hcz).1) k) ?_
  show own_Go _ _ _ _ T1 (mkF m 6 #[.val (.ref a1)] [])
  refine own_step (fun _ k => XS.aloadN X1.here hx rfl (hb hby d11_6) rfl rfl k) ?_
  show own_Go _ _ _ _ T1 (mkF m 7 #[.val (.ref a1)] [(.ref a1)])
  obtain ⟨T2, X2, e2, st2⟩ := getF X1 hx hZ hown (host := "") (Or.inl (hw _ (List.mem_of_getElem? (i := 29) rfl))) Via.refl e1 FC_a1 (g := (mkF m 7 #[.val (.ref a1)] [(.ref a1)])) rfl rfl (hb hby d11_7)
  refine own_step st2 ?_
  show own_Go _ _ _ _ T2 (mkF m 10 #[.val (.ref a1)] [(.int (0 : Int32))])
  refine own_step (fun _ k => XS.goto X2.here hx rfl (pc0 := 10) (pc' := 14) rfl (hb hby d11_10) (by decide) (by decide) k) ?_
  show own_Go _ _ _ _ T2 (mkF m 14 #[.val (.ref a1)] [(.int (0 : Int32))])
  exact own_retN X2 hx (t := .byte) hret (by simp) hlk (hb hby d11_14) rfl (own_N ⟨rfl, N0, e2⟩ (by decide) (by decide)) 
theorem d10_0 : decode jdk_42_method_54_code 0 = .ok (.aload_n 0, 1) := by decide +kernel
theorem d10_1 : decode jdk_42_method_54_code 1 = .ok (.getfield 9, 3) := by decide +kernel
theorem d10_4 : decode jdk_42_method_54_code 4 = .ok (.arraylength, 1) := by decide +kernel
theorem d10_5 : decode jdk_42_method_54_code 5 = .ok (.aload_n 0, 1) := by decide +kernel
theorem d10_6 : decode jdk_42_method_54_code 6 = .ok (.invokevirtual 335, 3) := by decide +kernel
theorem d10_9 : decode jdk_42_method_54_code 9 = .ok (.ishr, 1) := by decide +kernel
theorem d10_10 : decode jdk_42_method_54_code 10 = .ok (.ireturn, 1) := by decide +kernel
theorem ef_10 (a1 : Addr) (m : MethodId) : entryFrame m #[(.ref a1)] 1 = mkF m 0 #[.val (.ref a1)] [] := by first | (simp [entryFrame, mkF, argsToLocals, Value.category]; done) | rfl
theorem pd_0 : parseMethodDescriptor "()B" = some ⟨[], some .byte⟩ := by decide +kernel
set_option maxRecDepth 65536 in
set_option maxHeartbeats 40000000 in
theorem rm10 (l : Launch) (Z : State) (a0 : Array Value) (hw : ∀ d ∈ tables_1, d.before a0 Z = true) (ws : List Jvm.Cond) (a1 : Addr) (cz : Int32) (b : Addr) (kb : ClassId) (z : Int32) (vs : List Value) (h0 : Heap) (n0 : Nat) (Z0 : n0 ≤ h0.size) (O0 : Old Z n0 h0) (SC : Sta Z Z.heap "java/lang/String" "COMPACT_STRINGS" "Z" (.int cz)) (hcz : ¬ cz = (0 : Int32)) (E_a1 : Exa Z h0 a1 "java/lang/String") (FC_a1 : Fld Z h0 a1 "java/lang/String" "coder" "B" (.int (0 : Int32))) (FV_a1 : Fld Z h0 a1 "java/lang/String" "value" "[B" (.ref b)) (VB : Arv Z h0 b kb .byte z vs (.int (0 : Int32))) :
    own_Met l (⟨"java/lang/String", "length", "()I"⟩ : MethodName) jdk_42_method_54_code 1 (some .int) ws ({ frames := 1, cells := 0, slots := 0, locals := 13 } : Room) #[(.ref a1)] Z h0 (fun v h L => v = some (.int z) ∧ Fr n0 L ∧ h = h0) := by
  refine own_body (plainFor_of_name pn_0) (ef_10 a1) ?_
  intro p e s m below meth c T0 X0 hx hby hml0 hret hlk hnm hown hZ e0
  have hml : c.maxLocals = 1 := hml0
  have N0 := Fr.nil n0
  refine own_step (fun _ k => XS.aloadN X0.here hx rfl (hb hby d10_0) rfl rfl k) ?_
  show own_Go _ _ _ _ T0 (mkF m 1 #[.val (.ref a1)] [(.ref a1)])
  obtain ⟨T1, X1, e1, st1⟩ := getF X0 hx hZ hown (host := "") (Or.inl (hw _ (List.mem_of_getElem? (i := 28) rfl))) Via.refl e0 FV_a1 (g := (mkF m 1 #[.val (.ref a1)] [(.ref a1)])) rfl rfl (hb hby d10_1)
  refine own_step st1 ?_
  show own_Go _ _ _ _ T1 (mkF m 4 #[.val (.ref a1)] [(.ref b)])
  refine own_step (own_len X1 hx hZ e1 VB (g := (mkF m 4 #[.val (.ref a1)] [(.ref b)])) rfl rfl (hb hby d10_4)) ?_
  show own_Go _ _ _ _ T1 (mkF m 5 #[.val (.ref a1)] [(.int z)])
  refine own_step (fun _ k => XS.aloadN X1.here hx rfl (hb hby d10_5) rfl rfl k) ?_
  show own_Go _ _ _ _ T1 (mkF m 6 #[.val (.ref a1)] [(.ref a1), (.int z)])
  refine own_callV X1 hx hZ (y := (⟨"java/lang/String", "coder", "()B"⟩ : MethodName)) (z := (⟨"java/lang/String", "coder", "()B"⟩ : MethodName)) hown (hw _ (List.mem_of_getElem? (i := 55) rfl)) (hw _ (List.mem_of_getElem? (i := 56) rfl)) (hw _ (List.mem_of_getElem? (i := 58) rfl)) (hw _ (List.mem_of_getElem? (i := 58) rfl)) (hw _ (List.mem_of_getElem? (i := 57) rfl)) (hw _ (List.mem_of_getElem? (i := 11) rfl)) (hw _ (List.mem_of_getElem? (i := 59) rfl)) (by decide) (rm11 l Z a0 hw [] a1 cz h0 n0 Z0 O0 SC hcz FC_a1) e1 (b := a1) E_a1 1 (by decide) (by decide) (by decide) (by decide) (g := (mkF m 6 #[.val (.ref a1)] [(.ref a1), (.int z)])) rfl (by rw [hml]; rfl) [] [(.int z)] pd_0 rfl rfl rfl (by show 2 * 0 + _ ≤ _; exact Nat.le_of_eq rfl) (hb hby d10_6) ?_
  rintro v2 T2 L2 X2 ⟨rfl, Nq2, e2⟩
  have N2 := Fr.app N0 Nq2
  show own_Go _ _ _ _ T2 (mkF m 9 #[.val (.ref a1)] [(.int (0 : Int32)), (.int z)])
  refine own_step (fun _ k => XS.ishr X2.here hx rfl (hb hby d10_9) rfl k) ?_
  show own_Go _ _ _ _ T2 (mkF m 10 #[.val (.ref a1)] [(.int (z >>> ((0 : Int32) &&& 31)))])
  rw [own_shr0]
  show own_Go _ _ _ _ T2 (mkF m 10 #[.val (.ref a1)] [(.int z)])
  exact own_retI X2 hx hret hlk (hb hby d10_10) (own_N ⟨rfl, N2, e2⟩ (by decide) (by decide)) 
theorem d9_0 : decode jdk_42_method_154_code 0 = .ok (.getstatic 38, 3) := by decide +kernel
theorem d9_3 : decode jdk_42_method_154_code 3 = .ok (.ifCond .eq 14, 3) := by decide +kernel
theorem d9_6 : decode jdk_42_method_154_code 6 = .ok (.aload_n 0, 1) := by decide +kernel
theorem d9_7 : decode jdk_42_method_154_code 7 = .ok (.getfield 15, 3) := by decide +kernel
theorem d9_10 : decode jdk_42_method_154_code 10 = .ok (.ifCond .ne 7, 3) := by decide +kernel
theorem d9_13 : decode jdk_42_method_154_code 13 = .ok (.iconst 1, 1) := by decide +kernel
theorem d9_14 : decode jdk_42_method_154_code 14 = .ok (.goto 4, 3) := by decide +kernel
theorem d9_17 : decode jdk_42_method_154_code 17 = .ok (.iconst 0, 1) := by decide +kernel
theorem d9_18 : decode jdk_42_method_154_code 18 = .ok (.ireturn, 1) := by decide +kernel
theorem ef_9 (a1 : Addr) (m : MethodId) : entryFrame m #[(.ref a1)] 1 = mkF m 0 #[.val (.ref a1)] [] := by first | (simp [entryFrame, mkF, argsToLocals, Value.category]; done) | rfl
set_option maxRecDepth 65536 in
set_option maxHeartbeats 40000000 in
theorem rm9 (l : Launch) (Z : State) (a0 : Array Value) (hw : ∀ d ∈ tables_1, d.before a0 Z = true) (ws : List Jvm.Cond) (a1 : Addr) (cz : Int32) (h0 : Heap) (n0 : Nat) (Z0 : n0 ≤ h0.size) (O0 : Old Z n0 h0) (SC : Sta Z Z.heap "java/lang/String" "COMPACT_STRINGS" "Z" (.int cz)) (hcz : ¬ cz = (0 : Int32)) (FC_a1 : Fld Z h0 a1 "java/lang/String" "coder" "B" (.int (0 : Int32))) :
    own_Met l (⟨"java/lang/String", "isLatin1", "()Z"⟩ : MethodName) jdk_42_method_154_code 1 (some .boolean) ws ({ frames := 0, cells := 0, slots := 0, locals := 0 } : Room) #[(.ref a1)] Z h0 (fun v h L => v = some (.int (1 : Int32)) ∧ Fr n0 L ∧ h = h0) := by
  refine own_body (plainFor_of_name pn_0) (ef_9 a1) ?_
  intro p e s m below meth c T0 X0 hx hby hml0 hret hlk hnm hown hZ e0
  have hml : c.maxLocals = 1 := hml0
  have N0 := Fr.nil n0
  obtain ⟨T1, X1, e1, st1⟩ := getS2 X0 hx hZ hown (host := "") (Or.inl (hw _ (List.mem_of_getElem? (i := 49) rfl))) Via.refl e0 (SC.ext O0.2) (g := (mkF m 0 #[.val (.ref a1)] [])) rfl (hb hby d9_0)
  refine own_step st1 ?_
  show own_Go _ _ _ _ T1 (mkF m 3 #[.val (.ref a1)] [(.int cz)])
  refine own_step (fun _ k => XS.ifNo X1.here hx rfl (hb hby d9_3) rfl ((if0 _ _).trans (feq hcz).1) k) ?_
  show own_Go _ _ _ _ T1 (mkF m 6 #[.val (.ref a1)] [])
  refine own_step (fun _ k => XS.aloadN X1.here hx rfl (hb hby d9_6) rfl rfl k) ?_
  show own_Go _ _ _ _ T1 (mkF m 7 #[.val (.ref a1)] [(.ref a1)])
  obtain ⟨T2, X2, e2, st2⟩ := getF X1 hx hZ hown (host := "") (Or.inl (hw _ (List.mem_of_getElem? (i := 29) rfl))) Via.refl e1 FC_a1 (g := (mkF m 7 #[.val (.ref a1)] [(.ref a1)])) rfl rfl (hb hby d9_7)
  refine own_step st2 ?_
  show own_Go _ _ _ _ T2 (mkF m 10 #[.val (.ref a1)] [(.int (0 : Int32))])
  refine own_step (fun _ k => XS.ifNo X2.here hx rfl (hb hby d9_10) rfl ((if0 _ _).trans (teq (by decide : (0 : Int32) = (0 : Int32))).2) k) ?_
  show own_Go _ _ _ _ T2 (mkF m 13 #[.val (.ref a1)] [])
  refine own_step (fun _ k => XS.iconst X2.here hx rfl (hb hby d9_13) k) ?_
  show own_Go _ _ _ _ T2 (mkF m 14 #[.val (.ref a1)] [(.int (1 : Int32))])
  refine own_step (fun _ k => XS.goto X2.here hx rfl (pc0 := 14) (pc' := 18) rfl (hb hby d9_14) (by decide) (by decide) k) ?_
  show own_Go _ _ _ _ T2 (mkF m 18 #[.val (.ref a1)] [(.int (1 : Int32))])
  exact own_retN X2 hx (t := .boolean) hret (by simp) hlk (hb hby d9_18) rfl (own_N ⟨rfl, N0, e2⟩ (by decide) (by decide)) 
theorem d25_0 : decode jdk_41_method_11_code 0 = .ok (.iload_n 0, 1) := by decide +kernel
theorem d25_1 : decode jdk_41_method_11_code 1 = .ok (.ifCond .lt 8, 3) := by decide +kernel
theorem d25_4 : decode jdk_41_method_11_code 4 = .ok (.iload_n 0, 1) := by decide +kernel
theorem d25_5 : decode jdk_41_method_11_code 5 = .ok (.iload_n 1, 1) := by decide +kernel
theorem d25_6 : decode jdk_41_method_11_code 6 = .ok (.if_icmp .lt 10, 3) := by decide +kernel
theorem d25_9 : decode jdk_41_method_11_code 9 = .ok (.aload_n 2, 1) := by decide +kernel
theorem d25_10 : decode jdk_41_method_11_code 10 = .ok (.iload_n 0, 1) := by decide +kernel
theorem d25_11 : decode jdk_41_method_11_code 11 = .ok (.iload_n 1, 1) := by decide +kernel
theorem d25_12 : decode jdk_41_method_11_code 12 = .ok (.invokestatic 95, 3) := by decide +kernel
theorem d25_15 : decode jdk_41_method_11_code 15 = .ok (.athrow, 1) := by decide +kernel
theorem d25_16 : decode jdk_41_method_11_code 16 = .ok (.iload_n 0, 1) := by decide +kernel
theorem d25_17 : decode jdk_41_method_11_code 17 = .ok (.ireturn, 1) := by decide +kernel
theorem ef_25 (p1 : Int32) (p2 : Int32) (fv : Value) (hfv : fv.isRef = true) (m : MethodId) : entryFrame m #[(.int p1), (.int p2), fv] 3 = mkF m 0 #[.val (.int p1), .val (.int p2), .val fv] [] := by
  rcases ref_cases hfv with rfl | ⟨a, rfl⟩ <;> first | (simp [entryFrame, mkF, argsToLocals, Value.category]; done) | rfl
theorem pn_1 : plainName "jdk/internal/util/Preconditions" = true := by first | (simp [plainName, overriddenIn]; done) | decide +kernel
set_option maxRecDepth 65536 in
set_option maxHeartbeats 40000000 in
theorem rm25 (l : Launch) (Z : State) (a0 : Array Value) (hw : ∀ d ∈ tables_1, d.before a0 Z = true) (ws : List Jvm.Cond) (p1 : Int32) (p2 : Int32) (fv : Value) (h0 : Heap) (n0 : Nat) (Z0 : n0 ≤ h0.size) (hfv : fv.isRef = true) (h1 : ¬ p1 < (0 : Int32)) (h2 : p1 < p2) :
    own_Met l (⟨"jdk/internal/util/Preconditions", "checkIndex", "(IILjava/util/function/BiFunction;)I"⟩ : MethodName) jdk_41_method_11_code 3 (some .int) ws ({ frames := 0, cells := 0, slots := 0, locals := 0 } : Room) #[(.int p1), (.int p2), fv] Z h0 (fun v h L => v = some (.int p1) ∧ Fr n0 L ∧ h = h0) := by
  refine own_body (plainFor_of_name pn_1) (ef_25 p1 p2 fv hfv) ?_
  intro p e s m below meth c T0 X0 hx hby hml0 hret hlk hnm hown hZ e0
  have hml : c.maxLocals = 3 := hml0
  have N0 := Fr.nil n0
  refine own_step (fun _ k => XS.iloadN X0.here hx rfl (hb hby d25_0) rfl k) ?_
  show own_Go _ _ _ _ T0 (mkF m 1 #[.val (.int p1), .val (.int p2), .val fv] [(.int p1)])
  refine own_step (fun _ k => XS.ifNo X0.here hx rfl (hb hby d25_1) rfl ((if0 _ _).trans (flt h1).1) k) ?_
  show own_Go _ _ _ _ T0 (mkF m 4 #[.val (.int p1), .val (.int p2), .val fv] [])
  refine own_step (fun _ k => XS.iloadN X0.here hx rfl (hb hby d25_4) rfl k) ?_
  show own_Go _ _ _ _ T0 (mkF m 5 #[.val (.int p1), .val (.int p2), .val fv] [(.int p1)])
  refine own_step (fun _ k => XS.iloadN X0.here hx rfl (hb hby d25_5) rfl k) ?_
  show own_Go _ _ _ _ T0 (mkF m 6 #[.val (.int p1), .val (.int p2), .val fv] [(.int p2), (.int p1)])
  refine own_step (fun _ k => XS.icmpYes X0.here hx rfl (pc0 := 6) (pc' := 16) rfl (hb hby d25_6) rfl (tlt h2).1 (by decide) (by decide) k) ?_
  show own_Go _ _ _ _ T0 (mkF m 16 #[.val (.int p1), .val (.int p2), .val fv] [])
  refine own_step (fun _ k => XS.iloadN X0.here hx rfl (hb hby d25_16) rfl k) ?_
  show own_Go _ _ _ _ T0 (mkF m 17 #[.val (.int p1), .val (.int p2), .val fv] [(.int p1)])
  exact own_retI X0 hx hret hlk (hb hby d25_17) (own_N ⟨rfl, N0, e0⟩ (by decide) (by decide)) 
theorem d24_0 : decode jdk_42_method_155_code 0 = .ok (.iload_n 0, 1) := by decide +kernel
theorem d24_1 : decode jdk_42_method_155_code 1 = .ok (.iload_n 1, 1) := by decide +kernel
theorem d24_2 : decode jdk_42_method_155_code 2 = .ok (.getstatic 1053, 3) := by decide +kernel
theorem d24_5 : decode jdk_42_method_155_code 5 = .ok (.invokestatic 1059, 3) := by decide +kernel
theorem d24_8 : decode jdk_42_method_155_code 8 = .ok (.pop, 1) := by decide +kernel
theorem d24_9 : decode jdk_42_method_155_code 9 = .ok (.return_, 1) := by decide +kernel
theorem ef_24 (p1 : Int32) (p2 : Int32) (m : MethodId) : entryFrame m #[(.int p1), (.int p2)] 2 = mkF m 0 #[.val (.int p1), .val (.int p2)] [] := by first | (simp [entryFrame, mkF, argsToLocals, Value.category]; done) | rfl
theorem pd_1 : parseMethodDescriptor "(IILjava/util/function/BiFunction;)I" = some ⟨[.int, .int, (.object "java/util/function/BiFunction")], some .int⟩ := by decide +kernel
set_option maxRecDepth 65536 in
set_option maxHeartbeats 40000000 in
theorem rm24 (l : Launch) (Z : State) (a0 : Array Value) (hw : ∀ d ∈ tables_1, d.before a0 Z = true) (ws : List Jvm.Cond) (p1 : Int32) (p2 : Int32) (fv : Value) (h0 : Heap) (n0 : Nat) (Z0 : n0 ≤ h0.size) (O0 : Old Z n0 h0) (SF : Sta Z Z.heap "jdk/internal/util/Preconditions" "SIOOBE_FORMATTER" "Ljava/util/function/BiFunction;" fv) (hfv : fv.isRef = true) (h1 : ¬ p1 < (0 : Int32)) (h2 : p1 < p2) :
    own_Met l (⟨"java/lang/String", "checkIndex", "(II)V"⟩ : MethodName) jdk_42_method_155_code 2 none ws ({ frames := 1, cells := 0, slots := 0, locals := 14 } : Room) #[(.int p1), (.int p2)] Z h0 (fun v h L => v = none ∧ Fr n0 L ∧ h = h0) := by
  refine own_body (plainFor_of_name pn_0) (ef_24 p1 p2) ?_
  intro p e s m below meth c T0 X0 hx hby hml0 hret hlk hnm hown hZ e0
  have hml : c.maxLocals = 2 := hml0
  have N0 := Fr.nil n0
  refine own_step (fun _ k => XS.iloadN X0.here hx rfl (hb hby d24_0) rfl k) ?_
  show own_Go _ _ _ _ T0 (mkF m 1 #[.val (.int p1), .val (.int p2)] [(.int p1)])
  refine own_step (fun _ k => XS.iloadN X0.here hx rfl (hb hby d24_1) rfl k) ?_
  show own_Go _ _ _ _ T0 (mkF m 2 #[.val (.int p1), .val (.int p2)] [(.int p2), (.int p1)])
  obtain ⟨T1, X1, e1, st1⟩ := getS2 X0 hx hZ hown (host := "") (Or.inl (hw _ (List.mem_of_getElem? (i := 105) rfl))) Via.refl e0 (SF.ext O0.2) (g := (mkF m 2 #[.val (.int p1), .val (.int p2)] [(.int p2), (.int p1)])) rfl (hb hby d24_2)
  refine own_step st1 ?_
  show own_Go _ _ _ _ T1 (mkF m 5 #[.val (.int p1), .val (.int p2)] [fv, (.int p2), (.int p1)])
  refine own_callS X1 hx hZ (y := (⟨"jdk/internal/util/Preconditions", "checkIndex", "(IILjava/util/function/BiFunction;)I"⟩ : MethodName)) hown (hw _ (List.mem_of_getElem? (i := 107) rfl)) (hw _ (List.mem_of_getElem? (i := 108) rfl)) (hw _ (List.mem_of_getElem? (i := 106) rfl)) (hw _ (List.mem_of_getElem? (i := 109) rfl)) (by decide) (rm25 l Z a0 hw [] p1 p2 fv  h0 n0 Z0 hfv h1 h2) e1 0 (by decide) (by decide) (by decide) (by decide) (g := (mkF m 5 #[.val (.int p1), .val (.int p2)] [fv, (.int p2), (.int p1)])) rfl (by rw [hml]; rfl) [(.int p1), (.int p2), fv] [] pd_1 rfl rfl rfl (by show 2 * 0 + _ ≤ _; exact Nat.le_of_eq rfl) (hb hby d24_5) ?_
  rintro v2 T2 L2 X2 ⟨rfl, Nq2, e2⟩
  have N2 := Fr.app N0 Nq2
  show own_Go _ _ _ _ T2 (mkF m 8 #[.val (.int p1), .val (.int p2)] [(.int p1)])
  refine own_step (fun _ k => XS.pop X2.here hx rfl (hb hby d24_8) rfl rfl k) ?_
  show own_Go _ _ _ _ T2 (mkF m 9 #[.val (.int p1), .val (.int p2)] [])
  exact own_retV X2 hx hret hlk (hb hby d24_9) (own_N ⟨rfl, N2, e2⟩ (by decide) (by decide)) 
theorem d23_0 : decode jdk_43_method_2_code 0 = .ok (.iload_n 1, 1) := by decide +kernel
theorem d23_1 : decode jdk_43_method_2_code 1 = .ok (.aload_n 0, 1) := by decide +kernel
theorem d23_2 : decode jdk_43_method_2_code 2 = .ok (.arraylength, 1) := by decide +kernel
theorem d23_3 : decode jdk_43_method_2_code 3 = .ok (.invokestatic 9, 3) := by decide +kernel
theorem d23_6 : decode jdk_43_method_2_code 6 = .ok (.aload_n 0, 1) := by decide +kernel
theorem d23_7 : decode jdk_43_method_2_code 7 = .ok (.iload_n 1, 1) := by decide +kernel
theorem d23_8 : decode jdk_43_method_2_code 8 = .ok (.baload, 1) := by decide +kernel
theorem d23_9 : decode jdk_43_method_2_code 9 = .ok (.sipush 255, 3) := by decide +kernel
theorem d23_12 : decode jdk_43_method_2_code 12 = .ok (.iand, 1) := by decide +kernel
theorem d23_13 : decode jdk_43_method_2_code 13 = .ok (.i2c, 1) := by decide +kernel
theorem d23_14 : decode jdk_43_method_2_code 14 = .ok (.ireturn, 1) := by decide +kernel
theorem ef_23 (a1 : Addr) (p2 : Int32) (m : MethodId) : entryFrame m #[(.ref a1), (.int p2)] 2 = mkF m 0 #[.val (.ref a1), .val (.int p2)] [] := by first | (simp [entryFrame, mkF, argsToLocals, Value.category]; done) | rfl
theorem pd_2 : parseMethodDescriptor "(II)V" = some ⟨[.int, .int], none⟩ := by decide +kernel
theorem pn_2 : plainName "java/lang/StringLatin1" = true := by first | (simp [plainName, overriddenIn]; done) | decide +kernel
set_option maxRecDepth 65536 in
set_option maxHeartbeats 40000000 in
theorem rm23 (l : Launch) (Z : State) (a0 : Array Value) (hw : ∀ d ∈ tables_1, d.before a0 Z = true) (ws : List Jvm.Cond) (a1 : Addr) (p2 : Int32) (fv : Value) (kb : ClassId) (z : Int32) (ys : List Int32) (h0 : Heap) (n0 : Nat) (Z0 : n0 ≤ h0.size) (O0 : Old Z n0 h0) (SF : Sta Z Z.heap "jdk/internal/util/Preconditions" "SIOOBE_FORMATTER" "Ljava/util/function/BiFunction;" fv) (hfv : fv.isRef = true) (VB : Arv Z h0 a1 kb .byte z (ys.map Value.int) (.int (0 : Int32))) (h1 : ¬ p2 < (0 : Int32)) (h2 : p2 < z) :
    own_Met l (⟨"java/lang/StringLatin1", "charAt", "([BI)C"⟩ : MethodName) jdk_43_method_2_code 2 (some .char) ws ({ frames := 2, cells := 0, slots := 0, locals := 27 } : Room) #[(.ref a1), (.int p2)] Z h0 (fun v h L => v = some (.int ((ys.getD p2.toNatClampNeg (0 : Int32)) &&& (255 : Int32))) ∧ Fr n0 L ∧ h = h0) := by
  refine own_body (plainFor_of_name pn_2) (ef_23 a1 p2) ?_
  intro p e s m below meth c T0 X0 hx hby hml0 hret hlk hnm hown hZ e0
  have hml : c.maxLocals = 2 := hml0
  have N0 := Fr.nil n0
  refine own_step (fun _ k => XS.iloadN X0.here hx rfl (hb hby d23_0) rfl k) ?_
  show own_Go _ _ _ _ T0 (mkF m 1 #[.val (.ref a1), .val (.int p2)] [(.int p2)])
  refine own_step (fun _ k => XS.aloadN X0.here hx rfl (hb hby d23_1) rfl rfl k) ?_
  show own_Go _ _ _ _ T0 (mkF m 2 #[.val (.ref a1), .val (.int p2)] [(.ref a1), (.int p2)])
  refine own_step (own_len X0 hx hZ e0 VB (g := (mkF m 2 #[.val (.ref a1), .val (.int p2)] [(.ref a1), (.int p2)])) rfl rfl (hb hby d23_2)) ?_
  show own_Go _ _ _ _ T0 (mkF m 3 #[.val (.ref a1), .val (.int p2)] [(.int z), (.int p2)])
  refine own_callS X0 hx hZ (y := (⟨"java/lang/String", "checkIndex", "(II)V"⟩ : MethodName)) hown (hw _ (List.mem_of_getElem? (i := 102) rfl)) (hw _ (List.mem_of_getElem? (i := 103) rfl)) (hw _ (List.mem_of_getElem? (i := 11) rfl)) (hw _ (List.mem_of_getElem? (i := 104) rfl)) (by decide) (rm24 l Z a0 hw [] p2 z fv h0 n0 Z0 O0 SF hfv h1 h2) e0 0 (by decide) (by decide) (by decide) (by decide) (g := (mkF m 3 #[.val (.ref a1), .val (.int p2)] [(.int z), (.int p2)])) rfl (by rw [hml]; rfl) [(.int p2), (.int z)] [] pd_2 rfl rfl rfl (by show 2 * 0 + _ ≤ _; exact Nat.le_of_eq rfl) (hb hby d23_3) ?_
  rintro v1 T1 L1 X1 ⟨rfl, Nq1, e1⟩
  have N1 := Fr.app N0 Nq1
  show own_Go _ _ _ _ T1 (mkF m 6 #[.val (.ref a1), .val (.int p2)] [])
  refine own_step (fun _ k => XS.aloadN X1.here hx rfl (hb hby d23_6) rfl rfl k) ?_
  show own_Go _ _ _ _ T1 (mkF m 7 #[.val (.ref a1), .val (.int p2)] [(.ref a1)])
  refine own_step (fun _ k => XS.iloadN X1.here hx rfl (hb hby d23_7) rfl k) ?_
  show own_Go _ _ _ _ T1 (mkF m 8 #[.val (.ref a1), .val (.int p2)] [(.int p2), (.ref a1)])
  refine own_step (own_ldB X1 hx hZ e1 VB (j := p2) (v := (.int (ys.getD p2.toNatClampNeg (0 : Int32)))) ⟨h1, h2⟩ (own_getI ys _ _) (g := (mkF m 8 #[.val (.ref a1), .val (.int p2)] [(.int p2), (.ref a1)])) rfl rfl (hb hby d23_8)) ?_
  show own_Go _ _ _ _ T1 (mkF m 9 #[.val (.ref a1), .val (.int p2)] [(.int (ys.getD p2.toNatClampNeg (0 : Int32)))])
  refine own_step (fun _ k => XS.sipush X1.here hx rfl (hb hby d23_9) k) ?_
  show own_Go _ _ _ _ T1 (mkF m 12 #[.val (.ref a1), .val (.int p2)] [(.int (255 : Int32)), (.int (ys.getD p2.toNatClampNeg (0 : Int32)))])
  refine own_step (fun _ k => XS.iand X1.here hx rfl (hb hby d23_12) rfl k) ?_
  show own_Go _ _ _ _ T1 (mkF m 13 #[.val (.ref a1), .val (.int p2)] [(.int ((ys.getD p2.toNatClampNeg (0 : Int32)) &&& (255 : Int32)))])
  refine own_step (fun _ k => XS.i2c X1.here hx rfl (hb hby d23_13) rfl k) ?_
  show own_Go _ _ _ _ T1 (mkF m 14 #[.val (.ref a1), .val (.int p2)] [(.int (((ys.getD p2.toNatClampNeg (0 : Int32)) &&& (255 : Int32)).toUInt32.toUInt16.toUInt32.toInt32))])
  rw [own_ci]
  show own_Go _ _ _ _ T1 (mkF m 14 #[.val (.ref a1), .val (.int p2)] [(.int ((ys.getD p2.toNatClampNeg (0 : Int32)) &&& (255 : Int32)))])
  exact own_retN X1 hx (t := .char) hret (by simp) hlk (hb hby d23_14) (own_ci _) (own_N ⟨rfl, N1, e1⟩ (by decide) (by decide))
theorem d22_0 : decode jdk_42_method_56_code 0 = .ok (.aload_n 0, 1) := by decide +kernel
theorem d22_1 : decode jdk_42_method_56_code 1 = .ok (.invokevirtual 492, 3) := by decide +kernel
theorem d22_4 : decode jdk_42_method_56_code 4 = .ok (.ifCond .eq 12, 3) := by decide +kernel
theorem d22_7 : decode jdk_42_method_56_code 7 = .ok (.aload_n 0, 1) := by decide +kernel
theorem d22_8 : decode jdk_42_method_56_code 8 = .ok (.getfield 9, 3) := by decide +kernel
theorem d22_11 : decode jdk_42_method_56_code 11 = .ok (.iload_n 1, 1) := by decide +kernel
theorem d22_12 : decode jdk_42_method_56_code 12 = .ok (.invokestatic 495, 3) := by decide +kernel
theorem d22_15 : decode jdk_42_method_56_code 15 = .ok (.ireturn, 1) := by decide +kernel
theorem d22_16 : decode jdk_42_method_56_code 16 = .ok (.aload_n 0, 1) := by decide +kernel
theorem d22_17 : decode jdk_42_method_56_code 17 = .ok (.getfield 9, 3) := by decide +kernel
theorem d22_20 : decode jdk_42_method_56_code 20 = .ok (.iload_n 1, 1) := by decide +kernel
theorem d22_21 : decode jdk_42_method_56_code 21 = .ok (.invokestatic 498, 3) := by decide +kernel
theorem d22_24 : decode jdk_42_method_56_code 24 = .ok (.ireturn, 1) := by decide +kernel
theorem ef_22 (a1 : Addr) (p2 : Int32) (m : MethodId) : entryFrame m #[(.ref a1), (.int p2)] 2 = mkF m 0 #[.val (.ref a1), .val (.int p2)] [] := by first | (simp [entryFrame, mkF, argsToLocals, Value.category]; done) | rfl
theorem pd_3 : parseMethodDescriptor "()Z" = some ⟨[], some .boolean⟩ := by decide +kernel
theorem pd_4 : parseMethodDescriptor "([BI)C" = some ⟨[(.array .byte), .int], some .char⟩ := by decide +kernel
set_option maxRecDepth 65536 in
set_option maxHeartbeats 40000000 in
theorem rm22 (l : Launch) (Z : State) (a0 : Array Value) (hw : ∀ d ∈ tables_1, d.before a0 Z = true) (ws : List Jvm.Cond) (a1 : Addr) (p2 : Int32) (cz : Int32) (fv : Value) (b : Addr) (kb : ClassId) (z : Int32) (ys : List Int32) (h0 : Heap) (n0 : Nat) (Z0 : n0 ≤ h0.size) (O0 : Old Z n0 h0) (SC : Sta Z Z.heap "java/lang/String" "COMPACT_STRINGS" "Z" (.int cz)) (hcz : ¬ cz = (0 : Int32)) (SF : Sta Z Z.heap "jdk/internal/util/Preconditions" "SIOOBE_FORMATTER" "Ljava/util/function/BiFunction;" fv) (hfv : fv.isRef = true) (E_a1 : Exa Z h0 a1 "java/lang/String") (FC_a1 : Fld Z h0 a1 "java/lang/String" "coder" "B" (.int (0 : Int32))) (FV_a1 : Fld Z h0 a1 "java/lang/String" "value" "[B" (.ref b)) (VB : Arv Z h0 b kb .byte z (ys.map Value.int) (.int (0 : Int32))) (h1 : ¬ p2 < (0 : Int32)) (h2 : p2 < z) :
    own_Met l (⟨"java/lang/String", "charAt", "(I)C"⟩ : MethodName) jdk_42_method_56_code 2 (some .char) ws ({ frames := 3, cells := 0, slots := 0, locals := 40 } : Room) #[(.ref a1), (.int p2)] Z h0 (fun v h L => v = some (.int ((ys.getD p2.toNatClampNeg (0 : Int32)) &&& (255 : Int32))) ∧ Fr n0 L ∧ h = h0) := by
  refine own_body (plainFor_of_name pn_0) (ef_22 a1 p2) ?_
  intro p e s m below meth c T0 X0 hx hby hml0 hret hlk hnm hown hZ e0
  have hml : c.maxLocals = 2 := hml0
  have N0 := Fr.nil n0
  refine own_step (fun _ k => XS.aloadN X0.here hx rfl (hb hby d22_0) rfl rfl k) ?_
  show own_Go _ _ _ _ T0 (mkF m 1 #[.val (.ref a1), .val (.int p2)] [(.ref a1)])
  refine own_callV X0 hx hZ (y := (⟨"java/lang/String", "isLatin1", "()Z"⟩ : MethodName)) (z := (⟨"java/lang/String", "isLatin1", "()Z"⟩ : MethodName)) hown (hw _ (List.mem_of_getElem? (i := 44) rfl)) (hw _ (List.mem_of_getElem? (i := 45) rfl)) (hw _ (List.mem_of_getElem? (i := 47) rfl)) (hw _ (List.mem_of_getElem? (i := 47) rfl)) (hw _ (List.mem_of_getElem? (i := 46) rfl)) (hw _ (List.mem_of_getElem? (i := 11) rfl)) (hw _ (List.mem_of_getElem? (i := 48) rfl)) (by decide) (rm9 l Z a0 hw [] a1 cz h0 n0 Z0 O0 SC hcz FC_a1) e0 (b := a1) E_a1 0 (by decide) (by decide) (by decide) (by decide) (g := (mkF m 1 #[.val (.ref a1), .val (.int p2)] [(.ref a1)])) rfl (by rw [hml]; rfl) [] [] pd_3 rfl rfl rfl (by show 2 * 0 + _ ≤ _; exact Nat.le_of_eq rfl) (hb hby d22_1) ?_
  rintro v1 T1 L1 X1 ⟨rfl, Nq1, e1⟩
  have N1 := Fr.app N0 Nq1
  show own_Go _ _ _ _ T1 (mkF m 4 #[.val (.ref a1), .val (.int p2)] [(.int (1 : Int32))])
  refine own_step (fun _ k => XS.ifNo X1.here hx rfl (hb hby d22_4) rfl ((if0 _ _).trans (feq (by decide : ¬ ((1 : Int32) = (0 : Int32)))).1) k) ?_
  show own_Go _ _ _ _ T1 (mkF m 7 #[.val (.ref a1), .val (.int p2)] [])
  refine own_step (fun _ k => XS.aloadN X1.here hx rfl (hb hby d22_7) rfl rfl k) ?_
  show own_Go _ _ _ _ T1 (mkF m 8 #[.val (.ref a1), .val (.int p2)] [(.ref a1)])
  obtain ⟨T2, X2, e2, st2⟩ := getF X1 hx hZ hown (host := "") (Or.inl (hw _ (List.mem_of_getElem? (i := 28) rfl))) Via.refl e1 FV_a1 (g := (mkF m 8 #[.val (.ref a1), .val (.int p2)] [(.ref a1)])) rfl rfl (hb hby d22_8)
  refine own_step st2 ?_
  show own_Go _ _ _ _ T2 (mkF m 11 #[.val (.ref a1), .val (.int p2)] [(.ref b)])
  refine own_step (fun _ k => XS.iloadN X2.here hx rfl (hb hby d22_11) rfl k) ?_
  show own_Go _ _ _ _ T2 (mkF m 12 #[.val (.ref a1), .val (.int p2)] [(.int p2), (.ref b)])
  refine own_callS X2 hx hZ (y := (⟨"java/lang/StringLatin1", "charAt", "([BI)C"⟩ : MethodName)) hown (hw _ (List.mem_of_getElem? (i := 99) rfl)) (hw _ (List.mem_of_getElem? (i := 100) rfl)) (hw _ (List.mem_of_getElem? (i := 62) rfl)) (hw _ (List.mem_of_getElem? (i := 101) rfl)) (by decide) (rm23 l Z a0 hw [] b p2 fv kb z ys h0 n0 Z0 O0 SF hfv VB h1 h2) e2 0 (by decide) (by decide) (by decide) (by decide) (g := (mkF m 12 #[.val (.ref a1), .val (.int p2)] [(.int p2), (.ref b)])) rfl (by rw [hml]; rfl) [(.ref b), (.int p2)] [] pd_4 rfl rfl rfl (by show 2 * 0 + _ ≤ _; exact Nat.le_of_eq rfl) (hb hby d22_12) ?_
  rintro v3 T3 L3 X3 ⟨rfl, Nq3, e3⟩
  have N3 := Fr.app N1 Nq3
  show own_Go _ _ _ _ T3 (mkF m 15 #[.val (.ref a1), .val (.int p2)] [(.int ((ys.getD p2.toNatClampNeg (0 : Int32)) &&& (255 : Int32)))])
  exact own_retN X3 hx (t := .char) hret (by simp) hlk (hb hby d22_15) (own_ci _) (own_N ⟨rfl, N3, e3⟩ (by decide) (by decide))
def own_EL : List (String × Nat) := [("java/lang/String", 7), ("java/lang/StringLatin1", 151)]
theorem own_wS {Z : State} {a0 : Array Value} (hw : ∀ d ∈ tables_1, d.before a0 Z = true) : ∀ a ∈ Bundle.stringAtoms, a.before a0 Z = true := by
  intro a ha
  simp only [Bundle.stringAtoms, List.mem_cons, List.not_mem_nil, or_false] at ha
  rcases ha with rfl | rfl | rfl | rfl | rfl | rfl | rfl
  · exact (hw _ (List.mem_of_getElem? (i := 11) rfl))
  · exact (hw _ (List.mem_of_getElem? (i := 10) rfl))
  · exact (hw _ (List.mem_of_getElem? (i := 23) rfl))
  · exact (hw _ (List.mem_of_getElem? (i := 24) rfl))
  · exact (hw _ (List.mem_of_getElem? (i := 25) rfl))
  · exact (hw _ (List.mem_of_getElem? (i := 26) rfl))
  · exact (hw _ (List.mem_of_getElem? (i := 27) rfl))
theorem d19_0 : decode jdk_52_method_21_code 0 = .ok (.iconst 0, 1) := by decide +kernel
theorem d19_1 : decode jdk_52_method_21_code 1 = .ok (.istore 5, 2) := by decide +kernel
theorem d19_3 : decode jdk_52_method_21_code 3 = .ok (.iload 5, 2) := by decide +kernel
theorem d19_5 : decode jdk_52_method_21_code 5 = .ok (.iload 4, 2) := by decide +kernel
theorem d19_7 : decode jdk_52_method_21_code 7 = .ok (.if_icmp .ge 37, 3) := by decide +kernel
theorem d19_10 : decode jdk_52_method_21_code 10 = .ok (.aload_n 0, 1) := by decide +kernel
theorem d19_11 : decode jdk_52_method_21_code 11 = .ok (.iload_n 1, 1) := by decide +kernel
theorem d19_12 : decode jdk_52_method_21_code 12 = .ok (.caload, 1) := by decide +kernel
theorem d19_13 : decode jdk_52_method_21_code 13 = .ok (.istore 6, 2) := by decide +kernel
theorem d19_15 : decode jdk_52_method_21_code 15 = .ok (.iload 6, 2) := by decide +kernel
theorem d19_17 : decode jdk_52_method_21_code 17 = .ok (.sipush 255, 3) := by decide +kernel
theorem d19_20 : decode jdk_52_method_21_code 20 = .ok (.if_icmp .le 6, 3) := by decide +kernel
theorem d19_23 : decode jdk_52_method_21_code 23 = .ok (.iload 5, 2) := by decide +kernel
theorem d19_25 : decode jdk_52_method_21_code 25 = .ok (.ireturn, 1) := by decide +kernel
theorem d19_26 : decode jdk_52_method_21_code 26 = .ok (.aload_n 2, 1) := by decide +kernel
theorem d19_27 : decode jdk_52_method_21_code 27 = .ok (.iload_n 3, 1) := by decide +kernel
theorem d19_28 : decode jdk_52_method_21_code 28 = .ok (.iload 6, 2) := by decide +kernel
theorem d19_30 : decode jdk_52_method_21_code 30 = .ok (.i2b, 1) := by decide +kernel
theorem d19_31 : decode jdk_52_method_21_code 31 = .ok (.bastore, 1) := by decide +kernel
theorem d19_32 : decode jdk_52_method_21_code 32 = .ok (.iinc 1 1, 3) := by decide +kernel
theorem d19_35 : decode jdk_52_method_21_code 35 = .ok (.iinc 3 1, 3) := by decide +kernel
theorem d19_38 : decode jdk_52_method_21_code 38 = .ok (.iinc 5 1, 3) := by decide +kernel
theorem d19_41 : decode jdk_52_method_21_code 41 = .ok (.goto (-38), 3) := by decide +kernel
theorem d19_44 : decode jdk_52_method_21_code 44 = .ok (.iload 4, 2) := by decide +kernel
theorem d19_46 : decode jdk_52_method_21_code 46 = .ok (.ireturn, 1) := by decide +kernel
theorem ef_19 (a1 : Addr) (p2 : Int32) (a3 : Addr) (p4 : Int32) (p5 : Int32) (m : MethodId) : entryFrame m #[(.ref a1), (.int p2), (.ref a3), (.int p4), (.int p5)] 7 = mkF m 0 #[.val (.ref a1), .val (.int p2), .val (.ref a3), .val (.int p4), .val (.int p5), .unset, .unset] [] := by first | (simp [entryFrame, mkF, argsToLocals, Value.category]; done) | rfl
theorem pn_3 : plainName "java/lang/StringUTF16" = true := by first | (simp [plainName, overriddenIn]; done) | decide +kernel
set_option maxRecDepth 65536 in
set_option maxHeartbeats 40000000 in
theorem rm19 (l : Launch) (Z : State) (a0 : Array Value) (hw : ∀ d ∈ tables_1, d.before a0 Z = true) (ws : List Jvm.Cond) (a1 : Addr) (p2 : Int32) (a3 : Addr) (p4 : Int32) (p5 : Int32) (kc kb : ClassId) (z : Int32) (cs : List Int32) (h0 : Heap) (n0 : Nat) (Z0 : n0 ≤ h0.size) (VA : Arv Z h0 a1 kc .char z (cs.map Value.int) (.int (0 : Int32))) (VB : Arv Z h0 a3 kb .byte z ((List.replicate cs.length (0 : Int32)).map Value.int) (.int (0 : Int32))) (hcs : z.toInt = (cs.length : Nat)) (hcap : cs.length ≤ 8) (hlat : ∀ t, ¬ (255 : Int32) < cs.getD t (0 : Int32)) (hne : a1 ≠ a3) (hp5 : p5.toInt = (cs.length : Nat)) (hp2 : p2.toInt = (0 : Nat)) (hp4 : p4.toInt = (0 : Nat)) (g_a3 : n0 ≤ a3) :
    own_Met l (⟨"java/lang/StringUTF16", "compress", "([CI[BII)I"⟩ : MethodName) jdk_52_method_21_code 7 (some .int) ws ({ frames := 0, cells := 0, slots := 0, locals := 0 } : Room) #[(.ref a1), (.int p2), (.ref a3), (.int p4), (.int p5)] Z h0 (fun v h L => v = some (.int p5) ∧ Fr n0 L ∧ Keep h0 h [a3] ∧ Arv Z h a3 kb .byte z ((cs.map (fun c => c.toInt8.toInt32)).map Value.int) (.int (0 : Int32))) := by
  refine own_body (plainFor_of_name pn_3) (ef_19 a1 p2 a3 p4 p5) ?_
  intro p e s m below meth c T0 X0 hx hby hml0 hret hlk hnm hown hZ e0
  have hml : c.maxLocals = 7 := hml0
  have N0 := Fr.nil n0
  have e_1 : (1 : Int32).toInt = (1 : Nat) := by decide
  refine own_step (fun _ k => XS.iconst X0.here hx rfl (hb hby d19_0) k) ?_
  show own_Go _ _ _ _ T0 (mkF m 1 #[.val (.ref a1), .val (.int p2), .val (.ref a3), .val (.int p4), .val (.int p5), .unset, .unset] [(.int (0 : Int32))])
  refine own_step (fun _ k => XS.istore X0.here hx rfl (hb hby d19_1) rfl (l' := #[.val (.ref a1), .val (.int p2), .val (.ref a3), .val (.int p4), .val (.int p5), .val (.int (0 : Int32)), .unset]) rfl k) ?_
  show own_Go _ _ _ _ T0 (mkF m 3 #[.val (.ref a1), .val (.int p2), .val (.ref a3), .val (.int p4), .val (.int p5), .val (.int (0 : Int32)), .unset] [])
  have loop : ∀ (k j : Nat) (i1 i3 i5 : Int32) (s6 : Slot) (T : State) (hp : Heap) (locs : List Loc), Stand p l e ({ frames := 0, cells := 0, slots := 0, locals := 0 } : Room) s m #[(.ref a1), (.int p2), (.ref a3), (.int p4), (.int p5)] below meth c T locs 0 0 → T.heap = hp → Fr n0 locs → Keep h0 hp [a3] → Arv Z hp a3 kb .byte z ((own_cp cs j).map Value.int) (.int (0 : Int32)) → j + k = cs.length → i1.toInt = (j : Nat) → i3.toInt = (j : Nat) → i5.toInt = (j : Nat) → (s6 = .unset ∨ ∃ w, s6 = .val w ∧ w.category = 1) → own_Go p e below (own_EndN below s (fun v h L => v = some (.int p5) ∧ Fr n0 L ∧ Keep h0 h [a3] ∧ Arv Z h a3 kb .byte z ((cs.map (fun c => c.toInt8.toInt32)).map Value.int) (.int (0 : Int32))) ({ frames := 0, cells := 0, slots := 0, locals := 0 } : Room).cells ({ frames := 0, cells := 0, slots := 0, locals := 0 } : Room).slots) T (mkF m 3 #[.val (.ref a1), .val (.int i1), .val (.ref a3), .val (.int i3), .val (.int p5), .val (.int i5), s6] []) := by
    intro k
    induction k with
    | zero =>
      intro j i1 i3 i5 s6 T hp locs X e' N' K' V' hj h1 h3 h5 h6
      have hc : ¬ i5 < p5 := fun q => by have := (own_lt h5 hp5).mp q; omega
      obtain rfl : j = cs.length := by omega
      have Zp := Nat.le_trans Z0 K'.1
      refine own_step (fun _ k => XS.iload X.here hx rfl (hb hby d19_3) rfl k) ?_
      show own_Go _ _ _ _ T (mkF m 5 #[.val (.ref a1), .val (.int i1), .val (.ref a3), .val (.int i3), .val (.int p5), .val (.int i5), s6] [(.int i5)])
      refine own_step (fun _ k => XS.iload X.here hx rfl (hb hby d19_5) rfl k) ?_
      show own_Go _ _ _ _ T (mkF m 7 #[.val (.ref a1), .val (.int i1), .val (.ref a3), .val (.int i3), .val (.int p5), .val (.int i5), s6] [(.int p5), (.int i5)])
      refine own_step (fun _ k => XS.icmpYes X.here hx rfl (pc0 := 7) (pc' := 44) rfl (hb hby d19_7) rfl (flt hc).2.1 (by decide) (by decide) k) ?_
      show own_Go _ _ _ _ T (mkF m 44 #[.val (.ref a1), .val (.int i1), .val (.ref a3), .val (.int i3), .val (.int p5), .val (.int i5), s6] [])
      refine own_step (fun _ k => XS.iload X.here hx rfl (hb hby d19_44) rfl k) ?_
      show own_Go _ _ _ _ T (mkF m 46 #[.val (.ref a1), .val (.int i1), .val (.ref a3), .val (.int i3), .val (.int p5), .val (.int i5), s6] [(.int p5)])
      exact own_retI X hx hret hlk (hb hby d19_46) (own_N (by rw [e']; exact ⟨rfl, N', K', by rw [← own_cpN]; exact V'⟩) (by decide) (by decide)) 
    | succ k ih =>
      intro j i1 i3 i5 s6 T hp locs X e' N' K' V' hj h1 h3 h5 h6
      have hc : i5 < p5 := (own_lt h5 hp5).mpr (by omega)
      have Zp := Nat.le_trans Z0 K'.1
      refine own_step (fun _ k => XS.iload X.here hx rfl (hb hby d19_3) rfl k) ?_
      show own_Go _ _ _ _ T (mkF m 5 #[.val (.ref a1), .val (.int i1), .val (.ref a3), .val (.int i3), .val (.int p5), .val (.int i5), s6] [(.int i5)])
      refine own_step (fun _ k => XS.iload X.here hx rfl (hb hby d19_5) rfl k) ?_
      show own_Go _ _ _ _ T (mkF m 7 #[.val (.ref a1), .val (.int i1), .val (.ref a3), .val (.int i3), .val (.int p5), .val (.int i5), s6] [(.int p5), (.int i5)])
      refine own_step (fun _ k => XS.icmpNo X.here hx rfl (hb hby d19_7) rfl (tlt hc).2.1 k) ?_
      show own_Go _ _ _ _ T (mkF m 10 #[.val (.ref a1), .val (.int i1), .val (.ref a3), .val (.int i3), .val (.int p5), .val (.int i5), s6] [])
      refine own_step (fun _ k => XS.aloadN X.here hx rfl (hb hby d19_10) rfl rfl k) ?_
      show own_Go _ _ _ _ T (mkF m 11 #[.val (.ref a1), .val (.int i1), .val (.ref a3), .val (.int i3), .val (.int p5), .val (.int i5), s6] [(.ref a1)])
      refine own_step (fun _ k => XS.iloadN X.here hx rfl (hb hby d19_11) rfl k) ?_
      show own_Go _ _ _ _ T (mkF m 12 #[.val (.ref a1), .val (.int i1), .val (.ref a3), .val (.int i3), .val (.int p5), .val (.int i5), s6] [(.int i1), (.ref a1)])
      have Q1 := (VA.keep K' (ninS hne nin0))
      refine own_step (own_ldC X hx hZ e' Q1 (j := i1) (v := (.int (cs.getD j (0 : Int32)))) ⟨own_nn h1, (own_lt h1 hcs).mpr (by omega)⟩ (by rw [own_clamp h1]; exact own_getI cs _ j) (g := (mkF m 12 #[.val (.ref a1), .val (.int i1), .val (.ref a3), .val (.int i3), .val (.int p5), .val (.int i5), s6] [(.int i1), (.ref a1)])) rfl rfl (hb hby d19_12)) ?_
      show own_Go _ _ _ _ T (mkF m 13 #[.val (.ref a1), .val (.int i1), .val (.ref a3), .val (.int i3), .val (.int p5), .val (.int i5), s6] [(.int (cs.getD j (0 : Int32)))])
      -- general slot
      refine own_step (fun _ k => XS.istore X.here hx rfl (hb hby d19_13) rfl (l' := #[.val (.ref a1), .val (.int i1), .val (.ref a3), .val (.int i3), .val (.int p5), .val (.int i5), .val (.int (cs.getD j (0 : Int32)))]) (XS.store1 (o := s6) rfl h6 rfl) k) ?_
      show own_Go _ _ _ _ T (mkF m 15 #[.val (.ref a1), .val (.int i1), .val (.ref a3), .val (.int i3), .val (.int p5), .val (.int i5), .val (.int (cs.getD j (0 : Int32)))] [])
      refine own_step (fun _ k => XS.iload X.here hx rfl (hb hby d19_15) rfl k) ?_
      show own_Go _ _ _ _ T (mkF m 17 #[.val (.ref a1), .val (.int i1), .val (.ref a3), .val (.int i3), .val (.int p5), .val (.int i5), .val (.int (cs.getD j (0 : Int32)))] [(.int (cs.getD j (0 : Int32)))])
      refine own_step (fun _ k => XS.sipush X.here hx rfl (hb hby d19_17) k) ?_
      show own_Go _ _ _ _ T (mkF m 20 #[.val (.ref a1), .val (.int i1), .val (.ref a3), .val (.int i3), .val (.int p5), .val (.int i5), .val (.int (cs.getD j (0 : Int32)))] [(.int (255 : Int32)), (.int (cs.getD j (0 : Int32)))])
      refine own_step (fun _ k => XS.icmpYes X.here hx rfl (pc0 := 20) (pc' := 26) rfl (hb hby d19_20) rfl (flt (hlat j)).2.2.2 (by decide) (by decide) k) ?_
      show own_Go _ _ _ _ T (mkF m 26 #[.val (.ref a1), .val (.int i1), .val (.ref a3), .val (.int i3), .val (.int p5), .val (.int i5), .val (.int (cs.getD j (0 : Int32)))] [])
      refine own_step (fun _ k => XS.aloadN X.here hx rfl (hb hby d19_26) rfl rfl k) ?_
      show own_Go _ _ _ _ T (mkF m 27 #[.val (.ref a1), .val (.int i1), .val (.ref a3), .val (.int i3), .val (.int p5), .val (.int i5), .val (.int (cs.getD j (0 : Int32)))] [(.ref a3)])
      refine own_step (fun _ k => XS.iloadN X.here hx rfl (hb hby d19_27) rfl k) ?_
      show own_Go _ _ _ _ T (mkF m 28 #[.val (.ref a1), .val (.int i1), .val (.ref a3), .val (.int i3), .val (.int p5), .val (.int i5), .val (.int (cs.getD j (0 : Int32)))] [(.int i3), (.ref a3)])
      refine own_step (fun _ k => XS.iload X.here hx rfl (hb hby d19_28) rfl k) ?_
      show own_Go _ _ _ _ T (mkF m 30 #[.val (.ref a1), .val (.int i1), .val (.ref a3), .val (.int i3), .val (.int p5), .val (.int i5), .val (.int (cs.getD j (0 : Int32)))] [(.int (cs.getD j (0 : Int32))), (.int i3), (.ref a3)])
      refine own_step (fun _ k => XS.i2b X.here hx rfl (hb hby d19_30) rfl k) ?_
      show own_Go _ _ _ _ T (mkF m 31 #[.val (.ref a1), .val (.int i1), .val (.ref a3), .val (.int i3), .val (.int p5), .val (.int i5), .val (.int (cs.getD j (0 : Int32)))] [(.int ((cs.getD j (0 : Int32)).toInt8.toInt32)), (.int i3), (.ref a3)])
      obtain ⟨T2, h2, l2, X2, e2, W2, V2, st2⟩ := own_stB X hx hZ e' V' (j := i3) ⟨own_nn h3, (own_lt h3 hcs).mpr (by omega)⟩ j (own_clamp h3) (by rw [List.length_map, own_cpl cs j (by omega)]; omega) (g := (mkF m 31 #[.val (.ref a1), .val (.int i1), .val (.ref a3), .val (.int i3), .val (.int p5), .val (.int i5), .val (.int (cs.getD j (0 : Int32)))] [(.int ((cs.getD j (0 : Int32)).toInt8.toInt32)), (.int i3), (.ref a3)])) rfl rfl (hb hby d19_31)
      refine own_step st2 ?_
      have N2 := Fr.snoc X2 N' g_a3
      have Z2 := Nat.le_trans Zp (Keep.of_wr W2).1
      have KK2 := K'.wr W2 (Or.inl (List.mem_of_getElem? (i := 0) rfl))
      rw [own_bb] at V2
      rw [← List.map_set, own_cpS cs j (by omega)] at V2
      have V_a3_2 : Arv Z h2 a3 kb .byte z ((own_cp cs (j + 1)).map Value.int) (.int (0 : Int32)) := V2
      show own_Go _ _ _ _ T2 (mkF m 32 #[.val (.ref a1), .val (.int i1), .val (.ref a3), .val (.int i3), .val (.int p5), .val (.int i5), .val (.int (cs.getD j (0 : Int32)))] [])
      refine own_step (fun _ k => XS.iinc X2.here hx rfl (hb hby d19_32) rfl (l' := #[.val (.ref a1), .val (.int (i1 + (1 : Int32))), .val (.ref a3), .val (.int i3), .val (.int p5), .val (.int i5), .val (.int (cs.getD j (0 : Int32)))]) rfl k) ?_
      show own_Go _ _ _ _ T2 (mkF m 35 #[.val (.ref a1), .val (.int (i1 + (1 : Int32))), .val (.ref a3), .val (.int i3), .val (.int p5), .val (.int i5), .val (.int (cs.getD j (0 : Int32)))] [])
      refine own_step (fun _ k => XS.iinc X2.here hx rfl (hb hby d19_35) rfl (l' := #[.val (.ref a1), .val (.int (i1 + (1 : Int32))), .val (.ref a3), .val (.int (i3 + (1 : Int32))), .val (.int p5), .val (.int i5), .val (.int (cs.getD j (0 : Int32)))]) rfl k) ?_
      show own_Go _ _ _ _ T2 (mkF m 38 #[.val (.ref a1), .val (.int (i1 + (1 : Int32))), .val (.ref a3), .val (.int (i3 + (1 : Int32))), .val (.int p5), .val (.int i5), .val (.int (cs.getD j (0 : Int32)))] [])
      refine own_step (fun _ k => XS.iinc X2.here hx rfl (hb hby d19_38) rfl (l' := #[.val (.ref a1), .val (.int (i1 + (1 : Int32))), .val (.ref a3), .val (.int (i3 + (1 : Int32))), .val (.int p5), .val (.int (i5 + (1 : Int32))), .val (.int (cs.getD j (0 : Int32)))]) rfl k) ?_
      show own_Go _ _ _ _ T2 (mkF m 41 #[.val (.ref a1), .val (.int (i1 + (1 : Int32))), .val (.ref a3), .val (.int (i3 + (1 : Int32))), .val (.int p5), .val (.int (i5 + (1 : Int32))), .val (.int (cs.getD j (0 : Int32)))] [])
      refine own_step (fun _ k => XS.goto X2.here hx rfl (pc0 := 41) (pc' := 3) rfl (hb hby d19_41) (by decide) (by decide) k) ?_
      show own_Go _ _ _ _ T2 (mkF m 3 #[.val (.ref a1), .val (.int (i1 + (1 : Int32))), .val (.ref a3), .val (.int (i3 + (1 : Int32))), .val (.int p5), .val (.int (i5 + (1 : Int32))), .val (.int (cs.getD j (0 : Int32)))] [])
      exact ih (j + 1) _ _ _ _ T2 _ _ X2 e2 N2 KK2 V_a3_2 (by omega) (own_add h1 e_1 (by omega)) (own_add h3 e_1 (by omega)) (own_add h5 e_1 (by omega)) (Or.inr ⟨_, rfl, rfl⟩)
  exact loop cs.length 0 p2 p4 (0 : Int32) .unset T0 h0 [] X0 e0 N0 (Keep.refl h0 [a3]) (by rw [own_cp0]; exact VB) (by omega) hp2 hp4 rfl (Or.inl rfl)
theorem d18_0 : decode jdk_52_method_16_code 0 = .ok (.iload_n 2, 1) := by decide +kernel
theorem d18_1 : decode jdk_52_method_16_code 1 = .ok (.newarray .byte, 2) := by decide +kernel
theorem d18_3 : decode jdk_52_method_16_code 3 = .ok (.astore_n 3, 1) := by decide +kernel
theorem d18_4 : decode jdk_52_method_16_code 4 = .ok (.aload_n 0, 1) := by decide +kernel
theorem d18_5 : decode jdk_52_method_16_code 5 = .ok (.iload_n 1, 1) := by decide +kernel
theorem d18_6 : decode jdk_52_method_16_code 6 = .ok (.aload_n 3, 1) := by decide +kernel
theorem d18_7 : decode jdk_52_method_16_code 7 = .ok (.iconst 0, 1) := by decide +kernel
theorem d18_8 : decode jdk_52_method_16_code 8 = .ok (.iload_n 2, 1) := by decide +kernel
theorem d18_9 : decode jdk_52_method_16_code 9 = .ok (.invokestatic 115, 3) := by decide +kernel
theorem d18_12 : decode jdk_52_method_16_code 12 = .ok (.istore 4, 2) := by decide +kernel
theorem d18_14 : decode jdk_52_method_16_code 14 = .ok (.iload 4, 2) := by decide +kernel
theorem d18_16 : decode jdk_52_method_16_code 16 = .ok (.iload_n 2, 1) := by decide +kernel
theorem d18_17 : decode jdk_52_method_16_code 17 = .ok (.if_icmp .eq 40, 3) := by decide +kernel
theorem d18_20 : decode jdk_52_method_16_code 20 = .ok (.aload_n 0, 1) := by decide +kernel
theorem d18_21 : decode jdk_52_method_16_code 21 = .ok (.iload_n 1, 1) := by decide +kernel
theorem d18_22 : decode jdk_52_method_16_code 22 = .ok (.iload_n 2, 1) := by decide +kernel
theorem d18_23 : decode jdk_52_method_16_code 23 = .ok (.invokestatic 119, 3) := by decide +kernel
theorem d18_26 : decode jdk_52_method_16_code 26 = .ok (.astore 5, 2) := by decide +kernel
theorem d18_28 : decode jdk_52_method_16_code 28 = .ok (.aload 5, 2) := by decide +kernel
theorem d18_30 : decode jdk_52_method_16_code 30 = .ok (.iload 4, 2) := by decide +kernel
theorem d18_32 : decode jdk_52_method_16_code 32 = .ok (.invokestatic 71, 3) := by decide +kernel
theorem d18_35 : decode jdk_52_method_16_code 35 = .ok (.sipush 255, 3) := by decide +kernel
theorem d18_38 : decode jdk_52_method_16_code 38 = .ok (.if_icmp .gt 16, 3) := by decide +kernel
theorem d18_41 : decode jdk_52_method_16_code 41 = .ok (.aload 5, 2) := by decide +kernel
theorem d18_43 : decode jdk_52_method_16_code 43 = .ok (.iconst 0, 1) := by decide +kernel
theorem d18_44 : decode jdk_52_method_16_code 44 = .ok (.aload_n 3, 1) := by decide +kernel
theorem d18_45 : decode jdk_52_method_16_code 45 = .ok (.iconst 0, 1) := by decide +kernel
theorem d18_46 : decode jdk_52_method_16_code 46 = .ok (.iload_n 2, 1) := by decide +kernel
theorem d18_47 : decode jdk_52_method_16_code 47 = .ok (.invokestatic 123, 3) := by decide +kernel
theorem d18_50 : decode jdk_52_method_16_code 50 = .ok (.iload_n 2, 1) := by decide +kernel
theorem d18_51 : decode jdk_52_method_16_code 51 = .ok (.if_icmp .eq 6, 3) := by decide +kernel
theorem d18_54 : decode jdk_52_method_16_code 54 = .ok (.aload 5, 2) := by decide +kernel
theorem d18_56 : decode jdk_52_method_16_code 56 = .ok (.areturn, 1) := by decide +kernel
theorem d18_57 : decode jdk_52_method_16_code 57 = .ok (.aload_n 3, 1) := by decide +kernel
theorem d18_58 : decode jdk_52_method_16_code 58 = .ok (.areturn, 1) := by decide +kernel
theorem ef_18 (a1 : Addr) (p2 : Int32) (z : Int32) (m : MethodId) : entryFrame m #[(.ref a1), (.int p2), (.int z)] 6 = mkF m 0 #[.val (.ref a1), .val (.int p2), .val (.int z), .unset, .unset, .unset] [] := by first | (simp [entryFrame, mkF, argsToLocals, Value.category]; done) | rfl
theorem pd_5 : parseMethodDescriptor "([CI[BII)I" = some ⟨[(.array .char), .int, (.array .byte), .int, .int], some .int⟩ := by decide +kernel
set_option maxRecDepth 65536 in
set_option maxHeartbeats 40000000 in
theorem rm18 (l : Launch) (Z : State) (a0 : Array Value) (hw : ∀ d ∈ tables_1, d.before a0 Z = true) (ws : List Jvm.Cond) (a1 : Addr) (p2 : Int32) (z : Int32) (kc : ClassId) (cs : List Int32) (h0 : Heap) (n0 : Nat) (Z0 : n0 ≤ h0.size) (VA : Arv Z h0 a1 kc .char z (cs.map Value.int) (.int (0 : Int32))) (hcs : z.toInt = (cs.length : Nat)) (hcap : cs.length ≤ 8) (hlat : ∀ t, ¬ (255 : Int32) < cs.getD t (0 : Int32)) (hp2 : p2.toInt = (0 : Nat)) :
    own_Met l (⟨"java/lang/StringUTF16", "compress", "([CII)[B"⟩ : MethodName) jdk_52_method_16_code 6 (some (.array .byte)) ws ({ frames := 1, cells := 1, slots := 8, locals := 18 } : Room) #[(.ref a1), (.int p2), (.int z)] Z h0 (fun v h L => ∃ b k, v = some (.ref b) ∧ Fr n0 L ∧ Keep h0 h [] ∧ n0 ≤ b ∧ h0.size ≤ b ∧ Arv Z h b k .byte z ((cs.map (fun c => c.toInt8.toInt32)).map Value.int) (.int (0 : Int32))) := by
  refine own_body (plainFor_of_name pn_3) (ef_18 a1 p2 z) ?_
  intro p e s m below meth c T0 X0 hx hby hml0 hret hlk hnm hown hZ e0
  have hml : c.maxLocals = 6 := hml0
  have N0 := Fr.nil n0
  refine own_step (fun _ k => XS.iloadN X0.here hx rfl (hb hby d18_0) rfl k) ?_
  show own_Go _ _ _ _ T0 (mkF m 1 #[.val (.ref a1), .val (.int p2), .val (.int z), .unset, .unset, .unset] [(.int z)])
  have hzc := own_clamp hcs
  obtain ⟨T1, h1, k1, b, g1, X1, e1, E1, V1, st1⟩ := own_newA X0 hx hZ (hw _ (List.mem_of_getElem? (i := 23) rfl)) e0 (g := (mkF m 1 #[.val (.ref a1), .val (.int p2), .val (.int z), .unset, .unset, .unset] [(.int z)])) rfl (hb hby d18_1) rfl (own_nn hcs) (cap := 8) (by rw [hzc]; exact hcap) (by decide) (by decide) (by decide)
  have ne_a1_b : a1 ≠ b := Nat.ne_of_lt (Nat.lt_of_lt_of_eq VA.lt g1.symm)
  have g_b : n0 ≤ b := Nat.le_trans Z0 (Nat.le_of_eq g1.symm)
  have sz_b : h0.size ≤ b := Nat.le_trans (Keep.refl h0 []).1 (Nat.le_of_eq g1.symm)
  refine own_step st1 ?_
  have Z1 := Nat.le_trans Z0 E1.1
  have KK1 := (Keep.refl h0 []).ext E1
  have VB : Arv Z h1 b k1 .byte z ((List.replicate cs.length (0 : Int32)).map Value.int) (.int (0 : Int32)) := by
    refine Arv.pad V1 (fun i => ?_)
    rw [List.map_replicate]; show _ = (List.replicate 8 (Value.int 0)).getD i (.int 0)
    simp only [List.getD_eq_getElem?_getD, List.getElem?_replicate]; split <;> split <;> rfl
  show own_Go _ _ _ _ T1 (mkF m 3 #[.val (.ref a1), .val (.int p2), .val (.int z), .unset, .unset, .unset] [(.ref b)])
  refine own_step (fun _ k => XS.astoreN X1.here hx rfl (hb hby d18_3) rfl rfl (l' := #[.val (.ref a1), .val (.int p2), .val (.int z), .val (.ref b), .unset, .unset]) rfl k) ?_
  show own_Go _ _ _ _ T1 (mkF m 4 #[.val (.ref a1), .val (.int p2), .val (.int z), .val (.ref b), .unset, .unset] [])
  refine own_step (fun _ k => XS.aloadN X1.here hx rfl (hb hby d18_4) rfl rfl k) ?_
  show own_Go _ _ _ _ T1 (mkF m 5 #[.val (.ref a1), .val (.int p2), .val (.int z), .val (.ref b), .unset, .unset] [(.ref a1)])
  refine own_step (fun _ k => XS.iloadN X1.here hx rfl (hb hby d18_5) rfl k) ?_
  show own_Go _ _ _ _ T1 (mkF m 6 #[.val (.ref a1), .val (.int p2), .val (.int z), .val (.ref b), .unset, .unset] [(.int p2), (.ref a1)])
  refine own_step (fun _ k => XS.aloadN X1.here hx rfl (hb hby d18_6) rfl rfl k) ?_
  show own_Go _ _ _ _ T1 (mkF m 7 #[.val (.ref a1), .val (.int p2), .val (.int z), .val (.ref b), .unset, .unset] [(.ref b), (.int p2), (.ref a1)])
  refine own_step (fun _ k => XS.iconst X1.here hx rfl (hb hby d18_7) k) ?_
  show own_Go _ _ _ _ T1 (mkF m 8 #[.val (.ref a1), .val (.int p2), .val (.int z), .val (.ref b), .unset, .unset] [(.int (0 : Int32)), (.ref b), (.int p2), (.ref a1)])
  refine own_step (fun _ k => XS.iloadN X1.here hx rfl (hb hby d18_8) rfl k) ?_
  show own_Go _ _ _ _ T1 (mkF m 9 #[.val (.ref a1), .val (.int p2), .val (.int z), .val (.ref b), .unset, .unset] [(.int z), (.int (0 : Int32)), (.ref b), (.int p2), (.ref a1)])
  have Q2 := (VA.ext E1)
  refine own_callS X1 hx hZ (y := (⟨"java/lang/StringUTF16", "compress", "([CI[BII)I"⟩ : MethodName)) hown (hw _ (List.mem_of_getElem? (i := 85) rfl)) (hw _ (List.mem_of_getElem? (i := 86) rfl)) (hw _ (List.mem_of_getElem? (i := 83) rfl)) (hw _ (List.mem_of_getElem? (i := 87) rfl)) (by decide) (rm19 l Z a0 hw [] a1 p2 b (0 : Int32) z kc k1 z cs h1 n0 Z1 Q2 VB hcs hcap hlat ne_a1_b hcs hp2 rfl g_b) e1 0 (by decide) (by decide) (by decide) (by decide) (g := (mkF m 9 #[.val (.ref a1), .val (.int p2), .val (.int z), .val (.ref b), .unset, .unset] [(.int z), (.int (0 : Int32)), (.ref b), (.int p2), (.ref a1)])) rfl (by rw [hml]; rfl) [(.ref a1), (.int p2), (.ref b), (.int (0 : Int32)), (.int z)] [] pd_5 rfl rfl rfl (by show 2 * 0 + _ ≤ _; exact Nat.le_of_eq rfl) (hb hby d18_9) ?_
  rintro v3 T3 L3 X3 ⟨rfl, Nq3, K3, V3⟩
  have N3 := Fr.app N0 Nq3
  show own_Go _ _ _ _ T3 (mkF m 12 #[.val (.ref a1), .val (.int p2), .val (.int z), .val (.ref b), .unset, .unset] [(.int z)])
  have Z3 := Nat.le_trans Z1 K3.1
  have KK3 := KK1.trans K3 (allS (P := fun x => x ∈ [] ∨ h0.size ≤ x) (Or.inr sz_b) all0)
  refine own_step (fun _ k => XS.istore X3.here hx rfl (hb hby d18_12) rfl (l' := #[.val (.ref a1), .val (.int p2), .val (.int z), .val (.ref b), .val (.int z), .unset]) rfl k) ?_
  show own_Go _ _ _ _ T3 (mkF m 14 #[.val (.ref a1), .val (.int p2), .val (.int z), .val (.ref b), .val (.int z), .unset] [])
  refine own_step (fun _ k => XS.iload X3.here hx rfl (hb hby d18_14) rfl k) ?_
  show own_Go _ _ _ _ T3 (mkF m 16 #[.val (.ref a1), .val (.int p2), .val (.int z), .val (.ref b), .val (.int z), .unset] [(.int z)])
  refine own_step (fun _ k => XS.iloadN X3.here hx rfl (hb hby d18_16) rfl k) ?_
  show own_Go _ _ _ _ T3 (mkF m 17 #[.val (.ref a1), .val (.int p2), .val (.int z), .val (.ref b), .val (.int z), .unset] [(.int z), (.int z)])
  refine own_step (fun _ k => XS.icmpYes X3.here hx rfl (pc0 := 17) (pc' := 57) rfl (hb hby d18_17) rfl (teq (rfl : z = z)).1 (by decide) (by decide) k) ?_
  show own_Go _ _ _ _ T3 (mkF m 57 #[.val (.ref a1), .val (.int p2), .val (.int z), .val (.ref b), .val (.int z), .unset] [])
  refine own_step (fun _ k => XS.aloadN X3.here hx rfl (hb hby d18_57) rfl rfl k) ?_
  show own_Go _ _ _ _ T3 (mkF m 58 #[.val (.ref a1), .val (.int p2), .val (.int z), .val (.ref b), .val (.int z), .unset] [(.ref b)])
  exact own_retA X3 hx hret rfl hlk rfl rfl (hb hby d18_58) (own_N (by exact ⟨b, _, rfl, N3, KK3, g_b, sz_b, V3⟩) (by decide) (by decide)) 
theorem d20_0 : decode jdk_52_method_15_code 0 = .ok (.iload_n 1, 1) := by decide +kernel
theorem d20_1 : decode jdk_52_method_15_code 1 = .ok (.aload_n 0, 1) := by decide +kernel
theorem d20_2 : decode jdk_52_method_15_code 2 = .ok (.arraylength, 1) := by decide +kernel
theorem d20_3 : decode jdk_52_method_15_code 3 = .ok (.isub, 1) := by decide +kernel
theorem d20_4 : decode jdk_52_method_15_code 4 = .ok (.bipush 31, 2) := by decide +kernel
theorem d20_6 : decode jdk_52_method_15_code 6 = .ok (.iushr, 1) := by decide +kernel
theorem d20_7 : decode jdk_52_method_15_code 7 = .ok (.i2b, 1) := by decide +kernel
theorem d20_8 : decode jdk_52_method_15_code 8 = .ok (.ireturn, 1) := by decide +kernel
theorem ef_20 (a1 : Addr) (p2 : Int32) (m : MethodId) : entryFrame m #[(.ref a1), (.int p2)] 2 = mkF m 0 #[.val (.ref a1), .val (.int p2)] [] := by first | (simp [entryFrame, mkF, argsToLocals, Value.category]; done) | rfl
set_option maxRecDepth 65536 in
set_option maxHeartbeats 40000000 in
theorem rm20 (l : Launch) (Z : State) (a0 : Array Value) (hw : ∀ d ∈ tables_1, d.before a0 Z = true) (ws : List Jvm.Cond) (a1 : Addr) (p2 : Int32) (kb : ClassId) (vs : List Value) (h0 : Heap) (n0 : Nat) (Z0 : n0 ≤ h0.size) (VB : Arv Z h0 a1 kb .byte p2 vs (.int (0 : Int32))) :
    own_Met l (⟨"java/lang/StringUTF16", "coderFromArrayLen", "([BI)B"⟩ : MethodName) jdk_52_method_15_code 2 (some .byte) ws ({ frames := 0, cells := 0, slots := 0, locals := 0 } : Room) #[(.ref a1), (.int p2)] Z h0 (fun v h L => v = some (.int (0 : Int32)) ∧ Fr n0 L ∧ h = h0) := by
  refine own_body (plainFor_of_name pn_3) (ef_20 a1 p2) ?_
  intro p e s m below meth c T0 X0 hx hby hml0 hret hlk hnm hown hZ e0
  have hml : c.maxLocals = 2 := hml0
  have N0 := Fr.nil n0
  refine own_step (fun _ k => XS.iloadN X0.here hx rfl (hb hby d20_0) rfl k) ?_
  show own_Go _ _ _ _ T0 (mkF m 1 #[.val (.ref a1), .val (.int p2)] [(.int p2)])
  refine own_step (fun _ k => XS.aloadN X0.here hx rfl (hb hby d20_1) rfl rfl k) ?_
  show own_Go _ _ _ _ T0 (mkF m 2 #[.val (.ref a1), .val (.int p2)] [(.ref a1), (.int p2)])
  refine own_step (own_len X0 hx hZ e0 VB (g := (mkF m 2 #[.val (.ref a1), .val (.int p2)] [(.ref a1), (.int p2)])) rfl rfl (hb hby d20_2)) ?_
  show own_Go _ _ _ _ T0 (mkF m 3 #[.val (.ref a1), .val (.int p2)] [(.int p2), (.int p2)])
  refine own_step (fun _ k => XS.isub X0.here hx rfl (hb hby d20_3) rfl k) ?_
  show own_Go _ _ _ _ T0 (mkF m 4 #[.val (.ref a1), .val (.int p2)] [(.int (p2 - p2))])
  rw [Int32.sub_self]
  show own_Go _ _ _ _ T0 (mkF m 4 #[.val (.ref a1), .val (.int p2)] [(.int (0 : Int32))])
  refine own_step (fun _ k => XS.bipush X0.here hx rfl (hb hby d20_4) k) ?_
  show own_Go _ _ _ _ T0 (mkF m 6 #[.val (.ref a1), .val (.int p2)] [(.int (31 : Int32)), (.int (0 : Int32))])
  refine own_step (fun _ k => XS.iushr X0.here hx rfl (hb hby d20_6) rfl k) ?_
  show own_Go _ _ _ _ T0 (mkF m 7 #[.val (.ref a1), .val (.int p2)] [(.int (((0 : Int32).toUInt32 >>> ((31 : Int32) &&& 31).toUInt32).toInt32))])
  refine own_step (fun _ k => XS.i2b X0.here hx rfl (hb hby d20_7) rfl k) ?_
  show own_Go _ _ _ _ T0 (mkF m 8 #[.val (.ref a1), .val (.int p2)] [(.int ((((0 : Int32).toUInt32 >>> ((31 : Int32) &&& 31).toUInt32).toInt32).toInt8.toInt32))])
  show own_Go _ _ _ _ T0 (mkF m 8 #[.val (.ref a1), .val (.int p2)] [(.int (0 : Int32))])
  exact own_retN X0 hx (t := .byte) hret (by simp) hlk (hb hby d20_8) rfl (own_N ⟨rfl, N0, e0⟩ (by decide) (by decide)) 
theorem d4_0 : decode jdk_42_method_149_code 0 = .ok (.aload_n 0, 1) := by decide +kernel
theorem d4_1 : decode jdk_42_method_149_code 1 = .ok (.invokespecial 1, 3) := by decide +kernel
theorem d4_4 : decode jdk_42_method_149_code 4 = .ok (.iload_n 3, 1) := by decide +kernel
theorem d4_5 : decode jdk_42_method_149_code 5 = .ok (.ifCond .ne 22, 3) := by decide +kernel
theorem d4_8 : decode jdk_42_method_149_code 8 = .ok (.aload_n 0, 1) := by decide +kernel
theorem d4_9 : decode jdk_42_method_149_code 9 = .ok (.ldc 7, 2) := by decide +kernel
theorem d4_11 : decode jdk_42_method_149_code 11 = .ok (.getfield 9, 3) := by decide +kernel
theorem d4_14 : decode jdk_42_method_149_code 14 = .ok (.putfield 9, 3) := by decide +kernel
theorem d4_17 : decode jdk_42_method_149_code 17 = .ok (.aload_n 0, 1) := by decide +kernel
theorem d4_18 : decode jdk_42_method_149_code 18 = .ok (.ldc 7, 2) := by decide +kernel
theorem d4_20 : decode jdk_42_method_149_code 20 = .ok (.getfield 15, 3) := by decide +kernel
theorem d4_23 : decode jdk_42_method_149_code 23 = .ok (.putfield 15, 3) := by decide +kernel
theorem d4_26 : decode jdk_42_method_149_code 26 = .ok (.return_, 1) := by decide +kernel
theorem d4_27 : decode jdk_42_method_149_code 27 = .ok (.getstatic 38, 3) := by decide +kernel
theorem d4_30 : decode jdk_42_method_149_code 30 = .ok (.ifCond .eq 28, 3) := by decide +kernel
theorem d4_33 : decode jdk_42_method_149_code 33 = .ok (.aload_n 1, 1) := by decide +kernel
theorem d4_34 : decode jdk_42_method_149_code 34 = .ok (.iload_n 2, 1) := by decide +kernel
theorem d4_35 : decode jdk_42_method_149_code 35 = .ok (.iload_n 3, 1) := by decide +kernel
theorem d4_36 : decode jdk_42_method_149_code 36 = .ok (.invokestatic 177, 3) := by decide +kernel
theorem d4_39 : decode jdk_42_method_149_code 39 = .ok (.astore 5, 2) := by decide +kernel
theorem d4_41 : decode jdk_42_method_149_code 41 = .ok (.aload_n 0, 1) := by decide +kernel
theorem d4_42 : decode jdk_42_method_149_code 42 = .ok (.aload 5, 2) := by decide +kernel
theorem d4_44 : decode jdk_42_method_149_code 44 = .ok (.iload_n 3, 1) := by decide +kernel
theorem d4_45 : decode jdk_42_method_149_code 45 = .ok (.invokestatic 47, 3) := by decide +kernel
theorem d4_48 : decode jdk_42_method_149_code 48 = .ok (.putfield 15, 3) := by decide +kernel
theorem d4_51 : decode jdk_42_method_149_code 51 = .ok (.aload_n 0, 1) := by decide +kernel
theorem d4_52 : decode jdk_42_method_149_code 52 = .ok (.aload 5, 2) := by decide +kernel
theorem d4_54 : decode jdk_42_method_149_code 54 = .ok (.putfield 9, 3) := by decide +kernel
theorem d4_57 : decode jdk_42_method_149_code 57 = .ok (.return_, 1) := by decide +kernel
theorem d4_58 : decode jdk_42_method_149_code 58 = .ok (.aload_n 0, 1) := by decide +kernel
theorem d4_59 : decode jdk_42_method_149_code 59 = .ok (.iconst 1, 1) := by decide +kernel
theorem d4_60 : decode jdk_42_method_149_code 60 = .ok (.putfield 15, 3) := by decide +kernel
theorem d4_63 : decode jdk_42_method_149_code 63 = .ok (.aload_n 0, 1) := by decide +kernel
theorem d4_64 : decode jdk_42_method_149_code 64 = .ok (.aload_n 1, 1) := by decide +kernel
theorem d4_65 : decode jdk_42_method_149_code 65 = .ok (.iload_n 2, 1) := by decide +kernel
theorem d4_66 : decode jdk_42_method_149_code 66 = .ok (.iload_n 3, 1) := by decide +kernel
theorem d4_67 : decode jdk_42_method_149_code 67 = .ok (.invokestatic 180, 3) := by decide +kernel
theorem d4_70 : decode jdk_42_method_149_code 70 = .ok (.putfield 9, 3) := by decide +kernel
theorem d4_73 : decode jdk_42_method_149_code 73 = .ok (.return_, 1) := by decide +kernel
theorem ef_4 (a1 : Addr) (a2 : Addr) (p3 : Int32) (z : Int32) (m : MethodId) : entryFrame m #[(.ref a1), (.ref a2), (.int p3), (.int z), .null] 6 = mkF m 0 #[.val (.ref a1), .val (.ref a2), .val (.int p3), .val (.int z), .val .null, .unset] [] := by first | (simp [entryFrame, mkF, argsToLocals, Value.category]; done) | rfl
theorem pd_6 : parseMethodDescriptor "([CII)[B" = some ⟨[(.array .char), .int, .int], some (.array .byte)⟩ := by decide +kernel
theorem pd_7 : parseMethodDescriptor "([BI)B" = some ⟨[(.array .byte), .int], some .byte⟩ := by decide +kernel
set_option maxRecDepth 65536 in
set_option maxHeartbeats 40000000 in
theorem rm4 (l : Launch) (Z : State) (a0 : Array Value) (hw : ∀ d ∈ tables_1, d.before a0 Z = true) (ws : List Jvm.Cond) (a1 : Addr) (a2 : Addr) (p3 : Int32) (z : Int32) (kc : ClassId) (cz : Int32) (cs : List Int32) (h0 : Heap) (n0 : Nat) (Z0 : n0 ≤ h0.size) (hEL : EW Z a0 own_EL) (O0 : Old Z n0 h0) (SC : Sta Z Z.heap "java/lang/String" "COMPACT_STRINGS" "Z" (.int cz)) (hcz : ¬ cz = (0 : Int32)) (E_a1 : Exa Z h0 a1 "java/lang/String") (FC_a1 : Fld Z h0 a1 "java/lang/String" "coder" "B" (.int (0 : Int32))) (FV_a1 : Fld Z h0 a1 "java/lang/String" "value" "[B" .null) (VA : Arv Z h0 a2 kc .char z (cs.map Value.int) (.int (0 : Int32))) (hcs : z.toInt = (cs.length : Nat)) (hcap : cs.length ≤ 8) (hlat : ∀ t, ¬ (255 : Int32) < cs.getD t (0 : Int32)) (g_a1 : n0 ≤ a1) (hp3 : p3 = (0 : Int32)) :
    own_MetW l (⟨"java/lang/String", "<init>", "([CIILjava/lang/Void;)V"⟩ : MethodName) jdk_42_method_149_code 6 none ws ({ frames := 2, cells := 4, slots := 8, locals := 35 } : Room) #[(.ref a1), (.ref a2), (.int p3), (.int z), .null] Z own_EL h0 (fun v h L => ∃ b k, v = none ∧ Fr n0 L ∧ Keep h0 h [a1] ∧ (Exa Z h a1 "java/lang/String" ∧ Fld Z h a1 "java/lang/String" "coder" "B" (.int (0 : Int32)) ∧ Fld Z h a1 "java/lang/String" "value" "[B" (.ref b)) ∧ Arv Z h b k .byte z ((cs.map (fun c => c.toInt8.toInt32)).map Value.int) (.int (0 : Int32))) := by
  refine own_bodyW (plainFor_of_name pn_0) (ef_4 a1 a2 p3 z) ?_
  intro p e s m below meth c T0 X0 hx hby hml0 hret hlk hnm hown hZ e0 eS H0 hS0
  have C0 := CHr.refl H0
  have hml : c.maxLocals = 6 := hml0
  have N0 := Fr.nil n0
  have ne_a1_a2 : a1 ≠ a2 := Exa.neArv E_a1 VA (hw _ (List.mem_of_getElem? (i := 10) rfl))
  have Sf0 := own_safe (EL := own_EL) hZ.alike E_a1 FV_a1
  refine own_step (fun _ k => XS.aloadN X0.here hx rfl (hb hby d4_0) rfl rfl k) ?_
  show own_Go _ _ _ _ T0 (mkF m 1 #[.val (.ref a1), .val (.ref a2), .val (.int p3), .val (.int z), .val .null, .unset] [(.ref a1)])
  obtain ⟨T1, X1, e1, st1⟩ := initO X0 hx hZ hown (hw _ (List.mem_of_getElem? (i := 19) rfl)) (hw _ (List.mem_of_getElem? (i := 20) rfl)) (hw _ (List.mem_of_getElem? (i := 21) rfl)) e0 (g := (mkF m 1 #[.val (.ref a1), .val (.ref a2), .val (.int p3), .val (.int z), .val .null, .unset] [(.ref a1)])) rfl (by rw [hml]; rfl) rfl (hb hby d4_1) (by decide) (W := 0) (by show 2 * 0 + _ ≤ _; exact Nat.le_of_eq rfl) (by decide)
  refine own_step st1 ?_
  show own_Go _ _ _ _ T1 (mkF m 4 #[.val (.ref a1), .val (.ref a2), .val (.int p3), .val (.int z), .val .null, .unset] [])
  refine own_step (fun _ k => XS.iloadN X1.here hx rfl (hb hby d4_4) rfl k) ?_
  show own_Go _ _ _ _ T1 (mkF m 5 #[.val (.ref a1), .val (.ref a2), .val (.int p3), .val (.int z), .val .null, .unset] [(.int z)])
  by_cases hz0 : z = (0 : Int32)
  · refine own_step (fun _ k => XS.ifNo X1.here hx rfl (hb hby d4_5) rfl ((if0 _ _).trans (teq hz0).2) k) ?_
    show own_Go _ _ _ _ T1 (mkF m 8 #[.val (.ref a1), .val (.ref a2), .val (.int p3), .val (.int z), .val .null, .unset] [])
    have hnil : cs = [] := List.eq_nil_of_length_eq_zero (by rw [hz0] at hcs; have e0 : (0 : Int32).toInt = 0 := rfl; omega)
    subst hnil
    refine own_step (fun _ k => XS.aloadN X1.here hx rfl (hb hby d4_8) rfl rfl k) ?_
    show own_Go _ _ _ _ T1 (mkF m 9 #[.val (.ref a1), .val (.ref a2), .val (.int p3), .val (.int z), .val .null, .unset] [(.ref a1)])
    obtain ⟨lit2, T2, h2, k12, lib2, kd2, X2, e2, E2, hS2, hk2, hZ, hown, EX2, FC2, FV2, V2, lt12, lt22, D2, Ld2, sf2, st2⟩ := ldcCH X1 hx hZ hown (hw _ (List.mem_of_getElem? (i := 22) rfl)) (own_wS hw) e1 hS0 (Nat.le_refl _) hEL (List.mem_of_getElem? (i := 0) rfl) C0.1 (vs := []) (z := (0 : Int32)) ⟨fun c hc => absurd hc (by simp), rfl⟩ (by decide) rfl (g := (mkF m 9 #[.val (.ref a1), .val (.ref a2), .val (.int p3), .val (.int z), .val .null, .unset] [(.ref a1)])) rfl (hb hby d4_9) (n := 0) (by simp) (by decide) (by decide) (by decide)
    refine own_step st2 ?_
    have Z2 := Nat.le_trans Z0 E2.1
    have KK2 := (Keep.refl h0 [a1]).ext E2
    have Sf_a1_2 := CHr.safe D2 E_a1.lt Sf0
    have C2 := C0.trans D2
    show own_Go _ _ _ _ T2 (mkF m 11 #[.val (.ref a1), .val (.ref a2), .val (.int p3), .val (.int z), .val .null, .unset] [(.ref lit2), (.ref a1)])
    obtain ⟨T3, X3, e3, st3⟩ := getF X2 hx hZ hown (host := "") (Or.inl (hw _ (List.mem_of_getElem? (i := 28) rfl))) Via.refl e2 FV2 (g := (mkF m 11 #[.val (.ref a1), .val (.ref a2), .val (.int p3), .val (.int z), .val .null, .unset] [(.ref lit2), (.ref a1)])) rfl rfl (hb hby d4_11)
    refine own_step st3 ?_
    show own_Go _ _ _ _ T3 (mkF m 14 #[.val (.ref a1), .val (.ref a2), .val (.int p3), .val (.int z), .val .null, .unset] [(.ref lib2), (.ref a1)])
    have Q4 := (FV_a1.ext E2)
    have Q5 := (E_a1.ext E2)
    obtain ⟨T6, h6, X6, e6, W6, st6⟩ := putF X3 hx hZ hown (host := "") (Or.inl (hw _ (List.mem_of_getElem? (i := 28) rfl))) Via.refl e3 Q4 Q5 (Or.inr ⟨(hw _ (List.mem_of_getElem? (i := 24) rfl)), rfl, hnm⟩) (hw _ (List.mem_of_getElem? (i := 10) rfl)) (ty := (.array .byte)) (by decide) rfl rfl (g := (mkF m 14 #[.val (.ref a1), .val (.ref a2), .val (.int p3), .val (.int z), .val .null, .unset] [(.ref lib2), (.ref a1)])) rfl rfl (hb hby d4_14)
    refine own_step st6 ?_
    have N6 := Fr.snoc X6 N0 g_a1
    have F6 := Q4.same W6
    have Dc6 := (CHr.wr W6 Sf_a1_2 C2.1)
    have Sf_a1_6 := CHr.safe Dc6 Q5.lt Sf_a1_2
    have C6 := C2.trans Dc6
    have hk6 := Nat.le_trans hk2 Dc6.2.1
    have Z6 := Nat.le_trans Z2 (Keep.of_wr W6).1
    have KK6 := KK2.wr W6 (Or.inl (List.mem_of_getElem? (i := 0) rfl))
    show own_Go _ _ _ _ T6 (mkF m 17 #[.val (.ref a1), .val (.ref a2), .val (.int p3), .val (.int z), .val .null, .unset] [])
    refine own_step (fun _ k => XS.aloadN X6.here hx rfl (hb hby d4_17) rfl rfl k) ?_
    show own_Go _ _ _ _ T6 (mkF m 18 #[.val (.ref a1), .val (.ref a2), .val (.int p3), .val (.int z), .val .null, .unset] [(.ref a1)])
    obtain ⟨lit7, T7, h7, k17, lib7, kd7, X7, e7, E7, hS7, hk7, hZ, hown, EX7, FC7, FV7, V7, lt17, lt27, D7, Ld7, sf7, st7⟩ := ldcCH X6 hx hZ hown (hw _ (List.mem_of_getElem? (i := 22) rfl)) (own_wS hw) e6 hS2 hk6 hEL (List.mem_of_getElem? (i := 0) rfl) C6.1 (vs := []) (z := (0 : Int32)) ⟨fun c hc => absurd hc (by simp), rfl⟩ (by decide) rfl (g := (mkF m 18 #[.val (.ref a1), .val (.ref a2), .val (.int p3), .val (.int z), .val .null, .unset] [(.ref a1)])) rfl (hb hby d4_18) (n := 0) (by simp) (by decide) (by decide) (by decide)
    refine own_step st7 ?_
    have Q8 := (Q5.wr W6)
    have Z7 := Nat.le_trans Z6 E7.1
    have KK7 := KK6.ext E7
    have Sf_a1_7 := CHr.safe D7 Q8.lt Sf_a1_6
    have C7 := C6.trans D7
    show own_Go _ _ _ _ T7 (mkF m 20 #[.val (.ref a1), .val (.ref a2), .val (.int p3), .val (.int z), .val .null, .unset] [(.ref lit7), (.ref a1)])
    obtain ⟨T9, X9, e9, st9⟩ := getF X7 hx hZ hown (host := "") (Or.inl (hw _ (List.mem_of_getElem? (i := 29) rfl))) Via.refl e7 FC7 (g := (mkF m 20 #[.val (.ref a1), .val (.ref a2), .val (.int p3), .val (.int z), .val .null, .unset] [(.ref lit7), (.ref a1)])) rfl rfl (hb hby d4_20)
    refine own_step st9 ?_
    show own_Go _ _ _ _ T9 (mkF m 23 #[.val (.ref a1), .val (.ref a2), .val (.int p3), .val (.int z), .val .null, .unset] [(.int (0 : Int32)), (.ref a1)])
    have Q10 := (((FC_a1.ext E2).other W6 (Or.inr (slot_ne (Or.inr (hw _ (List.mem_of_getElem? (i := 25) rfl))) (Or.inr (hw _ (List.mem_of_getElem? (i := 24) rfl))) (by decide) (t := .byte) (t' := (.array .byte)) (by decide) (by decide)))).ext E7)
    have Q11 := (Q8.ext E7)
    obtain ⟨T12, h12, X12, e12, W12, st12⟩ := putFN X9 hx hZ hown (hw _ (List.mem_of_getElem? (i := 29) rfl)) Via.refl e9 Q10 Q11 (Or.inr ⟨(hw _ (List.mem_of_getElem? (i := 25) rfl)), rfl, hnm⟩) (hw _ (List.mem_of_getElem? (i := 10) rfl)) (ty := .byte) (v' := (.int (0 : Int32))) (by decide) rfl (fits_nar_byte (0 : Int32)) (g := (mkF m 23 #[.val (.ref a1), .val (.ref a2), .val (.int p3), .val (.int z), .val .null, .unset] [(.int (0 : Int32)), (.ref a1)])) rfl rfl (hb hby d4_23)
    refine own_step st12 ?_
    have N12 := Fr.snoc X12 N6 g_a1
    have F12 := Q10.same W12
    have Dc12 := (CHr.wr W12 Sf_a1_7 C7.1)
    have Sf_a1_12 := CHr.safe Dc12 Q11.lt Sf_a1_7
    have C12 := C7.trans Dc12
    have hk12 := Nat.le_trans hk7 Dc12.2.1
    have Z12 := Nat.le_trans Z7 (Keep.of_wr W12).1
    have KK12 := KK7.wr W12 (Or.inl (List.mem_of_getElem? (i := 0) rfl))
    show own_Go _ _ _ _ T12 (mkF m 26 #[.val (.ref a1), .val (.ref a2), .val (.int p3), .val (.int z), .val .null, .unset] [])
    have Q13 := (Q11.wr W12)
    have Q14 := ((F6.ext E7).other W12 (Or.inr (slot_ne (Or.inr (hw _ (List.mem_of_getElem? (i := 24) rfl))) (Or.inr (hw _ (List.mem_of_getElem? (i := 25) rfl))) (by decide) (t := (.array .byte)) (t' := .byte) (by decide) (by decide))))
    have Q15 := (((V2.other W6 (Ne.symm (sf2 a1 Sf_a1_2).2)).ext E7).other W12 (Ne.symm (sf2 a1 Sf_a1_2).2))
    exact own_retV X12 hx hret hlk (hb hby d4_26) (own_W X12 hS7 hk12 e12 eS hZ hEL C12 (by rw [e12, hz0]; exact ⟨lib2, _, rfl, N12, KK12, ⟨Q13, F12, Q14⟩, Q15⟩) (by decide) (by decide)) 
  · refine own_step (fun _ k => XS.ifYes X1.here hx rfl (pc0 := 5) (pc' := 27) rfl (hb hby d4_5) rfl ((if0 _ _).trans (feq hz0).2) (by decide) (by decide) k) ?_
    show own_Go _ _ _ _ T1 (mkF m 27 #[.val (.ref a1), .val (.ref a2), .val (.int p3), .val (.int z), .val .null, .unset] [])
    obtain ⟨T16, X16, e16, st16⟩ := getS2 X1 hx hZ hown (host := "") (Or.inl (hw _ (List.mem_of_getElem? (i := 49) rfl))) Via.refl e1 (SC.ext O0.2) (g := (mkF m 27 #[.val (.ref a1), .val (.ref a2), .val (.int p3), .val (.int z), .val .null, .unset] [])) rfl (hb hby d4_27)
    refine own_step st16 ?_
    show own_Go _ _ _ _ T16 (mkF m 30 #[.val (.ref a1), .val (.ref a2), .val (.int p3), .val (.int z), .val .null, .unset] [(.int cz)])
    refine own_step (fun _ k => XS.ifNo X16.here hx rfl (hb hby d4_30) rfl ((if0 _ _).trans (feq hcz).1) k) ?_
    show own_Go _ _ _ _ T16 (mkF m 33 #[.val (.ref a1), .val (.ref a2), .val (.int p3), .val (.int z), .val .null, .unset] [])
    refine own_step (fun _ k => XS.aloadN X16.here hx rfl (hb hby d4_33) rfl rfl k) ?_
    show own_Go _ _ _ _ T16 (mkF m 34 #[.val (.ref a1), .val (.ref a2), .val (.int p3), .val (.int z), .val .null, .unset] [(.ref a2)])
    refine own_step (fun _ k => XS.iloadN X16.here hx rfl (hb hby d4_34) rfl k) ?_
    show own_Go _ _ _ _ T16 (mkF m 35 #[.val (.ref a1), .val (.ref a2), .val (.int p3), .val (.int z), .val .null, .unset] [(.int p3), (.ref a2)])
    refine own_step (fun _ k => XS.iloadN X16.here hx rfl (hb hby d4_35) rfl k) ?_
    show own_Go _ _ _ _ T16 (mkF m 36 #[.val (.ref a1), .val (.ref a2), .val (.int p3), .val (.int z), .val .null, .unset] [(.int z), (.int p3), (.ref a2)])
    refine own_callS X16 hx hZ (y := (⟨"java/lang/StringUTF16", "compress", "([CII)[B"⟩ : MethodName)) hown (hw _ (List.mem_of_getElem? (i := 81) rfl)) (hw _ (List.mem_of_getElem? (i := 82) rfl)) (hw _ (List.mem_of_getElem? (i := 83) rfl)) (hw _ (List.mem_of_getElem? (i := 84) rfl)) (by decide) (rm18 l Z a0 hw [] a2 p3 z kc cs h0 n0 Z0 VA hcs hcap hlat (by rw [hp3]; rfl)) e16 0 (by decide) (by decide) (by decide) (by decide) (g := (mkF m 36 #[.val (.ref a1), .val (.ref a2), .val (.int p3), .val (.int z), .val .null, .unset] [(.int z), (.int p3), (.ref a2)])) rfl (by rw [hml]; rfl) [(.ref a2), (.int p3), (.int z)] [] pd_6 rfl rfl rfl (by show 2 * 0 + _ ≤ _; exact Nat.le_of_eq rfl) (hb hby d4_36) ?_
    rintro v17 T17 L17 X17 ⟨bv, kv, rfl, Nq17, K17, g_bv, sb17, V17⟩
    have N17 := Fr.app N0 Nq17
    show own_Go _ _ _ _ T17 (mkF m 39 #[.val (.ref a1), .val (.ref a2), .val (.int p3), .val (.int z), .val .null, .unset] [(.ref bv)])
    have ne_a1_bv : a1 ≠ bv := Nat.ne_of_lt (Nat.lt_of_lt_of_le E_a1.lt sb17)
    have Dc17 := (CHr.keep K17 sf0 C0.1)
    have Sf_a1_17 := CHr.safe Dc17 E_a1.lt Sf0
    have C17 := C0.trans Dc17
    have hk17 := Nat.le_trans (Nat.le_refl _) Dc17.2.1
    have Z17 := Nat.le_trans Z0 K17.1
    have KK17 := (Keep.refl h0 [a1]).trans K17 all0
    refine own_step (fun _ k => XS.astore X17.here hx rfl (hb hby d4_39) rfl rfl (l' := #[.val (.ref a1), .val (.ref a2), .val (.int p3), .val (.int z), .val .null, .val (.ref bv)]) rfl k) ?_
    show own_Go _ _ _ _ T17 (mkF m 41 #[.val (.ref a1), .val (.ref a2), .val (.int p3), .val (.int z), .val .null, .val (.ref bv)] [])
    refine own_step (fun _ k => XS.aloadN X17.here hx rfl (hb hby d4_41) rfl rfl k) ?_
    show own_Go _ _ _ _ T17 (mkF m 42 #[.val (.ref a1), .val (.ref a2), .val (.int p3), .val (.int z), .val .null, .val (.ref bv)] [(.ref a1)])
    refine own_step (fun _ k => XS.aload X17.here hx rfl (hb hby d4_42) rfl rfl k) ?_
    show own_Go _ _ _ _ T17 (mkF m 44 #[.val (.ref a1), .val (.ref a2), .val (.int p3), .val (.int z), .val .null, .val (.ref bv)] [(.ref bv), (.ref a1)])
    refine own_step (fun _ k => XS.iloadN X17.here hx rfl (hb hby d4_44) rfl k) ?_
    show own_Go _ _ _ _ T17 (mkF m 45 #[.val (.ref a1), .val (.ref a2), .val (.int p3), .val (.int z), .val .null, .val (.ref bv)] [(.int z), (.ref bv), (.ref a1)])
    refine own_callS X17 hx hZ (y := (⟨"java/lang/StringUTF16", "coderFromArrayLen", "([BI)B"⟩ : MethodName)) hown (hw _ (List.mem_of_getElem? (i := 88) rfl)) (hw _ (List.mem_of_getElem? (i := 89) rfl)) (hw _ (List.mem_of_getElem? (i := 83) rfl)) (hw _ (List.mem_of_getElem? (i := 90) rfl)) (by decide) (rm20 l Z a0 hw [] bv z kv _ T17.heap n0 Z17 V17) rfl 1 (by decide) (by decide) (by decide) (by decide) (g := (mkF m 45 #[.val (.ref a1), .val (.ref a2), .val (.int p3), .val (.int z), .val .null, .val (.ref bv)] [(.int z), (.ref bv), (.ref a1)])) rfl (by rw [hml]; rfl) [(.ref bv), (.int z)] [(.ref a1)] pd_7 rfl rfl rfl (by show 2 * 0 + _ ≤ _; exact Nat.le_of_eq rfl) (hb hby d4_45) ?_
    rintro v18 T18 L18 X18 ⟨rfl, Nq18, e18⟩
    have N18 := Fr.app N17 Nq18
    show own_Go _ _ _ _ T18 (mkF m 48 #[.val (.ref a1), .val (.ref a2), .val (.int p3), .val (.int z), .val .null, .val (.ref bv)] [(.int (0 : Int32)), (.ref a1)])
    have Q19 := (FC_a1.keep K17 nin0)
    have Q20 := (E_a1.keep K17)
    obtain ⟨T21, h21, X21, e21, W21, st21⟩ := putFN X18 hx hZ hown (hw _ (List.mem_of_getElem? (i := 29) rfl)) Via.refl e18 Q19 Q20 (Or.inr ⟨(hw _ (List.mem_of_getElem? (i := 25) rfl)), rfl, hnm⟩) (hw _ (List.mem_of_getElem? (i := 10) rfl)) (ty := .byte) (v' := (.int (0 : Int32))) (by decide) rfl (fits_nar_byte (0 : Int32)) (g := (mkF m 48 #[.val (.ref a1), .val (.ref a2), .val (.int p3), .val (.int z), .val .null, .val (.ref bv)] [(.int (0 : Int32)), (.ref a1)])) rfl rfl (hb hby d4_48)
    refine own_step st21 ?_
    have N21 := Fr.snoc X21 N18 g_a1
    have F21 := Q19.same W21
    have Dc21 := (CHr.wr W21 Sf_a1_17 C17.1)
    have Sf_a1_21 := CHr.safe Dc21 Q20.lt Sf_a1_17
    have C21 := C17.trans Dc21
    have hk21 := Nat.le_trans hk17 Dc21.2.1
    have Z21 := Nat.le_trans Z17 (Keep.of_wr W21).1
    have KK21 := KK17.wr W21 (Or.inl (List.mem_of_getElem? (i := 0) rfl))
    show own_Go _ _ _ _ T21 (mkF m 51 #[.val (.ref a1), .val (.ref a2), .val (.int p3), .val (.int z), .val .null, .val (.ref bv)] [])
    refine own_step (fun _ k => XS.aloadN X21.here hx rfl (hb hby d4_51) rfl rfl k) ?_
    show own_Go _ _ _ _ T21 (mkF m 52 #[.val (.ref a1), .val (.ref a2), .val (.int p3), .val (.int z), .val .null, .val (.ref bv)] [(.ref a1)])
    refine own_step (fun _ k => XS.aload X21.here hx rfl (hb hby d4_52) rfl rfl k) ?_
    show own_Go _ _ _ _ T21 (mkF m 54 #[.val (.ref a1), .val (.ref a2), .val (.int p3), .val (.int z), .val .null, .val (.ref bv)] [(.ref bv), (.ref a1)])
    have Q22 := ((FV_a1.keep K17 nin0).other W21 (Or.inr (slot_ne (Or.inr (hw _ (List.mem_of_getElem? (i := 24) rfl))) (Or.inr (hw _ (List.mem_of_getElem? (i := 25) rfl))) (by decide) (t := (.array .byte)) (t' := .byte) (by decide) (by decide))))
    have Q23 := (Q20.wr W21)
    obtain ⟨T24, h24, X24, e24, W24, st24⟩ := putF X21 hx hZ hown (host := "") (Or.inl (hw _ (List.mem_of_getElem? (i := 28) rfl))) Via.refl e21 Q22 Q23 (Or.inr ⟨(hw _ (List.mem_of_getElem? (i := 24) rfl)), rfl, hnm⟩) (hw _ (List.mem_of_getElem? (i := 10) rfl)) (ty := (.array .byte)) (by decide) rfl rfl (g := (mkF m 54 #[.val (.ref a1), .val (.ref a2), .val (.int p3), .val (.int z), .val .null, .val (.ref bv)] [(.ref bv), (.ref a1)])) rfl rfl (hb hby d4_54)
    refine own_step st24 ?_
    have N24 := Fr.snoc X24 N21 g_a1
    have F24 := Q22.same W24
    have Dc24 := (CHr.wr W24 Sf_a1_21 C21.1)
    have Sf_a1_24 := CHr.safe Dc24 Q23.lt Sf_a1_21
    have C24 := C21.trans Dc24
    have hk24 := Nat.le_trans hk21 Dc24.2.1
    have Z24 := Nat.le_trans Z21 (Keep.of_wr W24).1
    have KK24 := KK21.wr W24 (Or.inl (List.mem_of_getElem? (i := 0) rfl))
    show own_Go _ _ _ _ T24 (mkF m 57 #[.val (.ref a1), .val (.ref a2), .val (.int p3), .val (.int z), .val .null, .val (.ref bv)] [])
    have Q25 := (Q23.wr W24)
    have Q26 := (F21.other W24 (Or.inr (slot_ne (Or.inr (hw _ (List.mem_of_getElem? (i := 25) rfl))) (Or.inr (hw _ (List.mem_of_getElem? (i := 24) rfl))) (by decide) (t := .byte) (t' := (.array .byte)) (by decide) (by decide))))
    have Q27 := ((V17.other W21 (Ne.symm ne_a1_bv)).other W24 (Ne.symm ne_a1_bv))
    exact own_retV X24 hx hret hlk (hb hby d4_57) (own_W X24 hS0 hk24 e24 eS hZ hEL C24 (by rw [e24]; exact ⟨bv, kv, rfl, N24, KK24, ⟨Q25, Q26, F24⟩, Q27⟩) (by decide) (by decide)) 
theorem d3_0 : decode jdk_42_method_3_code 0 = .ok (.aload_n 0, 1) := by decide +kernel
theorem d3_1 : decode jdk_42_method_3_code 1 = .ok (.aload_n 1, 1) := by decide +kernel
theorem d3_2 : decode jdk_42_method_3_code 2 = .ok (.iconst 0, 1) := by decide +kernel
theorem d3_3 : decode jdk_42_method_3_code 3 = .ok (.aload_n 1, 1) := by decide +kernel
theorem d3_4 : decode jdk_42_method_3_code 4 = .ok (.arraylength, 1) := by decide +kernel
theorem d3_5 : decode jdk_42_method_3_code 5 = .ok (.aconst_null, 1) := by decide +kernel
theorem d3_6 : decode jdk_42_method_3_code 6 = .ok (.invokespecial 27, 3) := by decide +kernel
theorem d3_9 : decode jdk_42_method_3_code 9 = .ok (.return_, 1) := by decide +kernel
theorem ef_3 (a1 : Addr) (a2 : Addr) (m : MethodId) : entryFrame m #[(.ref a1), (.ref a2)] 2 = mkF m 0 #[.val (.ref a1), .val (.ref a2)] [] := by first | (simp [entryFrame, mkF, argsToLocals, Value.category]; done) | rfl
theorem pd_8 : parseMethodDescriptor "([CIILjava/lang/Void;)V" = some ⟨[(.array .char), .int, .int, (.object "java/lang/Void")], none⟩ := by decide +kernel
set_option maxRecDepth 65536 in
set_option maxHeartbeats 40000000 in
theorem rm3 (l : Launch) (Z : State) (a0 : Array Value) (hw : ∀ d ∈ tables_1, d.before a0 Z = true) (ws : List Jvm.Cond) (a1 : Addr) (a2 : Addr) (kc : ClassId) (cz : Int32) (z : Int32) (cs : List Int32) (h0 : Heap) (n0 : Nat) (Z0 : n0 ≤ h0.size) (hEL : EW Z a0 own_EL) (O0 : Old Z n0 h0) (SC : Sta Z Z.heap "java/lang/String" "COMPACT_STRINGS" "Z" (.int cz)) (hcz : ¬ cz = (0 : Int32)) (E_a1 : Exa Z h0 a1 "java/lang/String") (FC_a1 : Fld Z h0 a1 "java/lang/String" "coder" "B" (.int (0 : Int32))) (FV_a1 : Fld Z h0 a1 "java/lang/String" "value" "[B" .null) (VA : Arv Z h0 a2 kc .char z (cs.map Value.int) (.int (0 : Int32))) (hcs : z.toInt = (cs.length : Nat)) (hcap : cs.length ≤ 8) (hlat : ∀ t, ¬ (255 : Int32) < cs.getD t (0 : Int32)) (g_a1 : n0 ≤ a1) :
    own_MetW l (⟨"java/lang/String", "<init>", "([C)V"⟩ : MethodName) jdk_42_method_3_code 2 none ws ({ frames := 3, cells := 4, slots := 8, locals := 52 } : Room) #[(.ref a1), (.ref a2)] Z own_EL h0 (fun v h L => ∃ b k, v = none ∧ Fr n0 L ∧ Keep h0 h [a1] ∧ (Exa Z h a1 "java/lang/String" ∧ Fld Z h a1 "java/lang/String" "coder" "B" (.int (0 : Int32)) ∧ Fld Z h a1 "java/lang/String" "value" "[B" (.ref b)) ∧ Arv Z h b k .byte z ((cs.map (fun c => c.toInt8.toInt32)).map Value.int) (.int (0 : Int32))) := by
  refine own_bodyW (plainFor_of_name pn_0) (ef_3 a1 a2) ?_
  intro p e s m below meth c T0 X0 hx hby hml0 hret hlk hnm hown hZ e0 eS H0 hS0
  have C0 := CHr.refl H0
  have hml : c.maxLocals = 2 := hml0
  have N0 := Fr.nil n0
  have ne_a1_a2 : a1 ≠ a2 := Exa.neArv E_a1 VA (hw _ (List.mem_of_getElem? (i := 10) rfl))
  refine own_step (fun _ k => XS.aloadN X0.here hx rfl (hb hby d3_0) rfl rfl k) ?_
  show own_Go _ _ _ _ T0 (mkF m 1 #[.val (.ref a1), .val (.ref a2)] [(.ref a1)])
  refine own_step (fun _ k => XS.aloadN X0.here hx rfl (hb hby d3_1) rfl rfl k) ?_
  show own_Go _ _ _ _ T0 (mkF m 2 #[.val (.ref a1), .val (.ref a2)] [(.ref a2), (.ref a1)])
  refine own_step (fun _ k => XS.iconst X0.here hx rfl (hb hby d3_2) k) ?_
  show own_Go _ _ _ _ T0 (mkF m 3 #[.val (.ref a1), .val (.ref a2)] [(.int (0 : Int32)), (.ref a2), (.ref a1)])
  refine own_step (fun _ k => XS.aloadN X0.here hx rfl (hb hby d3_3) rfl rfl k) ?_
  show own_Go _ _ _ _ T0 (mkF m 4 #[.val (.ref a1), .val (.ref a2)] [(.ref a2), (.int (0 : Int32)), (.ref a2), (.ref a1)])
  refine own_step (own_len X0 hx hZ e0 VA (g := (mkF m 4 #[.val (.ref a1), .val (.ref a2)] [(.ref a2), (.int (0 : Int32)), (.ref a2), (.ref a1)])) rfl rfl (hb hby d3_4)) ?_
  show own_Go _ _ _ _ T0 (mkF m 5 #[.val (.ref a1), .val (.ref a2)] [(.int z), (.int (0 : Int32)), (.ref a2), (.ref a1)])
  refine own_step (fun _ k => XS.aconstNull X0.here hx rfl (hb hby d3_5) k) ?_
  show own_Go _ _ _ _ T0 (mkF m 6 #[.val (.ref a1), .val (.ref a2)] [.null, (.int z), (.int (0 : Int32)), (.ref a2), (.ref a1)])
  refine own_callCW X0 hx hZ (y := (⟨"java/lang/String", "<init>", "([CIILjava/lang/Void;)V"⟩ : MethodName)) rfl hown (hw _ (List.mem_of_getElem? (i := 15) rfl)) (hw _ (List.mem_of_getElem? (i := 16) rfl)) (hw _ (List.mem_of_getElem? (i := 11) rfl)) (hw _ (List.mem_of_getElem? (i := 18) rfl)) (by decide) (rm4 l Z a0 hw [] a1 a2 (0 : Int32) z kc cz cs h0 n0 Z0 hEL O0 SC hcz E_a1 FC_a1 FV_a1 VA hcs hcap hlat g_a1 rfl) e0 hEL C0.1 hS0 (Nat.le_refl _) (b := a1) 0 (by decide) (by decide) (by decide) (by decide) (g := (mkF m 6 #[.val (.ref a1), .val (.ref a2)] [.null, (.int z), (.int (0 : Int32)), (.ref a2), (.ref a1)])) rfl (by rw [hml]; rfl) [(.ref a2), (.int (0 : Int32)), (.int z), .null] [] pd_8 rfl rfl rfl (by show 2 * 0 + _ ≤ _; exact Nat.le_of_eq rfl) (hb hby d3_6) ?_
  rintro v1 T1 L1 X1 ⟨bv, kv, rfl, Nq1, K1, ⟨EX1, FC1, FV1⟩, V1⟩ D1 hS1 hZ hown
  have N1 := Fr.app N0 Nq1
  show own_Go _ _ _ _ T1 (mkF m 9 #[.val (.ref a1), .val (.ref a2)] [])
  have Dc1 := D1
  have C1 := C0.trans Dc1
  have Z1 := Nat.le_trans Z0 K1.1
  have KK1 := (Keep.refl h0 [a1]).trans K1 (allS (P := fun x => x ∈ [a1] ∨ h0.size ≤ x) (Or.inl (List.mem_of_getElem? (i := 0) rfl)) all0)
  exact own_retV X1 hx hret hlk (hb hby d3_9) (own_W X1 hS1 (Nat.le_refl _) rfl eS hZ hEL C1 (by exact ⟨bv, kv, rfl, N1, KK1, ⟨EX1, FC1, FV1⟩, V1⟩) (by decide) (by decide)) 
theorem d1_0 : decode method_3_code 0 = .ok (.iload_n 0, 1) := by decide +kernel
theorem d1_1 : decode method_3_code 1 = .ok (.sipush 256, 3) := by decide +kernel
theorem d1_4 : decode method_3_code 4 = .ok (.iand, 1) := by decide +kernel
theorem d1_5 : decode method_3_code 5 = .ok (.ifCond .eq 6, 3) := by decide +kernel
theorem d1_8 : decode method_3_code 8 = .ok (.bipush 9, 2) := by decide +kernel
theorem d1_10 : decode method_3_code 10 = .ok (.ireturn, 1) := by decide +kernel
theorem d1_11 : decode method_3_code 11 = .ok (.iload_n 0, 1) := by decide +kernel
theorem d1_12 : decode method_3_code 12 = .ok (.sipush 255, 3) := by decide +kernel
theorem d1_15 : decode method_3_code 15 = .ok (.iand, 1) := by decide +kernel
theorem d1_16 : decode method_3_code 16 = .ok (.i2c, 1) := by decide +kernel
theorem d1_17 : decode method_3_code 17 = .ok (.ireturn, 1) := by decide +kernel
theorem ef_1 (p1 : Int32) (m : MethodId) : entryFrame m #[(.int p1)] 1 = mkF m 0 #[.val (.int p1)] [] := by first | (simp [entryFrame, mkF, argsToLocals, Value.category]; done) | rfl
def own_dr (p1 : Int32) : Int32 := (if (p1 &&& (256 : Int32)) = (0 : Int32) then (((p1 &&& (255 : Int32)).toUInt32.toUInt16.toUInt32.toInt32).toUInt32.toUInt16.toUInt32.toInt32) else (9 : Int32))
theorem pn_4 : plainName "com/example/shelfmark/shelfmark/io/DocumentReaderTextPinLaw" = true := by first | (simp [plainName, overriddenIn]; done) | decide +kernel
set_option maxRecDepth 65536 in
set_option maxHeartbeats 40000000 in
theorem rm1 (l : Launch) (Z : State) (a0 : Array Value) (hw : ∀ d ∈ tables_1, d.before a0 Z = true) (ws : List Jvm.Cond) (p1 : Int32) (h0 : Heap) (n0 : Nat) (Z0 : n0 ≤ h0.size) :
    own_Met l (⟨"com/example/shelfmark/shelfmark/io/DocumentReaderTextPinLaw", "draw", "(I)C"⟩ : MethodName) method_3_code 1 (some .char) ws ({ frames := 0, cells := 0, slots := 0, locals := 0 } : Room) #[(.int p1)] Z h0 (fun v h L => v = some (.int (own_dr p1)) ∧ Fr n0 L ∧ h = h0) := by
  refine own_body (plainFor_of_name pn_4) (ef_1 p1) ?_
  intro p e s m below meth c T0 X0 hx hby hml0 hret hlk hnm hown hZ e0
  have hml : c.maxLocals = 1 := hml0
  have N0 := Fr.nil n0
  refine own_step (fun _ k => XS.iloadN X0.here hx rfl (hb hby d1_0) rfl k) ?_
  show own_Go _ _ _ _ T0 (mkF m 1 #[.val (.int p1)] [(.int p1)])
  refine own_step (fun _ k => XS.sipush X0.here hx rfl (hb hby d1_1) k) ?_
  show own_Go _ _ _ _ T0 (mkF m 4 #[.val (.int p1)] [(.int (256 : Int32)), (.int p1)])
  refine own_step (fun _ k => XS.iand X0.here hx rfl (hb hby d1_4) rfl k) ?_
  show own_Go _ _ _ _ T0 (mkF m 5 #[.val (.int p1)] [(.int (p1 &&& (256 : Int32)))])
  by_cases hc1 : (p1 &&& (256 : Int32)) = (0 : Int32)
  · refine own_step (fun _ k => XS.ifYes X0.here hx rfl (pc0 := 5) (pc' := 11) rfl (hb hby d1_5) rfl ((if0 _ _).trans (teq hc1).1) (by decide) (by decide) k) ?_
    show own_Go _ _ _ _ T0 (mkF m 11 #[.val (.int p1)] [])
    refine own_step (fun _ k => XS.iloadN X0.here hx rfl (hb hby d1_11) rfl k) ?_
    show own_Go _ _ _ _ T0 (mkF m 12 #[.val (.int p1)] [(.int p1)])
    refine own_step (fun _ k => XS.sipush X0.here hx rfl (hb hby d1_12) k) ?_
    show own_Go _ _ _ _ T0 (mkF m 15 #[.val (.int p1)] [(.int (255 : Int32)), (.int p1)])
    refine own_step (fun _ k => XS.iand X0.here hx rfl (hb hby d1_15) rfl k) ?_
    show own_Go _ _ _ _ T0 (mkF m 16 #[.val (.int p1)] [(.int (p1 &&& (255 : Int32)))])
    refine own_step (fun _ k => XS.i2c X0.here hx rfl (hb hby d1_16) rfl k) ?_
    show own_Go _ _ _ _ T0 (mkF m 17 #[.val (.int p1)] [(.int ((p1 &&& (255 : Int32)).toUInt32.toUInt16.toUInt32.toInt32))])
    exact own_retN X0 hx (t := .char) hret (by simp) hlk (hb hby d1_17) rfl (own_N ⟨own_leafI (if_pos hc1), N0, e0⟩ (by decide) (by decide)) 
  · refine own_step (fun _ k => XS.ifNo X0.here hx rfl (hb hby d1_5) rfl ((if0 _ _).trans (feq hc1).1) k) ?_
    show own_Go _ _ _ _ T0 (mkF m 8 #[.val (.int p1)] [])
    refine own_step (fun _ k => XS.bipush X0.here hx rfl (hb hby d1_8) k) ?_
    show own_Go _ _ _ _ T0 (mkF m 10 #[.val (.int p1)] [(.int (9 : Int32))])
    exact own_retN X0 hx (t := .char) hret (by simp) hlk (hb hby d1_10) rfl (own_N ⟨own_leafI (if_neg hc1), N0, e0⟩ (by decide) (by decide)) 
theorem d13_0 : decode jdk_43_method_4_code 0 = .ok (.iload_n 0, 1) := by decide +kernel
theorem d13_1 : decode jdk_43_method_4_code 1 = .ok (.ifCond .lt 14, 3) := by decide +kernel
theorem d13_4 : decode jdk_43_method_4_code 4 = .ok (.iload_n 0, 1) := by decide +kernel
theorem d13_5 : decode jdk_43_method_4_code 5 = .ok (.sipush 255, 3) := by decide +kernel
theorem d13_8 : decode jdk_43_method_4_code 8 = .ok (.if_icmp .gt 7, 3) := by decide +kernel
theorem d13_11 : decode jdk_43_method_4_code 11 = .ok (.iconst 1, 1) := by decide +kernel
theorem d13_12 : decode jdk_43_method_4_code 12 = .ok (.goto 4, 3) := by decide +kernel
theorem d13_15 : decode jdk_43_method_4_code 15 = .ok (.iconst 0, 1) := by decide +kernel
theorem d13_16 : decode jdk_43_method_4_code 16 = .ok (.ireturn, 1) := by decide +kernel
theorem ef_13 (p1 : Int32) (m : MethodId) : entryFrame m #[(.int p1)] 1 = mkF m 0 #[.val (.int p1)] [] := by first | (simp [entryFrame, mkF, argsToLocals, Value.category]; done) | rfl
def own_ce (p1 : Int32) : Int32 := (if p1 < (0 : Int32) then (0 : Int32) else (if (255 : Int32) < p1 then (0 : Int32) else (1 : Int32)))
set_option maxRecDepth 65536 in
set_option maxHeartbeats 40000000 in
theorem rm13 (l : Launch) (Z : State) (a0 : Array Value) (hw : ∀ d ∈ tables_1, d.before a0 Z = true) (ws : List Jvm.Cond) (p1 : Int32) (h0 : Heap) (n0 : Nat) (Z0 : n0 ≤ h0.size) :
    own_Met l (⟨"java/lang/StringLatin1", "canEncode", "(I)Z"⟩ : MethodName) jdk_43_method_4_code 1 (some .boolean) ws ({ frames := 0, cells := 0, slots := 0, locals := 0 } : Room) #[(.int p1)] Z h0 (fun v h L => v = some (.int (own_ce p1)) ∧ Fr n0 L ∧ h = h0) := by
  refine own_body (plainFor_of_name pn_2) (ef_13 p1) ?_
  intro p e s m below meth c T0 X0 hx hby hml0 hret hlk hnm hown hZ e0
  have hml : c.maxLocals = 1 := hml0
  have N0 := Fr.nil n0
  refine own_step (fun _ k => XS.iloadN X0.here hx rfl (hb hby d13_0) rfl k) ?_
  show own_Go _ _ _ _ T0 (mkF m 1 #[.val (.int p1)] [(.int p1)])
  by_cases hc1 : p1 < (0 : Int32)
  · refine own_step (fun _ k => XS.ifYes X0.here hx rfl (pc0 := 1) (pc' := 15) rfl (hb hby d13_1) rfl ((if0 _ _).trans (tlt hc1).1) (by decide) (by decide) k) ?_
    show own_Go _ _ _ _ T0 (mkF m 15 #[.val (.int p1)] [])
    refine own_step (fun _ k => XS.iconst X0.here hx rfl (hb hby d13_15) k) ?_
    show own_Go _ _ _ _ T0 (mkF m 16 #[.val (.int p1)] [(.int (0 : Int32))])
    exact own_retN X0 hx (t := .boolean) hret (by simp) hlk (hb hby d13_16) rfl (own_N ⟨own_leafI (if_pos hc1), N0, e0⟩ (by decide) (by decide)) 
  · refine own_step (fun _ k => XS.ifNo X0.here hx rfl (hb hby d13_1) rfl ((if0 _ _).trans (flt hc1).1) k) ?_
    show own_Go _ _ _ _ T0 (mkF m 4 #[.val (.int p1)] [])
    refine own_step (fun _ k => XS.iloadN X0.here hx rfl (hb hby d13_4) rfl k) ?_
    show own_Go _ _ _ _ T0 (mkF m 5 #[.val (.int p1)] [(.int p1)])
    refine own_step (fun _ k => XS.sipush X0.here hx rfl (hb hby d13_5) k) ?_
    show own_Go _ _ _ _ T0 (mkF m 8 #[.val (.int p1)] [(.int (255 : Int32)), (.int p1)])
    by_cases hc2 : (255 : Int32) < p1
    · refine own_step (fun _ k => XS.icmpYes X0.here hx rfl (pc0 := 8) (pc' := 15) rfl (hb hby d13_8) rfl (tlt hc2).2.2.1 (by decide) (by decide) k) ?_
      show own_Go _ _ _ _ T0 (mkF m 15 #[.val (.int p1)] [])
      refine own_step (fun _ k => XS.iconst X0.here hx rfl (hb hby d13_15) k) ?_
      show own_Go _ _ _ _ T0 (mkF m 16 #[.val (.int p1)] [(.int (0 : Int32))])
      exact own_retN X0 hx (t := .boolean) hret (by simp) hlk (hb hby d13_16) rfl (own_N ⟨own_leafI ((if_neg hc1).trans (if_pos hc2)), N0, e0⟩ (by decide) (by decide)) 
    · refine own_step (fun _ k => XS.icmpNo X0.here hx rfl (hb hby d13_8) rfl (flt hc2).2.2.1 k) ?_
      show own_Go _ _ _ _ T0 (mkF m 11 #[.val (.int p1)] [])
      refine own_step (fun _ k => XS.iconst X0.here hx rfl (hb hby d13_11) k) ?_
      show own_Go _ _ _ _ T0 (mkF m 12 #[.val (.int p1)] [(.int (1 : Int32))])
      refine own_step (fun _ k => XS.goto X0.here hx rfl (pc0 := 12) (pc' := 16) rfl (hb hby d13_12) (by decide) (by decide) k) ?_
      show own_Go _ _ _ _ T0 (mkF m 16 #[.val (.int p1)] [(.int (1 : Int32))])
      exact own_retN X0 hx (t := .boolean) hret (by simp) hlk (hb hby d13_16) rfl (own_N ⟨own_leafI ((if_neg hc1).trans (if_neg hc2)), N0, e0⟩ (by decide) (by decide)) 
theorem d14_0 : decode jdk_29_method_65_code 0 = .ok (.iload_n 0, 1) := by decide +kernel
theorem d14_1 : decode jdk_29_method_65_code 1 = .ok (.iload_n 1, 1) := by decide +kernel
theorem d14_2 : decode jdk_29_method_65_code 2 = .ok (.if_icmp .lt 7, 3) := by decide +kernel
theorem d14_5 : decode jdk_29_method_65_code 5 = .ok (.iload_n 0, 1) := by decide +kernel
theorem d14_6 : decode jdk_29_method_65_code 6 = .ok (.goto 4, 3) := by decide +kernel
theorem d14_9 : decode jdk_29_method_65_code 9 = .ok (.iload_n 1, 1) := by decide +kernel
theorem d14_10 : decode jdk_29_method_65_code 10 = .ok (.ireturn, 1) := by decide +kernel
theorem ef_14 (p1 : Int32) (p2 : Int32) (m : MethodId) : entryFrame m #[(.int p1), (.int p2)] 2 = mkF m 0 #[.val (.int p1), .val (.int p2)] [] := by first | (simp [entryFrame, mkF, argsToLocals, Value.category]; done) | rfl
def own_max (p1 : Int32) (p2 : Int32) : Int32 := (if p1 < p2 then p2 else p1)
set_option maxRecDepth 65536 in
set_option maxHeartbeats 40000000 in
theorem rm14 (l : Launch) (Z : State) (a0 : Array Value) (hw : ∀ d ∈ tables_1, d.before a0 Z = true) (ws : List Jvm.Cond) (p1 : Int32) (p2 : Int32) (h0 : Heap) (n0 : Nat) (Z0 : n0 ≤ h0.size) :
    own_Met l (⟨"java/lang/Math", "max", "(II)I"⟩ : MethodName) jdk_29_method_65_code 2 (some .int) ws ({ frames := 0, cells := 0, slots := 0, locals := 0 } : Room) #[(.int p1), (.int p2)] Z h0 (fun v h L => v = some (.int (own_max p1 p2)) ∧ Fr n0 L ∧ h = h0) := by
  refine own_body (Jvm.Free.JP.mathPlain rfl (by decide +kernel)) (ef_14 p1 p2) ?_
  intro p e s m below meth c T0 X0 hx hby hml0 hret hlk hnm hown hZ e0
  have hml : c.maxLocals = 2 := hml0
  have N0 := Fr.nil n0
  refine own_step (fun _ k => XS.iloadN X0.here hx rfl (hb hby d14_0) rfl k) ?_
  show own_Go _ _ _ _ T0 (mkF m 1 #[.val (.int p1), .val (.int p2)] [(.int p1)])
  refine own_step (fun _ k => XS.iloadN X0.here hx rfl (hb hby d14_1) rfl k) ?_
  show own_Go _ _ _ _ T0 (mkF m 2 #[.val (.int p1), .val (.int p2)] [(.int p2), (.int p1)])
  by_cases hc1 : p1 < p2
  · refine own_step (fun _ k => XS.icmpYes X0.here hx rfl (pc0 := 2) (pc' := 9) rfl (hb hby d14_2) rfl (tlt hc1).1 (by decide) (by decide) k) ?_
    show own_Go _ _ _ _ T0 (mkF m 9 #[.val (.int p1), .val (.int p2)] [])
    refine own_step (fun _ k => XS.iloadN X0.here hx rfl (hb hby d14_9) rfl k) ?_
    show own_Go _ _ _ _ T0 (mkF m 10 #[.val (.int p1), .val (.int p2)] [(.int p2)])
    exact own_retI X0 hx hret hlk (hb hby d14_10) (own_N ⟨own_leafI (if_pos hc1), N0, e0⟩ (by decide) (by decide)) 
  · refine own_step (fun _ k => XS.icmpNo X0.here hx rfl (hb hby d14_2) rfl (flt hc1).1 k) ?_
    show own_Go _ _ _ _ T0 (mkF m 5 #[.val (.int p1), .val (.int p2)] [])
    refine own_step (fun _ k => XS.iloadN X0.here hx rfl (hb hby d14_5) rfl k) ?_
    show own_Go _ _ _ _ T0 (mkF m 6 #[.val (.int p1), .val (.int p2)] [(.int p1)])
    refine own_step (fun _ k => XS.goto X0.here hx rfl (pc0 := 6) (pc' := 10) rfl (hb hby d14_6) (by decide) (by decide) k) ?_
    show own_Go _ _ _ _ T0 (mkF m 10 #[.val (.int p1), .val (.int p2)] [(.int p1)])
    exact own_retI X0 hx hret hlk (hb hby d14_10) (own_N ⟨own_leafI (if_neg hc1), N0, e0⟩ (by decide) (by decide)) 
theorem d15_0 : decode jdk_29_method_69_code 0 = .ok (.iload_n 0, 1) := by decide +kernel
theorem d15_1 : decode jdk_29_method_69_code 1 = .ok (.iload_n 1, 1) := by decide +kernel
theorem d15_2 : decode jdk_29_method_69_code 2 = .ok (.if_icmp .gt 7, 3) := by decide +kernel
theorem d15_5 : decode jdk_29_method_69_code 5 = .ok (.iload_n 0, 1) := by decide +kernel
theorem d15_6 : decode jdk_29_method_69_code 6 = .ok (.goto 4, 3) := by decide +kernel
theorem d15_9 : decode jdk_29_method_69_code 9 = .ok (.iload_n 1, 1) := by decide +kernel
theorem d15_10 : decode jdk_29_method_69_code 10 = .ok (.ireturn, 1) := by decide +kernel
theorem ef_15 (p1 : Int32) (p2 : Int32) (m : MethodId) : entryFrame m #[(.int p1), (.int p2)] 2 = mkF m 0 #[.val (.int p1), .val (.int p2)] [] := by first | (simp [entryFrame, mkF, argsToLocals, Value.category]; done) | rfl
def own_min (p1 : Int32) (p2 : Int32) : Int32 := (if p2 < p1 then p2 else p1)
set_option maxRecDepth 65536 in
set_option maxHeartbeats 40000000 in
theorem rm15 (l : Launch) (Z : State) (a0 : Array Value) (hw : ∀ d ∈ tables_1, d.before a0 Z = true) (ws : List Jvm.Cond) (p1 : Int32) (p2 : Int32) (h0 : Heap) (n0 : Nat) (Z0 : n0 ≤ h0.size) :
    own_Met l (⟨"java/lang/Math", "min", "(II)I"⟩ : MethodName) jdk_29_method_69_code 2 (some .int) ws ({ frames := 0, cells := 0, slots := 0, locals := 0 } : Room) #[(.int p1), (.int p2)] Z h0 (fun v h L => v = some (.int (own_min p1 p2)) ∧ Fr n0 L ∧ h = h0) := by
  refine own_body (Jvm.Free.JP.mathPlain rfl (by decide +kernel)) (ef_15 p1 p2) ?_
  intro p e s m below meth c T0 X0 hx hby hml0 hret hlk hnm hown hZ e0
  have hml : c.maxLocals = 2 := hml0
  have N0 := Fr.nil n0
  refine own_step (fun _ k => XS.iloadN X0.here hx rfl (hb hby d15_0) rfl k) ?_
  show own_Go _ _ _ _ T0 (mkF m 1 #[.val (.int p1), .val (.int p2)] [(.int p1)])
  refine own_step (fun _ k => XS.iloadN X0.here hx rfl (hb hby d15_1) rfl k) ?_
  show own_Go _ _ _ _ T0 (mkF m 2 #[.val (.int p1), .val (.int p2)] [(.int p2), (.int p1)])
  by_cases hc1 : p2 < p1
  · refine own_step (fun _ k => XS.icmpYes X0.here hx rfl (pc0 := 2) (pc' := 9) rfl (hb hby d15_2) rfl (tlt hc1).2.2.1 (by decide) (by decide) k) ?_
    show own_Go _ _ _ _ T0 (mkF m 9 #[.val (.int p1), .val (.int p2)] [])
    refine own_step (fun _ k => XS.iloadN X0.here hx rfl (hb hby d15_9) rfl k) ?_
    show own_Go _ _ _ _ T0 (mkF m 10 #[.val (.int p1), .val (.int p2)] [(.int p2)])
    exact own_retI X0 hx hret hlk (hb hby d15_10) (own_N ⟨own_leafI (if_pos hc1), N0, e0⟩ (by decide) (by decide)) 
  · refine own_step (fun _ k => XS.icmpNo X0.here hx rfl (hb hby d15_2) rfl (flt hc1).2.2.1 k) ?_
    show own_Go _ _ _ _ T0 (mkF m 5 #[.val (.int p1), .val (.int p2)] [])
    refine own_step (fun _ k => XS.iloadN X0.here hx rfl (hb hby d15_5) rfl k) ?_
    show own_Go _ _ _ _ T0 (mkF m 6 #[.val (.int p1), .val (.int p2)] [(.int p1)])
    refine own_step (fun _ k => XS.goto X0.here hx rfl (pc0 := 6) (pc' := 10) rfl (hb hby d15_6) (by decide) (by decide) k) ?_
    show own_Go _ _ _ _ T0 (mkF m 10 #[.val (.int p1), .val (.int p2)] [(.int p1)])
    exact own_retI X0 hx hret hlk (hb hby d15_10) (own_N ⟨own_leafI (if_neg hc1), N0, e0⟩ (by decide) (by decide)) 
theorem d16_0 : decode method_5_code 0 = .ok (.iload_n 0, 1) := by decide +kernel
theorem d16_1 : decode method_5_code 1 = .ok (.ifCond .le 11, 3) := by decide +kernel
theorem d16_4 : decode method_5_code 4 = .ok (.iload_n 1, 1) := by decide +kernel
theorem d16_5 : decode method_5_code 5 = .ok (.bipush 9, 2) := by decide +kernel
theorem d16_7 : decode method_5_code 7 = .ok (.if_icmp .ne 5, 3) := by decide +kernel
theorem d16_10 : decode method_5_code 10 = .ok (.iconst 0, 1) := by decide +kernel
theorem d16_11 : decode method_5_code 11 = .ok (.ireturn, 1) := by decide +kernel
theorem d16_12 : decode method_5_code 12 = .ok (.iload_n 0, 1) := by decide +kernel
theorem d16_13 : decode method_5_code 13 = .ok (.iconst 1, 1) := by decide +kernel
theorem d16_14 : decode method_5_code 14 = .ok (.if_icmp .le 11, 3) := by decide +kernel
theorem d16_17 : decode method_5_code 17 = .ok (.iload_n 2, 1) := by decide +kernel
theorem d16_18 : decode method_5_code 18 = .ok (.bipush 9, 2) := by decide +kernel
theorem d16_20 : decode method_5_code 20 = .ok (.if_icmp .ne 5, 3) := by decide +kernel
theorem d16_23 : decode method_5_code 23 = .ok (.iconst 1, 1) := by decide +kernel
theorem d16_24 : decode method_5_code 24 = .ok (.ireturn, 1) := by decide +kernel
theorem d16_25 : decode method_5_code 25 = .ok (.iload_n 0, 1) := by decide +kernel
theorem d16_26 : decode method_5_code 26 = .ok (.iconst 2, 1) := by decide +kernel
theorem d16_27 : decode method_5_code 27 = .ok (.if_icmp .le 11, 3) := by decide +kernel
theorem d16_30 : decode method_5_code 30 = .ok (.iload_n 3, 1) := by decide +kernel
theorem d16_31 : decode method_5_code 31 = .ok (.bipush 9, 2) := by decide +kernel
theorem d16_33 : decode method_5_code 33 = .ok (.if_icmp .ne 5, 3) := by decide +kernel
theorem d16_36 : decode method_5_code 36 = .ok (.iconst 2, 1) := by decide +kernel
theorem d16_37 : decode method_5_code 37 = .ok (.ireturn, 1) := by decide +kernel
theorem d16_38 : decode method_5_code 38 = .ok (.iload_n 0, 1) := by decide +kernel
theorem d16_39 : decode method_5_code 39 = .ok (.iconst 3, 1) := by decide +kernel
theorem d16_40 : decode method_5_code 40 = .ok (.if_icmp .le 12, 3) := by decide +kernel
theorem d16_43 : decode method_5_code 43 = .ok (.iload 4, 2) := by decide +kernel
theorem d16_45 : decode method_5_code 45 = .ok (.bipush 9, 2) := by decide +kernel
theorem d16_47 : decode method_5_code 47 = .ok (.if_icmp .ne 5, 3) := by decide +kernel
theorem d16_50 : decode method_5_code 50 = .ok (.iconst 3, 1) := by decide +kernel
theorem d16_51 : decode method_5_code 51 = .ok (.ireturn, 1) := by decide +kernel
theorem d16_52 : decode method_5_code 52 = .ok (.iload_n 0, 1) := by decide +kernel
theorem d16_53 : decode method_5_code 53 = .ok (.ireturn, 1) := by decide +kernel
theorem ef_16 (p1 : Int32) (p2 : Int32) (p3 : Int32) (p4 : Int32) (p5 : Int32) (m : MethodId) : entryFrame m #[(.int p1), (.int p2), (.int p3), (.int p4), (.int p5)] 5 = mkF m 0 #[.val (.int p1), .val (.int p2), .val (.int p3), .val (.int p4), .val (.int p5)] [] := by first | (simp [entryFrame, mkF, argsToLocals, Value.category]; done) | rfl
def own_ft (p1 : Int32) (p2 : Int32) (p3 : Int32) (p4 : Int32) (p5 : Int32) : Int32 := (if (0 : Int32) < p1 then (if p2 = (9 : Int32) then (0 : Int32) else (if (1 : Int32) < p1 then (if p3 = (9 : Int32) then (1 : Int32) else (if (2 : Int32) < p1 then (if p4 = (9 : Int32) then (2 : Int32) else (if (3 : Int32) < p1 then (if p5 = (9 : Int32) then (3 : Int32) else p1) else p1)) else (if (3 : Int32) < p1 then (if p5 = (9 : Int32) then (3 : Int32) else p1) else p1))) else (if (2 : Int32) < p1 then (if p4 = (9 : Int32) then (2 : Int32) else (if (3 : Int32) < p1 then (if p5 = (9 : Int32) then (3 : Int32) else p1) else p1)) else (if (3 : Int32) < p1 then (if p5 = (9 : Int32) then (3 : Int32) else p1) else p1)))) else (if (1 : Int32) < p1 then (if p3 = (9 : Int32) then (1 : Int32) else (if (2 : Int32) < p1 then (if p4 = (9 : Int32) then (2 : Int32) else (if (3 : Int32) < p1 then (if p5 = (9 : Int32) then (3 : Int32) else p1) else p1)) else (if (3 : Int32) < p1 then (if p5 = (9 : Int32) then (3 : Int32) else p1) else p1))) else (if (2 : Int32) < p1 then (if p4 = (9 : Int32) then (2 : Int32) else (if (3 : Int32) < p1 then (if p5 = (9 : Int32) then (3 : Int32) else p1) else p1)) else (if (3 : Int32) < p1 then (if p5 = (9 : Int32) then (3 : Int32) else p1) else p1))))
set_option maxRecDepth 65536 in
set_option maxHeartbeats 40000000 in
theorem rm16 (l : Launch) (Z : State) (a0 : Array Value) (hw : ∀ d ∈ tables_1, d.before a0 Z = true) (ws : List Jvm.Cond) (p1 : Int32) (p2 : Int32) (p3 : Int32) (p4 : Int32) (p5 : Int32) (h0 : Heap) (n0 : Nat) (Z0 : n0 ≤ h0.size) :
    own_Met l (⟨"com/example/shelfmark/shelfmark/io/DocumentReaderTextPinLaw", "firstTab", "(ICCCC)I"⟩ : MethodName) method_5_code 5 (some .int) ws ({ frames := 0, cells := 0, slots := 0, locals := 0 } : Room) #[(.int p1), (.int p2), (.int p3), (.int p4), (.int p5)] Z h0 (fun v h L => v = some (.int (own_ft p1 p2 p3 p4 p5)) ∧ Fr n0 L ∧ h = h0) := by
  refine own_body (plainFor_of_name pn_4) (ef_16 p1 p2 p3 p4 p5) ?_
  intro p e s m below meth c T0 X0 hx hby hml0 hret hlk hnm hown hZ e0
  have hml : c.maxLocals = 5 := hml0
  have N0 := Fr.nil n0
  refine own_step (fun _ k => XS.iloadN X0.here hx rfl (hb hby d16_0) rfl k) ?_
  show own_Go _ _ _ _ T0 (mkF m 1 #[.val (.int p1), .val (.int p2), .val (.int p3), .val (.int p4), .val (.int p5)] [(.int p1)])
  by_cases hc1 : (0 : Int32) < p1
  · refine own_step (fun _ k => XS.ifNo X0.here hx rfl (hb hby d16_1) rfl ((if0 _ _).trans (tlt hc1).2.2.2) k) ?_
    show own_Go _ _ _ _ T0 (mkF m 4 #[.val (.int p1), .val (.int p2), .val (.int p3), .val (.int p4), .val (.int p5)] [])
    refine own_step (fun _ k => XS.iloadN X0.here hx rfl (hb hby d16_4) rfl k) ?_
    show own_Go _ _ _ _ T0 (mkF m 5 #[.val (.int p1), .val (.int p2), .val (.int p3), .val (.int p4), .val (.int p5)] [(.int p2)])
    refine own_step (fun _ k => XS.bipush X0.here hx rfl (hb hby d16_5) k) ?_
    show own_Go _ _ _ _ T0 (mkF m 7 #[.val (.int p1), .val (.int p2), .val (.int p3), .val (.int p4), .val (.int p5)] [(.int (9 : Int32)), (.int p2)])
    by_cases hc2 : p2 = (9 : Int32)
    · refine own_step (fun _ k => XS.icmpNo X0.here hx rfl (hb hby d16_7) rfl (teq hc2).2 k) ?_
      show own_Go _ _ _ _ T0 (mkF m 10 #[.val (.int p1), .val (.int p2), .val (.int p3), .val (.int p4), .val (.int p5)] [])
      refine own_step (fun _ k => XS.iconst X0.here hx rfl (hb hby d16_10) k) ?_
      show own_Go _ _ _ _ T0 (mkF m 11 #[.val (.int p1), .val (.int p2), .val (.int p3), .val (.int p4), .val (.int p5)] [(.int (0 : Int32))])
      exact own_retI X0 hx hret hlk (hb hby d16_11) (own_N ⟨own_leafI ((if_pos hc1).trans (if_pos hc2)), N0, e0⟩ (by decide) (by decide)) 
    · refine own_step (fun _ k => XS.icmpYes X0.here hx rfl (pc0 := 7) (pc' := 12) rfl (hb hby d16_7) rfl (feq hc2).2 (by decide) (by decide) k) ?_
      show own_Go _ _ _ _ T0 (mkF m 12 #[.val (.int p1), .val (.int p2), .val (.int p3), .val (.int p4), .val (.int p5)] [])
      refine own_step (fun _ k => XS.iloadN X0.here hx rfl (hb hby d16_12) rfl k) ?_
      show own_Go _ _ _ _ T0 (mkF m 13 #[.val (.int p1), .val (.int p2), .val (.int p3), .val (.int p4), .val (.int p5)] [(.int p1)])
      refine own_step (fun _ k => XS.iconst X0.here hx rfl (hb hby d16_13) k) ?_
      show own_Go _ _ _ _ T0 (mkF m 14 #[.val (.int p1), .val (.int p2), .val (.int p3), .val (.int p4), .val (.int p5)] [(.int (1 : Int32)), (.int p1)])
      by_cases hc3 : (1 : Int32) < p1
      · refine own_step (fun _ k => XS.icmpNo X0.here hx rfl (hb hby d16_14) rfl (tlt hc3).2.2.2 k) ?_
        show own_Go _ _ _ _ T0 (mkF m 17 #[.val (.int p1), .val (.int p2), .val (.int p3), .val (.int p4), .val (.int p5)] [])
        refine own_step (fun _ k => XS.iloadN X0.here hx rfl (hb hby d16_17) rfl k) ?_
        show own_Go _ _ _ _ T0 (mkF m 18 #[.val (.int p1), .val (.int p2), .val (.int p3), .val (.int p4), .val (.int p5)] [(.int p3)])
        refine own_step (fun _ k => XS.bipush X0.here hx rfl (hb hby d16_18) k) ?_
        show own_Go _ _ _ _ T0 (mkF m 20 #[.val (.int p1), .val (.int p2), .val (.int p3), .val (.int p4), .val (.int p5)] [(.int (9 : Int32)), (.int p3)])
        by_cases hc4 : p3 = (9 : Int32)
        · refine own_step (fun _ k => XS.icmpNo X0.here hx rfl (hb hby d16_20) rfl (teq hc4).2 k) ?_
          show own_Go _ _ _ _ T0 (mkF m 23 #[.val (.int p1), .val (.int p2), .val (.int p3), .val (.int p4), .val (.int p5)] [])
          refine own_step (fun _ k => XS.iconst X0.here hx rfl (hb hby d16_23) k) ?_
          show own_Go _ _ _ _ T0 (mkF m 24 #[.val (.int p1), .val (.int p2), .val (.int p3), .val (.int p4), .val (.int p5)] [(.int (1 : Int32))])
          exact own_retI X0 hx hret hlk (hb hby d16_24) (own_N ⟨own_leafI ((if_pos hc1).trans ((if_neg hc2).trans ((if_pos hc3).trans (if_pos hc4)))), N0, e0⟩ (by decide) (by decide)) 
        · refine own_step (fun _ k => XS.icmpYes X0.here hx rfl (pc0 := 20) (pc' := 25) rfl (hb hby d16_20) rfl (feq hc4).2 (by decide) (by decide) k) ?_
          show own_Go _ _ _ _ T0 (mkF m 25 #[.val (.int p1), .val (.int p2), .val (.int p3), .val (.int p4), .val (.int p5)] [])
          refine own_step (fun _ k => XS.iloadN X0.here hx rfl (hb hby d16_25) rfl k) ?_
          show own_Go _ _ _ _ T0 (mkF m 26 #[.val (.int p1), .val (.int p2), .val (.int p3), .val (.int p4), .val (.int p5)] [(.int p1)])
          refine own_step (fun _ k => XS.iconst X0.here hx rfl (hb hby d16_26) k) ?_
          show own_Go _ _ _ _ T0 (mkF m 27 #[.val (.int p1), .val (.int p2), .val (.int p3), .val (.int p4), .val (.int p5)] [(.int (2 : Int32)), (.int p1)])
          by_cases hc5 : (2 : Int32) < p1
          · refine own_step (fun _ k => XS.icmpNo X0.here hx rfl (hb hby d16_27) rfl (tlt hc5).2.2.2 k) ?_
            show own_Go _ _ _ _ T0 (mkF m 30 #[.val (.int p1), .val (.int p2), .val (.int p3), .val (.int p4), .val (.int p5)] [])
            refine own_step (fun _ k => XS.iloadN X0.here hx rfl (hb hby d16_30) rfl k) ?_
            show own_Go _ _ _ _ T0 (mkF m 31 #[.val (.int p1), .val (.int p2), .val (.int p3), .val (.int p4), .val (.int p5)] [(.int p4)])
            refine own_step (fun _ k => XS.bipush X0.here hx rfl (hb hby d16_31) k) ?_
            show own_Go _ _ _ _ T0 (mkF m 33 #[.val (.int p1), .val (.int p2), .val (.int p3), .val (.int p4), .val (.int p5)] [(.int (9 : Int32)), (.int p4)])
            by_cases hc6 : p4 = (9 : Int32)
            · refine own_step (fun _ k => XS.icmpNo X0.here hx rfl (hb hby d16_33) rfl (teq hc6).2 k) ?_
              show own_Go _ _ _ _ T0 (mkF m 36 #[.val (.int p1), .val (.int p2), .val (.int p3), .val (.int p4), .val (.int p5)] [])
              refine own_step (fun _ k => XS.iconst X0.here hx rfl (hb hby d16_36) k) ?_
              show own_Go _ _ _ _ T0 (mkF m 37 #[.val (.int p1), .val (.int p2), .val (.int p3), .val (.int p4), .val (.int p5)] [(.int (2 : Int32))])
              exact own_retI X0 hx hret hlk (hb hby d16_37) (own_N ⟨own_leafI ((if_pos hc1).trans ((if_neg hc2).trans ((if_pos hc3).trans ((if_neg hc4).trans ((if_pos hc5).trans (if_pos hc6)))))), N0, e0⟩ (by decide) (by decide)) 
            · refine own_step (fun _ k => XS.icmpYes X0.here hx rfl (pc0 := 33) (pc' := 38) rfl (hb hby d16_33) rfl (feq hc6).2 (by decide) (by decide) k) ?_
              show own_Go _ _ _ _ T0 (mkF m 38 #[.val (.int p1), .val (.int p2), .val (.int p3), .val (.int p4), .val (.int p5)] [])
              refine own_step (fun _ k => XS.iloadN X0.here hx rfl (hb hby d16_38) rfl k) ?_
              show own_Go _ _ _ _ T0 (mkF m 39 #[.val (.int p1), .val (.int p2), .val (.int p3), .val (.int p4), .val (.int p5)] [(.int p1)])
              refine own_step (fun _ k => XS.iconst X0.here hx rfl (hb hby d16_39) k) ?_
              show own_Go _ _ _ _ T0 (mkF m 40 #[.val (.int p1), .val (.int p2), .val (.int p3), .val (.int p4), .val (.int p5)] [(.int (3 : Int32)), (.int p1)])
              by_cases hc7 : (3 : Int32) < p1
              · refine own_step (fun _ k => XS.icmpNo X0.here hx rfl (hb hby d16_40) rfl (tlt hc7).2.2.2 k) ?_
                show own_Go _ _ _ _ T0 (mkF m 43 #[.val (.int p1), .val (.int p2), .val (.int p3), .val (.int p4), .val (.int p5)] [])
                refine own_step (fun _ k => XS.iload X0.here hx rfl (hb hby d16_43) rfl k) ?_
                show own_Go _ _ _ _ T0 (mkF m 45 #[.val (.int p1), .val (.int p2), .val (.int p3), .val (.int p4), .val (.int p5)] [(.int p5)])
                refine own_step (fun _ k => XS.bipush X0.here hx rfl (hb hby d16_45) k) ?_
                show own_Go _ _ _ _ T0 (mkF m 47 #[.val (.int p1), .val (.int p2), .val (.int p3), .val (.int p4), .val (.int p5)] [(.int (9 : Int32)), (.int p5)])
                by_cases hc8 : p5 = (9 : Int32)
                · refine own_step (fun _ k => XS.icmpNo X0.here hx rfl (hb hby d16_47) rfl (teq hc8).2 k) ?_
                  show own_Go _ _ _ _ T0 (mkF m 50 #[.val (.int p1), .val (.int p2), .val (.int p3), .val (.int p4), .val (.int p5)] [])
                  refine own_step (fun _ k => XS.iconst X0.here hx rfl (hb hby d16_50) k) ?_
                  show own_Go _ _ _ _ T0 (mkF m 51 #[.val (.int p1), .val (.int p2), .val (.int p3), .val (.int p4), .val (.int p5)] [(.int (3 : Int32))])
                  exact own_retI X0 hx hret hlk (hb hby d16_51) (own_N ⟨own_leafI ((if_pos hc1).trans ((if_neg hc2).trans ((if_pos hc3).trans ((if_neg hc4).trans ((if_pos hc5).trans ((if_neg hc6).trans ((if_pos hc7).trans (if_pos hc8)))))))), N0, e0⟩ (by decide) (by decide)) 
                · refine own_step (fun _ k => XS.icmpYes X0.here hx rfl (pc0 := 47) (pc' := 52) rfl (hb hby d16_47) rfl (feq hc8).2 (by decide) (by decide) k) ?_
                  show own_Go _ _ _ _ T0 (mkF m 52 #[.val (.int p1), .val (.int p2), .val (.int p3), .val (.int p4), .val (.int p5)] [])
                  refine own_step (fun _ k => XS.iloadN X0.here hx rfl (hb hby d16_52) rfl k) ?_
                  show own_Go _ _ _ _ T0 (mkF m 53 #[.val (.int p1), .val (.int p2), .val (.int p3), .val (.int p4), .val (.int p5)] [(.int p1)])
                  exact own_retI X0 hx hret hlk (hb hby d16_53) (own_N ⟨own_leafI ((if_pos hc1).trans ((if_neg hc2).trans ((if_pos hc3).trans ((if_neg hc4).trans ((if_pos hc5).trans ((if_neg hc6).trans ((if_pos hc7).trans (if_neg hc8)))))))), N0, e0⟩ (by decide) (by decide)) 
              · refine own_step (fun _ k => XS.icmpYes X0.here hx rfl (pc0 := 40) (pc' := 52) rfl (hb hby d16_40) rfl (flt hc7).2.2.2 (by decide) (by decide) k) ?_
                show own_Go _ _ _ _ T0 (mkF m 52 #[.val (.int p1), .val (.int p2), .val (.int p3), .val (.int p4), .val (.int p5)] [])
                refine own_step (fun _ k => XS.iloadN X0.here hx rfl (hb hby d16_52) rfl k) ?_
                show own_Go _ _ _ _ T0 (mkF m 53 #[.val (.int p1), .val (.int p2), .val (.int p3), .val (.int p4), .val (.int p5)] [(.int p1)])
                exact own_retI X0 hx hret hlk (hb hby d16_53) (own_N ⟨own_leafI ((if_pos hc1).trans ((if_neg hc2).trans ((if_pos hc3).trans ((if_neg hc4).trans ((if_pos hc5).trans ((if_neg hc6).trans (if_neg hc7))))))), N0, e0⟩ (by decide) (by decide)) 
          · refine own_step (fun _ k => XS.icmpYes X0.here hx rfl (pc0 := 27) (pc' := 38) rfl (hb hby d16_27) rfl (flt hc5).2.2.2 (by decide) (by decide) k) ?_
            show own_Go _ _ _ _ T0 (mkF m 38 #[.val (.int p1), .val (.int p2), .val (.int p3), .val (.int p4), .val (.int p5)] [])
            refine own_step (fun _ k => XS.iloadN X0.here hx rfl (hb hby d16_38) rfl k) ?_
            show own_Go _ _ _ _ T0 (mkF m 39 #[.val (.int p1), .val (.int p2), .val (.int p3), .val (.int p4), .val (.int p5)] [(.int p1)])
            refine own_step (fun _ k => XS.iconst X0.here hx rfl (hb hby d16_39) k) ?_
            show own_Go _ _ _ _ T0 (mkF m 40 #[.val (.int p1), .val (.int p2), .val (.int p3), .val (.int p4), .val (.int p5)] [(.int (3 : Int32)), (.int p1)])
            by_cases hc9 : (3 : Int32) < p1
            · refine own_step (fun _ k => XS.icmpNo X0.here hx rfl (hb hby d16_40) rfl (tlt hc9).2.2.2 k) ?_
              show own_Go _ _ _ _ T0 (mkF m 43 #[.val (.int p1), .val (.int p2), .val (.int p3), .val (.int p4), .val (.int p5)] [])
              refine own_step (fun _ k => XS.iload X0.here hx rfl (hb hby d16_43) rfl k) ?_
              show own_Go _ _ _ _ T0 (mkF m 45 #[.val (.int p1), .val (.int p2), .val (.int p3), .val (.int p4), .val (.int p5)] [(.int p5)])
              refine own_step (fun _ k => XS.bipush X0.here hx rfl (hb hby d16_45) k) ?_
              show own_Go _ _ _ _ T0 (mkF m 47 #[.val (.int p1), .val (.int p2), .val (.int p3), .val (.int p4), .val (.int p5)] [(.int (9 : Int32)), (.int p5)])
              by_cases hc10 : p5 = (9 : Int32)
              · refine own_step (fun _ k => XS.icmpNo X0.here hx rfl (hb hby d16_47) rfl (teq hc10).2 k) ?_
                show own_Go _ _ _ _ T0 (mkF m 50 #[.val (.int p1), .val (.int p2), .val (.int p3), .val (.int p4), .val (.int p5)] [])
                refine own_step (fun _ k => XS.iconst X0.here hx rfl (hb hby d16_50) k) ?_
                show own_Go _ _ _ _ T0 (mkF m 51 #[.val (.int p1), .val (.int p2), .val (.int p3), .val (.int p4), .val (.int p5)] [(.int (3 : Int32))])
                exact own_retI X0 hx hret hlk (hb hby d16_51) (own_N ⟨own_leafI ((if_pos hc1).trans ((if_neg hc2).trans ((if_pos hc3).trans ((if_neg hc4).trans ((if_neg hc5).trans ((if_pos hc9).trans (if_pos hc10))))))), N0, e0⟩ (by decide) (by decide)) 
              · refine own_step (fun _ k => XS.icmpYes X0.here hx rfl (pc0 := 47) (pc' := 52) rfl (hb hby d16_47) rfl (feq hc10).2 (by decide) (by decide) k) ?_
                show own_Go _ _ _ _ T0 (mkF m 52 #[.val (.int p1), .val (.int p2), .val (.int p3), .val (.int p4), .val (.int p5)] [])
                refine own_step (fun _ k => XS.iloadN X0.here hx rfl (hb hby d16_52) rfl k) ?_
                show own_Go _ _ _ _ T0 (mkF m 53 #[.val (.int p1), .val (.int p2), .val (.int p3), .val (.int p4), .val (.int p5)] [(.int p1)])
                exact own_retI X0 hx hret hlk (hb hby d16_53) (own_N ⟨own_leafI ((if_pos hc1).trans ((if_neg hc2).trans ((if_pos hc3).trans ((if_neg hc4).trans ((if_neg hc5).trans ((if_pos hc9).trans (if_neg hc10))))))), N0, e0⟩ (by decide) (by decide)) 
            · refine own_step (fun _ k => XS.icmpYes X0.here hx rfl (pc0 := 40) (pc' := 52) rfl (hb hby d16_40) rfl (flt hc9).2.2.2 (by decide) (by decide) k) ?_
              show own_Go _ _ _ _ T0 (mkF m 52 #[.val (.int p1), .val (.int p2), .val (.int p3), .val (.int p4), .val (.int p5)] [])
              refine own_step (fun _ k => XS.iloadN X0.here hx rfl (hb hby d16_52) rfl k) ?_
              show own_Go _ _ _ _ T0 (mkF m 53 #[.val (.int p1), .val (.int p2), .val (.int p3), .val (.int p4), .val (.int p5)] [(.int p1)])
              exact own_retI X0 hx hret hlk (hb hby d16_53) (own_N ⟨own_leafI ((if_pos hc1).trans ((if_neg hc2).trans ((if_pos hc3).trans ((if_neg hc4).trans ((if_neg hc5).trans (if_neg hc9)))))), N0, e0⟩ (by decide) (by decide)) 
      · refine own_step (fun _ k => XS.icmpYes X0.here hx rfl (pc0 := 14) (pc' := 25) rfl (hb hby d16_14) rfl (flt hc3).2.2.2 (by decide) (by decide) k) ?_
        show own_Go _ _ _ _ T0 (mkF m 25 #[.val (.int p1), .val (.int p2), .val (.int p3), .val (.int p4), .val (.int p5)] [])
        refine own_step (fun _ k => XS.iloadN X0.here hx rfl (hb hby d16_25) rfl k) ?_
        show own_Go _ _ _ _ T0 (mkF m 26 #[.val (.int p1), .val (.int p2), .val (.int p3), .val (.int p4), .val (.int p5)] [(.int p1)])
        refine own_step (fun _ k => XS.iconst X0.here hx rfl (hb hby d16_26) k) ?_
        show own_Go _ _ _ _ T0 (mkF m 27 #[.val (.int p1), .val (.int p2), .val (.int p3), .val (.int p4), .val (.int p5)] [(.int (2 : Int32)), (.int p1)])
        by_cases hc11 : (2 : Int32) < p1
        · refine own_step (fun _ k => XS.icmpNo X0.here hx rfl (hb hby d16_27) rfl (tlt hc11).2.2.2 k) ?_
          show own_Go _ _ _ _ T0 (mkF m 30 #[.val (.int p1), .val (.int p2), .val (.int p3), .val (.int p4), .val (.int p5)] [])
          refine own_step (fun _ k => XS.iloadN X0.here hx rfl (hb hby d16_30) rfl k) ?_
          show own_Go _ _ _ _ T0 (mkF m 31 #[.val (.int p1), .val (.int p2), .val (.int p3), .val (.int p4), .val (.int p5)] [(.int p4)])
          refine own_step (fun _ k => XS.bipush X0.here hx rfl (hb hby d16_31) k) ?_
          show own_Go _ _ _ _ T0 (mkF m 33 #[.val (.int p1), .val (.int p2), .val (.int p3), .val (.int p4), .val (.int p5)] [(.int (9 : Int32)), (.int p4)])
          by_cases hc12 : p4 = (9 : Int32)
          · refine own_step (fun _ k => XS.icmpNo X0.here hx rfl (hb hby d16_33) rfl (teq hc12).2 k) ?_
            show own_Go _ _ _ _ T0 (mkF m 36 #[.val (.int p1), .val (.int p2), .val (.int p3), .val (.int p4), .val (.int p5)] [])
            refine own_step (fun _ k => XS.iconst X0.here hx rfl (hb hby d16_36) k) ?_
            show own_Go _ _ _ _ T0 (mkF m 37 #[.val (.int p1), .val (.int p2), .val (.int p3), .val (.int p4), .val (.int p5)] [(.int (2 : Int32))])
            exact own_retI X0 hx hret hlk (hb hby d16_37) (own_N ⟨own_leafI ((if_pos hc1).trans ((if_neg hc2).trans ((if_neg hc3).trans ((if_pos hc11).trans (if_pos hc12))))), N0, e0⟩ (by decide) (by decide)) 
          · refine own_step (fun _ k => XS.icmpYes X0.here hx rfl (pc0 := 33) (pc' := 38) rfl (hb hby d16_33) rfl (feq hc12).2 (by decide) (by decide) k) ?_
            show own_Go _ _ _ _ T0 (mkF m 38 #[.val (.int p1), .val (.int p2), .val (.int p3), .val (.int p4), .val (.int p5)] [])
            refine own_step (fun _ k => XS.iloadN X0.here hx rfl (hb hby d16_38) rfl k) ?_
            show own_Go _ _ _ _ T0 (mkF m 39 #[.val (.int p1), .val (.int p2), .val (.int p3), .val (.int p4), .val (.int p5)] [(.int p1)])
            refine own_step (fun _ k => XS.iconst X0.here hx rfl (hb hby d16_39) k) ?_
            show own_Go _ _ _ _ T0 (mkF m 40 #[.val (.int p1), .val (.int p2), .val (.int p3), .val (.int p4), .val (.int p5)] [(.int (3 : Int32)), (.int p1)])
            by_cases hc13 : (3 : Int32) < p1
            · refine own_step (fun _ k => XS.icmpNo X0.here hx rfl (hb hby d16_40) rfl (tlt hc13).2.2.2 k) ?_
              show own_Go _ _ _ _ T0 (mkF m 43 #[.val (.int p1), .val (.int p2), .val (.int p3), .val (.int p4), .val (.int p5)] [])
              refine own_step (fun _ k => XS.iload X0.here hx rfl (hb hby d16_43) rfl k) ?_
              show own_Go _ _ _ _ T0 (mkF m 45 #[.val (.int p1), .val (.int p2), .val (.int p3), .val (.int p4), .val (.int p5)] [(.int p5)])
              refine own_step (fun _ k => XS.bipush X0.here hx rfl (hb hby d16_45) k) ?_
              show own_Go _ _ _ _ T0 (mkF m 47 #[.val (.int p1), .val (.int p2), .val (.int p3), .val (.int p4), .val (.int p5)] [(.int (9 : Int32)), (.int p5)])
              by_cases hc14 : p5 = (9 : Int32)
              · refine own_step (fun _ k => XS.icmpNo X0.here hx rfl (hb hby d16_47) rfl (teq hc14).2 k) ?_
                show own_Go _ _ _ _ T0 (mkF m 50 #[.val (.int p1), .val (.int p2), .val (.int p3), .val (.int p4), .val (.int p5)] [])
                refine own_step (fun _ k => XS.iconst X0.here hx rfl (hb hby d16_50) k) ?_
                show own_Go _ _ _ _ T0 (mkF m 51 #[.val (.int p1), .val (.int p2), .val (.int p3), .val (.int p4), .val (.int p5)] [(.int (3 : Int32))])
                exact own_retI X0 hx hret hlk (hb hby d16_51) (own_N ⟨own_leafI ((if_pos hc1).trans ((if_neg hc2).trans ((if_neg hc3).trans ((if_pos hc11).trans ((if_neg hc12).trans ((if_pos hc13).trans (if_pos hc14))))))), N0, e0⟩ (by decide) (by decide)) 
              · refine own_step (fun _ k => XS.icmpYes X0.here hx rfl (pc0 := 47) (pc' := 52) rfl (hb hby d16_47) rfl (feq hc14).2 (by decide) (by decide) k) ?_
                show own_Go _ _ _ _ T0 (mkF m 52 #[.val (.int p1), .val (.int p2), .val (.int p3), .val (.int p4), .val (.int p5)] [])
                refine own_step (fun _ k => XS.iloadN X0.here hx rfl (hb hby d16_52) rfl k) ?_
                show own_Go _ _ _ _ T0 (mkF m 53 #[.val (.int p1), .val (.int p2), .val (.int p3), .val (.int p4), .val (.int p5)] [(.int p1)])
                exact own_retI X0 hx hret hlk (hb hby d16_53) (own_N ⟨own_leafI ((if_pos hc1).trans ((if_neg hc2).trans ((if_neg hc3).trans ((if_pos hc11).trans ((if_neg hc12).trans ((if_pos hc13).trans (if_neg hc14))))))), N0, e0⟩ (by decide) (by decide)) 
            · refine own_step (fun _ k => XS.icmpYes X0.here hx rfl (pc0 := 40) (pc' := 52) rfl (hb hby d16_40) rfl (flt hc13).2.2.2 (by decide) (by decide) k) ?_
              show own_Go _ _ _ _ T0 (mkF m 52 #[.val (.int p1), .val (.int p2), .val (.int p3), .val (.int p4), .val (.int p5)] [])
              refine own_step (fun _ k => XS.iloadN X0.here hx rfl (hb hby d16_52) rfl k) ?_
              show own_Go _ _ _ _ T0 (mkF m 53 #[.val (.int p1), .val (.int p2), .val (.int p3), .val (.int p4), .val (.int p5)] [(.int p1)])
              exact own_retI X0 hx hret hlk (hb hby d16_53) (own_N ⟨own_leafI ((if_pos hc1).trans ((if_neg hc2).trans ((if_neg hc3).trans ((if_pos hc11).trans ((if_neg hc12).trans (if_neg hc13)))))), N0, e0⟩ (by decide) (by decide)) 
        · refine own_step (fun _ k => XS.icmpYes X0.here hx rfl (pc0 := 27) (pc' := 38) rfl (hb hby d16_27) rfl (flt hc11).2.2.2 (by decide) (by decide) k) ?_
          show own_Go _ _ _ _ T0 (mkF m 38 #[.val (.int p1), .val (.int p2), .val (.int p3), .val (.int p4), .val (.int p5)] [])
          refine own_step (fun _ k => XS.iloadN X0.here hx rfl (hb hby d16_38) rfl k) ?_
          show own_Go _ _ _ _ T0 (mkF m 39 #[.val (.int p1), .val (.int p2), .val (.int p3), .val (.int p4), .val (.int p5)] [(.int p1)])
          refine own_step (fun _ k => XS.iconst X0.here hx rfl (hb hby d16_39) k) ?_
          show own_Go _ _ _ _ T0 (mkF m 40 #[.val (.int p1), .val (.int p2), .val (.int p3), .val (.int p4), .val (.int p5)] [(.int (3 : Int32)), (.int p1)])
          by_cases hc15 : (3 : Int32) < p1
          · refine own_step (fun _ k => XS.icmpNo X0.here hx rfl (hb hby d16_40) rfl (tlt hc15).2.2.2 k) ?_
            show own_Go _ _ _ _ T0 (mkF m 43 #[.val (.int p1), .val (.int p2), .val (.int p3), .val (.int p4), .val (.int p5)] [])
            refine own_step (fun _ k => XS.iload X0.here hx rfl (hb hby d16_43) rfl k) ?_
            show own_Go _ _ _ _ T0 (mkF m 45 #[.val (.int p1), .val (.int p2), .val (.int p3), .val (.int p4), .val (.int p5)] [(.int p5)])
            refine own_step (fun _ k => XS.bipush X0.here hx rfl (hb hby d16_45) k) ?_
            show own_Go _ _ _ _ T0 (mkF m 47 #[.val (.int p1), .val (.int p2), .val (.int p3), .val (.int p4), .val (.int p5)] [(.int (9 : Int32)), (.int p5)])
            by_cases hc16 : p5 = (9 : Int32)
            · refine own_step (fun _ k => XS.icmpNo X0.here hx rfl (hb hby d16_47) rfl (teq hc16).2 k) ?_
              show own_Go _ _ _ _ T0 (mkF m 50 #[.val (.int p1), .val (.int p2), .val (.int p3), .val (.int p4), .val (.int p5)] [])
              refine own_step (fun _ k => XS.iconst X0.here hx rfl (hb hby d16_50) k) ?_
              show own_Go _ _ _ _ T0 (mkF m 51 #[.val (.int p1), .val (.int p2), .val (.int p3), .val (.int p4), .val (.int p5)] [(.int (3 : Int32))])
              exact own_retI X0 hx hret hlk (hb hby d16_51) (own_N ⟨own_leafI ((if_pos hc1).trans ((if_neg hc2).trans ((if_neg hc3).trans ((if_neg hc11).trans ((if_pos hc15).trans (if_pos hc16)))))), N0, e0⟩ (by decide) (by decide)) 
            · refine own_step (fun _ k => XS.icmpYes X0.here hx rfl (pc0 := 47) (pc' := 52) rfl (hb hby d16_47) rfl (feq hc16).2 (by decide) (by decide) k) ?_
              show own_Go _ _ _ _ T0 (mkF m 52 #[.val (.int p1), .val (.int p2), .val (.int p3), .val (.int p4), .val (.int p5)] [])
              refine own_step (fun _ k => XS.iloadN X0.here hx rfl (hb hby d16_52) rfl k) ?_
              show own_Go _ _ _ _ T0 (mkF m 53 #[.val (.int p1), .val (.int p2), .val (.int p3), .val (.int p4), .val (.int p5)] [(.int p1)])
              exact own_retI X0 hx hret hlk (hb hby d16_53) (own_N ⟨own_leafI ((if_pos hc1).trans ((if_neg hc2).trans ((if_neg hc3).trans ((if_neg hc11).trans ((if_pos hc15).trans (if_neg hc16)))))), N0, e0⟩ (by decide) (by decide)) 
          · refine own_step (fun _ k => XS.icmpYes X0.here hx rfl (pc0 := 40) (pc' := 52) rfl (hb hby d16_40) rfl (flt hc15).2.2.2 (by decide) (by decide) k) ?_
            show own_Go _ _ _ _ T0 (mkF m 52 #[.val (.int p1), .val (.int p2), .val (.int p3), .val (.int p4), .val (.int p5)] [])
            refine own_step (fun _ k => XS.iloadN X0.here hx rfl (hb hby d16_52) rfl k) ?_
            show own_Go _ _ _ _ T0 (mkF m 53 #[.val (.int p1), .val (.int p2), .val (.int p3), .val (.int p4), .val (.int p5)] [(.int p1)])
            exact own_retI X0 hx hret hlk (hb hby d16_53) (own_N ⟨own_leafI ((if_pos hc1).trans ((if_neg hc2).trans ((if_neg hc3).trans ((if_neg hc11).trans (if_neg hc15))))), N0, e0⟩ (by decide) (by decide)) 
  · refine own_step (fun _ k => XS.ifYes X0.here hx rfl (pc0 := 1) (pc' := 12) rfl (hb hby d16_1) rfl ((if0 _ _).trans (flt hc1).2.2.2) (by decide) (by decide) k) ?_
    show own_Go _ _ _ _ T0 (mkF m 12 #[.val (.int p1), .val (.int p2), .val (.int p3), .val (.int p4), .val (.int p5)] [])
    refine own_step (fun _ k => XS.iloadN X0.here hx rfl (hb hby d16_12) rfl k) ?_
    show own_Go _ _ _ _ T0 (mkF m 13 #[.val (.int p1), .val (.int p2), .val (.int p3), .val (.int p4), .val (.int p5)] [(.int p1)])
    refine own_step (fun _ k => XS.iconst X0.here hx rfl (hb hby d16_13) k) ?_
    show own_Go _ _ _ _ T0 (mkF m 14 #[.val (.int p1), .val (.int p2), .val (.int p3), .val (.int p4), .val (.int p5)] [(.int (1 : Int32)), (.int p1)])
    by_cases hc17 : (1 : Int32) < p1
    · refine own_step (fun _ k => XS.icmpNo X0.here hx rfl (hb hby d16_14) rfl (tlt hc17).2.2.2 k) ?_
      show own_Go _ _ _ _ T0 (mkF m 17 #[.val (.int p1), .val (.int p2), .val (.int p3), .val (.int p4), .val (.int p5)] [])
      refine own_step (fun _ k => XS.iloadN X0.here hx rfl (hb hby d16_17) rfl k) ?_
      show own_Go _ _ _ _ T0 (mkF m 18 #[.val (.int p1), .val (.int p2), .val (.int p3), .val (.int p4), .val (.int p5)] [(.int p3)])
      refine own_step (fun _ k => XS.bipush X0.here hx rfl (hb hby d16_18) k) ?_
      show own_Go _ _ _ _ T0 (mkF m 20 #[.val (.int p1), .val (.int p2), .val (.int p3), .val (.int p4), .val (.int p5)] [(.int (9 : Int32)), (.int p3)])
      by_cases hc18 : p3 = (9 : Int32)
      · refine own_step (fun _ k => XS.icmpNo X0.here hx rfl (hb hby d16_20) rfl (teq hc18).2 k) ?_
        show own_Go _ _ _ _ T0 (mkF m 23 #[.val (.int p1), .val (.int p2), .val (.int p3), .val (.int p4), .val (.int p5)] [])
        refine own_step (fun _ k => XS.iconst X0.here hx rfl (hb hby d16_23) k) ?_
        show own_Go _ _ _ _ T0 (mkF m 24 #[.val (.int p1), .val (.int p2), .val (.int p3), .val (.int p4), .val (.int p5)] [(.int (1 : Int32))])
        exact own_retI X0 hx hret hlk (hb hby d16_24) (own_N ⟨own_leafI ((if_neg hc1).trans ((if_pos hc17).trans (if_pos hc18))), N0, e0⟩ (by decide) (by decide)) 
      · refine own_step (fun _ k => XS.icmpYes X0.here hx rfl (pc0 := 20) (pc' := 25) rfl (hb hby d16_20) rfl (feq hc18).2 (by decide) (by decide) k) ?_
        show own_Go _ _ _ _ T0 (mkF m 25 #[.val (.int p1), .val (.int p2), .val (.int p3), .val (.int p4), .val (.int p5)] [])
        refine own_step (fun _ k => XS.iloadN X0.here hx rfl (hb hby d16_25) rfl k) ?_
        show own_Go _ _ _ _ T0 (mkF m 26 #[.val (.int p1), .val (.int p2), .val (.int p3), .val (.int p4), .val (.int p5)] [(.int p1)])
        refine own_step (fun _ k => XS.iconst X0.here hx rfl (hb hby d16_26) k) ?_
        show own_Go _ _ _ _ T0 (mkF m 27 #[.val (.int p1), .val (.int p2), .val (.int p3), .val (.int p4), .val (.int p5)] [(.int (2 : Int32)), (.int p1)])
        by_cases hc19 : (2 : Int32) < p1
        · refine own_step (fun _ k => XS.icmpNo X0.here hx rfl (hb hby d16_27) rfl (tlt hc19).2.2.2 k) ?_
          show own_Go _ _ _ _ T0 (mkF m 30 #[.val (.int p1), .val (.int p2), .val (.int p3), .val (.int p4), .val (.int p5)] [])
          refine own_step (fun _ k => XS.iloadN X0.here hx rfl (hb hby d16_30) rfl k) ?_
          show own_Go _ _ _ _ T0 (mkF m 31 #[.val (.int p1), .val (.int p2), .val (.int p3), .val (.int p4), .val (.int p5)] [(.int p4)])
          refine own_step (fun _ k => XS.bipush X0.here hx rfl (hb hby d16_31) k) ?_
          show own_Go _ _ _ _ T0 (mkF m 33 #[.val (.int p1), .val (.int p2), .val (.int p3), .val (.int p4), .val (.int p5)] [(.int (9 : Int32)), (.int p4)])
          by_cases hc20 : p4 = (9 : Int32)
          · refine own_step (fun _ k => XS.icmpNo X0.here hx rfl (hb hby d16_33) rfl (teq hc20).2 k) ?_
            show own_Go _ _ _ _ T0 (mkF m 36 #[.val (.int p1), .val (.int p2), .val (.int p3), .val (.int p4), .val (.int p5)] [])
            refine own_step (fun _ k => XS.iconst X0.here hx rfl (hb hby d16_36) k) ?_
            show own_Go _ _ _ _ T0 (mkF m 37 #[.val (.int p1), .val (.int p2), .val (.int p3), .val (.int p4), .val (.int p5)] [(.int (2 : Int32))])
            exact own_retI X0 hx hret hlk (hb hby d16_37) (own_N ⟨own_leafI ((if_neg hc1).trans ((if_pos hc17).trans ((if_neg hc18).trans ((if_pos hc19).trans (if_pos hc20))))), N0, e0⟩ (by decide) (by decide)) 
          · refine own_step (fun _ k => XS.icmpYes X0.here hx rfl (pc0 := 33) (pc' := 38) rfl (hb hby d16_33) rfl (feq hc20).2 (by decide) (by decide) k) ?_
            show own_Go _ _ _ _ T0 (mkF m 38 #[.val (.int p1), .val (.int p2), .val (.int p3), .val (.int p4), .val (.int p5)] [])
            refine own_step (fun _ k => XS.iloadN X0.here hx rfl (hb hby d16_38) rfl k) ?_
            show own_Go _ _ _ _ T0 (mkF m 39 #[.val (.int p1), .val (.int p2), .val (.int p3), .val (.int p4), .val (.int p5)] [(.int p1)])
            refine own_step (fun _ k => XS.iconst X0.here hx rfl (hb hby d16_39) k) ?_
            show own_Go _ _ _ _ T0 (mkF m 40 #[.val (.int p1), .val (.int p2), .val (.int p3), .val (.int p4), .val (.int p5)] [(.int (3 : Int32)), (.int p1)])
            by_cases hc21 : (3 : Int32) < p1
            · refine own_step (fun _ k => XS.icmpNo X0.here hx rfl (hb hby d16_40) rfl (tlt hc21).2.2.2 k) ?_
              show own_Go _ _ _ _ T0 (mkF m 43 #[.val (.int p1), .val (.int p2), .val (.int p3), .val (.int p4), .val (.int p5)] [])
              refine own_step (fun _ k => XS.iload X0.here hx rfl (hb hby d16_43) rfl k) ?_
              show own_Go _ _ _ _ T0 (mkF m 45 #[.val (.int p1), .val (.int p2), .val (.int p3), .val (.int p4), .val (.int p5)] [(.int p5)])
              refine own_step (fun _ k => XS.bipush X0.here hx rfl (hb hby d16_45) k) ?_
              show own_Go _ _ _ _ T0 (mkF m 47 #[.val (.int p1), .val (.int p2), .val (.int p3), .val (.int p4), .val (.int p5)] [(.int (9 : Int32)), (.int p5)])
              by_cases hc22 : p5 = (9 : Int32)
              · refine own_step (fun _ k => XS.icmpNo X0.here hx rfl (hb hby d16_47) rfl (teq hc22).2 k) ?_
                show own_Go _ _ _ _ T0 (mkF m 50 #[.val (.int p1), .val (.int p2), .val (.int p3), .val (.int p4), .val (.int p5)] [])
                refine own_step (fun _ k => XS.iconst X0.here hx rfl (hb hby d16_50) k) ?_
                show own_Go _ _ _ _ T0 (mkF m 51 #[.val (.int p1), .val (.int p2), .val (.int p3), .val (.int p4), .val (.int p5)] [(.int (3 : Int32))])
                exact own_retI X0 hx hret hlk (hb hby d16_51) (own_N ⟨own_leafI ((if_neg hc1).trans ((if_pos hc17).trans ((if_neg hc18).trans ((if_pos hc19).trans ((if_neg hc20).trans ((if_pos hc21).trans (if_pos hc22))))))), N0, e0⟩ (by decide) (by decide)) 
              · refine own_step (fun _ k => XS.icmpYes X0.here hx rfl (pc0 := 47) (pc' := 52) rfl (hb hby d16_47) rfl (feq hc22).2 (by decide) (by decide) k) ?_
                show own_Go _ _ _ _ T0 (mkF m 52 #[.val (.int p1), .val (.int p2), .val (.int p3), .val (.int p4), .val (.int p5)] [])
                refine own_step (fun _ k => XS.iloadN X0.here hx rfl (hb hby d16_52) rfl k) ?_
                show own_Go _ _ _ _ T0 (mkF m 53 #[.val (.int p1), .val (.int p2), .val (.int p3), .val (.int p4), .val (.int p5)] [(.int p1)])
                exact own_retI X0 hx hret hlk (hb hby d16_53) (own_N ⟨own_leafI ((if_neg hc1).trans ((if_pos hc17).trans ((if_neg hc18).trans ((if_pos hc19).trans ((if_neg hc20).trans ((if_pos hc21).trans (if_neg hc22))))))), N0, e0⟩ (by decide) (by decide)) 
            · refine own_step (fun _ k => XS.icmpYes X0.here hx rfl (pc0 := 40) (pc' := 52) rfl (hb hby d16_40) rfl (flt hc21).2.2.2 (by decide) (by decide) k) ?_
              show own_Go _ _ _ _ T0 (mkF m 52 #[.val (.int p1), .val (.int p2), .val (.int p3), .val (.int p4), .val (.int p5)] [])
              refine own_step (fun _ k => XS.iloadN X0.here hx rfl (hb hby d16_52) rfl k) ?_
              show own_Go _ _ _ _ T0 (mkF m 53 #[.val (.int p1), .val (.int p2), .val (.int p3), .val (.int p4), .val (.int p5)] [(.int p1)])
              exact own_retI X0 hx hret hlk (hb hby d16_53) (own_N ⟨own_leafI ((if_neg hc1).trans ((if_pos hc17).trans ((if_neg hc18).trans ((if_pos hc19).trans ((if_neg hc20).trans (if_neg hc21)))))), N0, e0⟩ (by decide) (by decide)) 
        · refine own_step (fun _ k => XS.icmpYes X0.here hx rfl (pc0 := 27) (pc' := 38) rfl (hb hby d16_27) rfl (flt hc19).2.2.2 (by decide) (by decide) k) ?_
          show own_Go _ _ _ _ T0 (mkF m 38 #[.val (.int p1), .val (.int p2), .val (.int p3), .val (.int p4), .val (.int p5)] [])
          refine own_step (fun _ k => XS.iloadN X0.here hx rfl (hb hby d16_38) rfl k) ?_
          show own_Go _ _ _ _ T0 (mkF m 39 #[.val (.int p1), .val (.int p2), .val (.int p3), .val (.int p4), .val (.int p5)] [(.int p1)])
          refine own_step (fun _ k => XS.iconst X0.here hx rfl (hb hby d16_39) k) ?_
          show own_Go _ _ _ _ T0 (mkF m 40 #[.val (.int p1), .val (.int p2), .val (.int p3), .val (.int p4), .val (.int p5)] [(.int (3 : Int32)), (.int p1)])
          by_cases hc23 : (3 : Int32) < p1
          · refine own_step (fun _ k => XS.icmpNo X0.here hx rfl (hb hby d16_40) rfl (tlt hc23).2.2.2 k) ?_
            show own_Go _ _ _ _ T0 (mkF m 43 #[.val (.int p1), .val (.int p2), .val (.int p3), .val (.int p4), .val (.int p5)] [])
            refine own_step (fun _ k => XS.iload X0.here hx rfl (hb hby d16_43) rfl k) ?_
            show own_Go _ _ _ _ T0 (mkF m 45 #[.val (.int p1), .val (.int p2), .val (.int p3), .val (.int p4), .val (.int p5)] [(.int p5)])
            refine own_step (fun _ k => XS.bipush X0.here hx rfl (hb hby d16_45) k) ?_
            show own_Go _ _ _ _ T0 (mkF m 47 #[.val (.int p1), .val (.int p2), .val (.int p3), .val (.int p4), .val (.int p5)] [(.int (9 : Int32)), (.int p5)])
            by_cases hc24 : p5 = (9 : Int32)
            · refine own_step (fun _ k => XS.icmpNo X0.here hx rfl (hb hby d16_47) rfl (teq hc24).2 k) ?_
              show own_Go _ _ _ _ T0 (mkF m 50 #[.val (.int p1), .val (.int p2), .val (.int p3), .val (.int p4), .val (.int p5)] [])
              refine own_step (fun _ k => XS.iconst X0.here hx rfl (hb hby d16_50) k) ?_
              show own_Go _ _ _ _ T0 (mkF m 51 #[.val (.int p1), .val (.int p2), .val (.int p3), .val (.int p4), .val (.int p5)] [(.int (3 : Int32))])
              exact own_retI X0 hx hret hlk (hb hby d16_51) (own_N ⟨own_leafI ((if_neg hc1).trans ((if_pos hc17).trans ((if_neg hc18).trans ((if_neg hc19).trans ((if_pos hc23).trans (if_pos hc24)))))), N0, e0⟩ (by decide) (by decide)) 
            · refine own_step (fun _ k => XS.icmpYes X0.here hx rfl (pc0 := 47) (pc' := 52) rfl (hb hby d16_47) rfl (feq hc24).2 (by decide) (by decide) k) ?_
              show own_Go _ _ _ _ T0 (mkF m 52 #[.val (.int p1), .val (.int p2), .val (.int p3), .val (.int p4), .val (.int p5)] [])
              refine own_step (fun _ k => XS.iloadN X0.here hx rfl (hb hby d16_52) rfl k) ?_
              show own_Go _ _ _ _ T0 (mkF m 53 #[.val (.int p1), .val (.int p2), .val (.int p3), .val (.int p4), .val (.int p5)] [(.int p1)])
              exact own_retI X0 hx hret hlk (hb hby d16_53) (own_N ⟨own_leafI ((if_neg hc1).trans ((if_pos hc17).trans ((if_neg hc18).trans ((if_neg hc19).trans ((if_pos hc23).trans (if_neg hc24)))))), N0, e0⟩ (by decide) (by decide)) 
          · refine own_step (fun _ k => XS.icmpYes X0.here hx rfl (pc0 := 40) (pc' := 52) rfl (hb hby d16_40) rfl (flt hc23).2.2.2 (by decide) (by decide) k) ?_
            show own_Go _ _ _ _ T0 (mkF m 52 #[.val (.int p1), .val (.int p2), .val (.int p3), .val (.int p4), .val (.int p5)] [])
            refine own_step (fun _ k => XS.iloadN X0.here hx rfl (hb hby d16_52) rfl k) ?_
            show own_Go _ _ _ _ T0 (mkF m 53 #[.val (.int p1), .val (.int p2), .val (.int p3), .val (.int p4), .val (.int p5)] [(.int p1)])
            exact own_retI X0 hx hret hlk (hb hby d16_53) (own_N ⟨own_leafI ((if_neg hc1).trans ((if_pos hc17).trans ((if_neg hc18).trans ((if_neg hc19).trans (if_neg hc23))))), N0, e0⟩ (by decide) (by decide)) 
    · refine own_step (fun _ k => XS.icmpYes X0.here hx rfl (pc0 := 14) (pc' := 25) rfl (hb hby d16_14) rfl (flt hc17).2.2.2 (by decide) (by decide) k) ?_
      show own_Go _ _ _ _ T0 (mkF m 25 #[.val (.int p1), .val (.int p2), .val (.int p3), .val (.int p4), .val (.int p5)] [])
      refine own_step (fun _ k => XS.iloadN X0.here hx rfl (hb hby d16_25) rfl k) ?_
      show own_Go _ _ _ _ T0 (mkF m 26 #[.val (.int p1), .val (.int p2), .val (.int p3), .val (.int p4), .val (.int p5)] [(.int p1)])
      refine own_step (fun _ k => XS.iconst X0.here hx rfl (hb hby d16_26) k) ?_
      show own_Go _ _ _ _ T0 (mkF m 27 #[.val (.int p1), .val (.int p2), .val (.int p3), .val (.int p4), .val (.int p5)] [(.int (2 : Int32)), (.int p1)])
      by_cases hc25 : (2 : Int32) < p1
      · refine own_step (fun _ k => XS.icmpNo X0.here hx rfl (hb hby d16_27) rfl (tlt hc25).2.2.2 k) ?_
        show own_Go _ _ _ _ T0 (mkF m 30 #[.val (.int p1), .val (.int p2), .val (.int p3), .val (.int p4), .val (.int p5)] [])
        refine own_step (fun _ k => XS.iloadN X0.here hx rfl (hb hby d16_30) rfl k) ?_
        show own_Go _ _ _ _ T0 (mkF m 31 #[.val (.int p1), .val (.int p2), .val (.int p3), .val (.int p4), .val (.int p5)] [(.int p4)])
        refine own_step (fun _ k => XS.bipush X0.here hx rfl (hb hby d16_31) k) ?_
        show own_Go _ _ _ _ T0 (mkF m 33 #[.val (.int p1), .val (.int p2), .val (.int p3), .val (.int p4), .val (.int p5)] [(.int (9 : Int32)), (.int p4)])
        by_cases hc26 : p4 = (9 : Int32)
        · refine own_step (fun _ k => XS.icmpNo X0.here hx rfl (hb hby d16_33) rfl (teq hc26).2 k) ?_
          show own_Go _ _ _ _ T0 (mkF m 36 #[.val (.int p1), .val (.int p2), .val (.int p3), .val (.int p4), .val (.int p5)] [])
          refine own_step (fun _ k => XS.iconst X0.here hx rfl (hb hby d16_36) k) ?_
          show own_Go _ _ _ _ T0 (mkF m 37 #[.val (.int p1), .val (.int p2), .val (.int p3), .val (.int p4), .val (.int p5)] [(.int (2 : Int32))])
          exact own_retI X0 hx hret hlk (hb hby d16_37) (own_N ⟨own_leafI ((if_neg hc1).trans ((if_neg hc17).trans ((if_pos hc25).trans (if_pos hc26)))), N0, e0⟩ (by decide) (by decide)) 
        · refine own_step (fun _ k => XS.icmpYes X0.here hx rfl (pc0 := 33) (pc' := 38) rfl (hb hby d16_33) rfl (feq hc26).2 (by decide) (by decide) k) ?_
          show own_Go _ _ _ _ T0 (mkF m 38 #[.val (.int p1), .val (.int p2), .val (.int p3), .val (.int p4), .val (.int p5)] [])
          refine own_step (fun _ k => XS.iloadN X0.here hx rfl (hb hby d16_38) rfl k) ?_
          show own_Go _ _ _ _ T0 (mkF m 39 #[.val (.int p1), .val (.int p2), .val (.int p3), .val (.int p4), .val (.int p5)] [(.int p1)])
          refine own_step (fun _ k => XS.iconst X0.here hx rfl (hb hby d16_39) k) ?_
          show own_Go _ _ _ _ T0 (mkF m 40 #[.val (.int p1), .val (.int p2), .val (.int p3), .val (.int p4), .val (.int p5)] [(.int (3 : Int32)), (.int p1)])
          by_cases hc27 : (3 : Int32) < p1
          · refine own_step (fun _ k => XS.icmpNo X0.here hx rfl (hb hby d16_40) rfl (tlt hc27).2.2.2 k) ?_
            show own_Go _ _ _ _ T0 (mkF m 43 #[.val (.int p1), .val (.int p2), .val (.int p3), .val (.int p4), .val (.int p5)] [])
            refine own_step (fun _ k => XS.iload X0.here hx rfl (hb hby d16_43) rfl k) ?_
            show own_Go _ _ _ _ T0 (mkF m 45 #[.val (.int p1), .val (.int p2), .val (.int p3), .val (.int p4), .val (.int p5)] [(.int p5)])
            refine own_step (fun _ k => XS.bipush X0.here hx rfl (hb hby d16_45) k) ?_
            show own_Go _ _ _ _ T0 (mkF m 47 #[.val (.int p1), .val (.int p2), .val (.int p3), .val (.int p4), .val (.int p5)] [(.int (9 : Int32)), (.int p5)])
            by_cases hc28 : p5 = (9 : Int32)
            · refine own_step (fun _ k => XS.icmpNo X0.here hx rfl (hb hby d16_47) rfl (teq hc28).2 k) ?_
              show own_Go _ _ _ _ T0 (mkF m 50 #[.val (.int p1), .val (.int p2), .val (.int p3), .val (.int p4), .val (.int p5)] [])
              refine own_step (fun _ k => XS.iconst X0.here hx rfl (hb hby d16_50) k) ?_
              show own_Go _ _ _ _ T0 (mkF m 51 #[.val (.int p1), .val (.int p2), .val (.int p3), .val (.int p4), .val (.int p5)] [(.int (3 : Int32))])
              exact own_retI X0 hx hret hlk (hb hby d16_51) (own_N ⟨own_leafI ((if_neg hc1).trans ((if_neg hc17).trans ((if_pos hc25).trans ((if_neg hc26).trans ((if_pos hc27).trans (if_pos hc28)))))), N0, e0⟩ (by decide) (by decide)) 
            · refine own_step (fun _ k => XS.icmpYes X0.here hx rfl (pc0 := 47) (pc' := 52) rfl (hb hby d16_47) rfl (feq hc28).2 (by decide) (by decide) k) ?_
              show own_Go _ _ _ _ T0 (mkF m 52 #[.val (.int p1), .val (.int p2), .val (.int p3), .val (.int p4), .val (.int p5)] [])
              refine own_step (fun _ k => XS.iloadN X0.here hx rfl (hb hby d16_52) rfl k) ?_
              show own_Go _ _ _ _ T0 (mkF m 53 #[.val (.int p1), .val (.int p2), .val (.int p3), .val (.int p4), .val (.int p5)] [(.int p1)])
              exact own_retI X0 hx hret hlk (hb hby d16_53) (own_N ⟨own_leafI ((if_neg hc1).trans ((if_neg hc17).trans ((if_pos hc25).trans ((if_neg hc26).trans ((if_pos hc27).trans (if_neg hc28)))))), N0, e0⟩ (by decide) (by decide)) 
          · refine own_step (fun _ k => XS.icmpYes X0.here hx rfl (pc0 := 40) (pc' := 52) rfl (hb hby d16_40) rfl (flt hc27).2.2.2 (by decide) (by decide) k) ?_
            show own_Go _ _ _ _ T0 (mkF m 52 #[.val (.int p1), .val (.int p2), .val (.int p3), .val (.int p4), .val (.int p5)] [])
            refine own_step (fun _ k => XS.iloadN X0.here hx rfl (hb hby d16_52) rfl k) ?_
            show own_Go _ _ _ _ T0 (mkF m 53 #[.val (.int p1), .val (.int p2), .val (.int p3), .val (.int p4), .val (.int p5)] [(.int p1)])
            exact own_retI X0 hx hret hlk (hb hby d16_53) (own_N ⟨own_leafI ((if_neg hc1).trans ((if_neg hc17).trans ((if_pos hc25).trans ((if_neg hc26).trans (if_neg hc27))))), N0, e0⟩ (by decide) (by decide)) 
      · refine own_step (fun _ k => XS.icmpYes X0.here hx rfl (pc0 := 27) (pc' := 38) rfl (hb hby d16_27) rfl (flt hc25).2.2.2 (by decide) (by decide) k) ?_
        show own_Go _ _ _ _ T0 (mkF m 38 #[.val (.int p1), .val (.int p2), .val (.int p3), .val (.int p4), .val (.int p5)] [])
        refine own_step (fun _ k => XS.iloadN X0.here hx rfl (hb hby d16_38) rfl k) ?_
        show own_Go _ _ _ _ T0 (mkF m 39 #[.val (.int p1), .val (.int p2), .val (.int p3), .val (.int p4), .val (.int p5)] [(.int p1)])
        refine own_step (fun _ k => XS.iconst X0.here hx rfl (hb hby d16_39) k) ?_
        show own_Go _ _ _ _ T0 (mkF m 40 #[.val (.int p1), .val (.int p2), .val (.int p3), .val (.int p4), .val (.int p5)] [(.int (3 : Int32)), (.int p1)])
        by_cases hc29 : (3 : Int32) < p1
        · refine own_step (fun _ k => XS.icmpNo X0.here hx rfl (hb hby d16_40) rfl (tlt hc29).2.2.2 k) ?_
          show own_Go _ _ _ _ T0 (mkF m 43 #[.val (.int p1), .val (.int p2), .val (.int p3), .val (.int p4), .val (.int p5)] [])
          refine own_step (fun _ k => XS.iload X0.here hx rfl (hb hby d16_43) rfl k) ?_
          show own_Go _ _ _ _ T0 (mkF m 45 #[.val (.int p1), .val (.int p2), .val (.int p3), .val (.int p4), .val (.int p5)] [(.int p5)])
          refine own_step (fun _ k => XS.bipush X0.here hx rfl (hb hby d16_45) k) ?_
          show own_Go _ _ _ _ T0 (mkF m 47 #[.val (.int p1), .val (.int p2), .val (.int p3), .val (.int p4), .val (.int p5)] [(.int (9 : Int32)), (.int p5)])
          by_cases hc30 : p5 = (9 : Int32)
          · refine own_step (fun _ k => XS.icmpNo X0.here hx rfl (hb hby d16_47) rfl (teq hc30).2 k) ?_
            show own_Go _ _ _ _ T0 (mkF m 50 #[.val (.int p1), .val (.int p2), .val (.int p3), .val (.int p4), .val (.int p5)] [])
            refine own_step (fun _ k => XS.iconst X0.here hx rfl (hb hby d16_50) k) ?_
            show own_Go _ _ _ _ T0 (mkF m 51 #[.val (.int p1), .val (.int p2), .val (.int p3), .val (.int p4), .val (.int p5)] [(.int (3 : Int32))])
            exact own_retI X0 hx hret hlk (hb hby d16_51) (own_N ⟨own_leafI ((if_neg hc1).trans ((if_neg hc17).trans ((if_neg hc25).trans ((if_pos hc29).trans (if_pos hc30))))), N0, e0⟩ (by decide) (by decide)) 
          · refine own_step (fun _ k => XS.icmpYes X0.here hx rfl (pc0 := 47) (pc' := 52) rfl (hb hby d16_47) rfl (feq hc30).2 (by decide) (by decide) k) ?_
            show own_Go _ _ _ _ T0 (mkF m 52 #[.val (.int p1), .val (.int p2), .val (.int p3), .val (.int p4), .val (.int p5)] [])
            refine own_step (fun _ k => XS.iloadN X0.here hx rfl (hb hby d16_52) rfl k) ?_
            show own_Go _ _ _ _ T0 (mkF m 53 #[.val (.int p1), .val (.int p2), .val (.int p3), .val (.int p4), .val (.int p5)] [(.int p1)])
            exact own_retI X0 hx hret hlk (hb hby d16_53) (own_N ⟨own_leafI ((if_neg hc1).trans ((if_neg hc17).trans ((if_neg hc25).trans ((if_pos hc29).trans (if_neg hc30))))), N0, e0⟩ (by decide) (by decide)) 
        · refine own_step (fun _ k => XS.icmpYes X0.here hx rfl (pc0 := 40) (pc' := 52) rfl (hb hby d16_40) rfl (flt hc29).2.2.2 (by decide) (by decide) k) ?_
          show own_Go _ _ _ _ T0 (mkF m 52 #[.val (.int p1), .val (.int p2), .val (.int p3), .val (.int p4), .val (.int p5)] [])
          refine own_step (fun _ k => XS.iloadN X0.here hx rfl (hb hby d16_52) rfl k) ?_
          show own_Go _ _ _ _ T0 (mkF m 53 #[.val (.int p1), .val (.int p2), .val (.int p3), .val (.int p4), .val (.int p5)] [(.int p1)])
          exact own_retI X0 hx hret hlk (hb hby d16_53) (own_N ⟨own_leafI ((if_neg hc1).trans ((if_neg hc17).trans ((if_neg hc25).trans (if_neg hc29)))), N0, e0⟩ (by decide) (by decide)) 
theorem own_drb (x : Int32) : 0 ≤ (own_dr x).toInt ∧ (own_dr x).toInt ≤ 255 := by
  unfold own_dr
  have h := c_and x (255 : Int32) (by decide)
  have e : (255 : Int32).toInt = 255 := by decide
  have e9 : (9 : Int32).toInt = 9 := by decide
  split
  · rw [own_ci]; try rw [own_ci]
    omega
  · omega
theorem own_dn {x : Int32} (h : 0 ≤ x.toInt ∧ x.toInt ≤ 255) : nar .char x = x := by
  have h2 := c_i2c x
  show x.toUInt32.toUInt16.toUInt32.toInt32 = x
  rw [← Int32.toInt_inj]; omega
theorem own_dl {x : Int32} (h : 0 ≤ x.toInt ∧ x.toInt ≤ 255) : ¬ (255 : Int32) < x := by
  have e : (255 : Int32).toInt = 255 := by decide
  rw [Int32.lt_iff_toInt_lt]; omega
def own_mk (p1 p2 p3 p4 p5 : Int32) : List Int32 := if p1 = (0 : Int32) then ([] : List Int32) else if p1 = (1 : Int32) then ([p2] : List Int32) else if p1 = (2 : Int32) then ([p2, p3] : List Int32) else if p1 = (3 : Int32) then ([p2, p3, p4] : List Int32) else ([p2, p3, p4, p5] : List Int32)
def own_Five (n : Int32) : Prop := n = (0 : Int32) ∨ n = (1 : Int32) ∨ n = (2 : Int32) ∨ n = (3 : Int32) ∨ n = (4 : Int32)
theorem own_five (x : Int32) : own_Five ((x &&& (2147483647 : Int32)) % (5 : Int32)) := by
  have h1 := c_and x (2147483647 : Int32) (by decide)
  have h2 := (c_irem (x &&& (2147483647 : Int32)) (5 : Int32) 5 (by decide)).1 h1.1
  have e5 : (5 : Int32).toInt = 5 := by decide
  have e : (0 : Int32).toInt = 0 ∧ (1 : Int32).toInt = 1 ∧ (2 : Int32).toInt = 2 ∧ (3 : Int32).toInt = 3 ∧ (4 : Int32).toInt = 4 := by decide
  unfold own_Five
  simp only [← Int32.toInt_inj]
  rw [h2]; omega
theorem own_mkl {n : Int32} (h : own_Five n) (a b c d : Int32) : n.toInt = ((own_mk n a b c d).length : Nat) := by
  rcases h with rfl | rfl | rfl | rfl | rfl <;> rfl
theorem own_mkc {n : Int32} (h : own_Five n) (a b c d : Int32) : (own_mk n a b c d).length ≤ 8 := by
  rcases h with rfl | rfl | rfl | rfl | rfl <;> exact Nat.le_of_ble_eq_true rfl
theorem own_mka {n : Int32} (h : own_Five n) {a b c d : Int32} (ha : ¬ (255 : Int32) < a) (hb : ¬ (255 : Int32) < b) (hc : ¬ (255 : Int32) < c) (hd : ¬ (255 : Int32) < d) : ∀ t, ¬ (255 : Int32) < (own_mk n a b c d).getD t (0 : Int32) := by
  apply own_lat
  intro x hx
  rcases h with rfl | rfl | rfl | rfl | rfl
  · cases hx
  · have hx : x ∈ [a] := hx
    simp only [List.mem_cons, List.not_mem_nil, or_false] at hx; subst hx; exact ha
  · have hx : x ∈ [a, b] := hx
    simp only [List.mem_cons, List.not_mem_nil, or_false] at hx; rcases hx with rfl | rfl <;> assumption
  · have hx : x ∈ [a, b, c] := hx
    simp only [List.mem_cons, List.not_mem_nil, or_false] at hx; rcases hx with rfl | rfl | rfl <;> assumption
  · have hx : x ∈ [a, b, c, d] := hx
    simp only [List.mem_cons, List.not_mem_nil, or_false] at hx; rcases hx with rfl | rfl | rfl | rfl <;> assumption
def own_tab (q : Int32) : List Int32 → Nat
  | [] => 0
  | y :: r => if y = q then 0 else own_tab q r + 1
theorem own_tabl (q : Int32) : ∀ ys : List Int32, own_tab q ys ≤ ys.length
  | [] => Nat.le_refl _
  | y :: r => by unfold own_tab; have := own_tabl q r; split <;> simp <;> omega
theorem own_tabS (q : Int32) : ∀ (ys : List Int32) (j : Nat), j < ys.length → own_tab q (ys.drop j) = if ys.getD j (0 : Int32) = q then 0 else own_tab q (ys.drop (j + 1)) + 1
  | [], _, h => absurd h (Nat.not_lt_zero _)
  | y :: r, 0, _ => by simp [own_tab]
  | y :: r, j + 1, h => by have := own_tabS q r j (by simpa using h); simpa using this
def own_ixr (t n : Nat) : Int32 := if t < n then Int32.ofInt (t : Int) else (-1 : Int32)
theorem own_ixv {t n : Nat} (h : t < n) (hn : n ≤ 8) : (own_ixr t n).toInt = (t : Nat) := by
  unfold own_ixr
  rw [if_pos h, Int32.toInt_ofInt]
  have es : Int32.size = 4294967296 := rfl
  rw [Int.bmod_eq_of_le (by omega) (by omega)]
theorem own_ixn {t n : Nat} (hn : n ≤ 8) (h : own_ixr t n < (0 : Int32)) : ¬ t < n := fun q => by
  have e0 : (0 : Int32).toInt = 0 := rfl
  have := own_ixv q hn
  rw [Int32.lt_iff_toInt_lt] at h; omega
theorem own_ixp {t n : Nat} (h : ¬ own_ixr t n < (0 : Int32)) : t < n := by
  by_cases q : t < n
  · exact q
  · exfalso; apply h; unfold own_ixr; rw [if_neg q]; decide
theorem own_cpy (ys : List Int32) (t m : Nat) (h : t ≤ ys.length) : ∀ i, ((ys.take t).map Value.int).getD i (.int (0 : Int32)) = ((List.replicate m (Value.int (0 : Int32))).take 0 ++ (List.range t).map (fun i => (ys.map Value.int).getD (0 + i) (.int (0 : Int32))) ++ (List.replicate m (Value.int (0 : Int32))).drop (0 + t)).getD i (.int (0 : Int32)) := by
  have e : (List.range t).map (fun i => (ys.map Value.int).getD (0 + i) (.int (0 : Int32))) = (ys.take t).map Value.int := by
    apply List.ext_getElem
    · simp; omega
    · intro i h1 h2
      have h3 : i < ys.length := by simp at h1; omega
      simp [h3]
  intro i
  rw [e, List.take_zero, List.nil_append, List.drop_replicate]
  exact (pad_rep _ _ _ i).symm
def own_sm (p2 p3 p4 : Int32) (ys : List Int32) : Int32 := if p2 < p3 then (if ((ys.getD p2.toNatClampNeg (0 : Int32)) &&& (255 : Int32)) = p4 then (1 : Int32) else (0 : Int32)) else (1 : Int32)
theorem own_smk (i f c : Int32) (ys : List Int32) (h : i < f → ((ys.getD i.toNatClampNeg (0 : Int32)) &&& (255 : Int32)) = c) : ¬ own_sm i f c ys = (0 : Int32) := by
  unfold own_sm
  by_cases q : i < f
  · rw [if_pos q, if_pos (h q)]; decide
  · rw [if_neg q]; decide
theorem own_bq {x : Int32} (h : 0 ≤ x.toInt ∧ x.toInt ≤ 255) : (x.toInt8.toInt32 = (9 : Int32) ↔ x = (9 : Int32)) ∧ (x.toInt8.toInt32 &&& (255 : Int32)) = x := by
  have h1 := c_i2b x
  have h3 := c_mask x.toInt8.toInt32 (255 : Int32) 8 (by decide) (by decide)
  have e9 : (9 : Int32).toInt = 9 := by decide
  constructor
  · rw [← Int32.toInt_inj, ← Int32.toInt_inj]; omega
  · rw [← Int32.toInt_inj]; omega
set_option maxHeartbeats 8000000 in
theorem own_law {n c1 c2 c3 c4 : Int32} (h : own_Five n) (b1 : 0 ≤ c1.toInt ∧ c1.toInt ≤ 255) (b2 : 0 ≤ c2.toInt ∧ c2.toInt ≤ 255) (b3 : 0 ≤ c3.toInt ∧ c3.toInt ≤ 255) (b4 : 0 ≤ c4.toInt ∧ c4.toInt ≤ 255) (ys : List Int32) (hys : ys = (own_mk n c1 c2 c3 c4).map (fun c : Int32 => c.toInt8.toInt32)) :
    (own_ft n c1 c2 c3 c4).toInt = (own_tab ((9 : Int32).toInt8.toInt32) ys : Nat) ∧ ¬ own_sm (0 : Int32) (own_ft n c1 c2 c3 c4) c1 (ys.take (own_tab ((9 : Int32).toInt8.toInt32) ys)) = (0 : Int32) ∧ ¬ own_sm (1 : Int32) (own_ft n c1 c2 c3 c4) c2 (ys.take (own_tab ((9 : Int32).toInt8.toInt32) ys)) = (0 : Int32) ∧ ¬ own_sm (2 : Int32) (own_ft n c1 c2 c3 c4) c3 (ys.take (own_tab ((9 : Int32).toInt8.toInt32) ys)) = (0 : Int32) ∧ ¬ own_sm (3 : Int32) (own_ft n c1 c2 c3 c4) c4 (ys.take (own_tab ((9 : Int32).toInt8.toInt32) ys)) = (0 : Int32) := by
  obtain ⟨q1, r1⟩ := own_bq b1
  obtain ⟨q2, r2⟩ := own_bq b2
  obtain ⟨q3, r3⟩ := own_bq b3
  obtain ⟨q4, r4⟩ := own_bq b4
  have e9 : ((9 : Int32).toInt8.toInt32) = (9 : Int32) := by decide
  rw [e9]
  rcases h with rfl | rfl | rfl | rfl | rfl
  · have hys : ys = ([] : List Int32) := hys
    subst hys
    have hft : own_ft (0 : Int32) c1 c2 c3 c4 = (0 : Int32) := ((if_neg (by decide)).trans ((if_neg (by decide)).trans ((if_neg (by decide)).trans (if_neg (by decide)))))
    have htab : own_tab (9 : Int32) ([] : List Int32) = 0 := by rw [own_tab]
    rw [hft, htab]
    exact ⟨rfl, own_smk _ _ _ _ (fun q => absurd q (by decide)), own_smk _ _ _ _ (fun q => absurd q (by decide)), own_smk _ _ _ _ (fun q => absurd q (by decide)), own_smk _ _ _ _ (fun q => absurd q (by decide))⟩
  · have hys : ys = ([c1.toInt8.toInt32] : List Int32) := hys
    subst hys
    by_cases h1 : c1 = (9 : Int32)
    · have hft : own_ft (1 : Int32) c1 c2 c3 c4 = (0 : Int32) := ((if_pos (by decide)).trans (if_pos h1))
      have htab : own_tab (9 : Int32) ([c1.toInt8.toInt32] : List Int32) = 0 := by rw [own_tab, if_pos (q1.mpr h1)]
      rw [hft, htab]
      exact ⟨rfl, own_smk _ _ _ _ (fun q => absurd q (by decide)), own_smk _ _ _ _ (fun q => absurd q (by decide)), own_smk _ _ _ _ (fun q => absurd q (by decide)), own_smk _ _ _ _ (fun q => absurd q (by decide))⟩
    · skip
      have hft : own_ft (1 : Int32) c1 c2 c3 c4 = (1 : Int32) := ((if_pos (by decide)).trans ((if_neg h1).trans ((if_neg (by decide)).trans ((if_neg (by decide)).trans (if_neg (by decide))))))
      have htab : own_tab (9 : Int32) ([c1.toInt8.toInt32] : List Int32) = 1 := by rw [own_tab, if_neg (fun q => h1 (q1.mp q)), own_tab]
      rw [hft, htab]
      exact ⟨rfl, own_smk _ _ _ _ (fun _ => r1), own_smk _ _ _ _ (fun q => absurd q (by decide)), own_smk _ _ _ _ (fun q => absurd q (by decide)), own_smk _ _ _ _ (fun q => absurd q (by decide))⟩
  · have hys : ys = ([c1.toInt8.toInt32, c2.toInt8.toInt32] : List Int32) := hys
    subst hys
    by_cases h1 : c1 = (9 : Int32)
    · have hft : own_ft (2 : Int32) c1 c2 c3 c4 = (0 : Int32) := ((if_pos (by decide)).trans (if_pos h1))
      have htab : own_tab (9 : Int32) ([c1.toInt8.toInt32, c2.toInt8.toInt32] : List Int32) = 0 := by rw [own_tab, if_pos (q1.mpr h1)]
      rw [hft, htab]
      exact ⟨rfl, own_smk _ _ _ _ (fun q => absurd q (by decide)), own_smk _ _ _ _ (fun q => absurd q (by decide)), own_smk _ _ _ _ (fun q => absurd q (by decide)), own_smk _ _ _ _ (fun q => absurd q (by decide))⟩
    · skip
      by_cases h2 : c2 = (9 : Int32)
      · have hft : own_ft (2 : Int32) c1 c2 c3 c4 = (1 : Int32) := ((if_pos (by decide)).trans ((if_neg h1).trans ((if_pos (by decide)).trans (if_pos h2))))
        have htab : own_tab (9 : Int32) ([c1.toInt8.toInt32, c2.toInt8.toInt32] : List Int32) = 1 := by rw [own_tab, if_neg (fun q => h1 (q1.mp q)), own_tab, if_pos (q2.mpr h2)]
        rw [hft, htab]
        exact ⟨rfl, own_smk _ _ _ _ (fun _ => r1), own_smk _ _ _ _ (fun q => absurd q (by decide)), own_smk _ _ _ _ (fun q => absurd q (by decide)), own_smk _ _ _ _ (fun q => absurd q (by decide))⟩
      · skip
        have hft : own_ft (2 : Int32) c1 c2 c3 c4 = (2 : Int32) := ((if_pos (by decide)).trans ((if_neg h1).trans ((if_pos (by decide)).trans ((if_neg h2).trans ((if_neg (by decide)).trans (if_neg (by decide)))))))
        have htab : own_tab (9 : Int32) ([c1.toInt8.toInt32, c2.toInt8.toInt32] : List Int32) = 2 := by rw [own_tab, if_neg (fun q => h1 (q1.mp q)), own_tab, if_neg (fun q => h2 (q2.mp q)), own_tab]
        rw [hft, htab]
        exact ⟨rfl, own_smk _ _ _ _ (fun _ => r1), own_smk _ _ _ _ (fun _ => r2), own_smk _ _ _ _ (fun q => absurd q (by decide)), own_smk _ _ _ _ (fun q => absurd q (by decide))⟩
  · have hys : ys = ([c1.toInt8.toInt32, c2.toInt8.toInt32, c3.toInt8.toInt32] : List Int32) := hys
    subst hys
    by_cases h1 : c1 = (9 : Int32)
    · have hft : own_ft (3 : Int32) c1 c2 c3 c4 = (0 : Int32) := ((if_pos (by decide)).trans (if_pos h1))
      have htab : own_tab (9 : Int32) ([c1.toInt8.toInt32, c2.toInt8.toInt32, c3.toInt8.toInt32] : List Int32) = 0 := by rw [own_tab, if_pos (q1.mpr h1)]
      rw [hft, htab]
      exact ⟨rfl, own_smk _ _ _ _ (fun q => absurd q (by decide)), own_smk _ _ _ _ (fun q => absurd q (by decide)), own_smk _ _ _ _ (fun q => absurd q (by decide)), own_smk _ _ _ _ (fun q => absurd q (by decide))⟩
    · skip
      by_cases h2 : c2 = (9 : Int32)
      · have hft : own_ft (3 : Int32) c1 c2 c3 c4 = (1 : Int32) := ((if_pos (by decide)).trans ((if_neg h1).trans ((if_pos (by decide)).trans (if_pos h2))))
        have htab : own_tab (9 : Int32) ([c1.toInt8.toInt32, c2.toInt8.toInt32, c3.toInt8.toInt32] : List Int32) = 1 := by rw [own_tab, if_neg (fun q => h1 (q1.mp q)), own_tab, if_pos (q2.mpr h2)]
        rw [hft, htab]
        exact ⟨rfl, own_smk _ _ _ _ (fun _ => r1), own_smk _ _ _ _ (fun q => absurd q (by decide)), own_smk _ _ _ _ (fun q => absurd q (by decide)), own_smk _ _ _ _ (fun q => absurd q (by decide))⟩
      · skip
        by_cases h3 : c3 = (9 : Int32)
        · have hft : own_ft (3 : Int32) c1 c2 c3 c4 = (2 : Int32) := ((if_pos (by decide)).trans ((if_neg h1).trans ((if_pos (by decide)).trans ((if_neg h2).trans ((if_pos (by decide)).trans (if_pos h3))))))
          have htab : own_tab (9 : Int32) ([c1.toInt8.toInt32, c2.toInt8.toInt32, c3.toInt8.toInt32] : List Int32) = 2 := by rw [own_tab, if_neg (fun q => h1 (q1.mp q)), own_tab, if_neg (fun q => h2 (q2.mp q)), own_tab, if_pos (q3.mpr h3)]
          rw [hft, htab]
          exact ⟨rfl, own_smk _ _ _ _ (fun _ => r1), own_smk _ _ _ _ (fun _ => r2), own_smk _ _ _ _ (fun q => absurd q (by decide)), own_smk _ _ _ _ (fun q => absurd q (by decide))⟩
        · skip
          have hft : own_ft (3 : Int32) c1 c2 c3 c4 = (3 : Int32) := ((if_pos (by decide)).trans ((if_neg h1).trans ((if_pos (by decide)).trans ((if_neg h2).trans ((if_pos (by decide)).trans ((if_neg h3).trans (if_neg (by decide))))))))
          have htab : own_tab (9 : Int32) ([c1.toInt8.toInt32, c2.toInt8.toInt32, c3.toInt8.toInt32] : List Int32) = 3 := by rw [own_tab, if_neg (fun q => h1 (q1.mp q)), own_tab, if_neg (fun q => h2 (q2.mp q)), own_tab, if_neg (fun q => h3 (q3.mp q)), own_tab]
          rw [hft, htab]
          exact ⟨rfl, own_smk _ _ _ _ (fun _ => r1), own_smk _ _ _ _ (fun _ => r2), own_smk _ _ _ _ (fun _ => r3), own_smk _ _ _ _ (fun q => absurd q (by decide))⟩
  · have hys : ys = ([c1.toInt8.toInt32, c2.toInt8.toInt32, c3.toInt8.toInt32, c4.toInt8.toInt32] : List Int32) := hys
    subst hys
    by_cases h1 : c1 = (9 : Int32)
    · have hft : own_ft (4 : Int32) c1 c2 c3 c4 = (0 : Int32) := ((if_pos (by decide)).trans (if_pos h1))
      have htab : own_tab (9 : Int32) ([c1.toInt8.toInt32, c2.toInt8.toInt32, c3.toInt8.toInt32, c4.toInt8.toInt32] : List Int32) = 0 := by rw [own_tab, if_pos (q1.mpr h1)]
      rw [hft, htab]
      exact ⟨rfl, own_smk _ _ _ _ (fun q => absurd q (by decide)), own_smk _ _ _ _ (fun q => absurd q (by decide)), own_smk _ _ _ _ (fun q => absurd q (by decide)), own_smk _ _ _ _ (fun q => absurd q (by decide))⟩
    · skip
      by_cases h2 : c2 = (9 : Int32)
      · have hft : own_ft (4 : Int32) c1 c2 c3 c4 = (1 : Int32) := ((if_pos (by decide)).trans ((if_neg h1).trans ((if_pos (by decide)).trans (if_pos h2))))
        have htab : own_tab (9 : Int32) ([c1.toInt8.toInt32, c2.toInt8.toInt32, c3.toInt8.toInt32, c4.toInt8.toInt32] : List Int32) = 1 := by rw [own_tab, if_neg (fun q => h1 (q1.mp q)), own_tab, if_pos (q2.mpr h2)]
        rw [hft, htab]
        exact ⟨rfl, own_smk _ _ _ _ (fun _ => r1), own_smk _ _ _ _ (fun q => absurd q (by decide)), own_smk _ _ _ _ (fun q => absurd q (by decide)), own_smk _ _ _ _ (fun q => absurd q (by decide))⟩
      · skip
        by_cases h3 : c3 = (9 : Int32)
        · have hft : own_ft (4 : Int32) c1 c2 c3 c4 = (2 : Int32) := ((if_pos (by decide)).trans ((if_neg h1).trans ((if_pos (by decide)).trans ((if_neg h2).trans ((if_pos (by decide)).trans (if_pos h3))))))
          have htab : own_tab (9 : Int32) ([c1.toInt8.toInt32, c2.toInt8.toInt32, c3.toInt8.toInt32, c4.toInt8.toInt32] : List Int32) = 2 := by rw [own_tab, if_neg (fun q => h1 (q1.mp q)), own_tab, if_neg (fun q => h2 (q2.mp q)), own_tab, if_pos (q3.mpr h3)]
          rw [hft, htab]
          exact ⟨rfl, own_smk _ _ _ _ (fun _ => r1), own_smk _ _ _ _ (fun _ => r2), own_smk _ _ _ _ (fun q => absurd q (by decide)), own_smk _ _ _ _ (fun q => absurd q (by decide))⟩
        · skip
          by_cases h4 : c4 = (9 : Int32)
          · have hft : own_ft (4 : Int32) c1 c2 c3 c4 = (3 : Int32) := ((if_pos (by decide)).trans ((if_neg h1).trans ((if_pos (by decide)).trans ((if_neg h2).trans ((if_pos (by decide)).trans ((if_neg h3).trans ((if_pos (by decide)).trans (if_pos h4))))))))
            have htab : own_tab (9 : Int32) ([c1.toInt8.toInt32, c2.toInt8.toInt32, c3.toInt8.toInt32, c4.toInt8.toInt32] : List Int32) = 3 := by rw [own_tab, if_neg (fun q => h1 (q1.mp q)), own_tab, if_neg (fun q => h2 (q2.mp q)), own_tab, if_neg (fun q => h3 (q3.mp q)), own_tab, if_pos (q4.mpr h4)]
            rw [hft, htab]
            exact ⟨rfl, own_smk _ _ _ _ (fun _ => r1), own_smk _ _ _ _ (fun _ => r2), own_smk _ _ _ _ (fun _ => r3), own_smk _ _ _ _ (fun q => absurd q (by decide))⟩
          · skip
            have hft : own_ft (4 : Int32) c1 c2 c3 c4 = (4 : Int32) := ((if_pos (by decide)).trans ((if_neg h1).trans ((if_pos (by decide)).trans ((if_neg h2).trans ((if_pos (by decide)).trans ((if_neg h3).trans ((if_pos (by decide)).trans (if_neg h4))))))))
            have htab : own_tab (9 : Int32) ([c1.toInt8.toInt32, c2.toInt8.toInt32, c3.toInt8.toInt32, c4.toInt8.toInt32] : List Int32) = 4 := by rw [own_tab, if_neg (fun q => h1 (q1.mp q)), own_tab, if_neg (fun q => h2 (q2.mp q)), own_tab, if_neg (fun q => h3 (q3.mp q)), own_tab, if_neg (fun q => h4 (q4.mp q)), own_tab]
            rw [hft, htab]
            exact ⟨rfl, own_smk _ _ _ _ (fun _ => r1), own_smk _ _ _ _ (fun _ => r2), own_smk _ _ _ _ (fun _ => r3), own_smk _ _ _ _ (fun _ => r4)⟩
theorem d2_0 : decode method_4_code 0 = .ok (.iload_n 0, 1) := by decide +kernel
theorem d2_1 : decode method_4_code 1 = .ok (.ifCond .ne 7, 3) := by decide +kernel
theorem d2_4 : decode method_4_code 4 = .ok (.iconst 0, 1) := by decide +kernel
theorem d2_5 : decode method_4_code 5 = .ok (.newarray .char, 2) := by decide +kernel
theorem d2_7 : decode method_4_code 7 = .ok (.areturn, 1) := by decide +kernel
theorem d2_8 : decode method_4_code 8 = .ok (.iload_n 0, 1) := by decide +kernel
theorem d2_9 : decode method_4_code 9 = .ok (.iconst 1, 1) := by decide +kernel
theorem d2_10 : decode method_4_code 10 = .ok (.if_icmp .ne 11, 3) := by decide +kernel
theorem d2_13 : decode method_4_code 13 = .ok (.iconst 1, 1) := by decide +kernel
theorem d2_14 : decode method_4_code 14 = .ok (.newarray .char, 2) := by decide +kernel
theorem d2_16 : decode method_4_code 16 = .ok (.dup, 1) := by decide +kernel
theorem d2_17 : decode method_4_code 17 = .ok (.iconst 0, 1) := by decide +kernel
theorem d2_18 : decode method_4_code 18 = .ok (.iload_n 1, 1) := by decide +kernel
theorem d2_19 : decode method_4_code 19 = .ok (.castore, 1) := by decide +kernel
theorem d2_20 : decode method_4_code 20 = .ok (.areturn, 1) := by decide +kernel
theorem d2_21 : decode method_4_code 21 = .ok (.iload_n 0, 1) := by decide +kernel
theorem d2_22 : decode method_4_code 22 = .ok (.iconst 2, 1) := by decide +kernel
theorem d2_23 : decode method_4_code 23 = .ok (.if_icmp .ne 15, 3) := by decide +kernel
theorem d2_26 : decode method_4_code 26 = .ok (.iconst 2, 1) := by decide +kernel
theorem d2_27 : decode method_4_code 27 = .ok (.newarray .char, 2) := by decide +kernel
theorem d2_29 : decode method_4_code 29 = .ok (.dup, 1) := by decide +kernel
theorem d2_30 : decode method_4_code 30 = .ok (.iconst 0, 1) := by decide +kernel
theorem d2_31 : decode method_4_code 31 = .ok (.iload_n 1, 1) := by decide +kernel
theorem d2_32 : decode method_4_code 32 = .ok (.castore, 1) := by decide +kernel
theorem d2_33 : decode method_4_code 33 = .ok (.dup, 1) := by decide +kernel
theorem d2_34 : decode method_4_code 34 = .ok (.iconst 1, 1) := by decide +kernel
theorem d2_35 : decode method_4_code 35 = .ok (.iload_n 2, 1) := by decide +kernel
theorem d2_36 : decode method_4_code 36 = .ok (.castore, 1) := by decide +kernel
theorem d2_37 : decode method_4_code 37 = .ok (.areturn, 1) := by decide +kernel
theorem d2_38 : decode method_4_code 38 = .ok (.iload_n 0, 1) := by decide +kernel
theorem d2_39 : decode method_4_code 39 = .ok (.iconst 3, 1) := by decide +kernel
theorem d2_40 : decode method_4_code 40 = .ok (.if_icmp .ne 19, 3) := by decide +kernel
theorem d2_43 : decode method_4_code 43 = .ok (.iconst 3, 1) := by decide +kernel
theorem d2_44 : decode method_4_code 44 = .ok (.newarray .char, 2) := by decide +kernel
theorem d2_46 : decode method_4_code 46 = .ok (.dup, 1) := by decide +kernel
theorem d2_47 : decode method_4_code 47 = .ok (.iconst 0, 1) := by decide +kernel
theorem d2_48 : decode method_4_code 48 = .ok (.iload_n 1, 1) := by decide +kernel
theorem d2_49 : decode method_4_code 49 = .ok (.castore, 1) := by decide +kernel
theorem d2_50 : decode method_4_code 50 = .ok (.dup, 1) := by decide +kernel
theorem d2_51 : decode method_4_code 51 = .ok (.iconst 1, 1) := by decide +kernel
theorem d2_52 : decode method_4_code 52 = .ok (.iload_n 2, 1) := by decide +kernel
theorem d2_53 : decode method_4_code 53 = .ok (.castore, 1) := by decide +kernel
theorem d2_54 : decode method_4_code 54 = .ok (.dup, 1) := by decide +kernel
theorem d2_55 : decode method_4_code 55 = .ok (.iconst 2, 1) := by decide +kernel
theorem d2_56 : decode method_4_code 56 = .ok (.iload_n 3, 1) := by decide +kernel
theorem d2_57 : decode method_4_code 57 = .ok (.castore, 1) := by decide +kernel
theorem d2_58 : decode method_4_code 58 = .ok (.areturn, 1) := by decide +kernel
theorem d2_59 : decode method_4_code 59 = .ok (.iconst 4, 1) := by decide +kernel
theorem d2_60 : decode method_4_code 60 = .ok (.newarray .char, 2) := by decide +kernel
theorem d2_62 : decode method_4_code 62 = .ok (.dup, 1) := by decide +kernel
theorem d2_63 : decode method_4_code 63 = .ok (.iconst 0, 1) := by decide +kernel
theorem d2_64 : decode method_4_code 64 = .ok (.iload_n 1, 1) := by decide +kernel
theorem d2_65 : decode method_4_code 65 = .ok (.castore, 1) := by decide +kernel
theorem d2_66 : decode method_4_code 66 = .ok (.dup, 1) := by decide +kernel
theorem d2_67 : decode method_4_code 67 = .ok (.iconst 1, 1) := by decide +kernel
theorem d2_68 : decode method_4_code 68 = .ok (.iload_n 2, 1) := by decide +kernel
theorem d2_69 : decode method_4_code 69 = .ok (.castore, 1) := by decide +kernel
theorem d2_70 : decode method_4_code 70 = .ok (.dup, 1) := by decide +kernel
theorem d2_71 : decode method_4_code 71 = .ok (.iconst 2, 1) := by decide +kernel
theorem d2_72 : decode method_4_code 72 = .ok (.iload_n 3, 1) := by decide +kernel
theorem d2_73 : decode method_4_code 73 = .ok (.castore, 1) := by decide +kernel
theorem d2_74 : decode method_4_code 74 = .ok (.dup, 1) := by decide +kernel
theorem d2_75 : decode method_4_code 75 = .ok (.iconst 3, 1) := by decide +kernel
theorem d2_76 : decode method_4_code 76 = .ok (.iload 4, 2) := by decide +kernel
theorem d2_78 : decode method_4_code 78 = .ok (.castore, 1) := by decide +kernel
theorem d2_79 : decode method_4_code 79 = .ok (.areturn, 1) := by decide +kernel
theorem ef_2 (p1 : Int32) (p2 : Int32) (p3 : Int32) (p4 : Int32) (p5 : Int32) (m : MethodId) : entryFrame m #[(.int p1), (.int p2), (.int p3), (.int p4), (.int p5)] 5 = mkF m 0 #[.val (.int p1), .val (.int p2), .val (.int p3), .val (.int p4), .val (.int p5)] [] := by first | (simp [entryFrame, mkF, argsToLocals, Value.category]; done) | rfl
set_option maxRecDepth 65536 in
set_option maxHeartbeats 40000000 in
theorem rm2 (l : Launch) (Z : State) (a0 : Array Value) (hw : ∀ d ∈ tables_1, d.before a0 Z = true) (ws : List Jvm.Cond) (p1 : Int32) (p2 : Int32) (p3 : Int32) (p4 : Int32) (p5 : Int32) (h0 : Heap) (n0 : Nat) (Z0 : n0 ≤ h0.size) (h5 : own_Five p1) (hp2 : nar .char p2 = p2) (hp3 : nar .char p3 = p3) (hp4 : nar .char p4 = p4) (hp5 : nar .char p5 = p5) :
    own_Met l (⟨"com/example/shelfmark/shelfmark/io/DocumentReaderTextPinLaw", "make", "(ICCCC)[C"⟩ : MethodName) method_4_code 5 (some (.array .char)) ws ({ frames := 0, cells := 1, slots := 4, locals := 0 } : Room) #[(.int p1), (.int p2), (.int p3), (.int p4), (.int p5)] Z h0 (fun v h L => ∃ b k, v = some (.ref b) ∧ Fr n0 L ∧ Keep h0 h [] ∧ Arv Z h b k .char p1 ((own_mk p1 p2 p3 p4 p5).map Value.int) (.int (0 : Int32))) := by
  refine own_body (plainFor_of_name pn_4) (ef_2 p1 p2 p3 p4 p5) ?_
  intro p e s m below meth c T0 X0 hx hby hml0 hret hlk hnm hown hZ e0
  have hml : c.maxLocals = 5 := hml0
  have N0 := Fr.nil n0
  refine own_step (fun _ k => XS.iloadN X0.here hx rfl (hb hby d2_0) rfl k) ?_
  show own_Go _ _ _ _ T0 (mkF m 1 #[.val (.int p1), .val (.int p2), .val (.int p3), .val (.int p4), .val (.int p5)] [(.int p1)])
  by_cases hc1 : p1 = (0 : Int32)
  · refine own_step (fun _ k => XS.ifNo X0.here hx rfl (hb hby d2_1) rfl ((if0 _ _).trans (teq hc1).2) k) ?_
    show own_Go _ _ _ _ T0 (mkF m 4 #[.val (.int p1), .val (.int p2), .val (.int p3), .val (.int p4), .val (.int p5)] [])
    have hmk : own_mk p1 p2 p3 p4 p5 = ([] : List Int32) := (if_pos hc1)
    refine own_step (fun _ k => XS.iconst X0.here hx rfl (hb hby d2_4) k) ?_
    show own_Go _ _ _ _ T0 (mkF m 5 #[.val (.int p1), .val (.int p2), .val (.int p3), .val (.int p4), .val (.int p5)] [(.int (0 : Int32))])
    obtain ⟨T2, h2, k2, ca, g2, X2, e2, E2, V2, st2⟩ := own_newA X0 hx hZ (hw _ (List.mem_of_getElem? (i := 8) rfl)) e0 (g := (mkF m 5 #[.val (.int p1), .val (.int p2), .val (.int p3), .val (.int p4), .val (.int p5)] [(.int (0 : Int32))])) rfl (hb hby d2_5) rfl (by decide) (cap := 0) (by decide) (by decide) (by decide) (by decide)
    have g_ca : n0 ≤ ca := Nat.le_trans Z0 (Nat.le_of_eq g2.symm)
    have sz_ca : h0.size ≤ ca := Nat.le_trans (Keep.refl h0 []).1 (Nat.le_of_eq g2.symm)
    refine own_step st2 ?_
    have Z2 := Nat.le_trans Z0 E2.1
    have KK2 := (Keep.refl h0 []).ext E2
    have V_ca : Arv Z h2 ca k2 .char (0 : Int32) [] (.int (0 : Int32)) := V2
    show own_Go _ _ _ _ T2 (mkF m 7 #[.val (.int p1), .val (.int p2), .val (.int p3), .val (.int p4), .val (.int p5)] [(.ref ca)])
    exact own_retA X2 hx hret rfl hlk rfl rfl (hb hby d2_7) (own_N (by rw [e2]; exact ⟨ca, _, rfl, N0, KK2, by rw [hmk, hc1]; exact V_ca⟩) (by decide) (by decide)) 
  · refine own_step (fun _ k => XS.ifYes X0.here hx rfl (pc0 := 1) (pc' := 8) rfl (hb hby d2_1) rfl ((if0 _ _).trans (feq hc1).2) (by decide) (by decide) k) ?_
    show own_Go _ _ _ _ T0 (mkF m 8 #[.val (.int p1), .val (.int p2), .val (.int p3), .val (.int p4), .val (.int p5)] [])
    refine own_step (fun _ k => XS.iloadN X0.here hx rfl (hb hby d2_8) rfl k) ?_
    show own_Go _ _ _ _ T0 (mkF m 9 #[.val (.int p1), .val (.int p2), .val (.int p3), .val (.int p4), .val (.int p5)] [(.int p1)])
    refine own_step (fun _ k => XS.iconst X0.here hx rfl (hb hby d2_9) k) ?_
    show own_Go _ _ _ _ T0 (mkF m 10 #[.val (.int p1), .val (.int p2), .val (.int p3), .val (.int p4), .val (.int p5)] [(.int (1 : Int32)), (.int p1)])
    by_cases hc3 : p1 = (1 : Int32)
    · refine own_step (fun _ k => XS.icmpNo X0.here hx rfl (hb hby d2_10) rfl (teq hc3).2 k) ?_
      show own_Go _ _ _ _ T0 (mkF m 13 #[.val (.int p1), .val (.int p2), .val (.int p3), .val (.int p4), .val (.int p5)] [])
      have hmk : own_mk p1 p2 p3 p4 p5 = ([p2] : List Int32) := ((if_neg hc1).trans (if_pos hc3))
      refine own_step (fun _ k => XS.iconst X0.here hx rfl (hb hby d2_13) k) ?_
      show own_Go _ _ _ _ T0 (mkF m 14 #[.val (.int p1), .val (.int p2), .val (.int p3), .val (.int p4), .val (.int p5)] [(.int (1 : Int32))])
      obtain ⟨T4, h4, k4, ca, g4, X4, e4, E4, V4, st4⟩ := own_newA X0 hx hZ (hw _ (List.mem_of_getElem? (i := 8) rfl)) e0 (g := (mkF m 14 #[.val (.int p1), .val (.int p2), .val (.int p3), .val (.int p4), .val (.int p5)] [(.int (1 : Int32))])) rfl (hb hby d2_14) rfl (by decide) (cap := 1) (by decide) (by decide) (by decide) (by decide)
      have g_ca : n0 ≤ ca := Nat.le_trans Z0 (Nat.le_of_eq g4.symm)
      have sz_ca : h0.size ≤ ca := Nat.le_trans (Keep.refl h0 []).1 (Nat.le_of_eq g4.symm)
      refine own_step st4 ?_
      have Z4 := Nat.le_trans Z0 E4.1
      have KK4 := (Keep.refl h0 []).ext E4
      have V_ca : Arv Z h4 ca k4 .char (1 : Int32) [(.int (0 : Int32))] (.int (0 : Int32)) := V4
      show own_Go _ _ _ _ T4 (mkF m 16 #[.val (.int p1), .val (.int p2), .val (.int p3), .val (.int p4), .val (.int p5)] [(.ref ca)])
      refine own_step (fun _ k => XS.dup X4.here hx rfl (hb hby d2_16) rfl rfl k) ?_
      show own_Go _ _ _ _ T4 (mkF m 17 #[.val (.int p1), .val (.int p2), .val (.int p3), .val (.int p4), .val (.int p5)] [(.ref ca), (.ref ca)])
      refine own_step (fun _ k => XS.iconst X4.here hx rfl (hb hby d2_17) k) ?_
      show own_Go _ _ _ _ T4 (mkF m 18 #[.val (.int p1), .val (.int p2), .val (.int p3), .val (.int p4), .val (.int p5)] [(.int (0 : Int32)), (.ref ca), (.ref ca)])
      refine own_step (fun _ k => XS.iloadN X4.here hx rfl (hb hby d2_18) rfl k) ?_
      show own_Go _ _ _ _ T4 (mkF m 19 #[.val (.int p1), .val (.int p2), .val (.int p3), .val (.int p4), .val (.int p5)] [(.int p2), (.int (0 : Int32)), (.ref ca), (.ref ca)])
      obtain ⟨T5, h5, l5, X5, e5, W5, V5, st5⟩ := own_stC X4 hx hZ e4 V_ca (j := (0 : Int32)) ⟨by decide, by decide⟩ 0 rfl (Nat.le_of_ble_eq_true rfl) (g := (mkF m 19 #[.val (.int p1), .val (.int p2), .val (.int p3), .val (.int p4), .val (.int p5)] [(.int p2), (.int (0 : Int32)), (.ref ca), (.ref ca)])) rfl rfl (hb hby d2_19)
      refine own_step st5 ?_
      have N5 := Fr.snoc X5 N0 g_ca
      have Z5 := Nat.le_trans Z4 (Keep.of_wr W5).1
      have KK5 := KK4.wr W5 (Or.inr sz_ca)
      rw [hp2] at V5
      have V_ca_5 : Arv Z h5 ca k4 .char (1 : Int32) [(.int p2)] (.int (0 : Int32)) := V5
      show own_Go _ _ _ _ T5 (mkF m 20 #[.val (.int p1), .val (.int p2), .val (.int p3), .val (.int p4), .val (.int p5)] [(.ref ca)])
      exact own_retA X5 hx hret rfl hlk rfl rfl (hb hby d2_20) (own_N (by rw [e5]; exact ⟨ca, _, rfl, N5, KK5, by rw [hmk, hc3]; exact V_ca_5⟩) (by decide) (by decide)) 
    · refine own_step (fun _ k => XS.icmpYes X0.here hx rfl (pc0 := 10) (pc' := 21) rfl (hb hby d2_10) rfl (feq hc3).2 (by decide) (by decide) k) ?_
      show own_Go _ _ _ _ T0 (mkF m 21 #[.val (.int p1), .val (.int p2), .val (.int p3), .val (.int p4), .val (.int p5)] [])
      refine own_step (fun _ k => XS.iloadN X0.here hx rfl (hb hby d2_21) rfl k) ?_
      show own_Go _ _ _ _ T0 (mkF m 22 #[.val (.int p1), .val (.int p2), .val (.int p3), .val (.int p4), .val (.int p5)] [(.int p1)])
      refine own_step (fun _ k => XS.iconst X0.here hx rfl (hb hby d2_22) k) ?_
      show own_Go _ _ _ _ T0 (mkF m 23 #[.val (.int p1), .val (.int p2), .val (.int p3), .val (.int p4), .val (.int p5)] [(.int (2 : Int32)), (.int p1)])
      by_cases hc6 : p1 = (2 : Int32)
      · refine own_step (fun _ k => XS.icmpNo X0.here hx rfl (hb hby d2_23) rfl (teq hc6).2 k) ?_
        show own_Go _ _ _ _ T0 (mkF m 26 #[.val (.int p1), .val (.int p2), .val (.int p3), .val (.int p4), .val (.int p5)] [])
        have hmk : own_mk p1 p2 p3 p4 p5 = ([p2, p3] : List Int32) := ((if_neg hc1).trans ((if_neg hc3).trans (if_pos hc6)))
        refine own_step (fun _ k => XS.iconst X0.here hx rfl (hb hby d2_26) k) ?_
        show own_Go _ _ _ _ T0 (mkF m 27 #[.val (.int p1), .val (.int p2), .val (.int p3), .val (.int p4), .val (.int p5)] [(.int (2 : Int32))])
        obtain ⟨T7, h7, k7, ca, g7, X7, e7, E7, V7, st7⟩ := own_newA X0 hx hZ (hw _ (List.mem_of_getElem? (i := 8) rfl)) e0 (g := (mkF m 27 #[.val (.int p1), .val (.int p2), .val (.int p3), .val (.int p4), .val (.int p5)] [(.int (2 : Int32))])) rfl (hb hby d2_27) rfl (by decide) (cap := 2) (by decide) (by decide) (by decide) (by decide)
        have g_ca : n0 ≤ ca := Nat.le_trans Z0 (Nat.le_of_eq g7.symm)
        have sz_ca : h0.size ≤ ca := Nat.le_trans (Keep.refl h0 []).1 (Nat.le_of_eq g7.symm)
        refine own_step st7 ?_
        have Z7 := Nat.le_trans Z0 E7.1
        have KK7 := (Keep.refl h0 []).ext E7
        have V_ca : Arv Z h7 ca k7 .char (2 : Int32) [(.int (0 : Int32)), (.int (0 : Int32))] (.int (0 : Int32)) := V7
        show own_Go _ _ _ _ T7 (mkF m 29 #[.val (.int p1), .val (.int p2), .val (.int p3), .val (.int p4), .val (.int p5)] [(.ref ca)])
        refine own_step (fun _ k => XS.dup X7.here hx rfl (hb hby d2_29) rfl rfl k) ?_
        show own_Go _ _ _ _ T7 (mkF m 30 #[.val (.int p1), .val (.int p2), .val (.int p3), .val (.int p4), .val (.int p5)] [(.ref ca), (.ref ca)])
        refine own_step (fun _ k => XS.iconst X7.here hx rfl (hb hby d2_30) k) ?_
        show own_Go _ _ _ _ T7 (mkF m 31 #[.val (.int p1), .val (.int p2), .val (.int p3), .val (.int p4), .val (.int p5)] [(.int (0 : Int32)), (.ref ca), (.ref ca)])
        refine own_step (fun _ k => XS.iloadN X7.here hx rfl (hb hby d2_31) rfl k) ?_
        show own_Go _ _ _ _ T7 (mkF m 32 #[.val (.int p1), .val (.int p2), .val (.int p3), .val (.int p4), .val (.int p5)] [(.int p2), (.int (0 : Int32)), (.ref ca), (.ref ca)])
        obtain ⟨T8, h8, l8, X8, e8, W8, V8, st8⟩ := own_stC X7 hx hZ e7 V_ca (j := (0 : Int32)) ⟨by decide, by decide⟩ 0 rfl (Nat.le_of_ble_eq_true rfl) (g := (mkF m 32 #[.val (.int p1), .val (.int p2), .val (.int p3), .val (.int p4), .val (.int p5)] [(.int p2), (.int (0 : Int32)), (.ref ca), (.ref ca)])) rfl rfl (hb hby d2_32)
        refine own_step st8 ?_
        have N8 := Fr.snoc X8 N0 g_ca
        have Z8 := Nat.le_trans Z7 (Keep.of_wr W8).1
        have KK8 := KK7.wr W8 (Or.inr sz_ca)
        rw [hp2] at V8
        have V_ca_8 : Arv Z h8 ca k7 .char (2 : Int32) [(.int p2), (.int (0 : Int32))] (.int (0 : Int32)) := V8
        show own_Go _ _ _ _ T8 (mkF m 33 #[.val (.int p1), .val (.int p2), .val (.int p3), .val (.int p4), .val (.int p5)] [(.ref ca)])
        refine own_step (fun _ k => XS.dup X8.here hx rfl (hb hby d2_33) rfl rfl k) ?_
        show own_Go _ _ _ _ T8 (mkF m 34 #[.val (.int p1), .val (.int p2), .val (.int p3), .val (.int p4), .val (.int p5)] [(.ref ca), (.ref ca)])
        refine own_step (fun _ k => XS.iconst X8.here hx rfl (hb hby d2_34) k) ?_
        show own_Go _ _ _ _ T8 (mkF m 35 #[.val (.int p1), .val (.int p2), .val (.int p3), .val (.int p4), .val (.int p5)] [(.int (1 : Int32)), (.ref ca), (.ref ca)])
        refine own_step (fun _ k => XS.iloadN X8.here hx rfl (hb hby d2_35) rfl k) ?_
        show own_Go _ _ _ _ T8 (mkF m 36 #[.val (.int p1), .val (.int p2), .val (.int p3), .val (.int p4), .val (.int p5)] [(.int p3), (.int (1 : Int32)), (.ref ca), (.ref ca)])
        obtain ⟨T9, h9, l9, X9, e9, W9, V9, st9⟩ := own_stC X8 hx hZ e8 V_ca_8 (j := (1 : Int32)) ⟨by decide, by decide⟩ 1 rfl (Nat.le_of_ble_eq_true rfl) (g := (mkF m 36 #[.val (.int p1), .val (.int p2), .val (.int p3), .val (.int p4), .val (.int p5)] [(.int p3), (.int (1 : Int32)), (.ref ca), (.ref ca)])) rfl rfl (hb hby d2_36)
        refine own_step st9 ?_
        have N9 := Fr.snoc X9 N8 g_ca
        have Z9 := Nat.le_trans Z8 (Keep.of_wr W9).1
        have KK9 := KK8.wr W9 (Or.inr sz_ca)
        rw [hp3] at V9
        have V_ca_9 : Arv Z h9 ca k7 .char (2 : Int32) [(.int p2), (.int p3)] (.int (0 : Int32)) := V9
        show own_Go _ _ _ _ T9 (mkF m 37 #[.val (.int p1), .val (.int p2), .val (.int p3), .val (.int p4), .val (.int p5)] [(.ref ca)])
        exact own_retA X9 hx hret rfl hlk rfl rfl (hb hby d2_37) (own_N (by rw [e9]; exact ⟨ca, _, rfl, N9, KK9, by rw [hmk, hc6]; exact V_ca_9⟩) (by decide) (by decide)) 
      · refine own_step (fun _ k => XS.icmpYes X0.here hx rfl (pc0 := 23) (pc' := 38) rfl (hb hby d2_23) rfl (feq hc6).2 (by decide) (by decide) k) ?_
        show own_Go _ _ _ _ T0 (mkF m 38 #[.val (.int p1), .val (.int p2), .val (.int p3), .val (.int p4), .val (.int p5)] [])
        refine own_step (fun _ k => XS.iloadN X0.here hx rfl (hb hby d2_38) rfl k) ?_
        show own_Go _ _ _ _ T0 (mkF m 39 #[.val (.int p1), .val (.int p2), .val (.int p3), .val (.int p4), .val (.int p5)] [(.int p1)])
        refine own_step (fun _ k => XS.iconst X0.here hx rfl (hb hby d2_39) k) ?_
        show own_Go _ _ _ _ T0 (mkF m 40 #[.val (.int p1), .val (.int p2), .val (.int p3), .val (.int p4), .val (.int p5)] [(.int (3 : Int32)), (.int p1)])
        by_cases hc10 : p1 = (3 : Int32)
        · refine own_step (fun _ k => XS.icmpNo X0.here hx rfl (hb hby d2_40) rfl (teq hc10).2 k) ?_
          show own_Go _ _ _ _ T0 (mkF m 43 #[.val (.int p1), .val (.int p2), .val (.int p3), .val (.int p4), .val (.int p5)] [])
          have hmk : own_mk p1 p2 p3 p4 p5 = ([p2, p3, p4] : List Int32) := ((if_neg hc1).trans ((if_neg hc3).trans ((if_neg hc6).trans (if_pos hc10))))
          refine own_step (fun _ k => XS.iconst X0.here hx rfl (hb hby d2_43) k) ?_
          show own_Go _ _ _ _ T0 (mkF m 44 #[.val (.int p1), .val (.int p2), .val (.int p3), .val (.int p4), .val (.int p5)] [(.int (3 : Int32))])
          obtain ⟨T11, h11, k11, ca, g11, X11, e11, E11, V11, st11⟩ := own_newA X0 hx hZ (hw _ (List.mem_of_getElem? (i := 8) rfl)) e0 (g := (mkF m 44 #[.val (.int p1), .val (.int p2), .val (.int p3), .val (.int p4), .val (.int p5)] [(.int (3 : Int32))])) rfl (hb hby d2_44) rfl (by decide) (cap := 3) (by decide) (by decide) (by decide) (by decide)
          have g_ca : n0 ≤ ca := Nat.le_trans Z0 (Nat.le_of_eq g11.symm)
          have sz_ca : h0.size ≤ ca := Nat.le_trans (Keep.refl h0 []).1 (Nat.le_of_eq g11.symm)
          refine own_step st11 ?_
          have Z11 := Nat.le_trans Z0 E11.1
          have KK11 := (Keep.refl h0 []).ext E11
          have V_ca : Arv Z h11 ca k11 .char (3 : Int32) [(.int (0 : Int32)), (.int (0 : Int32)), (.int (0 : Int32))] (.int (0 : Int32)) := V11
          show own_Go _ _ _ _ T11 (mkF m 46 #[.val (.int p1), .val (.int p2), .val (.int p3), .val (.int p4), .val (.int p5)] [(.ref ca)])
          refine own_step (fun _ k => XS.dup X11.here hx rfl (hb hby d2_46) rfl rfl k) ?_
          show own_Go _ _ _ _ T11 (mkF m 47 #[.val (.int p1), .val (.int p2), .val (.int p3), .val (.int p4), .val (.int p5)] [(.ref ca), (.ref ca)])
          refine own_step (fun _ k => XS.iconst X11.here hx rfl (hb hby d2_47) k) ?_
          show own_Go _ _ _ _ T11 (mkF m 48 #[.val (.int p1), .val (.int p2), .val (.int p3), .val (.int p4), .val (.int p5)] [(.int (0 : Int32)), (.ref ca), (.ref ca)])
          refine own_step (fun _ k => XS.iloadN X11.here hx rfl (hb hby d2_48) rfl k) ?_
          show own_Go _ _ _ _ T11 (mkF m 49 #[.val (.int p1), .val (.int p2), .val (.int p3), .val (.int p4), .val (.int p5)] [(.int p2), (.int (0 : Int32)), (.ref ca), (.ref ca)])
          obtain ⟨T12, h12, l12, X12, e12, W12, V12, st12⟩ := own_stC X11 hx hZ e11 V_ca (j := (0 : Int32)) ⟨by decide, by decide⟩ 0 rfl (Nat.le_of_ble_eq_true rfl) (g := (mkF m 49 #[.val (.int p1), .val (.int p2), .val (.int p3), .val (.int p4), .val (.int p5)] [(.int p2), (.int (0 : Int32)), (.ref ca), (.ref ca)])) rfl rfl (hb hby d2_49)
          refine own_step st12 ?_
          have N12 := Fr.snoc X12 N0 g_ca
          have Z12 := Nat.le_trans Z11 (Keep.of_wr W12).1
          have KK12 := KK11.wr W12 (Or.inr sz_ca)
          rw [hp2] at V12
          have V_ca_12 : Arv Z h12 ca k11 .char (3 : Int32) [(.int p2), (.int (0 : Int32)), (.int (0 : Int32))] (.int (0 : Int32)) := V12
          show own_Go _ _ _ _ T12 (mkF m 50 #[.val (.int p1), .val (.int p2), .val (.int p3), .val (.int p4), .val (.int p5)] [(.ref ca)])
          refine own_step (fun _ k => XS.dup X12.here hx rfl (hb hby d2_50) rfl rfl k) ?_
          show own_Go _ _ _ _ T12 (mkF m 51 #[.val (.int p1), .val (.int p2), .val (.int p3), .val (.int p4), .val (.int p5)] [(.ref ca), (.ref ca)])
          refine own_step (fun _ k => XS.iconst X12.here hx rfl (hb hby d2_51) k) ?_
          show own_Go _ _ _ _ T12 (mkF m 52 #[.val (.int p1), .val (.int p2), .val (.int p3), .val (.int p4), .val (.int p5)] [(.int (1 : Int32)), (.ref ca), (.ref ca)])
          refine own_step (fun _ k => XS.iloadN X12.here hx rfl (hb hby d2_52) rfl k) ?_
          show own_Go _ _ _ _ T12 (mkF m 53 #[.val (.int p1), .val (.int p2), .val (.int p3), .val (.int p4), .val (.int p5)] [(.int p3), (.int (1 : Int32)), (.ref ca), (.ref ca)])
          obtain ⟨T13, h13, l13, X13, e13, W13, V13, st13⟩ := own_stC X12 hx hZ e12 V_ca_12 (j := (1 : Int32)) ⟨by decide, by decide⟩ 1 rfl (Nat.le_of_ble_eq_true rfl) (g := (mkF m 53 #[.val (.int p1), .val (.int p2), .val (.int p3), .val (.int p4), .val (.int p5)] [(.int p3), (.int (1 : Int32)), (.ref ca), (.ref ca)])) rfl rfl (hb hby d2_53)
          refine own_step st13 ?_
          have N13 := Fr.snoc X13 N12 g_ca
          have Z13 := Nat.le_trans Z12 (Keep.of_wr W13).1
          have KK13 := KK12.wr W13 (Or.inr sz_ca)
          rw [hp3] at V13
          have V_ca_13 : Arv Z h13 ca k11 .char (3 : Int32) [(.int p2), (.int p3), (.int (0 : Int32))] (.int (0 : Int32)) := V13
          show own_Go _ _ _ _ T13 (mkF m 54 #[.val (.int p1), .val (.int p2), .val (.int p3), .val (.int p4), .val (.int p5)] [(.ref ca)])
          refine own_step (fun _ k => XS.dup X13.here hx rfl (hb hby d2_54) rfl rfl k) ?_
          show own_Go _ _ _ _ T13 (mkF m 55 #[.val (.int p1), .val (.int p2), .val (.int p3), .val (.int p4), .val (.int p5)] [(.ref ca), (.ref ca)])
          refine own_step (fun _ k => XS.iconst X13.here hx rfl (hb hby d2_55) k) ?_
          show own_Go _ _ _ _ T13 (mkF m 56 #[.val (.int p1), .val (.int p2), .val (.int p3), .val (.int p4), .val (.int p5)] [(.int (2 : Int32)), (.ref ca), (.ref ca)])
          refine own_step (fun _ k => XS.iloadN X13.here hx rfl (hb hby d2_56) rfl k) ?_
          show own_Go _ _ _ _ T13 (mkF m 57 #[.val (.int p1), .val (.int p2), .val (.int p3), .val (.int p4), .val (.int p5)] [(.int p4), (.int (2 : Int32)), (.ref ca), (.ref ca)])
          obtain ⟨T14, h14, l14, X14, e14, W14, V14, st14⟩ := own_stC X13 hx hZ e13 V_ca_13 (j := (2 : Int32)) ⟨by decide, by decide⟩ 2 rfl (Nat.le_of_ble_eq_true rfl) (g := (mkF m 57 #[.val (.int p1), .val (.int p2), .val (.int p3), .val (.int p4), .val (.int p5)] [(.int p4), (.int (2 : Int32)), (.ref ca), (.ref ca)])) rfl rfl (hb hby d2_57)
          refine own_step st14 ?_
          have N14 := Fr.snoc X14 N13 g_ca
          have Z14 := Nat.le_trans Z13 (Keep.of_wr W14).1
          have KK14 := KK13.wr W14 (Or.inr sz_ca)
          rw [hp4] at V14
          have V_ca_14 : Arv Z h14 ca k11 .char (3 : Int32) [(.int p2), (.int p3), (.int p4)] (.int (0 : Int32)) := V14
          show own_Go _ _ _ _ T14 (mkF m 58 #[.val (.int p1), .val (.int p2), .val (.int p3), .val (.int p4), .val (.int p5)] [(.ref ca)])
          exact own_retA X14 hx hret rfl hlk rfl rfl (hb hby d2_58) (own_N (by rw [e14]; exact ⟨ca, _, rfl, N14, KK14, by rw [hmk, hc10]; exact V_ca_14⟩) (by decide) (by decide)) 
        · refine own_step (fun _ k => XS.icmpYes X0.here hx rfl (pc0 := 40) (pc' := 59) rfl (hb hby d2_40) rfl (feq hc10).2 (by decide) (by decide) k) ?_
          show own_Go _ _ _ _ T0 (mkF m 59 #[.val (.int p1), .val (.int p2), .val (.int p3), .val (.int p4), .val (.int p5)] [])
          have hmk : own_mk p1 p2 p3 p4 p5 = ([p2, p3, p4, p5] : List Int32) := ((if_neg hc1).trans ((if_neg hc3).trans ((if_neg hc6).trans (if_neg hc10))))
          have hz4 : p1 = (4 : Int32) := by rcases h5 with q | q | q | q | q; exact absurd q hc1; exact absurd q hc3; exact absurd q hc6; exact absurd q hc10; exact q
          refine own_step (fun _ k => XS.iconst X0.here hx rfl (hb hby d2_59) k) ?_
          show own_Go _ _ _ _ T0 (mkF m 60 #[.val (.int p1), .val (.int p2), .val (.int p3), .val (.int p4), .val (.int p5)] [(.int (4 : Int32))])
          obtain ⟨T15, h15, k15, ca, g15, X15, e15, E15, V15, st15⟩ := own_newA X0 hx hZ (hw _ (List.mem_of_getElem? (i := 8) rfl)) e0 (g := (mkF m 60 #[.val (.int p1), .val (.int p2), .val (.int p3), .val (.int p4), .val (.int p5)] [(.int (4 : Int32))])) rfl (hb hby d2_60) rfl (by decide) (cap := 4) (by decide) (by decide) (by decide) (by decide)
          have g_ca : n0 ≤ ca := Nat.le_trans Z0 (Nat.le_of_eq g15.symm)
          have sz_ca : h0.size ≤ ca := Nat.le_trans (Keep.refl h0 []).1 (Nat.le_of_eq g15.symm)
          refine own_step st15 ?_
          have Z15 := Nat.le_trans Z0 E15.1
          have KK15 := (Keep.refl h0 []).ext E15
          have V_ca : Arv Z h15 ca k15 .char (4 : Int32) [(.int (0 : Int32)), (.int (0 : Int32)), (.int (0 : Int32)), (.int (0 : Int32))] (.int (0 : Int32)) := V15
          show own_Go _ _ _ _ T15 (mkF m 62 #[.val (.int p1), .val (.int p2), .val (.int p3), .val (.int p4), .val (.int p5)] [(.ref ca)])
          refine own_step (fun _ k => XS.dup X15.here hx rfl (hb hby d2_62) rfl rfl k) ?_
          show own_Go _ _ _ _ T15 (mkF m 63 #[.val (.int p1), .val (.int p2), .val (.int p3), .val (.int p4), .val (.int p5)] [(.ref ca), (.ref ca)])
          refine own_step (fun _ k => XS.iconst X15.here hx rfl (hb hby d2_63) k) ?_
          show own_Go _ _ _ _ T15 (mkF m 64 #[.val (.int p1), .val (.int p2), .val (.int p3), .val (.int p4), .val (.int p5)] [(.int (0 : Int32)), (.ref ca), (.ref ca)])
          refine own_step (fun _ k => XS.iloadN X15.here hx rfl (hb hby d2_64) rfl k) ?_
          show own_Go _ _ _ _ T15 (mkF m 65 #[.val (.int p1), .val (.int p2), .val (.int p3), .val (.int p4), .val (.int p5)] [(.int p2), (.int (0 : Int32)), (.ref ca), (.ref ca)])
          obtain ⟨T16, h16, l16, X16, e16, W16, V16, st16⟩ := own_stC X15 hx hZ e15 V_ca (j := (0 : Int32)) ⟨by decide, by decide⟩ 0 rfl (Nat.le_of_ble_eq_true rfl) (g := (mkF m 65 #[.val (.int p1), .val (.int p2), .val (.int p3), .val (.int p4), .val (.int p5)] [(.int p2), (.int (0 : Int32)), (.ref ca), (.ref ca)])) rfl rfl (hb hby d2_65)
          refine own_step st16 ?_
          have N16 := Fr.snoc X16 N0 g_ca
          have Z16 := Nat.le_trans Z15 (Keep.of_wr W16).1
          have KK16 := KK15.wr W16 (Or.inr sz_ca)
          rw [hp2] at V16
          have V_ca_16 : Arv Z h16 ca k15 .char (4 : Int32) [(.int p2), (.int (0 : Int32)), (.int (0 : Int32)), (.int (0 : Int32))] (.int (0 : Int32)) := V16
          show own_Go _ _ _ _ T16 (mkF m 66 #[.val (.int p1), .val (.int p2), .val (.int p3), .val (.int p4), .val (.int p5)] [(.ref ca)])
          refine own_step (fun _ k => XS.dup X16.here hx rfl (hb hby d2_66) rfl rfl k) ?_
          show own_Go _ _ _ _ T16 (mkF m 67 #[.val (.int p1), .val (.int p2), .val (.int p3), .val (.int p4), .val (.int p5)] [(.ref ca), (.ref ca)])
          refine own_step (fun _ k => XS.iconst X16.here hx rfl (hb hby d2_67) k) ?_
          show own_Go _ _ _ _ T16 (mkF m 68 #[.val (.int p1), .val (.int p2), .val (.int p3), .val (.int p4), .val (.int p5)] [(.int (1 : Int32)), (.ref ca), (.ref ca)])
          refine own_step (fun _ k => XS.iloadN X16.here hx rfl (hb hby d2_68) rfl k) ?_
          show own_Go _ _ _ _ T16 (mkF m 69 #[.val (.int p1), .val (.int p2), .val (.int p3), .val (.int p4), .val (.int p5)] [(.int p3), (.int (1 : Int32)), (.ref ca), (.ref ca)])
          obtain ⟨T17, h17, l17, X17, e17, W17, V17, st17⟩ := own_stC X16 hx hZ e16 V_ca_16 (j := (1 : Int32)) ⟨by decide, by decide⟩ 1 rfl (Nat.le_of_ble_eq_true rfl) (g := (mkF m 69 #[.val (.int p1), .val (.int p2), .val (.int p3), .val (.int p4), .val (.int p5)] [(.int p3), (.int (1 : Int32)), (.ref ca), (.ref ca)])) rfl rfl (hb hby d2_69)
          refine own_step st17 ?_
          have N17 := Fr.snoc X17 N16 g_ca
          have Z17 := Nat.le_trans Z16 (Keep.of_wr W17).1
          have KK17 := KK16.wr W17 (Or.inr sz_ca)
          rw [hp3] at V17
          have V_ca_17 : Arv Z h17 ca k15 .char (4 : Int32) [(.int p2), (.int p3), (.int (0 : Int32)), (.int (0 : Int32))] (.int (0 : Int32)) := V17
          show own_Go _ _ _ _ T17 (mkF m 70 #[.val (.int p1), .val (.int p2), .val (.int p3), .val (.int p4), .val (.int p5)] [(.ref ca)])
          refine own_step (fun _ k => XS.dup X17.here hx rfl (hb hby d2_70) rfl rfl k) ?_
          show own_Go _ _ _ _ T17 (mkF m 71 #[.val (.int p1), .val (.int p2), .val (.int p3), .val (.int p4), .val (.int p5)] [(.ref ca), (.ref ca)])
          refine own_step (fun _ k => XS.iconst X17.here hx rfl (hb hby d2_71) k) ?_
          show own_Go _ _ _ _ T17 (mkF m 72 #[.val (.int p1), .val (.int p2), .val (.int p3), .val (.int p4), .val (.int p5)] [(.int (2 : Int32)), (.ref ca), (.ref ca)])
          refine own_step (fun _ k => XS.iloadN X17.here hx rfl (hb hby d2_72) rfl k) ?_
          show own_Go _ _ _ _ T17 (mkF m 73 #[.val (.int p1), .val (.int p2), .val (.int p3), .val (.int p4), .val (.int p5)] [(.int p4), (.int (2 : Int32)), (.ref ca), (.ref ca)])
          obtain ⟨T18, h18, l18, X18, e18, W18, V18, st18⟩ := own_stC X17 hx hZ e17 V_ca_17 (j := (2 : Int32)) ⟨by decide, by decide⟩ 2 rfl (Nat.le_of_ble_eq_true rfl) (g := (mkF m 73 #[.val (.int p1), .val (.int p2), .val (.int p3), .val (.int p4), .val (.int p5)] [(.int p4), (.int (2 : Int32)), (.ref ca), (.ref ca)])) rfl rfl (hb hby d2_73)
          refine own_step st18 ?_
          have N18 := Fr.snoc X18 N17 g_ca
          have Z18 := Nat.le_trans Z17 (Keep.of_wr W18).1
          have KK18 := KK17.wr W18 (Or.inr sz_ca)
          rw [hp4] at V18
          have V_ca_18 : Arv Z h18 ca k15 .char (4 : Int32) [(.int p2), (.int p3), (.int p4), (.int (0 : Int32))] (.int (0 : Int32)) := V18
          show own_Go _ _ _ _ T18 (mkF m 74 #[.val (.int p1), .val (.int p2), .val (.int p3), .val (.int p4), .val (.int p5)] [(.ref ca)])
          refine own_step (fun _ k => XS.dup X18.here hx rfl (hb hby d2_74) rfl rfl k) ?_
          show own_Go _ _ _ _ T18 (mkF m 75 #[.val (.int p1), .val (.int p2), .val (.int p3), .val (.int p4), .val (.int p5)] [(.ref ca), (.ref ca)])
          refine own_step (fun _ k => XS.iconst X18.here hx rfl (hb hby d2_75) k) ?_
          show own_Go _ _ _ _ T18 (mkF m 76 #[.val (.int p1), .val (.int p2), .val (.int p3), .val (.int p4), .val (.int p5)] [(.int (3 : Int32)), (.ref ca), (.ref ca)])
          refine own_step (fun _ k => XS.iload X18.here hx rfl (hb hby d2_76) rfl k) ?_
          show own_Go _ _ _ _ T18 (mkF m 78 #[.val (.int p1), .val (.int p2), .val (.int p3), .val (.int p4), .val (.int p5)] [(.int p5), (.int (3 : Int32)), (.ref ca), (.ref ca)])
          obtain ⟨T19, h19, l19, X19, e19, W19, V19, st19⟩ := own_stC X18 hx hZ e18 V_ca_18 (j := (3 : Int32)) ⟨by decide, by decide⟩ 3 rfl (Nat.le_of_ble_eq_true rfl) (g := (mkF m 78 #[.val (.int p1), .val (.int p2), .val (.int p3), .val (.int p4), .val (.int p5)] [(.int p5), (.int (3 : Int32)), (.ref ca), (.ref ca)])) rfl rfl (hb hby d2_78)
          refine own_step st19 ?_
          have N19 := Fr.snoc X19 N18 g_ca
          have Z19 := Nat.le_trans Z18 (Keep.of_wr W19).1
          have KK19 := KK18.wr W19 (Or.inr sz_ca)
          rw [hp5] at V19
          have V_ca_19 : Arv Z h19 ca k15 .char (4 : Int32) [(.int p2), (.int p3), (.int p4), (.int p5)] (.int (0 : Int32)) := V19
          show own_Go _ _ _ _ T19 (mkF m 79 #[.val (.int p1), .val (.int p2), .val (.int p3), .val (.int p4), .val (.int p5)] [(.ref ca)])
          exact own_retA X19 hx hret rfl hlk rfl rfl (hb hby d2_79) (own_N (by rw [e19]; exact ⟨ca, _, rfl, N19, KK19, by rw [hmk, hz4]; exact V_ca_19⟩) (by decide) (by decide)) 
theorem d21_0 : decode jdk_43_method_23_code 0 = .ok (.iload_n 1, 1) := by decide +kernel
theorem d21_1 : decode jdk_43_method_23_code 1 = .ok (.i2b, 1) := by decide +kernel
theorem d21_2 : decode jdk_43_method_23_code 2 = .ok (.istore 4, 2) := by decide +kernel
theorem d21_4 : decode jdk_43_method_23_code 4 = .ok (.iload_n 2, 1) := by decide +kernel
theorem d21_5 : decode jdk_43_method_23_code 5 = .ok (.istore 5, 2) := by decide +kernel
theorem d21_7 : decode jdk_43_method_23_code 7 = .ok (.iload 5, 2) := by decide +kernel
theorem d21_9 : decode jdk_43_method_23_code 9 = .ok (.iload_n 3, 1) := by decide +kernel
theorem d21_10 : decode jdk_43_method_23_code 10 = .ok (.if_icmp .ge 21, 3) := by decide +kernel
theorem d21_13 : decode jdk_43_method_23_code 13 = .ok (.aload_n 0, 1) := by decide +kernel
theorem d21_14 : decode jdk_43_method_23_code 14 = .ok (.iload 5, 2) := by decide +kernel
theorem d21_16 : decode jdk_43_method_23_code 16 = .ok (.baload, 1) := by decide +kernel
theorem d21_17 : decode jdk_43_method_23_code 17 = .ok (.iload 4, 2) := by decide +kernel
theorem d21_19 : decode jdk_43_method_23_code 19 = .ok (.if_icmp .ne 6, 3) := by decide +kernel
theorem d21_22 : decode jdk_43_method_23_code 22 = .ok (.iload 5, 2) := by decide +kernel
theorem d21_24 : decode jdk_43_method_23_code 24 = .ok (.ireturn, 1) := by decide +kernel
theorem d21_25 : decode jdk_43_method_23_code 25 = .ok (.iinc 5 1, 3) := by decide +kernel
theorem d21_28 : decode jdk_43_method_23_code 28 = .ok (.goto (-21), 3) := by decide +kernel
theorem d21_31 : decode jdk_43_method_23_code 31 = .ok (.iconst (-1), 1) := by decide +kernel
theorem d21_32 : decode jdk_43_method_23_code 32 = .ok (.ireturn, 1) := by decide +kernel
theorem ef_21 (a1 : Addr) (p2 : Int32) (p3 : Int32) (p4 : Int32) (m : MethodId) : entryFrame m #[(.ref a1), (.int p2), (.int p3), (.int p4)] 6 = mkF m 0 #[.val (.ref a1), .val (.int p2), .val (.int p3), .val (.int p4), .unset, .unset] [] := by first | (simp [entryFrame, mkF, argsToLocals, Value.category]; done) | rfl
set_option maxRecDepth 65536 in
set_option maxHeartbeats 40000000 in
theorem rm21 (l : Launch) (Z : State) (a0 : Array Value) (hw : ∀ d ∈ tables_1, d.before a0 Z = true) (ws : List Jvm.Cond) (a1 : Addr) (p2 : Int32) (p3 : Int32) (p4 : Int32) (kb : ClassId) (z : Int32) (ys : List Int32) (h0 : Heap) (n0 : Nat) (Z0 : n0 ≤ h0.size) (VB : Arv Z h0 a1 kb .byte z (ys.map Value.int) (.int (0 : Int32))) (hl : z.toInt = (ys.length : Nat)) (hcap : ys.length ≤ 8) (hp3 : p3.toInt = (0 : Nat)) (hp4 : p4 = z) :
    own_Met l (⟨"java/lang/StringLatin1", "indexOfChar", "([BIII)I"⟩ : MethodName) jdk_43_method_23_code 6 (some .int) ws ({ frames := 0, cells := 0, slots := 0, locals := 0 } : Room) #[(.ref a1), (.int p2), (.int p3), (.int p4)] Z h0 (fun v h L => v = some (.int (own_ixr (own_tab (p2.toInt8.toInt32) ys) ys.length)) ∧ Fr n0 L ∧ h = h0) := by
  refine own_body (plainFor_of_name pn_2) (ef_21 a1 p2 p3 p4) ?_
  intro p e s m below meth c T0 X0 hx hby hml0 hret hlk hnm hown hZ e0
  have hml : c.maxLocals = 6 := hml0
  have N0 := Fr.nil n0
  have e_1 : (1 : Int32).toInt = (1 : Nat) := by decide
  refine own_step (fun _ k => XS.iloadN X0.here hx rfl (hb hby d21_0) rfl k) ?_
  show own_Go _ _ _ _ T0 (mkF m 1 #[.val (.ref a1), .val (.int p2), .val (.int p3), .val (.int p4), .unset, .unset] [(.int p2)])
  refine own_step (fun _ k => XS.i2b X0.here hx rfl (hb hby d21_1) rfl k) ?_
  show own_Go _ _ _ _ T0 (mkF m 2 #[.val (.ref a1), .val (.int p2), .val (.int p3), .val (.int p4), .unset, .unset] [(.int (p2.toInt8.toInt32))])
  refine own_step (fun _ k => XS.istore X0.here hx rfl (hb hby d21_2) rfl (l' := #[.val (.ref a1), .val (.int p2), .val (.int p3), .val (.int p4), .val (.int (p2.toInt8.toInt32)), .unset]) rfl k) ?_
  show own_Go _ _ _ _ T0 (mkF m 4 #[.val (.ref a1), .val (.int p2), .val (.int p3), .val (.int p4), .val (.int (p2.toInt8.toInt32)), .unset] [])
  refine own_step (fun _ k => XS.iloadN X0.here hx rfl (hb hby d21_4) rfl k) ?_
  show own_Go _ _ _ _ T0 (mkF m 5 #[.val (.ref a1), .val (.int p2), .val (.int p3), .val (.int p4), .val (.int (p2.toInt8.toInt32)), .unset] [(.int p3)])
  refine own_step (fun _ k => XS.istore X0.here hx rfl (hb hby d21_5) rfl (l' := #[.val (.ref a1), .val (.int p2), .val (.int p3), .val (.int p4), .val (.int (p2.toInt8.toInt32)), .val (.int p3)]) rfl k) ?_
  show own_Go _ _ _ _ T0 (mkF m 7 #[.val (.ref a1), .val (.int p2), .val (.int p3), .val (.int p4), .val (.int (p2.toInt8.toInt32)), .val (.int p3)] [])
  have loop : ∀ (k j : Nat) (i : Int32), j + k = ys.length → i.toInt = (j : Nat) → own_tab (p2.toInt8.toInt32) ys = j + own_tab (p2.toInt8.toInt32) (ys.drop j) → own_Go p e below (own_EndN below s (fun v h L => v = some (.int (own_ixr (own_tab (p2.toInt8.toInt32) ys) ys.length)) ∧ Fr n0 L ∧ h = h0) ({ frames := 0, cells := 0, slots := 0, locals := 0 } : Room).cells ({ frames := 0, cells := 0, slots := 0, locals := 0 } : Room).slots) T0 (mkF m 7 #[.val (.ref a1), .val (.int p2), .val (.int p3), .val (.int p4), .val (.int (p2.toInt8.toInt32)), .val (.int i)] []) := by
    intro k
    induction k with
    | zero =>
      intro j i hj hi ht
      have hc : ¬ i < p4 := fun q => by rw [hp4] at q; have := (own_lt hi hl).mp q; omega
      have hge : ¬ own_tab (p2.toInt8.toInt32) ys < ys.length := by omega
      refine own_step (fun _ k => XS.iload X0.here hx rfl (hb hby d21_7) rfl k) ?_
      show own_Go _ _ _ _ T0 (mkF m 9 #[.val (.ref a1), .val (.int p2), .val (.int p3), .val (.int p4), .val (.int (p2.toInt8.toInt32)), .val (.int i)] [(.int i)])
      refine own_step (fun _ k => XS.iloadN X0.here hx rfl (hb hby d21_9) rfl k) ?_
      show own_Go _ _ _ _ T0 (mkF m 10 #[.val (.ref a1), .val (.int p2), .val (.int p3), .val (.int p4), .val (.int (p2.toInt8.toInt32)), .val (.int i)] [(.int p4), (.int i)])
      refine own_step (fun _ k => XS.icmpYes X0.here hx rfl (pc0 := 10) (pc' := 31) rfl (hb hby d21_10) rfl (flt hc).2.1 (by decide) (by decide) k) ?_
      show own_Go _ _ _ _ T0 (mkF m 31 #[.val (.ref a1), .val (.int p2), .val (.int p3), .val (.int p4), .val (.int (p2.toInt8.toInt32)), .val (.int i)] [])
      refine own_step (fun _ k => XS.iconst X0.here hx rfl (hb hby d21_31) k) ?_
      show own_Go _ _ _ _ T0 (mkF m 32 #[.val (.ref a1), .val (.int p2), .val (.int p3), .val (.int p4), .val (.int (p2.toInt8.toInt32)), .val (.int i)] [(.int (-1 : Int32))])
      exact own_retI X0 hx hret hlk (hb hby d21_32) (own_N ⟨own_leafI (if_neg hge), N0, e0⟩ (by decide) (by decide)) 
    | succ k ih =>
      intro j i hj hi ht
      have hcz_ : i < z := (own_lt hi hl).mpr (by omega)
      have hc : i < p4 := by rw [hp4]; exact hcz_
      rw [own_tabS _ _ _ (by omega)] at ht
      refine own_step (fun _ k => XS.iload X0.here hx rfl (hb hby d21_7) rfl k) ?_
      show own_Go _ _ _ _ T0 (mkF m 9 #[.val (.ref a1), .val (.int p2), .val (.int p3), .val (.int p4), .val (.int (p2.toInt8.toInt32)), .val (.int i)] [(.int i)])
      refine own_step (fun _ k => XS.iloadN X0.here hx rfl (hb hby d21_9) rfl k) ?_
      show own_Go _ _ _ _ T0 (mkF m 10 #[.val (.ref a1), .val (.int p2), .val (.int p3), .val (.int p4), .val (.int (p2.toInt8.toInt32)), .val (.int i)] [(.int p4), (.int i)])
      refine own_step (fun _ k => XS.icmpNo X0.here hx rfl (hb hby d21_10) rfl (tlt hc).2.1 k) ?_
      show own_Go _ _ _ _ T0 (mkF m 13 #[.val (.ref a1), .val (.int p2), .val (.int p3), .val (.int p4), .val (.int (p2.toInt8.toInt32)), .val (.int i)] [])
      refine own_step (fun _ k => XS.aloadN X0.here hx rfl (hb hby d21_13) rfl rfl k) ?_
      show own_Go _ _ _ _ T0 (mkF m 14 #[.val (.ref a1), .val (.int p2), .val (.int p3), .val (.int p4), .val (.int (p2.toInt8.toInt32)), .val (.int i)] [(.ref a1)])
      refine own_step (fun _ k => XS.iload X0.here hx rfl (hb hby d21_14) rfl k) ?_
      show own_Go _ _ _ _ T0 (mkF m 16 #[.val (.ref a1), .val (.int p2), .val (.int p3), .val (.int p4), .val (.int (p2.toInt8.toInt32)), .val (.int i)] [(.int i), (.ref a1)])
      refine own_step (own_ldB X0 hx hZ e0 VB (j := i) (v := (.int (ys.getD j (0 : Int32)))) ⟨own_nn hi, hcz_⟩ (by rw [own_clamp hi]; exact own_getI ys _ j) (g := (mkF m 16 #[.val (.ref a1), .val (.int p2), .val (.int p3), .val (.int p4), .val (.int (p2.toInt8.toInt32)), .val (.int i)] [(.int i), (.ref a1)])) rfl rfl (hb hby d21_16)) ?_
      show own_Go _ _ _ _ T0 (mkF m 17 #[.val (.ref a1), .val (.int p2), .val (.int p3), .val (.int p4), .val (.int (p2.toInt8.toInt32)), .val (.int i)] [(.int (ys.getD j (0 : Int32)))])
      refine own_step (fun _ k => XS.iload X0.here hx rfl (hb hby d21_17) rfl k) ?_
      show own_Go _ _ _ _ T0 (mkF m 19 #[.val (.ref a1), .val (.int p2), .val (.int p3), .val (.int p4), .val (.int (p2.toInt8.toInt32)), .val (.int i)] [(.int (p2.toInt8.toInt32)), (.int (ys.getD j (0 : Int32)))])
      by_cases he : (ys.getD j (0 : Int32)) = (p2.toInt8.toInt32)
      · refine own_step (fun _ k => XS.icmpNo X0.here hx rfl (hb hby d21_19) rfl (teq he).2 k) ?_
        show own_Go _ _ _ _ T0 (mkF m 22 #[.val (.ref a1), .val (.int p2), .val (.int p3), .val (.int p4), .val (.int (p2.toInt8.toInt32)), .val (.int i)] [])
        refine own_step (fun _ k => XS.iload X0.here hx rfl (hb hby d21_22) rfl k) ?_
        show own_Go _ _ _ _ T0 (mkF m 24 #[.val (.ref a1), .val (.int p2), .val (.int p3), .val (.int p4), .val (.int (p2.toInt8.toInt32)), .val (.int i)] [(.int i)])
        rw [if_pos he] at ht
        exact own_retI X0 hx hret hlk (hb hby d21_24) (own_N ⟨own_leafI (by unfold own_ixr; rw [ht, if_pos (by omega)]; exact (own_lit32 hi).symm), N0, e0⟩ (by decide) (by decide)) 
      · refine own_step (fun _ k => XS.icmpYes X0.here hx rfl (pc0 := 19) (pc' := 25) rfl (hb hby d21_19) rfl (feq he).2 (by decide) (by decide) k) ?_
        show own_Go _ _ _ _ T0 (mkF m 25 #[.val (.ref a1), .val (.int p2), .val (.int p3), .val (.int p4), .val (.int (p2.toInt8.toInt32)), .val (.int i)] [])
        refine own_step (fun _ k => XS.iinc X0.here hx rfl (hb hby d21_25) rfl (l' := #[.val (.ref a1), .val (.int p2), .val (.int p3), .val (.int p4), .val (.int (p2.toInt8.toInt32)), .val (.int (i + (1 : Int32)))]) rfl k) ?_
        show own_Go _ _ _ _ T0 (mkF m 28 #[.val (.ref a1), .val (.int p2), .val (.int p3), .val (.int p4), .val (.int (p2.toInt8.toInt32)), .val (.int (i + (1 : Int32)))] [])
        refine own_step (fun _ k => XS.goto X0.here hx rfl (pc0 := 28) (pc' := 7) rfl (hb hby d21_28) (by decide) (by decide) k) ?_
        show own_Go _ _ _ _ T0 (mkF m 7 #[.val (.ref a1), .val (.int p2), .val (.int p3), .val (.int p4), .val (.int (p2.toInt8.toInt32)), .val (.int (i + (1 : Int32)))] [])
        rw [if_neg he] at ht
        exact ih (j + 1) _ (by omega) (own_add hi e_1 (by omega)) (by omega)
  exact loop ys.length 0 p3 (by omega) hp3 (by rw [List.drop_zero]; omega)
theorem d12_0 : decode jdk_43_method_22_code 0 = .ok (.iload_n 1, 1) := by decide +kernel
theorem d12_1 : decode jdk_43_method_22_code 1 = .ok (.invokestatic 88, 3) := by decide +kernel
theorem d12_4 : decode jdk_43_method_22_code 4 = .ok (.ifCond .ne 5, 3) := by decide +kernel
theorem d12_7 : decode jdk_43_method_22_code 7 = .ok (.iconst (-1), 1) := by decide +kernel
theorem d12_8 : decode jdk_43_method_22_code 8 = .ok (.ireturn, 1) := by decide +kernel
theorem d12_9 : decode jdk_43_method_22_code 9 = .ok (.iload_n 2, 1) := by decide +kernel
theorem d12_10 : decode jdk_43_method_22_code 10 = .ok (.iconst 0, 1) := by decide +kernel
theorem d12_11 : decode jdk_43_method_22_code 11 = .ok (.invokestatic 92, 3) := by decide +kernel
theorem d12_14 : decode jdk_43_method_22_code 14 = .ok (.istore_n 2, 1) := by decide +kernel
theorem d12_15 : decode jdk_43_method_22_code 15 = .ok (.iload_n 3, 1) := by decide +kernel
theorem d12_16 : decode jdk_43_method_22_code 16 = .ok (.aload_n 0, 1) := by decide +kernel
theorem d12_17 : decode jdk_43_method_22_code 17 = .ok (.arraylength, 1) := by decide +kernel
theorem d12_18 : decode jdk_43_method_22_code 18 = .ok (.invokestatic 38, 3) := by decide +kernel
theorem d12_21 : decode jdk_43_method_22_code 21 = .ok (.istore_n 3, 1) := by decide +kernel
theorem d12_22 : decode jdk_43_method_22_code 22 = .ok (.iload_n 2, 1) := by decide +kernel
theorem d12_23 : decode jdk_43_method_22_code 23 = .ok (.iload_n 3, 1) := by decide +kernel
theorem d12_24 : decode jdk_43_method_22_code 24 = .ok (.if_icmp .lt 5, 3) := by decide +kernel
theorem d12_27 : decode jdk_43_method_22_code 27 = .ok (.iconst (-1), 1) := by decide +kernel
theorem d12_28 : decode jdk_43_method_22_code 28 = .ok (.ireturn, 1) := by decide +kernel
theorem d12_29 : decode jdk_43_method_22_code 29 = .ok (.aload_n 0, 1) := by decide +kernel
theorem d12_30 : decode jdk_43_method_22_code 30 = .ok (.iload_n 1, 1) := by decide +kernel
theorem d12_31 : decode jdk_43_method_22_code 31 = .ok (.iload_n 2, 1) := by decide +kernel
theorem d12_32 : decode jdk_43_method_22_code 32 = .ok (.iload_n 3, 1) := by decide +kernel
theorem d12_33 : decode jdk_43_method_22_code 33 = .ok (.invokestatic 95, 3) := by decide +kernel
theorem d12_36 : decode jdk_43_method_22_code 36 = .ok (.ireturn, 1) := by decide +kernel
theorem ef_12 (a1 : Addr) (p2 : Int32) (p3 : Int32) (p4 : Int32) (m : MethodId) : entryFrame m #[(.ref a1), (.int p2), (.int p3), (.int p4)] 4 = mkF m 0 #[.val (.ref a1), .val (.int p2), .val (.int p3), .val (.int p4)] [] := by first | (simp [entryFrame, mkF, argsToLocals, Value.category]; done) | rfl
theorem pd_9 : parseMethodDescriptor "(I)Z" = some ⟨[.int], some .boolean⟩ := by decide +kernel
theorem pd_10 : parseMethodDescriptor "(II)I" = some ⟨[.int, .int], some .int⟩ := by decide +kernel
theorem pd_11 : parseMethodDescriptor "([BIII)I" = some ⟨[(.array .byte), .int, .int, .int], some .int⟩ := by decide +kernel
set_option maxRecDepth 65536 in
set_option maxHeartbeats 40000000 in
theorem rm12 (l : Launch) (Z : State) (a0 : Array Value) (hw : ∀ d ∈ tables_1, d.before a0 Z = true) (ws : List Jvm.Cond) (a1 : Addr) (p2 : Int32) (p3 : Int32) (p4 : Int32) (kb : ClassId) (z : Int32) (ys : List Int32) (h0 : Heap) (n0 : Nat) (Z0 : n0 ≤ h0.size) (VB : Arv Z h0 a1 kb .byte z (ys.map Value.int) (.int (0 : Int32))) (hl : z.toInt = (ys.length : Nat)) (hcap : ys.length ≤ 8) (hce : ¬ own_ce p2 = (0 : Int32)) (hp3 : p3 = (0 : Int32)) (hp4 : z = p4) :
    own_Met l (⟨"java/lang/StringLatin1", "indexOf", "([BIII)I"⟩ : MethodName) jdk_43_method_22_code 4 (some .int) ws ({ frames := 1, cells := 0, slots := 0, locals := 17 } : Room) #[(.ref a1), (.int p2), (.int p3), (.int p4)] Z h0 (fun v h L => v = some (.int (own_ixr (own_tab (p2.toInt8.toInt32) ys) ys.length)) ∧ Fr n0 L ∧ h = h0) := by
  refine own_body (plainFor_of_name pn_2) (ef_12 a1 p2 p3 p4) ?_
  intro p e s m below meth c T0 X0 hx hby hml0 hret hlk hnm hown hZ e0
  have hml : c.maxLocals = 4 := hml0
  have N0 := Fr.nil n0
  subst hp3
  subst hp4
  have hmx : own_max (0 : Int32) (0 : Int32) = (0 : Int32) := by decide
  have hmn : own_min z z = z := by unfold own_min; split <;> rfl
  refine own_step (fun _ k => XS.iloadN X0.here hx rfl (hb hby d12_0) rfl k) ?_
  show own_Go _ _ _ _ T0 (mkF m 1 #[.val (.ref a1), .val (.int p2), .val (.int (0 : Int32)), .val (.int z)] [(.int p2)])
  refine own_callS X0 hx hZ (y := (⟨"java/lang/StringLatin1", "canEncode", "(I)Z"⟩ : MethodName)) hown (hw _ (List.mem_of_getElem? (i := 64) rfl)) (hw _ (List.mem_of_getElem? (i := 65) rfl)) (hw _ (List.mem_of_getElem? (i := 62) rfl)) (hw _ (List.mem_of_getElem? (i := 66) rfl)) (by decide) (rm13 l Z a0 hw [] p2 h0 n0 Z0) e0 0 (by decide) (by decide) (by decide) (by decide) (g := (mkF m 1 #[.val (.ref a1), .val (.int p2), .val (.int (0 : Int32)), .val (.int z)] [(.int p2)])) rfl (by rw [hml]; rfl) [(.int p2)] [] pd_9 rfl rfl rfl (by show 2 * 0 + _ ≤ _; exact Nat.le_of_eq rfl) (hb hby d12_1) ?_
  rintro v1 T1 L1 X1 ⟨rfl, Nq1, e1⟩
  have N1 := Fr.app N0 Nq1
  show own_Go _ _ _ _ T1 (mkF m 4 #[.val (.ref a1), .val (.int p2), .val (.int (0 : Int32)), .val (.int z)] [(.int (own_ce p2))])
  refine own_step (fun _ k => XS.ifYes X1.here hx rfl (pc0 := 4) (pc' := 9) rfl (hb hby d12_4) rfl ((if0 _ _).trans (feq hce).2) (by decide) (by decide) k) ?_
  show own_Go _ _ _ _ T1 (mkF m 9 #[.val (.ref a1), .val (.int p2), .val (.int (0 : Int32)), .val (.int z)] [])
  refine own_step (fun _ k => XS.iloadN X1.here hx rfl (hb hby d12_9) rfl k) ?_
  show own_Go _ _ _ _ T1 (mkF m 10 #[.val (.ref a1), .val (.int p2), .val (.int (0 : Int32)), .val (.int z)] [(.int (0 : Int32))])
  refine own_step (fun _ k => XS.iconst X1.here hx rfl (hb hby d12_10) k) ?_
  show own_Go _ _ _ _ T1 (mkF m 11 #[.val (.ref a1), .val (.int p2), .val (.int (0 : Int32)), .val (.int z)] [(.int (0 : Int32)), (.int (0 : Int32))])
  refine own_callS X1 hx hZ (y := (⟨"java/lang/Math", "max", "(II)I"⟩ : MethodName)) hown (hw _ (List.mem_of_getElem? (i := 67) rfl)) (hw _ (List.mem_of_getElem? (i := 68) rfl)) (hw _ (List.mem_of_getElem? (i := 69) rfl)) (hw _ (List.mem_of_getElem? (i := 70) rfl)) (by decide) (rm14 l Z a0 hw [] (0 : Int32) (0 : Int32) h0 n0 Z0) e1 0 (by decide) (by decide) (by decide) (by decide) (g := (mkF m 11 #[.val (.ref a1), .val (.int p2), .val (.int (0 : Int32)), .val (.int z)] [(.int (0 : Int32)), (.int (0 : Int32))])) rfl (by rw [hml]; rfl) [(.int (0 : Int32)), (.int (0 : Int32))] [] pd_10 rfl rfl rfl (by show 2 * 0 + _ ≤ _; exact Nat.le_of_eq rfl) (hb hby d12_11) ?_
  rintro v2 T2 L2 X2 ⟨rfl, Nq2, e2⟩
  have N2 := Fr.app N1 Nq2
  show own_Go _ _ _ _ T2 (mkF m 14 #[.val (.ref a1), .val (.int p2), .val (.int (0 : Int32)), .val (.int z)] [(.int (own_max (0 : Int32) (0 : Int32)))])
  rw [hmx]
  show own_Go _ _ _ _ T2 (mkF m 14 #[.val (.ref a1), .val (.int p2), .val (.int (0 : Int32)), .val (.int z)] [(.int (0 : Int32))])
  refine own_step (fun _ k => XS.istoreN X2.here hx rfl (hb hby d12_14) rfl (l' := #[.val (.ref a1), .val (.int p2), .val (.int (0 : Int32)), .val (.int z)]) rfl k) ?_
  show own_Go _ _ _ _ T2 (mkF m 15 #[.val (.ref a1), .val (.int p2), .val (.int (0 : Int32)), .val (.int z)] [])
  refine own_step (fun _ k => XS.iloadN X2.here hx rfl (hb hby d12_15) rfl k) ?_
  show own_Go _ _ _ _ T2 (mkF m 16 #[.val (.ref a1), .val (.int p2), .val (.int (0 : Int32)), .val (.int z)] [(.int z)])
  refine own_step (fun _ k => XS.aloadN X2.here hx rfl (hb hby d12_16) rfl rfl k) ?_
  show own_Go _ _ _ _ T2 (mkF m 17 #[.val (.ref a1), .val (.int p2), .val (.int (0 : Int32)), .val (.int z)] [(.ref a1), (.int z)])
  refine own_step (own_len X2 hx hZ e2 VB (g := (mkF m 17 #[.val (.ref a1), .val (.int p2), .val (.int (0 : Int32)), .val (.int z)] [(.ref a1), (.int z)])) rfl rfl (hb hby d12_17)) ?_
  show own_Go _ _ _ _ T2 (mkF m 18 #[.val (.ref a1), .val (.int p2), .val (.int (0 : Int32)), .val (.int z)] [(.int z), (.int z)])
  refine own_callS X2 hx hZ (y := (⟨"java/lang/Math", "min", "(II)I"⟩ : MethodName)) hown (hw _ (List.mem_of_getElem? (i := 71) rfl)) (hw _ (List.mem_of_getElem? (i := 72) rfl)) (hw _ (List.mem_of_getElem? (i := 69) rfl)) (hw _ (List.mem_of_getElem? (i := 73) rfl)) (by decide) (rm15 l Z a0 hw [] z z h0 n0 Z0) e2 0 (by decide) (by decide) (by decide) (by decide) (g := (mkF m 18 #[.val (.ref a1), .val (.int p2), .val (.int (0 : Int32)), .val (.int z)] [(.int z), (.int z)])) rfl (by rw [hml]; rfl) [(.int z), (.int z)] [] pd_10 rfl rfl rfl (by show 2 * 0 + _ ≤ _; exact Nat.le_of_eq rfl) (hb hby d12_18) ?_
  rintro v3 T3 L3 X3 ⟨rfl, Nq3, e3⟩
  have N3 := Fr.app N2 Nq3
  show own_Go _ _ _ _ T3 (mkF m 21 #[.val (.ref a1), .val (.int p2), .val (.int (0 : Int32)), .val (.int z)] [(.int (own_min z z))])
  rw [hmn]
  show own_Go _ _ _ _ T3 (mkF m 21 #[.val (.ref a1), .val (.int p2), .val (.int (0 : Int32)), .val (.int z)] [(.int z)])
  refine own_step (fun _ k => XS.istoreN X3.here hx rfl (hb hby d12_21) rfl (l' := #[.val (.ref a1), .val (.int p2), .val (.int (0 : Int32)), .val (.int z)]) rfl k) ?_
  show own_Go _ _ _ _ T3 (mkF m 22 #[.val (.ref a1), .val (.int p2), .val (.int (0 : Int32)), .val (.int z)] [])
  refine own_step (fun _ k => XS.iloadN X3.here hx rfl (hb hby d12_22) rfl k) ?_
  show own_Go _ _ _ _ T3 (mkF m 23 #[.val (.ref a1), .val (.int p2), .val (.int (0 : Int32)), .val (.int z)] [(.int (0 : Int32))])
  refine own_step (fun _ k => XS.iloadN X3.here hx rfl (hb hby d12_23) rfl k) ?_
  show own_Go _ _ _ _ T3 (mkF m 24 #[.val (.ref a1), .val (.int p2), .val (.int (0 : Int32)), .val (.int z)] [(.int z), (.int (0 : Int32))])
  by_cases hlt : (0 : Int32) < z
  · refine own_step (fun _ k => XS.icmpYes X3.here hx rfl (pc0 := 24) (pc' := 29) rfl (hb hby d12_24) rfl (tlt hlt).1 (by decide) (by decide) k) ?_
    show own_Go _ _ _ _ T3 (mkF m 29 #[.val (.ref a1), .val (.int p2), .val (.int (0 : Int32)), .val (.int z)] [])
    refine own_step (fun _ k => XS.aloadN X3.here hx rfl (hb hby d12_29) rfl rfl k) ?_
    show own_Go _ _ _ _ T3 (mkF m 30 #[.val (.ref a1), .val (.int p2), .val (.int (0 : Int32)), .val (.int z)] [(.ref a1)])
    refine own_step (fun _ k => XS.iloadN X3.here hx rfl (hb hby d12_30) rfl k) ?_
    show own_Go _ _ _ _ T3 (mkF m 31 #[.val (.ref a1), .val (.int p2), .val (.int (0 : Int32)), .val (.int z)] [(.int p2), (.ref a1)])
    refine own_step (fun _ k => XS.iloadN X3.here hx rfl (hb hby d12_31) rfl k) ?_
    show own_Go _ _ _ _ T3 (mkF m 32 #[.val (.ref a1), .val (.int p2), .val (.int (0 : Int32)), .val (.int z)] [(.int (0 : Int32)), (.int p2), (.ref a1)])
    refine own_step (fun _ k => XS.iloadN X3.here hx rfl (hb hby d12_32) rfl k) ?_
    show own_Go _ _ _ _ T3 (mkF m 33 #[.val (.ref a1), .val (.int p2), .val (.int (0 : Int32)), .val (.int z)] [(.int z), (.int (0 : Int32)), (.int p2), (.ref a1)])
    refine own_callS X3 hx hZ (y := (⟨"java/lang/StringLatin1", "indexOfChar", "([BIII)I"⟩ : MethodName)) hown (hw _ (List.mem_of_getElem? (i := 91) rfl)) (hw _ (List.mem_of_getElem? (i := 92) rfl)) (hw _ (List.mem_of_getElem? (i := 62) rfl)) (hw _ (List.mem_of_getElem? (i := 93) rfl)) (by decide) (rm21 l Z a0 hw [] a1 p2 (0 : Int32) z kb z ys h0 n0 Z0 VB hl hcap rfl rfl) e3 0 (by decide) (by decide) (by decide) (by decide) (g := (mkF m 33 #[.val (.ref a1), .val (.int p2), .val (.int (0 : Int32)), .val (.int z)] [(.int z), (.int (0 : Int32)), (.int p2), (.ref a1)])) rfl (by rw [hml]; rfl) [(.ref a1), (.int p2), (.int (0 : Int32)), (.int z)] [] pd_11 rfl rfl rfl (by show 2 * 0 + _ ≤ _; exact Nat.le_of_eq rfl) (hb hby d12_33) ?_
    rintro v4 T4 L4 X4 ⟨rfl, Nq4, e4⟩
    have N4 := Fr.app N3 Nq4
    show own_Go _ _ _ _ T4 (mkF m 36 #[.val (.ref a1), .val (.int p2), .val (.int (0 : Int32)), .val (.int z)] [(.int (own_ixr (own_tab (p2.toInt8.toInt32) ys) ys.length))])
    exact own_retI X4 hx hret hlk (hb hby d12_36) (own_N ⟨rfl, N4, e4⟩ (by decide) (by decide)) 
  · refine own_step (fun _ k => XS.icmpNo X3.here hx rfl (hb hby d12_24) rfl (flt hlt).1 k) ?_
    show own_Go _ _ _ _ T3 (mkF m 27 #[.val (.ref a1), .val (.int p2), .val (.int (0 : Int32)), .val (.int z)] [])
    have h0l : ¬ own_tab (p2.toInt8.toInt32) ys < ys.length := fun q => hlt ((own_lt (n := 0) rfl hl).mpr (by omega))
    refine own_step (fun _ k => XS.iconst X3.here hx rfl (hb hby d12_27) k) ?_
    show own_Go _ _ _ _ T3 (mkF m 28 #[.val (.ref a1), .val (.int p2), .val (.int (0 : Int32)), .val (.int z)] [(.int (-1 : Int32))])
    exact own_retI X3 hx hret hlk (hb hby d12_28) (own_N ⟨own_leafI (if_neg h0l), N3, e3⟩ (by decide) (by decide)) 
theorem d8_0 : decode jdk_42_method_80_code 0 = .ok (.aload_n 0, 1) := by decide +kernel
theorem d8_1 : decode jdk_42_method_80_code 1 = .ok (.invokevirtual 492, 3) := by decide +kernel
theorem d8_4 : decode jdk_42_method_80_code 4 = .ok (.ifCond .eq 19, 3) := by decide +kernel
theorem d8_7 : decode jdk_42_method_80_code 7 = .ok (.aload_n 0, 1) := by decide +kernel
theorem d8_8 : decode jdk_42_method_80_code 8 = .ok (.getfield 9, 3) := by decide +kernel
theorem d8_11 : decode jdk_42_method_80_code 11 = .ok (.iload_n 1, 1) := by decide +kernel
theorem d8_12 : decode jdk_42_method_80_code 12 = .ok (.iload_n 2, 1) := by decide +kernel
theorem d8_13 : decode jdk_42_method_80_code 13 = .ok (.aload_n 0, 1) := by decide +kernel
theorem d8_14 : decode jdk_42_method_80_code 14 = .ok (.invokevirtual 505, 3) := by decide +kernel
theorem d8_17 : decode jdk_42_method_80_code 17 = .ok (.invokestatic 637, 3) := by decide +kernel
theorem d8_20 : decode jdk_42_method_80_code 20 = .ok (.goto 16, 3) := by decide +kernel
theorem d8_23 : decode jdk_42_method_80_code 23 = .ok (.aload_n 0, 1) := by decide +kernel
theorem d8_24 : decode jdk_42_method_80_code 24 = .ok (.getfield 9, 3) := by decide +kernel
theorem d8_27 : decode jdk_42_method_80_code 27 = .ok (.iload_n 1, 1) := by decide +kernel
theorem d8_28 : decode jdk_42_method_80_code 28 = .ok (.iload_n 2, 1) := by decide +kernel
theorem d8_29 : decode jdk_42_method_80_code 29 = .ok (.aload_n 0, 1) := by decide +kernel
theorem d8_30 : decode jdk_42_method_80_code 30 = .ok (.invokevirtual 505, 3) := by decide +kernel
theorem d8_33 : decode jdk_42_method_80_code 33 = .ok (.invokestatic 640, 3) := by decide +kernel
theorem d8_36 : decode jdk_42_method_80_code 36 = .ok (.ireturn, 1) := by decide +kernel
theorem ef_8 (a1 : Addr) (p2 : Int32) (p3 : Int32) (m : MethodId) : entryFrame m #[(.ref a1), (.int p2), (.int p3)] 3 = mkF m 0 #[.val (.ref a1), .val (.int p2), .val (.int p3)] [] := by first | (simp [entryFrame, mkF, argsToLocals, Value.category]; done) | rfl
theorem pd_12 : parseMethodDescriptor "()I" = some ⟨[], some .int⟩ := by decide +kernel
set_option maxRecDepth 65536 in
set_option maxHeartbeats 40000000 in
theorem rm8 (l : Launch) (Z : State) (a0 : Array Value) (hw : ∀ d ∈ tables_1, d.before a0 Z = true) (ws : List Jvm.Cond) (a1 : Addr) (p2 : Int32) (p3 : Int32) (cz : Int32) (b : Addr) (kb : ClassId) (z : Int32) (ys : List Int32) (h0 : Heap) (n0 : Nat) (Z0 : n0 ≤ h0.size) (O0 : Old Z n0 h0) (SC : Sta Z Z.heap "java/lang/String" "COMPACT_STRINGS" "Z" (.int cz)) (hcz : ¬ cz = (0 : Int32)) (E_a1 : Exa Z h0 a1 "java/lang/String") (FC_a1 : Fld Z h0 a1 "java/lang/String" "coder" "B" (.int (0 : Int32))) (FV_a1 : Fld Z h0 a1 "java/lang/String" "value" "[B" (.ref b)) (VB : Arv Z h0 b kb .byte z (ys.map Value.int) (.int (0 : Int32))) (hl : z.toInt = (ys.length : Nat)) (hcap : ys.length ≤ 8) (hce : ¬ own_ce p2 = (0 : Int32)) (hp3 : p3 = (0 : Int32)) :
    own_Met l (⟨"java/lang/String", "indexOf", "(II)I"⟩ : MethodName) jdk_42_method_80_code 3 (some .int) ws ({ frames := 2, cells := 0, slots := 0, locals := 32 } : Room) #[(.ref a1), (.int p2), (.int p3)] Z h0 (fun v h L => v = some (.int (own_ixr (own_tab (p2.toInt8.toInt32) ys) ys.length)) ∧ Fr n0 L ∧ h = h0) := by
  refine own_body (plainFor_of_name pn_0) (ef_8 a1 p2 p3) ?_
  intro p e s m below meth c T0 X0 hx hby hml0 hret hlk hnm hown hZ e0
  have hml : c.maxLocals = 3 := hml0
  have N0 := Fr.nil n0
  subst hp3
  refine own_step (fun _ k => XS.aloadN X0.here hx rfl (hb hby d8_0) rfl rfl k) ?_
  show own_Go _ _ _ _ T0 (mkF m 1 #[.val (.ref a1), .val (.int p2), .val (.int (0 : Int32))] [(.ref a1)])
  refine own_callV X0 hx hZ (y := (⟨"java/lang/String", "isLatin1", "()Z"⟩ : MethodName)) (z := (⟨"java/lang/String", "isLatin1", "()Z"⟩ : MethodName)) hown (hw _ (List.mem_of_getElem? (i := 44) rfl)) (hw _ (List.mem_of_getElem? (i := 45) rfl)) (hw _ (List.mem_of_getElem? (i := 47) rfl)) (hw _ (List.mem_of_getElem? (i := 47) rfl)) (hw _ (List.mem_of_getElem? (i := 46) rfl)) (hw _ (List.mem_of_getElem? (i := 11) rfl)) (hw _ (List.mem_of_getElem? (i := 48) rfl)) (by decide) (rm9 l Z a0 hw [] a1 cz h0 n0 Z0 O0 SC hcz FC_a1) e0 (b := a1) E_a1 0 (by decide) (by decide) (by decide) (by decide) (g := (mkF m 1 #[.val (.ref a1), .val (.int p2), .val (.int (0 : Int32))] [(.ref a1)])) rfl (by rw [hml]; rfl) [] [] pd_3 rfl rfl rfl (by show 2 * 0 + _ ≤ _; exact Nat.le_of_eq rfl) (hb hby d8_1) ?_
  rintro v1 T1 L1 X1 ⟨rfl, Nq1, e1⟩
  have N1 := Fr.app N0 Nq1
  show own_Go _ _ _ _ T1 (mkF m 4 #[.val (.ref a1), .val (.int p2), .val (.int (0 : Int32))] [(.int (1 : Int32))])
  refine own_step (fun _ k => XS.ifNo X1.here hx rfl (hb hby d8_4) rfl ((if0 _ _).trans (feq (by decide : ¬ ((1 : Int32) = (0 : Int32)))).1) k) ?_
  show own_Go _ _ _ _ T1 (mkF m 7 #[.val (.ref a1), .val (.int p2), .val (.int (0 : Int32))] [])
  refine own_step (fun _ k => XS.aloadN X1.here hx rfl (hb hby d8_7) rfl rfl k) ?_
  show own_Go _ _ _ _ T1 (mkF m 8 #[.val (.ref a1), .val (.int p2), .val (.int (0 : Int32))] [(.ref a1)])
  obtain ⟨T2, X2, e2, st2⟩ := getF X1 hx hZ hown (host := "") (Or.inl (hw _ (List.mem_of_getElem? (i := 28) rfl))) Via.refl e1 FV_a1 (g := (mkF m 8 #[.val (.ref a1), .val (.int p2), .val (.int (0 : Int32))] [(.ref a1)])) rfl rfl (hb hby d8_8)
  refine own_step st2 ?_
  show own_Go _ _ _ _ T2 (mkF m 11 #[.val (.ref a1), .val (.int p2), .val (.int (0 : Int32))] [(.ref b)])
  refine own_step (fun _ k => XS.iloadN X2.here hx rfl (hb hby d8_11) rfl k) ?_
  show own_Go _ _ _ _ T2 (mkF m 12 #[.val (.ref a1), .val (.int p2), .val (.int (0 : Int32))] [(.int p2), (.ref b)])
  refine own_step (fun _ k => XS.iloadN X2.here hx rfl (hb hby d8_12) rfl k) ?_
  show own_Go _ _ _ _ T2 (mkF m 13 #[.val (.ref a1), .val (.int p2), .val (.int (0 : Int32))] [(.int (0 : Int32)), (.int p2), (.ref b)])
  refine own_step (fun _ k => XS.aloadN X2.here hx rfl (hb hby d8_13) rfl rfl k) ?_
  show own_Go _ _ _ _ T2 (mkF m 14 #[.val (.ref a1), .val (.int p2), .val (.int (0 : Int32))] [(.ref a1), (.int (0 : Int32)), (.int p2), (.ref b)])
  refine own_callV X2 hx hZ (y := (⟨"java/lang/String", "length", "()I"⟩ : MethodName)) (z := (⟨"java/lang/String", "length", "()I"⟩ : MethodName)) hown (hw _ (List.mem_of_getElem? (i := 50) rfl)) (hw _ (List.mem_of_getElem? (i := 51) rfl)) (hw _ (List.mem_of_getElem? (i := 53) rfl)) (hw _ (List.mem_of_getElem? (i := 53) rfl)) (hw _ (List.mem_of_getElem? (i := 52) rfl)) (hw _ (List.mem_of_getElem? (i := 11) rfl)) (hw _ (List.mem_of_getElem? (i := 54) rfl)) (by decide) (rm10 l Z a0 hw [] a1 cz b kb z _ h0 n0 Z0 O0 SC hcz E_a1 FC_a1 FV_a1 VB) e2 (b := a1) E_a1 3 (by decide) (by decide) (by decide) (by decide) (g := (mkF m 14 #[.val (.ref a1), .val (.int p2), .val (.int (0 : Int32))] [(.ref a1), (.int (0 : Int32)), (.int p2), (.ref b)])) rfl (by rw [hml]; rfl) [] [(.int (0 : Int32)), (.int p2), (.ref b)] pd_12 rfl rfl rfl (by show 2 * 0 + _ ≤ _; exact Nat.le_of_eq rfl) (hb hby d8_14) ?_
  rintro v3 T3 L3 X3 ⟨rfl, Nq3, e3⟩
  have N3 := Fr.app N1 Nq3
  show own_Go _ _ _ _ T3 (mkF m 17 #[.val (.ref a1), .val (.int p2), .val (.int (0 : Int32))] [(.int z), (.int (0 : Int32)), (.int p2), (.ref b)])
  refine own_callS X3 hx hZ (y := (⟨"java/lang/StringLatin1", "indexOf", "([BIII)I"⟩ : MethodName)) hown (hw _ (List.mem_of_getElem? (i := 60) rfl)) (hw _ (List.mem_of_getElem? (i := 61) rfl)) (hw _ (List.mem_of_getElem? (i := 62) rfl)) (hw _ (List.mem_of_getElem? (i := 63) rfl)) (by decide) (rm12 l Z a0 hw [] b p2 (0 : Int32) z kb z ys h0 n0 Z0 VB hl hcap hce rfl rfl) e3 0 (by decide) (by decide) (by decide) (by decide) (g := (mkF m 17 #[.val (.ref a1), .val (.int p2), .val (.int (0 : Int32))] [(.int z), (.int (0 : Int32)), (.int p2), (.ref b)])) rfl (by rw [hml]; rfl) [(.ref b), (.int p2), (.int (0 : Int32)), (.int z)] [] pd_11 rfl rfl rfl (by show 2 * 0 + _ ≤ _; exact Nat.le_of_eq rfl) (hb hby d8_17) ?_
  rintro v4 T4 L4 X4 ⟨rfl, Nq4, e4⟩
  have N4 := Fr.app N3 Nq4
  show own_Go _ _ _ _ T4 (mkF m 20 #[.val (.ref a1), .val (.int p2), .val (.int (0 : Int32))] [(.int (own_ixr (own_tab (p2.toInt8.toInt32) ys) ys.length))])
  refine own_step (fun _ k => XS.goto X4.here hx rfl (pc0 := 20) (pc' := 36) rfl (hb hby d8_20) (by decide) (by decide) k) ?_
  show own_Go _ _ _ _ T4 (mkF m 36 #[.val (.ref a1), .val (.int p2), .val (.int (0 : Int32))] [(.int (own_ixr (own_tab (p2.toInt8.toInt32) ys) ys.length))])
  exact own_retI X4 hx hret hlk (hb hby d8_36) (own_N ⟨rfl, N4, e4⟩ (by decide) (by decide)) 
theorem d7_0 : decode jdk_42_method_79_code 0 = .ok (.aload_n 0, 1) := by decide +kernel
theorem d7_1 : decode jdk_42_method_79_code 1 = .ok (.iload_n 1, 1) := by decide +kernel
theorem d7_2 : decode jdk_42_method_79_code 2 = .ok (.iconst 0, 1) := by decide +kernel
theorem d7_3 : decode jdk_42_method_79_code 3 = .ok (.invokevirtual 633, 3) := by decide +kernel
theorem d7_6 : decode jdk_42_method_79_code 6 = .ok (.ireturn, 1) := by decide +kernel
theorem ef_7 (a1 : Addr) (p2 : Int32) (m : MethodId) : entryFrame m #[(.ref a1), (.int p2)] 2 = mkF m 0 #[.val (.ref a1), .val (.int p2)] [] := by first | (simp [entryFrame, mkF, argsToLocals, Value.category]; done) | rfl
set_option maxRecDepth 65536 in
set_option maxHeartbeats 40000000 in
theorem rm7 (l : Launch) (Z : State) (a0 : Array Value) (hw : ∀ d ∈ tables_1, d.before a0 Z = true) (ws : List Jvm.Cond) (a1 : Addr) (p2 : Int32) (cz : Int32) (b : Addr) (kb : ClassId) (z : Int32) (ys : List Int32) (h0 : Heap) (n0 : Nat) (Z0 : n0 ≤ h0.size) (O0 : Old Z n0 h0) (SC : Sta Z Z.heap "java/lang/String" "COMPACT_STRINGS" "Z" (.int cz)) (hcz : ¬ cz = (0 : Int32)) (E_a1 : Exa Z h0 a1 "java/lang/String") (FC_a1 : Fld Z h0 a1 "java/lang/String" "coder" "B" (.int (0 : Int32))) (FV_a1 : Fld Z h0 a1 "java/lang/String" "value" "[B" (.ref b)) (VB : Arv Z h0 b kb .byte z (ys.map Value.int) (.int (0 : Int32))) (hl : z.toInt = (ys.length : Nat)) (hcap : ys.length ≤ 8) (hce : ¬ own_ce p2 = (0 : Int32)) :
    own_Met l (⟨"java/lang/String", "indexOf", "(I)I"⟩ : MethodName) jdk_42_method_79_code 2 (some .int) ws ({ frames := 3, cells := 0, slots := 0, locals := 46 } : Room) #[(.ref a1), (.int p2)] Z h0 (fun v h L => v = some (.int (own_ixr (own_tab (p2.toInt8.toInt32) ys) ys.length)) ∧ Fr n0 L ∧ h = h0) := by
  refine own_body (plainFor_of_name pn_0) (ef_7 a1 p2) ?_
  intro p e s m below meth c T0 X0 hx hby hml0 hret hlk hnm hown hZ e0
  have hml : c.maxLocals = 2 := hml0
  have N0 := Fr.nil n0
  refine own_step (fun _ k => XS.aloadN X0.here hx rfl (hb hby d7_0) rfl rfl k) ?_
  show own_Go _ _ _ _ T0 (mkF m 1 #[.val (.ref a1), .val (.int p2)] [(.ref a1)])
  refine own_step (fun _ k => XS.iloadN X0.here hx rfl (hb hby d7_1) rfl k) ?_
  show own_Go _ _ _ _ T0 (mkF m 2 #[.val (.ref a1), .val (.int p2)] [(.int p2), (.ref a1)])
  refine own_step (fun _ k => XS.iconst X0.here hx rfl (hb hby d7_2) k) ?_
  show own_Go _ _ _ _ T0 (mkF m 3 #[.val (.ref a1), .val (.int p2)] [(.int (0 : Int32)), (.int p2), (.ref a1)])
  refine own_callV X0 hx hZ (y := (⟨"java/lang/String", "indexOf", "(II)I"⟩ : MethodName)) (z := (⟨"java/lang/String", "indexOf", "(II)I"⟩ : MethodName)) hown (hw _ (List.mem_of_getElem? (i := 39) rfl)) (hw _ (List.mem_of_getElem? (i := 40) rfl)) (hw _ (List.mem_of_getElem? (i := 42) rfl)) (hw _ (List.mem_of_getElem? (i := 42) rfl)) (hw _ (List.mem_of_getElem? (i := 41) rfl)) (hw _ (List.mem_of_getElem? (i := 11) rfl)) (hw _ (List.mem_of_getElem? (i := 43) rfl)) (by decide) (rm8 l Z a0 hw [] a1 p2 (0 : Int32) cz b kb z ys h0 n0 Z0 O0 SC hcz E_a1 FC_a1 FV_a1 VB hl hcap hce rfl) e0 (b := a1) E_a1 0 (by decide) (by decide) (by decide) (by decide) (g := (mkF m 3 #[.val (.ref a1), .val (.int p2)] [(.int (0 : Int32)), (.int p2), (.ref a1)])) rfl (by rw [hml]; rfl) [(.int p2), (.int (0 : Int32))] [] pd_10 rfl rfl rfl (by show 2 * 0 + _ ≤ _; exact Nat.le_of_eq rfl) (hb hby d7_3) ?_
  rintro v1 T1 L1 X1 ⟨rfl, Nq1, e1⟩
  have N1 := Fr.app N0 Nq1
  show own_Go _ _ _ _ T1 (mkF m 6 #[.val (.ref a1), .val (.int p2)] [(.int (own_ixr (own_tab (p2.toInt8.toInt32) ys) ys.length))])
  exact own_retI X1 hx hret hlk (hb hby d7_6) (own_N ⟨rfl, N1, e1⟩ (by decide) (by decide)) 
theorem d28_0 : decode jdk_41_method_12_code 0 = .ok (.iload_n 0, 1) := by decide +kernel
theorem d28_1 : decode jdk_41_method_12_code 1 = .ok (.ifCond .lt 13, 3) := by decide +kernel
theorem d28_4 : decode jdk_41_method_12_code 4 = .ok (.iload_n 0, 1) := by decide +kernel
theorem d28_5 : decode jdk_41_method_12_code 5 = .ok (.iload_n 1, 1) := by decide +kernel
theorem d28_6 : decode jdk_41_method_12_code 6 = .ok (.if_icmp .gt 8, 3) := by decide +kernel
theorem d28_9 : decode jdk_41_method_12_code 9 = .ok (.iload_n 1, 1) := by decide +kernel
theorem d28_10 : decode jdk_41_method_12_code 10 = .ok (.iload_n 2, 1) := by decide +kernel
theorem d28_11 : decode jdk_41_method_12_code 11 = .ok (.if_icmp .le 11, 3) := by decide +kernel
theorem d28_14 : decode jdk_41_method_12_code 14 = .ok (.aload_n 3, 1) := by decide +kernel
theorem d28_15 : decode jdk_41_method_12_code 15 = .ok (.iload_n 0, 1) := by decide +kernel
theorem d28_16 : decode jdk_41_method_12_code 16 = .ok (.iload_n 1, 1) := by decide +kernel
theorem d28_17 : decode jdk_41_method_12_code 17 = .ok (.iload_n 2, 1) := by decide +kernel
theorem d28_18 : decode jdk_41_method_12_code 18 = .ok (.invokestatic 99, 3) := by decide +kernel
theorem d28_21 : decode jdk_41_method_12_code 21 = .ok (.athrow, 1) := by decide +kernel
theorem d28_22 : decode jdk_41_method_12_code 22 = .ok (.iload_n 0, 1) := by decide +kernel
theorem d28_23 : decode jdk_41_method_12_code 23 = .ok (.ireturn, 1) := by decide +kernel
theorem ef_28 (p1 p2 p3 : Int32) (fv : Value) (hfv : fv.isRef = true) (m : MethodId) : entryFrame m #[(.int p1), (.int p2), (.int p3), fv] 4 = mkF m 0 #[.val (.int p1), .val (.int p2), .val (.int p3), .val fv] [] := by
  rcases ref_cases hfv with rfl | ⟨a, rfl⟩ <;> first | (simp [entryFrame, mkF, argsToLocals, Value.category]; done) | rfl
set_option maxRecDepth 65536 in
set_option maxHeartbeats 40000000 in
theorem rm28 (l : Launch) (Z : State) (a0 : Array Value) (hw : ∀ d ∈ tables_1, d.before a0 Z = true) (ws : List Jvm.Cond) (p1 p2 p3 : Int32) (fv : Value) (h0 : Heap) (n0 : Nat) (Z0 : n0 ≤ h0.size) (hfv : fv.isRef = true) (h1 : ¬ p1 < (0 : Int32)) (h2 : ¬ p2 < p1) (h3 : ¬ p3 < p2) :
    own_Met l (⟨"jdk/internal/util/Preconditions", "checkFromToIndex", "(IIILjava/util/function/BiFunction;)I"⟩ : MethodName) jdk_41_method_12_code 4 (some .int) ws ({ frames := 0, cells := 0, slots := 0, locals := 0 } : Room) #[(.int p1), (.int p2), (.int p3), fv] Z h0 (fun v h L => v = some (.int p1) ∧ Fr n0 L ∧ h = h0) := by
  refine own_body (plainFor_of_name pn_1) (ef_28 p1 p2 p3 fv hfv) ?_
  intro p e s m below meth c T0 X0 hx hby hml0 hret hlk hnm hown hZ e0
  have hml : c.maxLocals = 4 := hml0
  have N0 := Fr.nil n0
  refine own_step (fun _ k => XS.iloadN X0.here hx rfl (hb hby d28_0) rfl k) ?_
  show own_Go _ _ _ _ T0 (mkF m 1 #[.val (.int p1), .val (.int p2), .val (.int p3), .val fv] [(.int p1)])
  refine own_step (fun _ k => XS.ifNo X0.here hx rfl (hb hby d28_1) rfl ((if0 _ _).trans (flt h1).1) k) ?_
  show own_Go _ _ _ _ T0 (mkF m 4 #[.val (.int p1), .val (.int p2), .val (.int p3), .val fv] [])
  refine own_step (fun _ k => XS.iloadN X0.here hx rfl (hb hby d28_4) rfl k) ?_
  show own_Go _ _ _ _ T0 (mkF m 5 #[.val (.int p1), .val (.int p2), .val (.int p3), .val fv] [(.int p1)])
  refine own_step (fun _ k => XS.iloadN X0.here hx rfl (hb hby d28_5) rfl k) ?_
  show own_Go _ _ _ _ T0 (mkF m 6 #[.val (.int p1), .val (.int p2), .val (.int p3), .val fv] [(.int p2), (.int p1)])
  refine own_step (fun _ k => XS.icmpNo X0.here hx rfl (hb hby d28_6) rfl (flt h2).2.2.1 k) ?_
  show own_Go _ _ _ _ T0 (mkF m 9 #[.val (.int p1), .val (.int p2), .val (.int p3), .val fv] [])
  refine own_step (fun _ k => XS.iloadN X0.here hx rfl (hb hby d28_9) rfl k) ?_
  show own_Go _ _ _ _ T0 (mkF m 10 #[.val (.int p1), .val (.int p2), .val (.int p3), .val fv] [(.int p2)])
  refine own_step (fun _ k => XS.iloadN X0.here hx rfl (hb hby d28_10) rfl k) ?_
  show own_Go _ _ _ _ T0 (mkF m 11 #[.val (.int p1), .val (.int p2), .val (.int p3), .val fv] [(.int p3), (.int p2)])
  refine own_step (fun _ k => XS.icmpYes X0.here hx rfl (pc0 := 11) (pc' := 22) rfl (hb hby d28_11) rfl (flt h3).2.2.2 (by decide) (by decide) k) ?_
  show own_Go _ _ _ _ T0 (mkF m 22 #[.val (.int p1), .val (.int p2), .val (.int p3), .val fv] [])
  refine own_step (fun _ k => XS.iloadN X0.here hx rfl (hb hby d28_22) rfl k) ?_
  show own_Go _ _ _ _ T0 (mkF m 23 #[.val (.int p1), .val (.int p2), .val (.int p3), .val fv] [(.int p1)])
  exact own_retI X0 hx hret hlk (hb hby d28_23) (own_N ⟨rfl, N0, e0⟩ (by decide) (by decide)) 
theorem d27_0 : decode jdk_42_method_158_code 0 = .ok (.iload_n 0, 1) := by decide +kernel
theorem d27_1 : decode jdk_42_method_158_code 1 = .ok (.iload_n 1, 1) := by decide +kernel
theorem d27_2 : decode jdk_42_method_158_code 2 = .ok (.iload_n 2, 1) := by decide +kernel
theorem d27_3 : decode jdk_42_method_158_code 3 = .ok (.getstatic 1053, 3) := by decide +kernel
theorem d27_6 : decode jdk_42_method_158_code 6 = .ok (.invokestatic 1062, 3) := by decide +kernel
theorem d27_9 : decode jdk_42_method_158_code 9 = .ok (.pop, 1) := by decide +kernel
theorem d27_10 : decode jdk_42_method_158_code 10 = .ok (.return_, 1) := by decide +kernel
theorem ef_27 (p1 : Int32) (p2 : Int32) (p3 : Int32) (m : MethodId) : entryFrame m #[(.int p1), (.int p2), (.int p3)] 3 = mkF m 0 #[.val (.int p1), .val (.int p2), .val (.int p3)] [] := by first | (simp [entryFrame, mkF, argsToLocals, Value.category]; done) | rfl
theorem pd_13 : parseMethodDescriptor "(IIILjava/util/function/BiFunction;)I" = some ⟨[.int, .int, .int, (.object "java/util/function/BiFunction")], some .int⟩ := by decide +kernel
set_option maxRecDepth 65536 in
set_option maxHeartbeats 40000000 in
theorem rm27 (l : Launch) (Z : State) (a0 : Array Value) (hw : ∀ d ∈ tables_1, d.before a0 Z = true) (ws : List Jvm.Cond) (p1 : Int32) (p2 : Int32) (p3 : Int32) (fv : Value) (h0 : Heap) (n0 : Nat) (Z0 : n0 ≤ h0.size) (O0 : Old Z n0 h0) (SF : Sta Z Z.heap "jdk/internal/util/Preconditions" "SIOOBE_FORMATTER" "Ljava/util/function/BiFunction;" fv) (hfv : fv.isRef = true) (h1 : ¬ p1 < (0 : Int32)) (h2 : ¬ p2 < p1) (h3 : ¬ p3 < p2) :
    own_Met l (⟨"java/lang/String", "checkBoundsBeginEnd", "(III)V"⟩ : MethodName) jdk_42_method_158_code 3 none ws ({ frames := 1, cells := 0, slots := 0, locals := 15 } : Room) #[(.int p1), (.int p2), (.int p3)] Z h0 (fun v h L => v = none ∧ Fr n0 L ∧ h = h0) := by
  refine own_body (plainFor_of_name pn_0) (ef_27 p1 p2 p3) ?_
  intro p e s m below meth c T0 X0 hx hby hml0 hret hlk hnm hown hZ e0
  have hml : c.maxLocals = 3 := hml0
  have N0 := Fr.nil n0
  refine own_step (fun _ k => XS.iloadN X0.here hx rfl (hb hby d27_0) rfl k) ?_
  show own_Go _ _ _ _ T0 (mkF m 1 #[.val (.int p1), .val (.int p2), .val (.int p3)] [(.int p1)])
  refine own_step (fun _ k => XS.iloadN X0.here hx rfl (hb hby d27_1) rfl k) ?_
  show own_Go _ _ _ _ T0 (mkF m 2 #[.val (.int p1), .val (.int p2), .val (.int p3)] [(.int p2), (.int p1)])
  refine own_step (fun _ k => XS.iloadN X0.here hx rfl (hb hby d27_2) rfl k) ?_
  show own_Go _ _ _ _ T0 (mkF m 3 #[.val (.int p1), .val (.int p2), .val (.int p3)] [(.int p3), (.int p2), (.int p1)])
  obtain ⟨T1, X1, e1, st1⟩ := getS2 X0 hx hZ hown (host := "") (Or.inl (hw _ (List.mem_of_getElem? (i := 105) rfl))) Via.refl e0 (SF.ext O0.2) (g := (mkF m 3 #[.val (.int p1), .val (.int p2), .val (.int p3)] [(.int p3), (.int p2), (.int p1)])) rfl (hb hby d27_3)
  refine own_step st1 ?_
  show own_Go _ _ _ _ T1 (mkF m 6 #[.val (.int p1), .val (.int p2), .val (.int p3)] [fv, (.int p3), (.int p2), (.int p1)])
  refine own_callS X1 hx hZ (y := (⟨"jdk/internal/util/Preconditions", "checkFromToIndex", "(IIILjava/util/function/BiFunction;)I"⟩ : MethodName)) hown (hw _ (List.mem_of_getElem? (i := 118) rfl)) (hw _ (List.mem_of_getElem? (i := 119) rfl)) (hw _ (List.mem_of_getElem? (i := 106) rfl)) (hw _ (List.mem_of_getElem? (i := 120) rfl)) (by decide) (rm28 l Z a0 hw [] p1 p2 p3 fv  h0 n0 Z0 hfv h1 h2 h3) e1 0 (by decide) (by decide) (by decide) (by decide) (g := (mkF m 6 #[.val (.int p1), .val (.int p2), .val (.int p3)] [fv, (.int p3), (.int p2), (.int p1)])) rfl (by rw [hml]; rfl) [(.int p1), (.int p2), (.int p3), fv] [] pd_13 rfl rfl rfl (by show 2 * 0 + _ ≤ _; exact Nat.le_of_eq rfl) (hb hby d27_6) ?_
  rintro v2 T2 L2 X2 ⟨rfl, Nq2, e2⟩
  have N2 := Fr.app N0 Nq2
  show own_Go _ _ _ _ T2 (mkF m 9 #[.val (.int p1), .val (.int p2), .val (.int p3)] [(.int p1)])
  refine own_step (fun _ k => XS.pop X2.here hx rfl (hb hby d27_9) rfl rfl k) ?_
  show own_Go _ _ _ _ T2 (mkF m 10 #[.val (.int p1), .val (.int p2), .val (.int p3)] [])
  exact own_retV X2 hx hret hlk (hb hby d27_10) (own_N ⟨rfl, N2, e2⟩ (by decide) (by decide)) 
theorem d32_0 : decode jdk_65_method_131_code 0 = .ok (.iload_n 1, 1) := by decide +kernel
theorem d32_1 : decode jdk_65_method_131_code 1 = .ok (.iload_n 0, 1) := by decide +kernel
theorem d32_2 : decode jdk_65_method_131_code 2 = .ok (.if_icmp .ge 35, 3) := by decide +kernel
theorem d32_5 : decode jdk_65_method_131_code 5 = .ok (.new 43, 3) := by decide +kernel
theorem d32_8 : decode jdk_65_method_131_code 8 = .ok (.dup, 1) := by decide +kernel
theorem d32_9 : decode jdk_65_method_131_code 9 = .ok (.new 45, 3) := by decide +kernel
theorem d32_12 : decode jdk_65_method_131_code 12 = .ok (.dup, 1) := by decide +kernel
theorem d32_13 : decode jdk_65_method_131_code 13 = .ok (.invokespecial 47, 3) := by decide +kernel
theorem d32_16 : decode jdk_65_method_131_code 16 = .ok (.iload_n 0, 1) := by decide +kernel
theorem d32_17 : decode jdk_65_method_131_code 17 = .ok (.invokevirtual 54, 3) := by decide +kernel
theorem d32_20 : decode jdk_65_method_131_code 20 = .ok (.ldc_w 337, 3) := by decide +kernel
theorem d32_23 : decode jdk_65_method_131_code 23 = .ok (.invokevirtual 50, 3) := by decide +kernel
theorem d32_26 : decode jdk_65_method_131_code 26 = .ok (.iload_n 1, 1) := by decide +kernel
theorem d32_27 : decode jdk_65_method_131_code 27 = .ok (.invokevirtual 54, 3) := by decide +kernel
theorem d32_30 : decode jdk_65_method_131_code 30 = .ok (.invokevirtual 61, 3) := by decide +kernel
theorem d32_33 : decode jdk_65_method_131_code 33 = .ok (.invokespecial 65, 3) := by decide +kernel
theorem d32_36 : decode jdk_65_method_131_code 36 = .ok (.athrow, 1) := by decide +kernel
theorem d32_37 : decode jdk_65_method_131_code 37 = .ok (.return_, 1) := by decide +kernel
theorem ef_32 (p1 : Int32) (p2 : Int32) (m : MethodId) : entryFrame m #[(.int p1), (.int p2)] 2 = mkF m 0 #[.val (.int p1), .val (.int p2)] [] := by first | (simp [entryFrame, mkF, argsToLocals, Value.category]; done) | rfl
theorem pn_5 : plainName "java/util/Arrays" = true := by first | (simp [plainName, overriddenIn]; done) | decide +kernel
set_option maxRecDepth 65536 in
set_option maxHeartbeats 40000000 in
theorem rm32 (l : Launch) (Z : State) (a0 : Array Value) (hw : ∀ d ∈ tables_1, d.before a0 Z = true) (ws : List Jvm.Cond) (p1 : Int32) (p2 : Int32) (h0 : Heap) (n0 : Nat) (Z0 : n0 ≤ h0.size) (h1 : ¬ p2 < p1) :
    own_Met l (⟨"java/util/Arrays", "checkLength", "(II)V"⟩ : MethodName) jdk_65_method_131_code 2 none ws ({ frames := 0, cells := 0, slots := 0, locals := 0 } : Room) #[(.int p1), (.int p2)] Z h0 (fun v h L => v = none ∧ Fr n0 L ∧ h = h0) := by
  refine own_body (plainFor_of_name pn_5) (ef_32 p1 p2) ?_
  intro p e s m below meth c T0 X0 hx hby hml0 hret hlk hnm hown hZ e0
  have hml : c.maxLocals = 2 := hml0
  have N0 := Fr.nil n0
  refine own_step (fun _ k => XS.iloadN X0.here hx rfl (hb hby d32_0) rfl k) ?_
  show own_Go _ _ _ _ T0 (mkF m 1 #[.val (.int p1), .val (.int p2)] [(.int p2)])
  refine own_step (fun _ k => XS.iloadN X0.here hx rfl (hb hby d32_1) rfl k) ?_
  show own_Go _ _ _ _ T0 (mkF m 2 #[.val (.int p1), .val (.int p2)] [(.int p1), (.int p2)])
  refine own_step (fun _ k => XS.icmpYes X0.here hx rfl (pc0 := 2) (pc' := 37) rfl (hb hby d32_2) rfl (flt h1).2.1 (by decide) (by decide) k) ?_
  show own_Go _ _ _ _ T0 (mkF m 37 #[.val (.int p1), .val (.int p2)] [])
  exact own_retV X0 hx hret hlk (hb hby d32_37) (own_N ⟨rfl, N0, e0⟩ (by decide) (by decide)) 
theorem d31_0 : decode jdk_65_method_133_code 0 = .ok (.iload_n 1, 1) := by decide +kernel
theorem d31_1 : decode jdk_65_method_133_code 1 = .ok (.iload_n 2, 1) := by decide +kernel
theorem d31_2 : decode jdk_65_method_133_code 2 = .ok (.invokestatic 343, 3) := by decide +kernel
theorem d31_5 : decode jdk_65_method_133_code 5 = .ok (.iload_n 2, 1) := by decide +kernel
theorem d31_6 : decode jdk_65_method_133_code 6 = .ok (.iload_n 1, 1) := by decide +kernel
theorem d31_7 : decode jdk_65_method_133_code 7 = .ok (.isub, 1) := by decide +kernel
theorem d31_8 : decode jdk_65_method_133_code 8 = .ok (.istore_n 3, 1) := by decide +kernel
theorem d31_9 : decode jdk_65_method_133_code 9 = .ok (.iload_n 3, 1) := by decide +kernel
theorem d31_10 : decode jdk_65_method_133_code 10 = .ok (.newarray .byte, 2) := by decide +kernel
theorem d31_12 : decode jdk_65_method_133_code 12 = .ok (.astore 4, 2) := by decide +kernel
theorem d31_14 : decode jdk_65_method_133_code 14 = .ok (.aload_n 0, 1) := by decide +kernel
theorem d31_15 : decode jdk_65_method_133_code 15 = .ok (.iload_n 1, 1) := by decide +kernel
theorem d31_16 : decode jdk_65_method_133_code 16 = .ok (.aload 4, 2) := by decide +kernel
theorem d31_18 : decode jdk_65_method_133_code 18 = .ok (.iconst 0, 1) := by decide +kernel
theorem d31_19 : decode jdk_65_method_133_code 19 = .ok (.aload_n 0, 1) := by decide +kernel
theorem d31_20 : decode jdk_65_method_133_code 20 = .ok (.arraylength, 1) := by decide +kernel
theorem d31_21 : decode jdk_65_method_133_code 21 = .ok (.iload_n 1, 1) := by decide +kernel
theorem d31_22 : decode jdk_65_method_133_code 22 = .ok (.isub, 1) := by decide +kernel
theorem d31_23 : decode jdk_65_method_133_code 23 = .ok (.iload_n 3, 1) := by decide +kernel
theorem d31_24 : decode jdk_65_method_133_code 24 = .ok (.invokestatic 304, 3) := by decide +kernel
theorem d31_27 : decode jdk_65_method_133_code 27 = .ok (.invokestatic 150, 3) := by decide +kernel
theorem d31_30 : decode jdk_65_method_133_code 30 = .ok (.aload 4, 2) := by decide +kernel
theorem d31_32 : decode jdk_65_method_133_code 32 = .ok (.areturn, 1) := by decide +kernel
theorem ef_31 (a1 : Addr) (p2 : Int32) (p3 : Int32) (m : MethodId) : entryFrame m #[(.ref a1), (.int p2), (.int p3)] 5 = mkF m 0 #[.val (.ref a1), .val (.int p2), .val (.int p3), .unset, .unset] [] := by first | (simp [entryFrame, mkF, argsToLocals, Value.category]; done) | rfl
set_option maxRecDepth 65536 in
set_option maxHeartbeats 40000000 in
theorem rm31 (l : Launch) (Z : State) (a0 : Array Value) (hw : ∀ d ∈ tables_1, d.before a0 Z = true) (ws : List Jvm.Cond) (a1 : Addr) (p2 : Int32) (p3 : Int32) (kb : ClassId) (z : Int32) (ys : List Int32) (h0 : Heap) (n0 : Nat) (Z0 : n0 ≤ h0.size) (VB : Arv Z h0 a1 kb .byte z (ys.map Value.int) (.int (0 : Int32))) (hl : z.toInt = (ys.length : Nat)) (hcap : ys.length ≤ 8) (hp2 : p2 = (0 : Int32)) (t : Nat) (ht : p3.toInt = (t : Nat)) (htl : t < ys.length) :
    own_Met l (⟨"java/util/Arrays", "copyOfRangeByte", "([BII)[B"⟩ : MethodName) jdk_65_method_133_code 5 (some (.array .byte)) ws ({ frames := 1, cells := 1, slots := 8, locals := 18 } : Room) #[(.ref a1), (.int p2), (.int p3)] Z h0 (fun v h L => ∃ b k, v = some (.ref b) ∧ Fr n0 L ∧ Keep h0 h [] ∧ n0 ≤ b ∧ h0.size ≤ b ∧ Arv Z h b k .byte p3 ((ys.take t).map Value.int) (.int (0 : Int32))) := by
  refine own_body (plainFor_of_name pn_5) (ef_31 a1 p2 p3) ?_
  intro p e s m below meth c T0 X0 hx hby hml0 hret hlk hnm hown hZ e0
  have hml : c.maxLocals = 5 := hml0
  have N0 := Fr.nil n0
  subst hp2
  have hnn : ¬ p3 < (0 : Int32) := own_nn ht
  have htc := own_clamp ht
  have hlc := own_clamp hl
  have hmn : own_min z p3 = p3 := by unfold own_min; rw [if_pos ((own_lt ht hl).mpr htl)]
  refine own_step (fun _ k => XS.iloadN X0.here hx rfl (hb hby d31_0) rfl k) ?_
  show own_Go _ _ _ _ T0 (mkF m 1 #[.val (.ref a1), .val (.int (0 : Int32)), .val (.int p3), .unset, .unset] [(.int (0 : Int32))])
  refine own_step (fun _ k => XS.iloadN X0.here hx rfl (hb hby d31_1) rfl k) ?_
  show own_Go _ _ _ _ T0 (mkF m 2 #[.val (.ref a1), .val (.int (0 : Int32)), .val (.int p3), .unset, .unset] [(.int p3), (.int (0 : Int32))])
  refine own_callS X0 hx hZ (y := (⟨"java/util/Arrays", "checkLength", "(II)V"⟩ : MethodName)) hown (hw _ (List.mem_of_getElem? (i := 133) rfl)) (hw _ (List.mem_of_getElem? (i := 134) rfl)) (hw _ (List.mem_of_getElem? (i := 128) rfl)) (hw _ (List.mem_of_getElem? (i := 135) rfl)) (by decide) (rm32 l Z a0 hw [] (0 : Int32) p3  h0 n0 Z0 hnn) e0 0 (by decide) (by decide) (by decide) (by decide) (g := (mkF m 2 #[.val (.ref a1), .val (.int (0 : Int32)), .val (.int p3), .unset, .unset] [(.int p3), (.int (0 : Int32))])) rfl (by rw [hml]; rfl) [(.int (0 : Int32)), (.int p3)] [] pd_2 rfl rfl rfl (by show 2 * 0 + _ ≤ _; exact Nat.le_of_eq rfl) (hb hby d31_2) ?_
  rintro v1 T1 L1 X1 ⟨rfl, Nq1, e1⟩
  have N1 := Fr.app N0 Nq1
  show own_Go _ _ _ _ T1 (mkF m 5 #[.val (.ref a1), .val (.int (0 : Int32)), .val (.int p3), .unset, .unset] [])
  refine own_step (fun _ k => XS.iloadN X1.here hx rfl (hb hby d31_5) rfl k) ?_
  show own_Go _ _ _ _ T1 (mkF m 6 #[.val (.ref a1), .val (.int (0 : Int32)), .val (.int p3), .unset, .unset] [(.int p3)])
  refine own_step (fun _ k => XS.iloadN X1.here hx rfl (hb hby d31_6) rfl k) ?_
  show own_Go _ _ _ _ T1 (mkF m 7 #[.val (.ref a1), .val (.int (0 : Int32)), .val (.int p3), .unset, .unset] [(.int (0 : Int32)), (.int p3)])
  refine own_step (fun _ k => XS.isub X1.here hx rfl (hb hby d31_7) rfl k) ?_
  show own_Go _ _ _ _ T1 (mkF m 8 #[.val (.ref a1), .val (.int (0 : Int32)), .val (.int p3), .unset, .unset] [(.int (p3 - (0 : Int32)))])
  rw [Int32.sub_zero]
  show own_Go _ _ _ _ T1 (mkF m 8 #[.val (.ref a1), .val (.int (0 : Int32)), .val (.int p3), .unset, .unset] [(.int p3)])
  refine own_step (fun _ k => XS.istoreN X1.here hx rfl (hb hby d31_8) rfl (l' := #[.val (.ref a1), .val (.int (0 : Int32)), .val (.int p3), .val (.int p3), .unset]) rfl k) ?_
  show own_Go _ _ _ _ T1 (mkF m 9 #[.val (.ref a1), .val (.int (0 : Int32)), .val (.int p3), .val (.int p3), .unset] [])
  refine own_step (fun _ k => XS.iloadN X1.here hx rfl (hb hby d31_9) rfl k) ?_
  show own_Go _ _ _ _ T1 (mkF m 10 #[.val (.ref a1), .val (.int (0 : Int32)), .val (.int p3), .val (.int p3), .unset] [(.int p3)])
  obtain ⟨T2, h2, k2, b, g2, X2, e2, E2, V2, st2⟩ := own_newA X1 hx hZ (hw _ (List.mem_of_getElem? (i := 23) rfl)) e1 (g := (mkF m 10 #[.val (.ref a1), .val (.int (0 : Int32)), .val (.int p3), .val (.int p3), .unset] [(.int p3)])) rfl (hb hby d31_10) rfl hnn (cap := 8) (by rw [htc]; omega) (by decide) (by decide) (by decide)
  have ne_a1_b : a1 ≠ b := Nat.ne_of_lt (Nat.lt_of_lt_of_eq VB.lt g2.symm)
  have g_b : n0 ≤ b := Nat.le_trans Z0 (Nat.le_of_eq g2.symm)
  have sz_b : h0.size ≤ b := Nat.le_trans (Keep.refl h0 []).1 (Nat.le_of_eq g2.symm)
  refine own_step st2 ?_
  have Z2 := Nat.le_trans Z0 E2.1
  have KK2 := (Keep.refl h0 []).ext E2
  show own_Go _ _ _ _ T2 (mkF m 12 #[.val (.ref a1), .val (.int (0 : Int32)), .val (.int p3), .val (.int p3), .unset] [(.ref b)])
  refine own_step (fun _ k => XS.astore X2.here hx rfl (hb hby d31_12) rfl rfl (l' := #[.val (.ref a1), .val (.int (0 : Int32)), .val (.int p3), .val (.int p3), .val (.ref b)]) rfl k) ?_
  show own_Go _ _ _ _ T2 (mkF m 14 #[.val (.ref a1), .val (.int (0 : Int32)), .val (.int p3), .val (.int p3), .val (.ref b)] [])
  refine own_step (fun _ k => XS.aloadN X2.here hx rfl (hb hby d31_14) rfl rfl k) ?_
  show own_Go _ _ _ _ T2 (mkF m 15 #[.val (.ref a1), .val (.int (0 : Int32)), .val (.int p3), .val (.int p3), .val (.ref b)] [(.ref a1)])
  refine own_step (fun _ k => XS.iloadN X2.here hx rfl (hb hby d31_15) rfl k) ?_
  show own_Go _ _ _ _ T2 (mkF m 16 #[.val (.ref a1), .val (.int (0 : Int32)), .val (.int p3), .val (.int p3), .val (.ref b)] [(.int (0 : Int32)), (.ref a1)])
  refine own_step (fun _ k => XS.aload X2.here hx rfl (hb hby d31_16) rfl rfl k) ?_
  show own_Go _ _ _ _ T2 (mkF m 18 #[.val (.ref a1), .val (.int (0 : Int32)), .val (.int p3), .val (.int p3), .val (.ref b)] [(.ref b), (.int (0 : Int32)), (.ref a1)])
  refine own_step (fun _ k => XS.iconst X2.here hx rfl (hb hby d31_18) k) ?_
  show own_Go _ _ _ _ T2 (mkF m 19 #[.val (.ref a1), .val (.int (0 : Int32)), .val (.int p3), .val (.int p3), .val (.ref b)] [(.int (0 : Int32)), (.ref b), (.int (0 : Int32)), (.ref a1)])
  refine own_step (fun _ k => XS.aloadN X2.here hx rfl (hb hby d31_19) rfl rfl k) ?_
  show own_Go _ _ _ _ T2 (mkF m 20 #[.val (.ref a1), .val (.int (0 : Int32)), .val (.int p3), .val (.int p3), .val (.ref b)] [(.ref a1), (.int (0 : Int32)), (.ref b), (.int (0 : Int32)), (.ref a1)])
  have Q3 := (VB.ext E2)
  refine own_step (own_len X2 hx hZ e2 Q3 (g := (mkF m 20 #[.val (.ref a1), .val (.int (0 : Int32)), .val (.int p3), .val (.int p3), .val (.ref b)] [(.ref a1), (.int (0 : Int32)), (.ref b), (.int (0 : Int32)), (.ref a1)])) rfl rfl (hb hby d31_20)) ?_
  show own_Go _ _ _ _ T2 (mkF m 21 #[.val (.ref a1), .val (.int (0 : Int32)), .val (.int p3), .val (.int p3), .val (.ref b)] [(.int z), (.int (0 : Int32)), (.ref b), (.int (0 : Int32)), (.ref a1)])
  refine own_step (fun _ k => XS.iloadN X2.here hx rfl (hb hby d31_21) rfl k) ?_
  show own_Go _ _ _ _ T2 (mkF m 22 #[.val (.ref a1), .val (.int (0 : Int32)), .val (.int p3), .val (.int p3), .val (.ref b)] [(.int (0 : Int32)), (.int z), (.int (0 : Int32)), (.ref b), (.int (0 : Int32)), (.ref a1)])
  refine own_step (fun _ k => XS.isub X2.here hx rfl (hb hby d31_22) rfl k) ?_
  show own_Go _ _ _ _ T2 (mkF m 23 #[.val (.ref a1), .val (.int (0 : Int32)), .val (.int p3), .val (.int p3), .val (.ref b)] [(.int (z - (0 : Int32))), (.int (0 : Int32)), (.ref b), (.int (0 : Int32)), (.ref a1)])
  rw [Int32.sub_zero]
  show own_Go _ _ _ _ T2 (mkF m 23 #[.val (.ref a1), .val (.int (0 : Int32)), .val (.int p3), .val (.int p3), .val (.ref b)] [(.int z), (.int (0 : Int32)), (.ref b), (.int (0 : Int32)), (.ref a1)])
  refine own_step (fun _ k => XS.iloadN X2.here hx rfl (hb hby d31_23) rfl k) ?_
  show own_Go _ _ _ _ T2 (mkF m 24 #[.val (.ref a1), .val (.int (0 : Int32)), .val (.int p3), .val (.int p3), .val (.ref b)] [(.int p3), (.int z), (.int (0 : Int32)), (.ref b), (.int (0 : Int32)), (.ref a1)])
  refine own_callS X2 hx hZ (y := (⟨"java/lang/Math", "min", "(II)I"⟩ : MethodName)) hown (hw _ (List.mem_of_getElem? (i := 136) rfl)) (hw _ (List.mem_of_getElem? (i := 72) rfl)) (hw _ (List.mem_of_getElem? (i := 69) rfl)) (hw _ (List.mem_of_getElem? (i := 73) rfl)) (by decide) (rm15 l Z a0 hw [] z p3 h2 n0 Z2) e2 4 (by decide) (by decide) (by decide) (by decide) (g := (mkF m 24 #[.val (.ref a1), .val (.int (0 : Int32)), .val (.int p3), .val (.int p3), .val (.ref b)] [(.int p3), (.int z), (.int (0 : Int32)), (.ref b), (.int (0 : Int32)), (.ref a1)])) rfl (by rw [hml]; rfl) [(.int z), (.int p3)] [(.int (0 : Int32)), (.ref b), (.int (0 : Int32)), (.ref a1)] pd_10 rfl rfl rfl (by show 2 * 0 + _ ≤ _; exact Nat.le_of_eq rfl) (hb hby d31_24) ?_
  rintro v4 T4 L4 X4 ⟨rfl, Nq4, e4⟩
  have N4 := Fr.app N1 Nq4
  show own_Go _ _ _ _ T4 (mkF m 27 #[.val (.ref a1), .val (.int (0 : Int32)), .val (.int p3), .val (.int p3), .val (.ref b)] [(.int (own_min z p3)), (.int (0 : Int32)), (.ref b), (.int (0 : Int32)), (.ref a1)])
  rw [hmn]
  show own_Go _ _ _ _ T4 (mkF m 27 #[.val (.ref a1), .val (.int (0 : Int32)), .val (.int p3), .val (.int p3), .val (.ref b)] [(.int p3), (.int (0 : Int32)), (.ref b), (.int (0 : Int32)), (.ref a1)])
  obtain ⟨T5, h5, L5, X5, e5, N5, K5, V5, st5⟩ := cpA X4 hx hZ hown (hw _ (List.mem_of_getElem? (i := 137) rfl)) (hw _ (List.mem_of_getElem? (i := 140) rfl)) (hw _ (List.mem_of_getElem? (i := 138) rfl)) (hw _ (List.mem_of_getElem? (i := 139) rfl)) e4 Q3 V2 (Or.inl ⟨rfl, rfl⟩) (sp := (0 : Int32)) (dp := (0 : Int32)) (nn := p3) (by decide) (by decide) hnn (by show 0 + p3.toNatClampNeg ≤ _; rw [htc, hlc]; omega) (by show 0 + p3.toNatClampNeg ≤ _; omega) rfl (by show 0 + p3.toNatClampNeg ≤ 8; rw [htc]; omega) N4 g_b (g := (mkF m 27 #[.val (.ref a1), .val (.int (0 : Int32)), .val (.int p3), .val (.int p3), .val (.ref b)] [(.int p3), (.int (0 : Int32)), (.ref b), (.int (0 : Int32)), (.ref a1)])) rfl (by rw [hml]; rfl) rfl (hb hby d31_27) (by decide) (W := 0) (by show 2 * 0 + _ ≤ _; exact Nat.le_of_eq rfl) (by decide)
  refine own_step st5 ?_
  have Z5 := Nat.le_trans Z2 K5.1
  have KK5 := KK2.trans K5 (allS (P := fun x => x ∈ [] ∨ h0.size ≤ x) (Or.inr sz_b) all0)
  show own_Go _ _ _ _ T5 (mkF m 30 #[.val (.ref a1), .val (.int (0 : Int32)), .val (.int p3), .val (.int p3), .val (.ref b)] [])
  have VC : Arv Z h5 b k2 .byte p3 ((ys.take t).map Value.int) (.int (0 : Int32)) := by
    refine Arv.pad V5 (fun i => ?_)
    rw [htc]; exact own_cpy ys t 8 (by omega) i
  refine own_step (fun _ k => XS.aload X5.here hx rfl (hb hby d31_30) rfl rfl k) ?_
  show own_Go _ _ _ _ T5 (mkF m 32 #[.val (.ref a1), .val (.int (0 : Int32)), .val (.int p3), .val (.int p3), .val (.ref b)] [(.ref b)])
  exact own_retA X5 hx hret rfl hlk rfl rfl (hb hby d31_32) (own_N (by rw [e5]; exact ⟨b, _, rfl, N5, KK5, g_b, sz_b, VC⟩) (by decide) (by decide)) 
theorem d30_0 : decode jdk_65_method_132_code 0 = .ok (.iload_n 1, 1) := by decide +kernel
theorem d30_1 : decode jdk_65_method_132_code 1 = .ok (.ifCond .ne 9, 3) := by decide +kernel
theorem d30_4 : decode jdk_65_method_132_code 4 = .ok (.iload_n 2, 1) := by decide +kernel
theorem d30_5 : decode jdk_65_method_132_code 5 = .ok (.aload_n 0, 1) := by decide +kernel
theorem d30_6 : decode jdk_65_method_132_code 6 = .ok (.arraylength, 1) := by decide +kernel
theorem d30_7 : decode jdk_65_method_132_code 7 = .ok (.if_icmp .eq 10, 3) := by decide +kernel
theorem d30_10 : decode jdk_65_method_132_code 10 = .ok (.aload_n 0, 1) := by decide +kernel
theorem d30_11 : decode jdk_65_method_132_code 11 = .ok (.iload_n 1, 1) := by decide +kernel
theorem d30_12 : decode jdk_65_method_132_code 12 = .ok (.iload_n 2, 1) := by decide +kernel
theorem d30_13 : decode jdk_65_method_132_code 13 = .ok (.invokestatic 339, 3) := by decide +kernel
theorem d30_16 : decode jdk_65_method_132_code 16 = .ok (.areturn, 1) := by decide +kernel
theorem d30_17 : decode jdk_65_method_132_code 17 = .ok (.aload_n 0, 1) := by decide +kernel
theorem d30_18 : decode jdk_65_method_132_code 18 = .ok (.invokevirtual 310, 3) := by decide +kernel
theorem d30_21 : decode jdk_65_method_132_code 21 = .ok (.checkcast 311, 3) := by decide +kernel
theorem d30_24 : decode jdk_65_method_132_code 24 = .ok (.areturn, 1) := by decide +kernel
theorem ef_30 (a1 : Addr) (p2 : Int32) (p3 : Int32) (m : MethodId) : entryFrame m #[(.ref a1), (.int p2), (.int p3)] 3 = mkF m 0 #[.val (.ref a1), .val (.int p2), .val (.int p3)] [] := by first | (simp [entryFrame, mkF, argsToLocals, Value.category]; done) | rfl
theorem pd_14 : parseMethodDescriptor "([BII)[B" = some ⟨[(.array .byte), .int, .int], some (.array .byte)⟩ := by decide +kernel
set_option maxRecDepth 65536 in
set_option maxHeartbeats 40000000 in
theorem rm30 (l : Launch) (Z : State) (a0 : Array Value) (hw : ∀ d ∈ tables_1, d.before a0 Z = true) (ws : List Jvm.Cond) (a1 : Addr) (p2 : Int32) (p3 : Int32) (kb : ClassId) (z : Int32) (ys : List Int32) (h0 : Heap) (n0 : Nat) (Z0 : n0 ≤ h0.size) (VB : Arv Z h0 a1 kb .byte z (ys.map Value.int) (.int (0 : Int32))) (hl : z.toInt = (ys.length : Nat)) (hcap : ys.length ≤ 8) (hp2 : p2 = (0 : Int32)) (t : Nat) (ht : p3.toInt = (t : Nat)) (htl : t < ys.length) :
    own_Met l (⟨"java/util/Arrays", "copyOfRange", "([BII)[B"⟩ : MethodName) jdk_65_method_132_code 3 (some (.array .byte)) ws ({ frames := 2, cells := 1, slots := 8, locals := 34 } : Room) #[(.ref a1), (.int p2), (.int p3)] Z h0 (fun v h L => ∃ b k, v = some (.ref b) ∧ Fr n0 L ∧ Keep h0 h [] ∧ n0 ≤ b ∧ h0.size ≤ b ∧ Arv Z h b k .byte p3 ((ys.take t).map Value.int) (.int (0 : Int32))) := by
  refine own_body (plainFor_of_name pn_5) (ef_30 a1 p2 p3) ?_
  intro p e s m below meth c T0 X0 hx hby hml0 hret hlk hnm hown hZ e0
  have hml : c.maxLocals = 3 := hml0
  have N0 := Fr.nil n0
  subst hp2
  refine own_step (fun _ k => XS.iloadN X0.here hx rfl (hb hby d30_0) rfl k) ?_
  show own_Go _ _ _ _ T0 (mkF m 1 #[.val (.ref a1), .val (.int (0 : Int32)), .val (.int p3)] [(.int (0 : Int32))])
  refine own_step (fun _ k => XS.ifNo X0.here hx rfl (hb hby d30_1) rfl ((if0 _ _).trans (teq (by decide : (0 : Int32) = (0 : Int32))).2) k) ?_
  show own_Go _ _ _ _ T0 (mkF m 4 #[.val (.ref a1), .val (.int (0 : Int32)), .val (.int p3)] [])
  refine own_step (fun _ k => XS.iloadN X0.here hx rfl (hb hby d30_4) rfl k) ?_
  show own_Go _ _ _ _ T0 (mkF m 5 #[.val (.ref a1), .val (.int (0 : Int32)), .val (.int p3)] [(.int p3)])
  refine own_step (fun _ k => XS.aloadN X0.here hx rfl (hb hby d30_5) rfl rfl k) ?_
  show own_Go _ _ _ _ T0 (mkF m 6 #[.val (.ref a1), .val (.int (0 : Int32)), .val (.int p3)] [(.ref a1), (.int p3)])
  refine own_step (own_len X0 hx hZ e0 VB (g := (mkF m 6 #[.val (.ref a1), .val (.int (0 : Int32)), .val (.int p3)] [(.ref a1), (.int p3)])) rfl rfl (hb hby d30_6)) ?_
  show own_Go _ _ _ _ T0 (mkF m 7 #[.val (.ref a1), .val (.int (0 : Int32)), .val (.int p3)] [(.int z), (.int p3)])
  refine own_step (fun _ k => XS.icmpNo X0.here hx rfl (hb hby d30_7) rfl (feq (fun q => by have hlt := (own_lt ht hl).mpr htl; rw [q] at hlt; exact Int32.lt_irrefl hlt)).1 k) ?_
  show own_Go _ _ _ _ T0 (mkF m 10 #[.val (.ref a1), .val (.int (0 : Int32)), .val (.int p3)] [])
  refine own_step (fun _ k => XS.aloadN X0.here hx rfl (hb hby d30_10) rfl rfl k) ?_
  show own_Go _ _ _ _ T0 (mkF m 11 #[.val (.ref a1), .val (.int (0 : Int32)), .val (.int p3)] [(.ref a1)])
  refine own_step (fun _ k => XS.iloadN X0.here hx rfl (hb hby d30_11) rfl k) ?_
  show own_Go _ _ _ _ T0 (mkF m 12 #[.val (.ref a1), .val (.int (0 : Int32)), .val (.int p3)] [(.int (0 : Int32)), (.ref a1)])
  refine own_step (fun _ k => XS.iloadN X0.here hx rfl (hb hby d30_12) rfl k) ?_
  show own_Go _ _ _ _ T0 (mkF m 13 #[.val (.ref a1), .val (.int (0 : Int32)), .val (.int p3)] [(.int p3), (.int (0 : Int32)), (.ref a1)])
  refine own_callS X0 hx hZ (y := (⟨"java/util/Arrays", "copyOfRangeByte", "([BII)[B"⟩ : MethodName)) hown (hw _ (List.mem_of_getElem? (i := 130) rfl)) (hw _ (List.mem_of_getElem? (i := 131) rfl)) (hw _ (List.mem_of_getElem? (i := 128) rfl)) (hw _ (List.mem_of_getElem? (i := 132) rfl)) (by decide) (rm31 l Z a0 hw [] a1 (0 : Int32) p3 kb z ys h0 n0 Z0 VB hl hcap rfl t ht htl) e0 0 (by decide) (by decide) (by decide) (by decide) (g := (mkF m 13 #[.val (.ref a1), .val (.int (0 : Int32)), .val (.int p3)] [(.int p3), (.int (0 : Int32)), (.ref a1)])) rfl (by rw [hml]; rfl) [(.ref a1), (.int (0 : Int32)), (.int p3)] [] pd_14 rfl rfl rfl (by show 2 * 0 + _ ≤ _; exact Nat.le_of_eq rfl) (hb hby d30_13) ?_
  rintro v1 T1 L1 X1 ⟨bc, kc, rfl, Nq1, K1, g_bc, sz_bc, V1⟩
  have N1 := Fr.app N0 Nq1
  show own_Go _ _ _ _ T1 (mkF m 16 #[.val (.ref a1), .val (.int (0 : Int32)), .val (.int p3)] [(.ref bc)])
  have Z1 := Nat.le_trans Z0 K1.1
  have KK1 := (Keep.refl h0 []).trans K1 all0
  exact own_retA X1 hx hret rfl hlk rfl rfl (hb hby d30_16) (own_N (by exact ⟨bc, _, rfl, N1, KK1, g_bc, sz_bc, V1⟩) (by decide) (by decide)) 
theorem d33_0 : decode jdk_42_method_151_code 0 = .ok (.aload_n 0, 1) := by decide +kernel
theorem d33_1 : decode jdk_42_method_151_code 1 = .ok (.invokespecial 1, 3) := by decide +kernel
theorem d33_4 : decode jdk_42_method_151_code 4 = .ok (.aload_n 0, 1) := by decide +kernel
theorem d33_5 : decode jdk_42_method_151_code 5 = .ok (.aload_n 1, 1) := by decide +kernel
theorem d33_6 : decode jdk_42_method_151_code 6 = .ok (.putfield 9, 3) := by decide +kernel
theorem d33_9 : decode jdk_42_method_151_code 9 = .ok (.aload_n 0, 1) := by decide +kernel
theorem d33_10 : decode jdk_42_method_151_code 10 = .ok (.iload_n 2, 1) := by decide +kernel
theorem d33_11 : decode jdk_42_method_151_code 11 = .ok (.putfield 15, 3) := by decide +kernel
theorem d33_14 : decode jdk_42_method_151_code 14 = .ok (.return_, 1) := by decide +kernel
theorem ef_33 (a1 : Addr) (a2 : Addr) (p3 : Int32) (m : MethodId) : entryFrame m #[(.ref a1), (.ref a2), (.int p3)] 3 = mkF m 0 #[.val (.ref a1), .val (.ref a2), .val (.int p3)] [] := by first | (simp [entryFrame, mkF, argsToLocals, Value.category]; done) | rfl
set_option maxRecDepth 65536 in
set_option maxHeartbeats 40000000 in
theorem rm33 (l : Launch) (Z : State) (a0 : Array Value) (hw : ∀ d ∈ tables_1, d.before a0 Z = true) (ws : List Jvm.Cond) (a1 : Addr) (a2 : Addr) (p3 : Int32) (h0 : Heap) (n0 : Nat) (Z0 : n0 ≤ h0.size) (E_a1 : Exa Z h0 a1 "java/lang/String") (FC0 : Fld Z h0 a1 "java/lang/String" "coder" "B" (.int (0 : Int32))) (FV0 : Fld Z h0 a1 "java/lang/String" "value" "[B" .null) (hp3 : p3 = (0 : Int32)) (g_a1 : n0 ≤ a1) :
    own_Met l (⟨"java/lang/String", "<init>", "([BB)V"⟩ : MethodName) jdk_42_method_151_code 3 none ws ({ frames := 1, cells := 0, slots := 0, locals := 12 } : Room) #[(.ref a1), (.ref a2), (.int p3)] Z h0 (fun v h L => v = none ∧ Fr n0 L ∧ Keep h0 h [a1] ∧ Fld Z h a1 "java/lang/String" "coder" "B" (.int (0 : Int32)) ∧ Fld Z h a1 "java/lang/String" "value" "[B" (.ref a2)) := by
  refine own_body (plainFor_of_name pn_0) (ef_33 a1 a2 p3) ?_
  intro p e s m below meth c T0 X0 hx hby hml0 hret hlk hnm hown hZ e0
  have hml : c.maxLocals = 3 := hml0
  have N0 := Fr.nil n0
  subst hp3
  refine own_step (fun _ k => XS.aloadN X0.here hx rfl (hb hby d33_0) rfl rfl k) ?_
  show own_Go _ _ _ _ T0 (mkF m 1 #[.val (.ref a1), .val (.ref a2), .val (.int (0 : Int32))] [(.ref a1)])
  obtain ⟨T1, X1, e1, st1⟩ := initO X0 hx hZ hown (hw _ (List.mem_of_getElem? (i := 19) rfl)) (hw _ (List.mem_of_getElem? (i := 20) rfl)) (hw _ (List.mem_of_getElem? (i := 21) rfl)) e0 (g := (mkF m 1 #[.val (.ref a1), .val (.ref a2), .val (.int (0 : Int32))] [(.ref a1)])) rfl (by rw [hml]; rfl) rfl (hb hby d33_1) (by decide) (W := 0) (by show 2 * 0 + _ ≤ _; exact Nat.le_of_eq rfl) (by decide)
  refine own_step st1 ?_
  show own_Go _ _ _ _ T1 (mkF m 4 #[.val (.ref a1), .val (.ref a2), .val (.int (0 : Int32))] [])
  refine own_step (fun _ k => XS.aloadN X1.here hx rfl (hb hby d33_4) rfl rfl k) ?_
  show own_Go _ _ _ _ T1 (mkF m 5 #[.val (.ref a1), .val (.ref a2), .val (.int (0 : Int32))] [(.ref a1)])
  refine own_step (fun _ k => XS.aloadN X1.here hx rfl (hb hby d33_5) rfl rfl k) ?_
  show own_Go _ _ _ _ T1 (mkF m 6 #[.val (.ref a1), .val (.ref a2), .val (.int (0 : Int32))] [(.ref a2), (.ref a1)])
  obtain ⟨T2, h2, X2, e2, W2, st2⟩ := putF X1 hx hZ hown (host := "") (Or.inl (hw _ (List.mem_of_getElem? (i := 28) rfl))) Via.refl e1 FV0 E_a1 (Or.inr ⟨(hw _ (List.mem_of_getElem? (i := 24) rfl)), rfl, hnm⟩) (hw _ (List.mem_of_getElem? (i := 10) rfl)) (ty := (.array .byte)) (by decide) rfl rfl (g := (mkF m 6 #[.val (.ref a1), .val (.ref a2), .val (.int (0 : Int32))] [(.ref a2), (.ref a1)])) rfl rfl (hb hby d33_6)
  refine own_step st2 ?_
  have N2 := Fr.snoc X2 N0 g_a1
  have F2 := FV0.same W2
  have Z2 := Nat.le_trans Z0 (Keep.of_wr W2).1
  have KK2 := (Keep.refl h0 [a1]).wr W2 (Or.inl (List.mem_of_getElem? (i := 0) rfl))
  show own_Go _ _ _ _ T2 (mkF m 9 #[.val (.ref a1), .val (.ref a2), .val (.int (0 : Int32))] [])
  refine own_step (fun _ k => XS.aloadN X2.here hx rfl (hb hby d33_9) rfl rfl k) ?_
  show own_Go _ _ _ _ T2 (mkF m 10 #[.val (.ref a1), .val (.ref a2), .val (.int (0 : Int32))] [(.ref a1)])
  refine own_step (fun _ k => XS.iloadN X2.here hx rfl (hb hby d33_10) rfl k) ?_
  show own_Go _ _ _ _ T2 (mkF m 11 #[.val (.ref a1), .val (.ref a2), .val (.int (0 : Int32))] [(.int (0 : Int32)), (.ref a1)])
  have Q3 := (FC0.other W2 (Or.inr (slot_ne (Or.inr (hw _ (List.mem_of_getElem? (i := 25) rfl))) (Or.inr (hw _ (List.mem_of_getElem? (i := 24) rfl))) (by decide) (t := .byte) (t' := (.array .byte)) (by decide) (by decide))))
  have Q4 := (E_a1.wr W2)
  obtain ⟨T5, h5, X5, e5, W5, st5⟩ := putFN X2 hx hZ hown (hw _ (List.mem_of_getElem? (i := 29) rfl)) Via.refl e2 Q3 Q4 (Or.inr ⟨(hw _ (List.mem_of_getElem? (i := 25) rfl)), rfl, hnm⟩) (hw _ (List.mem_of_getElem? (i := 10) rfl)) (ty := .byte) (v' := (.int (0 : Int32))) (by decide) rfl (fits_nar_byte (0 : Int32)) (g := (mkF m 11 #[.val (.ref a1), .val (.ref a2), .val (.int (0 : Int32))] [(.int (0 : Int32)), (.ref a1)])) rfl rfl (hb hby d33_11)
  refine own_step st5 ?_
  have N5 := Fr.snoc X5 N2 g_a1
  have F5 := Q3.same W5
  have Z5 := Nat.le_trans Z2 (Keep.of_wr W5).1
  have KK5 := KK2.wr W5 (Or.inl (List.mem_of_getElem? (i := 0) rfl))
  show own_Go _ _ _ _ T5 (mkF m 14 #[.val (.ref a1), .val (.ref a2), .val (.int (0 : Int32))] [])
  have Q6 := (F2.other W5 (Or.inr (slot_ne (Or.inr (hw _ (List.mem_of_getElem? (i := 24) rfl))) (Or.inr (hw _ (List.mem_of_getElem? (i := 25) rfl))) (by decide) (t := (.array .byte)) (t' := .byte) (by decide) (by decide))))
  exact own_retV X5 hx hret hlk (hb hby d33_14) (own_N (by rw [e5]; exact ⟨rfl, N5, KK5, F5, Q6⟩) (by decide) (by decide)) 
theorem d29_0 : decode jdk_43_method_47_code 0 = .ok (.iload_n 2, 1) := by decide +kernel
theorem d29_1 : decode jdk_43_method_47_code 1 = .ok (.ifCond .ne 6, 3) := by decide +kernel
theorem d29_4 : decode jdk_43_method_47_code 4 = .ok (.ldc 151, 2) := by decide +kernel
theorem d29_6 : decode jdk_43_method_47_code 6 = .ok (.areturn, 1) := by decide +kernel
theorem d29_7 : decode jdk_43_method_47_code 7 = .ok (.new 1, 3) := by decide +kernel
theorem d29_10 : decode jdk_43_method_47_code 10 = .ok (.dup, 1) := by decide +kernel
theorem d29_11 : decode jdk_43_method_47_code 11 = .ok (.aload_n 0, 1) := by decide +kernel
theorem d29_12 : decode jdk_43_method_47_code 12 = .ok (.iload_n 1, 1) := by decide +kernel
theorem d29_13 : decode jdk_43_method_47_code 13 = .ok (.iload_n 1, 1) := by decide +kernel
theorem d29_14 : decode jdk_43_method_47_code 14 = .ok (.iload_n 2, 1) := by decide +kernel
theorem d29_15 : decode jdk_43_method_47_code 15 = .ok (.iadd, 1) := by decide +kernel
theorem d29_16 : decode jdk_43_method_47_code 16 = .ok (.invokestatic 232, 3) := by decide +kernel
theorem d29_19 : decode jdk_43_method_47_code 19 = .ok (.iconst 0, 1) := by decide +kernel
theorem d29_20 : decode jdk_43_method_47_code 20 = .ok (.invokespecial 112, 3) := by decide +kernel
theorem d29_23 : decode jdk_43_method_47_code 23 = .ok (.areturn, 1) := by decide +kernel
theorem ef_29 (a1 : Addr) (p2 : Int32) (p3 : Int32) (m : MethodId) : entryFrame m #[(.ref a1), (.int p2), (.int p3)] 3 = mkF m 0 #[.val (.ref a1), .val (.int p2), .val (.int p3)] [] := by first | (simp [entryFrame, mkF, argsToLocals, Value.category]; done) | rfl
theorem pd_15 : parseMethodDescriptor "([BB)V" = some ⟨[(.array .byte), .byte], none⟩ := by decide +kernel
set_option maxRecDepth 65536 in
set_option maxHeartbeats 40000000 in
theorem rm29 (l : Launch) (Z : State) (a0 : Array Value) (hw : ∀ d ∈ tables_1, d.before a0 Z = true) (ws : List Jvm.Cond) (a1 : Addr) (p2 : Int32) (p3 : Int32) (kb : ClassId) (z : Int32) (ys : List Int32) (h0 : Heap) (n0 : Nat) (Z0 : n0 ≤ h0.size) (hEL : EW Z a0 own_EL) (VB : Arv Z h0 a1 kb .byte z (ys.map Value.int) (.int (0 : Int32))) (hl : z.toInt = (ys.length : Nat)) (hcap : ys.length ≤ 8) (hp2 : p2 = (0 : Int32)) (t : Nat) (ht : p3.toInt = (t : Nat)) (htl : t < ys.length) :
    own_MetW l (⟨"java/lang/StringLatin1", "newString", "([BII)Ljava/lang/String;"⟩ : MethodName) jdk_43_method_47_code 3 (some (.object "java/lang/String")) ws ({ frames := 3, cells := 2, slots := 12, locals := 50 } : Room) #[(.ref a1), (.int p2), (.int p3)] Z own_EL h0 (fun v h L => ∃ o b k, v = some (.ref o) ∧ Fr n0 L ∧ Keep h0 h [] ∧ (Exa Z h o "java/lang/String" ∧ Fld Z h o "java/lang/String" "coder" "B" (.int (0 : Int32)) ∧ Fld Z h o "java/lang/String" "value" "[B" (.ref b)) ∧ Arv Z h b k .byte p3 ((ys.take t).map Value.int) (.int (0 : Int32))) := by
  refine own_bodyW (plainFor_of_name pn_2) (ef_29 a1 p2 p3) ?_
  intro p e s m below meth c T0 X0 hx hby hml0 hret hlk hnm hown hZ e0 eS H0 hS0
  have C0 := CHr.refl H0
  have hml : c.maxLocals = 3 := hml0
  have N0 := Fr.nil n0
  subst hp2
  refine own_step (fun _ k => XS.iloadN X0.here hx rfl (hb hby d29_0) rfl k) ?_
  show own_Go _ _ _ _ T0 (mkF m 1 #[.val (.ref a1), .val (.int (0 : Int32)), .val (.int p3)] [(.int p3)])
  by_cases hz0 : p3 = (0 : Int32)
  · refine own_step (fun _ k => XS.ifNo X0.here hx rfl (hb hby d29_1) rfl ((if0 _ _).trans (teq hz0).2) k) ?_
    show own_Go _ _ _ _ T0 (mkF m 4 #[.val (.ref a1), .val (.int (0 : Int32)), .val (.int p3)] [])
    obtain rfl : t = 0 := by rw [hz0] at ht; have e0 : (0 : Int32).toInt = 0 := rfl; omega
    obtain ⟨lit1, T1, h1, k11, lib1, kd1, X1, e1, E1, hS1, hk1, hZ, hown, EX1, FC1, FV1, V1, lt11, lt21, D1, Ld1, sf1, st1⟩ := ldcCH X0 hx hZ hown (hw _ (List.mem_of_getElem? (i := 124) rfl)) (own_wS hw) e0 hS0 (Nat.le_refl _) hEL (List.mem_of_getElem? (i := 1) rfl) C0.1 (vs := []) (z := (0 : Int32)) ⟨fun c hc => absurd hc (by simp), rfl⟩ (by decide) rfl (g := (mkF m 4 #[.val (.ref a1), .val (.int (0 : Int32)), .val (.int p3)] [])) rfl (hb hby d29_4) (n := 0) (by simp) (by decide) (by decide) (by decide)
    refine own_step st1 ?_
    have Z1 := Nat.le_trans Z0 E1.1
    have KK1 := (Keep.refl h0 []).ext E1
    have C1 := C0.trans D1
    show own_Go _ _ _ _ T1 (mkF m 6 #[.val (.ref a1), .val (.int (0 : Int32)), .val (.int p3)] [(.ref lit1)])
    exact own_retA X1 hx hret rfl hlk rfl rfl (hb hby d29_6) (own_W X1 hS1 hk1 e1 eS hZ hEL C1 (by rw [e1]; exact ⟨lit1, lib1, _, rfl, N0, KK1, ⟨EX1, FC1, FV1⟩, by rw [hz0]; exact V1⟩) (by decide) (by decide)) 
  · refine own_step (fun _ k => XS.ifYes X0.here hx rfl (pc0 := 1) (pc' := 7) rfl (hb hby d29_1) rfl ((if0 _ _).trans (feq hz0).2) (by decide) (by decide) k) ?_
    show own_Go _ _ _ _ T0 (mkF m 7 #[.val (.ref a1), .val (.int (0 : Int32)), .val (.int p3)] [])
    obtain ⟨T2, h2, X2, e2, E2, A2, D2, -, st2⟩ := newO X0 hx hZ hown (hw _ (List.mem_of_getElem? (i := 125) rfl)) (hw _ (List.mem_of_getElem? (i := 10) rfl)) (hw _ (List.mem_of_getElem? (i := 11) rfl)) e0 (g := (mkF m 7 #[.val (.ref a1), .val (.int (0 : Int32)), .val (.int p3)] [])) rfl (hb hby d29_7) (by decide) (by decide)
    obtain ⟨so, g2⟩ : ∃ z, z = h0.size := ⟨_, rfl⟩
    rw [← g2] at A2 D2 st2
    have ne_a1_so : a1 ≠ so := Nat.ne_of_lt (Nat.lt_of_lt_of_eq VB.lt g2.symm)
    have g_so : n0 ≤ so := Nat.le_trans Z0 (Nat.le_of_eq g2.symm)
    have sz_so : h0.size ≤ so := Nat.le_trans (Keep.refl h0 []).1 (Nat.le_of_eq g2.symm)
    refine own_step st2 ?_
    have Dc2 := (CHr.ext E2 C0.1)
    have C2 := C0.trans Dc2
    have hk2 := Nat.le_trans (Nat.le_refl _) Dc2.2.1
    have Z2 := Nat.le_trans Z0 E2.1
    have KK2 := (Keep.refl h0 []).ext E2
    have F_value_so : Fld Z h2 so "java/lang/String" "value" "[B" .null := D2 (Or.inr (hw _ (List.mem_of_getElem? (i := 24) rfl))) (ty := (.array .byte)) (by decide)
    have F_coder_so : Fld Z h2 so "java/lang/String" "coder" "B" (.int (0 : Int32)) := D2 (Or.inr (hw _ (List.mem_of_getElem? (i := 25) rfl))) (ty := .byte) (by decide)
    show own_Go _ _ _ _ T2 (mkF m 10 #[.val (.ref a1), .val (.int (0 : Int32)), .val (.int p3)] [(.ref so)])
    refine own_step (fun _ k => XS.dup X2.here hx rfl (hb hby d29_10) rfl rfl k) ?_
    show own_Go _ _ _ _ T2 (mkF m 11 #[.val (.ref a1), .val (.int (0 : Int32)), .val (.int p3)] [(.ref so), (.ref so)])
    refine own_step (fun _ k => XS.aloadN X2.here hx rfl (hb hby d29_11) rfl rfl k) ?_
    show own_Go _ _ _ _ T2 (mkF m 12 #[.val (.ref a1), .val (.int (0 : Int32)), .val (.int p3)] [(.ref a1), (.ref so), (.ref so)])
    refine own_step (fun _ k => XS.iloadN X2.here hx rfl (hb hby d29_12) rfl k) ?_
    show own_Go _ _ _ _ T2 (mkF m 13 #[.val (.ref a1), .val (.int (0 : Int32)), .val (.int p3)] [(.int (0 : Int32)), (.ref a1), (.ref so), (.ref so)])
    refine own_step (fun _ k => XS.iloadN X2.here hx rfl (hb hby d29_13) rfl k) ?_
    show own_Go _ _ _ _ T2 (mkF m 14 #[.val (.ref a1), .val (.int (0 : Int32)), .val (.int p3)] [(.int (0 : Int32)), (.int (0 : Int32)), (.ref a1), (.ref so), (.ref so)])
    refine own_step (fun _ k => XS.iloadN X2.here hx rfl (hb hby d29_14) rfl k) ?_
    show own_Go _ _ _ _ T2 (mkF m 15 #[.val (.ref a1), .val (.int (0 : Int32)), .val (.int p3)] [(.int p3), (.int (0 : Int32)), (.int (0 : Int32)), (.ref a1), (.ref so), (.ref so)])
    refine own_step (fun _ k => XS.iadd X2.here hx rfl (hb hby d29_15) rfl k) ?_
    show own_Go _ _ _ _ T2 (mkF m 16 #[.val (.ref a1), .val (.int (0 : Int32)), .val (.int p3)] [(.int ((0 : Int32) + p3)), (.int (0 : Int32)), (.ref a1), (.ref so), (.ref so)])
    rw [Int32.zero_add]
    show own_Go _ _ _ _ T2 (mkF m 16 #[.val (.ref a1), .val (.int (0 : Int32)), .val (.int p3)] [(.int p3), (.int (0 : Int32)), (.ref a1), (.ref so), (.ref so)])
    have Q3 := (VB.ext E2)
    refine own_callS X2 hx hZ (y := (⟨"java/util/Arrays", "copyOfRange", "([BII)[B"⟩ : MethodName)) hown (hw _ (List.mem_of_getElem? (i := 126) rfl)) (hw _ (List.mem_of_getElem? (i := 127) rfl)) (hw _ (List.mem_of_getElem? (i := 128) rfl)) (hw _ (List.mem_of_getElem? (i := 129) rfl)) (by decide) (rm30 l Z a0 hw [] a1 (0 : Int32) p3 kb z ys h2 n0 Z2 Q3 hl hcap rfl t ht htl) e2 2 (by decide) (by decide) (by decide) (by decide) (g := (mkF m 16 #[.val (.ref a1), .val (.int (0 : Int32)), .val (.int p3)] [(.int p3), (.int (0 : Int32)), (.ref a1), (.ref so), (.ref so)])) rfl (by rw [hml]; rfl) [(.ref a1), (.int (0 : Int32)), (.int p3)] [(.ref so), (.ref so)] pd_14 rfl rfl rfl (by show 2 * 0 + _ ≤ _; exact Nat.le_of_eq rfl) (hb hby d29_16) ?_
    rintro v4 T4 L4 X4 ⟨bc, kc, rfl, Nq4, K4, g_bc, sz_bc, V4⟩
    have N4 := Fr.app N0 Nq4
    show own_Go _ _ _ _ T4 (mkF m 19 #[.val (.ref a1), .val (.int (0 : Int32)), .val (.int p3)] [(.ref bc), (.ref so), (.ref so)])
    have ne_so_bc : so ≠ bc := Nat.ne_of_lt (Nat.lt_of_lt_of_le A2.lt sz_bc)
    have Dc4 := (CHr.keep K4 sf0 C2.1)
    have C4 := C2.trans Dc4
    have hk4 := Nat.le_trans hk2 Dc4.2.1
    have Z4 := Nat.le_trans Z2 K4.1
    have KK4 := KK2.trans K4 all0
    refine own_step (fun _ k => XS.iconst X4.here hx rfl (hb hby d29_19) k) ?_
    show own_Go _ _ _ _ T4 (mkF m 20 #[.val (.ref a1), .val (.int (0 : Int32)), .val (.int p3)] [(.int (0 : Int32)), (.ref bc), (.ref so), (.ref so)])
    have Q5 := (A2.keep K4)
    have Q6 := (F_coder_so.keep K4 nin0)
    have Q7 := (F_value_so.keep K4 nin0)
    refine own_callC X4 hx hZ (y := (⟨"java/lang/String", "<init>", "([BB)V"⟩ : MethodName)) rfl hown (hw _ (List.mem_of_getElem? (i := 141) rfl)) (hw _ (List.mem_of_getElem? (i := 142) rfl)) (hw _ (List.mem_of_getElem? (i := 11) rfl)) (hw _ (List.mem_of_getElem? (i := 143) rfl)) (by decide) (rm33 l Z a0 hw [] so bc (0 : Int32)  T4.heap n0 Z4 Q5 Q6 Q7 rfl g_so) rfl (b := so) 1 (by decide) (by decide) (by decide) (by decide) (g := (mkF m 20 #[.val (.ref a1), .val (.int (0 : Int32)), .val (.int p3)] [(.int (0 : Int32)), (.ref bc), (.ref so), (.ref so)])) rfl (by rw [hml]; rfl) [(.ref bc), (.int (0 : Int32))] [(.ref so)] pd_15 rfl rfl rfl (by show 2 * 0 + _ ≤ _; exact Nat.le_of_eq rfl) (hb hby d29_20) ?_
    rintro v8 T8 L8 X8 ⟨rfl, Nq8, K8, FC8, FV8⟩
    have N8 := Fr.app N4 Nq8
    show own_Go _ _ _ _ T8 (mkF m 23 #[.val (.ref a1), .val (.int (0 : Int32)), .val (.int p3)] [(.ref so)])
    have Dc8 := (CHr.keep K8 (sfS (own_safe (EL := own_EL) hZ.alike Q5 Q7) sf0) C4.1)
    have C8 := C4.trans Dc8
    have hk8 := Nat.le_trans hk4 Dc8.2.1
    have Z8 := Nat.le_trans Z4 K8.1
    have KK8 := KK4.trans K8 (allS (P := fun x => x ∈ [] ∨ h0.size ≤ x) (Or.inr sz_so) all0)
    have Q9 := (Q5.keep K8)
    have Q10 := (V4.keep K8 (ninS (Ne.symm ne_so_bc) nin0))
    exact own_retA X8 hx hret rfl hlk rfl rfl (hb hby d29_23) (own_W X8 hS0 hk8 rfl eS hZ hEL C8 (by exact ⟨so, bc, _, rfl, N8, KK8, ⟨Q9, FC8, FV8⟩, Q10⟩) (by decide) (by decide)) 
theorem d26_0 : decode jdk_42_method_92_code 0 = .ok (.aload_n 0, 1) := by decide +kernel
theorem d26_1 : decode jdk_42_method_92_code 1 = .ok (.invokevirtual 505, 3) := by decide +kernel
theorem d26_4 : decode jdk_42_method_92_code 4 = .ok (.istore_n 3, 1) := by decide +kernel
theorem d26_5 : decode jdk_42_method_92_code 5 = .ok (.iload_n 1, 1) := by decide +kernel
theorem d26_6 : decode jdk_42_method_92_code 6 = .ok (.iload_n 2, 1) := by decide +kernel
theorem d26_7 : decode jdk_42_method_92_code 7 = .ok (.iload_n 3, 1) := by decide +kernel
theorem d26_8 : decode jdk_42_method_92_code 8 = .ok (.invokestatic 521, 3) := by decide +kernel
theorem d26_11 : decode jdk_42_method_92_code 11 = .ok (.iload_n 1, 1) := by decide +kernel
theorem d26_12 : decode jdk_42_method_92_code 12 = .ok (.ifCond .ne 10, 3) := by decide +kernel
theorem d26_15 : decode jdk_42_method_92_code 15 = .ok (.iload_n 2, 1) := by decide +kernel
theorem d26_16 : decode jdk_42_method_92_code 16 = .ok (.iload_n 3, 1) := by decide +kernel
theorem d26_17 : decode jdk_42_method_92_code 17 = .ok (.if_icmp .ne 5, 3) := by decide +kernel
theorem d26_20 : decode jdk_42_method_92_code 20 = .ok (.aload_n 0, 1) := by decide +kernel
theorem d26_21 : decode jdk_42_method_92_code 21 = .ok (.areturn, 1) := by decide +kernel
theorem d26_22 : decode jdk_42_method_92_code 22 = .ok (.iload_n 2, 1) := by decide +kernel
theorem d26_23 : decode jdk_42_method_92_code 23 = .ok (.iload_n 1, 1) := by decide +kernel
theorem d26_24 : decode jdk_42_method_92_code 24 = .ok (.isub, 1) := by decide +kernel
theorem d26_25 : decode jdk_42_method_92_code 25 = .ok (.istore 4, 2) := by decide +kernel
theorem d26_27 : decode jdk_42_method_92_code 27 = .ok (.aload_n 0, 1) := by decide +kernel
theorem d26_28 : decode jdk_42_method_92_code 28 = .ok (.invokevirtual 492, 3) := by decide +kernel
theorem d26_31 : decode jdk_42_method_92_code 31 = .ok (.ifCond .eq 16, 3) := by decide +kernel
theorem d26_34 : decode jdk_42_method_92_code 34 = .ok (.aload_n 0, 1) := by decide +kernel
theorem d26_35 : decode jdk_42_method_92_code 35 = .ok (.getfield 9, 3) := by decide +kernel
theorem d26_38 : decode jdk_42_method_92_code 38 = .ok (.iload_n 1, 1) := by decide +kernel
theorem d26_39 : decode jdk_42_method_92_code 39 = .ok (.iload 4, 2) := by decide +kernel
theorem d26_41 : decode jdk_42_method_92_code 41 = .ok (.invokestatic 685, 3) := by decide +kernel
theorem d26_44 : decode jdk_42_method_92_code 44 = .ok (.goto 13, 3) := by decide +kernel
theorem d26_47 : decode jdk_42_method_92_code 47 = .ok (.aload_n 0, 1) := by decide +kernel
theorem d26_48 : decode jdk_42_method_92_code 48 = .ok (.getfield 9, 3) := by decide +kernel
theorem d26_51 : decode jdk_42_method_92_code 51 = .ok (.iload_n 1, 1) := by decide +kernel
theorem d26_52 : decode jdk_42_method_92_code 52 = .ok (.iload 4, 2) := by decide +kernel
theorem d26_54 : decode jdk_42_method_92_code 54 = .ok (.invokestatic 689, 3) := by decide +kernel
theorem d26_57 : decode jdk_42_method_92_code 57 = .ok (.areturn, 1) := by decide +kernel
theorem ef_26 (a1 : Addr) (p2 : Int32) (p3 : Int32) (m : MethodId) : entryFrame m #[(.ref a1), (.int p2), (.int p3)] 5 = mkF m 0 #[.val (.ref a1), .val (.int p2), .val (.int p3), .unset, .unset] [] := by first | (simp [entryFrame, mkF, argsToLocals, Value.category]; done) | rfl
theorem pd_16 : parseMethodDescriptor "(III)V" = some ⟨[.int, .int, .int], none⟩ := by decide +kernel
theorem pd_17 : parseMethodDescriptor "([BII)Ljava/lang/String;" = some ⟨[(.array .byte), .int, .int], some (.object "java/lang/String")⟩ := by decide +kernel
set_option maxRecDepth 65536 in
set_option maxHeartbeats 40000000 in
theorem rm26 (l : Launch) (Z : State) (a0 : Array Value) (hw : ∀ d ∈ tables_1, d.before a0 Z = true) (ws : List Jvm.Cond) (a1 : Addr) (p2 : Int32) (p3 : Int32) (cz : Int32) (fv : Value) (b : Addr) (kb : ClassId) (z : Int32) (ys : List Int32) (h0 : Heap) (n0 : Nat) (Z0 : n0 ≤ h0.size) (hEL : EW Z a0 own_EL) (O0 : Old Z n0 h0) (SC : Sta Z Z.heap "java/lang/String" "COMPACT_STRINGS" "Z" (.int cz)) (hcz : ¬ cz = (0 : Int32)) (SF : Sta Z Z.heap "jdk/internal/util/Preconditions" "SIOOBE_FORMATTER" "Ljava/util/function/BiFunction;" fv) (hfv : fv.isRef = true) (E_a1 : Exa Z h0 a1 "java/lang/String") (FC_a1 : Fld Z h0 a1 "java/lang/String" "coder" "B" (.int (0 : Int32))) (FV_a1 : Fld Z h0 a1 "java/lang/String" "value" "[B" (.ref b)) (VB : Arv Z h0 b kb .byte z (ys.map Value.int) (.int (0 : Int32))) (hl : z.toInt = (ys.length : Nat)) (hcap : ys.length ≤ 8) (hp2 : p2 = (0 : Int32)) (t : Nat) (ht : p3.toInt = (t : Nat)) (htl : t < ys.length) :
    own_MetW l (⟨"java/lang/String", "substring", "(II)Ljava/lang/String;"⟩ : MethodName) jdk_42_method_92_code 5 (some (.object "java/lang/String")) ws ({ frames := 4, cells := 2, slots := 12, locals := 64 } : Room) #[(.ref a1), (.int p2), (.int p3)] Z own_EL h0 (fun v h L => ∃ o b k, v = some (.ref o) ∧ Fr n0 L ∧ Keep h0 h [] ∧ (Exa Z h o "java/lang/String" ∧ Fld Z h o "java/lang/String" "coder" "B" (.int (0 : Int32)) ∧ Fld Z h o "java/lang/String" "value" "[B" (.ref b)) ∧ Arv Z h b k .byte p3 ((ys.take t).map Value.int) (.int (0 : Int32))) := by
  refine own_bodyW (plainFor_of_name pn_0) (ef_26 a1 p2 p3) ?_
  intro p e s m below meth c T0 X0 hx hby hml0 hret hlk hnm hown hZ e0 eS H0 hS0
  have C0 := CHr.refl H0
  have hml : c.maxLocals = 5 := hml0
  have N0 := Fr.nil n0
  subst hp2
  have hlt := (own_lt ht hl).mpr htl
  refine own_step (fun _ k => XS.aloadN X0.here hx rfl (hb hby d26_0) rfl rfl k) ?_
  show own_Go _ _ _ _ T0 (mkF m 1 #[.val (.ref a1), .val (.int (0 : Int32)), .val (.int p3), .unset, .unset] [(.ref a1)])
  refine own_callV X0 hx hZ (y := (⟨"java/lang/String", "length", "()I"⟩ : MethodName)) (z := (⟨"java/lang/String", "length", "()I"⟩ : MethodName)) hown (hw _ (List.mem_of_getElem? (i := 50) rfl)) (hw _ (List.mem_of_getElem? (i := 51) rfl)) (hw _ (List.mem_of_getElem? (i := 53) rfl)) (hw _ (List.mem_of_getElem? (i := 53) rfl)) (hw _ (List.mem_of_getElem? (i := 52) rfl)) (hw _ (List.mem_of_getElem? (i := 11) rfl)) (hw _ (List.mem_of_getElem? (i := 54) rfl)) (by decide) (rm10 l Z a0 hw [] a1 cz b kb z _ h0 n0 Z0 O0 SC hcz E_a1 FC_a1 FV_a1 VB) e0 (b := a1) E_a1 0 (by decide) (by decide) (by decide) (by decide) (g := (mkF m 1 #[.val (.ref a1), .val (.int (0 : Int32)), .val (.int p3), .unset, .unset] [(.ref a1)])) rfl (by rw [hml]; rfl) [] [] pd_12 rfl rfl rfl (by show 2 * 0 + _ ≤ _; exact Nat.le_of_eq rfl) (hb hby d26_1) ?_
  rintro v1 T1 L1 X1 ⟨rfl, Nq1, e1⟩
  have N1 := Fr.app N0 Nq1
  show own_Go _ _ _ _ T1 (mkF m 4 #[.val (.ref a1), .val (.int (0 : Int32)), .val (.int p3), .unset, .unset] [(.int z)])
  refine own_step (fun _ k => XS.istoreN X1.here hx rfl (hb hby d26_4) rfl (l' := #[.val (.ref a1), .val (.int (0 : Int32)), .val (.int p3), .val (.int z), .unset]) rfl k) ?_
  show own_Go _ _ _ _ T1 (mkF m 5 #[.val (.ref a1), .val (.int (0 : Int32)), .val (.int p3), .val (.int z), .unset] [])
  refine own_step (fun _ k => XS.iloadN X1.here hx rfl (hb hby d26_5) rfl k) ?_
  show own_Go _ _ _ _ T1 (mkF m 6 #[.val (.ref a1), .val (.int (0 : Int32)), .val (.int p3), .val (.int z), .unset] [(.int (0 : Int32))])
  refine own_step (fun _ k => XS.iloadN X1.here hx rfl (hb hby d26_6) rfl k) ?_
  show own_Go _ _ _ _ T1 (mkF m 7 #[.val (.ref a1), .val (.int (0 : Int32)), .val (.int p3), .val (.int z), .unset] [(.int p3), (.int (0 : Int32))])
  refine own_step (fun _ k => XS.iloadN X1.here hx rfl (hb hby d26_7) rfl k) ?_
  show own_Go _ _ _ _ T1 (mkF m 8 #[.val (.ref a1), .val (.int (0 : Int32)), .val (.int p3), .val (.int z), .unset] [(.int z), (.int p3), (.int (0 : Int32))])
  refine own_callS X1 hx hZ (y := (⟨"java/lang/String", "checkBoundsBeginEnd", "(III)V"⟩ : MethodName)) hown (hw _ (List.mem_of_getElem? (i := 115) rfl)) (hw _ (List.mem_of_getElem? (i := 116) rfl)) (hw _ (List.mem_of_getElem? (i := 11) rfl)) (hw _ (List.mem_of_getElem? (i := 117) rfl)) (by decide) (rm27 l Z a0 hw [] (0 : Int32) p3 z fv h0 n0 Z0 O0 SF hfv (by decide) (own_nn ht) (Int32.not_lt.mpr (Int32.le_of_lt hlt))) e1 0 (by decide) (by decide) (by decide) (by decide) (g := (mkF m 8 #[.val (.ref a1), .val (.int (0 : Int32)), .val (.int p3), .val (.int z), .unset] [(.int z), (.int p3), (.int (0 : Int32))])) rfl (by rw [hml]; rfl) [(.int (0 : Int32)), (.int p3), (.int z)] [] pd_16 rfl rfl rfl (by show 2 * 0 + _ ≤ _; exact Nat.le_of_eq rfl) (hb hby d26_8) ?_
  rintro v2 T2 L2 X2 ⟨rfl, Nq2, e2⟩
  have N2 := Fr.app N1 Nq2
  show own_Go _ _ _ _ T2 (mkF m 11 #[.val (.ref a1), .val (.int (0 : Int32)), .val (.int p3), .val (.int z), .unset] [])
  refine own_step (fun _ k => XS.iloadN X2.here hx rfl (hb hby d26_11) rfl k) ?_
  show own_Go _ _ _ _ T2 (mkF m 12 #[.val (.ref a1), .val (.int (0 : Int32)), .val (.int p3), .val (.int z), .unset] [(.int (0 : Int32))])
  refine own_step (fun _ k => XS.ifNo X2.here hx rfl (hb hby d26_12) rfl ((if0 _ _).trans (teq (by decide : (0 : Int32) = (0 : Int32))).2) k) ?_
  show own_Go _ _ _ _ T2 (mkF m 15 #[.val (.ref a1), .val (.int (0 : Int32)), .val (.int p3), .val (.int z), .unset] [])
  refine own_step (fun _ k => XS.iloadN X2.here hx rfl (hb hby d26_15) rfl k) ?_
  show own_Go _ _ _ _ T2 (mkF m 16 #[.val (.ref a1), .val (.int (0 : Int32)), .val (.int p3), .val (.int z), .unset] [(.int p3)])
  refine own_step (fun _ k => XS.iloadN X2.here hx rfl (hb hby d26_16) rfl k) ?_
  show own_Go _ _ _ _ T2 (mkF m 17 #[.val (.ref a1), .val (.int (0 : Int32)), .val (.int p3), .val (.int z), .unset] [(.int z), (.int p3)])
  refine own_step (fun _ k => XS.icmpYes X2.here hx rfl (pc0 := 17) (pc' := 22) rfl (hb hby d26_17) rfl (feq (fun q => by rw [q] at hlt; exact Int32.lt_irrefl hlt)).2 (by decide) (by decide) k) ?_
  show own_Go _ _ _ _ T2 (mkF m 22 #[.val (.ref a1), .val (.int (0 : Int32)), .val (.int p3), .val (.int z), .unset] [])
  refine own_step (fun _ k => XS.iloadN X2.here hx rfl (hb hby d26_22) rfl k) ?_
  show own_Go _ _ _ _ T2 (mkF m 23 #[.val (.ref a1), .val (.int (0 : Int32)), .val (.int p3), .val (.int z), .unset] [(.int p3)])
  refine own_step (fun _ k => XS.iloadN X2.here hx rfl (hb hby d26_23) rfl k) ?_
  show own_Go _ _ _ _ T2 (mkF m 24 #[.val (.ref a1), .val (.int (0 : Int32)), .val (.int p3), .val (.int z), .unset] [(.int (0 : Int32)), (.int p3)])
  refine own_step (fun _ k => XS.isub X2.here hx rfl (hb hby d26_24) rfl k) ?_
  show own_Go _ _ _ _ T2 (mkF m 25 #[.val (.ref a1), .val (.int (0 : Int32)), .val (.int p3), .val (.int z), .unset] [(.int (p3 - (0 : Int32)))])
  rw [Int32.sub_zero]
  show own_Go _ _ _ _ T2 (mkF m 25 #[.val (.ref a1), .val (.int (0 : Int32)), .val (.int p3), .val (.int z), .unset] [(.int p3)])
  refine own_step (fun _ k => XS.istore X2.here hx rfl (hb hby d26_25) rfl (l' := #[.val (.ref a1), .val (.int (0 : Int32)), .val (.int p3), .val (.int z), .val (.int p3)]) rfl k) ?_
  show own_Go _ _ _ _ T2 (mkF m 27 #[.val (.ref a1), .val (.int (0 : Int32)), .val (.int p3), .val (.int z), .val (.int p3)] [])
  refine own_step (fun _ k => XS.aloadN X2.here hx rfl (hb hby d26_27) rfl rfl k) ?_
  show own_Go _ _ _ _ T2 (mkF m 28 #[.val (.ref a1), .val (.int (0 : Int32)), .val (.int p3), .val (.int z), .val (.int p3)] [(.ref a1)])
  refine own_callV X2 hx hZ (y := (⟨"java/lang/String", "isLatin1", "()Z"⟩ : MethodName)) (z := (⟨"java/lang/String", "isLatin1", "()Z"⟩ : MethodName)) hown (hw _ (List.mem_of_getElem? (i := 44) rfl)) (hw _ (List.mem_of_getElem? (i := 45) rfl)) (hw _ (List.mem_of_getElem? (i := 47) rfl)) (hw _ (List.mem_of_getElem? (i := 47) rfl)) (hw _ (List.mem_of_getElem? (i := 46) rfl)) (hw _ (List.mem_of_getElem? (i := 11) rfl)) (hw _ (List.mem_of_getElem? (i := 48) rfl)) (by decide) (rm9 l Z a0 hw [] a1 cz h0 n0 Z0 O0 SC hcz FC_a1) e2 (b := a1) E_a1 0 (by decide) (by decide) (by decide) (by decide) (g := (mkF m 28 #[.val (.ref a1), .val (.int (0 : Int32)), .val (.int p3), .val (.int z), .val (.int p3)] [(.ref a1)])) rfl (by rw [hml]; rfl) [] [] pd_3 rfl rfl rfl (by show 2 * 0 + _ ≤ _; exact Nat.le_of_eq rfl) (hb hby d26_28) ?_
  rintro v3 T3 L3 X3 ⟨rfl, Nq3, e3⟩
  have N3 := Fr.app N2 Nq3
  show own_Go _ _ _ _ T3 (mkF m 31 #[.val (.ref a1), .val (.int (0 : Int32)), .val (.int p3), .val (.int z), .val (.int p3)] [(.int (1 : Int32))])
  refine own_step (fun _ k => XS.ifNo X3.here hx rfl (hb hby d26_31) rfl ((if0 _ _).trans (feq (by decide : ¬ ((1 : Int32) = (0 : Int32)))).1) k) ?_
  show own_Go _ _ _ _ T3 (mkF m 34 #[.val (.ref a1), .val (.int (0 : Int32)), .val (.int p3), .val (.int z), .val (.int p3)] [])
  refine own_step (fun _ k => XS.aloadN X3.here hx rfl (hb hby d26_34) rfl rfl k) ?_
  show own_Go _ _ _ _ T3 (mkF m 35 #[.val (.ref a1), .val (.int (0 : Int32)), .val (.int p3), .val (.int z), .val (.int p3)] [(.ref a1)])
  obtain ⟨T4, X4, e4, st4⟩ := getF X3 hx hZ hown (host := "") (Or.inl (hw _ (List.mem_of_getElem? (i := 28) rfl))) Via.refl e3 FV_a1 (g := (mkF m 35 #[.val (.ref a1), .val (.int (0 : Int32)), .val (.int p3), .val (.int z), .val (.int p3)] [(.ref a1)])) rfl rfl (hb hby d26_35)
  refine own_step st4 ?_
  show own_Go _ _ _ _ T4 (mkF m 38 #[.val (.ref a1), .val (.int (0 : Int32)), .val (.int p3), .val (.int z), .val (.int p3)] [(.ref b)])
  refine own_step (fun _ k => XS.iloadN X4.here hx rfl (hb hby d26_38) rfl k) ?_
  show own_Go _ _ _ _ T4 (mkF m 39 #[.val (.ref a1), .val (.int (0 : Int32)), .val (.int p3), .val (.int z), .val (.int p3)] [(.int (0 : Int32)), (.ref b)])
  refine own_step (fun _ k => XS.iload X4.here hx rfl (hb hby d26_39) rfl k) ?_
  show own_Go _ _ _ _ T4 (mkF m 41 #[.val (.ref a1), .val (.int (0 : Int32)), .val (.int p3), .val (.int z), .val (.int p3)] [(.int p3), (.int (0 : Int32)), (.ref b)])
  refine own_callSW X4 hx hZ (y := (⟨"java/lang/StringLatin1", "newString", "([BII)Ljava/lang/String;"⟩ : MethodName)) hown (hw _ (List.mem_of_getElem? (i := 121) rfl)) (hw _ (List.mem_of_getElem? (i := 122) rfl)) (hw _ (List.mem_of_getElem? (i := 62) rfl)) (hw _ (List.mem_of_getElem? (i := 123) rfl)) (by decide) (rm29 l Z a0 hw [] b (0 : Int32) p3 kb z ys h0 n0 Z0 hEL VB hl hcap rfl t ht htl) e4 hEL C0.1 hS0 (Nat.le_refl _) 0 (by decide) (by decide) (by decide) (by decide) (g := (mkF m 41 #[.val (.ref a1), .val (.int (0 : Int32)), .val (.int p3), .val (.int z), .val (.int p3)] [(.int p3), (.int (0 : Int32)), (.ref b)])) rfl (by rw [hml]; rfl) [(.ref b), (.int (0 : Int32)), (.int p3)] [] pd_17 rfl rfl rfl (by show 2 * 0 + _ ≤ _; exact Nat.le_of_eq rfl) (hb hby d26_41) ?_
  rintro v5 T5 L5 X5 ⟨ns, nb, nk, rfl, Nq5, K5, ⟨EX5, FC5, FV5⟩, V5⟩ D5 hS5 hZ hown
  have N5 := Fr.app N3 Nq5
  show own_Go _ _ _ _ T5 (mkF m 44 #[.val (.ref a1), .val (.int (0 : Int32)), .val (.int p3), .val (.int z), .val (.int p3)] [(.ref ns)])
  have Dc5 := D5
  have C5 := C0.trans Dc5
  have Z5 := Nat.le_trans Z0 K5.1
  have KK5 := (Keep.refl h0 []).trans K5 all0
  refine own_step (fun _ k => XS.goto X5.here hx rfl (pc0 := 44) (pc' := 57) rfl (hb hby d26_44) (by decide) (by decide) k) ?_
  show own_Go _ _ _ _ T5 (mkF m 57 #[.val (.ref a1), .val (.int (0 : Int32)), .val (.int p3), .val (.int z), .val (.int p3)] [(.ref ns)])
  exact own_retA X5 hx hret rfl hlk rfl rfl (hb hby d26_57) (own_W X5 hS5 (Nat.le_refl _) rfl eS hZ hEL C5 (by exact ⟨ns, nb, nk, rfl, N5, KK5, ⟨EX5, FC5, FV5⟩, V5⟩) (by decide) (by decide)) 
theorem d6_0 : decode prog_14_method_3_code 0 = .ok (.aload_n 0, 1) := by decide +kernel
theorem d6_1 : decode prog_14_method_3_code 1 = .ok (.bipush 9, 2) := by decide +kernel
theorem d6_3 : decode prog_14_method_3_code 3 = .ok (.invokevirtual 56, 3) := by decide +kernel
theorem d6_6 : decode prog_14_method_3_code 6 = .ok (.istore_n 1, 1) := by decide +kernel
theorem d6_7 : decode prog_14_method_3_code 7 = .ok (.iload_n 1, 1) := by decide +kernel
theorem d6_8 : decode prog_14_method_3_code 8 = .ok (.ifCond .ge 7, 3) := by decide +kernel
theorem d6_11 : decode prog_14_method_3_code 11 = .ok (.aload_n 0, 1) := by decide +kernel
theorem d6_12 : decode prog_14_method_3_code 12 = .ok (.goto 9, 3) := by decide +kernel
theorem d6_15 : decode prog_14_method_3_code 15 = .ok (.aload_n 0, 1) := by decide +kernel
theorem d6_16 : decode prog_14_method_3_code 16 = .ok (.iconst 0, 1) := by decide +kernel
theorem d6_17 : decode prog_14_method_3_code 17 = .ok (.iload_n 1, 1) := by decide +kernel
theorem d6_18 : decode prog_14_method_3_code 18 = .ok (.invokevirtual 109, 3) := by decide +kernel
theorem d6_21 : decode prog_14_method_3_code 21 = .ok (.areturn, 1) := by decide +kernel
theorem ef_6 (a1 : Addr) (m : MethodId) : entryFrame m #[(.ref a1)] 2 = mkF m 0 #[.val (.ref a1), .unset] [] := by first | (simp [entryFrame, mkF, argsToLocals, Value.category]; done) | rfl
theorem pd_18 : parseMethodDescriptor "(I)I" = some ⟨[.int], some .int⟩ := by decide +kernel
theorem pd_19 : parseMethodDescriptor "(II)Ljava/lang/String;" = some ⟨[.int, .int], some (.object "java/lang/String")⟩ := by decide +kernel
theorem pn_6 : plainName "com/example/shelfmark/shelfmark/io/DocumentReader" = true := by first | (simp [plainName, overriddenIn]; done) | decide +kernel
set_option maxRecDepth 65536 in
set_option maxHeartbeats 40000000 in
theorem rm6 (l : Launch) (Z : State) (a0 : Array Value) (hw : ∀ d ∈ tables_1, d.before a0 Z = true) (ws : List Jvm.Cond) (a1 : Addr) (cz : Int32) (fv : Value) (b : Addr) (kb : ClassId) (z : Int32) (ys : List Int32) (h0 : Heap) (n0 : Nat) (Z0 : n0 ≤ h0.size) (hEL : EW Z a0 own_EL) (O0 : Old Z n0 h0) (SC : Sta Z Z.heap "java/lang/String" "COMPACT_STRINGS" "Z" (.int cz)) (hcz : ¬ cz = (0 : Int32)) (SF : Sta Z Z.heap "jdk/internal/util/Preconditions" "SIOOBE_FORMATTER" "Ljava/util/function/BiFunction;" fv) (hfv : fv.isRef = true) (E_a1 : Exa Z h0 a1 "java/lang/String") (FC_a1 : Fld Z h0 a1 "java/lang/String" "coder" "B" (.int (0 : Int32))) (FV_a1 : Fld Z h0 a1 "java/lang/String" "value" "[B" (.ref b)) (VB : Arv Z h0 b kb .byte z (ys.map Value.int) (.int (0 : Int32))) (hl : z.toInt = (ys.length : Nat)) (hcap : ys.length ≤ 8) :
    own_MetW l (⟨"com/example/shelfmark/shelfmark/io/DocumentReader", "text", "(Ljava/lang/String;)Ljava/lang/String;"⟩ : MethodName) prog_14_method_3_code 2 (some (.object "java/lang/String")) ws ({ frames := 5, cells := 2, slots := 12, locals := 80 } : Room) #[(.ref a1)] Z own_EL h0 (fun v h L => ∃ o b k, ∃ zr : Int32, v = some (.ref o) ∧ Fr n0 L ∧ Keep h0 h [] ∧ (Exa Z h o "java/lang/String" ∧ Fld Z h o "java/lang/String" "coder" "B" (.int (0 : Int32)) ∧ Fld Z h o "java/lang/String" "value" "[B" (.ref b)) ∧ zr.toInt = (own_tab ((9 : Int32).toInt8.toInt32) ys : Nat) ∧ Arv Z h b k .byte zr ((ys.take (own_tab ((9 : Int32).toInt8.toInt32) ys)).map Value.int) (.int (0 : Int32))) := by
  refine own_bodyW (plainFor_of_name pn_6) (ef_6 a1) ?_
  intro p e s m below meth c T0 X0 hx hby hml0 hret hlk hnm hown hZ e0 eS H0 hS0
  have C0 := CHr.refl H0
  have hml : c.maxLocals = 2 := hml0
  have N0 := Fr.nil n0
  refine own_step (fun _ k => XS.aloadN X0.here hx rfl (hb hby d6_0) rfl rfl k) ?_
  show own_Go _ _ _ _ T0 (mkF m 1 #[.val (.ref a1), .unset] [(.ref a1)])
  refine own_step (fun _ k => XS.bipush X0.here hx rfl (hb hby d6_1) k) ?_
  show own_Go _ _ _ _ T0 (mkF m 3 #[.val (.ref a1), .unset] [(.int (9 : Int32)), (.ref a1)])
  refine own_callV X0 hx hZ (y := (⟨"java/lang/String", "indexOf", "(I)I"⟩ : MethodName)) (z := (⟨"java/lang/String", "indexOf", "(I)I"⟩ : MethodName)) hown (hw _ (List.mem_of_getElem? (i := 34) rfl)) (hw _ (List.mem_of_getElem? (i := 35) rfl)) (hw _ (List.mem_of_getElem? (i := 37) rfl)) (hw _ (List.mem_of_getElem? (i := 37) rfl)) (hw _ (List.mem_of_getElem? (i := 36) rfl)) (hw _ (List.mem_of_getElem? (i := 11) rfl)) (hw _ (List.mem_of_getElem? (i := 38) rfl)) (by decide) (rm7 l Z a0 hw [] a1 (9 : Int32) cz b kb z ys h0 n0 Z0 O0 SC hcz E_a1 FC_a1 FV_a1 VB hl hcap (by decide)) e0 (b := a1) E_a1 0 (by decide) (by decide) (by decide) (by decide) (g := (mkF m 3 #[.val (.ref a1), .unset] [(.int (9 : Int32)), (.ref a1)])) rfl (by rw [hml]; rfl) [(.int (9 : Int32))] [] pd_18 rfl rfl rfl (by show 2 * 0 + _ ≤ _; exact Nat.le_of_eq rfl) (hb hby d6_3) ?_
  rintro v1 T1 L1 X1 ⟨rfl, Nq1, e1⟩
  have N1 := Fr.app N0 Nq1
  show own_Go _ _ _ _ T1 (mkF m 6 #[.val (.ref a1), .unset] [(.int (own_ixr (own_tab ((9 : Int32).toInt8.toInt32) ys) ys.length))])
  refine own_step (fun _ k => XS.istoreN X1.here hx rfl (hb hby d6_6) rfl (l' := #[.val (.ref a1), .val (.int (own_ixr (own_tab ((9 : Int32).toInt8.toInt32) ys) ys.length))]) rfl k) ?_
  show own_Go _ _ _ _ T1 (mkF m 7 #[.val (.ref a1), .val (.int (own_ixr (own_tab ((9 : Int32).toInt8.toInt32) ys) ys.length))] [])
  refine own_step (fun _ k => XS.iloadN X1.here hx rfl (hb hby d6_7) rfl k) ?_
  show own_Go _ _ _ _ T1 (mkF m 8 #[.val (.ref a1), .val (.int (own_ixr (own_tab ((9 : Int32).toInt8.toInt32) ys) ys.length))] [(.int (own_ixr (own_tab ((9 : Int32).toInt8.toInt32) ys) ys.length))])
  by_cases hneg : (own_ixr (own_tab ((9 : Int32).toInt8.toInt32) ys) ys.length) < (0 : Int32)
  · refine own_step (fun _ k => XS.ifNo X1.here hx rfl (hb hby d6_8) rfl ((if0 _ _).trans (tlt hneg).2.1) k) ?_
    show own_Go _ _ _ _ T1 (mkF m 11 #[.val (.ref a1), .val (.int (own_ixr (own_tab ((9 : Int32).toInt8.toInt32) ys) ys.length))] [])
    have hge := own_ixn hcap hneg
    have hte : own_tab ((9 : Int32).toInt8.toInt32) ys = ys.length := Nat.le_antisymm (own_tabl _ _) (Nat.le_of_not_lt hge)
    refine own_step (fun _ k => XS.aloadN X1.here hx rfl (hb hby d6_11) rfl rfl k) ?_
    show own_Go _ _ _ _ T1 (mkF m 12 #[.val (.ref a1), .val (.int (own_ixr (own_tab ((9 : Int32).toInt8.toInt32) ys) ys.length))] [(.ref a1)])
    refine own_step (fun _ k => XS.goto X1.here hx rfl (pc0 := 12) (pc' := 21) rfl (hb hby d6_12) (by decide) (by decide) k) ?_
    show own_Go _ _ _ _ T1 (mkF m 21 #[.val (.ref a1), .val (.int (own_ixr (own_tab ((9 : Int32).toInt8.toInt32) ys) ys.length))] [(.ref a1)])
    exact own_retA X1 hx hret rfl hlk rfl rfl (hb hby d6_21) (own_W X1 hS0 (Nat.le_refl _) e1 eS hZ hEL C0 (by rw [e1]; rw [hte, List.take_length]; exact ⟨a1, b, kb, z, rfl, N1, (Keep.refl h0 []), ⟨E_a1, FC_a1, FV_a1⟩, hl, VB⟩) (by decide) (by decide)) 
  · refine own_step (fun _ k => XS.ifYes X1.here hx rfl (pc0 := 8) (pc' := 15) rfl (hb hby d6_8) rfl ((if0 _ _).trans (flt hneg).2.1) (by decide) (by decide) k) ?_
    show own_Go _ _ _ _ T1 (mkF m 15 #[.val (.ref a1), .val (.int (own_ixr (own_tab ((9 : Int32).toInt8.toInt32) ys) ys.length))] [])
    have htl := own_ixp hneg
    have htv := own_ixv htl hcap
    refine own_step (fun _ k => XS.aloadN X1.here hx rfl (hb hby d6_15) rfl rfl k) ?_
    show own_Go _ _ _ _ T1 (mkF m 16 #[.val (.ref a1), .val (.int (own_ixr (own_tab ((9 : Int32).toInt8.toInt32) ys) ys.length))] [(.ref a1)])
    refine own_step (fun _ k => XS.iconst X1.here hx rfl (hb hby d6_16) k) ?_
    show own_Go _ _ _ _ T1 (mkF m 17 #[.val (.ref a1), .val (.int (own_ixr (own_tab ((9 : Int32).toInt8.toInt32) ys) ys.length))] [(.int (0 : Int32)), (.ref a1)])
    refine own_step (fun _ k => XS.iloadN X1.here hx rfl (hb hby d6_17) rfl k) ?_
    show own_Go _ _ _ _ T1 (mkF m 18 #[.val (.ref a1), .val (.int (own_ixr (own_tab ((9 : Int32).toInt8.toInt32) ys) ys.length))] [(.int (own_ixr (own_tab ((9 : Int32).toInt8.toInt32) ys) ys.length)), (.int (0 : Int32)), (.ref a1)])
    refine own_callVW X1 hx hZ (y := (⟨"java/lang/String", "substring", "(II)Ljava/lang/String;"⟩ : MethodName)) (z := (⟨"java/lang/String", "substring", "(II)Ljava/lang/String;"⟩ : MethodName)) hown (hw _ (List.mem_of_getElem? (i := 110) rfl)) (hw _ (List.mem_of_getElem? (i := 111) rfl)) (hw _ (List.mem_of_getElem? (i := 113) rfl)) (hw _ (List.mem_of_getElem? (i := 113) rfl)) (hw _ (List.mem_of_getElem? (i := 112) rfl)) (hw _ (List.mem_of_getElem? (i := 11) rfl)) (hw _ (List.mem_of_getElem? (i := 114) rfl)) (by decide) (rm26 l Z a0 hw [] a1 (0 : Int32) (own_ixr (own_tab ((9 : Int32).toInt8.toInt32) ys) ys.length) cz fv b kb z ys h0 n0 Z0 hEL O0 SC hcz SF hfv E_a1 FC_a1 FV_a1 VB hl hcap rfl (own_tab ((9 : Int32).toInt8.toInt32) ys) htv htl) e1 hEL C0.1 hS0 (Nat.le_refl _) (b := a1) E_a1 0 (by decide) (by decide) (by decide) (by decide) (g := (mkF m 18 #[.val (.ref a1), .val (.int (own_ixr (own_tab ((9 : Int32).toInt8.toInt32) ys) ys.length))] [(.int (own_ixr (own_tab ((9 : Int32).toInt8.toInt32) ys) ys.length)), (.int (0 : Int32)), (.ref a1)])) rfl (by rw [hml]; rfl) [(.int (0 : Int32)), (.int (own_ixr (own_tab ((9 : Int32).toInt8.toInt32) ys) ys.length))] [] pd_19 rfl rfl rfl (by show 2 * 0 + _ ≤ _; exact Nat.le_of_eq rfl) (hb hby d6_18) ?_
    rintro v2 T2 L2 X2 ⟨ns, nb, nk, rfl, Nq2, K2, ⟨EX2, FC2, FV2⟩, V2⟩ D2 hS2 hZ hown
    have N2 := Fr.app N1 Nq2
    show own_Go _ _ _ _ T2 (mkF m 21 #[.val (.ref a1), .val (.int (own_ixr (own_tab ((9 : Int32).toInt8.toInt32) ys) ys.length))] [(.ref ns)])
    have Dc2 := D2
    have C2 := C0.trans Dc2
    have Z2 := Nat.le_trans Z0 K2.1
    have KK2 := (Keep.refl h0 []).trans K2 all0
    exact own_retA X2 hx hret rfl hlk rfl rfl (hb hby d6_21) (own_W X2 hS2 (Nat.le_refl _) rfl eS hZ hEL C2 (by exact ⟨ns, nb, nk, _, rfl, N2, KK2, ⟨EX2, FC2, FV2⟩, htv, V2⟩) (by decide) (by decide)) 
theorem d17_0 : decode method_6_code 0 = .ok (.iload_n 1, 1) := by decide +kernel
theorem d17_1 : decode method_6_code 1 = .ok (.iload_n 2, 1) := by decide +kernel
theorem d17_2 : decode method_6_code 2 = .ok (.if_icmp .ge 12, 3) := by decide +kernel
theorem d17_5 : decode method_6_code 5 = .ok (.aload_n 0, 1) := by decide +kernel
theorem d17_6 : decode method_6_code 6 = .ok (.iload_n 1, 1) := by decide +kernel
theorem d17_7 : decode method_6_code 7 = .ok (.invokevirtual 41, 3) := by decide +kernel
theorem d17_10 : decode method_6_code 10 = .ok (.iload_n 3, 1) := by decide +kernel
theorem d17_11 : decode method_6_code 11 = .ok (.if_icmp .ne 7, 3) := by decide +kernel
theorem d17_14 : decode method_6_code 14 = .ok (.iconst 1, 1) := by decide +kernel
theorem d17_15 : decode method_6_code 15 = .ok (.goto 4, 3) := by decide +kernel
theorem d17_18 : decode method_6_code 18 = .ok (.iconst 0, 1) := by decide +kernel
theorem d17_19 : decode method_6_code 19 = .ok (.ireturn, 1) := by decide +kernel
theorem ef_17 (a1 : Addr) (p2 : Int32) (p3 : Int32) (p4 : Int32) (m : MethodId) : entryFrame m #[(.ref a1), (.int p2), (.int p3), (.int p4)] 4 = mkF m 0 #[.val (.ref a1), .val (.int p2), .val (.int p3), .val (.int p4)] [] := by first | (simp [entryFrame, mkF, argsToLocals, Value.category]; done) | rfl
theorem pd_20 : parseMethodDescriptor "(I)C" = some ⟨[.int], some .char⟩ := by decide +kernel
set_option maxRecDepth 65536 in
set_option maxHeartbeats 40000000 in
theorem rm17 (l : Launch) (Z : State) (a0 : Array Value) (hw : ∀ d ∈ tables_1, d.before a0 Z = true) (ws : List Jvm.Cond) (a1 : Addr) (p2 : Int32) (p3 : Int32) (p4 : Int32) (cz : Int32) (fv : Value) (b : Addr) (kb : ClassId) (ys : List Int32) (h0 : Heap) (n0 : Nat) (Z0 : n0 ≤ h0.size) (O0 : Old Z n0 h0) (SC : Sta Z Z.heap "java/lang/String" "COMPACT_STRINGS" "Z" (.int cz)) (hcz : ¬ cz = (0 : Int32)) (SF : Sta Z Z.heap "jdk/internal/util/Preconditions" "SIOOBE_FORMATTER" "Ljava/util/function/BiFunction;" fv) (hfv : fv.isRef = true) (E_a1 : Exa Z h0 a1 "java/lang/String") (FC_a1 : Fld Z h0 a1 "java/lang/String" "coder" "B" (.int (0 : Int32))) (FV_a1 : Fld Z h0 a1 "java/lang/String" "value" "[B" (.ref b)) (VB : Arv Z h0 b kb .byte p3 (ys.map Value.int) (.int (0 : Int32))) (h1 : ¬ p2 < (0 : Int32)) :
    own_Met l (⟨"com/example/shelfmark/shelfmark/io/DocumentReaderTextPinLaw", "same", "(Ljava/lang/String;IIC)Z"⟩ : MethodName) method_6_code 4 (some .boolean) ws ({ frames := 4, cells := 0, slots := 0, locals := 53 } : Room) #[(.ref a1), (.int p2), (.int p3), (.int p4)] Z h0 (fun v h L => v = some (.int (own_sm p2 p3 p4 ys)) ∧ Fr n0 L ∧ h = h0) := by
  refine own_body (plainFor_of_name pn_4) (ef_17 a1 p2 p3 p4) ?_
  intro p e s m below meth c T0 X0 hx hby hml0 hret hlk hnm hown hZ e0
  have hml : c.maxLocals = 4 := hml0
  have N0 := Fr.nil n0
  refine own_step (fun _ k => XS.iloadN X0.here hx rfl (hb hby d17_0) rfl k) ?_
  show own_Go _ _ _ _ T0 (mkF m 1 #[.val (.ref a1), .val (.int p2), .val (.int p3), .val (.int p4)] [(.int p2)])
  refine own_step (fun _ k => XS.iloadN X0.here hx rfl (hb hby d17_1) rfl k) ?_
  show own_Go _ _ _ _ T0 (mkF m 2 #[.val (.ref a1), .val (.int p2), .val (.int p3), .val (.int p4)] [(.int p3), (.int p2)])
  by_cases hc1 : p2 < p3
  · refine own_step (fun _ k => XS.icmpNo X0.here hx rfl (hb hby d17_2) rfl (tlt hc1).2.1 k) ?_
    show own_Go _ _ _ _ T0 (mkF m 5 #[.val (.ref a1), .val (.int p2), .val (.int p3), .val (.int p4)] [])
    refine own_step (fun _ k => XS.aloadN X0.here hx rfl (hb hby d17_5) rfl rfl k) ?_
    show own_Go _ _ _ _ T0 (mkF m 6 #[.val (.ref a1), .val (.int p2), .val (.int p3), .val (.int p4)] [(.ref a1)])
    refine own_step (fun _ k => XS.iloadN X0.here hx rfl (hb hby d17_6) rfl k) ?_
    show own_Go _ _ _ _ T0 (mkF m 7 #[.val (.ref a1), .val (.int p2), .val (.int p3), .val (.int p4)] [(.int p2), (.ref a1)])
    refine own_callV X0 hx hZ (y := (⟨"java/lang/String", "charAt", "(I)C"⟩ : MethodName)) (z := (⟨"java/lang/String", "charAt", "(I)C"⟩ : MethodName)) hown (hw _ (List.mem_of_getElem? (i := 94) rfl)) (hw _ (List.mem_of_getElem? (i := 95) rfl)) (hw _ (List.mem_of_getElem? (i := 97) rfl)) (hw _ (List.mem_of_getElem? (i := 97) rfl)) (hw _ (List.mem_of_getElem? (i := 96) rfl)) (hw _ (List.mem_of_getElem? (i := 11) rfl)) (hw _ (List.mem_of_getElem? (i := 98) rfl)) (by decide) (rm22 l Z a0 hw [] a1 p2 cz fv b kb p3 ys h0 n0 Z0 O0 SC hcz SF hfv E_a1 FC_a1 FV_a1 VB h1 hc1) e0 (b := a1) E_a1 0 (by decide) (by decide) (by decide) (by decide) (g := (mkF m 7 #[.val (.ref a1), .val (.int p2), .val (.int p3), .val (.int p4)] [(.int p2), (.ref a1)])) rfl (by rw [hml]; rfl) [(.int p2)] [] pd_20 rfl rfl rfl (by show 2 * 0 + _ ≤ _; exact Nat.le_of_eq rfl) (hb hby d17_7) ?_
    rintro v2 T2 L2 X2 ⟨rfl, Nq2, e2⟩
    have N2 := Fr.app N0 Nq2
    show own_Go _ _ _ _ T2 (mkF m 10 #[.val (.ref a1), .val (.int p2), .val (.int p3), .val (.int p4)] [(.int ((ys.getD p2.toNatClampNeg (0 : Int32)) &&& (255 : Int32)))])
    refine own_step (fun _ k => XS.iloadN X2.here hx rfl (hb hby d17_10) rfl k) ?_
    show own_Go _ _ _ _ T2 (mkF m 11 #[.val (.ref a1), .val (.int p2), .val (.int p3), .val (.int p4)] [(.int p4), (.int ((ys.getD p2.toNatClampNeg (0 : Int32)) &&& (255 : Int32)))])
    by_cases hc3 : ((ys.getD p2.toNatClampNeg (0 : Int32)) &&& (255 : Int32)) = p4
    · refine own_step (fun _ k => XS.icmpNo X2.here hx rfl (hb hby d17_11) rfl (teq hc3).2 k) ?_
      show own_Go _ _ _ _ T2 (mkF m 14 #[.val (.ref a1), .val (.int p2), .val (.int p3), .val (.int p4)] [])
      refine own_step (fun _ k => XS.iconst X2.here hx rfl (hb hby d17_14) k) ?_
      show own_Go _ _ _ _ T2 (mkF m 15 #[.val (.ref a1), .val (.int p2), .val (.int p3), .val (.int p4)] [(.int (1 : Int32))])
      refine own_step (fun _ k => XS.goto X2.here hx rfl (pc0 := 15) (pc' := 19) rfl (hb hby d17_15) (by decide) (by decide) k) ?_
      show own_Go _ _ _ _ T2 (mkF m 19 #[.val (.ref a1), .val (.int p2), .val (.int p3), .val (.int p4)] [(.int (1 : Int32))])
      exact own_retN X2 hx (t := .boolean) hret (by simp) hlk (hb hby d17_19) rfl (own_N ⟨own_leafI ((if_pos hc1).trans (if_pos hc3)), N2, e2⟩ (by decide) (by decide)) 
    · refine own_step (fun _ k => XS.icmpYes X2.here hx rfl (pc0 := 11) (pc' := 18) rfl (hb hby d17_11) rfl (feq hc3).2 (by decide) (by decide) k) ?_
      show own_Go _ _ _ _ T2 (mkF m 18 #[.val (.ref a1), .val (.int p2), .val (.int p3), .val (.int p4)] [])
      refine own_step (fun _ k => XS.iconst X2.here hx rfl (hb hby d17_18) k) ?_
      show own_Go _ _ _ _ T2 (mkF m 19 #[.val (.ref a1), .val (.int p2), .val (.int p3), .val (.int p4)] [(.int (0 : Int32))])
      exact own_retN X2 hx (t := .boolean) hret (by simp) hlk (hb hby d17_19) rfl (own_N ⟨own_leafI ((if_pos hc1).trans (if_neg hc3)), N2, e2⟩ (by decide) (by decide)) 
  · refine own_step (fun _ k => XS.icmpYes X0.here hx rfl (pc0 := 2) (pc' := 14) rfl (hb hby d17_2) rfl (flt hc1).2.1 (by decide) (by decide) k) ?_
    show own_Go _ _ _ _ T0 (mkF m 14 #[.val (.ref a1), .val (.int p2), .val (.int p3), .val (.int p4)] [])
    refine own_step (fun _ k => XS.iconst X0.here hx rfl (hb hby d17_14) k) ?_
    show own_Go _ _ _ _ T0 (mkF m 15 #[.val (.ref a1), .val (.int p2), .val (.int p3), .val (.int p4)] [(.int (1 : Int32))])
    refine own_step (fun _ k => XS.goto X0.here hx rfl (pc0 := 15) (pc' := 19) rfl (hb hby d17_15) (by decide) (by decide) k) ?_
    show own_Go _ _ _ _ T0 (mkF m 19 #[.val (.ref a1), .val (.int p2), .val (.int p3), .val (.int p4)] [(.int (1 : Int32))])
    exact own_retN X0 hx (t := .boolean) hret (by simp) hlk (hb hby d17_19) rfl (own_N ⟨own_leafI (if_neg hc1), N0, e0⟩ (by decide) (by decide)) 
theorem ef_0 (p1 : Int32) (p2 : Int32) (p3 : Int32) (p4 : Int32) (p5 : Int32) (m : MethodId) : entryFrame m #[(.int p1), (.int p2), (.int p3), (.int p4), (.int p5)] maxLocals = mkF m 0 #[.val (.int p1), .val (.int p2), .val (.int p3), .val (.int p4), .val (.int p5), .unset, .unset, .unset, .unset, .unset, .unset, .unset, .unset, .unset] [] := by first | (simp [entryFrame, mkF, argsToLocals, Value.category, maxLocals]; done) | rfl
theorem pd_21 : parseMethodDescriptor "(ICCCC)[C" = some ⟨[.int, .char, .char, .char, .char], some (.array .char)⟩ := by decide +kernel
theorem pd_22 : parseMethodDescriptor "([C)V" = some ⟨[(.array .char)], none⟩ := by decide +kernel
theorem pd_23 : parseMethodDescriptor "(Ljava/lang/String;)Ljava/lang/String;" = some ⟨[(.object "java/lang/String")], some (.object "java/lang/String")⟩ := by decide +kernel
theorem pd_24 : parseMethodDescriptor "(ICCCC)I" = some ⟨[.int, .char, .char, .char, .char], some .int⟩ := by decide +kernel
theorem pd_25 : parseMethodDescriptor "(Ljava/lang/String;IIC)Z" = some ⟨[(.object "java/lang/String"), .int, .int, .char], some .boolean⟩ := by decide +kernel
set_option maxRecDepth 65536 in
set_option maxHeartbeats 40000000 in
theorem rm0 (l : Launch) (Z : State) (a0 : Array Value) (hw : ∀ d ∈ tables_1, d.before a0 Z = true) (ws : List Jvm.Cond) (p1 : Int32) (p2 : Int32) (p3 : Int32) (p4 : Int32) (p5 : Int32) (cz : Int32) (fv : Value) (h0 : Heap) (n0 : Nat) (Z0 : n0 ≤ h0.size) (hEL : EW Z a0 own_EL) (O0 : Old Z n0 h0) (SC : Sta Z Z.heap "java/lang/String" "COMPACT_STRINGS" "Z" (.int cz)) (hcz : ¬ cz = (0 : Int32)) (SF : Sta Z Z.heap "jdk/internal/util/Preconditions" "SIOOBE_FORMATTER" "Ljava/util/function/BiFunction;" fv) (hfv : fv.isRef = true) :
    own_MetW l x code maxLocals ret ws room_1 #[(.int p1), (.int p2), (.int p3), (.int p4), (.int p5)] Z own_EL h0 (fun v h L => v = some (.int (1 : Int32)) ∧ Fr n0 L) := by
  refine own_bodyW (plainFor_of_name pn_4) (ef_0 p1 p2 p3 p4 p5) ?_
  intro p e s m below meth c T0 X0 hx hby hml0 hret hlk hnm hown hZ e0 eS H0 hS0
  have C0 := CHr.refl H0
  have hml : c.maxLocals = 14 := hml0
  have N0 := Fr.nil n0
  have hf5 := own_five p5
  have hlaw := own_law hf5 (own_drb p1) (own_drb p2) (own_drb p3) (own_drb p4) _ rfl
  refine own_step (fun _ k => XS.iload X0.here hx rfl (hb hby at_0) rfl k) ?_
  show own_Go _ _ _ _ T0 (mkF m 2 #[.val (.int p1), .val (.int p2), .val (.int p3), .val (.int p4), .val (.int p5), .unset, .unset, .unset, .unset, .unset, .unset, .unset, .unset, .unset] [(.int p5)])
  refine own_step (X0.ldcInt hx hown (mvT hZ (hw _ (List.mem_of_getElem? (i := 0) rfl))) (g := (mkF m 2 #[.val (.int p1), .val (.int p2), .val (.int p3), .val (.int p4), .val (.int p5), .unset, .unset, .unset, .unset, .unset, .unset, .unset, .unset, .unset] [(.int p5)])) rfl (hb hby at_2)) ?_
  show own_Go _ _ _ _ T0 (mkF m 4 #[.val (.int p1), .val (.int p2), .val (.int p3), .val (.int p4), .val (.int p5), .unset, .unset, .unset, .unset, .unset, .unset, .unset, .unset, .unset] [(.int (2147483647 : Int32)), (.int p5)])
  refine own_step (fun _ k => XS.iand X0.here hx rfl (hb hby at_4) rfl k) ?_
  show own_Go _ _ _ _ T0 (mkF m 5 #[.val (.int p1), .val (.int p2), .val (.int p3), .val (.int p4), .val (.int p5), .unset, .unset, .unset, .unset, .unset, .unset, .unset, .unset, .unset] [(.int (p5 &&& (2147483647 : Int32)))])
  refine own_step (fun _ k => XS.iconst X0.here hx rfl (hb hby at_5) k) ?_
  show own_Go _ _ _ _ T0 (mkF m 6 #[.val (.int p1), .val (.int p2), .val (.int p3), .val (.int p4), .val (.int p5), .unset, .unset, .unset, .unset, .unset, .unset, .unset, .unset, .unset] [(.int (5 : Int32)), (.int (p5 &&& (2147483647 : Int32)))])
  refine own_step (fun _ k => iremM X0 hx rfl (hb hby at_6) rfl (by decide) k) ?_
  show own_Go _ _ _ _ T0 (mkF m 7 #[.val (.int p1), .val (.int p2), .val (.int p3), .val (.int p4), .val (.int p5), .unset, .unset, .unset, .unset, .unset, .unset, .unset, .unset, .unset] [(.int ((p5 &&& (2147483647 : Int32)) % (5 : Int32)))])
  refine own_step (fun _ k => XS.istore X0.here hx rfl (hb hby at_7) rfl (l' := #[.val (.int p1), .val (.int p2), .val (.int p3), .val (.int p4), .val (.int p5), .val (.int ((p5 &&& (2147483647 : Int32)) % (5 : Int32))), .unset, .unset, .unset, .unset, .unset, .unset, .unset, .unset]) rfl k) ?_
  show own_Go _ _ _ _ T0 (mkF m 9 #[.val (.int p1), .val (.int p2), .val (.int p3), .val (.int p4), .val (.int p5), .val (.int ((p5 &&& (2147483647 : Int32)) % (5 : Int32))), .unset, .unset, .unset, .unset, .unset, .unset, .unset, .unset] [])
  refine own_step (fun _ k => XS.iloadN X0.here hx rfl (hb hby at_9) rfl k) ?_
  show own_Go _ _ _ _ T0 (mkF m 10 #[.val (.int p1), .val (.int p2), .val (.int p3), .val (.int p4), .val (.int p5), .val (.int ((p5 &&& (2147483647 : Int32)) % (5 : Int32))), .unset, .unset, .unset, .unset, .unset, .unset, .unset, .unset] [(.int p1)])
  refine own_callS X0 hx hZ (y := (⟨"com/example/shelfmark/shelfmark/io/DocumentReaderTextPinLaw", "draw", "(I)C"⟩ : MethodName)) hown (hw _ (List.mem_of_getElem? (i := 1) rfl)) (hw _ (List.mem_of_getElem? (i := 2) rfl)) (hw _ (List.mem_of_getElem? (i := 3) rfl)) (hw _ (List.mem_of_getElem? (i := 4) rfl)) (by decide) (rm1 l Z a0 hw [] p1 h0 n0 Z0) e0 0 (by decide) (by decide) (by decide) (by decide) (g := (mkF m 10 #[.val (.int p1), .val (.int p2), .val (.int p3), .val (.int p4), .val (.int p5), .val (.int ((p5 &&& (2147483647 : Int32)) % (5 : Int32))), .unset, .unset, .unset, .unset, .unset, .unset, .unset, .unset] [(.int p1)])) rfl (by rw [hml]; rfl) [(.int p1)] [] pd_20 rfl rfl rfl (by show 2 * 0 + _ ≤ _; exact Nat.le_of_eq rfl) (hb hby at_10) ?_
  rintro v1 T1 L1 X1 ⟨rfl, Nq1, e1⟩
  have N1 := Fr.app N0 Nq1
  show own_Go _ _ _ _ T1 (mkF m 13 #[.val (.int p1), .val (.int p2), .val (.int p3), .val (.int p4), .val (.int p5), .val (.int ((p5 &&& (2147483647 : Int32)) % (5 : Int32))), .unset, .unset, .unset, .unset, .unset, .unset, .unset, .unset] [(.int (own_dr p1))])
  refine own_step (fun _ k => XS.istore X1.here hx rfl (hb hby at_13) rfl (l' := #[.val (.int p1), .val (.int p2), .val (.int p3), .val (.int p4), .val (.int p5), .val (.int ((p5 &&& (2147483647 : Int32)) % (5 : Int32))), .val (.int (own_dr p1)), .unset, .unset, .unset, .unset, .unset, .unset, .unset]) rfl k) ?_
  show own_Go _ _ _ _ T1 (mkF m 15 #[.val (.int p1), .val (.int p2), .val (.int p3), .val (.int p4), .val (.int p5), .val (.int ((p5 &&& (2147483647 : Int32)) % (5 : Int32))), .val (.int (own_dr p1)), .unset, .unset, .unset, .unset, .unset, .unset, .unset] [])
  refine own_step (fun _ k => XS.iloadN X1.here hx rfl (hb hby at_15) rfl k) ?_
  show own_Go _ _ _ _ T1 (mkF m 16 #[.val (.int p1), .val (.int p2), .val (.int p3), .val (.int p4), .val (.int p5), .val (.int ((p5 &&& (2147483647 : Int32)) % (5 : Int32))), .val (.int (own_dr p1)), .unset, .unset, .unset, .unset, .unset, .unset, .unset] [(.int p2)])
  refine own_callS X1 hx hZ (y := (⟨"com/example/shelfmark/shelfmark/io/DocumentReaderTextPinLaw", "draw", "(I)C"⟩ : MethodName)) hown (hw _ (List.mem_of_getElem? (i := 1) rfl)) (hw _ (List.mem_of_getElem? (i := 2) rfl)) (hw _ (List.mem_of_getElem? (i := 3) rfl)) (hw _ (List.mem_of_getElem? (i := 4) rfl)) (by decide) (rm1 l Z a0 hw [] p2 h0 n0 Z0) e1 0 (by decide) (by decide) (by decide) (by decide) (g := (mkF m 16 #[.val (.int p1), .val (.int p2), .val (.int p3), .val (.int p4), .val (.int p5), .val (.int ((p5 &&& (2147483647 : Int32)) % (5 : Int32))), .val (.int (own_dr p1)), .unset, .unset, .unset, .unset, .unset, .unset, .unset] [(.int p2)])) rfl (by rw [hml]; rfl) [(.int p2)] [] pd_20 rfl rfl rfl (by show 2 * 0 + _ ≤ _; exact Nat.le_of_eq rfl) (hb hby at_16) ?_
  rintro v2 T2 L2 X2 ⟨rfl, Nq2, e2⟩
  have N2 := Fr.app N1 Nq2
  show own_Go _ _ _ _ T2 (mkF m 19 #[.val (.int p1), .val (.int p2), .val (.int p3), .val (.int p4), .val (.int p5), .val (.int ((p5 &&& (2147483647 : Int32)) % (5 : Int32))), .val (.int (own_dr p1)), .unset, .unset, .unset, .unset, .unset, .unset, .unset] [(.int (own_dr p2))])
  refine own_step (fun _ k => XS.istore X2.here hx rfl (hb hby at_19) rfl (l' := #[.val (.int p1), .val (.int p2), .val (.int p3), .val (.int p4), .val (.int p5), .val (.int ((p5 &&& (2147483647 : Int32)) % (5 : Int32))), .val (.int (own_dr p1)), .val (.int (own_dr p2)), .unset, .unset, .unset, .unset, .unset, .unset]) rfl k) ?_
  show own_Go _ _ _ _ T2 (mkF m 21 #[.val (.int p1), .val (.int p2), .val (.int p3), .val (.int p4), .val (.int p5), .val (.int ((p5 &&& (2147483647 : Int32)) % (5 : Int32))), .val (.int (own_dr p1)), .val (.int (own_dr p2)), .unset, .unset, .unset, .unset, .unset, .unset] [])
  refine own_step (fun _ k => XS.iloadN X2.here hx rfl (hb hby at_21) rfl k) ?_
  show own_Go _ _ _ _ T2 (mkF m 22 #[.val (.int p1), .val (.int p2), .val (.int p3), .val (.int p4), .val (.int p5), .val (.int ((p5 &&& (2147483647 : Int32)) % (5 : Int32))), .val (.int (own_dr p1)), .val (.int (own_dr p2)), .unset, .unset, .unset, .unset, .unset, .unset] [(.int p3)])
  refine own_callS X2 hx hZ (y := (⟨"com/example/shelfmark/shelfmark/io/DocumentReaderTextPinLaw", "draw", "(I)C"⟩ : MethodName)) hown (hw _ (List.mem_of_getElem? (i := 1) rfl)) (hw _ (List.mem_of_getElem? (i := 2) rfl)) (hw _ (List.mem_of_getElem? (i := 3) rfl)) (hw _ (List.mem_of_getElem? (i := 4) rfl)) (by decide) (rm1 l Z a0 hw [] p3 h0 n0 Z0) e2 0 (by decide) (by decide) (by decide) (by decide) (g := (mkF m 22 #[.val (.int p1), .val (.int p2), .val (.int p3), .val (.int p4), .val (.int p5), .val (.int ((p5 &&& (2147483647 : Int32)) % (5 : Int32))), .val (.int (own_dr p1)), .val (.int (own_dr p2)), .unset, .unset, .unset, .unset, .unset, .unset] [(.int p3)])) rfl (by rw [hml]; rfl) [(.int p3)] [] pd_20 rfl rfl rfl (by show 2 * 0 + _ ≤ _; exact Nat.le_of_eq rfl) (hb hby at_22) ?_
  rintro v3 T3 L3 X3 ⟨rfl, Nq3, e3⟩
  have N3 := Fr.app N2 Nq3
  show own_Go _ _ _ _ T3 (mkF m 25 #[.val (.int p1), .val (.int p2), .val (.int p3), .val (.int p4), .val (.int p5), .val (.int ((p5 &&& (2147483647 : Int32)) % (5 : Int32))), .val (.int (own_dr p1)), .val (.int (own_dr p2)), .unset, .unset, .unset, .unset, .unset, .unset] [(.int (own_dr p3))])
  refine own_step (fun _ k => XS.istore X3.here hx rfl (hb hby at_25) rfl (l' := #[.val (.int p1), .val (.int p2), .val (.int p3), .val (.int p4), .val (.int p5), .val (.int ((p5 &&& (2147483647 : Int32)) % (5 : Int32))), .val (.int (own_dr p1)), .val (.int (own_dr p2)), .val (.int (own_dr p3)), .unset, .unset, .unset, .unset, .unset]) rfl k) ?_
  show own_Go _ _ _ _ T3 (mkF m 27 #[.val (.int p1), .val (.int p2), .val (.int p3), .val (.int p4), .val (.int p5), .val (.int ((p5 &&& (2147483647 : Int32)) % (5 : Int32))), .val (.int (own_dr p1)), .val (.int (own_dr p2)), .val (.int (own_dr p3)), .unset, .unset, .unset, .unset, .unset] [])
  refine own_step (fun _ k => XS.iloadN X3.here hx rfl (hb hby at_27) rfl k) ?_
  show own_Go _ _ _ _ T3 (mkF m 28 #[.val (.int p1), .val (.int p2), .val (.int p3), .val (.int p4), .val (.int p5), .val (.int ((p5 &&& (2147483647 : Int32)) % (5 : Int32))), .val (.int (own_dr p1)), .val (.int (own_dr p2)), .val (.int (own_dr p3)), .unset, .unset, .unset, .unset, .unset] [(.int p4)])
  refine own_callS X3 hx hZ (y := (⟨"com/example/shelfmark/shelfmark/io/DocumentReaderTextPinLaw", "draw", "(I)C"⟩ : MethodName)) hown (hw _ (List.mem_of_getElem? (i := 1) rfl)) (hw _ (List.mem_of_getElem? (i := 2) rfl)) (hw _ (List.mem_of_getElem? (i := 3) rfl)) (hw _ (List.mem_of_getElem? (i := 4) rfl)) (by decide) (rm1 l Z a0 hw [] p4 h0 n0 Z0) e3 0 (by decide) (by decide) (by decide) (by decide) (g := (mkF m 28 #[.val (.int p1), .val (.int p2), .val (.int p3), .val (.int p4), .val (.int p5), .val (.int ((p5 &&& (2147483647 : Int32)) % (5 : Int32))), .val (.int (own_dr p1)), .val (.int (own_dr p2)), .val (.int (own_dr p3)), .unset, .unset, .unset, .unset, .unset] [(.int p4)])) rfl (by rw [hml]; rfl) [(.int p4)] [] pd_20 rfl rfl rfl (by show 2 * 0 + _ ≤ _; exact Nat.le_of_eq rfl) (hb hby at_28) ?_
  rintro v4 T4 L4 X4 ⟨rfl, Nq4, e4⟩
  have N4 := Fr.app N3 Nq4
  show own_Go _ _ _ _ T4 (mkF m 31 #[.val (.int p1), .val (.int p2), .val (.int p3), .val (.int p4), .val (.int p5), .val (.int ((p5 &&& (2147483647 : Int32)) % (5 : Int32))), .val (.int (own_dr p1)), .val (.int (own_dr p2)), .val (.int (own_dr p3)), .unset, .unset, .unset, .unset, .unset] [(.int (own_dr p4))])
  refine own_step (fun _ k => XS.istore X4.here hx rfl (hb hby at_31) rfl (l' := #[.val (.int p1), .val (.int p2), .val (.int p3), .val (.int p4), .val (.int p5), .val (.int ((p5 &&& (2147483647 : Int32)) % (5 : Int32))), .val (.int (own_dr p1)), .val (.int (own_dr p2)), .val (.int (own_dr p3)), .val (.int (own_dr p4)), .unset, .unset, .unset, .unset]) rfl k) ?_
  show own_Go _ _ _ _ T4 (mkF m 33 #[.val (.int p1), .val (.int p2), .val (.int p3), .val (.int p4), .val (.int p5), .val (.int ((p5 &&& (2147483647 : Int32)) % (5 : Int32))), .val (.int (own_dr p1)), .val (.int (own_dr p2)), .val (.int (own_dr p3)), .val (.int (own_dr p4)), .unset, .unset, .unset, .unset] [])
  refine own_step (fun _ k => XS.iload X4.here hx rfl (hb hby at_33) rfl k) ?_
  show own_Go _ _ _ _ T4 (mkF m 35 #[.val (.int p1), .val (.int p2), .val (.int p3), .val (.int p4), .val (.int p5), .val (.int ((p5 &&& (2147483647 : Int32)) % (5 : Int32))), .val (.int (own_dr p1)), .val (.int (own_dr p2)), .val (.int (own_dr p3)), .val (.int (own_dr p4)), .unset, .unset, .unset, .unset] [(.int ((p5 &&& (2147483647 : Int32)) % (5 : Int32)))])
  refine own_step (fun _ k => XS.iload X4.here hx rfl (hb hby at_35) rfl k) ?_
  show own_Go _ _ _ _ T4 (mkF m 37 #[.val (.int p1), .val (.int p2), .val (.int p3), .val (.int p4), .val (.int p5), .val (.int ((p5 &&& (2147483647 : Int32)) % (5 : Int32))), .val (.int (own_dr p1)), .val (.int (own_dr p2)), .val (.int (own_dr p3)), .val (.int (own_dr p4)), .unset, .unset, .unset, .unset] [(.int (own_dr p1)), (.int ((p5 &&& (2147483647 : Int32)) % (5 : Int32)))])
  refine own_step (fun _ k => XS.iload X4.here hx rfl (hb hby at_37) rfl k) ?_
  show own_Go _ _ _ _ T4 (mkF m 39 #[.val (.int p1), .val (.int p2), .val (.int p3), .val (.int p4), .val (.int p5), .val (.int ((p5 &&& (2147483647 : Int32)) % (5 : Int32))), .val (.int (own_dr p1)), .val (.int (own_dr p2)), .val (.int (own_dr p3)), .val (.int (own_dr p4)), .unset, .unset, .unset, .unset] [(.int (own_dr p2)), (.int (own_dr p1)), (.int ((p5 &&& (2147483647 : Int32)) % (5 : Int32)))])
  refine own_step (fun _ k => XS.iload X4.here hx rfl (hb hby at_39) rfl k) ?_
  show own_Go _ _ _ _ T4 (mkF m 41 #[.val (.int p1), .val (.int p2), .val (.int p3), .val (.int p4), .val (.int p5), .val (.int ((p5 &&& (2147483647 : Int32)) % (5 : Int32))), .val (.int (own_dr p1)), .val (.int (own_dr p2)), .val (.int (own_dr p3)), .val (.int (own_dr p4)), .unset, .unset, .unset, .unset] [(.int (own_dr p3)), (.int (own_dr p2)), (.int (own_dr p1)), (.int ((p5 &&& (2147483647 : Int32)) % (5 : Int32)))])
  refine own_step (fun _ k => XS.iload X4.here hx rfl (hb hby at_41) rfl k) ?_
  show own_Go _ _ _ _ T4 (mkF m 43 #[.val (.int p1), .val (.int p2), .val (.int p3), .val (.int p4), .val (.int p5), .val (.int ((p5 &&& (2147483647 : Int32)) % (5 : Int32))), .val (.int (own_dr p1)), .val (.int (own_dr p2)), .val (.int (own_dr p3)), .val (.int (own_dr p4)), .unset, .unset, .unset, .unset] [(.int (own_dr p4)), (.int (own_dr p3)), (.int (own_dr p2)), (.int (own_dr p1)), (.int ((p5 &&& (2147483647 : Int32)) % (5 : Int32)))])
  refine own_callS X4 hx hZ (y := (⟨"com/example/shelfmark/shelfmark/io/DocumentReaderTextPinLaw", "make", "(ICCCC)[C"⟩ : MethodName)) hown (hw _ (List.mem_of_getElem? (i := 5) rfl)) (hw _ (List.mem_of_getElem? (i := 6) rfl)) (hw _ (List.mem_of_getElem? (i := 3) rfl)) (hw _ (List.mem_of_getElem? (i := 7) rfl)) (by decide) (rm2 l Z a0 hw [] ((p5 &&& (2147483647 : Int32)) % (5 : Int32)) (own_dr p1) (own_dr p2) (own_dr p3) (own_dr p4)  h0 n0 Z0 hf5 (own_dn (own_drb _)) (own_dn (own_drb _)) (own_dn (own_drb _)) (own_dn (own_drb _))) e4 0 (by decide) (by decide) (by decide) (by decide) (g := (mkF m 43 #[.val (.int p1), .val (.int p2), .val (.int p3), .val (.int p4), .val (.int p5), .val (.int ((p5 &&& (2147483647 : Int32)) % (5 : Int32))), .val (.int (own_dr p1)), .val (.int (own_dr p2)), .val (.int (own_dr p3)), .val (.int (own_dr p4)), .unset, .unset, .unset, .unset] [(.int (own_dr p4)), (.int (own_dr p3)), (.int (own_dr p2)), (.int (own_dr p1)), (.int ((p5 &&& (2147483647 : Int32)) % (5 : Int32)))])) rfl (by rw [hml]; rfl) [(.int ((p5 &&& (2147483647 : Int32)) % (5 : Int32))), (.int (own_dr p1)), (.int (own_dr p2)), (.int (own_dr p3)), (.int (own_dr p4))] [] pd_21 rfl rfl rfl (by show 2 * 0 + _ ≤ _; exact Nat.le_of_eq rfl) (hb hby at_43) ?_
  rintro v5 T5 L5 X5 ⟨ca, kca, rfl, Nq5, K5, V5⟩
  have N5 := Fr.app N4 Nq5
  show own_Go _ _ _ _ T5 (mkF m 46 #[.val (.int p1), .val (.int p2), .val (.int p3), .val (.int p4), .val (.int p5), .val (.int ((p5 &&& (2147483647 : Int32)) % (5 : Int32))), .val (.int (own_dr p1)), .val (.int (own_dr p2)), .val (.int (own_dr p3)), .val (.int (own_dr p4)), .unset, .unset, .unset, .unset] [(.ref ca)])
  have Dc5 := (CHr.keep K5 sf0 C0.1)
  have C5 := C0.trans Dc5
  have hk5 := Nat.le_trans (Nat.le_refl _) Dc5.2.1
  have Z5 := Nat.le_trans Z0 K5.1
  refine own_step (fun _ k => XS.astore X5.here hx rfl (hb hby at_46) rfl rfl (l' := #[.val (.int p1), .val (.int p2), .val (.int p3), .val (.int p4), .val (.int p5), .val (.int ((p5 &&& (2147483647 : Int32)) % (5 : Int32))), .val (.int (own_dr p1)), .val (.int (own_dr p2)), .val (.int (own_dr p3)), .val (.int (own_dr p4)), .val (.ref ca), .unset, .unset, .unset]) rfl k) ?_
  show own_Go _ _ _ _ T5 (mkF m 48 #[.val (.int p1), .val (.int p2), .val (.int p3), .val (.int p4), .val (.int p5), .val (.int ((p5 &&& (2147483647 : Int32)) % (5 : Int32))), .val (.int (own_dr p1)), .val (.int (own_dr p2)), .val (.int (own_dr p3)), .val (.int (own_dr p4)), .val (.ref ca), .unset, .unset, .unset] [])
  obtain ⟨T6, h6, X6, e6, E6, A6, D6, -, st6⟩ := newO X5 hx hZ hown (hw _ (List.mem_of_getElem? (i := 9) rfl)) (hw _ (List.mem_of_getElem? (i := 10) rfl)) (hw _ (List.mem_of_getElem? (i := 11) rfl)) rfl (g := (mkF m 48 #[.val (.int p1), .val (.int p2), .val (.int p3), .val (.int p4), .val (.int p5), .val (.int ((p5 &&& (2147483647 : Int32)) % (5 : Int32))), .val (.int (own_dr p1)), .val (.int (own_dr p2)), .val (.int (own_dr p3)), .val (.int (own_dr p4)), .val (.ref ca), .unset, .unset, .unset] [])) rfl (hb hby at_48) (by decide) (by decide)
  obtain ⟨so, g6⟩ : ∃ z, z = T5.heap.size := ⟨_, rfl⟩
  rw [← g6] at A6 D6 st6
  have ne_ca_so : ca ≠ so := Nat.ne_of_lt (Nat.lt_of_lt_of_eq V5.lt g6.symm)
  have g_so : n0 ≤ so := Nat.le_trans Z5 (Nat.le_of_eq g6.symm)
  refine own_step st6 ?_
  have Dc6 := (CHr.ext E6 C5.1)
  have C6 := C5.trans Dc6
  have hk6 := Nat.le_trans hk5 Dc6.2.1
  have Z6 := Nat.le_trans Z5 E6.1
  have F_value_so : Fld Z h6 so "java/lang/String" "value" "[B" .null := D6 (Or.inr (hw _ (List.mem_of_getElem? (i := 24) rfl))) (ty := (.array .byte)) (by decide)
  have F_coder_so : Fld Z h6 so "java/lang/String" "coder" "B" (.int (0 : Int32)) := D6 (Or.inr (hw _ (List.mem_of_getElem? (i := 25) rfl))) (ty := .byte) (by decide)
  show own_Go _ _ _ _ T6 (mkF m 51 #[.val (.int p1), .val (.int p2), .val (.int p3), .val (.int p4), .val (.int p5), .val (.int ((p5 &&& (2147483647 : Int32)) % (5 : Int32))), .val (.int (own_dr p1)), .val (.int (own_dr p2)), .val (.int (own_dr p3)), .val (.int (own_dr p4)), .val (.ref ca), .unset, .unset, .unset] [(.ref so)])
  refine own_step (fun _ k => XS.dup X6.here hx rfl (hb hby at_51) rfl rfl k) ?_
  show own_Go _ _ _ _ T6 (mkF m 52 #[.val (.int p1), .val (.int p2), .val (.int p3), .val (.int p4), .val (.int p5), .val (.int ((p5 &&& (2147483647 : Int32)) % (5 : Int32))), .val (.int (own_dr p1)), .val (.int (own_dr p2)), .val (.int (own_dr p3)), .val (.int (own_dr p4)), .val (.ref ca), .unset, .unset, .unset] [(.ref so), (.ref so)])
  refine own_step (fun _ k => XS.aload X6.here hx rfl (hb hby at_52) rfl rfl k) ?_
  show own_Go _ _ _ _ T6 (mkF m 54 #[.val (.int p1), .val (.int p2), .val (.int p3), .val (.int p4), .val (.int p5), .val (.int ((p5 &&& (2147483647 : Int32)) % (5 : Int32))), .val (.int (own_dr p1)), .val (.int (own_dr p2)), .val (.int (own_dr p3)), .val (.int (own_dr p4)), .val (.ref ca), .unset, .unset, .unset] [(.ref ca), (.ref so), (.ref so)])
  have Q7 := ((O0.keep K5 all0).ext E6)
  have Q8 := (V5.ext E6)
  refine own_callCW X6 hx hZ (y := (⟨"java/lang/String", "<init>", "([C)V"⟩ : MethodName)) rfl hown (hw _ (List.mem_of_getElem? (i := 12) rfl)) (hw _ (List.mem_of_getElem? (i := 13) rfl)) (hw _ (List.mem_of_getElem? (i := 11) rfl)) (hw _ (List.mem_of_getElem? (i := 14) rfl)) (by decide) (rm3 l Z a0 hw [] so ca kca cz ((p5 &&& (2147483647 : Int32)) % (5 : Int32)) (own_mk ((p5 &&& (2147483647 : Int32)) % (5 : Int32)) (own_dr p1) (own_dr p2) (own_dr p3) (own_dr p4)) h6 n0 Z6 hEL Q7 SC hcz A6 F_coder_so F_value_so Q8 (own_mkl hf5 _ _ _ _) (own_mkc hf5 _ _ _ _) (own_mka hf5 (own_dl (own_drb p1)) (own_dl (own_drb p2)) (own_dl (own_drb p3)) (own_dl (own_drb p4))) g_so) e6 hEL C6.1 hS0 hk6 (b := so) 1 (by decide) (by decide) (by decide) (by decide) (g := (mkF m 54 #[.val (.int p1), .val (.int p2), .val (.int p3), .val (.int p4), .val (.int p5), .val (.int ((p5 &&& (2147483647 : Int32)) % (5 : Int32))), .val (.int (own_dr p1)), .val (.int (own_dr p2)), .val (.int (own_dr p3)), .val (.int (own_dr p4)), .val (.ref ca), .unset, .unset, .unset] [(.ref ca), (.ref so), (.ref so)])) rfl (by rw [hml]; rfl) [(.ref ca)] [(.ref so)] pd_22 rfl rfl rfl (by show 2 * 0 + _ ≤ _; exact Nat.le_of_eq rfl) (hb hby at_54) ?_
  rintro v9 T9 L9 X9 ⟨va_so, kv_so, rfl, Nq9, K9, ⟨EX9, FC9, FV9⟩, V9⟩ D9 hS9 hZ hown
  have N9 := Fr.app N5 Nq9
  show own_Go _ _ _ _ T9 (mkF m 57 #[.val (.int p1), .val (.int p2), .val (.int p3), .val (.int p4), .val (.int p5), .val (.int ((p5 &&& (2147483647 : Int32)) % (5 : Int32))), .val (.int (own_dr p1)), .val (.int (own_dr p2)), .val (.int (own_dr p3)), .val (.int (own_dr p4)), .val (.ref ca), .unset, .unset, .unset] [(.ref so)])
  have Dc9 := D9
  have C9 := C6.trans Dc9
  have Z9 := Nat.le_trans Z6 K9.1
  refine own_step (fun _ k => XS.astore X9.here hx rfl (hb hby at_57) rfl rfl (l' := #[.val (.int p1), .val (.int p2), .val (.int p3), .val (.int p4), .val (.int p5), .val (.int ((p5 &&& (2147483647 : Int32)) % (5 : Int32))), .val (.int (own_dr p1)), .val (.int (own_dr p2)), .val (.int (own_dr p3)), .val (.int (own_dr p4)), .val (.ref ca), .val (.ref so), .unset, .unset]) rfl k) ?_
  show own_Go _ _ _ _ T9 (mkF m 59 #[.val (.int p1), .val (.int p2), .val (.int p3), .val (.int p4), .val (.int p5), .val (.int ((p5 &&& (2147483647 : Int32)) % (5 : Int32))), .val (.int (own_dr p1)), .val (.int (own_dr p2)), .val (.int (own_dr p3)), .val (.int (own_dr p4)), .val (.ref ca), .val (.ref so), .unset, .unset] [])
  refine own_step (fun _ k => XS.aload X9.here hx rfl (hb hby at_59) rfl rfl k) ?_
  show own_Go _ _ _ _ T9 (mkF m 61 #[.val (.int p1), .val (.int p2), .val (.int p3), .val (.int p4), .val (.int p5), .val (.int ((p5 &&& (2147483647 : Int32)) % (5 : Int32))), .val (.int (own_dr p1)), .val (.int (own_dr p2)), .val (.int (own_dr p3)), .val (.int (own_dr p4)), .val (.ref ca), .val (.ref so), .unset, .unset] [(.ref so)])
  have Q10 := (Q7.keep K9 (allS g_so all0))
  refine own_callSW X9 hx hZ (y := (⟨"com/example/shelfmark/shelfmark/io/DocumentReader", "text", "(Ljava/lang/String;)Ljava/lang/String;"⟩ : MethodName)) hown (hw _ (List.mem_of_getElem? (i := 30) rfl)) (hw _ (List.mem_of_getElem? (i := 31) rfl)) (hw _ (List.mem_of_getElem? (i := 32) rfl)) (hw _ (List.mem_of_getElem? (i := 33) rfl)) (by decide) (rm6 l Z a0 hw [] so cz fv va_so kv_so ((p5 &&& (2147483647 : Int32)) % (5 : Int32)) ((own_mk ((p5 &&& (2147483647 : Int32)) % (5 : Int32)) (own_dr p1) (own_dr p2) (own_dr p3) (own_dr p4)).map (fun c => c.toInt8.toInt32)) T9.heap n0 Z9 hEL Q10 SC hcz SF hfv EX9 FC9 FV9 V9 (by rw [List.length_map]; exact own_mkl hf5 _ _ _ _) (by rw [List.length_map]; exact own_mkc hf5 _ _ _ _)) rfl hEL C9.1 hS9 (Nat.le_refl _) 0 (by decide) (by decide) (by decide) (by decide) (g := (mkF m 61 #[.val (.int p1), .val (.int p2), .val (.int p3), .val (.int p4), .val (.int p5), .val (.int ((p5 &&& (2147483647 : Int32)) % (5 : Int32))), .val (.int (own_dr p1)), .val (.int (own_dr p2)), .val (.int (own_dr p3)), .val (.int (own_dr p4)), .val (.ref ca), .val (.ref so), .unset, .unset] [(.ref so)])) rfl (by rw [hml]; rfl) [(.ref so)] [] pd_23 rfl rfl rfl (by show 2 * 0 + _ ≤ _; exact Nat.le_of_eq rfl) (hb hby at_61) ?_
  rintro v11 T11 L11 X11 ⟨xs, xb, xk, xz, rfl, Nq11, K11, ⟨EX11, FC11, FV11⟩, hxz, V11⟩ D11 hS11 hZ hown
  have N11 := Fr.app N9 Nq11
  show own_Go _ _ _ _ T11 (mkF m 64 #[.val (.int p1), .val (.int p2), .val (.int p3), .val (.int p4), .val (.int p5), .val (.int ((p5 &&& (2147483647 : Int32)) % (5 : Int32))), .val (.int (own_dr p1)), .val (.int (own_dr p2)), .val (.int (own_dr p3)), .val (.int (own_dr p4)), .val (.ref ca), .val (.ref so), .unset, .unset] [(.ref xs)])
  have Dc11 := D11
  have C11 := C9.trans Dc11
  have Z11 := Nat.le_trans Z9 K11.1
  obtain rfl : xz = (own_ft ((p5 &&& (2147483647 : Int32)) % (5 : Int32)) (own_dr p1) (own_dr p2) (own_dr p3) (own_dr p4)) := Int32.toInt_inj.mp (hxz.trans hlaw.1.symm)
  obtain ⟨yt, hyt⟩ : ∃ y, y = (((own_mk ((p5 &&& (2147483647 : Int32)) % (5 : Int32)) (own_dr p1) (own_dr p2) (own_dr p3) (own_dr p4)).map (fun c => c.toInt8.toInt32)).take (own_tab ((9 : Int32).toInt8.toInt32) ((own_mk ((p5 &&& (2147483647 : Int32)) % (5 : Int32)) (own_dr p1) (own_dr p2) (own_dr p3) (own_dr p4)).map (fun c => c.toInt8.toInt32)))) := ⟨_, rfl⟩
  rw [← hyt] at V11 hlaw
  refine own_step (fun _ k => XS.astore X11.here hx rfl (hb hby at_64) rfl rfl (l' := #[.val (.int p1), .val (.int p2), .val (.int p3), .val (.int p4), .val (.int p5), .val (.int ((p5 &&& (2147483647 : Int32)) % (5 : Int32))), .val (.int (own_dr p1)), .val (.int (own_dr p2)), .val (.int (own_dr p3)), .val (.int (own_dr p4)), .val (.ref ca), .val (.ref so), .val (.ref xs), .unset]) rfl k) ?_
  show own_Go _ _ _ _ T11 (mkF m 66 #[.val (.int p1), .val (.int p2), .val (.int p3), .val (.int p4), .val (.int p5), .val (.int ((p5 &&& (2147483647 : Int32)) % (5 : Int32))), .val (.int (own_dr p1)), .val (.int (own_dr p2)), .val (.int (own_dr p3)), .val (.int (own_dr p4)), .val (.ref ca), .val (.ref so), .val (.ref xs), .unset] [])
  refine own_step (fun _ k => XS.iload X11.here hx rfl (hb hby at_66) rfl k) ?_
  show own_Go _ _ _ _ T11 (mkF m 68 #[.val (.int p1), .val (.int p2), .val (.int p3), .val (.int p4), .val (.int p5), .val (.int ((p5 &&& (2147483647 : Int32)) % (5 : Int32))), .val (.int (own_dr p1)), .val (.int (own_dr p2)), .val (.int (own_dr p3)), .val (.int (own_dr p4)), .val (.ref ca), .val (.ref so), .val (.ref xs), .unset] [(.int ((p5 &&& (2147483647 : Int32)) % (5 : Int32)))])
  refine own_step (fun _ k => XS.iload X11.here hx rfl (hb hby at_68) rfl k) ?_
  show own_Go _ _ _ _ T11 (mkF m 70 #[.val (.int p1), .val (.int p2), .val (.int p3), .val (.int p4), .val (.int p5), .val (.int ((p5 &&& (2147483647 : Int32)) % (5 : Int32))), .val (.int (own_dr p1)), .val (.int (own_dr p2)), .val (.int (own_dr p3)), .val (.int (own_dr p4)), .val (.ref ca), .val (.ref so), .val (.ref xs), .unset] [(.int (own_dr p1)), (.int ((p5 &&& (2147483647 : Int32)) % (5 : Int32)))])
  refine own_step (fun _ k => XS.iload X11.here hx rfl (hb hby at_70) rfl k) ?_
  show own_Go _ _ _ _ T11 (mkF m 72 #[.val (.int p1), .val (.int p2), .val (.int p3), .val (.int p4), .val (.int p5), .val (.int ((p5 &&& (2147483647 : Int32)) % (5 : Int32))), .val (.int (own_dr p1)), .val (.int (own_dr p2)), .val (.int (own_dr p3)), .val (.int (own_dr p4)), .val (.ref ca), .val (.ref so), .val (.ref xs), .unset] [(.int (own_dr p2)), (.int (own_dr p1)), (.int ((p5 &&& (2147483647 : Int32)) % (5 : Int32)))])
  refine own_step (fun _ k => XS.iload X11.here hx rfl (hb hby at_72) rfl k) ?_
  show own_Go _ _ _ _ T11 (mkF m 74 #[.val (.int p1), .val (.int p2), .val (.int p3), .val (.int p4), .val (.int p5), .val (.int ((p5 &&& (2147483647 : Int32)) % (5 : Int32))), .val (.int (own_dr p1)), .val (.int (own_dr p2)), .val (.int (own_dr p3)), .val (.int (own_dr p4)), .val (.ref ca), .val (.ref so), .val (.ref xs), .unset] [(.int (own_dr p3)), (.int (own_dr p2)), (.int (own_dr p1)), (.int ((p5 &&& (2147483647 : Int32)) % (5 : Int32)))])
  refine own_step (fun _ k => XS.iload X11.here hx rfl (hb hby at_74) rfl k) ?_
  show own_Go _ _ _ _ T11 (mkF m 76 #[.val (.int p1), .val (.int p2), .val (.int p3), .val (.int p4), .val (.int p5), .val (.int ((p5 &&& (2147483647 : Int32)) % (5 : Int32))), .val (.int (own_dr p1)), .val (.int (own_dr p2)), .val (.int (own_dr p3)), .val (.int (own_dr p4)), .val (.ref ca), .val (.ref so), .val (.ref xs), .unset] [(.int (own_dr p4)), (.int (own_dr p3)), (.int (own_dr p2)), (.int (own_dr p1)), (.int ((p5 &&& (2147483647 : Int32)) % (5 : Int32)))])
  refine own_callS X11 hx hZ (y := (⟨"com/example/shelfmark/shelfmark/io/DocumentReaderTextPinLaw", "firstTab", "(ICCCC)I"⟩ : MethodName)) hown (hw _ (List.mem_of_getElem? (i := 74) rfl)) (hw _ (List.mem_of_getElem? (i := 75) rfl)) (hw _ (List.mem_of_getElem? (i := 3) rfl)) (hw _ (List.mem_of_getElem? (i := 76) rfl)) (by decide) (rm16 l Z a0 hw [] ((p5 &&& (2147483647 : Int32)) % (5 : Int32)) (own_dr p1) (own_dr p2) (own_dr p3) (own_dr p4) T11.heap n0 Z11) rfl 0 (by decide) (by decide) (by decide) (by decide) (g := (mkF m 76 #[.val (.int p1), .val (.int p2), .val (.int p3), .val (.int p4), .val (.int p5), .val (.int ((p5 &&& (2147483647 : Int32)) % (5 : Int32))), .val (.int (own_dr p1)), .val (.int (own_dr p2)), .val (.int (own_dr p3)), .val (.int (own_dr p4)), .val (.ref ca), .val (.ref so), .val (.ref xs), .unset] [(.int (own_dr p4)), (.int (own_dr p3)), (.int (own_dr p2)), (.int (own_dr p1)), (.int ((p5 &&& (2147483647 : Int32)) % (5 : Int32)))])) rfl (by rw [hml]; rfl) [(.int ((p5 &&& (2147483647 : Int32)) % (5 : Int32))), (.int (own_dr p1)), (.int (own_dr p2)), (.int (own_dr p3)), (.int (own_dr p4))] [] pd_24 rfl rfl rfl (by show 2 * 0 + _ ≤ _; exact Nat.le_of_eq rfl) (hb hby at_76) ?_
  rintro v12 T12 L12 X12 ⟨rfl, Nq12, e12⟩
  have N12 := Fr.app N11 Nq12
  show own_Go _ _ _ _ T12 (mkF m 79 #[.val (.int p1), .val (.int p2), .val (.int p3), .val (.int p4), .val (.int p5), .val (.int ((p5 &&& (2147483647 : Int32)) % (5 : Int32))), .val (.int (own_dr p1)), .val (.int (own_dr p2)), .val (.int (own_dr p3)), .val (.int (own_dr p4)), .val (.ref ca), .val (.ref so), .val (.ref xs), .unset] [(.int (own_ft ((p5 &&& (2147483647 : Int32)) % (5 : Int32)) (own_dr p1) (own_dr p2) (own_dr p3) (own_dr p4)))])
  refine own_step (fun _ k => XS.istore X12.here hx rfl (hb hby at_79) rfl (l' := #[.val (.int p1), .val (.int p2), .val (.int p3), .val (.int p4), .val (.int p5), .val (.int ((p5 &&& (2147483647 : Int32)) % (5 : Int32))), .val (.int (own_dr p1)), .val (.int (own_dr p2)), .val (.int (own_dr p3)), .val (.int (own_dr p4)), .val (.ref ca), .val (.ref so), .val (.ref xs), .val (.int (own_ft ((p5 &&& (2147483647 : Int32)) % (5 : Int32)) (own_dr p1) (own_dr p2) (own_dr p3) (own_dr p4)))]) rfl k) ?_
  show own_Go _ _ _ _ T12 (mkF m 81 #[.val (.int p1), .val (.int p2), .val (.int p3), .val (.int p4), .val (.int p5), .val (.int ((p5 &&& (2147483647 : Int32)) % (5 : Int32))), .val (.int (own_dr p1)), .val (.int (own_dr p2)), .val (.int (own_dr p3)), .val (.int (own_dr p4)), .val (.ref ca), .val (.ref so), .val (.ref xs), .val (.int (own_ft ((p5 &&& (2147483647 : Int32)) % (5 : Int32)) (own_dr p1) (own_dr p2) (own_dr p3) (own_dr p4)))] [])
  refine own_step (fun _ k => XS.aload X12.here hx rfl (hb hby at_81) rfl rfl k) ?_
  show own_Go _ _ _ _ T12 (mkF m 83 #[.val (.int p1), .val (.int p2), .val (.int p3), .val (.int p4), .val (.int p5), .val (.int ((p5 &&& (2147483647 : Int32)) % (5 : Int32))), .val (.int (own_dr p1)), .val (.int (own_dr p2)), .val (.int (own_dr p3)), .val (.int (own_dr p4)), .val (.ref ca), .val (.ref so), .val (.ref xs), .val (.int (own_ft ((p5 &&& (2147483647 : Int32)) % (5 : Int32)) (own_dr p1) (own_dr p2) (own_dr p3) (own_dr p4)))] [(.ref xs)])
  refine own_step (fun _ k => XS.ifnullNo X12.here hx rfl (hb hby at_83) rfl k) ?_
  show own_Go _ _ _ _ T12 (mkF m 86 #[.val (.int p1), .val (.int p2), .val (.int p3), .val (.int p4), .val (.int p5), .val (.int ((p5 &&& (2147483647 : Int32)) % (5 : Int32))), .val (.int (own_dr p1)), .val (.int (own_dr p2)), .val (.int (own_dr p3)), .val (.int (own_dr p4)), .val (.ref ca), .val (.ref so), .val (.ref xs), .val (.int (own_ft ((p5 &&& (2147483647 : Int32)) % (5 : Int32)) (own_dr p1) (own_dr p2) (own_dr p3) (own_dr p4)))] [])
  refine own_step (fun _ k => XS.aload X12.here hx rfl (hb hby at_86) rfl rfl k) ?_
  show own_Go _ _ _ _ T12 (mkF m 88 #[.val (.int p1), .val (.int p2), .val (.int p3), .val (.int p4), .val (.int p5), .val (.int ((p5 &&& (2147483647 : Int32)) % (5 : Int32))), .val (.int (own_dr p1)), .val (.int (own_dr p2)), .val (.int (own_dr p3)), .val (.int (own_dr p4)), .val (.ref ca), .val (.ref so), .val (.ref xs), .val (.int (own_ft ((p5 &&& (2147483647 : Int32)) % (5 : Int32)) (own_dr p1) (own_dr p2) (own_dr p3) (own_dr p4)))] [(.ref xs)])
  have Q13 := (Q10.keep K11 all0)
  refine own_callV X12 hx hZ (y := (⟨"java/lang/String", "length", "()I"⟩ : MethodName)) (z := (⟨"java/lang/String", "length", "()I"⟩ : MethodName)) hown (hw _ (List.mem_of_getElem? (i := 77) rfl)) (hw _ (List.mem_of_getElem? (i := 51) rfl)) (hw _ (List.mem_of_getElem? (i := 53) rfl)) (hw _ (List.mem_of_getElem? (i := 53) rfl)) (hw _ (List.mem_of_getElem? (i := 52) rfl)) (hw _ (List.mem_of_getElem? (i := 11) rfl)) (hw _ (List.mem_of_getElem? (i := 54) rfl)) (by decide) (rm10 l Z a0 hw [] xs cz xb xk (own_ft ((p5 &&& (2147483647 : Int32)) % (5 : Int32)) (own_dr p1) (own_dr p2) (own_dr p3) (own_dr p4)) _ T11.heap n0 Z11 Q13 SC hcz EX11 FC11 FV11 V11) e12 (b := xs) EX11 0 (by decide) (by decide) (by decide) (by decide) (g := (mkF m 88 #[.val (.int p1), .val (.int p2), .val (.int p3), .val (.int p4), .val (.int p5), .val (.int ((p5 &&& (2147483647 : Int32)) % (5 : Int32))), .val (.int (own_dr p1)), .val (.int (own_dr p2)), .val (.int (own_dr p3)), .val (.int (own_dr p4)), .val (.ref ca), .val (.ref so), .val (.ref xs), .val (.int (own_ft ((p5 &&& (2147483647 : Int32)) % (5 : Int32)) (own_dr p1) (own_dr p2) (own_dr p3) (own_dr p4)))] [(.ref xs)])) rfl (by rw [hml]; rfl) [] [] pd_12 rfl rfl rfl (by show 2 * 0 + _ ≤ _; exact Nat.le_of_eq rfl) (hb hby at_88) ?_
  rintro v14 T14 L14 X14 ⟨rfl, Nq14, e14⟩
  have N14 := Fr.app N12 Nq14
  show own_Go _ _ _ _ T14 (mkF m 91 #[.val (.int p1), .val (.int p2), .val (.int p3), .val (.int p4), .val (.int p5), .val (.int ((p5 &&& (2147483647 : Int32)) % (5 : Int32))), .val (.int (own_dr p1)), .val (.int (own_dr p2)), .val (.int (own_dr p3)), .val (.int (own_dr p4)), .val (.ref ca), .val (.ref so), .val (.ref xs), .val (.int (own_ft ((p5 &&& (2147483647 : Int32)) % (5 : Int32)) (own_dr p1) (own_dr p2) (own_dr p3) (own_dr p4)))] [(.int (own_ft ((p5 &&& (2147483647 : Int32)) % (5 : Int32)) (own_dr p1) (own_dr p2) (own_dr p3) (own_dr p4)))])
  refine own_step (fun _ k => XS.iload X14.here hx rfl (hb hby at_91) rfl k) ?_
  show own_Go _ _ _ _ T14 (mkF m 93 #[.val (.int p1), .val (.int p2), .val (.int p3), .val (.int p4), .val (.int p5), .val (.int ((p5 &&& (2147483647 : Int32)) % (5 : Int32))), .val (.int (own_dr p1)), .val (.int (own_dr p2)), .val (.int (own_dr p3)), .val (.int (own_dr p4)), .val (.ref ca), .val (.ref so), .val (.ref xs), .val (.int (own_ft ((p5 &&& (2147483647 : Int32)) % (5 : Int32)) (own_dr p1) (own_dr p2) (own_dr p3) (own_dr p4)))] [(.int (own_ft ((p5 &&& (2147483647 : Int32)) % (5 : Int32)) (own_dr p1) (own_dr p2) (own_dr p3) (own_dr p4))), (.int (own_ft ((p5 &&& (2147483647 : Int32)) % (5 : Int32)) (own_dr p1) (own_dr p2) (own_dr p3) (own_dr p4)))])
  refine own_step (fun _ k => XS.icmpYes X14.here hx rfl (pc0 := 93) (pc' := 98) rfl (hb hby at_93) rfl (teq (rfl : (own_ft ((p5 &&& (2147483647 : Int32)) % (5 : Int32)) (own_dr p1) (own_dr p2) (own_dr p3) (own_dr p4)) = (own_ft ((p5 &&& (2147483647 : Int32)) % (5 : Int32)) (own_dr p1) (own_dr p2) (own_dr p3) (own_dr p4)))).1 (by decide) (by decide) k) ?_
  show own_Go _ _ _ _ T14 (mkF m 98 #[.val (.int p1), .val (.int p2), .val (.int p3), .val (.int p4), .val (.int p5), .val (.int ((p5 &&& (2147483647 : Int32)) % (5 : Int32))), .val (.int (own_dr p1)), .val (.int (own_dr p2)), .val (.int (own_dr p3)), .val (.int (own_dr p4)), .val (.ref ca), .val (.ref so), .val (.ref xs), .val (.int (own_ft ((p5 &&& (2147483647 : Int32)) % (5 : Int32)) (own_dr p1) (own_dr p2) (own_dr p3) (own_dr p4)))] [])
  refine own_step (fun _ k => XS.aload X14.here hx rfl (hb hby at_98) rfl rfl k) ?_
  show own_Go _ _ _ _ T14 (mkF m 100 #[.val (.int p1), .val (.int p2), .val (.int p3), .val (.int p4), .val (.int p5), .val (.int ((p5 &&& (2147483647 : Int32)) % (5 : Int32))), .val (.int (own_dr p1)), .val (.int (own_dr p2)), .val (.int (own_dr p3)), .val (.int (own_dr p4)), .val (.ref ca), .val (.ref so), .val (.ref xs), .val (.int (own_ft ((p5 &&& (2147483647 : Int32)) % (5 : Int32)) (own_dr p1) (own_dr p2) (own_dr p3) (own_dr p4)))] [(.ref xs)])
  refine own_step (fun _ k => XS.iconst X14.here hx rfl (hb hby at_100) k) ?_
  show own_Go _ _ _ _ T14 (mkF m 101 #[.val (.int p1), .val (.int p2), .val (.int p3), .val (.int p4), .val (.int p5), .val (.int ((p5 &&& (2147483647 : Int32)) % (5 : Int32))), .val (.int (own_dr p1)), .val (.int (own_dr p2)), .val (.int (own_dr p3)), .val (.int (own_dr p4)), .val (.ref ca), .val (.ref so), .val (.ref xs), .val (.int (own_ft ((p5 &&& (2147483647 : Int32)) % (5 : Int32)) (own_dr p1) (own_dr p2) (own_dr p3) (own_dr p4)))] [(.int (0 : Int32)), (.ref xs)])
  refine own_step (fun _ k => XS.iload X14.here hx rfl (hb hby at_101) rfl k) ?_
  show own_Go _ _ _ _ T14 (mkF m 103 #[.val (.int p1), .val (.int p2), .val (.int p3), .val (.int p4), .val (.int p5), .val (.int ((p5 &&& (2147483647 : Int32)) % (5 : Int32))), .val (.int (own_dr p1)), .val (.int (own_dr p2)), .val (.int (own_dr p3)), .val (.int (own_dr p4)), .val (.ref ca), .val (.ref so), .val (.ref xs), .val (.int (own_ft ((p5 &&& (2147483647 : Int32)) % (5 : Int32)) (own_dr p1) (own_dr p2) (own_dr p3) (own_dr p4)))] [(.int (own_ft ((p5 &&& (2147483647 : Int32)) % (5 : Int32)) (own_dr p1) (own_dr p2) (own_dr p3) (own_dr p4))), (.int (0 : Int32)), (.ref xs)])
  refine own_step (fun _ k => XS.iload X14.here hx rfl (hb hby at_103) rfl k) ?_
  show own_Go _ _ _ _ T14 (mkF m 105 #[.val (.int p1), .val (.int p2), .val (.int p3), .val (.int p4), .val (.int p5), .val (.int ((p5 &&& (2147483647 : Int32)) % (5 : Int32))), .val (.int (own_dr p1)), .val (.int (own_dr p2)), .val (.int (own_dr p3)), .val (.int (own_dr p4)), .val (.ref ca), .val (.ref so), .val (.ref xs), .val (.int (own_ft ((p5 &&& (2147483647 : Int32)) % (5 : Int32)) (own_dr p1) (own_dr p2) (own_dr p3) (own_dr p4)))] [(.int (own_dr p1)), (.int (own_ft ((p5 &&& (2147483647 : Int32)) % (5 : Int32)) (own_dr p1) (own_dr p2) (own_dr p3) (own_dr p4))), (.int (0 : Int32)), (.ref xs)])
  refine own_callS X14 hx hZ (y := (⟨"com/example/shelfmark/shelfmark/io/DocumentReaderTextPinLaw", "same", "(Ljava/lang/String;IIC)Z"⟩ : MethodName)) hown (hw _ (List.mem_of_getElem? (i := 78) rfl)) (hw _ (List.mem_of_getElem? (i := 79) rfl)) (hw _ (List.mem_of_getElem? (i := 3) rfl)) (hw _ (List.mem_of_getElem? (i := 80) rfl)) (by decide) (rm17 l Z a0 hw [] xs (0 : Int32) (own_ft ((p5 &&& (2147483647 : Int32)) % (5 : Int32)) (own_dr p1) (own_dr p2) (own_dr p3) (own_dr p4)) (own_dr p1) cz fv xb xk yt T11.heap n0 Z11 Q13 SC hcz SF hfv EX11 FC11 FV11 V11 (by decide)) e14 0 (by decide) (by decide) (by decide) (by decide) (g := (mkF m 105 #[.val (.int p1), .val (.int p2), .val (.int p3), .val (.int p4), .val (.int p5), .val (.int ((p5 &&& (2147483647 : Int32)) % (5 : Int32))), .val (.int (own_dr p1)), .val (.int (own_dr p2)), .val (.int (own_dr p3)), .val (.int (own_dr p4)), .val (.ref ca), .val (.ref so), .val (.ref xs), .val (.int (own_ft ((p5 &&& (2147483647 : Int32)) % (5 : Int32)) (own_dr p1) (own_dr p2) (own_dr p3) (own_dr p4)))] [(.int (own_dr p1)), (.int (own_ft ((p5 &&& (2147483647 : Int32)) % (5 : Int32)) (own_dr p1) (own_dr p2) (own_dr p3) (own_dr p4))), (.int (0 : Int32)), (.ref xs)])) rfl (by rw [hml]; rfl) [(.ref xs), (.int (0 : Int32)), (.int (own_ft ((p5 &&& (2147483647 : Int32)) % (5 : Int32)) (own_dr p1) (own_dr p2) (own_dr p3) (own_dr p4))), (.int (own_dr p1))] [] pd_25 rfl rfl rfl (by show 2 * 0 + _ ≤ _; exact Nat.le_of_eq rfl) (hb hby at_105) ?_
  rintro v15 T15 L15 X15 ⟨rfl, Nq15, e15⟩
  have N15 := Fr.app N14 Nq15
  show own_Go _ _ _ _ T15 (mkF m 108 #[.val (.int p1), .val (.int p2), .val (.int p3), .val (.int p4), .val (.int p5), .val (.int ((p5 &&& (2147483647 : Int32)) % (5 : Int32))), .val (.int (own_dr p1)), .val (.int (own_dr p2)), .val (.int (own_dr p3)), .val (.int (own_dr p4)), .val (.ref ca), .val (.ref so), .val (.ref xs), .val (.int (own_ft ((p5 &&& (2147483647 : Int32)) % (5 : Int32)) (own_dr p1) (own_dr p2) (own_dr p3) (own_dr p4)))] [(.int (own_sm (0 : Int32) (own_ft ((p5 &&& (2147483647 : Int32)) % (5 : Int32)) (own_dr p1) (own_dr p2) (own_dr p3) (own_dr p4)) (own_dr p1) yt))])
  refine own_step (fun _ k => XS.ifNo X15.here hx rfl (hb hby at_108) rfl ((if0 _ _).trans (feq hlaw.2.1).1) k) ?_
  show own_Go _ _ _ _ T15 (mkF m 111 #[.val (.int p1), .val (.int p2), .val (.int p3), .val (.int p4), .val (.int p5), .val (.int ((p5 &&& (2147483647 : Int32)) % (5 : Int32))), .val (.int (own_dr p1)), .val (.int (own_dr p2)), .val (.int (own_dr p3)), .val (.int (own_dr p4)), .val (.ref ca), .val (.ref so), .val (.ref xs), .val (.int (own_ft ((p5 &&& (2147483647 : Int32)) % (5 : Int32)) (own_dr p1) (own_dr p2) (own_dr p3) (own_dr p4)))] [])
  refine own_step (fun _ k => XS.aload X15.here hx rfl (hb hby at_111) rfl rfl k) ?_
  show own_Go _ _ _ _ T15 (mkF m 113 #[.val (.int p1), .val (.int p2), .val (.int p3), .val (.int p4), .val (.int p5), .val (.int ((p5 &&& (2147483647 : Int32)) % (5 : Int32))), .val (.int (own_dr p1)), .val (.int (own_dr p2)), .val (.int (own_dr p3)), .val (.int (own_dr p4)), .val (.ref ca), .val (.ref so), .val (.ref xs), .val (.int (own_ft ((p5 &&& (2147483647 : Int32)) % (5 : Int32)) (own_dr p1) (own_dr p2) (own_dr p3) (own_dr p4)))] [(.ref xs)])
  refine own_step (fun _ k => XS.iconst X15.here hx rfl (hb hby at_113) k) ?_
  show own_Go _ _ _ _ T15 (mkF m 114 #[.val (.int p1), .val (.int p2), .val (.int p3), .val (.int p4), .val (.int p5), .val (.int ((p5 &&& (2147483647 : Int32)) % (5 : Int32))), .val (.int (own_dr p1)), .val (.int (own_dr p2)), .val (.int (own_dr p3)), .val (.int (own_dr p4)), .val (.ref ca), .val (.ref so), .val (.ref xs), .val (.int (own_ft ((p5 &&& (2147483647 : Int32)) % (5 : Int32)) (own_dr p1) (own_dr p2) (own_dr p3) (own_dr p4)))] [(.int (1 : Int32)), (.ref xs)])
  refine own_step (fun _ k => XS.iload X15.here hx rfl (hb hby at_114) rfl k) ?_
  show own_Go _ _ _ _ T15 (mkF m 116 #[.val (.int p1), .val (.int p2), .val (.int p3), .val (.int p4), .val (.int p5), .val (.int ((p5 &&& (2147483647 : Int32)) % (5 : Int32))), .val (.int (own_dr p1)), .val (.int (own_dr p2)), .val (.int (own_dr p3)), .val (.int (own_dr p4)), .val (.ref ca), .val (.ref so), .val (.ref xs), .val (.int (own_ft ((p5 &&& (2147483647 : Int32)) % (5 : Int32)) (own_dr p1) (own_dr p2) (own_dr p3) (own_dr p4)))] [(.int (own_ft ((p5 &&& (2147483647 : Int32)) % (5 : Int32)) (own_dr p1) (own_dr p2) (own_dr p3) (own_dr p4))), (.int (1 : Int32)), (.ref xs)])
  refine own_step (fun _ k => XS.iload X15.here hx rfl (hb hby at_116) rfl k) ?_
  show own_Go _ _ _ _ T15 (mkF m 118 #[.val (.int p1), .val (.int p2), .val (.int p3), .val (.int p4), .val (.int p5), .val (.int ((p5 &&& (2147483647 : Int32)) % (5 : Int32))), .val (.int (own_dr p1)), .val (.int (own_dr p2)), .val (.int (own_dr p3)), .val (.int (own_dr p4)), .val (.ref ca), .val (.ref so), .val (.ref xs), .val (.int (own_ft ((p5 &&& (2147483647 : Int32)) % (5 : Int32)) (own_dr p1) (own_dr p2) (own_dr p3) (own_dr p4)))] [(.int (own_dr p2)), (.int (own_ft ((p5 &&& (2147483647 : Int32)) % (5 : Int32)) (own_dr p1) (own_dr p2) (own_dr p3) (own_dr p4))), (.int (1 : Int32)), (.ref xs)])
  refine own_callS X15 hx hZ (y := (⟨"com/example/shelfmark/shelfmark/io/DocumentReaderTextPinLaw", "same", "(Ljava/lang/String;IIC)Z"⟩ : MethodName)) hown (hw _ (List.mem_of_getElem? (i := 78) rfl)) (hw _ (List.mem_of_getElem? (i := 79) rfl)) (hw _ (List.mem_of_getElem? (i := 3) rfl)) (hw _ (List.mem_of_getElem? (i := 80) rfl)) (by decide) (rm17 l Z a0 hw [] xs (1 : Int32) (own_ft ((p5 &&& (2147483647 : Int32)) % (5 : Int32)) (own_dr p1) (own_dr p2) (own_dr p3) (own_dr p4)) (own_dr p2) cz fv xb xk yt T11.heap n0 Z11 Q13 SC hcz SF hfv EX11 FC11 FV11 V11 (by decide)) e15 0 (by decide) (by decide) (by decide) (by decide) (g := (mkF m 118 #[.val (.int p1), .val (.int p2), .val (.int p3), .val (.int p4), .val (.int p5), .val (.int ((p5 &&& (2147483647 : Int32)) % (5 : Int32))), .val (.int (own_dr p1)), .val (.int (own_dr p2)), .val (.int (own_dr p3)), .val (.int (own_dr p4)), .val (.ref ca), .val (.ref so), .val (.ref xs), .val (.int (own_ft ((p5 &&& (2147483647 : Int32)) % (5 : Int32)) (own_dr p1) (own_dr p2) (own_dr p3) (own_dr p4)))] [(.int (own_dr p2)), (.int (own_ft ((p5 &&& (2147483647 : Int32)) % (5 : Int32)) (own_dr p1) (own_dr p2) (own_dr p3) (own_dr p4))), (.int (1 : Int32)), (.ref xs)])) rfl (by rw [hml]; rfl) [(.ref xs), (.int (1 : Int32)), (.int (own_ft ((p5 &&& (2147483647 : Int32)) % (5 : Int32)) (own_dr p1) (own_dr p2) (own_dr p3) (own_dr p4))), (.int (own_dr p2))] [] pd_25 rfl rfl rfl (by show 2 * 0 + _ ≤ _; exact Nat.le_of_eq rfl) (hb hby at_118) ?_
  rintro v16 T16 L16 X16 ⟨rfl, Nq16, e16⟩
  have N16 := Fr.app N15 Nq16
  show own_Go _ _ _ _ T16 (mkF m 121 #[.val (.int p1), .val (.int p2), .val (.int p3), .val (.int p4), .val (.int p5), .val (.int ((p5 &&& (2147483647 : Int32)) % (5 : Int32))), .val (.int (own_dr p1)), .val (.int (own_dr p2)), .val (.int (own_dr p3)), .val (.int (own_dr p4)), .val (.ref ca), .val (.ref so), .val (.ref xs), .val (.int (own_ft ((p5 &&& (2147483647 : Int32)) % (5 : Int32)) (own_dr p1) (own_dr p2) (own_dr p3) (own_dr p4)))] [(.int (own_sm (1 : Int32) (own_ft ((p5 &&& (2147483647 : Int32)) % (5 : Int32)) (own_dr p1) (own_dr p2) (own_dr p3) (own_dr p4)) (own_dr p2) yt))])
  refine own_step (fun _ k => XS.ifNo X16.here hx rfl (hb hby at_121) rfl ((if0 _ _).trans (feq hlaw.2.2.1).1) k) ?_
  show own_Go _ _ _ _ T16 (mkF m 124 #[.val (.int p1), .val (.int p2), .val (.int p3), .val (.int p4), .val (.int p5), .val (.int ((p5 &&& (2147483647 : Int32)) % (5 : Int32))), .val (.int (own_dr p1)), .val (.int (own_dr p2)), .val (.int (own_dr p3)), .val (.int (own_dr p4)), .val (.ref ca), .val (.ref so), .val (.ref xs), .val (.int (own_ft ((p5 &&& (2147483647 : Int32)) % (5 : Int32)) (own_dr p1) (own_dr p2) (own_dr p3) (own_dr p4)))] [])
  refine own_step (fun _ k => XS.aload X16.here hx rfl (hb hby at_124) rfl rfl k) ?_
  show own_Go _ _ _ _ T16 (mkF m 126 #[.val (.int p1), .val (.int p2), .val (.int p3), .val (.int p4), .val (.int p5), .val (.int ((p5 &&& (2147483647 : Int32)) % (5 : Int32))), .val (.int (own_dr p1)), .val (.int (own_dr p2)), .val (.int (own_dr p3)), .val (.int (own_dr p4)), .val (.ref ca), .val (.ref so), .val (.ref xs), .val (.int (own_ft ((p5 &&& (2147483647 : Int32)) % (5 : Int32)) (own_dr p1) (own_dr p2) (own_dr p3) (own_dr p4)))] [(.ref xs)])
  refine own_step (fun _ k => XS.iconst X16.here hx rfl (hb hby at_126) k) ?_
  show own_Go _ _ _ _ T16 (mkF m 127 #[.val (.int p1), .val (.int p2), .val (.int p3), .val (.int p4), .val (.int p5), .val (.int ((p5 &&& (2147483647 : Int32)) % (5 : Int32))), .val (.int (own_dr p1)), .val (.int (own_dr p2)), .val (.int (own_dr p3)), .val (.int (own_dr p4)), .val (.ref ca), .val (.ref so), .val (.ref xs), .val (.int (own_ft ((p5 &&& (2147483647 : Int32)) % (5 : Int32)) (own_dr p1) (own_dr p2) (own_dr p3) (own_dr p4)))] [(.int (2 : Int32)), (.ref xs)])
  refine own_step (fun _ k => XS.iload X16.here hx rfl (hb hby at_127) rfl k) ?_
  show own_Go _ _ _ _ T16 (mkF m 129 #[.val (.int p1), .val (.int p2), .val (.int p3), .val (.int p4), .val (.int p5), .val (.int ((p5 &&& (2147483647 : Int32)) % (5 : Int32))), .val (.int (own_dr p1)), .val (.int (own_dr p2)), .val (.int (own_dr p3)), .val (.int (own_dr p4)), .val (.ref ca), .val (.ref so), .val (.ref xs), .val (.int (own_ft ((p5 &&& (2147483647 : Int32)) % (5 : Int32)) (own_dr p1) (own_dr p2) (own_dr p3) (own_dr p4)))] [(.int (own_ft ((p5 &&& (2147483647 : Int32)) % (5 : Int32)) (own_dr p1) (own_dr p2) (own_dr p3) (own_dr p4))), (.int (2 : Int32)), (.ref xs)])
  refine own_step (fun _ k => XS.iload X16.here hx rfl (hb hby at_129) rfl k) ?_
  show own_Go _ _ _ _ T16 (mkF m 131 #[.val (.int p1), .val (.int p2), .val (.int p3), .val (.int p4), .val (.int p5), .val (.int ((p5 &&& (2147483647 : Int32)) % (5 : Int32))), .val (.int (own_dr p1)), .val (.int (own_dr p2)), .val (.int (own_dr p3)), .val (.int (own_dr p4)), .val (.ref ca), .val (.ref so), .val (.ref xs), .val (.int (own_ft ((p5 &&& (2147483647 : Int32)) % (5 : Int32)) (own_dr p1) (own_dr p2) (own_dr p3) (own_dr p4)))] [(.int (own_dr p3)), (.int (own_ft ((p5 &&& (2147483647 : Int32)) % (5 : Int32)) (own_dr p1) (own_dr p2) (own_dr p3) (own_dr p4))), (.int (2 : Int32)), (.ref xs)])
  refine own_callS X16 hx hZ (y := (⟨"com/example/shelfmark/shelfmark/io/DocumentReaderTextPinLaw", "same", "(Ljava/lang/String;IIC)Z"⟩ : MethodName)) hown (hw _ (List.mem_of_getElem? (i := 78) rfl)) (hw _ (List.mem_of_getElem? (i := 79) rfl)) (hw _ (List.mem_of_getElem? (i := 3) rfl)) (hw _ (List.mem_of_getElem? (i := 80) rfl)) (by decide) (rm17 l Z a0 hw [] xs (2 : Int32) (own_ft ((p5 &&& (2147483647 : Int32)) % (5 : Int32)) (own_dr p1) (own_dr p2) (own_dr p3) (own_dr p4)) (own_dr p3) cz fv xb xk yt T11.heap n0 Z11 Q13 SC hcz SF hfv EX11 FC11 FV11 V11 (by decide)) e16 0 (by decide) (by decide) (by decide) (by decide) (g := (mkF m 131 #[.val (.int p1), .val (.int p2), .val (.int p3), .val (.int p4), .val (.int p5), .val (.int ((p5 &&& (2147483647 : Int32)) % (5 : Int32))), .val (.int (own_dr p1)), .val (.int (own_dr p2)), .val (.int (own_dr p3)), .val (.int (own_dr p4)), .val (.ref ca), .val (.ref so), .val (.ref xs), .val (.int (own_ft ((p5 &&& (2147483647 : Int32)) % (5 : Int32)) (own_dr p1) (own_dr p2) (own_dr p3) (own_dr p4)))] [(.int (own_dr p3)), (.int (own_ft ((p5 &&& (2147483647 : Int32)) % (5 : Int32)) (own_dr p1) (own_dr p2) (own_dr p3) (own_dr p4))), (.int (2 : Int32)), (.ref xs)])) rfl (by rw [hml]; rfl) [(.ref xs), (.int (2 : Int32)), (.int (own_ft ((p5 &&& (2147483647 : Int32)) % (5 : Int32)) (own_dr p1) (own_dr p2) (own_dr p3) (own_dr p4))), (.int (own_dr p3))] [] pd_25 rfl rfl rfl (by show 2 * 0 + _ ≤ _; exact Nat.le_of_eq rfl) (hb hby at_131) ?_
  rintro v17 T17 L17 X17 ⟨rfl, Nq17, e17⟩
  have N17 := Fr.app N16 Nq17
  show own_Go _ _ _ _ T17 (mkF m 134 #[.val (.int p1), .val (.int p2), .val (.int p3), .val (.int p4), .val (.int p5), .val (.int ((p5 &&& (2147483647 : Int32)) % (5 : Int32))), .val (.int (own_dr p1)), .val (.int (own_dr p2)), .val (.int (own_dr p3)), .val (.int (own_dr p4)), .val (.ref ca), .val (.ref so), .val (.ref xs), .val (.int (own_ft ((p5 &&& (2147483647 : Int32)) % (5 : Int32)) (own_dr p1) (own_dr p2) (own_dr p3) (own_dr p4)))] [(.int (own_sm (2 : Int32) (own_ft ((p5 &&& (2147483647 : Int32)) % (5 : Int32)) (own_dr p1) (own_dr p2) (own_dr p3) (own_dr p4)) (own_dr p3) yt))])
  refine own_step (fun _ k => XS.ifNo X17.here hx rfl (hb hby at_134) rfl ((if0 _ _).trans (feq hlaw.2.2.2.1).1) k) ?_
  show own_Go _ _ _ _ T17 (mkF m 137 #[.val (.int p1), .val (.int p2), .val (.int p3), .val (.int p4), .val (.int p5), .val (.int ((p5 &&& (2147483647 : Int32)) % (5 : Int32))), .val (.int (own_dr p1)), .val (.int (own_dr p2)), .val (.int (own_dr p3)), .val (.int (own_dr p4)), .val (.ref ca), .val (.ref so), .val (.ref xs), .val (.int (own_ft ((p5 &&& (2147483647 : Int32)) % (5 : Int32)) (own_dr p1) (own_dr p2) (own_dr p3) (own_dr p4)))] [])
  refine own_step (fun _ k => XS.aload X17.here hx rfl (hb hby at_137) rfl rfl k) ?_
  show own_Go _ _ _ _ T17 (mkF m 139 #[.val (.int p1), .val (.int p2), .val (.int p3), .val (.int p4), .val (.int p5), .val (.int ((p5 &&& (2147483647 : Int32)) % (5 : Int32))), .val (.int (own_dr p1)), .val (.int (own_dr p2)), .val (.int (own_dr p3)), .val (.int (own_dr p4)), .val (.ref ca), .val (.ref so), .val (.ref xs), .val (.int (own_ft ((p5 &&& (2147483647 : Int32)) % (5 : Int32)) (own_dr p1) (own_dr p2) (own_dr p3) (own_dr p4)))] [(.ref xs)])
  refine own_step (fun _ k => XS.iconst X17.here hx rfl (hb hby at_139) k) ?_
  show own_Go _ _ _ _ T17 (mkF m 140 #[.val (.int p1), .val (.int p2), .val (.int p3), .val (.int p4), .val (.int p5), .val (.int ((p5 &&& (2147483647 : Int32)) % (5 : Int32))), .val (.int (own_dr p1)), .val (.int (own_dr p2)), .val (.int (own_dr p3)), .val (.int (own_dr p4)), .val (.ref ca), .val (.ref so), .val (.ref xs), .val (.int (own_ft ((p5 &&& (2147483647 : Int32)) % (5 : Int32)) (own_dr p1) (own_dr p2) (own_dr p3) (own_dr p4)))] [(.int (3 : Int32)), (.ref xs)])
  refine own_step (fun _ k => XS.iload X17.here hx rfl (hb hby at_140) rfl k) ?_
  show own_Go _ _ _ _ T17 (mkF m 142 #[.val (.int p1), .val (.int p2), .val (.int p3), .val (.int p4), .val (.int p5), .val (.int ((p5 &&& (2147483647 : Int32)) % (5 : Int32))), .val (.int (own_dr p1)), .val (.int (own_dr p2)), .val (.int (own_dr p3)), .val (.int (own_dr p4)), .val (.ref ca), .val (.ref so), .val (.ref xs), .val (.int (own_ft ((p5 &&& (2147483647 : Int32)) % (5 : Int32)) (own_dr p1) (own_dr p2) (own_dr p3) (own_dr p4)))] [(.int (own_ft ((p5 &&& (2147483647 : Int32)) % (5 : Int32)) (own_dr p1) (own_dr p2) (own_dr p3) (own_dr p4))), (.int (3 : Int32)), (.ref xs)])
  refine own_step (fun _ k => XS.iload X17.here hx rfl (hb hby at_142) rfl k) ?_
  show own_Go _ _ _ _ T17 (mkF m 144 #[.val (.int p1), .val (.int p2), .val (.int p3), .val (.int p4), .val (.int p5), .val (.int ((p5 &&& (2147483647 : Int32)) % (5 : Int32))), .val (.int (own_dr p1)), .val (.int (own_dr p2)), .val (.int (own_dr p3)), .val (.int (own_dr p4)), .val (.ref ca), .val (.ref so), .val (.ref xs), .val (.int (own_ft ((p5 &&& (2147483647 : Int32)) % (5 : Int32)) (own_dr p1) (own_dr p2) (own_dr p3) (own_dr p4)))] [(.int (own_dr p4)), (.int (own_ft ((p5 &&& (2147483647 : Int32)) % (5 : Int32)) (own_dr p1) (own_dr p2) (own_dr p3) (own_dr p4))), (.int (3 : Int32)), (.ref xs)])
  refine own_callS X17 hx hZ (y := (⟨"com/example/shelfmark/shelfmark/io/DocumentReaderTextPinLaw", "same", "(Ljava/lang/String;IIC)Z"⟩ : MethodName)) hown (hw _ (List.mem_of_getElem? (i := 78) rfl)) (hw _ (List.mem_of_getElem? (i := 79) rfl)) (hw _ (List.mem_of_getElem? (i := 3) rfl)) (hw _ (List.mem_of_getElem? (i := 80) rfl)) (by decide) (rm17 l Z a0 hw [] xs (3 : Int32) (own_ft ((p5 &&& (2147483647 : Int32)) % (5 : Int32)) (own_dr p1) (own_dr p2) (own_dr p3) (own_dr p4)) (own_dr p4) cz fv xb xk yt T11.heap n0 Z11 Q13 SC hcz SF hfv EX11 FC11 FV11 V11 (by decide)) e17 0 (by decide) (by decide) (by decide) (by decide) (g := (mkF m 144 #[.val (.int p1), .val (.int p2), .val (.int p3), .val (.int p4), .val (.int p5), .val (.int ((p5 &&& (2147483647 : Int32)) % (5 : Int32))), .val (.int (own_dr p1)), .val (.int (own_dr p2)), .val (.int (own_dr p3)), .val (.int (own_dr p4)), .val (.ref ca), .val (.ref so), .val (.ref xs), .val (.int (own_ft ((p5 &&& (2147483647 : Int32)) % (5 : Int32)) (own_dr p1) (own_dr p2) (own_dr p3) (own_dr p4)))] [(.int (own_dr p4)), (.int (own_ft ((p5 &&& (2147483647 : Int32)) % (5 : Int32)) (own_dr p1) (own_dr p2) (own_dr p3) (own_dr p4))), (.int (3 : Int32)), (.ref xs)])) rfl (by rw [hml]; rfl) [(.ref xs), (.int (3 : Int32)), (.int (own_ft ((p5 &&& (2147483647 : Int32)) % (5 : Int32)) (own_dr p1) (own_dr p2) (own_dr p3) (own_dr p4))), (.int (own_dr p4))] [] pd_25 rfl rfl rfl (by show 2 * 0 + _ ≤ _; exact Nat.le_of_eq rfl) (hb hby at_144) ?_
  rintro v18 T18 L18 X18 ⟨rfl, Nq18, e18⟩
  have N18 := Fr.app N17 Nq18
  show own_Go _ _ _ _ T18 (mkF m 147 #[.val (.int p1), .val (.int p2), .val (.int p3), .val (.int p4), .val (.int p5), .val (.int ((p5 &&& (2147483647 : Int32)) % (5 : Int32))), .val (.int (own_dr p1)), .val (.int (own_dr p2)), .val (.int (own_dr p3)), .val (.int (own_dr p4)), .val (.ref ca), .val (.ref so), .val (.ref xs), .val (.int (own_ft ((p5 &&& (2147483647 : Int32)) % (5 : Int32)) (own_dr p1) (own_dr p2) (own_dr p3) (own_dr p4)))] [(.int (own_sm (3 : Int32) (own_ft ((p5 &&& (2147483647 : Int32)) % (5 : Int32)) (own_dr p1) (own_dr p2) (own_dr p3) (own_dr p4)) (own_dr p4) yt))])
  refine own_step (fun _ k => XS.ifNo X18.here hx rfl (hb hby at_147) rfl ((if0 _ _).trans (feq hlaw.2.2.2.2).1) k) ?_
  show own_Go _ _ _ _ T18 (mkF m 150 #[.val (.int p1), .val (.int p2), .val (.int p3), .val (.int p4), .val (.int p5), .val (.int ((p5 &&& (2147483647 : Int32)) % (5 : Int32))), .val (.int (own_dr p1)), .val (.int (own_dr p2)), .val (.int (own_dr p3)), .val (.int (own_dr p4)), .val (.ref ca), .val (.ref so), .val (.ref xs), .val (.int (own_ft ((p5 &&& (2147483647 : Int32)) % (5 : Int32)) (own_dr p1) (own_dr p2) (own_dr p3) (own_dr p4)))] [])
  refine own_step (fun _ k => XS.iconst X18.here hx rfl (hb hby at_150) k) ?_
  show own_Go _ _ _ _ T18 (mkF m 151 #[.val (.int p1), .val (.int p2), .val (.int p3), .val (.int p4), .val (.int p5), .val (.int ((p5 &&& (2147483647 : Int32)) % (5 : Int32))), .val (.int (own_dr p1)), .val (.int (own_dr p2)), .val (.int (own_dr p3)), .val (.int (own_dr p4)), .val (.ref ca), .val (.ref so), .val (.ref xs), .val (.int (own_ft ((p5 &&& (2147483647 : Int32)) % (5 : Int32)) (own_dr p1) (own_dr p2) (own_dr p3) (own_dr p4)))] [(.int (1 : Int32))])
  refine own_step (fun _ k => XS.goto X18.here hx rfl (pc0 := 151) (pc' := 155) rfl (hb hby at_151) (by decide) (by decide) k) ?_
  show own_Go _ _ _ _ T18 (mkF m 155 #[.val (.int p1), .val (.int p2), .val (.int p3), .val (.int p4), .val (.int p5), .val (.int ((p5 &&& (2147483647 : Int32)) % (5 : Int32))), .val (.int (own_dr p1)), .val (.int (own_dr p2)), .val (.int (own_dr p3)), .val (.int (own_dr p4)), .val (.ref ca), .val (.ref so), .val (.ref xs), .val (.int (own_ft ((p5 &&& (2147483647 : Int32)) % (5 : Int32)) (own_dr p1) (own_dr p2) (own_dr p3) (own_dr p4)))] [(.int (1 : Int32))])
  exact own_retN X18 hx (t := .boolean) hret (by simp) hlk (hb hby at_155) rfl (own_W X18 hS11 (Nat.le_refl _) e18 eS hZ hEL C11 ⟨rfl, N18⟩ (by decide) (by decide)) 
set_option maxRecDepth 65536 in
set_option maxHeartbeats 40000000 in
theorem comes_1 {Post : Tables → Env → Array Value → State → Outcome → State → Prop} (hpost : ∀ tb e args s v u, (limb_1_1.after args s (.returned v) u = true ∧ limb_1_2.after args s (.returned v) u = true ∧ True) → ReturnedEndW s (.returned v) u (Jvm.fieldLocs frame_1_writes args s ++ Jvm.arrayLocs frame_1_arrays args s ++ Jvm.staticLocs frame_1_statics s) 24 2176 → Post tb e args s (.returned v) u) :
    ArmFor flags0 classFile x code maxLocals ret World_1 tables_1 room_1 Calls_1 rest_1 Pre_1 Post := by
  intro l hfl _ _ p e ha hc hk s m args below hf hA hF happ hP
  obtain ⟨hcalls, hrest, hpre⟩ := hP
  obtain ⟨-, -, -, hnamed, -, -, -, hat⟩ := (Spec.applies_iff hf).mp happ
  obtain ⟨hg, hn⟩ := and_e (Cond.before_iff.mp (show (Jvm.Cond.and given_1 narrow_1).before args s = true from hpre))
  obtain ⟨gc, g0⟩ := and_e hg
  obtain ⟨h0, g1⟩ := and_e g0
  obtain ⟨h1, g2⟩ := and_e g1
  obtain ⟨h2, g3⟩ := and_e g2
  obtain ⟨h3, g4⟩ := and_e g3
  have h4 := g4
  obtain ⟨w0, w1, w2, w3, w4, rfl⟩ : ∃ w0 w1 w2 w3 w4 : Value, args = #[w0, w1, w2, w3, w4] := by
    have hs : args.size = 5 := by simpa [Cond.value, given_1] using gc
    obtain ⟨L⟩ := args
    match L, hs with
    | [w0, w1, w2, w3, w4], _ => exact ⟨w0, w1, w2, w3, w4, rfl⟩
  have hw := fun d (hd : d ∈ tables_1) => atoms_spec (ws := Jvm.Cond.code x code maxLocals ret :: tables_1) hat d (List.mem_cons_of_mem _ hd)
  have hfit : Fit s := fun {y c} hc i hi => by
    obtain ⟨ha, rfl⟩ := Array.getElem?_eq_some_iff.mp hc
    have q := List.all_eq_true.mp ((Array.all_eq_true_iff_forall_mem.mp hF) _ (Array.getElem_mem ha)) i (List.mem_range.mpr hi)
    simpa [Array.getElem?_eq_getElem hi] using q
  obtain ⟨hsets, hown0⟩ := atoms_of _ (rest_1_c_eq ▸ (show rest_1_c.before _ s = true from hrest))
  have hr0 := Cond.before_iff.mp hown0
  obtain ⟨i0, ei0⟩ := is_v h0
  obtain rfl : w0 = (.int i0) := Option.some.inj ei0
  obtain ⟨i1, ei1⟩ := is_v h1
  obtain rfl : w1 = (.int i1) := Option.some.inj ei1
  obtain ⟨i2, ei2⟩ := is_v h2
  obtain rfl : w2 = (.int i2) := Option.some.inj ei2
  obtain ⟨i3, ei3⟩ := is_v h3
  obtain rfl : w3 = (.int i3) := Option.some.inj ei3
  obtain ⟨i4, ei4⟩ := is_v h4
  obtain rfl : w4 = (.int i4) := Option.some.inj ei4
  obtain ⟨cz, ecz⟩ := is_v (Cond.before_iff.mp (hsets _ (List.mem_of_getElem? (i := 1) rfl)))
  have SC := Sta.start ecz (Or.inl (hsets _ (List.mem_of_getElem? (i := 0) rfl)))
  have hcz : ¬ (cz = (0 : Int32)) := gotF (Cond.eq_ints ecz (Term.int_eval (0))) (not_v (Cond.before_iff.mp (hsets _ (List.mem_of_getElem? (i := 2) rfl))))
  obtain ⟨fv, efv, hfv⟩ := isR_v (Cond.before_iff.mp (hsets _ (List.mem_of_getElem? (i := 8) rfl)))
  have SF := Sta.start efv (Or.inl (hsets _ (List.mem_of_getElem? (i := 7) rfl)))
  have hEL : EW s _ own_EL := (EW.cons (hw _ (List.mem_of_getElem? (i := 22) rfl)) (fun c hc => absurd hc (by simp)) (EW.cons (hw _ (List.mem_of_getElem? (i := 124) rfl)) (fun c hc => absurd hc (by simp)) EW.nil))
  have hCH : CHv s own_EL s.vm s.heap := CHv.start hEL (fun p hp => hcalls.1 p hp) (hsets _ (List.mem_of_getElem? (i := 2) rfl)) (hw _ (List.mem_of_getElem? (i := 23) rfl)) (hw _ (List.mem_of_getElem? (i := 10) rfl))
  obtain ⟨n, o, h1, h2, h3, _, L, rfl, ⟨rfl, N⟩, -, hq⟩ := rm0 l s _ hw tables_1 i0 i1 i2 i3 i4 cz fv s.heap s.heap.size (Nat.le_refl _) hEL (Old.start s) SC hcz SF hfv p e ha hc hk s m _ below hf ((Spec.applies_iff_loose hf).mp happ).1 ⟨rfl, State.Warmed39.refl s, rfl, hCH⟩ trivial
  refine ⟨n, _, h1, h2, h3, hpost _ _ _ _ _ _ ⟨Cond.after_iff.mpr rfl, Cond.after_iff.mpr (eq_i res_at (Term.int_eval (1)) rfl), trivial⟩ ⟨hq.1, hq.2.1, hq.2.2.1, (hq.2.2.2.sift fun y hy => Or.inr (N y hy)).mono (by decide) (by decide)⟩⟩
theorem main_1_1 : Claimed_1_1 := comes_1 fun _ _ _ _ _ _ h hF => ⟨h.1, hF⟩
theorem main_1_2 : Claimed_1_2 := comes_1 fun _ _ _ _ _ _ h hF => ⟨h.2.1, hF⟩
end Jvm.Pilot.@@N@@
namespace Jvm.Pilot.@@N@@
open Jvm Jvm.ClassFile Sem Op Lib Jvm.Free Jvm.Stand Jvm.Pilot.@@N@@.Jvm.D
/-! MADE BY PROGRAM (witnessworld.py) out of the Statement's table words and the real class files: 23 classes; the members and pool entries that the words name. The judged class is class 1, her method 1. -/
namespace start1
open Jvm.ClassFile
def u (s : String) : CpInfo := .utf8 (stringToUtf16 s)
/-- a pool by its gaps: so many unusable entries, then the entry; so many at the end -/
def gap : Nat → List CpInfo → List CpInfo
  | 0, r => r
  | n + 1, r => .unusable :: gap n r
def poolList (es : List (Nat × CpInfo)) (last : Nat) : List CpInfo := es.foldr (fun e r => gap e.1 (e.2 :: r)) (gap last [])
def pool (es : List (Nat × CpInfo)) (last : Nat) : Array CpInfo := ⟨poolList es last⟩
def fileOf (pool : Array CpInfo) (this : Nat) (attrs : Array Attribute := #[]) (ms : Array MethodInfo := #[]) (fl : Nat := 33) (sup : Nat := 0) (ifs : Array Nat := #[]) (fds : Array FieldInfo := #[]) : ClassFile where
  minorVersion := 0
  majorVersion := 65
  constantPool := pool
  accessFlags := fl
  thisClass := this
  superClass := sup
  interfaces := ifs
  fields := fds
  methods := ms
  attributes := attrs
def plain (name : String) (sup : Option ClassId) : Class where
  name := name
  kind := .ordinary
  loader := none
  accessFlags := 33
  super := sup
  interfaces := #[]
  cf := none
  fields := #[]
  methods := #[]
  instanceTypes := #[]
  staticTypes := #[]
  resolved := #[]
  callSites := []
  init := .initialized
  statics := none
  mirror := none

def pool0 : Array CpInfo := pool [(5, u "<init>"), (0, u "()V"), (1, .class_ 10), (1, u "java/lang/Object")] 113

def k0c0 : Code := { maxStack := 0, maxLocals := 1, code := object_method_1_code, exceptionTable := #[], attributes := #[] }
def k0m0 : Method := { name := "<init>", desc := "()V", sig := { parameters := [], returnType := none }, accessFlags := 1, code := some k0c0 }
/-- java/lang/Object -/
def k0 : Class := { plain "java/lang/Object" none with
  accessFlags := 33
  interfaces := #[]
  cf := some (fileOf pool0 8 #[] #[{ accessFlags := 1, nameIndex := 5, descriptorIndex := 6, attributes := #[] }] 33 0 #[] #[])
  fields := #[]
  methods := #[k0m0]
  instanceTypes := #[]
  staticTypes := #[]
  resolved := Array.replicate 124 none
  statics := none }

def pool1 : Array CpInfo := pool [(2, .class_ 4), (1, u "java/lang/Object"), (0, u "<init>"), (0, u "()V"), (0, .integer 2147483647), (0, .methodref 9 10), (0, .class_ 11), (0, .nameAndType 12 13), (0, u "com/example/shelfmark/shelfmark/io/DocumentReaderTextPinLaw"), (0, u "draw"), (0, u "(I)C"), (0, .methodref 9 15), (0, .nameAndType 16 17), (0, u "make"), (0, u "(ICCCC)[C"), (0, .class_ 19), (0, u "java/lang/String"), (0, .methodref 18 21), (0, .nameAndType 5 22), (0, u "([C)V"), (0, .methodref 24 25), (0, .class_ 26), (0, .nameAndType 27 28), (0, u "com/example/shelfmark/shelfmark/io/DocumentReader"), (0, u "text"), (0, u "(Ljava/lang/String;)Ljava/lang/String;"), (0, .methodref 9 30), (0, .nameAndType 31 32), (0, u "firstTab"), (0, u "(ICCCC)I"), (0, .methodref 18 34), (0, .nameAndType 35 36), (0, u "length"), (0, u "()I"), (0, .methodref 9 38), (0, .nameAndType 39 40), (0, u "same"), (0, u "(Ljava/lang/String;IIC)Z"), (0, .methodref 18 42), (0, .nameAndType 43 13), (0, u "charAt"), (2, u "law"), (0, u "(IIIII)Z")] 5

def k1m0 : Method := { name := "<init>", desc := "()V", sig := { parameters := [], returnType := none }, accessFlags := 2, code := none }
def k1c1 : Code := { maxStack := 5, maxLocals := 14, code := code, exceptionTable := #[], attributes := #[] }
def k1m1 : Method := { name := "law", desc := "(IIIII)Z", sig := { parameters := [.int, .int, .int, .int, .int], returnType := some .boolean }, accessFlags := 9, code := some k1c1 }
def k1c2 : Code := { maxStack := 2, maxLocals := 1, code := method_3_code, exceptionTable := #[], attributes := #[] }
def k1m2 : Method := { name := "draw", desc := "(I)C", sig := { parameters := [.int], returnType := some .char }, accessFlags := 10, code := some k1c2 }
def k1c3 : Code := { maxStack := 4, maxLocals := 5, code := method_4_code, exceptionTable := #[], attributes := #[] }
def k1m3 : Method := { name := "make", desc := "(ICCCC)[C", sig := { parameters := [.int, .char, .char, .char, .char], returnType := some (.array .char) }, accessFlags := 10, code := some k1c3 }
def k1c4 : Code := { maxStack := 2, maxLocals := 5, code := method_5_code, exceptionTable := #[], attributes := #[] }
def k1m4 : Method := { name := "firstTab", desc := "(ICCCC)I", sig := { parameters := [.int, .char, .char, .char, .char], returnType := some .int }, accessFlags := 10, code := some k1c4 }
def k1c5 : Code := { maxStack := 2, maxLocals := 4, code := method_6_code, exceptionTable := #[], attributes := #[] }
def k1m5 : Method := { name := "same", desc := "(Ljava/lang/String;IIC)Z", sig := { parameters := [(.object "java/lang/String"), .int, .int, .char], returnType := some .boolean }, accessFlags := 10, code := some k1c5 }
/-- com/example/shelfmark/shelfmark/io/DocumentReaderTextPinLaw -/
def k1 : Class := { plain "com/example/shelfmark/shelfmark/io/DocumentReaderTextPinLaw" (some 0) with
  accessFlags := 49
  interfaces := #[]
  cf := some (fileOf pool1 9 #[] #[{ accessFlags := 2, nameIndex := 5, descriptorIndex := 6, attributes := #[] }, { accessFlags := 9, nameIndex := 46, descriptorIndex := 47, attributes := #[] }, { accessFlags := 10, nameIndex := 12, descriptorIndex := 13, attributes := #[] }, { accessFlags := 10, nameIndex := 16, descriptorIndex := 17, attributes := #[] }, { accessFlags := 10, nameIndex := 31, descriptorIndex := 32, attributes := #[] }, { accessFlags := 10, nameIndex := 39, descriptorIndex := 40, attributes := #[] }] 49 2 #[] #[])
  fields := #[]
  methods := #[k1m0, k1m1, k1m2, k1m3, k1m4, k1m5]
  instanceTypes := #[]
  staticTypes := #[]
  resolved := Array.replicate 53 none
  statics := none }

def pool2 : Array CpInfo := pool [(1, .class_ 2), (0, u "java/io/Serializable"), (0, .class_ 4), (0, u "java/lang/Object")] 2

/-- java/io/Serializable -/
def k2 : Class := { plain "java/io/Serializable" (some 0) with
  accessFlags := 1537
  interfaces := #[]
  cf := some (fileOf pool2 1 #[] #[] 1537 3 #[] #[])
  fields := #[]
  methods := #[]
  instanceTypes := #[]
  staticTypes := #[]
  resolved := Array.replicate 7 none
  statics := none }

def pool3 : Array CpInfo := pool [(1, .class_ 2), (0, u "java/lang/Comparable"), (0, .class_ 4), (0, u "java/lang/Object")] 7

/-- java/lang/Comparable -/
def k3 : Class := { plain "java/lang/Comparable" (some 0) with
  accessFlags := 1537
  interfaces := #[]
  cf := some (fileOf pool3 1 #[] #[] 1537 3 #[] #[])
  fields := #[]
  methods := #[]
  instanceTypes := #[]
  staticTypes := #[]
  resolved := Array.replicate 12 none
  statics := none }

def pool4 : Array CpInfo := pool [(2, .class_ 4), (1, u "java/lang/CharSequence"), (42, .class_ 48), (0, u "java/lang/CharSequence$1CodePointIterator"), (10, .class_ 60), (0, u "java/lang/CharSequence$1CharIterator"), (5, .class_ 67), (0, u "java/lang/Object")] 63

/-- java/lang/CharSequence -/
def k4 : Class := { plain "java/lang/CharSequence" (some 0) with
  accessFlags := 1537
  interfaces := #[]
  cf := some (fileOf pool4 2 #[.nestMembers #[47, 59]] #[] 1537 66 #[] #[])
  fields := #[]
  methods := #[]
  instanceTypes := #[]
  staticTypes := #[]
  resolved := Array.replicate 131 none
  statics := none }

def pool5 : Array CpInfo := pool [(1, .class_ 2), (0, u "java/lang/constant/Constable"), (0, .class_ 4), (0, u "java/lang/Object")] 6

/-- java/lang/constant/Constable -/
def k5 : Class := { plain "java/lang/constant/Constable" (some 0) with
  accessFlags := 1537
  interfaces := #[]
  cf := some (fileOf pool5 1 #[] #[] 1537 3 #[] #[])
  fields := #[]
  methods := #[]
  instanceTypes := #[]
  staticTypes := #[]
  resolved := Array.replicate 11 none
  statics := none }

def pool6 : Array CpInfo := pool [(1, .class_ 2), (0, u "java/lang/constant/ConstantDesc"), (0, .class_ 4), (0, u "java/lang/Object")] 32

/-- java/lang/constant/ConstantDesc -/
def k6 : Class := { plain "java/lang/constant/ConstantDesc" (some 0) with
  accessFlags := 1537
  interfaces := #[]
  cf := some (fileOf pool6 1 #[] #[] 1537 3 #[] #[])
  fields := #[]
  methods := #[]
  instanceTypes := #[]
  staticTypes := #[]
  resolved := Array.replicate 37 none
  statics := none }

def pool7 : Array CpInfo := pool [(1, .methodref 2 3), (0, .class_ 4), (0, .nameAndType 5 6), (0, u "java/lang/Object"), (0, u "<init>"), (0, u "()V"), (0, .string 8), (0, u ""), (0, .fieldref 10 11), (0, .class_ 12), (0, .nameAndType 13 14), (0, u "java/lang/String"), (0, u "value"), (0, u "[B"), (0, .fieldref 10 16), (0, .nameAndType 17 18), (0, u "coder"), (0, u "B"), (2, u "hash"), (0, u "I"), (2, u "hashIsZero"), (0, u "Z"), (0, .methodref 10 28), (0, .nameAndType 5 29), (0, u "([CIILjava/lang/Void;)V"), (8, .fieldref 10 39), (0, .nameAndType 40 26), (0, u "COMPACT_STRINGS"), (1, .class_ 44), (1, u "java/lang/StringUTF16"), (0, u "compress"), (1, .methodref 42 48), (0, .nameAndType 49 50), (0, u "coderFromArrayLen"), (0, u "([BI)B"), (56, .class_ 109), (1, u "java/lang/StringLatin1"), (32, u "()Z"), (34, .methodref 42 178), (0, .nameAndType 45 179), (0, u "([CII)[B"), (31, u "([BB)V"), (122, u "()I"), (0, .methodref 10 336), (0, .nameAndType 17 337), (0, u "()B"), (25, u "([BI)C"), (27, u "(II)V"), (35, u "(I)C"), (64, .methodref 10 493), (0, .nameAndType 494 142), (0, u "isLatin1"), (0, .methodref 107 496), (0, .nameAndType 497 363), (0, u "charAt"), (3, u "checkIndex"), (3, .methodref 10 506), (0, .nameAndType 507 334), (0, u "length"), (5, u "checkFromToIndex"), (7, .methodref 10 522), (0, .nameAndType 523 524), (0, u "checkBoundsBeginEnd"), (0, u "(III)V"), (50, .class_ 576), (0, u "java/lang/CharSequence"), (22, u "CASE_INSENSITIVE_ORDER"), (0, u "Ljava/util/Comparator;"), (32, .methodref 10 634), (0, .nameAndType 635 636), (0, u "indexOf"), (0, u "(II)I"), (0, .methodref 107 638), (0, .nameAndType 635 639), (0, u "([BIII)I"), (43, u "substring"), (0, u "(II)Ljava/lang/String;"), (0, .methodref 107 686), (0, .nameAndType 687 688), (0, u "newString"), (0, u "([BII)Ljava/lang/String;"), (76, u "(I)I"), (244, u "([C)V"), (42, .fieldref 1054 1055), (0, .class_ 1056), (0, .nameAndType 1057 1058), (0, u "jdk/internal/util/Preconditions"), (0, u "SIOOBE_FORMATTER"), (0, u "Ljava/util/function/BiFunction;"), (0, .methodref 1054 1060), (0, .nameAndType 501 1061), (0, u "(IILjava/util/function/BiFunction;)I"), (0, .methodref 1054 1063), (0, .nameAndType 513 1064), (0, u "(IIILjava/util/function/BiFunction;)I"), (36, u "serialPersistentFields"), (0, u "[Ljava/io/ObjectStreamField;"), (0, .class_ 1104), (0, u "java/lang/String$CaseInsensitiveComparator"), (1, .class_ 1107), (0, u "java/io/Serializable"), (0, .class_ 1109), (0, u "java/lang/Comparable"), (0, .class_ 1111), (0, u "java/lang/constant/Constable"), (0, .class_ 1113), (0, u "java/lang/constant/ConstantDesc"), (2, u "serialVersionUID"), (0, u "J"), (3, u "REPL"), (0, u "C"), (2, u "LATIN1"), (1, u "UTF16")] 323

def k7m0 : Method := { name := "<init>", desc := "()V", sig := { parameters := [], returnType := none }, accessFlags := 1, code := none }
def k7c1 : Code := { maxStack := 5, maxLocals := 2, code := jdk_42_method_3_code, exceptionTable := #[], attributes := #[] }
def k7m1 : Method := { name := "<init>", desc := "([C)V", sig := { parameters := [(.array .char)], returnType := none }, accessFlags := 1, code := some k7c1 }
def k7c2 : Code := { maxStack := 2, maxLocals := 1, code := jdk_42_method_54_code, exceptionTable := #[], attributes := #[] }
def k7m2 : Method := { name := "length", desc := "()I", sig := { parameters := [], returnType := some .int }, accessFlags := 1, code := some k7c2 }
def k7c3 : Code := { maxStack := 2, maxLocals := 2, code := jdk_42_method_56_code, exceptionTable := #[], attributes := #[] }
def k7m3 : Method := { name := "charAt", desc := "(I)C", sig := { parameters := [.int], returnType := some .char }, accessFlags := 1, code := some k7c3 }
def k7c4 : Code := { maxStack := 3, maxLocals := 2, code := jdk_42_method_79_code, exceptionTable := #[], attributes := #[] }
def k7m4 : Method := { name := "indexOf", desc := "(I)I", sig := { parameters := [.int], returnType := some .int }, accessFlags := 1, code := some k7c4 }
def k7c5 : Code := { maxStack := 4, maxLocals := 3, code := jdk_42_method_80_code, exceptionTable := #[], attributes := #[] }
def k7m5 : Method := { name := "indexOf", desc := "(II)I", sig := { parameters := [.int, .int], returnType := some .int }, accessFlags := 1, code := some k7c5 }
def k7c6 : Code := { maxStack := 3, maxLocals := 5, code := jdk_42_method_92_code, exceptionTable := #[], attributes := #[] }
def k7m6 : Method := { name := "substring", desc := "(II)Ljava/lang/String;", sig := { parameters := [.int, .int], returnType := some (.object "java/lang/String") }, accessFlags := 1, code := some k7c6 }
def k7c7 : Code := { maxStack := 4, maxLocals := 6, code := jdk_42_method_149_code, exceptionTable := #[], attributes := #[] }
def k7m7 : Method := { name := "<init>", desc := "([CIILjava/lang/Void;)V", sig := { parameters := [(.array .char), .int, .int, (.object "java/lang/Void")], returnType := none }, accessFlags := 2, code := some k7c7 }
def k7c8 : Code := { maxStack := 2, maxLocals := 3, code := jdk_42_method_151_code, exceptionTable := #[], attributes := #[] }
def k7m8 : Method := { name := "<init>", desc := "([BB)V", sig := { parameters := [(.array .byte), .byte], returnType := none }, accessFlags := 0, code := some k7c8 }
def k7c9 : Code := { maxStack := 1, maxLocals := 1, code := jdk_42_method_152_code, exceptionTable := #[], attributes := #[] }
def k7m9 : Method := { name := "coder", desc := "()B", sig := { parameters := [], returnType := some .byte }, accessFlags := 0, code := some k7c9 }
def k7c10 : Code := { maxStack := 1, maxLocals := 1, code := jdk_42_method_154_code, exceptionTable := #[], attributes := #[] }
def k7m10 : Method := { name := "isLatin1", desc := "()Z", sig := { parameters := [], returnType := some .boolean }, accessFlags := 0, code := some k7c10 }
def k7c11 : Code := { maxStack := 3, maxLocals := 2, code := jdk_42_method_155_code, exceptionTable := #[], attributes := #[] }
def k7m11 : Method := { name := "checkIndex", desc := "(II)V", sig := { parameters := [.int, .int], returnType := none }, accessFlags := 8, code := some k7c11 }
def k7c12 : Code := { maxStack := 4, maxLocals := 3, code := jdk_42_method_158_code, exceptionTable := #[], attributes := #[] }
def k7m12 : Method := { name := "checkBoundsBeginEnd", desc := "(III)V", sig := { parameters := [.int, .int, .int], returnType := none }, accessFlags := 8, code := some k7c12 }
/-- java/lang/String -/
def k7 : Class := { plain "java/lang/String" (some 0) with
  accessFlags := 49
  interfaces := #[2, 3, 4, 5, 6]
  cf := some (fileOf pool7 10 #[.nestMembers #[1103]] #[{ accessFlags := 1, nameIndex := 5, descriptorIndex := 6, attributes := #[] }, { accessFlags := 1, nameIndex := 5, descriptorIndex := 1010, attributes := #[] }, { accessFlags := 1, nameIndex := 507, descriptorIndex := 334, attributes := #[] }, { accessFlags := 1, nameIndex := 497, descriptorIndex := 427, attributes := #[] }, { accessFlags := 1, nameIndex := 635, descriptorIndex := 765, attributes := #[] }, { accessFlags := 1, nameIndex := 635, descriptorIndex := 636, attributes := #[] }, { accessFlags := 1, nameIndex := 683, descriptorIndex := 684, attributes := #[] }, { accessFlags := 2, nameIndex := 5, descriptorIndex := 29, attributes := #[] }, { accessFlags := 0, nameIndex := 5, descriptorIndex := 211, attributes := #[] }, { accessFlags := 0, nameIndex := 17, descriptorIndex := 337, attributes := #[] }, { accessFlags := 0, nameIndex := 494, descriptorIndex := 142, attributes := #[] }, { accessFlags := 8, nameIndex := 501, descriptorIndex := 391, attributes := #[] }, { accessFlags := 8, nameIndex := 523, descriptorIndex := 524, attributes := #[] }] 49 2 #[1106, 1108, 575, 1110, 1112] #[{ accessFlags := 18, nameIndex := 13, descriptorIndex := 14, attributes := #[] }, { accessFlags := 18, nameIndex := 17, descriptorIndex := 18, attributes := #[] }, { accessFlags := 2, nameIndex := 21, descriptorIndex := 22, attributes := #[] }, { accessFlags := 2, nameIndex := 25, descriptorIndex := 26, attributes := #[] }, { accessFlags := 26, nameIndex := 1116, descriptorIndex := 1117, attributes := #[] }, { accessFlags := 24, nameIndex := 40, descriptorIndex := 26, attributes := #[] }, { accessFlags := 26, nameIndex := 1101, descriptorIndex := 1102, attributes := #[] }, { accessFlags := 26, nameIndex := 1121, descriptorIndex := 1122, attributes := #[] }, { accessFlags := 25, nameIndex := 599, descriptorIndex := 600, attributes := #[] }, { accessFlags := 24, nameIndex := 1125, descriptorIndex := 18, attributes := #[] }, { accessFlags := 24, nameIndex := 1127, descriptorIndex := 18, attributes := #[] }])
  fields := #[{ name := "value", type := (.array .byte), accessFlags := 18, slot := 0, constantValue := 0 }, { name := "coder", type := .byte, accessFlags := 18, slot := 1, constantValue := 0 }, { name := "hash", type := .int, accessFlags := 2, slot := 2, constantValue := 0 }, { name := "hashIsZero", type := .boolean, accessFlags := 2, slot := 3, constantValue := 0 }, { name := "serialVersionUID", type := .long, accessFlags := 26, slot := 0, constantValue := 0 }, { name := "COMPACT_STRINGS", type := .boolean, accessFlags := 24, slot := 1, constantValue := 0 }, { name := "serialPersistentFields", type := (.array (.object "java/io/ObjectStreamField")), accessFlags := 26, slot := 2, constantValue := 0 }, { name := "REPL", type := .char, accessFlags := 26, slot := 3, constantValue := 0 }, { name := "CASE_INSENSITIVE_ORDER", type := (.object "java/util/Comparator"), accessFlags := 25, slot := 4, constantValue := 0 }, { name := "LATIN1", type := .byte, accessFlags := 24, slot := 5, constantValue := 0 }, { name := "UTF16", type := .byte, accessFlags := 24, slot := 6, constantValue := 0 }]
  methods := #[k7m0, k7m1, k7m2, k7m3, k7m4, k7m5, k7m6, k7m7, k7m8, k7m9, k7m10, k7m11, k7m12]
  instanceTypes := #[(.array .byte), .byte, .int, .boolean]
  staticTypes := #[.long, .boolean, (.array (.object "java/io/ObjectStreamField")), .char, (.object "java/util/Comparator"), .byte, .byte]
  resolved := Array.replicate 1451 none
  statics := some 0 }

def pool8 : Array CpInfo := pool [(2, .class_ 4), (1, u "java/lang/Object"), (0, u "<init>"), (0, u "()V"), (10, .class_ 19), (1, u "java/lang/String"), (36, .methodref 17 57), (0, .nameAndType 58 59), (0, u "indexOf"), (0, u "(I)I"), (3, .class_ 65), (1, u "com/example/shelfmark/shelfmark/io/DocumentReader"), (0, u "text"), (0, u "(Ljava/lang/String;)Ljava/lang/String;"), (22, u "substring"), (18, .methodref 17 110), (0, .nameAndType 90 111), (0, u "(II)Ljava/lang/String;")] 47

def k8m0 : Method := { name := "<init>", desc := "()V", sig := { parameters := [], returnType := none }, accessFlags := 2, code := none }
def k8c1 : Code := { maxStack := 3, maxLocals := 2, code := prog_14_method_3_code, exceptionTable := #[], attributes := #[] }
def k8m1 : Method := { name := "text", desc := "(Ljava/lang/String;)Ljava/lang/String;", sig := { parameters := [(.object "java/lang/String")], returnType := some (.object "java/lang/String") }, accessFlags := 8, code := some k8c1 }
/-- com/example/shelfmark/shelfmark/io/DocumentReader -/
def k8 : Class := { plain "com/example/shelfmark/shelfmark/io/DocumentReader" (some 0) with
  accessFlags := 49
  interfaces := #[]
  cf := some (fileOf pool8 63 #[] #[{ accessFlags := 2, nameIndex := 5, descriptorIndex := 6, attributes := #[] }, { accessFlags := 8, nameIndex := 66, descriptorIndex := 67, attributes := #[] }] 49 2 #[] #[])
  fields := #[]
  methods := #[k8m0, k8m1]
  instanceTypes := #[]
  staticTypes := #[]
  resolved := Array.replicate 159 none
  statics := none }

def pool9 : Array CpInfo := pool [(1, .class_ 2), (0, u "java/lang/String"), (1, .class_ 6), (1, u "java/lang/Object"), (0, u "<init>"), (0, u "()V"), (0, .methodref 1 10), (0, .nameAndType 11 12), (0, u "checkIndex"), (0, u "(II)V"), (1, .class_ 16), (1, u "java/lang/StringLatin1"), (21, .methodref 39 40), (0, .class_ 41), (0, .nameAndType 42 43), (0, u "java/lang/Math"), (0, u "min"), (0, u "(II)I"), (9, u "([BI)C"), (34, .methodref 14 89), (0, .nameAndType 90 91), (0, u "canEncode"), (0, u "(I)Z"), (0, .methodref 39 93), (0, .nameAndType 94 43), (0, u "max"), (0, .methodref 14 96), (0, .nameAndType 97 98), (0, u "indexOfChar"), (0, u "([BIII)I"), (2, u "indexOf"), (10, .methodref 1 113), (0, .nameAndType 7 114), (0, u "([BB)V"), (6, u "$assertionsDisabled"), (0, u "Z"), (8, .class_ 133), (1, u "java/util/Arrays"), (17, .string 152), (0, u ""), (43, u "newString"), (0, u "([BII)Ljava/lang/String;"), (23, .class_ 223), (1, u "java/lang/StringLatin1$LinesSpliterator"), (8, .methodref 131 233), (0, .nameAndType 234 235), (0, u "copyOfRange"), (0, u "([BII)[B"), (16, u "charAt"), (137, .class_ 391), (0, u "java/lang/StringLatin1$CharsSpliterator")] 3

def k9m0 : Method := { name := "<init>", desc := "()V", sig := { parameters := [], returnType := none }, accessFlags := 0, code := none }
def k9c1 : Code := { maxStack := 2, maxLocals := 2, code := jdk_43_method_2_code, exceptionTable := #[], attributes := #[] }
def k9m1 : Method := { name := "charAt", desc := "([BI)C", sig := { parameters := [(.array .byte), .int], returnType := some .char }, accessFlags := 9, code := some k9c1 }
def k9c2 : Code := { maxStack := 2, maxLocals := 1, code := jdk_43_method_4_code, exceptionTable := #[], attributes := #[] }
def k9m2 : Method := { name := "canEncode", desc := "(I)Z", sig := { parameters := [.int], returnType := some .boolean }, accessFlags := 9, code := some k9c2 }
def k9c3 : Code := { maxStack := 4, maxLocals := 4, code := jdk_43_method_22_code, exceptionTable := #[], attributes := #[] }
def k9m3 : Method := { name := "indexOf", desc := "([BIII)I", sig := { parameters := [(.array .byte), .int, .int, .int], returnType := some .int }, accessFlags := 9, code := some k9c3 }
def k9c4 : Code := { maxStack := 2, maxLocals := 6, code := jdk_43_method_23_code, exceptionTable := #[], attributes := #[] }
def k9m4 : Method := { name := "indexOfChar", desc := "([BIII)I", sig := { parameters := [(.array .byte), .int, .int, .int], returnType := some .int }, accessFlags := 10, code := some k9c4 }
def k9c5 : Code := { maxStack := 6, maxLocals := 3, code := jdk_43_method_47_code, exceptionTable := #[], attributes := #[] }
def k9m5 : Method := { name := "newString", desc := "([BII)Ljava/lang/String;", sig := { parameters := [(.array .byte), .int, .int], returnType := some (.object "java/lang/String") }, accessFlags := 9, code := some k9c5 }
/-- java/lang/StringLatin1 -/
def k9 : Class := { plain "java/lang/StringLatin1" (some 0) with
  accessFlags := 48
  interfaces := #[]
  cf := some (fileOf pool9 14 #[.nestMembers #[390, 221]] #[{ accessFlags := 0, nameIndex := 7, descriptorIndex := 8, attributes := #[] }, { accessFlags := 9, nameIndex := 252, descriptorIndex := 53, attributes := #[] }, { accessFlags := 9, nameIndex := 90, descriptorIndex := 91, attributes := #[] }, { accessFlags := 9, nameIndex := 101, descriptorIndex := 98, attributes := #[] }, { accessFlags := 10, nameIndex := 97, descriptorIndex := 98, attributes := #[] }, { accessFlags := 9, nameIndex := 196, descriptorIndex := 197, attributes := #[] }] 48 4 #[] #[{ accessFlags := 4120, nameIndex := 121, descriptorIndex := 122, attributes := #[] }])
  fields := #[{ name := "$assertionsDisabled", type := .boolean, accessFlags := 4120, slot := 0, constantValue := 0 }]
  methods := #[k9m0, k9m1, k9m2, k9m3, k9m4, k9m5]
  instanceTypes := #[]
  staticTypes := #[.boolean]
  resolved := Array.replicate 395 none
  statics := none }

def pool10 : Array CpInfo := pool [(1, .class_ 2), (0, u "java/lang/Math"), (1, .class_ 6), (1, u "java/lang/Object"), (0, u "<init>"), (0, u "()V"), (89, .class_ 100), (1, u "java/lang/Math$RandomNumberGeneratorHolder"), (71, u "negativeZeroFloatBits"), (0, u "J"), (2, u "negativeZeroDoubleBits"), (21, u "max"), (2, u "min"), (43, u "$assertionsDisabled"), (0, u "Z"), (88, u "(II)I"), (2, u "twoToTheDoubleScaleDown"), (0, u "D"), (4, u "twoToTheDoubleScaleUp"), (9, u "E"), (3, u "PI"), (2, u "TAU"), (2, u "DEGREES_TO_RADIANS"), (0, u "RADIANS_TO_DEGREES")] 94

def k10m0 : Method := { name := "<init>", desc := "()V", sig := { parameters := [], returnType := none }, accessFlags := 2, code := none }
def k10c1 : Code := { maxStack := 2, maxLocals := 2, code := jdk_29_method_65_code, exceptionTable := #[], attributes := #[] }
def k10m1 : Method := { name := "max", desc := "(II)I", sig := { parameters := [.int, .int], returnType := some .int }, accessFlags := 9, code := some k10c1 }
def k10c2 : Code := { maxStack := 2, maxLocals := 2, code := jdk_29_method_69_code, exceptionTable := #[], attributes := #[] }
def k10m2 : Method := { name := "min", desc := "(II)I", sig := { parameters := [.int, .int], returnType := some .int }, accessFlags := 9, code := some k10c2 }
/-- java/lang/Math -/
def k10 : Class := { plain "java/lang/Math" (some 0) with
  accessFlags := 49
  interfaces := #[]
  cf := some (fileOf pool10 1 #[.nestMembers #[98]] #[{ accessFlags := 2, nameIndex := 7, descriptorIndex := 8, attributes := #[] }, { accessFlags := 9, nameIndex := 198, descriptorIndex := 335, attributes := #[] }, { accessFlags := 9, nameIndex := 201, descriptorIndex := 335, attributes := #[] }] 49 4 #[] #[{ accessFlags := 25, nameIndex := 354, descriptorIndex := 339, attributes := #[] }, { accessFlags := 25, nameIndex := 358, descriptorIndex := 339, attributes := #[] }, { accessFlags := 25, nameIndex := 361, descriptorIndex := 339, attributes := #[] }, { accessFlags := 26, nameIndex := 364, descriptorIndex := 339, attributes := #[] }, { accessFlags := 26, nameIndex := 365, descriptorIndex := 339, attributes := #[] }, { accessFlags := 26, nameIndex := 172, descriptorIndex := 173, attributes := #[] }, { accessFlags := 26, nameIndex := 176, descriptorIndex := 173, attributes := #[] }, { accessFlags := 8, nameIndex := 344, descriptorIndex := 339, attributes := #[] }, { accessFlags := 8, nameIndex := 338, descriptorIndex := 339, attributes := #[] }, { accessFlags := 4120, nameIndex := 245, descriptorIndex := 246, attributes := #[] }])
  fields := #[{ name := "E", type := .double, accessFlags := 25, slot := 0, constantValue := 0 }, { name := "PI", type := .double, accessFlags := 25, slot := 1, constantValue := 0 }, { name := "TAU", type := .double, accessFlags := 25, slot := 2, constantValue := 0 }, { name := "DEGREES_TO_RADIANS", type := .double, accessFlags := 26, slot := 3, constantValue := 0 }, { name := "RADIANS_TO_DEGREES", type := .double, accessFlags := 26, slot := 4, constantValue := 0 }, { name := "negativeZeroFloatBits", type := .long, accessFlags := 26, slot := 5, constantValue := 0 }, { name := "negativeZeroDoubleBits", type := .long, accessFlags := 26, slot := 6, constantValue := 0 }, { name := "twoToTheDoubleScaleUp", type := .double, accessFlags := 8, slot := 7, constantValue := 0 }, { name := "twoToTheDoubleScaleDown", type := .double, accessFlags := 8, slot := 8, constantValue := 0 }, { name := "$assertionsDisabled", type := .boolean, accessFlags := 4120, slot := 9, constantValue := 0 }]
  methods := #[k10m0, k10m1, k10m2]
  instanceTypes := #[]
  staticTypes := #[.double, .double, .double, .double, .double, .long, .long, .double, .double, .boolean]
  resolved := Array.replicate 460 none
  statics := none }

def pool11 : Array CpInfo := pool [(6, .class_ 8), (1, u "java/lang/Object"), (0, u "<init>"), (0, u "()V"), (1, .class_ 14), (1, u "java/lang/StringUTF16"), (31, u "$assertionsDisabled"), (0, u "Z"), (13, u "HI_BYTE_SHIFT"), (0, u "I"), (2, u "LO_BYTE_SHIFT"), (49, .methodref 12 116), (0, .nameAndType 117 118), (0, u "compress"), (0, u "([CI[BII)I"), (3, u "([CII)[B"), (138, u "coderFromArrayLen"), (0, u "([BI)B"), (106, .class_ 371), (1, u "java/lang/StringUTF16$LinesSpliterator"), (58, u "MAX_LENGTH"), (196, .class_ 628), (0, u "java/lang/StringUTF16$CodePointsSpliterator"), (0, .class_ 630), (0, u "java/lang/StringUTF16$CharsSpliterator")] 4

def k11m0 : Method := { name := "<init>", desc := "()V", sig := { parameters := [], returnType := none }, accessFlags := 0, code := none }
def k11c1 : Code := { maxStack := 2, maxLocals := 2, code := jdk_52_method_15_code, exceptionTable := #[], attributes := #[] }
def k11m1 : Method := { name := "coderFromArrayLen", desc := "([BI)B", sig := { parameters := [(.array .byte), .int], returnType := some .byte }, accessFlags := 8, code := some k11c1 }
def k11c2 : Code := { maxStack := 5, maxLocals := 6, code := jdk_52_method_16_code, exceptionTable := #[], attributes := #[] }
def k11m2 : Method := { name := "compress", desc := "([CII)[B", sig := { parameters := [(.array .char), .int, .int], returnType := some (.array .byte) }, accessFlags := 9, code := some k11c2 }
def k11c3 : Code := { maxStack := 3, maxLocals := 7, code := jdk_52_method_21_code, exceptionTable := #[], attributes := #[] }
def k11m3 : Method := { name := "compress", desc := "([CI[BII)I", sig := { parameters := [(.array .char), .int, (.array .byte), .int, .int], returnType := some .int }, accessFlags := 9, code := some k11c3 }
/-- java/lang/StringUTF16 -/
def k11 : Class := { plain "java/lang/StringUTF16" (some 0) with
  accessFlags := 48
  interfaces := #[]
  cf := some (fileOf pool11 12 #[.nestMembers #[627, 629, 369]] #[{ accessFlags := 0, nameIndex := 9, descriptorIndex := 10, attributes := #[] }, { accessFlags := 8, nameIndex := 261, descriptorIndex := 262, attributes := #[] }, { accessFlags := 9, nameIndex := 117, descriptorIndex := 122, attributes := #[] }, { accessFlags := 9, nameIndex := 117, descriptorIndex := 118, attributes := #[] }] 48 6 #[] #[{ accessFlags := 26, nameIndex := 61, descriptorIndex := 62, attributes := #[] }, { accessFlags := 26, nameIndex := 65, descriptorIndex := 62, attributes := #[] }, { accessFlags := 24, nameIndex := 430, descriptorIndex := 62, attributes := #[] }, { accessFlags := 4120, nameIndex := 46, descriptorIndex := 47, attributes := #[] }])
  fields := #[{ name := "HI_BYTE_SHIFT", type := .int, accessFlags := 26, slot := 0, constantValue := 0 }, { name := "LO_BYTE_SHIFT", type := .int, accessFlags := 26, slot := 1, constantValue := 0 }, { name := "MAX_LENGTH", type := .int, accessFlags := 24, slot := 2, constantValue := 0 }, { name := "$assertionsDisabled", type := .boolean, accessFlags := 4120, slot := 3, constantValue := 0 }]
  methods := #[k11m0, k11m1, k11m2, k11m3]
  instanceTypes := #[]
  staticTypes := #[.int, .int, .int, .boolean]
  resolved := Array.replicate 635 none
  statics := none }

def pool12 : Array CpInfo := pool [(2, .class_ 4), (1, u "java/lang/Object"), (0, u "<init>"), (0, u "()V"), (17, .class_ 26), (1, u "jdk/internal/util/Preconditions"), (6, u "checkIndex"), (13, u "checkFromToIndex"), (7, .class_ 56), (0, u "jdk/internal/util/Preconditions$4"), (57, .class_ 115), (0, u "jdk/internal/util/Preconditions$1"), (7, u "SIOOBE_FORMATTER"), (0, u "Ljava/util/function/BiFunction;"), (0, .class_ 126), (0, u "jdk/internal/util/Preconditions$2"), (3, u "AIOOBE_FORMATTER"), (0, .class_ 132), (0, u "jdk/internal/util/Preconditions$3"), (3, u "IOOBE_FORMATTER"), (41, u "(IILjava/util/function/BiFunction;)I"), (4, u "(IIILjava/util/function/BiFunction;)I")] 10

def k12m0 : Method := { name := "<init>", desc := "()V", sig := { parameters := [], returnType := none }, accessFlags := 1, code := none }
def k12c1 : Code := { maxStack := 3, maxLocals := 3, code := jdk_41_method_11_code, exceptionTable := #[], attributes := #[] }
def k12m1 : Method := { name := "checkIndex", desc := "(IILjava/util/function/BiFunction;)I", sig := { parameters := [.int, .int, (.object "java/util/function/BiFunction")], returnType := some .int }, accessFlags := 9, code := some k12c1 }
def k12c2 : Code := { maxStack := 4, maxLocals := 4, code := jdk_41_method_12_code, exceptionTable := #[], attributes := #[] }
def k12m2 : Method := { name := "checkFromToIndex", desc := "(IIILjava/util/function/BiFunction;)I", sig := { parameters := [.int, .int, .int, (.object "java/util/function/BiFunction")], returnType := some .int }, accessFlags := 9, code := some k12c2 }
/-- jdk/internal/util/Preconditions -/
def k12 : Class := { plain "jdk/internal/util/Preconditions" (some 0) with
  accessFlags := 33
  interfaces := #[]
  cf := some (fileOf pool12 24 #[.nestMembers #[55, 131, 125, 114]] #[{ accessFlags := 1, nameIndex := 5, descriptorIndex := 6, attributes := #[] }, { accessFlags := 9, nameIndex := 33, descriptorIndex := 178, attributes := #[] }, { accessFlags := 9, nameIndex := 47, descriptorIndex := 183, attributes := #[] }] 33 2 #[] #[{ accessFlags := 25, nameIndex := 123, descriptorIndex := 124, attributes := #[] }, { accessFlags := 25, nameIndex := 130, descriptorIndex := 124, attributes := #[] }, { accessFlags := 25, nameIndex := 136, descriptorIndex := 124, attributes := #[] }])
  fields := #[{ name := "SIOOBE_FORMATTER", type := (.object "java/util/function/BiFunction"), accessFlags := 25, slot := 0, constantValue := 0 }, { name := "AIOOBE_FORMATTER", type := (.object "java/util/function/BiFunction"), accessFlags := 25, slot := 1, constantValue := 0 }, { name := "IOOBE_FORMATTER", type := (.object "java/util/function/BiFunction"), accessFlags := 25, slot := 2, constantValue := 0 }]
  methods := #[k12m0, k12m1, k12m2]
  instanceTypes := #[]
  staticTypes := #[(.object "java/util/function/BiFunction"), (.object "java/util/function/BiFunction"), (.object "java/util/function/BiFunction")]
  resolved := Array.replicate 194 none
  statics := some 1 }

def pool13 : Array CpInfo := pool [(2, .class_ 4), (1, u "java/lang/Object"), (0, u "<init>"), (0, u "()V"), (7, .class_ 16), (1, u "java/util/Arrays"), (57, .class_ 76), (1, u "java/util/Arrays$NaturalOrder"), (36, .class_ 115), (1, u "java/util/Arrays$LegacyMergeSort"), (1, u "Z"), (21, u "copyOfRange"), (10, .methodref 151 152), (0, .class_ 153), (0, .nameAndType 154 155), (0, u "java/lang/System"), (0, u "arraycopy"), (0, u "(Ljava/lang/Object;ILjava/lang/Object;II)V"), (148, .methodref 305 306), (0, .class_ 307), (0, .nameAndType 308 309), (0, u "java/lang/Math"), (0, u "min"), (0, u "(II)I"), (29, .methodref 14 340), (0, .nameAndType 341 342), (0, u "copyOfRangeByte"), (0, u "([BII)[B"), (0, .methodref 14 344), (0, .nameAndType 345 346), (0, u "checkLength"), (0, u "(II)V"), (28, .class_ 376), (0, u "java/util/Arrays$ArrayList"), (68, u "$assertionsDisabled"), (269, u "MIN_ARRAY_SORT_GRAN"), (0, u "I"), (2, u "INSERTIONSORT_THRESHOLD"), (255, .class_ 976), (0, u "java/util/Arrays$ArrayItr")] 52

def k13m0 : Method := { name := "<init>", desc := "()V", sig := { parameters := [], returnType := none }, accessFlags := 2, code := none }
def k13c1 : Code := { maxStack := 4, maxLocals := 2, code := jdk_65_method_131_code, exceptionTable := #[], attributes := #[] }
def k13m1 : Method := { name := "checkLength", desc := "(II)V", sig := { parameters := [.int, .int], returnType := none }, accessFlags := 10, code := some k13c1 }
def k13c2 : Code := { maxStack := 3, maxLocals := 3, code := jdk_65_method_132_code, exceptionTable := #[], attributes := #[] }
def k13m2 : Method := { name := "copyOfRange", desc := "([BII)[B", sig := { parameters := [(.array .byte), .int, .int], returnType := some (.array .byte) }, accessFlags := 9, code := some k13c2 }
def k13c3 : Code := { maxStack := 6, maxLocals := 5, code := jdk_65_method_133_code, exceptionTable := #[], attributes := #[] }
def k13m3 : Method := { name := "copyOfRangeByte", desc := "([BII)[B", sig := { parameters := [(.array .byte), .int, .int], returnType := some (.array .byte) }, accessFlags := 10, code := some k13c3 }
/-- java/util/Arrays -/
def k13 : Class := { plain "java/util/Arrays" (some 0) with
  accessFlags := 49
  interfaces := #[]
  cf := some (fileOf pool13 14 #[.nestMembers #[975, 375, 113, 74]] #[{ accessFlags := 2, nameIndex := 5, descriptorIndex := 6, attributes := #[] }, { accessFlags := 10, nameIndex := 345, descriptorIndex := 346, attributes := #[] }, { accessFlags := 9, nameIndex := 139, descriptorIndex := 342, attributes := #[] }, { accessFlags := 10, nameIndex := 341, descriptorIndex := 342, attributes := #[] }] 49 2 #[] #[{ accessFlags := 26, nameIndex := 715, descriptorIndex := 716, attributes := #[] }, { accessFlags := 26, nameIndex := 719, descriptorIndex := 716, attributes := #[] }, { accessFlags := 4120, nameIndex := 445, descriptorIndex := 117, attributes := #[] }])
  fields := #[{ name := "MIN_ARRAY_SORT_GRAN", type := .int, accessFlags := 26, slot := 0, constantValue := 0 }, { name := "INSERTIONSORT_THRESHOLD", type := .int, accessFlags := 26, slot := 1, constantValue := 0 }, { name := "$assertionsDisabled", type := .boolean, accessFlags := 4120, slot := 2, constantValue := 0 }]
  methods := #[k13m0, k13m1, k13m2, k13m3]
  instanceTypes := #[]
  staticTypes := #[.int, .int, .boolean]
  resolved := Array.replicate 1029 none
  statics := none }

def pool14 : Array CpInfo := pool [(2, .class_ 4), (1, u "java/lang/Object"), (0, u "<init>"), (0, u "()V"), (1, .class_ 10), (1, u "java/lang/System"), (0, u "allowSecurityManager"), (0, u "I"), (16, u "cons"), (0, u "Ljava/io/Console;"), (77, .class_ 110), (1, u "java/lang/System$CallersHolder"), (43, u "initialErrStream"), (0, u "Ljava/io/PrintStream;"), (19, u "security"), (0, u "Ljava/lang/SecurityManager;"), (31, .class_ 209), (0, u "java/lang/System$1"), (7, u "props"), (0, u "Ljava/util/Properties;"), (2, u "lineSeparator"), (0, u "Ljava/lang/String;"), (96, .class_ 321), (1, u "java/lang/System$LoggerFinder"), (5, .class_ 328), (0, u "java/lang/System$Logger"), (67, u "err"), (2, u "out"), (91, u "notSupportedJnuEncoding"), (15, u "in"), (17, u "initialIn"), (0, u "Ljava/io/InputStream;"), (35, u "bootLayer"), (0, u "Ljava/lang/ModuleLayer;"), (99, .class_ 664), (0, u "java/lang/System$2"), (9, u "NEVER"), (2, u "MAYBE"), (49, u "arraycopy"), (0, u "(Ljava/lang/Object;ILjava/lang/Object;II)V"), (72, .class_ 802), (0, u "java/lang/System$Logger$Level")] 31

def k14m0 : Method := { name := "<init>", desc := "()V", sig := { parameters := [], returnType := none }, accessFlags := 2, code := none }
def k14m1 : Method := { name := "arraycopy", desc := "(Ljava/lang/Object;ILjava/lang/Object;II)V", sig := { parameters := [(.object "java/lang/Object"), .int, (.object "java/lang/Object"), .int, .int], returnType := none }, accessFlags := 265, code := none }
/-- java/lang/System -/
def k14 : Class := { plain "java/lang/System" (some 0) with
  accessFlags := 49
  interfaces := #[]
  cf := some (fileOf pool14 8 #[.nestMembers #[319, 327, 801, 108, 663, 208]] #[{ accessFlags := 2, nameIndex := 5, descriptorIndex := 6, attributes := #[] }, { accessFlags := 265, nameIndex := 727, descriptorIndex := 728, attributes := #[] }] 49 2 #[] #[{ accessFlags := 25, nameIndex := 507, descriptorIndex := 526, attributes := #[] }, { accessFlags := 25, nameIndex := 399, descriptorIndex := 155, attributes := #[] }, { accessFlags := 25, nameIndex := 396, descriptorIndex := 155, attributes := #[] }, { accessFlags := 10, nameIndex := 525, descriptorIndex := 526, attributes := #[] }, { accessFlags := 26, nameIndex := 674, descriptorIndex := 12, attributes := #[] }, { accessFlags := 26, nameIndex := 677, descriptorIndex := 12, attributes := #[] }, { accessFlags := 10, nameIndex := 11, descriptorIndex := 12, attributes := #[] }, { accessFlags := 74, nameIndex := 175, descriptorIndex := 176, attributes := #[] }, { accessFlags := 10, nameIndex := 491, descriptorIndex := 222, attributes := #[] }, { accessFlags := 74, nameIndex := 29, descriptorIndex := 30, attributes := #[] }, { accessFlags := 74, nameIndex := 154, descriptorIndex := 155, attributes := #[] }, { accessFlags := 10, nameIndex := 217, descriptorIndex := 218, attributes := #[] }, { accessFlags := 10, nameIndex := 221, descriptorIndex := 222, attributes := #[] }, { accessFlags := 8, nameIndex := 562, descriptorIndex := 563, attributes := #[] }])
  fields := #[{ name := "in", type := (.object "java/io/InputStream"), accessFlags := 25, slot := 0, constantValue := 0 }, { name := "out", type := (.object "java/io/PrintStream"), accessFlags := 25, slot := 1, constantValue := 0 }, { name := "err", type := (.object "java/io/PrintStream"), accessFlags := 25, slot := 2, constantValue := 0 }, { name := "initialIn", type := (.object "java/io/InputStream"), accessFlags := 10, slot := 3, constantValue := 0 }, { name := "NEVER", type := .int, accessFlags := 26, slot := 4, constantValue := 0 }, { name := "MAYBE", type := .int, accessFlags := 26, slot := 5, constantValue := 0 }, { name := "allowSecurityManager", type := .int, accessFlags := 10, slot := 6, constantValue := 0 }, { name := "security", type := (.object "java/lang/SecurityManager"), accessFlags := 74, slot := 7, constantValue := 0 }, { name := "notSupportedJnuEncoding", type := (.object "java/lang/String"), accessFlags := 10, slot := 8, constantValue := 0 }, { name := "cons", type := (.object "java/io/Console"), accessFlags := 74, slot := 9, constantValue := 0 }, { name := "initialErrStream", type := (.object "java/io/PrintStream"), accessFlags := 74, slot := 10, constantValue := 0 }, { name := "props", type := (.object "java/util/Properties"), accessFlags := 10, slot := 11, constantValue := 0 }, { name := "lineSeparator", type := (.object "java/lang/String"), accessFlags := 10, slot := 12, constantValue := 0 }, { name := "bootLayer", type := (.object "java/lang/ModuleLayer"), accessFlags := 8, slot := 13, constantValue := 0 }]
  methods := #[k14m0, k14m1]
  instanceTypes := #[]
  staticTypes := #[(.object "java/io/InputStream"), (.object "java/io/PrintStream"), (.object "java/io/PrintStream"), (.object "java/io/InputStream"), .int, .int, .int, (.object "java/lang/SecurityManager"), (.object "java/lang/String"), (.object "java/io/Console"), (.object "java/io/PrintStream"), (.object "java/util/Properties"), (.object "java/lang/String"), (.object "java/lang/ModuleLayer")]
  resolved := Array.replicate 834 none
  statics := none }

def pool15 : Array CpInfo := pool [(9, u "<init>"), (6, .class_ 18), (1, u "java/lang/Object"), (0, u "()V"), (1, .class_ 23), (1, u "jdk/internal/util/ArraysSupport"), (0, u "LOG2_ARRAY_LONG_INDEX_SCALE"), (0, u "I"), (2, u "U"), (0, u "Ljdk/internal/misc/Unsafe;"), (8, u "BIG_ENDIAN"), (0, u "Z"), (8, u "LOG2_BYTE_BIT_SIZE"), (4, u "LOG2_ARRAY_INT_INDEX_SCALE"), (54, u "JLA"), (0, u "Ljdk/internal/access/JavaLangAccess;"), (11, u "LOG2_ARRAY_BOOLEAN_INDEX_SCALE"), (9, u "LOG2_ARRAY_BYTE_INDEX_SCALE"), (5, u "LOG2_ARRAY_CHAR_INDEX_SCALE"), (5, u "LOG2_ARRAY_SHORT_INDEX_SCALE"), (18, u "LOG2_ARRAY_FLOAT_INDEX_SCALE"), (24, u "LOG2_ARRAY_DOUBLE_INDEX_SCALE"), (89, u "T_BOOLEAN"), (2, u "T_CHAR"), (1, u "T_FLOAT"), (1, u "T_DOUBLE"), (1, u "T_BYTE"), (1, u "T_SHORT"), (1, u "T_INT"), (1, u "T_LONG"), (1, u "SOFT_MAX_ARRAY_LENGTH")] 83

def k15m0 : Method := { name := "<init>", desc := "()V", sig := { parameters := [], returnType := none }, accessFlags := 2, code := none }
/-- jdk/internal/util/ArraysSupport -/
def k15 : Class := { plain "jdk/internal/util/ArraysSupport" (some 0) with
  accessFlags := 33
  interfaces := #[]
  cf := some (fileOf pool15 21 #[] #[{ accessFlags := 2, nameIndex := 9, descriptorIndex := 19, attributes := #[] }] 33 16 #[] #[{ accessFlags := 24, nameIndex := 28, descriptorIndex := 29, attributes := #[] }, { accessFlags := 26, nameIndex := 38, descriptorIndex := 39, attributes := #[] }, { accessFlags := 25, nameIndex := 121, descriptorIndex := 25, attributes := #[] }, { accessFlags := 25, nameIndex := 131, descriptorIndex := 25, attributes := #[] }, { accessFlags := 25, nameIndex := 137, descriptorIndex := 25, attributes := #[] }, { accessFlags := 25, nameIndex := 143, descriptorIndex := 25, attributes := #[] }, { accessFlags := 25, nameIndex := 53, descriptorIndex := 25, attributes := #[] }, { accessFlags := 25, nameIndex := 24, descriptorIndex := 25, attributes := #[] }, { accessFlags := 25, nameIndex := 162, descriptorIndex := 25, attributes := #[] }, { accessFlags := 25, nameIndex := 187, descriptorIndex := 25, attributes := #[] }, { accessFlags := 26, nameIndex := 48, descriptorIndex := 25, attributes := #[] }, { accessFlags := 25, nameIndex := 277, descriptorIndex := 25, attributes := #[] }, { accessFlags := 25, nameIndex := 280, descriptorIndex := 25, attributes := #[] }, { accessFlags := 25, nameIndex := 282, descriptorIndex := 25, attributes := #[] }, { accessFlags := 25, nameIndex := 284, descriptorIndex := 25, attributes := #[] }, { accessFlags := 25, nameIndex := 286, descriptorIndex := 25, attributes := #[] }, { accessFlags := 25, nameIndex := 288, descriptorIndex := 25, attributes := #[] }, { accessFlags := 25, nameIndex := 290, descriptorIndex := 25, attributes := #[] }, { accessFlags := 25, nameIndex := 292, descriptorIndex := 25, attributes := #[] }, { accessFlags := 26, nameIndex := 108, descriptorIndex := 109, attributes := #[] }, { accessFlags := 25, nameIndex := 294, descriptorIndex := 25, attributes := #[] }])
  fields := #[{ name := "U", type := (.object "jdk/internal/misc/Unsafe"), accessFlags := 24, slot := 0, constantValue := 0 }, { name := "BIG_ENDIAN", type := .boolean, accessFlags := 26, slot := 1, constantValue := 0 }, { name := "LOG2_ARRAY_BOOLEAN_INDEX_SCALE", type := .int, accessFlags := 25, slot := 2, constantValue := 0 }, { name := "LOG2_ARRAY_BYTE_INDEX_SCALE", type := .int, accessFlags := 25, slot := 3, constantValue := 0 }, { name := "LOG2_ARRAY_CHAR_INDEX_SCALE", type := .int, accessFlags := 25, slot := 4, constantValue := 0 }, { name := "LOG2_ARRAY_SHORT_INDEX_SCALE", type := .int, accessFlags := 25, slot := 5, constantValue := 0 }, { name := "LOG2_ARRAY_INT_INDEX_SCALE", type := .int, accessFlags := 25, slot := 6, constantValue := 0 }, { name := "LOG2_ARRAY_LONG_INDEX_SCALE", type := .int, accessFlags := 25, slot := 7, constantValue := 0 }, { name := "LOG2_ARRAY_FLOAT_INDEX_SCALE", type := .int, accessFlags := 25, slot := 8, constantValue := 0 }, { name := "LOG2_ARRAY_DOUBLE_INDEX_SCALE", type := .int, accessFlags := 25, slot := 9, constantValue := 0 }, { name := "LOG2_BYTE_BIT_SIZE", type := .int, accessFlags := 26, slot := 10, constantValue := 0 }, { name := "T_BOOLEAN", type := .int, accessFlags := 25, slot := 11, constantValue := 0 }, { name := "T_CHAR", type := .int, accessFlags := 25, slot := 12, constantValue := 0 }, { name := "T_FLOAT", type := .int, accessFlags := 25, slot := 13, constantValue := 0 }, { name := "T_DOUBLE", type := .int, accessFlags := 25, slot := 14, constantValue := 0 }, { name := "T_BYTE", type := .int, accessFlags := 25, slot := 15, constantValue := 0 }, { name := "T_SHORT", type := .int, accessFlags := 25, slot := 16, constantValue := 0 }, { name := "T_INT", type := .int, accessFlags := 25, slot := 17, constantValue := 0 }, { name := "T_LONG", type := .int, accessFlags := 25, slot := 18, constantValue := 0 }, { name := "JLA", type := (.object "jdk/internal/access/JavaLangAccess"), accessFlags := 26, slot := 19, constantValue := 0 }, { name := "SOFT_MAX_ARRAY_LENGTH", type := .int, accessFlags := 25, slot := 20, constantValue := 0 }]
  methods := #[k15m0]
  instanceTypes := #[]
  staticTypes := #[(.object "jdk/internal/misc/Unsafe"), .boolean, .int, .int, .int, .int, .int, .int, .int, .int, .int, .int, .int, .int, .int, .int, .int, .int, .int, (.object "jdk/internal/access/JavaLangAccess"), .int]
  resolved := Array.replicate 378 none
  statics := none }

def pool16 : Array CpInfo := pool [(1, u "java/lang/Cloneable"), (0, .class_ 1), (0, u "java/lang/Object"), (0, .class_ 3)] 3

/-- java/lang/Cloneable -/
def k16 : Class := { plain "java/lang/Cloneable" (some 0) with
  accessFlags := 1537
  interfaces := #[]
  cf := some (fileOf pool16 2 #[] #[] 1537 4 #[] #[])
  fields := #[]
  methods := #[]
  instanceTypes := #[]
  staticTypes := #[]
  resolved := Array.replicate 8 none
  statics := none }

/-- the primitive byte -/
def k17 : Class := { plain "byte" none with kind := .primitive 'B', accessFlags := 0x411 }
/-- [B -/
def k18 : Class := { plain "[B" (some 0) with kind := .array 17 .byte, interfaces := #[16, 2], accessFlags := 1041 }

/-- the primitive char -/
def k19 : Class := { plain "char" none with kind := .primitive 'C', accessFlags := 0x411 }
/-- [C -/
def k20 : Class := { plain "[C" (some 0) with kind := .array 19 .char, interfaces := #[16, 2], accessFlags := 1041 }

/-- the primitive int -/
def k21 : Class := { plain "int" none with kind := .primitive 'I', accessFlags := 0x411 }
/-- [I -/
def k22 : Class := { plain "[I" (some 0) with kind := .array 21 .int, interfaces := #[16, 2], accessFlags := 1041 }

def heap : Heap := #[{ cls := 7, slots := #[.long 0, .int 1, .null, .int 0, .null, .int 0, .int 0], vm := .statics 7 },
  { cls := 12, slots := #[.null, .null, .null], vm := .statics 12 }]
def classes : Array Class := #[k0, k1, k2, k3, k4, k5, k6, k7, k8, k9, k10, k11, k12, k13, k14, k15, k16, k17, k18, k19, k20, k21, k22]
def interned : List (Array UInt16 × Addr) := []
def slotsUsed : Nat := 10
def theMethod : MethodId := ⟨1, 1⟩
def args0 : Array Value := #[.int 65, .int 3, .int 3, .int 3, .int 3]
def aboutOver (below : List Frame) : State where
  vm := { classes := classes, interned := interned.toArray }
  heap := heap
  slotsUsed := slotsUsed
  threads := #[{ frames := .invoking theMethod args0 :: below }]
def below0 : List Frame := [.native { method := ⟨0, 0⟩, args := #[] }]
def about1 : State := aboutOver below0
def p0 : Program := .bare "" "" ""
def e0 : Env := launch0.env 0 0 0
theorem w_frames : about1.frames = Frame.invoking theMethod args0 :: below0 := rfl
set_option maxRecDepth 65536 in
theorem w_args : argsFit about1.vm theMethod args0 = true := by decide +kernel
set_option maxRecDepth 65536 in
theorem w_heap : heapFits about1 = true := by decide +kernel
set_option maxRecDepth 65536 in
theorem w_runnable : about1.curStatus? = some .runnable := by decide +kernel
set_option maxRecDepth 65536 in
theorem w_alone : about1.alone = true := by decide +kernel
set_option maxRecDepth 65536 in
theorem w_named : about1.methodNamed? x = some theMethod := by decide +kernel
set_option maxRecDepth 65536 in
theorem w_hears : about1.hears theMethod below0 = true := by decide +kernel
set_option maxRecDepth 65536 in
theorem w_ripe : about1.ripe theMethod args0 below0 = true := by decide +kernel
theorem w_running : about1.status = .running := rfl
set_option maxRecDepth 65536 in
theorem w_room : about1.hasRoom e0.platform room_1 = true :=
  launch0.hasRoom_least _ room_1 (by decide +kernel) (by decide +kernel) (by decide +kernel) (by decide +kernel) (by decide +kernel) (by decide +kernel)
theorem allAtoms_all (ts : List Jvm.Cond) (a : Array Jvm.Value) (st : Jvm.State) : (allAtoms ts).before a st = ts.all (fun c => c.before a st) := by
  induction ts with
  | nil => rfl
  | cons c t ih =>
    show (Jvm.Cond.and c (allAtoms t)).before a st = _
    rw [Jvm.Cond.before_and, ih, List.all_cons]
def words1 : List Jvm.Cond := Jvm.Cond.code x code maxLocals ret :: tables_1
/-- a 'code' word, met by the world's own term for the bytes: nothing is compared byte by byte -/
theorem code_word {y : MethodName} {bytes : ByteArray} {mx : Nat} {rt : Option FieldType} {a : Array Value} {s : State} {m : MethodId} {meth : Method} {c : Code} (h1 : s.methodNamed? y = some m) (h2 : s.vm.method? m = some meth) (h3 : meth.code = some c) (h4 : c.code = bytes)
    (h5 : (c.maxLocals == mx && c.exceptionTable.isEmpty && decide (c.maxStack ≤ mostOperands) && decide (meth.sig.returnType = rt) && !meth.locks && decide (parseMethodDescriptor y.desc = some meth.sig)) = true) : (Jvm.Cond.code y bytes mx rt).before a s = true := by
  simp only [Bool.and_eq_true, beq_iff_eq, Bool.not_eq_true', decide_eq_true_eq] at h5
  obtain ⟨⟨⟨⟨⟨g1, g2⟩, g3⟩, g4⟩, g5⟩, g6⟩ := h5
  simp [Cond.before, Cond.holds, Cond.value, h1, h2, h3, h4, g1, g2, g3, g4, g5, g6]
def isCode : Jvm.Cond → Bool
  | .code _ _ _ _ => true
  | _ => false
theorem all_split {L : List Jvm.Cond} {P : Jvm.Cond → Bool} (h1 : L.all (fun c => isCode c || P c) = true) (h2 : ∀ c ∈ L.filter isCode, P c = true) : L.all P = true := by
  refine List.all_eq_true.mpr fun c hc => ?_
  have h := List.all_eq_true.mp h1 c hc
  rcases Bool.eq_false_or_eq_true (isCode c) with hi | hi
  · exact h2 c (List.mem_filter.mpr ⟨hc, hi⟩)
  · simpa [hi] using h
set_option maxRecDepth 65536 in
theorem w_c0 : (Jvm.Cond.code x code maxLocals ret).before args0 about1 = true := code_word (m := ⟨1, 1⟩) (meth := k1m1) (c := k1c1) (by decide +kernel) rfl rfl rfl (by decide +kernel)
set_option maxRecDepth 65536 in
theorem w_c1 : (Jvm.Cond.code ({ cls := "com/example/shelfmark/shelfmark/io/DocumentReaderTextPinLaw", name := "draw", desc := "(I)C" } : Jvm.MethodName) method_3_code (1 : Nat) (Option.some Jvm.ClassFile.FieldType.char)).before args0 about1 = true := code_word (m := ⟨1, 2⟩) (meth := k1m2) (c := k1c2) (by decide +kernel) rfl rfl rfl (by decide +kernel)
set_option maxRecDepth 65536 in
theorem w_c2 : (Jvm.Cond.code ({ cls := "com/example/shelfmark/shelfmark/io/DocumentReaderTextPinLaw", name := "make", desc := "(ICCCC)[C" } : Jvm.MethodName) method_4_code (5 : Nat) (Option.some (Jvm.ClassFile.FieldType.array Jvm.ClassFile.FieldType.char))).before args0 about1 = true := code_word (m := ⟨1, 3⟩) (meth := k1m3) (c := k1c3) (by decide +kernel) rfl rfl rfl (by decide +kernel)
set_option maxRecDepth 65536 in
theorem w_c3 : (Jvm.Cond.code ({ cls := "java/lang/String", name := "<init>", desc := "([C)V" } : Jvm.MethodName) jdk_42_method_3_code (2 : Nat) (Option.none : Option Jvm.ClassFile.FieldType)).before args0 about1 = true := code_word (m := ⟨7, 1⟩) (meth := k7m1) (c := k7c1) (by decide +kernel) rfl rfl rfl (by decide +kernel)
set_option maxRecDepth 65536 in
theorem w_c4 : (Jvm.Cond.code ({ cls := "java/lang/String", name := "<init>", desc := "([CIILjava/lang/Void;)V" } : Jvm.MethodName) jdk_42_method_149_code (6 : Nat) (Option.none : Option Jvm.ClassFile.FieldType)).before args0 about1 = true := code_word (m := ⟨7, 7⟩) (meth := k7m7) (c := k7c7) (by decide +kernel) rfl rfl rfl (by decide +kernel)
set_option maxRecDepth 65536 in
theorem w_c5 : (Jvm.Cond.code ({ cls := "java/lang/Object", name := "<init>", desc := "()V" } : Jvm.MethodName) object_method_1_code (1 : Nat) (Option.none : Option Jvm.ClassFile.FieldType)).before args0 about1 = true := code_word (m := ⟨0, 0⟩) (meth := k0m0) (c := k0c0) (by decide +kernel) rfl rfl rfl (by decide +kernel)
set_option maxRecDepth 65536 in
theorem w_c6 : (Jvm.Cond.code ({ cls := "com/example/shelfmark/shelfmark/io/DocumentReader", name := "text", desc := "(Ljava/lang/String;)Ljava/lang/String;" } : Jvm.MethodName) prog_14_method_3_code (2 : Nat) (Option.some (Jvm.ClassFile.FieldType.object "java/lang/String"))).before args0 about1 = true := code_word (m := ⟨8, 1⟩) (meth := k8m1) (c := k8c1) (by decide +kernel) rfl rfl rfl (by decide +kernel)
set_option maxRecDepth 65536 in
theorem w_c7 : (Jvm.Cond.code ({ cls := "java/lang/String", name := "indexOf", desc := "(I)I" } : Jvm.MethodName) jdk_42_method_79_code (2 : Nat) (Option.some Jvm.ClassFile.FieldType.int)).before args0 about1 = true := code_word (m := ⟨7, 4⟩) (meth := k7m4) (c := k7c4) (by decide +kernel) rfl rfl rfl (by decide +kernel)
set_option maxRecDepth 65536 in
theorem w_c8 : (Jvm.Cond.code ({ cls := "java/lang/String", name := "indexOf", desc := "(II)I" } : Jvm.MethodName) jdk_42_method_80_code (3 : Nat) (Option.some Jvm.ClassFile.FieldType.int)).before args0 about1 = true := code_word (m := ⟨7, 5⟩) (meth := k7m5) (c := k7c5) (by decide +kernel) rfl rfl rfl (by decide +kernel)
set_option maxRecDepth 65536 in
theorem w_c9 : (Jvm.Cond.code ({ cls := "java/lang/String", name := "isLatin1", desc := "()Z" } : Jvm.MethodName) jdk_42_method_154_code (1 : Nat) (Option.some Jvm.ClassFile.FieldType.boolean)).before args0 about1 = true := code_word (m := ⟨7, 10⟩) (meth := k7m10) (c := k7c10) (by decide +kernel) rfl rfl rfl (by decide +kernel)
set_option maxRecDepth 65536 in
theorem w_c10 : (Jvm.Cond.code ({ cls := "java/lang/String", name := "length", desc := "()I" } : Jvm.MethodName) jdk_42_method_54_code (1 : Nat) (Option.some Jvm.ClassFile.FieldType.int)).before args0 about1 = true := code_word (m := ⟨7, 2⟩) (meth := k7m2) (c := k7c2) (by decide +kernel) rfl rfl rfl (by decide +kernel)
set_option maxRecDepth 65536 in
theorem w_c11 : (Jvm.Cond.code ({ cls := "java/lang/String", name := "coder", desc := "()B" } : Jvm.MethodName) jdk_42_method_152_code (1 : Nat) (Option.some Jvm.ClassFile.FieldType.byte)).before args0 about1 = true := code_word (m := ⟨7, 9⟩) (meth := k7m9) (c := k7c9) (by decide +kernel) rfl rfl rfl (by decide +kernel)
set_option maxRecDepth 65536 in
theorem w_c12 : (Jvm.Cond.code ({ cls := "java/lang/StringLatin1", name := "indexOf", desc := "([BIII)I" } : Jvm.MethodName) jdk_43_method_22_code (4 : Nat) (Option.some Jvm.ClassFile.FieldType.int)).before args0 about1 = true := code_word (m := ⟨9, 3⟩) (meth := k9m3) (c := k9c3) (by decide +kernel) rfl rfl rfl (by decide +kernel)
set_option maxRecDepth 65536 in
theorem w_c13 : (Jvm.Cond.code ({ cls := "java/lang/StringLatin1", name := "canEncode", desc := "(I)Z" } : Jvm.MethodName) jdk_43_method_4_code (1 : Nat) (Option.some Jvm.ClassFile.FieldType.boolean)).before args0 about1 = true := code_word (m := ⟨9, 2⟩) (meth := k9m2) (c := k9c2) (by decide +kernel) rfl rfl rfl (by decide +kernel)
set_option maxRecDepth 65536 in
theorem w_c14 : (Jvm.Cond.code ({ cls := "java/lang/Math", name := "max", desc := "(II)I" } : Jvm.MethodName) jdk_29_method_65_code (2 : Nat) (Option.some Jvm.ClassFile.FieldType.int)).before args0 about1 = true := code_word (m := ⟨10, 1⟩) (meth := k10m1) (c := k10c1) (by decide +kernel) rfl rfl rfl (by decide +kernel)
set_option maxRecDepth 65536 in
theorem w_c15 : (Jvm.Cond.code ({ cls := "java/lang/Math", name := "min", desc := "(II)I" } : Jvm.MethodName) jdk_29_method_69_code (2 : Nat) (Option.some Jvm.ClassFile.FieldType.int)).before args0 about1 = true := code_word (m := ⟨10, 2⟩) (meth := k10m2) (c := k10c2) (by decide +kernel) rfl rfl rfl (by decide +kernel)
set_option maxRecDepth 65536 in
theorem w_c16 : (Jvm.Cond.code ({ cls := "com/example/shelfmark/shelfmark/io/DocumentReaderTextPinLaw", name := "firstTab", desc := "(ICCCC)I" } : Jvm.MethodName) method_5_code (5 : Nat) (Option.some Jvm.ClassFile.FieldType.int)).before args0 about1 = true := code_word (m := ⟨1, 4⟩) (meth := k1m4) (c := k1c4) (by decide +kernel) rfl rfl rfl (by decide +kernel)
set_option maxRecDepth 65536 in
theorem w_c17 : (Jvm.Cond.code ({ cls := "com/example/shelfmark/shelfmark/io/DocumentReaderTextPinLaw", name := "same", desc := "(Ljava/lang/String;IIC)Z" } : Jvm.MethodName) method_6_code (4 : Nat) (Option.some Jvm.ClassFile.FieldType.boolean)).before args0 about1 = true := code_word (m := ⟨1, 5⟩) (meth := k1m5) (c := k1c5) (by decide +kernel) rfl rfl rfl (by decide +kernel)
set_option maxRecDepth 65536 in
theorem w_c18 : (Jvm.Cond.code ({ cls := "java/lang/StringUTF16", name := "compress", desc := "([CII)[B" } : Jvm.MethodName) jdk_52_method_16_code (6 : Nat) (Option.some (Jvm.ClassFile.FieldType.array Jvm.ClassFile.FieldType.byte))).before args0 about1 = true := code_word (m := ⟨11, 2⟩) (meth := k11m2) (c := k11c2) (by decide +kernel) rfl rfl rfl (by decide +kernel)
set_option maxRecDepth 65536 in
theorem w_c19 : (Jvm.Cond.code ({ cls := "java/lang/StringUTF16", name := "compress", desc := "([CI[BII)I" } : Jvm.MethodName) jdk_52_method_21_code (7 : Nat) (Option.some Jvm.ClassFile.FieldType.int)).before args0 about1 = true := code_word (m := ⟨11, 3⟩) (meth := k11m3) (c := k11c3) (by decide +kernel) rfl rfl rfl (by decide +kernel)
set_option maxRecDepth 65536 in
theorem w_c20 : (Jvm.Cond.code ({ cls := "java/lang/StringUTF16", name := "coderFromArrayLen", desc := "([BI)B" } : Jvm.MethodName) jdk_52_method_15_code (2 : Nat) (Option.some Jvm.ClassFile.FieldType.byte)).before args0 about1 = true := code_word (m := ⟨11, 1⟩) (meth := k11m1) (c := k11c1) (by decide +kernel) rfl rfl rfl (by decide +kernel)
set_option maxRecDepth 65536 in
theorem w_c21 : (Jvm.Cond.code ({ cls := "java/lang/StringLatin1", name := "indexOfChar", desc := "([BIII)I" } : Jvm.MethodName) jdk_43_method_23_code (6 : Nat) (Option.some Jvm.ClassFile.FieldType.int)).before args0 about1 = true := code_word (m := ⟨9, 4⟩) (meth := k9m4) (c := k9c4) (by decide +kernel) rfl rfl rfl (by decide +kernel)
set_option maxRecDepth 65536 in
theorem w_c22 : (Jvm.Cond.code ({ cls := "java/lang/String", name := "charAt", desc := "(I)C" } : Jvm.MethodName) jdk_42_method_56_code (2 : Nat) (Option.some Jvm.ClassFile.FieldType.char)).before args0 about1 = true := code_word (m := ⟨7, 3⟩) (meth := k7m3) (c := k7c3) (by decide +kernel) rfl rfl rfl (by decide +kernel)
set_option maxRecDepth 65536 in
theorem w_c23 : (Jvm.Cond.code ({ cls := "java/lang/StringLatin1", name := "charAt", desc := "([BI)C" } : Jvm.MethodName) jdk_43_method_2_code (2 : Nat) (Option.some Jvm.ClassFile.FieldType.char)).before args0 about1 = true := code_word (m := ⟨9, 1⟩) (meth := k9m1) (c := k9c1) (by decide +kernel) rfl rfl rfl (by decide +kernel)
set_option maxRecDepth 65536 in
theorem w_c24 : (Jvm.Cond.code ({ cls := "java/lang/String", name := "checkIndex", desc := "(II)V" } : Jvm.MethodName) jdk_42_method_155_code (2 : Nat) (Option.none : Option Jvm.ClassFile.FieldType)).before args0 about1 = true := code_word (m := ⟨7, 11⟩) (meth := k7m11) (c := k7c11) (by decide +kernel) rfl rfl rfl (by decide +kernel)
set_option maxRecDepth 65536 in
theorem w_c25 : (Jvm.Cond.code ({ cls := "jdk/internal/util/Preconditions", name := "checkIndex", desc := "(IILjava/util/function/BiFunction;)I" } : Jvm.MethodName) jdk_41_method_11_code (3 : Nat) (Option.some Jvm.ClassFile.FieldType.int)).before args0 about1 = true := code_word (m := ⟨12, 1⟩) (meth := k12m1) (c := k12c1) (by decide +kernel) rfl rfl rfl (by decide +kernel)
set_option maxRecDepth 65536 in
theorem w_c26 : (Jvm.Cond.code ({ cls := "java/lang/String", name := "substring", desc := "(II)Ljava/lang/String;" } : Jvm.MethodName) jdk_42_method_92_code (5 : Nat) (Option.some (Jvm.ClassFile.FieldType.object "java/lang/String"))).before args0 about1 = true := code_word (m := ⟨7, 6⟩) (meth := k7m6) (c := k7c6) (by decide +kernel) rfl rfl rfl (by decide +kernel)
set_option maxRecDepth 65536 in
theorem w_c27 : (Jvm.Cond.code ({ cls := "java/lang/String", name := "checkBoundsBeginEnd", desc := "(III)V" } : Jvm.MethodName) jdk_42_method_158_code (3 : Nat) (Option.none : Option Jvm.ClassFile.FieldType)).before args0 about1 = true := code_word (m := ⟨7, 12⟩) (meth := k7m12) (c := k7c12) (by decide +kernel) rfl rfl rfl (by decide +kernel)
set_option maxRecDepth 65536 in
theorem w_c28 : (Jvm.Cond.code ({ cls := "jdk/internal/util/Preconditions", name := "checkFromToIndex", desc := "(IIILjava/util/function/BiFunction;)I" } : Jvm.MethodName) jdk_41_method_12_code (4 : Nat) (Option.some Jvm.ClassFile.FieldType.int)).before args0 about1 = true := code_word (m := ⟨12, 2⟩) (meth := k12m2) (c := k12c2) (by decide +kernel) rfl rfl rfl (by decide +kernel)
set_option maxRecDepth 65536 in
theorem w_c29 : (Jvm.Cond.code ({ cls := "java/lang/StringLatin1", name := "newString", desc := "([BII)Ljava/lang/String;" } : Jvm.MethodName) jdk_43_method_47_code (3 : Nat) (Option.some (Jvm.ClassFile.FieldType.object "java/lang/String"))).before args0 about1 = true := code_word (m := ⟨9, 5⟩) (meth := k9m5) (c := k9c5) (by decide +kernel) rfl rfl rfl (by decide +kernel)
set_option maxRecDepth 65536 in
theorem w_c30 : (Jvm.Cond.code ({ cls := "java/util/Arrays", name := "copyOfRange", desc := "([BII)[B" } : Jvm.MethodName) jdk_65_method_132_code (3 : Nat) (Option.some (Jvm.ClassFile.FieldType.array Jvm.ClassFile.FieldType.byte))).before args0 about1 = true := code_word (m := ⟨13, 2⟩) (meth := k13m2) (c := k13c2) (by decide +kernel) rfl rfl rfl (by decide +kernel)
set_option maxRecDepth 65536 in
theorem w_c31 : (Jvm.Cond.code ({ cls := "java/util/Arrays", name := "copyOfRangeByte", desc := "([BII)[B" } : Jvm.MethodName) jdk_65_method_133_code (5 : Nat) (Option.some (Jvm.ClassFile.FieldType.array Jvm.ClassFile.FieldType.byte))).before args0 about1 = true := code_word (m := ⟨13, 3⟩) (meth := k13m3) (c := k13c3) (by decide +kernel) rfl rfl rfl (by decide +kernel)
set_option maxRecDepth 65536 in
theorem w_c32 : (Jvm.Cond.code ({ cls := "java/util/Arrays", name := "checkLength", desc := "(II)V" } : Jvm.MethodName) jdk_65_method_131_code (2 : Nat) (Option.none : Option Jvm.ClassFile.FieldType)).before args0 about1 = true := code_word (m := ⟨13, 1⟩) (meth := k13m1) (c := k13c1) (by decide +kernel) rfl rfl rfl (by decide +kernel)
set_option maxRecDepth 65536 in
theorem w_c33 : (Jvm.Cond.code ({ cls := "java/lang/String", name := "<init>", desc := "([BB)V" } : Jvm.MethodName) jdk_42_method_151_code (3 : Nat) (Option.none : Option Jvm.ClassFile.FieldType)).before args0 about1 = true := code_word (m := ⟨7, 8⟩) (meth := k7m8) (c := k7c8) (by decide +kernel) rfl rfl rfl (by decide +kernel)
def codes1 : List Jvm.Cond := [Jvm.Cond.code x code maxLocals ret, Jvm.Cond.code ({ cls := "com/example/shelfmark/shelfmark/io/DocumentReaderTextPinLaw", name := "draw", desc := "(I)C" } : Jvm.MethodName) method_3_code (1 : Nat) (Option.some Jvm.ClassFile.FieldType.char), Jvm.Cond.code ({ cls := "com/example/shelfmark/shelfmark/io/DocumentReaderTextPinLaw", name := "make", desc := "(ICCCC)[C" } : Jvm.MethodName) method_4_code (5 : Nat) (Option.some (Jvm.ClassFile.FieldType.array Jvm.ClassFile.FieldType.char)), Jvm.Cond.code ({ cls := "java/lang/String", name := "<init>", desc := "([C)V" } : Jvm.MethodName) jdk_42_method_3_code (2 : Nat) (Option.none : Option Jvm.ClassFile.FieldType), Jvm.Cond.code ({ cls := "java/lang/String", name := "<init>", desc := "([CIILjava/lang/Void;)V" } : Jvm.MethodName) jdk_42_method_149_code (6 : Nat) (Option.none : Option Jvm.ClassFile.FieldType), Jvm.Cond.code ({ cls := "java/lang/Object", name := "<init>", desc := "()V" } : Jvm.MethodName) object_method_1_code (1 : Nat) (Option.none : Option Jvm.ClassFile.FieldType), Jvm.Cond.code ({ cls := "com/example/shelfmark/shelfmark/io/DocumentReader", name := "text", desc := "(Ljava/lang/String;)Ljava/lang/String;" } : Jvm.MethodName) prog_14_method_3_code (2 : Nat) (Option.some (Jvm.ClassFile.FieldType.object "java/lang/String")), Jvm.Cond.code ({ cls := "java/lang/String", name := "indexOf", desc := "(I)I" } : Jvm.MethodName) jdk_42_method_79_code (2 : Nat) (Option.some Jvm.ClassFile.FieldType.int), Jvm.Cond.code ({ cls := "java/lang/String", name := "indexOf", desc := "(II)I" } : Jvm.MethodName) jdk_42_method_80_code (3 : Nat) (Option.some Jvm.ClassFile.FieldType.int), Jvm.Cond.code ({ cls := "java/lang/String", name := "isLatin1", desc := "()Z" } : Jvm.MethodName) jdk_42_method_154_code (1 : Nat) (Option.some Jvm.ClassFile.FieldType.boolean), Jvm.Cond.code ({ cls := "java/lang/String", name := "length", desc := "()I" } : Jvm.MethodName) jdk_42_method_54_code (1 : Nat) (Option.some Jvm.ClassFile.FieldType.int), Jvm.Cond.code ({ cls := "java/lang/String", name := "coder", desc := "()B" } : Jvm.MethodName) jdk_42_method_152_code (1 : Nat) (Option.some Jvm.ClassFile.FieldType.byte), Jvm.Cond.code ({ cls := "java/lang/StringLatin1", name := "indexOf", desc := "([BIII)I" } : Jvm.MethodName) jdk_43_method_22_code (4 : Nat) (Option.some Jvm.ClassFile.FieldType.int), Jvm.Cond.code ({ cls := "java/lang/StringLatin1", name := "canEncode", desc := "(I)Z" } : Jvm.MethodName) jdk_43_method_4_code (1 : Nat) (Option.some Jvm.ClassFile.FieldType.boolean), Jvm.Cond.code ({ cls := "java/lang/Math", name := "max", desc := "(II)I" } : Jvm.MethodName) jdk_29_method_65_code (2 : Nat) (Option.some Jvm.ClassFile.FieldType.int), Jvm.Cond.code ({ cls := "java/lang/Math", name := "min", desc := "(II)I" } : Jvm.MethodName) jdk_29_method_69_code (2 : Nat) (Option.some Jvm.ClassFile.FieldType.int), Jvm.Cond.code ({ cls := "com/example/shelfmark/shelfmark/io/DocumentReaderTextPinLaw", name := "firstTab", desc := "(ICCCC)I" } : Jvm.MethodName) method_5_code (5 : Nat) (Option.some Jvm.ClassFile.FieldType.int), Jvm.Cond.code ({ cls := "com/example/shelfmark/shelfmark/io/DocumentReaderTextPinLaw", name := "same", desc := "(Ljava/lang/String;IIC)Z" } : Jvm.MethodName) method_6_code (4 : Nat) (Option.some Jvm.ClassFile.FieldType.boolean), Jvm.Cond.code ({ cls := "java/lang/StringUTF16", name := "compress", desc := "([CII)[B" } : Jvm.MethodName) jdk_52_method_16_code (6 : Nat) (Option.some (Jvm.ClassFile.FieldType.array Jvm.ClassFile.FieldType.byte)), Jvm.Cond.code ({ cls := "java/lang/StringUTF16", name := "compress", desc := "([CI[BII)I" } : Jvm.MethodName) jdk_52_method_21_code (7 : Nat) (Option.some Jvm.ClassFile.FieldType.int), Jvm.Cond.code ({ cls := "java/lang/StringUTF16", name := "coderFromArrayLen", desc := "([BI)B" } : Jvm.MethodName) jdk_52_method_15_code (2 : Nat) (Option.some Jvm.ClassFile.FieldType.byte), Jvm.Cond.code ({ cls := "java/lang/StringLatin1", name := "indexOfChar", desc := "([BIII)I" } : Jvm.MethodName) jdk_43_method_23_code (6 : Nat) (Option.some Jvm.ClassFile.FieldType.int), Jvm.Cond.code ({ cls := "java/lang/String", name := "charAt", desc := "(I)C" } : Jvm.MethodName) jdk_42_method_56_code (2 : Nat) (Option.some Jvm.ClassFile.FieldType.char), Jvm.Cond.code ({ cls := "java/lang/StringLatin1", name := "charAt", desc := "([BI)C" } : Jvm.MethodName) jdk_43_method_2_code (2 : Nat) (Option.some Jvm.ClassFile.FieldType.char), Jvm.Cond.code ({ cls := "java/lang/String", name := "checkIndex", desc := "(II)V" } : Jvm.MethodName) jdk_42_method_155_code (2 : Nat) (Option.none : Option Jvm.ClassFile.FieldType), Jvm.Cond.code ({ cls := "jdk/internal/util/Preconditions", name := "checkIndex", desc := "(IILjava/util/function/BiFunction;)I" } : Jvm.MethodName) jdk_41_method_11_code (3 : Nat) (Option.some Jvm.ClassFile.FieldType.int), Jvm.Cond.code ({ cls := "java/lang/String", name := "substring", desc := "(II)Ljava/lang/String;" } : Jvm.MethodName) jdk_42_method_92_code (5 : Nat) (Option.some (Jvm.ClassFile.FieldType.object "java/lang/String")), Jvm.Cond.code ({ cls := "java/lang/String", name := "checkBoundsBeginEnd", desc := "(III)V" } : Jvm.MethodName) jdk_42_method_158_code (3 : Nat) (Option.none : Option Jvm.ClassFile.FieldType), Jvm.Cond.code ({ cls := "jdk/internal/util/Preconditions", name := "checkFromToIndex", desc := "(IIILjava/util/function/BiFunction;)I" } : Jvm.MethodName) jdk_41_method_12_code (4 : Nat) (Option.some Jvm.ClassFile.FieldType.int), Jvm.Cond.code ({ cls := "java/lang/StringLatin1", name := "newString", desc := "([BII)Ljava/lang/String;" } : Jvm.MethodName) jdk_43_method_47_code (3 : Nat) (Option.some (Jvm.ClassFile.FieldType.object "java/lang/String")), Jvm.Cond.code ({ cls := "java/util/Arrays", name := "copyOfRange", desc := "([BII)[B" } : Jvm.MethodName) jdk_65_method_132_code (3 : Nat) (Option.some (Jvm.ClassFile.FieldType.array Jvm.ClassFile.FieldType.byte)), Jvm.Cond.code ({ cls := "java/util/Arrays", name := "copyOfRangeByte", desc := "([BII)[B" } : Jvm.MethodName) jdk_65_method_133_code (5 : Nat) (Option.some (Jvm.ClassFile.FieldType.array Jvm.ClassFile.FieldType.byte)), Jvm.Cond.code ({ cls := "java/util/Arrays", name := "checkLength", desc := "(II)V" } : Jvm.MethodName) jdk_65_method_131_code (2 : Nat) (Option.none : Option Jvm.ClassFile.FieldType), Jvm.Cond.code ({ cls := "java/lang/String", name := "<init>", desc := "([BB)V" } : Jvm.MethodName) jdk_42_method_151_code (3 : Nat) (Option.none : Option Jvm.ClassFile.FieldType)]
set_option maxRecDepth 65536 in
theorem codes_eq : words1.filter isCode = codes1 := rfl
theorem w_codes : ∀ c ∈ words1.filter isCode, c.before args0 about1 = true := by
  rw [codes_eq]
  intro c hc
  simp only [codes1, List.mem_cons, List.not_mem_nil, or_false] at hc
  rcases hc with rfl | rfl | rfl | rfl | rfl | rfl | rfl | rfl | rfl | rfl | rfl | rfl | rfl | rfl | rfl | rfl | rfl | rfl | rfl | rfl | rfl | rfl | rfl | rfl | rfl | rfl | rfl | rfl | rfl | rfl | rfl | rfl | rfl | rfl
  · exact w_c0
  · exact w_c1
  · exact w_c2
  · exact w_c3
  · exact w_c4
  · exact w_c5
  · exact w_c6
  · exact w_c7
  · exact w_c8
  · exact w_c9
  · exact w_c10
  · exact w_c11
  · exact w_c12
  · exact w_c13
  · exact w_c14
  · exact w_c15
  · exact w_c16
  · exact w_c17
  · exact w_c18
  · exact w_c19
  · exact w_c20
  · exact w_c21
  · exact w_c22
  · exact w_c23
  · exact w_c24
  · exact w_c25
  · exact w_c26
  · exact w_c27
  · exact w_c28
  · exact w_c29
  · exact w_c30
  · exact w_c31
  · exact w_c32
  · exact w_c33
set_option maxRecDepth 65536 in
theorem w_t1 : (words1.take 24).all (fun c => isCode c || c.before args0 about1) = true := by decide +kernel
set_option maxRecDepth 65536 in
theorem w_t2 : ((words1.drop 24).take 24).all (fun c => isCode c || c.before args0 about1) = true := by decide +kernel
set_option maxRecDepth 65536 in
theorem w_t3 : (((words1.drop 24).drop 24).take 24).all (fun c => isCode c || c.before args0 about1) = true := by decide +kernel
set_option maxRecDepth 65536 in
theorem w_t4 : ((((words1.drop 24).drop 24).drop 24).take 24).all (fun c => isCode c || c.before args0 about1) = true := by decide +kernel
set_option maxRecDepth 65536 in
theorem w_t5 : (((((words1.drop 24).drop 24).drop 24).drop 24).take 24).all (fun c => isCode c || c.before args0 about1) = true := by decide +kernel
set_option maxRecDepth 65536 in
theorem w_t6 : ((((((words1.drop 24).drop 24).drop 24).drop 24).drop 24).take 24).all (fun c => isCode c || c.before args0 about1) = true := by decide +kernel
set_option maxRecDepth 65536 in
theorem w_t7 : ((((((words1.drop 24).drop 24).drop 24).drop 24).drop 24).drop 24).all (fun c => isCode c || c.before args0 about1) = true := by decide +kernel
theorem w_tables : (allAtoms (Jvm.Cond.code x code maxLocals ret :: tables_1)).before args0 about1 = true := by
  rw [allAtoms_all]
  show words1.all (fun c => c.before args0 about1) = true
  refine all_split ?_ w_codes
  rw [← List.take_append_drop 24 words1, List.all_append, w_t1, ← List.take_append_drop 24 (words1.drop 24), List.all_append, w_t2, ← List.take_append_drop 24 ((words1.drop 24).drop 24), List.all_append, w_t3, ← List.take_append_drop 24 (((words1.drop 24).drop 24).drop 24), List.all_append, w_t4, ← List.take_append_drop 24 ((((words1.drop 24).drop 24).drop 24).drop 24), List.all_append, w_t5, ← List.take_append_drop 24 (((((words1.drop 24).drop 24).drop 24).drop 24).drop 24), List.all_append, w_t6, w_t7]
  rfl
set_option maxRecDepth 65536 in
theorem w_rest : rest_1_c.before args0 about1 = true := by decide +kernel
set_option maxRecDepth 65536 in
theorem w_case : (Jvm.Cond.and given_1 narrow_1).before args0 about1 = true := by decide +kernel
set_option maxRecDepth 65536 in
theorem w_consts : constsHeld consts_1 about1 := Jvm.Lit.constsHeldB_iff.mp (by decide +kernel)
theorem w_applies : (headSpec (Jvm.Cond.code x code maxLocals ret :: tables_1) room_1).applies x e0.platform about1 = true :=
  (Spec.applies_iff w_frames).mpr ⟨w_running, w_runnable, w_alone, w_named, w_hears, w_ripe, w_room, w_tables⟩
theorem atStart : AtStart classFile x code maxLocals ret World_1 tables_1 room_1 Calls_1 rest_1 Pre_1 launch0 p0 e0 about1 theMethod args0 below0 :=
  ⟨lists_1, trivial, launch0.admits_env _ _ _, launch0.least_env, fairChoices_fair.cas, fairChoices_fair.clock, w_frames, w_args, w_heap, w_applies, ⟨w_consts, trivial⟩, w_rest, w_case⟩
end start1
theorem witness_1 : WitnessClaimed_1 := ⟨start1.p0, start1.e0, start1.about1, start1.theMethod, start1.args0, start1.below0, start1.atStart⟩
end Jvm.Pilot.@@N@@
