import JvmDerived
import JvmDerived.Pilot.@@N@@Statement
import JvmDerived.Pilot.@@N@@Code
set_option linter.unusedVariables false
set_option linter.unusedSimpArgs false
namespace Jvm.RoadKit
open Sem ClassFile Op Lib Bundle Jvm.Stand Jvm.Free Jvm.LawKit
section Own
variable {p : Program} {l : Launch} {e : Env} {R : Room} {s : State} {m : MethodId} {args : Array Value} {below : List Frame} {meth : Method} {c : Code} {T : State} {locs : List Loc} {cells slots : Nat} {Z : State} {a0 : Array Value} {h : Heap}
/-- from T, with g on top, this invocation comes to an end of which F holds -/
def own_Go (p : Program) (e : Env) (below : List Frame) (F : State → Outcome → Prop) (T : State) (g : JFrame) : Prop := ∃ s₂ o, Steps p.tables e below (T.setTop g) s₂ ∧ F s₂ o
theorem own_step {F : State → Outcome → Prop} {T' : State} {g g' : JFrame} (h : ∀ t, Steps p.tables e below (T'.setTop g') t → Steps p.tables e below (T.setTop g) t) (H : own_Go p e below F T' g') : own_Go p e below F T g := by
  obtain ⟨s₂, o, h1, r⟩ := H
  exact ⟨s₂, o, h _ h1, r⟩
def own_EndN (below : List Frame) (s : State) (Q : Option Value → Heap → List Loc → Prop) (k n : Nat) : State → Outcome → Prop := fun s₂ o => s₂.status = .running ∧ Ended s₂ below o ∧ ∃ v L, o = .returned v ∧ Q v s₂.heap L ∧ FrameEnd s o s₂ L k n
def own_EndW (below : List Frame) (s Z : State) (EL : List (String × Nat)) (Q : Option Value → Heap → List Loc → Prop) (k n : Nat) : State → Outcome → Prop := fun s₂ o => s₂.status = .running ∧ Ended s₂ below o ∧ ∃ v L, o = .returned v ∧ Q v s₂.heap L ∧ CHr Z EL s.vm s.heap s₂.vm s₂.heap ∧ ReturnedEndW s o s₂ L k n
/-- what a return owes -/
def own_Out (below : List Frame) (s : State) (F : State → Outcome → Prop) (T : State) (v : Option Value) (locs : List Loc) (cells slots : Nat) : Prop := ∀ fs, (T.setFrames fs).status = .running → Ended (T.setFrames fs) below (.returned v) → s.WarmedH (T.setFrames fs).vm → s.sameButNew ({ T.setFrames fs with vm := s.vm } : State) locs cells slots → F (T.setFrames fs) (.returned v)
theorem own_N {v : Option Value} {Q : Option Value → Heap → List Loc → Prop} {k n : Nat} (hQ : Q v T.heap locs) (hk : cells ≤ k) (hn : slots ≤ n) : own_Out below s (own_EndN below s Q k n) T v locs cells slots := fun fs h1 h2 h3 h4 => ⟨h1, h2, v, locs, rfl, hQ, ⟨_, rfl⟩, h3, h4.mono hk hn⟩
theorem own_W {vm0 : Vm} {EL : List (String × Nat)} {k0 : Nat} {h0 : Heap} (X : Stand p l e R (s.setVm vm0) m args below meth c T locs cells slots) (hS : s.Since vm0 k0) (hk0 : k0 ≤ h.size) (eT : T.heap = h) (eS : s.heap = h0) (hZ : Z.Warmed39 vm0) (hEL : EW Z a0 EL) (C : CHr Z EL s.vm h0 vm0 h)
    {v : Option Value} {Q : Option Value → Heap → List Loc → Prop} {k n : Nat} (hQ : Q v T.heap locs) (hk : cells ≤ k) (hn : slots ≤ n) : own_Out below (s.setVm vm0) (own_EndW below s Z EL Q k n) T v locs cells slots := fun fs h1 h2 h3 h4 => by
  obtain ⟨a, b, c'⟩ := hS.ended (U := T.setFrames fs) h3 (by show k0 ≤ T.heap.size; rw [eT]; exact hk0) h4
  refine ⟨h1, h2, v, locs, rfl, hQ, ?_, ⟨_, rfl⟩, a, b, c'.mono hk hn⟩
  show CHr Z EL s.vm s.heap T.vm T.heap
  rw [eS, eT]; exact C.trans (CHv.at X hZ hEL C.1)
theorem own_ret (X : Stand p l e R s m args below meth c T locs cells slots) {v : Option Value} (hv : meth.sig.returnType = none → v = none) (hlk : meth.locks = false) {g : JFrame} {F : State → Outcome → Prop}
    (st : ∀ fs, (∀ (f : JFrame) (acts : List Action), f.method = m → f.locked = none → f.entered = [] → (doReturn e (T.setTop f) acts v).1 = T.setFrames fs) → Steps p.tables e below (T.setTop g) (T.setFrames fs))
    (hF : own_Out below s F T v locs cells slots) : own_Go p e below F T g := by
  obtain ⟨fs, hr, hrun, hended, hW, hsame⟩ := X.leave (v := v) hv hlk
  exact ⟨_, _, st fs hr, hF fs hrun hended hW hsame⟩
theorem own_retI (X : Stand p l e R s m args below meth c T locs cells slots) (hx : p.tables.exec = Jvm.exec) (hret : meth.sig.returnType = some .int) (hlk : meth.locks = false) {pc : Nat} {Ls : Array Slot} {z : Int32} {rest : List Value} (hd : decode c.code pc = .ok (.ireturn, 1)) {F : State → Outcome → Prop}
    (hF : own_Out below s F T (some (.int z)) locs cells slots) : own_Go p e below F T (mkF m pc Ls (.int z :: rest)) :=
  own_ret X (fun q => by rw [hret] at q; cases q) hlk (fun fs hr => retOut X hx hret rfl (Or.inl ⟨rfl, Or.inl rfl, z, rfl⟩) hd hr) hF
theorem own_retN (X : Stand p l e R s m args below meth c T locs cells slots) (hx : p.tables.exec = Jvm.exec) {t : FieldType} (hret : meth.sig.returnType = some t) (ht : t = .boolean ∨ t = .byte ∨ t = .char ∨ t = .short) (hlk : meth.locks = false) {pc : Nat} {Ls : Array Slot} {z v : Int32} {rest : List Value} (hd : decode c.code pc = .ok (.ireturn, 1)) {F : State → Outcome → Prop}
    (hv : nar t z = v) (hF : own_Out below s F T (some (.int v)) locs cells slots) : own_Go p e below F T (mkF m pc Ls (.int z :: rest)) :=
  own_ret X (v := some (.int v)) (fun q => by rw [hret] at q; cases q) hlk (fun fs hr => retN X hx hret ht hd (by rw [hv]; exact hr)) hF
theorem own_retL (X : Stand p l e R s m args below meth c T locs cells slots) (hx : p.tables.exec = Jvm.exec) (hret : meth.sig.returnType = some .long) (hlk : meth.locks = false) {pc : Nat} {Ls : Array Slot} {z : Int64} {rest : List Value} (hd : decode c.code pc = .ok (.lreturn, 1)) {F : State → Outcome → Prop}
    (hF : own_Out below s F T (some (.long z)) locs cells slots) : own_Go p e below F T (mkF m pc Ls (.long z :: rest)) :=
  own_ret X (fun q => by rw [hret] at q; cases q) hlk (fun fs hr => retOut X hx hret rfl (Or.inr (Or.inl ⟨rfl, rfl, z, rfl⟩)) hd hr) hF
theorem own_retA (X : Stand p l e R s m args below meth c T locs cells slots) (hx : p.tables.exec = Jvm.exec) {t : FieldType} (hret : meth.sig.returnType = some t) (ht : t.isReference = true) (hlk : meth.locks = false) {pc : Nat} {Ls : Array Slot} {z : Value} {rest : List Value} (hz : z.isRef = true) (hn0 : narrow t z = z) (hd : decode c.code pc = .ok (.areturn, 1)) {F : State → Outcome → Prop}
    (hF : own_Out below s F T (some z) locs cells slots) : own_Go p e below F T (mkF m pc Ls (z :: rest)) :=
  own_ret X (fun q => by rw [hret] at q; cases q) hlk (fun fs hr => retOut X hx hret hn0 (Or.inr (Or.inr (Or.inr (Or.inr ⟨rfl, ht, hz⟩)))) hd hr) hF
theorem own_retV (X : Stand p l e R s m args below meth c T locs cells slots) (hx : p.tables.exec = Jvm.exec) (hret : meth.sig.returnType = none) (hlk : meth.locks = false) {pc : Nat} {Ls : Array Slot} (hd : decode c.code pc = .ok (.return_, 1)) {F : State → Outcome → Prop}
    (hF : own_Out below s F T none locs cells slots) : own_Go p e below F T (mkF m pc Ls []) :=
  own_ret X (fun _ => rfl) hlk (fun fs hr => X.returnOut hx hret hd hr) hF
/-- a contract: called with as' over the heap h0, the method comes back and Q holds -/
def own_Met (l : Launch) (y : MethodName) (bytes : ByteArray) (maxL : Nat) (ret : Option FieldType) (ws : List Jvm.Cond) (rm : Room) (as' : Array Value) (Z : State) (h0 : Heap) (Q : Option Value → Heap → List Loc → Prop) : Prop :=
  MetFree l y (head1 (Jvm.Cond.code y bytes maxL ret :: ws) rm) (fun a U => a = as' ∧ Z.Warmed39 U.vm ∧ U.heap = h0) (fun _ _ _ _ _ => True) (fun _ U o U' => ∃ v L, o = .returned v ∧ Q v U'.heap L ∧ FrameEnd U o U' L rm.cells rm.slots)
theorem own_body {y : MethodName} {bytes : ByteArray} {maxL : Nat} {ret : Option FieldType} {ws : List Jvm.Cond} {rm : Room} {as' : Array Value} {h0 : Heap} {Q : Option Value → Heap → List Loc → Prop} (hy : plainFor y = true) {g0 : MethodId → JFrame} (ef : ∀ m, entryFrame m as' maxL = g0 m)
    (body : ∀ (p : Program) (e : Env) (s : State) (m : MethodId) (below : List Frame) (meth : Method) (c : Code) (T : State), Stand p l e rm s m as' below meth c T [] 0 0 → p.tables.exec = Jvm.exec → c.code = bytes → c.maxLocals = maxL → meth.sig.returnType = ret → meth.locks = false → meth.name = y.name → s.vm.findClass y.cls = some m.cls → Z.Warmed39 s.vm → T.heap = h0 → own_Go p e below (own_EndN below s Q rm.cells rm.slots) T (g0 m)) :
    own_Met l y bytes maxL ret ws rm as' Z h0 Q := by
  refine MetFree.of_bodySF hy hisR ?_
  intro p e s m args below meth c s₁ Bd hml hP hK
  obtain ⟨ha, hZ, hh⟩ := hP
  subst ha
  have q := body p e s m below meth c s₁ (Stand.of_body Bd) Bd.exec Bd.bytes hml Bd.returns Bd.notSynchronized (name_of_methodNamed Bd.named Bd.method).1 (findClass_of_methodNamed Bd.named) hZ (by rw [← hh, Bd.state]; rfl)
  rw [← ef m] at q
  exact q
/-- a contract of a method that may load a String constant -/
def own_MetW (l : Launch) (y : MethodName) (bytes : ByteArray) (maxL : Nat) (ret : Option FieldType) (ws : List Jvm.Cond) (rm : Room) (as' : Array Value) (Z : State) (EL : List (String × Nat)) (h0 : Heap) (Q : Option Value → Heap → List Loc → Prop) : Prop :=
  MetFree l y (head1 (Jvm.Cond.code y bytes maxL ret :: ws) rm) (fun a U => a = as' ∧ Z.Warmed39 U.vm ∧ U.heap = h0 ∧ CHv Z EL U.vm h0) (fun _ _ _ _ _ => True) (fun _ U o U' => ∃ v L, o = .returned v ∧ Q v U'.heap L ∧ CHr Z EL U.vm U.heap U'.vm U'.heap ∧ ReturnedEndW U o U' L rm.cells rm.slots)
theorem own_bodyW {EL : List (String × Nat)} {y : MethodName} {bytes : ByteArray} {maxL : Nat} {ret : Option FieldType} {ws : List Jvm.Cond} {rm : Room} {as' : Array Value} {h0 : Heap} {Q : Option Value → Heap → List Loc → Prop} (hy : plainFor y = true) {g0 : MethodId → JFrame} (ef : ∀ m, entryFrame m as' maxL = g0 m)
    (body : ∀ (p : Program) (e : Env) (s : State) (m : MethodId) (below : List Frame) (meth : Method) (c : Code) (T : State), Stand p l e rm (s.setVm s.vm) m as' below meth c T [] 0 0 → p.tables.exec = Jvm.exec → c.code = bytes → c.maxLocals = maxL → meth.sig.returnType = ret → meth.locks = false → meth.name = y.name → s.vm.findClass y.cls = some m.cls → Z.Warmed39 s.vm → T.heap = h0 → s.heap = h0 → CHv Z EL s.vm h0 → s.Since s.vm h0.size → own_Go p e below (own_EndW below s Z EL Q rm.cells rm.slots) T (g0 m)) :
    own_MetW l y bytes maxL ret ws rm as' Z EL h0 Q := by
  refine MetFree.of_bodySF hy hisR ?_
  intro p e s m args below meth c s₁ Bd hml hP hK
  obtain ⟨ha, hZ, hh, hC⟩ := hP
  subst ha
  have q := body p e s m below meth c s₁ (Stand.of_body Bd) Bd.exec Bd.bytes hml Bd.returns Bd.notSynchronized (name_of_methodNamed Bd.named Bd.method).1 (findClass_of_methodNamed Bd.named) hZ (by rw [← hh, Bd.state]; rfl) hh hC (State.WarmedH.since (State.WarmedH.refl s) _)
  rw [← ef m] at q
  exact q
theorem own_callS (X : Stand p l e R s m args below meth c T locs cells slots) (hx : p.tables.exec = Jvm.exec) (hZ : Z.Warmed39 s.vm) {own : String} {index : Nat} {y : MethodName} {bytes : ByteArray} {maxL : Nat} {ret : Option FieldType}
    (hown : s.vm.findClass own = some m.cls) (wl : (Jvm.Cond.methodLink own index y).before a0 Z = true) (wst : (Jvm.Cond.static y).before a0 Z = true) (wi : (Jvm.Cond.initialized y.cls).before a0 Z = true) (wc : (Jvm.Cond.code y bytes maxL ret).before a0 Z = true)
    (hy : y.cls ≠ "java/lang/invoke/MethodHandle" ∧ y.cls ≠ "java/lang/invoke/VarHandle") {rm : Room} {as' : Array Value} {Qc : Option Value → Heap → List Loc → Prop} (hM : own_Met l y bytes maxL ret [] rm as' Z h Qc) (eT : T.heap = h) (W : Nat)
    (hf : rm.frames + 1 ≤ R.frames) (hlo : W + (maxL + 11) + rm.locals ≤ R.locals) (hcl : cells + rm.cells ≤ R.cells) (hsl : slots + rm.slots ≤ R.slots)
    {g : JFrame} (hg : g.method = m) (hsize : g.locals.size = c.maxLocals) (argsL rest : List Value) {ps : List FieldType} {r : Option FieldType} (hpd : parseMethodDescriptor y.desc = some ⟨ps, r⟩) (hlen : argsL.length = ps.length) (has : argsL.toArray = as')
    (hstack : g.stack = argsL.reverse ++ rest) (hW : 2 * g.monitorRoom + (rest.map fun v => v.category).sum ≤ W) (hdg : decode c.code g.pc = .ok (.invokestatic index, 3)) {F : State → Outcome → Prop}
    (cont : ∀ v T' L, Stand p l e R s m args below meth c T' (locs ++ L) (cells + rm.cells) (slots + rm.slots) → Qc v T'.heap L → own_Go p e below F T' { g with pc := g.pc + 3, stack := v.toList ++ rest }) : own_Go p e below F T g := by
  obtain ⟨v, _, ⟨T2, L2, k2, n2⟩, -, X2, ⟨Lc, hQ, l2, y2, z2⟩, st⟩ := Jvm.LawKit.callS X hx (y := y) hown (mvT hZ wl) (mvT hZ wst) (mvT hZ wi) (mvT hZ wc) hy (backOf (W := W) hM hZ wc wi hf hlo) hg hsize (argsL := argsL) (rest := rest) (lenOf hpd hlen) hstack hW hdg (fun _ _ => ⟨has, eT, hcl, hsl⟩)
  dsimp only [Pt.U, Pt.locs, Pt.cells, Pt.slots] at X2 l2 y2 z2 st hQ
  subst l2 y2 z2
  exact own_step st (cont v T2 Lc X2 hQ)
theorem own_callV (X : Stand p l e R s m args below meth c T locs cells slots) (hx : p.tables.exec = Jvm.exec) (hZ : Z.Warmed39 s.vm) {own C : String} {index : Nat} {y z : MethodName} {bytes : ByteArray} {maxL : Nat} {ret : Option FieldType}
    (hown : s.vm.findClass own = some m.cls) (wl : (Jvm.Cond.methodLink own index y).before a0 Z = true) (wd : (Jvm.Cond.declares y).before a0 Z = true) (wf : (Jvm.Cond.selects y.cls y y).before a0 Z = true) (ws : (Jvm.Cond.selects C y z).before a0 Z = true) (wm : (Jvm.Cond.instanceMethod z).before a0 Z = true) (wi : (Jvm.Cond.initialized z.cls).before a0 Z = true) (wc : (Jvm.Cond.code z bytes maxL ret).before a0 Z = true)
    (hy : y.cls ≠ "java/lang/invoke/MethodHandle" ∧ y.cls ≠ "java/lang/invoke/VarHandle") {rm : Room} {as' : Array Value} {Qc : Option Value → Heap → List Loc → Prop} (hM : own_Met l z bytes maxL ret [] rm as' Z h Qc) (eT : T.heap = h) {b : Addr} (hE : Exa Z h b C) (W : Nat)
    (hf : rm.frames + 1 ≤ R.frames) (hlo : W + (maxL + 11) + rm.locals ≤ R.locals) (hcl : cells + rm.cells ≤ R.cells) (hsl : slots + rm.slots ≤ R.slots)
    {g : JFrame} (hg : g.method = m) (hsize : g.locals.size = c.maxLocals) (argsL rest : List Value) {ps : List FieldType} {r : Option FieldType} (hpd : parseMethodDescriptor y.desc = some ⟨ps, r⟩) (hlen : argsL.length = ps.length) (has : (Value.ref b :: argsL).toArray = as')
    (hstack : g.stack = argsL.reverse ++ .ref b :: rest) (hW : 2 * g.monitorRoom + (rest.map fun v => v.category).sum ≤ W) (hdg : decode c.code g.pc = .ok (.invokevirtual index, 3)) {F : State → Outcome → Prop}
    (cont : ∀ v T' L, Stand p l e R s m args below meth c T' (locs ++ L) (cells + rm.cells) (slots + rm.slots) → Qc v T'.heap L → own_Go p e below F T' { g with pc := g.pc + 3, stack := v.toList ++ rest }) : own_Go p e below F T g := by
  obtain ⟨cq, kq, q1, q2, q3⟩ := isOf hZ eT hE
  obtain ⟨v, _, ⟨T2, L2, k2, n2⟩, -, X2, ⟨Lc, hQ, l2, y2, z2⟩, st⟩ := X.virtualBack hx (y := y) (z := z) hown (mvT hZ wl) (mvT hZ wd) (notFace_of_selects (args := #[]) (mvT hZ wf)) (mvT hZ ws) (mvT hZ wm) hy (backOf (W := W) hM hZ wc wi hf hlo) q1 q3 hg hsize (Steps.refl _) (argsL := argsL) (rest := rest) (lenOf hpd hlen) hstack hW hdg (fun _ _ => ⟨has, eT, hcl, hsl⟩)
  dsimp only [Pt.U, Pt.locs, Pt.cells, Pt.slots] at X2 l2 y2 z2 st hQ
  subst l2 y2 z2
  exact own_step (fun _ k => st.trans k) (cont v T2 Lc X2 hQ)
theorem own_callC (X : Stand p l e R s m args below meth c T locs cells slots) (hx : p.tables.exec = Jvm.exec) (hZ : Z.Warmed39 s.vm) {own : String} {index : Nat} {y : MethodName} {bytes : ByteArray} {maxL : Nat} (hy1 : y.name = "<init>")
    (hown : s.vm.findClass own = some m.cls) (wl : (Jvm.Cond.methodLink own index y).before a0 Z = true) (wm : (Jvm.Cond.instanceMethod y).before a0 Z = true) (wi : (Jvm.Cond.initialized y.cls).before a0 Z = true) (wc : (Jvm.Cond.code y bytes maxL none).before a0 Z = true)
    (hy : y.cls ≠ "java/lang/invoke/MethodHandle" ∧ y.cls ≠ "java/lang/invoke/VarHandle") {rm : Room} {as' : Array Value} {Qc : Option Value → Heap → List Loc → Prop} (hM : own_Met l y bytes maxL none [] rm as' Z h Qc) (eT : T.heap = h) {b : Addr} (W : Nat)
    (hf : rm.frames + 1 ≤ R.frames) (hlo : W + (maxL + 11) + rm.locals ≤ R.locals) (hcl : cells + rm.cells ≤ R.cells) (hsl : slots + rm.slots ≤ R.slots)
    {g : JFrame} (hg : g.method = m) (hsize : g.locals.size = c.maxLocals) (argsL rest : List Value) {ps : List FieldType} {r : Option FieldType} (hpd : parseMethodDescriptor y.desc = some ⟨ps, r⟩) (hlen : argsL.length = ps.length) (has : (Value.ref b :: argsL).toArray = as')
    (hstack : g.stack = argsL.reverse ++ .ref b :: rest) (hW : 2 * g.monitorRoom + (rest.map fun v => v.category).sum ≤ W) (hdg : decode c.code g.pc = .ok (.invokespecial index, 3)) {F : State → Outcome → Prop}
    (cont : ∀ v T' L, Stand p l e R s m args below meth c T' (locs ++ L) (cells + rm.cells) (slots + rm.slots) → Qc v T'.heap L → own_Go p e below F T' { g with pc := g.pc + 3, stack := v.toList ++ rest }) : own_Go p e below F T g := by
  obtain ⟨v, _, ⟨T2, L2, k2, n2⟩, -, X2, ⟨Lc, hQ, l2, y2, z2⟩, st⟩ := X.specialBack hx (y := y) hy1 hown (mvT hZ wl) (mvT hZ wm) (mvT hZ wc) hy (backOf (W := W) hM hZ wc wi hf hlo) hg hsize (Steps.refl _) (a := b) (argsL := argsL) (rest := rest) (lenOf hpd hlen) hstack hW hdg (fun _ _ => ⟨has, eT, hcl, hsl⟩)
  dsimp only [Pt.U, Pt.locs, Pt.cells, Pt.slots] at X2 l2 y2 z2 st hQ
  subst l2 y2 z2
  exact own_step (fun _ k => st.trans k) (cont v T2 Lc X2 hQ)
theorem own_callSW {vm0 : Vm} {EL : List (String × Nat)} {k0 : Nat} (X : Stand p l e R (s.setVm vm0) m args below meth c T locs cells slots) (hx : p.tables.exec = Jvm.exec) (hZ : Z.Warmed39 vm0) {own : String} {index : Nat} {y : MethodName} {bytes : ByteArray} {maxL : Nat} {ret : Option FieldType}
    (hown : vm0.findClass own = some m.cls) (wl : (Jvm.Cond.methodLink own index y).before a0 Z = true) (wst : (Jvm.Cond.static y).before a0 Z = true) (wi : (Jvm.Cond.initialized y.cls).before a0 Z = true) (wc : (Jvm.Cond.code y bytes maxL ret).before a0 Z = true)
    (hy : y.cls ≠ "java/lang/invoke/MethodHandle" ∧ y.cls ≠ "java/lang/invoke/VarHandle") {rm : Room} {as' : Array Value} {Qc : Option Value → Heap → List Loc → Prop} (hM : own_MetW l y bytes maxL ret [] rm as' Z EL h Qc) (eT : T.heap = h) (hEL : EW Z a0 EL) (H : CHv Z EL vm0 h) (hS : s.Since vm0 k0) (hk : k0 ≤ h.size) (W : Nat)
    (hf : rm.frames + 1 ≤ R.frames) (hlo : W + (maxL + 11) + rm.locals ≤ R.locals) (hcl : cells + rm.cells ≤ R.cells) (hsl : slots + rm.slots ≤ R.slots)
    {g : JFrame} (hg : g.method = m) (hsize : g.locals.size = c.maxLocals) (argsL rest : List Value) {ps : List FieldType} {r : Option FieldType} (hpd : parseMethodDescriptor y.desc = some ⟨ps, r⟩) (hlen : argsL.length = ps.length) (has : argsL.toArray = as')
    (hstack : g.stack = argsL.reverse ++ rest) (hW : 2 * g.monitorRoom + (rest.map fun v => v.category).sum ≤ W) (hdg : decode c.code g.pc = .ok (.invokestatic index, 3)) {F : State → Outcome → Prop}
    (cont : ∀ v T' L, Stand p l e R (s.setVm T'.vm) m args below meth c T' (locs ++ L) (cells + rm.cells) (slots + rm.slots) → Qc v T'.heap L → CHr Z EL vm0 h T'.vm T'.heap → s.Since T'.vm T'.heap.size → Z.Warmed39 T'.vm → T'.vm.findClass own = some m.cls → own_Go p e below F T' { g with pc := g.pc + 3, stack := v.toList ++ rest }) : own_Go p e below F T g := by
  have hZ' : Z.Warmed39 (s.setVm vm0).vm := hZ
  obtain ⟨v, _, ⟨T2, L2, k2, n2⟩, -, X2, hS2, hg2, ⟨Lc, hQ, l2, y2, z2, hC⟩, st⟩ := callSS X hx (y := y) hown (mvT hZ' wl) (mvT hZ' wst) (mvT hZ' wi) (mvT hZ' wc) hy (backOfSH (W := W) hM hZ wc wi hf hlo hEL H) hg hsize (argsL := argsL) (rest := rest) (lenOf hpd hlen) hstack hW hdg (fun _ _ => ⟨has, eT, hcl, hsl⟩)
  dsimp only [Pt.U, Pt.locs, Pt.cells, Pt.slots] at X2 l2 y2 z2 st hQ hS2 hg2 hC
  subst l2 y2 z2
  obtain ⟨X3, hS3, hZ3, hown3⟩ := rebS hS hk X2 hS2 (by rw [← eT]; exact hg2) hZ' hown
  exact own_step (fun _ k => st.trans k) (cont v T2 Lc X3 hQ hC hS3 hZ3 hown3)
theorem own_callCW {vm0 : Vm} {EL : List (String × Nat)} {k0 : Nat} (X : Stand p l e R (s.setVm vm0) m args below meth c T locs cells slots) (hx : p.tables.exec = Jvm.exec) (hZ : Z.Warmed39 vm0) {own : String} {index : Nat} {y : MethodName} {bytes : ByteArray} {maxL : Nat} (hy1 : y.name = "<init>")
    (hown : vm0.findClass own = some m.cls) (wl : (Jvm.Cond.methodLink own index y).before a0 Z = true) (wm : (Jvm.Cond.instanceMethod y).before a0 Z = true) (wi : (Jvm.Cond.initialized y.cls).before a0 Z = true) (wc : (Jvm.Cond.code y bytes maxL none).before a0 Z = true)
    (hy : y.cls ≠ "java/lang/invoke/MethodHandle" ∧ y.cls ≠ "java/lang/invoke/VarHandle") {rm : Room} {as' : Array Value} {Qc : Option Value → Heap → List Loc → Prop} (hM : own_MetW l y bytes maxL none [] rm as' Z EL h Qc) (eT : T.heap = h) (hEL : EW Z a0 EL) (H : CHv Z EL vm0 h) (hS : s.Since vm0 k0) (hk : k0 ≤ h.size) {b : Addr} (W : Nat)
    (hf : rm.frames + 1 ≤ R.frames) (hlo : W + (maxL + 11) + rm.locals ≤ R.locals) (hcl : cells + rm.cells ≤ R.cells) (hsl : slots + rm.slots ≤ R.slots)
    {g : JFrame} (hg : g.method = m) (hsize : g.locals.size = c.maxLocals) (argsL rest : List Value) {ps : List FieldType} {r : Option FieldType} (hpd : parseMethodDescriptor y.desc = some ⟨ps, r⟩) (hlen : argsL.length = ps.length) (has : (Value.ref b :: argsL).toArray = as')
    (hstack : g.stack = argsL.reverse ++ .ref b :: rest) (hW : 2 * g.monitorRoom + (rest.map fun v => v.category).sum ≤ W) (hdg : decode c.code g.pc = .ok (.invokespecial index, 3)) {F : State → Outcome → Prop}
    (cont : ∀ v T' L, Stand p l e R (s.setVm T'.vm) m args below meth c T' (locs ++ L) (cells + rm.cells) (slots + rm.slots) → Qc v T'.heap L → CHr Z EL vm0 h T'.vm T'.heap → s.Since T'.vm T'.heap.size → Z.Warmed39 T'.vm → T'.vm.findClass own = some m.cls → own_Go p e below F T' { g with pc := g.pc + 3, stack := v.toList ++ rest }) : own_Go p e below F T g := by
  have hZ' : Z.Warmed39 (s.setVm vm0).vm := hZ
  obtain ⟨v, _, ⟨T2, L2, k2, n2⟩, -, X2, hS2, hg2, ⟨Lc, hQ, l2, y2, z2, hC⟩, st⟩ := X.specialBackS hx (y := y) hy1 hown (mvT hZ' wl) (mvT hZ' wm) (mvT hZ' wc) hy (backOfSH (W := W) hM hZ wc wi hf hlo hEL H) hg hsize (Steps.refl _) (a := b) (argsL := argsL) (rest := rest) (lenOf hpd hlen) hstack hW hdg (fun _ _ => ⟨has, eT, hcl, hsl⟩)
  dsimp only [Pt.U, Pt.locs, Pt.cells, Pt.slots] at X2 l2 y2 z2 st hQ hS2 hg2 hC
  subst l2 y2 z2
  obtain ⟨X3, hS3, hZ3, hown3⟩ := rebS hS hk X2 hS2 (by rw [← eT]; exact hg2) hZ' hown
  exact own_step (fun _ k => st.trans k) (cont v T2 Lc X3 hQ hC hS3 hZ3 hown3)
theorem own_callVW {vm0 : Vm} {EL : List (String × Nat)} {k0 : Nat} (X : Stand p l e R (s.setVm vm0) m args below meth c T locs cells slots) (hx : p.tables.exec = Jvm.exec) (hZ : Z.Warmed39 vm0) {own C : String} {index : Nat} {y z : MethodName} {bytes : ByteArray} {maxL : Nat} {ret : Option FieldType}
    (hown : vm0.findClass own = some m.cls) (wl : (Jvm.Cond.methodLink own index y).before a0 Z = true) (wd : (Jvm.Cond.declares y).before a0 Z = true) (wf : (Jvm.Cond.selects y.cls y y).before a0 Z = true) (ws : (Jvm.Cond.selects C y z).before a0 Z = true) (wm : (Jvm.Cond.instanceMethod z).before a0 Z = true) (wi : (Jvm.Cond.initialized z.cls).before a0 Z = true) (wc : (Jvm.Cond.code z bytes maxL ret).before a0 Z = true)
    (hy : y.cls ≠ "java/lang/invoke/MethodHandle" ∧ y.cls ≠ "java/lang/invoke/VarHandle") {rm : Room} {as' : Array Value} {Qc : Option Value → Heap → List Loc → Prop} (hM : own_MetW l z bytes maxL ret [] rm as' Z EL h Qc) (eT : T.heap = h) (hEL : EW Z a0 EL) (H : CHv Z EL vm0 h) (hS : s.Since vm0 k0) (hk : k0 ≤ h.size) {b : Addr} (hE : Exa Z h b C) (W : Nat)
    (hf : rm.frames + 1 ≤ R.frames) (hlo : W + (maxL + 11) + rm.locals ≤ R.locals) (hcl : cells + rm.cells ≤ R.cells) (hsl : slots + rm.slots ≤ R.slots)
    {g : JFrame} (hg : g.method = m) (hsize : g.locals.size = c.maxLocals) (argsL rest : List Value) {ps : List FieldType} {r : Option FieldType} (hpd : parseMethodDescriptor y.desc = some ⟨ps, r⟩) (hlen : argsL.length = ps.length) (has : (Value.ref b :: argsL).toArray = as')
    (hstack : g.stack = argsL.reverse ++ .ref b :: rest) (hW : 2 * g.monitorRoom + (rest.map fun v => v.category).sum ≤ W) (hdg : decode c.code g.pc = .ok (.invokevirtual index, 3)) {F : State → Outcome → Prop}
    (cont : ∀ v T' L, Stand p l e R (s.setVm T'.vm) m args below meth c T' (locs ++ L) (cells + rm.cells) (slots + rm.slots) → Qc v T'.heap L → CHr Z EL vm0 h T'.vm T'.heap → s.Since T'.vm T'.heap.size → Z.Warmed39 T'.vm → T'.vm.findClass own = some m.cls → own_Go p e below F T' { g with pc := g.pc + 3, stack := v.toList ++ rest }) : own_Go p e below F T g := by
  have hZ' : Z.Warmed39 (s.setVm vm0).vm := hZ
  obtain ⟨cq, kq, q1, q2, q3⟩ := isOf hZ' eT hE
  obtain ⟨v, _, ⟨T2, L2, k2, n2⟩, -, X2, hS2, hg2, ⟨Lc, hQ, l2, y2, z2, hC⟩, st⟩ := X.virtualBackS hx (y := y) (z := z) hown (mvT hZ' wl) (mvT hZ' wd) (notFace_of_selects (args := #[]) (mvT hZ' wf)) (mvT hZ' ws) (mvT hZ' wm) hy (backOfSH (W := W) hM hZ wc wi hf hlo hEL H) q1 q3 hg hsize (Steps.refl _) (argsL := argsL) (rest := rest) (lenOf hpd hlen) hstack hW hdg (fun _ _ => ⟨has, eT, hcl, hsl⟩)
  dsimp only [Pt.U, Pt.locs, Pt.cells, Pt.slots] at X2 l2 y2 z2 st hQ hS2 hg2 hC
  subst l2 y2 z2
  obtain ⟨X3, hS3, hZ3, hown3⟩ := rebS hS hk X2 hS2 (by rw [← eT]; exact hg2) hZ' hown
  exact own_step (fun _ k => st.trans k) (cont v T2 Lc X3 hQ hC hS3 hZ3 hown3)
/-- a String whose value is still null is no booked one -/
theorem own_safe {EL : List (String × Nat)} {vm : Vm} {a : Addr} (hal : Z.vm.Alike vm) (E : Exa Z h a "java/lang/String") (F : Fld Z h a "java/lang/String" "value" "[B" .null) : Safe Z EL vm h a := fun B => by
  obtain ⟨p0, hp, u, a', hb, q, rfl, S, hy⟩ := B
  obtain ⟨cS, ⟨⟨s1, s2, s3, ⟨cv, kv, iv, s4, s4'⟩, ⟨cc, kc, ic, s5, s5'⟩, s6, s7, s8, s9, s10, s11, s12, s13, s14, s15, s16⟩, hfS, hcS⟩, ⟨kS, k1, k2, k3⟩, hB, hbyt⟩ := S
  rcases hy with rfl | rfl
  · obtain ⟨kv', z4⟩ := ff_back (U := Wst Z vm h) hal s4
    obtain ⟨cell, cf, k, i, f, h1, h2, h3, h4, h5, h6, h7⟩ := F
    cases h2.symm.trans z4
    cases h1.symm.trans s1
    cases h7.symm.trans s8
  · obtain ⟨cell, k, h1, h2, h3, h4, -⟩ := E
    cases h1.symm.trans s10
    have e1 : vm.findClass "[B" = some q.SA.cls := hB
    rw [hal.findClass] at e1
    exact ids_ne h2 e1 (by decide) rfl
/-! arrays by their lists -/
variable {a b : Addr} {kA : ClassId} {ty : FieldType} {z : Int32} {vs : List Value} {dv : Value}
theorem own_newA (X : Stand p l e R s m args below meth c T locs cells slots) (hx : p.tables.exec = Jvm.exec) (hZ : Z.Warmed39 s.vm) {aty : ArrayType} (w : (Jvm.Cond.arrayClass (newarray.typeOf aty)).before a0 Z = true) (eT : T.heap = h) {g : JFrame} (hg : g.method = m) (hd : decode c.code g.pc = .ok (.newarray aty, 2)) {n : Int32} {rest : List Value} (hs : g.stack = .int n :: rest)
    (hn : ¬ n < 0) {cap : Nat} (hcap : n.toNatClampNeg ≤ cap) (hb : cap * 8 ≤ 536870912) (hc : cells + 1 ≤ R.cells) (hl : slots + cap ≤ R.slots) :
    ∃ T' h' cA b, b = h.size ∧ Stand p l e R s m args below meth c T' locs (cells + 1) (slots + cap) ∧ T'.heap = h' ∧ Ext h h' ∧ Arv Z h' b cA (newarray.typeOf aty) n (List.replicate cap (defaultValue (newarray.typeOf aty))) (defaultValue (newarray.typeOf aty)) ∧
      ∀ target, Steps p.tables e below (T'.setTop { g with pc := g.pc + 2, stack := .ref b :: rest }) target → Steps p.tables e below (T.setTop g) target := by
  obtain ⟨T', h', cA, X', e', E, A, st⟩ := newP X hx hZ w eT hg hd hs hn hcap hb hc hl
  exact ⟨T', h', cA, _, rfl, X', e', E, (Arv.new A hn).pad (pad_rep [] _ cap), st⟩
theorem own_stB (X : Stand p l e R s m args below meth c T locs cells slots) (hx : p.tables.exec = Jvm.exec) (hZ : Z.Warmed39 s.vm) (eT : T.heap = h) (V : Arv Z h a kA .byte z vs dv) {j x : Int32} (hj : ¬ j < 0 ∧ j < z) (i : Nat) (hi : j.toNatClampNeg = i) (hl : i < vs.length) {g : JFrame} (hg : g.method = m) {rest : List Value} (hs : g.stack = .int x :: .int j :: .ref a :: rest) (hd : decode c.code g.pc = .ok (.bastore, 1)) :
    ∃ T' h' L, Stand p l e R s m args below meth c T' (locs ++ [⟨a, L⟩]) cells slots ∧ T'.heap = h' ∧ Wr h h' a L (.int x.toInt8.toInt32) ∧ Arv Z h' a kA .byte z (vs.set i (.int x.toInt8.toInt32)) dv ∧ ∀ target, Steps p.tables e below (T'.setTop { g with pc := g.pc + 1, stack := rest }) target → Steps p.tables e below (T.setTop g) target := by
  obtain ⟨cl, Ar, q, S, N, H, G⟩ := V
  obtain ⟨T', h', X', e', W, st⟩ := stB X hx hZ eT Ar (inb_of S hj) hg hs hd
  exact ⟨T', h', _, X', e', W, Arv.set Ar q S N H G (fits_nar_byte _) W i hi hl, st⟩
theorem own_stZ (X : Stand p l e R s m args below meth c T locs cells slots) (hx : p.tables.exec = Jvm.exec) (hZ : Z.Warmed39 s.vm) (eT : T.heap = h) (V : Arv Z h a kA .boolean z vs dv) {j x : Int32} (hj : ¬ j < 0 ∧ j < z) (i : Nat) (hi : j.toNatClampNeg = i) (hl : i < vs.length) {g : JFrame} (hg : g.method = m) {rest : List Value} (hs : g.stack = .int x :: .int j :: .ref a :: rest) (hd : decode c.code g.pc = .ok (.bastore, 1)) :
    ∃ T' h' L, Stand p l e R s m args below meth c T' (locs ++ [⟨a, L⟩]) cells slots ∧ T'.heap = h' ∧ Wr h h' a L (.int (nar .boolean x)) ∧ Arv Z h' a kA .boolean z (vs.set i (.int (nar .boolean x))) dv ∧ ∀ target, Steps p.tables e below (T'.setTop { g with pc := g.pc + 1, stack := rest }) target → Steps p.tables e below (T.setTop g) target := by
  obtain ⟨cl, Ar, q, S, N, H, G⟩ := V
  obtain ⟨T', h', X', e', W, st⟩ := stZ X hx hZ eT Ar (inb_of S hj) hg hs hd
  exact ⟨T', h', _, X', e', W, Arv.set Ar q S N H G (fits_nar_bool _) W i hi hl, st⟩
theorem own_stC (X : Stand p l e R s m args below meth c T locs cells slots) (hx : p.tables.exec = Jvm.exec) (hZ : Z.Warmed39 s.vm) (eT : T.heap = h) (V : Arv Z h a kA .char z vs dv) {j x : Int32} (hj : ¬ j < 0 ∧ j < z) (i : Nat) (hi : j.toNatClampNeg = i) (hl : i < vs.length) {g : JFrame} (hg : g.method = m) {rest : List Value} (hs : g.stack = .int x :: .int j :: .ref a :: rest) (hd : decode c.code g.pc = .ok (.castore, 1)) :
    ∃ T' h' L, Stand p l e R s m args below meth c T' (locs ++ [⟨a, L⟩]) cells slots ∧ T'.heap = h' ∧ Wr h h' a L (.int (nar .char x)) ∧ Arv Z h' a kA .char z (vs.set i (.int (nar .char x))) dv ∧ ∀ target, Steps p.tables e below (T'.setTop { g with pc := g.pc + 1, stack := rest }) target → Steps p.tables e below (T.setTop g) target := by
  obtain ⟨cl, Ar, q, S, N, H, G⟩ := V
  obtain ⟨T', h', X', e', W, st⟩ := stC X hx hZ eT Ar (inb_of S hj) hg hs hd
  exact ⟨T', h', _, X', e', W, Arv.set Ar q S N H G (fits_nar_char _) W i hi hl, st⟩
theorem own_stI (X : Stand p l e R s m args below meth c T locs cells slots) (hx : p.tables.exec = Jvm.exec) (hZ : Z.Warmed39 s.vm) (eT : T.heap = h) (V : Arv Z h a kA .int z vs dv) {j x : Int32} (hj : ¬ j < 0 ∧ j < z) (i : Nat) (hi : j.toNatClampNeg = i) (hl : i < vs.length) {g : JFrame} (hg : g.method = m) {rest : List Value} (hs : g.stack = .int x :: .int j :: .ref a :: rest) (hd : decode c.code g.pc = .ok (.iastore, 1)) :
    ∃ T' h' L, Stand p l e R s m args below meth c T' (locs ++ [⟨a, L⟩]) cells slots ∧ T'.heap = h' ∧ Wr h h' a L (.int x) ∧ Arv Z h' a kA .int z (vs.set i (.int x)) dv ∧ ∀ target, Steps p.tables e below (T'.setTop { g with pc := g.pc + 1, stack := rest }) target → Steps p.tables e below (T.setTop g) target := by
  obtain ⟨cl, Ar, q, S, N, H, G⟩ := V
  obtain ⟨T', h', X', e', W, st⟩ := stI X hx hZ eT Ar (inb_of S hj) hg hs hd
  exact ⟨T', h', _, X', e', W, Arv.set Ar q S N H G rfl W i hi hl, st⟩
theorem own_stJ (X : Stand p l e R s m args below meth c T locs cells slots) (hx : p.tables.exec = Jvm.exec) (hZ : Z.Warmed39 s.vm) (eT : T.heap = h) (V : Arv Z h a kA .long z vs dv) {j : Int32} {x : Int64} (hj : ¬ j < 0 ∧ j < z) (i : Nat) (hi : j.toNatClampNeg = i) (hl : i < vs.length) {g : JFrame} (hg : g.method = m) {rest : List Value} (hs : g.stack = .long x :: .int j :: .ref a :: rest) (hd : decode c.code g.pc = .ok (.lastore, 1)) :
    ∃ T' h' L, Stand p l e R s m args below meth c T' (locs ++ [⟨a, L⟩]) cells slots ∧ T'.heap = h' ∧ Wr h h' a L (.long x) ∧ Arv Z h' a kA .long z (vs.set i (.long x)) dv ∧ ∀ target, Steps p.tables e below (T'.setTop { g with pc := g.pc + 1, stack := rest }) target → Steps p.tables e below (T.setTop g) target := by
  obtain ⟨cl, Ar, q, S, N, H, G⟩ := V
  obtain ⟨T', h', X', e', W, st⟩ := stJ X hx hZ eT Ar (inb_of S hj) hg hs hd
  exact ⟨T', h', _, X', e', W, Arv.set Ar q S N H G rfl W i hi hl, st⟩
theorem own_ldB (X : Stand p l e R s m args below meth c T locs cells slots) (hx : p.tables.exec = Jvm.exec) (hZ : Z.Warmed39 s.vm) (eT : T.heap = h) (V : Arv Z h a kA .byte z vs dv) {j : Int32} {v : Value} (hj : ¬ j < 0 ∧ j < z) (hv : vs.getD j.toNatClampNeg dv = v) {g : JFrame} (hg : g.method = m) {rest : List Value} (hs : g.stack = .int j :: .ref a :: rest) (hd : decode c.code g.pc = .ok (.baload, 1)) :
    ∀ t, Steps p.tables e below (T.setTop { g with pc := g.pc + 1, stack := v :: rest }) t → Steps p.tables e below (T.setTop g) t := by
  obtain ⟨cl, Ar, q, S, N, H, G⟩ := V
  exact fun t k => X.baloadBytes hx (by rw [eT]; exact Ar.1) (State.isArrayOf_alike hZ.alike Ar.2.1) Ar.2.2 (inb_of S hj) (Has.at H (inb_of S hj) hv) hg hs hd _ k
theorem own_ldZ (X : Stand p l e R s m args below meth c T locs cells slots) (hx : p.tables.exec = Jvm.exec) (hZ : Z.Warmed39 s.vm) (eT : T.heap = h) (V : Arv Z h a kA .boolean z vs dv) {j : Int32} {v : Value} (hj : ¬ j < 0 ∧ j < z) (hv : vs.getD j.toNatClampNeg dv = v) {g : JFrame} (hg : g.method = m) {rest : List Value} (hs : g.stack = .int j :: .ref a :: rest) (hd : decode c.code g.pc = .ok (.baload, 1)) :
    ∀ t, Steps p.tables e below (T.setTop { g with pc := g.pc + 1, stack := v :: rest }) t → Steps p.tables e below (T.setTop g) t := by
  obtain ⟨cl, Ar, q, S, N, H, G⟩ := V
  exact fun t k => X.baloadBooleans hx (by rw [eT]; exact Ar.1) (State.isArrayOf_alike hZ.alike Ar.2.1) Ar.2.2 (inb_of S hj) (Has.at H (inb_of S hj) hv) hg hs hd _ k
theorem own_ldC (X : Stand p l e R s m args below meth c T locs cells slots) (hx : p.tables.exec = Jvm.exec) (hZ : Z.Warmed39 s.vm) (eT : T.heap = h) (V : Arv Z h a kA .char z vs dv) {j : Int32} {v : Value} (hj : ¬ j < 0 ∧ j < z) (hv : vs.getD j.toNatClampNeg dv = v) {g : JFrame} (hg : g.method = m) {rest : List Value} (hs : g.stack = .int j :: .ref a :: rest) (hd : decode c.code g.pc = .ok (.caload, 1)) :
    ∀ t, Steps p.tables e below (T.setTop { g with pc := g.pc + 1, stack := v :: rest }) t → Steps p.tables e below (T.setTop g) t := by
  obtain ⟨cl, Ar, q, S, N, H, G⟩ := V
  exact fun t k => X.caload hx (by rw [eT]; exact Ar.1) (State.isArrayOf_alike hZ.alike Ar.2.1) Ar.2.2 (inb_of S hj) (Has.at H (inb_of S hj) hv) hg hs hd _ k
theorem own_ldI (X : Stand p l e R s m args below meth c T locs cells slots) (hx : p.tables.exec = Jvm.exec) (hZ : Z.Warmed39 s.vm) (eT : T.heap = h) (V : Arv Z h a kA .int z vs dv) {j : Int32} {v : Value} (hj : ¬ j < 0 ∧ j < z) (hv : vs.getD j.toNatClampNeg dv = v) {g : JFrame} (hg : g.method = m) {rest : List Value} (hs : g.stack = .int j :: .ref a :: rest) (hd : decode c.code g.pc = .ok (.iaload, 1)) :
    ∀ t, Steps p.tables e below (T.setTop { g with pc := g.pc + 1, stack := v :: rest }) t → Steps p.tables e below (T.setTop g) t := by
  obtain ⟨cl, Ar, q, S, N, H, G⟩ := V
  exact fun t k => X.iaload hx (by rw [eT]; exact Ar.1) (State.isArrayOf_alike hZ.alike Ar.2.1) Ar.2.2 (inb_of S hj) (Has.at H (inb_of S hj) hv) hg hs hd _ k
theorem own_ldJ (X : Stand p l e R s m args below meth c T locs cells slots) (hx : p.tables.exec = Jvm.exec) (hZ : Z.Warmed39 s.vm) (eT : T.heap = h) (V : Arv Z h a kA .long z vs dv) {j : Int32} {v : Value} (hj : ¬ j < 0 ∧ j < z) (hv : vs.getD j.toNatClampNeg dv = v) {g : JFrame} (hg : g.method = m) {rest : List Value} (hs : g.stack = .int j :: .ref a :: rest) (hd : decode c.code g.pc = .ok (.laload, 1)) :
    ∀ t, Steps p.tables e below (T.setTop { g with pc := g.pc + 1, stack := v :: rest }) t → Steps p.tables e below (T.setTop g) t := by
  obtain ⟨cl, Ar, q, S, N, H, G⟩ := V
  exact fun t k => X.laload hx (by rw [eT]; exact Ar.1) (State.isArrayOf_alike hZ.alike Ar.2.1) Ar.2.2 (inb_of S hj) (Has.at H (inb_of S hj) hv) hg hs hd _ k
theorem own_ldA (X : Stand p l e R s m args below meth c T locs cells slots) (hx : p.tables.exec = Jvm.exec) (hZ : Z.Warmed39 s.vm) (eT : T.heap = h) (V : Arv Z h a kA ty z vs dv) (hty : ty.isReference = true) {j : Int32} {v : Value} (hj : ¬ j < 0 ∧ j < z) (hv : vs.getD j.toNatClampNeg dv = v) {g : JFrame} (hg : g.method = m) {rest : List Value} (hs : g.stack = .int j :: .ref a :: rest) (hd : decode c.code g.pc = .ok (.aaload, 1)) :
    ∀ t, Steps p.tables e below (T.setTop { g with pc := g.pc + 1, stack := v :: rest }) t → Steps p.tables e below (T.setTop g) t := by
  obtain ⟨cl, Ar, q, S, N, H, G⟩ := V
  exact fun t k => X.aaload hx (by rw [eT]; exact Ar.1) (State.isArrayOf_alike hZ.alike Ar.2.1) hty Ar.2.2 (inb_of S hj) (Has.at H (inb_of S hj) hv) hg hs hd _ k
theorem own_len (X : Stand p l e R s m args below meth c T locs cells slots) (hx : p.tables.exec = Jvm.exec) (hZ : Z.Warmed39 s.vm) (eT : T.heap = h) (V : Arv Z h a kA ty z vs dv) {g : JFrame} (hg : g.method = m) {rest : List Value} (hs : g.stack = .ref a :: rest) (hd : decode c.code g.pc = .ok (.arraylength, 1)) :
    ∀ t, Steps p.tables e below (T.setTop { g with pc := g.pc + 1, stack := .int z :: rest }) t → Steps p.tables e below (T.setTop g) t := by
  obtain ⟨cl, Ar, q, S, N, H, G⟩ := V
  refine fun t k => X.arraylength hx (by rw [eT]; exact Ar.1) (State.isArrayOf_alike hZ.alike Ar.2.1) hg hs hd _ ?_
  rw [len_of S N]; exact k
theorem own_newR (X : Stand p l e R s m args below meth c T locs cells slots) (hx : p.tables.exec = Jvm.exec) (hZ : Z.Warmed39 s.vm) {own C : String} {index : Nat} (hown : s.vm.findClass own = some m.cls) (w1 : (Jvm.Cond.classLink own index C).before a0 Z = true) (w2 : (Jvm.Cond.arrayOver (.object C)).before a0 Z = true)
    (eT : T.heap = h) {g : JFrame} (hg : g.method = m) (hd : decode c.code g.pc = .ok (.anewarray index, 3)) {n : Int32} {rest : List Value} (hs : g.stack = .int n :: rest) (hn : ¬ n < 0) {cap : Nat} (hcap : n.toNatClampNeg ≤ cap) (hb : cap * 8 ≤ 536870912) (hc : cells + 1 ≤ R.cells) (hl : slots + cap ≤ R.slots) :
    ∃ T' h' cA b, b = h.size ∧ Stand p l e R s m args below meth c T' locs (cells + 1) (slots + cap) ∧ T'.heap = h' ∧ Ext h h' ∧ Arv Z h' b cA (.object C) n (List.replicate cap .null) .null ∧ Ovr Z cA C ∧
      ∀ target, Steps p.tables e below (T'.setTop { g with pc := g.pc + 3, stack := .ref b :: rest }) target → Steps p.tables e below (T.setTop g) target := by
  obtain ⟨T', h', cA, X', e', E, A, O, st⟩ := newR X hx hZ hown w1 w2 eT hg hd hs hn hcap hb hc hl
  exact ⟨T', h', cA, _, rfl, X', e', E, (Arv.new A hn).pad (pad_rep [] _ cap), O, st⟩
theorem own_stA (X : Stand p l e R s m args below meth c T locs cells slots) (hx : p.tables.exec = Jvm.exec) (hZ : Z.Warmed39 s.vm) (eT : T.heap = h) {C : String} {y : Addr} (V : Arv Z h a kA (.object C) z vs dv) (O : Ovr Z kA C) (I : Ins Z h y C true) {j : Int32} (hj : ¬ j < 0 ∧ j < z) (i : Nat) (hi : j.toNatClampNeg = i) (hl : i < vs.length) {g : JFrame} (hg : g.method = m) {rest : List Value} (hs : g.stack = .ref y :: .int j :: .ref a :: rest) (hd : decode c.code g.pc = .ok (.aastore, 1)) :
    ∃ T' h' L, Stand p l e R s m args below meth c T' (locs ++ [⟨a, L⟩]) cells slots ∧ T'.heap = h' ∧ Wr h h' a L (.ref y) ∧ Arv Z h' a kA (.object C) z (vs.set i (.ref y)) dv ∧ ∀ target, Steps p.tables e below (T'.setTop { g with pc := g.pc + 1, stack := rest }) target → Steps p.tables e below (T.setTop g) target := by
  obtain ⟨cl, Ar, q, S, N, H, G⟩ := V
  obtain ⟨T', h', X', e', W, st⟩ := stR X hx hZ eT Ar (inb_of S hj) rfl (Sto.ofV Ar q O I) hg hs hd
  exact ⟨T', h', _, X', e', W, Arv.set Ar q S N H G rfl W i hi hl, st⟩
/-! what the case's words say of statics -/
theorem own_eqI {t : Term} {n : Int32} {args : Array Value} {s : State} (q : (Jvm.Cond.eq t (.int n)).value args s none s [] = some true) : t.eval args s none [] s = some (.int n) := by
  cases ht : t.eval args s none [] s with
  | none => simp [Jvm.Cond.value, ht] at q
  | some v => cases v <;> simp [Jvm.Cond.value, ht, Term.eval, Value.isRef] at q ⊢ <;> exact q
theorem own_eqJ {t : Term} {n : Int64} {args : Array Value} {s : State} (q : (Jvm.Cond.eq t (.long n)).value args s none s [] = some true) : t.eval args s none [] s = some (.long n) := by
  cases ht : t.eval args s none [] s with
  | none => simp [Jvm.Cond.value, ht] at q
  | some v => cases v <;> simp [Jvm.Cond.value, ht, Term.eval, Value.isRef] at q ⊢ <;> exact q
theorem own_eqR {t u : Term} {x : Addr} {args : Array Value} {s : State} (hu : u.eval args s none [] s = some (.ref x)) (q : (Jvm.Cond.eq t u).value args s none s [] = some true) : t.eval args s none [] s = some (.ref x) := by
  cases ht : t.eval args s none [] s with
  | none => simp [Jvm.Cond.value, ht] at q
  | some v => cases v <;> simp [Jvm.Cond.value, ht, hu, Value.isRef] at q ⊢ <;> exact q
theorem own_lenT {t : Term} {a : Addr} {cl : Cell} {ty : FieldType} {z : Int32} {args : Array Value} {s : State} (ht : t.eval args s none [] s = some (.ref a)) (A : Arr s s.heap a cl ty) (q : (Term.length t).eval args s none [] s = some (.int z)) : cl.slots.size < 2 ^ 31 ∧ cl.slots.size.toInt32 = z := by
  have ha : s.arrayAt? a = some cl := Arr.fin (Vm.Alike.refl _) A
  by_cases hl : cl.slots.size < 2 ^ 31
  · rw [len_f ht ha hl] at q; cases q; exact ⟨hl, rfl⟩
  · simp [Term.eval, ht, ha, hl] at q
end Own
end Jvm.RoadKit
namespace Jvm.Pilot.@@N@@
open Jvm Jvm.ClassFile Sem Op Lib Jvm.Free Jvm.Stand Jvm.LawKit Jvm.RoadKit Bundle Jvm.Pilot.@@N@@.Jvm.D
theorem own_leafI {x y : Int32} (q : y = x) : some (Value.int x) = some (.int y) := by rw [q]
theorem own_leafJ {x y : Int64} (q : y = x) : some (Value.long x) = some (.long y) := by rw [q]
theorem own_bb (x : Int32) : x.toInt8.toInt32.toInt8.toInt32 = x.toInt8.toInt32 := by
  have h1 := c_i2b x; have h2 := c_i2b x.toInt8.toInt32
  rw [← Int32.toInt_inj]; omega
theorem own_lt {x y : Int32} {n k : Nat} (hx : x.toInt = n) (hy : y.toInt = k) : x < y ↔ n < k := by rw [Int32.lt_iff_toInt_lt]; omega
theorem own_add {x y : Int32} {n k : Nat} (hx : x.toInt = n) (hy : y.toInt = k) (h : n + k < 2147483648) : (x + y).toInt = (n + k : Nat) := by
  have h1 := c_iadd x y; have h2 := rng32 (x + y); omega
theorem own_nn {x : Int32} {n : Nat} (hx : x.toInt = n) : ¬ x < 0 := by
  rw [Int32.lt_iff_toInt_lt]; have e0 : (0 : Int32).toInt = 0 := rfl; omega
theorem own_clamp {x : Int32} {n : Nat} (hx : x.toInt = n) : x.toNatClampNeg = n := by simp only [Int32.toNatClampNeg]; omega
theorem own_lit32 {x : Int32} {n : Nat} (h : x.toInt = n) : x = Int32.ofInt n := by
  rw [← Int32.toInt_inj, Int32.toInt_ofInt, h]
  have := x.toInt_lt
  have es : Int32.size = 4294967296 := rfl
  rw [Int.bmod_eq_of_le (by omega) (by omega)]
theorem own_getI (xs : List Int32) (d : Int32) : ∀ j : Nat, (xs.map Value.int).getD j (.int d) = .int (xs.getD j d) := by
  induction xs with
  | nil => intro j; rfl
  | cons y r ih => intro j; cases j with
    | zero => rfl
    | succ j => exact ih j
theorem own_shr0 (z : Int32) : z >>> ((0 : Int32) &&& 31) = z := by
  have h := c_ishr z (0 : Int32) 0 (by decide)
  rw [← Int32.toInt_inj, h]; simp
theorem own_ci (y : Int32) : ((y &&& (255 : Int32)).toUInt32.toUInt16.toUInt32.toInt32) = (y &&& (255 : Int32)) := by
  have h1 := c_and y (255 : Int32) (by decide)
  have h2 := c_i2c (y &&& (255 : Int32))
  have e : (255 : Int32).toInt = 255 := by decide
  rw [← Int32.toInt_inj]; omega
/-- the bytes of the first j chars, the rest 0 -/
def own_cp (cs : List Int32) (j : Nat) : List Int32 := (cs.take j).map (fun c => c.toInt8.toInt32) ++ List.replicate (cs.length - j) (0 : Int32)
theorem own_cp0 (cs : List Int32) : own_cp cs 0 = List.replicate cs.length (0 : Int32) := by simp [own_cp]
theorem own_cpN (cs : List Int32) : own_cp cs cs.length = cs.map (fun c => c.toInt8.toInt32) := by simp [own_cp]
theorem own_cpl (cs : List Int32) (j : Nat) (h : j ≤ cs.length) : (own_cp cs j).length = cs.length := by
  simp only [own_cp, List.length_append, List.length_map, List.length_take, List.length_replicate]; omega
theorem own_cpS (cs : List Int32) (j : Nat) (h : j < cs.length) : (own_cp cs j).set j ((cs.getD j (0 : Int32)).toInt8.toInt32) = own_cp cs (j + 1) := by
  unfold own_cp
  rw [List.set_append_right _ _ (by rw [List.length_map, List.length_take]; omega), show (List.map (fun c : Int32 => c.toInt8.toInt32) (List.take j cs)).length = j by rw [List.length_map, List.length_take]; omega, Nat.sub_self]
  rw [show cs.length - j = (cs.length - (j + 1)) + 1 by omega, List.replicate_succ, List.set_cons_zero, List.take_succ_eq_append_getElem h, List.map_append, List.append_assoc]
  have e : cs.getD j (0 : Int32) = cs[j] := by simp [h]
  rw [e]; rfl
theorem own_lat (cs : List Int32) (h : ∀ c ∈ cs, ¬ (255 : Int32) < c) : ∀ t, ¬ (255 : Int32) < cs.getD t (0 : Int32) := by
  induction cs with
  | nil => intro t; have e : ([] : List Int32).getD t (0 : Int32) = 0 := by simp
           rw [e]; decide
  | cons y r ih => intro t; cases t with
    | zero => exact h y (List.mem_cons_self ..)
    | succ t => exact ih (fun c hc => h c (List.mem_cons_of_mem _ hc)) t
theorem own_small {K : Nat} {x : Int32} (h0 : 0 ≤ x.toInt) (h1 : x.toInt < K) : ∃ n : Fin K, x = Int32.ofInt (n.1 : Int) := by
  refine ⟨⟨x.toInt.toNat, by omega⟩, ?_⟩
  have h2 : x.toInt = ((x.toInt.toNat : Nat) : Int) := by omega
  exact own_lit32 h2
theorem own_v256 (b : Int32) : ∃ n : Fin 256, (b &&& (255 : Int32)) = Int32.ofInt (n.1 : Int) := by
  have h := c_and b (255 : Int32) (by decide)
  have e : (255 : Int32).toInt = 255 := by decide
  exact own_small h.1 (by omega)
theorem own_b255 (a : Int32) : a.toInt8.toInt32 = (a &&& (255 : Int32)).toInt8.toInt32 := by
  have h1 := c_i2b a; have h2 := c_i2b (a &&& (255 : Int32))
  have h3 := c_mask a (255 : Int32) 8 (by decide) (by decide)
  rw [← Int32.toInt_inj]; omega
theorem own_four (x : Int32) : (x &&& (3 : Int32)) = (0 : Int32) ∨ (x &&& (3 : Int32)) = (1 : Int32) ∨ (x &&& (3 : Int32)) = (2 : Int32) ∨ (x &&& (3 : Int32)) = (3 : Int32) := by
  have h := c_and x (3 : Int32) (by decide)
  have e : (0 : Int32).toInt = 0 ∧ (1 : Int32).toInt = 1 ∧ (2 : Int32).toInt = 2 ∧ (3 : Int32).toInt = 3 := by decide
  simp only [← Int32.toInt_inj]; omega
theorem own_hel {t : Term} {args : Array Value} {s : State} {a : Addr} {cl : Cell} {ty : FieldType} {k : Int64} {G : Jvm.Cond} (hty : ty = .int ∨ ty = .boolean ∨ ty = .byte ∨ ty = .char ∨ ty = .short) (hf : Fit s) (ht : ∀ idx, t.eval args s none idx s = some (.ref a)) (A : Arr s s.heap a cl ty) (hl : cl.slots.size < 2 ^ 31) (h : (Jvm.Cond.all t (Jvm.Cond.or G (Jvm.Cond.eq (.op1 .i2l (.elem t (.index 0))) (.op2 .ladd (.op1 .i2l (.index 0)) (.long k))))).value args s none s [] = some true)
    (i : Nat) (hi : i < cl.slots.size) (hG : G.value args s none s [i] = some false) (y : Int32) (hy : y.toInt64 = (Nat.toInt32 i).toInt64 + k) : cl.slots[i]? = some (.int y) := by
  have ha : s.arrayAt? a = some cl := Arr.fin (Vm.Alike.refl _) A
  have q := Jvm.Cond.all_elim (ht []) ha h i hi
  have e1 : (Nat.toInt32 i).toNatClampNeg = i := by simp only [Int32.toNatClampNeg, len_toInt (Nat.lt_trans hi hl)]; rfl
  obtain ⟨v, hv, hfit⟩ := elem_fit (j := Nat.toInt32 i) hf A (idx_in hi hl)
  obtain ⟨x, rfl⟩ := fit_I hfit hty
  rw [e1] at hv
  have hx : (Term.elem t (.index 0)).eval args s none [i] s = some (.int x) := by
    rw [elem_f (j := Nat.toInt32 i) (ht [i]) (by simp [Term.eval]) ha (by have := idx_in hi hl; exact fun z => this (Or.inl z)), e1]; exact hv
  have q2 : (Jvm.Cond.eq (.op1 .i2l (.elem t (.index 0))) (.op2 .ladd (.op1 .i2l (.index 0)) (.long k))).value args s none s [i] = some true := by
    simpa [Jvm.Cond.value, hG] using q
  have q3 : x.toInt64 = (Nat.toInt32 i).toInt64 + k := by
    have a1 : (Term.op1 .i2l (.elem t (.index 0))).eval args s none [i] s = some (.long x.toInt64) := by rw [op1_f hx]; rfl
    have a2 : (Term.op2 .ladd (.op1 .i2l (.index 0)) (.long k)).eval args s none [i] s = some (.long ((Nat.toInt32 i).toInt64 + k)) := by
      rw [op2_f (x := .long (Nat.toInt32 i).toInt64) (y := .long k) (by rw [op1_f (x := .int (Nat.toInt32 i)) (by simp [Term.eval])]; rfl) rfl]; rfl
    exact gotT (eq_L a1 a2) q2
  have q4 : x = y := by
    rw [← Int32.toInt_inj]; have z1 := c_i2l x; have z2 := c_i2l y; rw [q3, ← hy] at z1; omega
  rw [hv, q4]
theorem d9_0 : decode jdk_42_method_152_code 0 = .ok (.getstatic 38, 3) := by decide +kernel
theorem d9_3 : decode jdk_42_method_152_code 3 = .ok (.ifCond .eq 10, 3) := by decide +kernel
theorem d9_6 : decode jdk_42_method_152_code 6 = .ok (.aload_n 0, 1) := by decide +kernel
theorem d9_7 : decode jdk_42_method_152_code 7 = .ok (.getfield 15, 3) := by decide +kernel
theorem d9_10 : decode jdk_42_method_152_code 10 = .ok (.goto 4, 3) := by decide +kernel
theorem d9_13 : decode jdk_42_method_152_code 13 = .ok (.iconst 1, 1) := by decide +kernel
theorem d9_14 : decode jdk_42_method_152_code 14 = .ok (.ireturn, 1) := by decide +kernel
theorem ef_9 (a1 : Addr) (m : MethodId) : entryFrame m #[(.ref a1)] 1 = mkF m 0 #[.val (.ref a1)] [] := by first | (simp [entryFrame, mkF, argsToLocals, Value.category]; done) | rfl
theorem pn_0 : plainName "java/lang/String" = true := by first | (simp [plainName, overriddenIn]; done) | decide +kernel
set_option maxRecDepth 65536 in
set_option maxHeartbeats 40000000 in
theorem rm9 (l : Launch) (Z : State) (a0 : Array Value) (hw : ∀ d ∈ tables_1, d.before a0 Z = true) (ws : List Jvm.Cond) (a1 : Addr) (cz : Int32) (h0 : Heap) (n0 : Nat) (Z0 : n0 ≤ h0.size) (O0 : Old Z n0 h0) (SC : Sta Z Z.heap "java/lang/String" "COMPACT_STRINGS" "Z" (.int cz)) (hcz : ¬ cz = (0 : Int32)) (FC_a1 : Fld Z h0 a1 "java/lang/String" "coder" "B" (.int (0 : Int32))) :
    own_Met l (⟨"java/lang/String", "coder", "()B"⟩ : MethodName) jdk_42_method_152_code 1 (some .byte) ws ({ frames := 0, cells := 0, slots := 0, locals := 0 } : Room) #[(.ref a1)] Z h0 (fun v h L => v = some (.int (0 : Int32)) ∧ Fr n0 L ∧ h = h0) := by
  refine own_body (plainFor_of_name pn_0) (ef_9 a1) ?_
  intro p e s m below meth c T0 X0 hx hby hml0 hret hlk hnm hown hZ e0
  have hml : c.maxLocals = 1 := hml0
  have N0 := Fr.nil n0
  obtain ⟨T1, X1, e1, st1⟩ := getS2 X0 hx hZ hown (host := "") (Or.inl (hw _ (List.mem_of_getElem? (i := 21) rfl))) Via.refl e0 (SC.ext O0.2) (g := (mkF m 0 #[.val (.ref a1)] [])) rfl (hb hby d9_0)
  refine own_step st1 ?_
  show own_Go _ _ _ _ T1 (mkF m 3 #[.val (.ref a1)] [(.int cz)])
  refine own_step (fun _ k => XS.ifNo X1.here hx rfl (hb hby d9_3) rfl ((if0 _ _).trans (feq hcz).1) k) ?_
  show own_Go _ _ _ _ T1 (mkF m 6 #[.val (.ref a1)] [])
  refine own_step (fun _ k => XS.aloadN X1.here hx rfl (hb hby d9_6) rfl rfl k) ?_
  show own_Go _ _ _ _ T1 (mkF m 7 #[.val (.ref a1)] [(.ref a1)])
  obtain ⟨T2, X2, e2, st2⟩ := getF X1 hx hZ hown (host := "") (Or.inl (hw _ (List.mem_of_getElem? (i := 32) rfl))) Via.refl e1 FC_a1 (g := (mkF m 7 #[.val (.ref a1)] [(.ref a1)])) rfl rfl (hb hby d9_7)
  refine own_step st2 ?_
  show own_Go _ _ _ _ T2 (mkF m 10 #[.val (.ref a1)] [(.int (0 : Int32))])
  refine own_step (fun _ k => XS.goto X2.here hx rfl (pc0 := 10) (pc' := 14) rfl (hb hby d9_10) (by decide) (by decide) k) ?_
  show own_Go _ _ _ _ T2 (mkF m 14 #[.val (.ref a1)] [(.int (0 : Int32))])
  exact own_retN X2 hx (t := .byte) hret (by simp) hlk (hb hby d9_14) rfl (own_N ⟨rfl, N0, e2⟩ (by decide) (by decide)) 
theorem d8_0 : decode jdk_42_method_54_code 0 = .ok (.aload_n 0, 1) := by decide +kernel
theorem d8_1 : decode jdk_42_method_54_code 1 = .ok (.getfield 9, 3) := by decide +kernel
theorem d8_4 : decode jdk_42_method_54_code 4 = .ok (.arraylength, 1) := by decide +kernel
theorem d8_5 : decode jdk_42_method_54_code 5 = .ok (.aload_n 0, 1) := by decide +kernel
theorem d8_6 : decode jdk_42_method_54_code 6 = .ok (.invokevirtual 335, 3) := by decide +kernel
theorem d8_9 : decode jdk_42_method_54_code 9 = .ok (.ishr, 1) := by decide +kernel
theorem d8_10 : decode jdk_42_method_54_code 10 = .ok (.ireturn, 1) := by decide +kernel
theorem ef_8 (a1 : Addr) (m : MethodId) : entryFrame m #[(.ref a1)] 1 = mkF m 0 #[.val (.ref a1)] [] := by first | (simp [entryFrame, mkF, argsToLocals, Value.category]; done) | rfl
theorem pd_0 : parseMethodDescriptor "()B" = some ⟨[], some .byte⟩ := by decide +kernel
set_option maxRecDepth 65536 in
set_option maxHeartbeats 40000000 in
theorem rm8 (l : Launch) (Z : State) (a0 : Array Value) (hw : ∀ d ∈ tables_1, d.before a0 Z = true) (ws : List Jvm.Cond) (a1 : Addr) (cz : Int32) (b : Addr) (kb : ClassId) (z : Int32) (vs : List Value) (h0 : Heap) (n0 : Nat) (Z0 : n0 ≤ h0.size) (O0 : Old Z n0 h0) (SC : Sta Z Z.heap "java/lang/String" "COMPACT_STRINGS" "Z" (.int cz)) (hcz : ¬ cz = (0 : Int32)) (E_a1 : Exa Z h0 a1 "java/lang/String") (FC_a1 : Fld Z h0 a1 "java/lang/String" "coder" "B" (.int (0 : Int32))) (FV_a1 : Fld Z h0 a1 "java/lang/String" "value" "[B" (.ref b)) (VB : Arv Z h0 b kb .byte z vs (.int (0 : Int32))) :
    own_Met l (⟨"java/lang/String", "length", "()I"⟩ : MethodName) jdk_42_method_54_code 1 (some .int) ws ({ frames := 1, cells := 0, slots := 0, locals := 13 } : Room) #[(.ref a1)] Z h0 (fun v h L => v = some (.int z) ∧ Fr n0 L ∧ h = h0) := by
  refine own_body (plainFor_of_name pn_0) (ef_8 a1) ?_
  intro p e s m below meth c T0 X0 hx hby hml0 hret hlk hnm hown hZ e0
  have hml : c.maxLocals = 1 := hml0
  have N0 := Fr.nil n0
  refine own_step (fun _ k => XS.aloadN X0.here hx rfl (hb hby d8_0) rfl rfl k) ?_
  show own_Go _ _ _ _ T0 (mkF m 1 #[.val (.ref a1)] [(.ref a1)])
  obtain ⟨T1, X1, e1, st1⟩ := getF X0 hx hZ hown (host := "") (Or.inl (hw _ (List.mem_of_getElem? (i := 34) rfl))) Via.refl e0 FV_a1 (g := (mkF m 1 #[.val (.ref a1)] [(.ref a1)])) rfl rfl (hb hby d8_1)
  refine own_step st1 ?_
  show own_Go _ _ _ _ T1 (mkF m 4 #[.val (.ref a1)] [(.ref b)])
  refine own_step (own_len X1 hx hZ e1 VB (g := (mkF m 4 #[.val (.ref a1)] [(.ref b)])) rfl rfl (hb hby d8_4)) ?_
  show own_Go _ _ _ _ T1 (mkF m 5 #[.val (.ref a1)] [(.int z)])
  refine own_step (fun _ k => XS.aloadN X1.here hx rfl (hb hby d8_5) rfl rfl k) ?_
  show own_Go _ _ _ _ T1 (mkF m 6 #[.val (.ref a1)] [(.ref a1), (.int z)])
  refine own_callV X1 hx hZ (y := (⟨"java/lang/String", "coder", "()B"⟩ : MethodName)) (z := (⟨"java/lang/String", "coder", "()B"⟩ : MethodName)) hown (hw _ (List.mem_of_getElem? (i := 41) rfl)) (hw _ (List.mem_of_getElem? (i := 42) rfl)) (hw _ (List.mem_of_getElem? (i := 44) rfl)) (hw _ (List.mem_of_getElem? (i := 44) rfl)) (hw _ (List.mem_of_getElem? (i := 43) rfl)) (hw _ (List.mem_of_getElem? (i := 10) rfl)) (hw _ (List.mem_of_getElem? (i := 45) rfl)) (by decide) (rm9 l Z a0 hw [] a1 cz h0 n0 Z0 O0 SC hcz FC_a1) e1 (b := a1) E_a1 1 (by decide) (by decide) (by decide) (by decide) (g := (mkF m 6 #[.val (.ref a1)] [(.ref a1), (.int z)])) rfl (by rw [hml]; rfl) [] [(.int z)] pd_0 rfl rfl rfl (by show 2 * 0 + _ ≤ _; exact Nat.le_of_eq rfl) (hb hby d8_6) ?_
  rintro v2 T2 L2 X2 ⟨rfl, Nq2, e2⟩
  have N2 := Fr.app N0 Nq2
  show own_Go _ _ _ _ T2 (mkF m 9 #[.val (.ref a1)] [(.int (0 : Int32)), (.int z)])
  refine own_step (fun _ k => XS.ishr X2.here hx rfl (hb hby d8_9) rfl k) ?_
  show own_Go _ _ _ _ T2 (mkF m 10 #[.val (.ref a1)] [(.int (z >>> ((0 : Int32) &&& 31)))])
  rw [own_shr0]
  show own_Go _ _ _ _ T2 (mkF m 10 #[.val (.ref a1)] [(.int z)])
  exact own_retI X2 hx hret hlk (hb hby d8_10) (own_N ⟨rfl, N2, e2⟩ (by decide) (by decide)) 
theorem d12_0 : decode jdk_42_method_154_code 0 = .ok (.getstatic 38, 3) := by decide +kernel
theorem d12_3 : decode jdk_42_method_154_code 3 = .ok (.ifCond .eq 14, 3) := by decide +kernel
theorem d12_6 : decode jdk_42_method_154_code 6 = .ok (.aload_n 0, 1) := by decide +kernel
theorem d12_7 : decode jdk_42_method_154_code 7 = .ok (.getfield 15, 3) := by decide +kernel
theorem d12_10 : decode jdk_42_method_154_code 10 = .ok (.ifCond .ne 7, 3) := by decide +kernel
theorem d12_13 : decode jdk_42_method_154_code 13 = .ok (.iconst 1, 1) := by decide +kernel
theorem d12_14 : decode jdk_42_method_154_code 14 = .ok (.goto 4, 3) := by decide +kernel
theorem d12_17 : decode jdk_42_method_154_code 17 = .ok (.iconst 0, 1) := by decide +kernel
theorem d12_18 : decode jdk_42_method_154_code 18 = .ok (.ireturn, 1) := by decide +kernel
theorem ef_12 (a1 : Addr) (m : MethodId) : entryFrame m #[(.ref a1)] 1 = mkF m 0 #[.val (.ref a1)] [] := by first | (simp [entryFrame, mkF, argsToLocals, Value.category]; done) | rfl
set_option maxRecDepth 65536 in
set_option maxHeartbeats 40000000 in
theorem rm12 (l : Launch) (Z : State) (a0 : Array Value) (hw : ∀ d ∈ tables_1, d.before a0 Z = true) (ws : List Jvm.Cond) (a1 : Addr) (cz : Int32) (h0 : Heap) (n0 : Nat) (Z0 : n0 ≤ h0.size) (O0 : Old Z n0 h0) (SC : Sta Z Z.heap "java/lang/String" "COMPACT_STRINGS" "Z" (.int cz)) (hcz : ¬ cz = (0 : Int32)) (FC_a1 : Fld Z h0 a1 "java/lang/String" "coder" "B" (.int (0 : Int32))) :
    own_Met l (⟨"java/lang/String", "isLatin1", "()Z"⟩ : MethodName) jdk_42_method_154_code 1 (some .boolean) ws ({ frames := 0, cells := 0, slots := 0, locals := 0 } : Room) #[(.ref a1)] Z h0 (fun v h L => v = some (.int (1 : Int32)) ∧ Fr n0 L ∧ h = h0) := by
  refine own_body (plainFor_of_name pn_0) (ef_12 a1) ?_
  intro p e s m below meth c T0 X0 hx hby hml0 hret hlk hnm hown hZ e0
  have hml : c.maxLocals = 1 := hml0
  have N0 := Fr.nil n0
  obtain ⟨T1, X1, e1, st1⟩ := getS2 X0 hx hZ hown (host := "") (Or.inl (hw _ (List.mem_of_getElem? (i := 21) rfl))) Via.refl e0 (SC.ext O0.2) (g := (mkF m 0 #[.val (.ref a1)] [])) rfl (hb hby d12_0)
  refine own_step st1 ?_
  show own_Go _ _ _ _ T1 (mkF m 3 #[.val (.ref a1)] [(.int cz)])
  refine own_step (fun _ k => XS.ifNo X1.here hx rfl (hb hby d12_3) rfl ((if0 _ _).trans (feq hcz).1) k) ?_
  show own_Go _ _ _ _ T1 (mkF m 6 #[.val (.ref a1)] [])
  refine own_step (fun _ k => XS.aloadN X1.here hx rfl (hb hby d12_6) rfl rfl k) ?_
  show own_Go _ _ _ _ T1 (mkF m 7 #[.val (.ref a1)] [(.ref a1)])
  obtain ⟨T2, X2, e2, st2⟩ := getF X1 hx hZ hown (host := "") (Or.inl (hw _ (List.mem_of_getElem? (i := 32) rfl))) Via.refl e1 FC_a1 (g := (mkF m 7 #[.val (.ref a1)] [(.ref a1)])) rfl rfl (hb hby d12_7)
  refine own_step st2 ?_
  show own_Go _ _ _ _ T2 (mkF m 10 #[.val (.ref a1)] [(.int (0 : Int32))])
  refine own_step (fun _ k => XS.ifNo X2.here hx rfl (hb hby d12_10) rfl ((if0 _ _).trans (teq (by decide : (0 : Int32) = (0 : Int32))).2) k) ?_
  show own_Go _ _ _ _ T2 (mkF m 13 #[.val (.ref a1)] [])
  refine own_step (fun _ k => XS.iconst X2.here hx rfl (hb hby d12_13) k) ?_
  show own_Go _ _ _ _ T2 (mkF m 14 #[.val (.ref a1)] [(.int (1 : Int32))])
  refine own_step (fun _ k => XS.goto X2.here hx rfl (pc0 := 14) (pc' := 18) rfl (hb hby d12_14) (by decide) (by decide) k) ?_
  show own_Go _ _ _ _ T2 (mkF m 18 #[.val (.ref a1)] [(.int (1 : Int32))])
  exact own_retN X2 hx (t := .boolean) hret (by simp) hlk (hb hby d12_18) rfl (own_N ⟨rfl, N0, e2⟩ (by decide) (by decide)) 
theorem d15_0 : decode jdk_41_method_11_code 0 = .ok (.iload_n 0, 1) := by decide +kernel
theorem d15_1 : decode jdk_41_method_11_code 1 = .ok (.ifCond .lt 8, 3) := by decide +kernel
theorem d15_4 : decode jdk_41_method_11_code 4 = .ok (.iload_n 0, 1) := by decide +kernel
theorem d15_5 : decode jdk_41_method_11_code 5 = .ok (.iload_n 1, 1) := by decide +kernel
theorem d15_6 : decode jdk_41_method_11_code 6 = .ok (.if_icmp .lt 10, 3) := by decide +kernel
theorem d15_9 : decode jdk_41_method_11_code 9 = .ok (.aload_n 2, 1) := by decide +kernel
theorem d15_10 : decode jdk_41_method_11_code 10 = .ok (.iload_n 0, 1) := by decide +kernel
theorem d15_11 : decode jdk_41_method_11_code 11 = .ok (.iload_n 1, 1) := by decide +kernel
theorem d15_12 : decode jdk_41_method_11_code 12 = .ok (.invokestatic 95, 3) := by decide +kernel
theorem d15_15 : decode jdk_41_method_11_code 15 = .ok (.athrow, 1) := by decide +kernel
theorem d15_16 : decode jdk_41_method_11_code 16 = .ok (.iload_n 0, 1) := by decide +kernel
theorem d15_17 : decode jdk_41_method_11_code 17 = .ok (.ireturn, 1) := by decide +kernel
theorem ef_15 (p1 : Int32) (p2 : Int32) (fv : Value) (hfv : fv.isRef = true) (m : MethodId) : entryFrame m #[(.int p1), (.int p2), fv] 3 = mkF m 0 #[.val (.int p1), .val (.int p2), .val fv] [] := by
  rcases ref_cases hfv with rfl | ⟨a, rfl⟩ <;> first | (simp [entryFrame, mkF, argsToLocals, Value.category]; done) | rfl
theorem pn_1 : plainName "jdk/internal/util/Preconditions" = true := by first | (simp [plainName, overriddenIn]; done) | decide +kernel
set_option maxRecDepth 65536 in
set_option maxHeartbeats 40000000 in
theorem rm15 (l : Launch) (Z : State) (a0 : Array Value) (hw : ∀ d ∈ tables_1, d.before a0 Z = true) (ws : List Jvm.Cond) (p1 : Int32) (p2 : Int32) (fv : Value) (h0 : Heap) (n0 : Nat) (Z0 : n0 ≤ h0.size) (hfv : fv.isRef = true) (h1 : ¬ p1 < (0 : Int32)) (h2 : p1 < p2) :
    own_Met l (⟨"jdk/internal/util/Preconditions", "checkIndex", "(IILjava/util/function/BiFunction;)I"⟩ : MethodName) jdk_41_method_11_code 3 (some .int) ws ({ frames := 0, cells := 0, slots := 0, locals := 0 } : Room) #[(.int p1), (.int p2), fv] Z h0 (fun v h L => v = some (.int p1) ∧ Fr n0 L ∧ h = h0) := by
  refine own_body (plainFor_of_name pn_1) (ef_15 p1 p2 fv hfv) ?_
  intro p e s m below meth c T0 X0 hx hby hml0 hret hlk hnm hown hZ e0
  have hml : c.maxLocals = 3 := hml0
  have N0 := Fr.nil n0
  refine own_step (fun _ k => XS.iloadN X0.here hx rfl (hb hby d15_0) rfl k) ?_
  show own_Go _ _ _ _ T0 (mkF m 1 #[.val (.int p1), .val (.int p2), .val fv] [(.int p1)])
  refine own_step (fun _ k => XS.ifNo X0.here hx rfl (hb hby d15_1) rfl ((if0 _ _).trans (flt h1).1) k) ?_
  show own_Go _ _ _ _ T0 (mkF m 4 #[.val (.int p1), .val (.int p2), .val fv] [])
  refine own_step (fun _ k => XS.iloadN X0.here hx rfl (hb hby d15_4) rfl k) ?_
  show own_Go _ _ _ _ T0 (mkF m 5 #[.val (.int p1), .val (.int p2), .val fv] [(.int p1)])
  refine own_step (fun _ k => XS.iloadN X0.here hx rfl (hb hby d15_5) rfl k) ?_
  show own_Go _ _ _ _ T0 (mkF m 6 #[.val (.int p1), .val (.int p2), .val fv] [(.int p2), (.int p1)])
  refine own_step (fun _ k => XS.icmpYes X0.here hx rfl (pc0 := 6) (pc' := 16) rfl (hb hby d15_6) rfl (tlt h2).1 (by decide) (by decide) k) ?_
  show own_Go _ _ _ _ T0 (mkF m 16 #[.val (.int p1), .val (.int p2), .val fv] [])
  refine own_step (fun _ k => XS.iloadN X0.here hx rfl (hb hby d15_16) rfl k) ?_
  show own_Go _ _ _ _ T0 (mkF m 17 #[.val (.int p1), .val (.int p2), .val fv] [(.int p1)])
  exact own_retI X0 hx hret hlk (hb hby d15_17) (own_N ⟨rfl, N0, e0⟩ (by decide) (by decide)) 
theorem d14_0 : decode jdk_42_method_155_code 0 = .ok (.iload_n 0, 1) := by decide +kernel
theorem d14_1 : decode jdk_42_method_155_code 1 = .ok (.iload_n 1, 1) := by decide +kernel
theorem d14_2 : decode jdk_42_method_155_code 2 = .ok (.getstatic 1053, 3) := by decide +kernel
theorem d14_5 : decode jdk_42_method_155_code 5 = .ok (.invokestatic 1059, 3) := by decide +kernel
theorem d14_8 : decode jdk_42_method_155_code 8 = .ok (.pop, 1) := by decide +kernel
theorem d14_9 : decode jdk_42_method_155_code 9 = .ok (.return_, 1) := by decide +kernel
theorem ef_14 (p1 : Int32) (p2 : Int32) (m : MethodId) : entryFrame m #[(.int p1), (.int p2)] 2 = mkF m 0 #[.val (.int p1), .val (.int p2)] [] := by first | (simp [entryFrame, mkF, argsToLocals, Value.category]; done) | rfl
theorem pd_1 : parseMethodDescriptor "(IILjava/util/function/BiFunction;)I" = some ⟨[.int, .int, (.object "java/util/function/BiFunction")], some .int⟩ := by decide +kernel
set_option maxRecDepth 65536 in
set_option maxHeartbeats 40000000 in
theorem rm14 (l : Launch) (Z : State) (a0 : Array Value) (hw : ∀ d ∈ tables_1, d.before a0 Z = true) (ws : List Jvm.Cond) (p1 : Int32) (p2 : Int32) (fv : Value) (h0 : Heap) (n0 : Nat) (Z0 : n0 ≤ h0.size) (O0 : Old Z n0 h0) (SF : Sta Z Z.heap "jdk/internal/util/Preconditions" "SIOOBE_FORMATTER" "Ljava/util/function/BiFunction;" fv) (hfv : fv.isRef = true) (h1 : ¬ p1 < (0 : Int32)) (h2 : p1 < p2) :
    own_Met l (⟨"java/lang/String", "checkIndex", "(II)V"⟩ : MethodName) jdk_42_method_155_code 2 none ws ({ frames := 1, cells := 0, slots := 0, locals := 14 } : Room) #[(.int p1), (.int p2)] Z h0 (fun v h L => v = none ∧ Fr n0 L ∧ h = h0) := by
  refine own_body (plainFor_of_name pn_0) (ef_14 p1 p2) ?_
  intro p e s m below meth c T0 X0 hx hby hml0 hret hlk hnm hown hZ e0
  have hml : c.maxLocals = 2 := hml0
  have N0 := Fr.nil n0
  refine own_step (fun _ k => XS.iloadN X0.here hx rfl (hb hby d14_0) rfl k) ?_
  show own_Go _ _ _ _ T0 (mkF m 1 #[.val (.int p1), .val (.int p2)] [(.int p1)])
  refine own_step (fun _ k => XS.iloadN X0.here hx rfl (hb hby d14_1) rfl k) ?_
  show own_Go _ _ _ _ T0 (mkF m 2 #[.val (.int p1), .val (.int p2)] [(.int p2), (.int p1)])
  obtain ⟨T1, X1, e1, st1⟩ := getS2 X0 hx hZ hown (host := "") (Or.inl (hw _ (List.mem_of_getElem? (i := 67) rfl))) Via.refl e0 (SF.ext O0.2) (g := (mkF m 2 #[.val (.int p1), .val (.int p2)] [(.int p2), (.int p1)])) rfl (hb hby d14_2)
  refine own_step st1 ?_
  show own_Go _ _ _ _ T1 (mkF m 5 #[.val (.int p1), .val (.int p2)] [fv, (.int p2), (.int p1)])
  refine own_callS X1 hx hZ (y := (⟨"jdk/internal/util/Preconditions", "checkIndex", "(IILjava/util/function/BiFunction;)I"⟩ : MethodName)) hown (hw _ (List.mem_of_getElem? (i := 69) rfl)) (hw _ (List.mem_of_getElem? (i := 70) rfl)) (hw _ (List.mem_of_getElem? (i := 68) rfl)) (hw _ (List.mem_of_getElem? (i := 71) rfl)) (by decide) (rm15 l Z a0 hw [] p1 p2 fv  h0 n0 Z0 hfv h1 h2) e1 0 (by decide) (by decide) (by decide) (by decide) (g := (mkF m 5 #[.val (.int p1), .val (.int p2)] [fv, (.int p2), (.int p1)])) rfl (by rw [hml]; rfl) [(.int p1), (.int p2), fv] [] pd_1 rfl rfl rfl (by show 2 * 0 + _ ≤ _; exact Nat.le_of_eq rfl) (hb hby d14_5) ?_
  rintro v2 T2 L2 X2 ⟨rfl, Nq2, e2⟩
  have N2 := Fr.app N0 Nq2
  show own_Go _ _ _ _ T2 (mkF m 8 #[.val (.int p1), .val (.int p2)] [(.int p1)])
  refine own_step (fun _ k => XS.pop X2.here hx rfl (hb hby d14_8) rfl rfl k) ?_
  show own_Go _ _ _ _ T2 (mkF m 9 #[.val (.int p1), .val (.int p2)] [])
  exact own_retV X2 hx hret hlk (hb hby d14_9) (own_N ⟨rfl, N2, e2⟩ (by decide) (by decide)) 
theorem d13_0 : decode jdk_43_method_2_code 0 = .ok (.iload_n 1, 1) := by decide +kernel
theorem d13_1 : decode jdk_43_method_2_code 1 = .ok (.aload_n 0, 1) := by decide +kernel
theorem d13_2 : decode jdk_43_method_2_code 2 = .ok (.arraylength, 1) := by decide +kernel
theorem d13_3 : decode jdk_43_method_2_code 3 = .ok (.invokestatic 9, 3) := by decide +kernel
theorem d13_6 : decode jdk_43_method_2_code 6 = .ok (.aload_n 0, 1) := by decide +kernel
theorem d13_7 : decode jdk_43_method_2_code 7 = .ok (.iload_n 1, 1) := by decide +kernel
theorem d13_8 : decode jdk_43_method_2_code 8 = .ok (.baload, 1) := by decide +kernel
theorem d13_9 : decode jdk_43_method_2_code 9 = .ok (.sipush 255, 3) := by decide +kernel
theorem d13_12 : decode jdk_43_method_2_code 12 = .ok (.iand, 1) := by decide +kernel
theorem d13_13 : decode jdk_43_method_2_code 13 = .ok (.i2c, 1) := by decide +kernel
theorem d13_14 : decode jdk_43_method_2_code 14 = .ok (.ireturn, 1) := by decide +kernel
theorem ef_13 (a1 : Addr) (p2 : Int32) (m : MethodId) : entryFrame m #[(.ref a1), (.int p2)] 2 = mkF m 0 #[.val (.ref a1), .val (.int p2)] [] := by first | (simp [entryFrame, mkF, argsToLocals, Value.category]; done) | rfl
theorem pd_2 : parseMethodDescriptor "(II)V" = some ⟨[.int, .int], none⟩ := by decide +kernel
theorem pn_2 : plainName "java/lang/StringLatin1" = true := by first | (simp [plainName, overriddenIn]; done) | decide +kernel
set_option maxRecDepth 65536 in
set_option maxHeartbeats 40000000 in
theorem rm13 (l : Launch) (Z : State) (a0 : Array Value) (hw : ∀ d ∈ tables_1, d.before a0 Z = true) (ws : List Jvm.Cond) (a1 : Addr) (p2 : Int32) (fv : Value) (kb : ClassId) (z : Int32) (ys : List Int32) (h0 : Heap) (n0 : Nat) (Z0 : n0 ≤ h0.size) (O0 : Old Z n0 h0) (SF : Sta Z Z.heap "jdk/internal/util/Preconditions" "SIOOBE_FORMATTER" "Ljava/util/function/BiFunction;" fv) (hfv : fv.isRef = true) (VB : Arv Z h0 a1 kb .byte z (ys.map Value.int) (.int (0 : Int32))) (h1 : ¬ p2 < (0 : Int32)) (h2 : p2 < z) :
    own_Met l (⟨"java/lang/StringLatin1", "charAt", "([BI)C"⟩ : MethodName) jdk_43_method_2_code 2 (some .char) ws ({ frames := 2, cells := 0, slots := 0, locals := 27 } : Room) #[(.ref a1), (.int p2)] Z h0 (fun v h L => v = some (.int ((ys.getD p2.toNatClampNeg (0 : Int32)) &&& (255 : Int32))) ∧ Fr n0 L ∧ h = h0) := by
  refine own_body (plainFor_of_name pn_2) (ef_13 a1 p2) ?_
  intro p e s m below meth c T0 X0 hx hby hml0 hret hlk hnm hown hZ e0
  have hml : c.maxLocals = 2 := hml0
  have N0 := Fr.nil n0
  refine own_step (fun _ k => XS.iloadN X0.here hx rfl (hb hby d13_0) rfl k) ?_
  show own_Go _ _ _ _ T0 (mkF m 1 #[.val (.ref a1), .val (.int p2)] [(.int p2)])
  refine own_step (fun _ k => XS.aloadN X0.here hx rfl (hb hby d13_1) rfl rfl k) ?_
  show own_Go _ _ _ _ T0 (mkF m 2 #[.val (.ref a1), .val (.int p2)] [(.ref a1), (.int p2)])
  refine own_step (own_len X0 hx hZ e0 VB (g := (mkF m 2 #[.val (.ref a1), .val (.int p2)] [(.ref a1), (.int p2)])) rfl rfl (hb hby d13_2)) ?_
  show own_Go _ _ _ _ T0 (mkF m 3 #[.val (.ref a1), .val (.int p2)] [(.int z), (.int p2)])
  refine own_callS X0 hx hZ (y := (⟨"java/lang/String", "checkIndex", "(II)V"⟩ : MethodName)) hown (hw _ (List.mem_of_getElem? (i := 64) rfl)) (hw _ (List.mem_of_getElem? (i := 65) rfl)) (hw _ (List.mem_of_getElem? (i := 10) rfl)) (hw _ (List.mem_of_getElem? (i := 66) rfl)) (by decide) (rm14 l Z a0 hw [] p2 z fv h0 n0 Z0 O0 SF hfv h1 h2) e0 0 (by decide) (by decide) (by decide) (by decide) (g := (mkF m 3 #[.val (.ref a1), .val (.int p2)] [(.int z), (.int p2)])) rfl (by rw [hml]; rfl) [(.int p2), (.int z)] [] pd_2 rfl rfl rfl (by show 2 * 0 + _ ≤ _; exact Nat.le_of_eq rfl) (hb hby d13_3) ?_
  rintro v1 T1 L1 X1 ⟨rfl, Nq1, e1⟩
  have N1 := Fr.app N0 Nq1
  show own_Go _ _ _ _ T1 (mkF m 6 #[.val (.ref a1), .val (.int p2)] [])
  refine own_step (fun _ k => XS.aloadN X1.here hx rfl (hb hby d13_6) rfl rfl k) ?_
  show own_Go _ _ _ _ T1 (mkF m 7 #[.val (.ref a1), .val (.int p2)] [(.ref a1)])
  refine own_step (fun _ k => XS.iloadN X1.here hx rfl (hb hby d13_7) rfl k) ?_
  show own_Go _ _ _ _ T1 (mkF m 8 #[.val (.ref a1), .val (.int p2)] [(.int p2), (.ref a1)])
  refine own_step (own_ldB X1 hx hZ e1 VB (j := p2) (v := (.int (ys.getD p2.toNatClampNeg (0 : Int32)))) ⟨h1, h2⟩ (own_getI ys _ _) (g := (mkF m 8 #[.val (.ref a1), .val (.int p2)] [(.int p2), (.ref a1)])) rfl rfl (hb hby d13_8)) ?_
  show own_Go _ _ _ _ T1 (mkF m 9 #[.val (.ref a1), .val (.int p2)] [(.int (ys.getD p2.toNatClampNeg (0 : Int32)))])
  refine own_step (fun _ k => XS.sipush X1.here hx rfl (hb hby d13_9) k) ?_
  show own_Go _ _ _ _ T1 (mkF m 12 #[.val (.ref a1), .val (.int p2)] [(.int (255 : Int32)), (.int (ys.getD p2.toNatClampNeg (0 : Int32)))])
  refine own_step (fun _ k => XS.iand X1.here hx rfl (hb hby d13_12) rfl k) ?_
  show own_Go _ _ _ _ T1 (mkF m 13 #[.val (.ref a1), .val (.int p2)] [(.int ((ys.getD p2.toNatClampNeg (0 : Int32)) &&& (255 : Int32)))])
  refine own_step (fun _ k => XS.i2c X1.here hx rfl (hb hby d13_13) rfl k) ?_
  show own_Go _ _ _ _ T1 (mkF m 14 #[.val (.ref a1), .val (.int p2)] [(.int (((ys.getD p2.toNatClampNeg (0 : Int32)) &&& (255 : Int32)).toUInt32.toUInt16.toUInt32.toInt32))])
  rw [own_ci]
  show own_Go _ _ _ _ T1 (mkF m 14 #[.val (.ref a1), .val (.int p2)] [(.int ((ys.getD p2.toNatClampNeg (0 : Int32)) &&& (255 : Int32)))])
  exact own_retN X1 hx (t := .char) hret (by simp) hlk (hb hby d13_14) (own_ci _) (own_N ⟨rfl, N1, e1⟩ (by decide) (by decide))
theorem d11_0 : decode jdk_42_method_56_code 0 = .ok (.aload_n 0, 1) := by decide +kernel
theorem d11_1 : decode jdk_42_method_56_code 1 = .ok (.invokevirtual 492, 3) := by decide +kernel
theorem d11_4 : decode jdk_42_method_56_code 4 = .ok (.ifCond .eq 12, 3) := by decide +kernel
theorem d11_7 : decode jdk_42_method_56_code 7 = .ok (.aload_n 0, 1) := by decide +kernel
theorem d11_8 : decode jdk_42_method_56_code 8 = .ok (.getfield 9, 3) := by decide +kernel
theorem d11_11 : decode jdk_42_method_56_code 11 = .ok (.iload_n 1, 1) := by decide +kernel
theorem d11_12 : decode jdk_42_method_56_code 12 = .ok (.invokestatic 495, 3) := by decide +kernel
theorem d11_15 : decode jdk_42_method_56_code 15 = .ok (.ireturn, 1) := by decide +kernel
theorem d11_16 : decode jdk_42_method_56_code 16 = .ok (.aload_n 0, 1) := by decide +kernel
theorem d11_17 : decode jdk_42_method_56_code 17 = .ok (.getfield 9, 3) := by decide +kernel
theorem d11_20 : decode jdk_42_method_56_code 20 = .ok (.iload_n 1, 1) := by decide +kernel
theorem d11_21 : decode jdk_42_method_56_code 21 = .ok (.invokestatic 498, 3) := by decide +kernel
theorem d11_24 : decode jdk_42_method_56_code 24 = .ok (.ireturn, 1) := by decide +kernel
theorem ef_11 (a1 : Addr) (p2 : Int32) (m : MethodId) : entryFrame m #[(.ref a1), (.int p2)] 2 = mkF m 0 #[.val (.ref a1), .val (.int p2)] [] := by first | (simp [entryFrame, mkF, argsToLocals, Value.category]; done) | rfl
theorem pd_3 : parseMethodDescriptor "()Z" = some ⟨[], some .boolean⟩ := by decide +kernel
theorem pd_4 : parseMethodDescriptor "([BI)C" = some ⟨[(.array .byte), .int], some .char⟩ := by decide +kernel
set_option maxRecDepth 65536 in
set_option maxHeartbeats 40000000 in
theorem rm11 (l : Launch) (Z : State) (a0 : Array Value) (hw : ∀ d ∈ tables_1, d.before a0 Z = true) (ws : List Jvm.Cond) (a1 : Addr) (p2 : Int32) (cz : Int32) (fv : Value) (b : Addr) (kb : ClassId) (z : Int32) (ys : List Int32) (h0 : Heap) (n0 : Nat) (Z0 : n0 ≤ h0.size) (O0 : Old Z n0 h0) (SC : Sta Z Z.heap "java/lang/String" "COMPACT_STRINGS" "Z" (.int cz)) (hcz : ¬ cz = (0 : Int32)) (SF : Sta Z Z.heap "jdk/internal/util/Preconditions" "SIOOBE_FORMATTER" "Ljava/util/function/BiFunction;" fv) (hfv : fv.isRef = true) (E_a1 : Exa Z h0 a1 "java/lang/String") (FC_a1 : Fld Z h0 a1 "java/lang/String" "coder" "B" (.int (0 : Int32))) (FV_a1 : Fld Z h0 a1 "java/lang/String" "value" "[B" (.ref b)) (VB : Arv Z h0 b kb .byte z (ys.map Value.int) (.int (0 : Int32))) (h1 : ¬ p2 < (0 : Int32)) (h2 : p2 < z) :
    own_Met l (⟨"java/lang/String", "charAt", "(I)C"⟩ : MethodName) jdk_42_method_56_code 2 (some .char) ws ({ frames := 3, cells := 0, slots := 0, locals := 40 } : Room) #[(.ref a1), (.int p2)] Z h0 (fun v h L => v = some (.int ((ys.getD p2.toNatClampNeg (0 : Int32)) &&& (255 : Int32))) ∧ Fr n0 L ∧ h = h0) := by
  refine own_body (plainFor_of_name pn_0) (ef_11 a1 p2) ?_
  intro p e s m below meth c T0 X0 hx hby hml0 hret hlk hnm hown hZ e0
  have hml : c.maxLocals = 2 := hml0
  have N0 := Fr.nil n0
  refine own_step (fun _ k => XS.aloadN X0.here hx rfl (hb hby d11_0) rfl rfl k) ?_
  show own_Go _ _ _ _ T0 (mkF m 1 #[.val (.ref a1), .val (.int p2)] [(.ref a1)])
  refine own_callV X0 hx hZ (y := (⟨"java/lang/String", "isLatin1", "()Z"⟩ : MethodName)) (z := (⟨"java/lang/String", "isLatin1", "()Z"⟩ : MethodName)) hown (hw _ (List.mem_of_getElem? (i := 55) rfl)) (hw _ (List.mem_of_getElem? (i := 56) rfl)) (hw _ (List.mem_of_getElem? (i := 58) rfl)) (hw _ (List.mem_of_getElem? (i := 58) rfl)) (hw _ (List.mem_of_getElem? (i := 57) rfl)) (hw _ (List.mem_of_getElem? (i := 10) rfl)) (hw _ (List.mem_of_getElem? (i := 59) rfl)) (by decide) (rm12 l Z a0 hw [] a1 cz h0 n0 Z0 O0 SC hcz FC_a1) e0 (b := a1) E_a1 0 (by decide) (by decide) (by decide) (by decide) (g := (mkF m 1 #[.val (.ref a1), .val (.int p2)] [(.ref a1)])) rfl (by rw [hml]; rfl) [] [] pd_3 rfl rfl rfl (by show 2 * 0 + _ ≤ _; exact Nat.le_of_eq rfl) (hb hby d11_1) ?_
  rintro v1 T1 L1 X1 ⟨rfl, Nq1, e1⟩
  have N1 := Fr.app N0 Nq1
  show own_Go _ _ _ _ T1 (mkF m 4 #[.val (.ref a1), .val (.int p2)] [(.int (1 : Int32))])
  refine own_step (fun _ k => XS.ifNo X1.here hx rfl (hb hby d11_4) rfl ((if0 _ _).trans (feq (by decide : ¬ ((1 : Int32) = (0 : Int32)))).1) k) ?_
  show own_Go _ _ _ _ T1 (mkF m 7 #[.val (.ref a1), .val (.int p2)] [])
  refine own_step (fun _ k => XS.aloadN X1.here hx rfl (hb hby d11_7) rfl rfl k) ?_
  show own_Go _ _ _ _ T1 (mkF m 8 #[.val (.ref a1), .val (.int p2)] [(.ref a1)])
  obtain ⟨T2, X2, e2, st2⟩ := getF X1 hx hZ hown (host := "") (Or.inl (hw _ (List.mem_of_getElem? (i := 34) rfl))) Via.refl e1 FV_a1 (g := (mkF m 8 #[.val (.ref a1), .val (.int p2)] [(.ref a1)])) rfl rfl (hb hby d11_8)
  refine own_step st2 ?_
  show own_Go _ _ _ _ T2 (mkF m 11 #[.val (.ref a1), .val (.int p2)] [(.ref b)])
  refine own_step (fun _ k => XS.iloadN X2.here hx rfl (hb hby d11_11) rfl k) ?_
  show own_Go _ _ _ _ T2 (mkF m 12 #[.val (.ref a1), .val (.int p2)] [(.int p2), (.ref b)])
  refine own_callS X2 hx hZ (y := (⟨"java/lang/StringLatin1", "charAt", "([BI)C"⟩ : MethodName)) hown (hw _ (List.mem_of_getElem? (i := 60) rfl)) (hw _ (List.mem_of_getElem? (i := 61) rfl)) (hw _ (List.mem_of_getElem? (i := 62) rfl)) (hw _ (List.mem_of_getElem? (i := 63) rfl)) (by decide) (rm13 l Z a0 hw [] b p2 fv kb z ys h0 n0 Z0 O0 SF hfv VB h1 h2) e2 0 (by decide) (by decide) (by decide) (by decide) (g := (mkF m 12 #[.val (.ref a1), .val (.int p2)] [(.int p2), (.ref b)])) rfl (by rw [hml]; rfl) [(.ref b), (.int p2)] [] pd_4 rfl rfl rfl (by show 2 * 0 + _ ≤ _; exact Nat.le_of_eq rfl) (hb hby d11_12) ?_
  rintro v3 T3 L3 X3 ⟨rfl, Nq3, e3⟩
  have N3 := Fr.app N1 Nq3
  show own_Go _ _ _ _ T3 (mkF m 15 #[.val (.ref a1), .val (.int p2)] [(.int ((ys.getD p2.toNatClampNeg (0 : Int32)) &&& (255 : Int32)))])
  exact own_retN X3 hx (t := .char) hret (by simp) hlk (hb hby d11_15) (own_ci _) (own_N ⟨rfl, N3, e3⟩ (by decide) (by decide))
def own_EL : List (String × Nat) := [("java/lang/String", 7)]
theorem own_wS {Z : State} {a0 : Array Value} (hw : ∀ d ∈ tables_1, d.before a0 Z = true) : ∀ a ∈ Bundle.stringAtoms, a.before a0 Z = true := by
  intro a ha
  simp only [Bundle.stringAtoms, List.mem_cons, List.not_mem_nil, or_false] at ha
  rcases ha with rfl | rfl | rfl | rfl | rfl | rfl | rfl
  · exact (hw _ (List.mem_of_getElem? (i := 10) rfl))
  · exact (hw _ (List.mem_of_getElem? (i := 9) rfl))
  · exact (hw _ (List.mem_of_getElem? (i := 0) rfl))
  · exact (hw _ (List.mem_of_getElem? (i := 35) rfl))
  · exact (hw _ (List.mem_of_getElem? (i := 33) rfl))
  · exact (hw _ (List.mem_of_getElem? (i := 76) rfl))
  · exact (hw _ (List.mem_of_getElem? (i := 77) rfl))
theorem d6_0 : decode jdk_52_method_21_code 0 = .ok (.iconst 0, 1) := by decide +kernel
theorem d6_1 : decode jdk_52_method_21_code 1 = .ok (.istore 5, 2) := by decide +kernel
theorem d6_3 : decode jdk_52_method_21_code 3 = .ok (.iload 5, 2) := by decide +kernel
theorem d6_5 : decode jdk_52_method_21_code 5 = .ok (.iload 4, 2) := by decide +kernel
theorem d6_7 : decode jdk_52_method_21_code 7 = .ok (.if_icmp .ge 37, 3) := by decide +kernel
theorem d6_10 : decode jdk_52_method_21_code 10 = .ok (.aload_n 0, 1) := by decide +kernel
theorem d6_11 : decode jdk_52_method_21_code 11 = .ok (.iload_n 1, 1) := by decide +kernel
theorem d6_12 : decode jdk_52_method_21_code 12 = .ok (.caload, 1) := by decide +kernel
theorem d6_13 : decode jdk_52_method_21_code 13 = .ok (.istore 6, 2) := by decide +kernel
theorem d6_15 : decode jdk_52_method_21_code 15 = .ok (.iload 6, 2) := by decide +kernel
theorem d6_17 : decode jdk_52_method_21_code 17 = .ok (.sipush 255, 3) := by decide +kernel
theorem d6_20 : decode jdk_52_method_21_code 20 = .ok (.if_icmp .le 6, 3) := by decide +kernel
theorem d6_23 : decode jdk_52_method_21_code 23 = .ok (.iload 5, 2) := by decide +kernel
theorem d6_25 : decode jdk_52_method_21_code 25 = .ok (.ireturn, 1) := by decide +kernel
theorem d6_26 : decode jdk_52_method_21_code 26 = .ok (.aload_n 2, 1) := by decide +kernel
theorem d6_27 : decode jdk_52_method_21_code 27 = .ok (.iload_n 3, 1) := by decide +kernel
theorem d6_28 : decode jdk_52_method_21_code 28 = .ok (.iload 6, 2) := by decide +kernel
theorem d6_30 : decode jdk_52_method_21_code 30 = .ok (.i2b, 1) := by decide +kernel
theorem d6_31 : decode jdk_52_method_21_code 31 = .ok (.bastore, 1) := by decide +kernel
theorem d6_32 : decode jdk_52_method_21_code 32 = .ok (.iinc 1 1, 3) := by decide +kernel
theorem d6_35 : decode jdk_52_method_21_code 35 = .ok (.iinc 3 1, 3) := by decide +kernel
theorem d6_38 : decode jdk_52_method_21_code 38 = .ok (.iinc 5 1, 3) := by decide +kernel
theorem d6_41 : decode jdk_52_method_21_code 41 = .ok (.goto (-38), 3) := by decide +kernel
theorem d6_44 : decode jdk_52_method_21_code 44 = .ok (.iload 4, 2) := by decide +kernel
theorem d6_46 : decode jdk_52_method_21_code 46 = .ok (.ireturn, 1) := by decide +kernel
theorem ef_6 (a1 : Addr) (p2 : Int32) (a3 : Addr) (p4 : Int32) (p5 : Int32) (m : MethodId) : entryFrame m #[(.ref a1), (.int p2), (.ref a3), (.int p4), (.int p5)] 7 = mkF m 0 #[.val (.ref a1), .val (.int p2), .val (.ref a3), .val (.int p4), .val (.int p5), .unset, .unset] [] := by first | (simp [entryFrame, mkF, argsToLocals, Value.category]; done) | rfl
theorem pn_3 : plainName "java/lang/StringUTF16" = true := by first | (simp [plainName, overriddenIn]; done) | decide +kernel
set_option maxRecDepth 65536 in
set_option maxHeartbeats 40000000 in
theorem rm6 (l : Launch) (Z : State) (a0 : Array Value) (hw : ∀ d ∈ tables_1, d.before a0 Z = true) (ws : List Jvm.Cond) (a1 : Addr) (p2 : Int32) (a3 : Addr) (p4 : Int32) (p5 : Int32) (kc kb : ClassId) (z : Int32) (cs : List Int32) (h0 : Heap) (n0 : Nat) (Z0 : n0 ≤ h0.size) (VA : Arv Z h0 a1 kc .char z (cs.map Value.int) (.int (0 : Int32))) (VB : Arv Z h0 a3 kb .byte z ((List.replicate cs.length (0 : Int32)).map Value.int) (.int (0 : Int32))) (hcs : z.toInt = (cs.length : Nat)) (hcap : cs.length ≤ 8) (hlat : ∀ t, ¬ (255 : Int32) < cs.getD t (0 : Int32)) (hne : a1 ≠ a3) (hp5 : p5.toInt = (cs.length : Nat)) (hp2 : p2.toInt = (0 : Nat)) (hp4 : p4.toInt = (0 : Nat)) (g_a3 : n0 ≤ a3) :
    own_Met l (⟨"java/lang/StringUTF16", "compress", "([CI[BII)I"⟩ : MethodName) jdk_52_method_21_code 7 (some .int) ws ({ frames := 0, cells := 0, slots := 0, locals := 0 } : Room) #[(.ref a1), (.int p2), (.ref a3), (.int p4), (.int p5)] Z h0 (fun v h L => v = some (.int p5) ∧ Fr n0 L ∧ Keep h0 h [a3] ∧ Arv Z h a3 kb .byte z ((cs.map (fun c => c.toInt8.toInt32)).map Value.int) (.int (0 : Int32))) := by
  refine own_body (plainFor_of_name pn_3) (ef_6 a1 p2 a3 p4 p5) ?_
  intro p e s m below meth c T0 X0 hx hby hml0 hret hlk hnm hown hZ e0
  have hml : c.maxLocals = 7 := hml0
  have N0 := Fr.nil n0
  have e_1 : (1 : Int32).toInt = (1 : Nat) := by decide
  refine own_step (fun _ k => XS.iconst X0.here hx rfl (hb hby d6_0) k) ?_
  show own_Go _ _ _ _ T0 (mkF m 1 #[.val (.ref a1), .val (.int p2), .val (.ref a3), .val (.int p4), .val (.int p5), .unset, .unset] [(.int (0 : Int32))])
  refine own_step (fun _ k => XS.istore X0.here hx rfl (hb hby d6_1) rfl (l' := #[.val (.ref a1), .val (.int p2), .val (.ref a3), .val (.int p4), .val (.int p5), .val (.int (0 : Int32)), .unset]) rfl k) ?_
  show own_Go _ _ _ _ T0 (mkF m 3 #[.val (.ref a1), .val (.int p2), .val (.ref a3), .val (.int p4), .val (.int p5), .val (.int (0 : Int32)), .unset] [])
  have loop : ∀ (k j : Nat) (i1 i3 i5 : Int32) (s6 : Slot) (T : State) (hp : Heap) (locs : List Loc), Stand p l e ({ frames := 0, cells := 0, slots := 0, locals := 0 } : Room) s m #[(.ref a1), (.int p2), (.ref a3), (.int p4), (.int p5)] below meth c T locs 0 0 → T.heap = hp → Fr n0 locs → Keep h0 hp [a3] → Arv Z hp a3 kb .byte z ((own_cp cs j).map Value.int) (.int (0 : Int32)) → j + k = cs.length → i1.toInt = (j : Nat) → i3.toInt = (j : Nat) → i5.toInt = (j : Nat) → (s6 = .unset ∨ ∃ w, s6 = .val w ∧ w.category = 1) → own_Go p e below (own_EndN below s (fun v h L => v = some (.int p5) ∧ Fr n0 L ∧ Keep h0 h [a3] ∧ Arv Z h a3 kb .byte z ((cs.map (fun c => c.toInt8.toInt32)).map Value.int) (.int (0 : Int32))) ({ frames := 0, cells := 0, slots := 0, locals := 0 } : Room).cells ({ frames := 0, cells := 0, slots := 0, locals := 0 } : Room).slots) T (mkF m 3 #[.val (.ref a1), .val (.int i1), .val (.ref a3), .val (.int i3), .val (.int p5), .val (.int i5), s6] []) := by
    intro k
    induction k with
    | zero =>
      intro j i1 i3 i5 s6 T hp locs X e' N' K' V' hj h1 h3 h5 h6
      have hc : ¬ i5 < p5 := fun q => by have := (own_lt h5 hp5).mp q; omega
      obtain rfl : j = cs.length := by omega
      have Zp := Nat.le_trans Z0 K'.1
      refine own_step (fun _ k => XS.iload X.here hx rfl (hb hby d6_3) rfl k) ?_
      show own_Go _ _ _ _ T (mkF m 5 #[.val (.ref a1), .val (.int i1), .val (.ref a3), .val (.int i3), .val (.int p5), .val (.int i5), s6] [(.int i5)])
      refine own_step (fun _ k => XS.iload X.here hx rfl (hb hby d6_5) rfl k) ?_
      show own_Go _ _ _ _ T (mkF m 7 #[.val (.ref a1), .val (.int i1), .val (.ref a3), .val (.int i3), .val (.int p5), .val (.int i5), s6] [(.int p5), (.int i5)])
      refine own_step (fun _ k => XS.icmpYes X.here hx rfl (pc0 := 7) (pc' := 44) rfl (hb hby d6_7) rfl (flt hc).2.1 (by decide) (by decide) k) ?_
      show own_Go _ _ _ _ T (mkF m 44 #[.val (.ref a1), .val (.int i1), .val (.ref a3), .val (.int i3), .val (.int p5), .val (.int i5), s6] [])
      refine own_step (fun _ k => XS.iload X.here hx rfl (hb hby d6_44) rfl k) ?_
      show own_Go _ _ _ _ T (mkF m 46 #[.val (.ref a1), .val (.int i1), .val (.ref a3), .val (.int i3), .val (.int p5), .val (.int i5), s6] [(.int p5)])
      exact own_retI X hx hret hlk (hb hby d6_46) (own_N (by rw [e']; exact ⟨rfl, N', K', by rw [← own_cpN]; exact V'⟩) (by decide) (by decide)) 
    | succ k ih =>
      intro j i1 i3 i5 s6 T hp locs X e' N' K' V' hj h1 h3 h5 h6
      have hc : i5 < p5 := (own_lt h5 hp5).mpr (by omega)
      have Zp := Nat.le_trans Z0 K'.1
      refine own_step (fun _ k => XS.iload X.here hx rfl (hb hby d6_3) rfl k) ?_
      show own_Go _ _ _ _ T (mkF m 5 #[.val (.ref a1), .val (.int i1), .val (.ref a3), .val (.int i3), .val (.int p5), .val (.int i5), s6] [(.int i5)])
      refine own_step (fun _ k => XS.iload X.here hx rfl (hb hby d6_5) rfl k) ?_
      show own_Go _ _ _ _ T (mkF m 7 #[.val (.ref a1), .val (.int i1), .val (.ref a3), .val (.int i3), .val (.int p5), .val (.int i5), s6] [(.int p5), (.int i5)])
      refine own_step (fun _ k => XS.icmpNo X.here hx rfl (hb hby d6_7) rfl (tlt hc).2.1 k) ?_
      show own_Go _ _ _ _ T (mkF m 10 #[.val (.ref a1), .val (.int i1), .val (.ref a3), .val (.int i3), .val (.int p5), .val (.int i5), s6] [])
      refine own_step (fun _ k => XS.aloadN X.here hx rfl (hb hby d6_10) rfl rfl k) ?_
      show own_Go _ _ _ _ T (mkF m 11 #[.val (.ref a1), .val (.int i1), .val (.ref a3), .val (.int i3), .val (.int p5), .val (.int i5), s6] [(.ref a1)])
      refine own_step (fun _ k => XS.iloadN X.here hx rfl (hb hby d6_11) rfl k) ?_
      show own_Go _ _ _ _ T (mkF m 12 #[.val (.ref a1), .val (.int i1), .val (.ref a3), .val (.int i3), .val (.int p5), .val (.int i5), s6] [(.int i1), (.ref a1)])
      have Q1 := (VA.keep K' (ninS hne nin0))
      refine own_step (own_ldC X hx hZ e' Q1 (j := i1) (v := (.int (cs.getD j (0 : Int32)))) ⟨own_nn h1, (own_lt h1 hcs).mpr (by omega)⟩ (by rw [own_clamp h1]; exact own_getI cs _ j) (g := (mkF m 12 #[.val (.ref a1), .val (.int i1), .val (.ref a3), .val (.int i3), .val (.int p5), .val (.int i5), s6] [(.int i1), (.ref a1)])) rfl rfl (hb hby d6_12)) ?_
      show own_Go _ _ _ _ T (mkF m 13 #[.val (.ref a1), .val (.int i1), .val (.ref a3), .val (.int i3), .val (.int p5), .val (.int i5), s6] [(.int (cs.getD j (0 : Int32)))])
      -- general slot
      refine own_step (fun _ k => XS.istore X.here hx rfl (hb hby d6_13) rfl (l' := #[.val (.ref a1), .val (.int i1), .val (.ref a3), .val (.int i3), .val (.int p5), .val (.int i5), .val (.int (cs.getD j (0 : Int32)))]) (XS.store1 (o := s6) rfl h6 rfl) k) ?_
      show own_Go _ _ _ _ T (mkF m 15 #[.val (.ref a1), .val (.int i1), .val (.ref a3), .val (.int i3), .val (.int p5), .val (.int i5), .val (.int (cs.getD j (0 : Int32)))] [])
      refine own_step (fun _ k => XS.iload X.here hx rfl (hb hby d6_15) rfl k) ?_
      show own_Go _ _ _ _ T (mkF m 17 #[.val (.ref a1), .val (.int i1), .val (.ref a3), .val (.int i3), .val (.int p5), .val (.int i5), .val (.int (cs.getD j (0 : Int32)))] [(.int (cs.getD j (0 : Int32)))])
      refine own_step (fun _ k => XS.sipush X.here hx rfl (hb hby d6_17) k) ?_
      show own_Go _ _ _ _ T (mkF m 20 #[.val (.ref a1), .val (.int i1), .val (.ref a3), .val (.int i3), .val (.int p5), .val (.int i5), .val (.int (cs.getD j (0 : Int32)))] [(.int (255 : Int32)), (.int (cs.getD j (0 : Int32)))])
      refine own_step (fun _ k => XS.icmpYes X.here hx rfl (pc0 := 20) (pc' := 26) rfl (hb hby d6_20) rfl (flt (hlat j)).2.2.2 (by decide) (by decide) k) ?_
      show own_Go _ _ _ _ T (mkF m 26 #[.val (.ref a1), .val (.int i1), .val (.ref a3), .val (.int i3), .val (.int p5), .val (.int i5), .val (.int (cs.getD j (0 : Int32)))] [])
      refine own_step (fun _ k => XS.aloadN X.here hx rfl (hb hby d6_26) rfl rfl k) ?_
      show own_Go _ _ _ _ T (mkF m 27 #[.val (.ref a1), .val (.int i1), .val (.ref a3), .val (.int i3), .val (.int p5), .val (.int i5), .val (.int (cs.getD j (0 : Int32)))] [(.ref a3)])
      refine own_step (fun _ k => XS.iloadN X.here hx rfl (hb hby d6_27) rfl k) ?_
      show own_Go _ _ _ _ T (mkF m 28 #[.val (.ref a1), .val (.int i1), .val (.ref a3), .val (.int i3), .val (.int p5), .val (.int i5), .val (.int (cs.getD j (0 : Int32)))] [(.int i3), (.ref a3)])
      refine own_step (fun _ k => XS.iload X.here hx rfl (hb hby d6_28) rfl k) ?_
      show own_Go _ _ _ _ T (mkF m 30 #[.val (.ref a1), .val (.int i1), .val (.ref a3), .val (.int i3), .val (.int p5), .val (.int i5), .val (.int (cs.getD j (0 : Int32)))] [(.int (cs.getD j (0 : Int32))), (.int i3), (.ref a3)])
      refine own_step (fun _ k => XS.i2b X.here hx rfl (hb hby d6_30) rfl k) ?_
      show own_Go _ _ _ _ T (mkF m 31 #[.val (.ref a1), .val (.int i1), .val (.ref a3), .val (.int i3), .val (.int p5), .val (.int i5), .val (.int (cs.getD j (0 : Int32)))] [(.int ((cs.getD j (0 : Int32)).toInt8.toInt32)), (.int i3), (.ref a3)])
      obtain ⟨T2, h2, l2, X2, e2, W2, V2, st2⟩ := own_stB X hx hZ e' V' (j := i3) ⟨own_nn h3, (own_lt h3 hcs).mpr (by omega)⟩ j (own_clamp h3) (by rw [List.length_map, own_cpl cs j (by omega)]; omega) (g := (mkF m 31 #[.val (.ref a1), .val (.int i1), .val (.ref a3), .val (.int i3), .val (.int p5), .val (.int i5), .val (.int (cs.getD j (0 : Int32)))] [(.int ((cs.getD j (0 : Int32)).toInt8.toInt32)), (.int i3), (.ref a3)])) rfl rfl (hb hby d6_31)
      refine own_step st2 ?_
      have N2 := Fr.snoc X2 N' g_a3
      have Z2 := Nat.le_trans Zp (Keep.of_wr W2).1
      have KK2 := K'.wr W2 (Or.inl (List.mem_of_getElem? (i := 0) rfl))
      rw [own_bb] at V2
      rw [← List.map_set, own_cpS cs j (by omega)] at V2
      have V_a3_2 : Arv Z h2 a3 kb .byte z ((own_cp cs (j + 1)).map Value.int) (.int (0 : Int32)) := V2
      show own_Go _ _ _ _ T2 (mkF m 32 #[.val (.ref a1), .val (.int i1), .val (.ref a3), .val (.int i3), .val (.int p5), .val (.int i5), .val (.int (cs.getD j (0 : Int32)))] [])
      refine own_step (fun _ k => XS.iinc X2.here hx rfl (hb hby d6_32) rfl (l' := #[.val (.ref a1), .val (.int (i1 + (1 : Int32))), .val (.ref a3), .val (.int i3), .val (.int p5), .val (.int i5), .val (.int (cs.getD j (0 : Int32)))]) rfl k) ?_
      show own_Go _ _ _ _ T2 (mkF m 35 #[.val (.ref a1), .val (.int (i1 + (1 : Int32))), .val (.ref a3), .val (.int i3), .val (.int p5), .val (.int i5), .val (.int (cs.getD j (0 : Int32)))] [])
      refine own_step (fun _ k => XS.iinc X2.here hx rfl (hb hby d6_35) rfl (l' := #[.val (.ref a1), .val (.int (i1 + (1 : Int32))), .val (.ref a3), .val (.int (i3 + (1 : Int32))), .val (.int p5), .val (.int i5), .val (.int (cs.getD j (0 : Int32)))]) rfl k) ?_
      show own_Go _ _ _ _ T2 (mkF m 38 #[.val (.ref a1), .val (.int (i1 + (1 : Int32))), .val (.ref a3), .val (.int (i3 + (1 : Int32))), .val (.int p5), .val (.int i5), .val (.int (cs.getD j (0 : Int32)))] [])
      refine own_step (fun _ k => XS.iinc X2.here hx rfl (hb hby d6_38) rfl (l' := #[.val (.ref a1), .val (.int (i1 + (1 : Int32))), .val (.ref a3), .val (.int (i3 + (1 : Int32))), .val (.int p5), .val (.int (i5 + (1 : Int32))), .val (.int (cs.getD j (0 : Int32)))]) rfl k) ?_
      show own_Go _ _ _ _ T2 (mkF m 41 #[.val (.ref a1), .val (.int (i1 + (1 : Int32))), .val (.ref a3), .val (.int (i3 + (1 : Int32))), .val (.int p5), .val (.int (i5 + (1 : Int32))), .val (.int (cs.getD j (0 : Int32)))] [])
      refine own_step (fun _ k => XS.goto X2.here hx rfl (pc0 := 41) (pc' := 3) rfl (hb hby d6_41) (by decide) (by decide) k) ?_
      show own_Go _ _ _ _ T2 (mkF m 3 #[.val (.ref a1), .val (.int (i1 + (1 : Int32))), .val (.ref a3), .val (.int (i3 + (1 : Int32))), .val (.int p5), .val (.int (i5 + (1 : Int32))), .val (.int (cs.getD j (0 : Int32)))] [])
      exact ih (j + 1) _ _ _ _ T2 _ _ X2 e2 N2 KK2 V_a3_2 (by omega) (own_add h1 e_1 (by omega)) (own_add h3 e_1 (by omega)) (own_add h5 e_1 (by omega)) (Or.inr ⟨_, rfl, rfl⟩)
  exact loop cs.length 0 p2 p4 (0 : Int32) .unset T0 h0 [] X0 e0 N0 (Keep.refl h0 [a3]) (by rw [own_cp0]; exact VB) (by omega) hp2 hp4 rfl (Or.inl rfl)
theorem d5_0 : decode jdk_52_method_16_code 0 = .ok (.iload_n 2, 1) := by decide +kernel
theorem d5_1 : decode jdk_52_method_16_code 1 = .ok (.newarray .byte, 2) := by decide +kernel
theorem d5_3 : decode jdk_52_method_16_code 3 = .ok (.astore_n 3, 1) := by decide +kernel
theorem d5_4 : decode jdk_52_method_16_code 4 = .ok (.aload_n 0, 1) := by decide +kernel
theorem d5_5 : decode jdk_52_method_16_code 5 = .ok (.iload_n 1, 1) := by decide +kernel
theorem d5_6 : decode jdk_52_method_16_code 6 = .ok (.aload_n 3, 1) := by decide +kernel
theorem d5_7 : decode jdk_52_method_16_code 7 = .ok (.iconst 0, 1) := by decide +kernel
theorem d5_8 : decode jdk_52_method_16_code 8 = .ok (.iload_n 2, 1) := by decide +kernel
theorem d5_9 : decode jdk_52_method_16_code 9 = .ok (.invokestatic 115, 3) := by decide +kernel
theorem d5_12 : decode jdk_52_method_16_code 12 = .ok (.istore 4, 2) := by decide +kernel
theorem d5_14 : decode jdk_52_method_16_code 14 = .ok (.iload 4, 2) := by decide +kernel
theorem d5_16 : decode jdk_52_method_16_code 16 = .ok (.iload_n 2, 1) := by decide +kernel
theorem d5_17 : decode jdk_52_method_16_code 17 = .ok (.if_icmp .eq 40, 3) := by decide +kernel
theorem d5_20 : decode jdk_52_method_16_code 20 = .ok (.aload_n 0, 1) := by decide +kernel
theorem d5_21 : decode jdk_52_method_16_code 21 = .ok (.iload_n 1, 1) := by decide +kernel
theorem d5_22 : decode jdk_52_method_16_code 22 = .ok (.iload_n 2, 1) := by decide +kernel
theorem d5_23 : decode jdk_52_method_16_code 23 = .ok (.invokestatic 119, 3) := by decide +kernel
theorem d5_26 : decode jdk_52_method_16_code 26 = .ok (.astore 5, 2) := by decide +kernel
theorem d5_28 : decode jdk_52_method_16_code 28 = .ok (.aload 5, 2) := by decide +kernel
theorem d5_30 : decode jdk_52_method_16_code 30 = .ok (.iload 4, 2) := by decide +kernel
theorem d5_32 : decode jdk_52_method_16_code 32 = .ok (.invokestatic 71, 3) := by decide +kernel
theorem d5_35 : decode jdk_52_method_16_code 35 = .ok (.sipush 255, 3) := by decide +kernel
theorem d5_38 : decode jdk_52_method_16_code 38 = .ok (.if_icmp .gt 16, 3) := by decide +kernel
theorem d5_41 : decode jdk_52_method_16_code 41 = .ok (.aload 5, 2) := by decide +kernel
theorem d5_43 : decode jdk_52_method_16_code 43 = .ok (.iconst 0, 1) := by decide +kernel
theorem d5_44 : decode jdk_52_method_16_code 44 = .ok (.aload_n 3, 1) := by decide +kernel
theorem d5_45 : decode jdk_52_method_16_code 45 = .ok (.iconst 0, 1) := by decide +kernel
theorem d5_46 : decode jdk_52_method_16_code 46 = .ok (.iload_n 2, 1) := by decide +kernel
theorem d5_47 : decode jdk_52_method_16_code 47 = .ok (.invokestatic 123, 3) := by decide +kernel
theorem d5_50 : decode jdk_52_method_16_code 50 = .ok (.iload_n 2, 1) := by decide +kernel
theorem d5_51 : decode jdk_52_method_16_code 51 = .ok (.if_icmp .eq 6, 3) := by decide +kernel
theorem d5_54 : decode jdk_52_method_16_code 54 = .ok (.aload 5, 2) := by decide +kernel
theorem d5_56 : decode jdk_52_method_16_code 56 = .ok (.areturn, 1) := by decide +kernel
theorem d5_57 : decode jdk_52_method_16_code 57 = .ok (.aload_n 3, 1) := by decide +kernel
theorem d5_58 : decode jdk_52_method_16_code 58 = .ok (.areturn, 1) := by decide +kernel
theorem ef_5 (a1 : Addr) (p2 : Int32) (z : Int32) (m : MethodId) : entryFrame m #[(.ref a1), (.int p2), (.int z)] 6 = mkF m 0 #[.val (.ref a1), .val (.int p2), .val (.int z), .unset, .unset, .unset] [] := by first | (simp [entryFrame, mkF, argsToLocals, Value.category]; done) | rfl
theorem pd_5 : parseMethodDescriptor "([CI[BII)I" = some ⟨[(.array .char), .int, (.array .byte), .int, .int], some .int⟩ := by decide +kernel
set_option maxRecDepth 65536 in
set_option maxHeartbeats 40000000 in
theorem rm5 (l : Launch) (Z : State) (a0 : Array Value) (hw : ∀ d ∈ tables_1, d.before a0 Z = true) (ws : List Jvm.Cond) (a1 : Addr) (p2 : Int32) (z : Int32) (kc : ClassId) (cs : List Int32) (h0 : Heap) (n0 : Nat) (Z0 : n0 ≤ h0.size) (VA : Arv Z h0 a1 kc .char z (cs.map Value.int) (.int (0 : Int32))) (hcs : z.toInt = (cs.length : Nat)) (hcap : cs.length ≤ 8) (hlat : ∀ t, ¬ (255 : Int32) < cs.getD t (0 : Int32)) (hp2 : p2.toInt = (0 : Nat)) :
    own_Met l (⟨"java/lang/StringUTF16", "compress", "([CII)[B"⟩ : MethodName) jdk_52_method_16_code 6 (some (.array .byte)) ws ({ frames := 1, cells := 1, slots := 8, locals := 18 } : Room) #[(.ref a1), (.int p2), (.int z)] Z h0 (fun v h L => ∃ b k, v = some (.ref b) ∧ Fr n0 L ∧ Keep h0 h [] ∧ n0 ≤ b ∧ h0.size ≤ b ∧ Arv Z h b k .byte z ((cs.map (fun c => c.toInt8.toInt32)).map Value.int) (.int (0 : Int32))) := by
  refine own_body (plainFor_of_name pn_3) (ef_5 a1 p2 z) ?_
  intro p e s m below meth c T0 X0 hx hby hml0 hret hlk hnm hown hZ e0
  have hml : c.maxLocals = 6 := hml0
  have N0 := Fr.nil n0
  refine own_step (fun _ k => XS.iloadN X0.here hx rfl (hb hby d5_0) rfl k) ?_
  show own_Go _ _ _ _ T0 (mkF m 1 #[.val (.ref a1), .val (.int p2), .val (.int z), .unset, .unset, .unset] [(.int z)])
  have hzc := own_clamp hcs
  obtain ⟨T1, h1, k1, b, g1, X1, e1, E1, V1, st1⟩ := own_newA X0 hx hZ (hw _ (List.mem_of_getElem? (i := 0) rfl)) e0 (g := (mkF m 1 #[.val (.ref a1), .val (.int p2), .val (.int z), .unset, .unset, .unset] [(.int z)])) rfl (hb hby d5_1) rfl (own_nn hcs) (cap := 8) (by rw [hzc]; exact hcap) (by decide) (by decide) (by decide)
  have ne_a1_b : a1 ≠ b := Nat.ne_of_lt (Nat.lt_of_lt_of_eq VA.lt g1.symm)
  have g_b : n0 ≤ b := Nat.le_trans Z0 (Nat.le_of_eq g1.symm)
  have sz_b : h0.size ≤ b := Nat.le_trans (Keep.refl h0 []).1 (Nat.le_of_eq g1.symm)
  refine own_step st1 ?_
  have Z1 := Nat.le_trans Z0 E1.1
  have KK1 := (Keep.refl h0 []).ext E1
  have VB : Arv Z h1 b k1 .byte z ((List.replicate cs.length (0 : Int32)).map Value.int) (.int (0 : Int32)) := by
    refine Arv.pad V1 (fun i => ?_)
    rw [List.map_replicate]; show _ = (List.replicate 8 (Value.int 0)).getD i (.int 0)
    simp only [List.getD_eq_getElem?_getD, List.getElem?_replicate]; split <;> split <;> rfl
  show own_Go _ _ _ _ T1 (mkF m 3 #[.val (.ref a1), .val (.int p2), .val (.int z), .unset, .unset, .unset] [(.ref b)])
  refine own_step (fun _ k => XS.astoreN X1.here hx rfl (hb hby d5_3) rfl rfl (l' := #[.val (.ref a1), .val (.int p2), .val (.int z), .val (.ref b), .unset, .unset]) rfl k) ?_
  show own_Go _ _ _ _ T1 (mkF m 4 #[.val (.ref a1), .val (.int p2), .val (.int z), .val (.ref b), .unset, .unset] [])
  refine own_step (fun _ k => XS.aloadN X1.here hx rfl (hb hby d5_4) rfl rfl k) ?_
  show own_Go _ _ _ _ T1 (mkF m 5 #[.val (.ref a1), .val (.int p2), .val (.int z), .val (.ref b), .unset, .unset] [(.ref a1)])
  refine own_step (fun _ k => XS.iloadN X1.here hx rfl (hb hby d5_5) rfl k) ?_
  show own_Go _ _ _ _ T1 (mkF m 6 #[.val (.ref a1), .val (.int p2), .val (.int z), .val (.ref b), .unset, .unset] [(.int p2), (.ref a1)])
  refine own_step (fun _ k => XS.aloadN X1.here hx rfl (hb hby d5_6) rfl rfl k) ?_
  show own_Go _ _ _ _ T1 (mkF m 7 #[.val (.ref a1), .val (.int p2), .val (.int z), .val (.ref b), .unset, .unset] [(.ref b), (.int p2), (.ref a1)])
  refine own_step (fun _ k => XS.iconst X1.here hx rfl (hb hby d5_7) k) ?_
  show own_Go _ _ _ _ T1 (mkF m 8 #[.val (.ref a1), .val (.int p2), .val (.int z), .val (.ref b), .unset, .unset] [(.int (0 : Int32)), (.ref b), (.int p2), (.ref a1)])
  refine own_step (fun _ k => XS.iloadN X1.here hx rfl (hb hby d5_8) rfl k) ?_
  show own_Go _ _ _ _ T1 (mkF m 9 #[.val (.ref a1), .val (.int p2), .val (.int z), .val (.ref b), .unset, .unset] [(.int z), (.int (0 : Int32)), (.ref b), (.int p2), (.ref a1)])
  have Q2 := (VA.ext E1)
  refine own_callS X1 hx hZ (y := (⟨"java/lang/StringUTF16", "compress", "([CI[BII)I"⟩ : MethodName)) hown (hw _ (List.mem_of_getElem? (i := 26) rfl)) (hw _ (List.mem_of_getElem? (i := 27) rfl)) (hw _ (List.mem_of_getElem? (i := 24) rfl)) (hw _ (List.mem_of_getElem? (i := 28) rfl)) (by decide) (rm6 l Z a0 hw [] a1 p2 b (0 : Int32) z kc k1 z cs h1 n0 Z1 Q2 VB hcs hcap hlat ne_a1_b hcs hp2 rfl g_b) e1 0 (by decide) (by decide) (by decide) (by decide) (g := (mkF m 9 #[.val (.ref a1), .val (.int p2), .val (.int z), .val (.ref b), .unset, .unset] [(.int z), (.int (0 : Int32)), (.ref b), (.int p2), (.ref a1)])) rfl (by rw [hml]; rfl) [(.ref a1), (.int p2), (.ref b), (.int (0 : Int32)), (.int z)] [] pd_5 rfl rfl rfl (by show 2 * 0 + _ ≤ _; exact Nat.le_of_eq rfl) (hb hby d5_9) ?_
  rintro v3 T3 L3 X3 ⟨rfl, Nq3, K3, V3⟩
  have N3 := Fr.app N0 Nq3
  show own_Go _ _ _ _ T3 (mkF m 12 #[.val (.ref a1), .val (.int p2), .val (.int z), .val (.ref b), .unset, .unset] [(.int z)])
  have Z3 := Nat.le_trans Z1 K3.1
  have KK3 := KK1.trans K3 (allS (P := fun x => x ∈ [] ∨ h0.size ≤ x) (Or.inr sz_b) all0)
  refine own_step (fun _ k => XS.istore X3.here hx rfl (hb hby d5_12) rfl (l' := #[.val (.ref a1), .val (.int p2), .val (.int z), .val (.ref b), .val (.int z), .unset]) rfl k) ?_
  show own_Go _ _ _ _ T3 (mkF m 14 #[.val (.ref a1), .val (.int p2), .val (.int z), .val (.ref b), .val (.int z), .unset] [])
  refine own_step (fun _ k => XS.iload X3.here hx rfl (hb hby d5_14) rfl k) ?_
  show own_Go _ _ _ _ T3 (mkF m 16 #[.val (.ref a1), .val (.int p2), .val (.int z), .val (.ref b), .val (.int z), .unset] [(.int z)])
  refine own_step (fun _ k => XS.iloadN X3.here hx rfl (hb hby d5_16) rfl k) ?_
  show own_Go _ _ _ _ T3 (mkF m 17 #[.val (.ref a1), .val (.int p2), .val (.int z), .val (.ref b), .val (.int z), .unset] [(.int z), (.int z)])
  refine own_step (fun _ k => XS.icmpYes X3.here hx rfl (pc0 := 17) (pc' := 57) rfl (hb hby d5_17) rfl (teq (rfl : z = z)).1 (by decide) (by decide) k) ?_
  show own_Go _ _ _ _ T3 (mkF m 57 #[.val (.ref a1), .val (.int p2), .val (.int z), .val (.ref b), .val (.int z), .unset] [])
  refine own_step (fun _ k => XS.aloadN X3.here hx rfl (hb hby d5_57) rfl rfl k) ?_
  show own_Go _ _ _ _ T3 (mkF m 58 #[.val (.ref a1), .val (.int p2), .val (.int z), .val (.ref b), .val (.int z), .unset] [(.ref b)])
  exact own_retA X3 hx hret rfl hlk rfl rfl (hb hby d5_58) (own_N (by exact ⟨b, _, rfl, N3, KK3, g_b, sz_b, V3⟩) (by decide) (by decide)) 
theorem d7_0 : decode jdk_52_method_15_code 0 = .ok (.iload_n 1, 1) := by decide +kernel
theorem d7_1 : decode jdk_52_method_15_code 1 = .ok (.aload_n 0, 1) := by decide +kernel
theorem d7_2 : decode jdk_52_method_15_code 2 = .ok (.arraylength, 1) := by decide +kernel
theorem d7_3 : decode jdk_52_method_15_code 3 = .ok (.isub, 1) := by decide +kernel
theorem d7_4 : decode jdk_52_method_15_code 4 = .ok (.bipush 31, 2) := by decide +kernel
theorem d7_6 : decode jdk_52_method_15_code 6 = .ok (.iushr, 1) := by decide +kernel
theorem d7_7 : decode jdk_52_method_15_code 7 = .ok (.i2b, 1) := by decide +kernel
theorem d7_8 : decode jdk_52_method_15_code 8 = .ok (.ireturn, 1) := by decide +kernel
theorem ef_7 (a1 : Addr) (p2 : Int32) (m : MethodId) : entryFrame m #[(.ref a1), (.int p2)] 2 = mkF m 0 #[.val (.ref a1), .val (.int p2)] [] := by first | (simp [entryFrame, mkF, argsToLocals, Value.category]; done) | rfl
set_option maxRecDepth 65536 in
set_option maxHeartbeats 40000000 in
theorem rm7 (l : Launch) (Z : State) (a0 : Array Value) (hw : ∀ d ∈ tables_1, d.before a0 Z = true) (ws : List Jvm.Cond) (a1 : Addr) (p2 : Int32) (kb : ClassId) (vs : List Value) (h0 : Heap) (n0 : Nat) (Z0 : n0 ≤ h0.size) (VB : Arv Z h0 a1 kb .byte p2 vs (.int (0 : Int32))) :
    own_Met l (⟨"java/lang/StringUTF16", "coderFromArrayLen", "([BI)B"⟩ : MethodName) jdk_52_method_15_code 2 (some .byte) ws ({ frames := 0, cells := 0, slots := 0, locals := 0 } : Room) #[(.ref a1), (.int p2)] Z h0 (fun v h L => v = some (.int (0 : Int32)) ∧ Fr n0 L ∧ h = h0) := by
  refine own_body (plainFor_of_name pn_3) (ef_7 a1 p2) ?_
  intro p e s m below meth c T0 X0 hx hby hml0 hret hlk hnm hown hZ e0
  have hml : c.maxLocals = 2 := hml0
  have N0 := Fr.nil n0
  refine own_step (fun _ k => XS.iloadN X0.here hx rfl (hb hby d7_0) rfl k) ?_
  show own_Go _ _ _ _ T0 (mkF m 1 #[.val (.ref a1), .val (.int p2)] [(.int p2)])
  refine own_step (fun _ k => XS.aloadN X0.here hx rfl (hb hby d7_1) rfl rfl k) ?_
  show own_Go _ _ _ _ T0 (mkF m 2 #[.val (.ref a1), .val (.int p2)] [(.ref a1), (.int p2)])
  refine own_step (own_len X0 hx hZ e0 VB (g := (mkF m 2 #[.val (.ref a1), .val (.int p2)] [(.ref a1), (.int p2)])) rfl rfl (hb hby d7_2)) ?_
  show own_Go _ _ _ _ T0 (mkF m 3 #[.val (.ref a1), .val (.int p2)] [(.int p2), (.int p2)])
  refine own_step (fun _ k => XS.isub X0.here hx rfl (hb hby d7_3) rfl k) ?_
  show own_Go _ _ _ _ T0 (mkF m 4 #[.val (.ref a1), .val (.int p2)] [(.int (p2 - p2))])
  rw [Int32.sub_self]
  show own_Go _ _ _ _ T0 (mkF m 4 #[.val (.ref a1), .val (.int p2)] [(.int (0 : Int32))])
  refine own_step (fun _ k => XS.bipush X0.here hx rfl (hb hby d7_4) k) ?_
  show own_Go _ _ _ _ T0 (mkF m 6 #[.val (.ref a1), .val (.int p2)] [(.int (31 : Int32)), (.int (0 : Int32))])
  refine own_step (fun _ k => XS.iushr X0.here hx rfl (hb hby d7_6) rfl k) ?_
  show own_Go _ _ _ _ T0 (mkF m 7 #[.val (.ref a1), .val (.int p2)] [(.int (((0 : Int32).toUInt32 >>> ((31 : Int32) &&& 31).toUInt32).toInt32))])
  refine own_step (fun _ k => XS.i2b X0.here hx rfl (hb hby d7_7) rfl k) ?_
  show own_Go _ _ _ _ T0 (mkF m 8 #[.val (.ref a1), .val (.int p2)] [(.int ((((0 : Int32).toUInt32 >>> ((31 : Int32) &&& 31).toUInt32).toInt32).toInt8.toInt32))])
  show own_Go _ _ _ _ T0 (mkF m 8 #[.val (.ref a1), .val (.int p2)] [(.int (0 : Int32))])
  exact own_retN X0 hx (t := .byte) hret (by simp) hlk (hb hby d7_8) rfl (own_N ⟨rfl, N0, e0⟩ (by decide) (by decide)) 
theorem d3_0 : decode jdk_42_method_149_code 0 = .ok (.aload_n 0, 1) := by decide +kernel
theorem d3_1 : decode jdk_42_method_149_code 1 = .ok (.invokespecial 1, 3) := by decide +kernel
theorem d3_4 : decode jdk_42_method_149_code 4 = .ok (.iload_n 3, 1) := by decide +kernel
theorem d3_5 : decode jdk_42_method_149_code 5 = .ok (.ifCond .ne 22, 3) := by decide +kernel
theorem d3_8 : decode jdk_42_method_149_code 8 = .ok (.aload_n 0, 1) := by decide +kernel
theorem d3_9 : decode jdk_42_method_149_code 9 = .ok (.ldc 7, 2) := by decide +kernel
theorem d3_11 : decode jdk_42_method_149_code 11 = .ok (.getfield 9, 3) := by decide +kernel
theorem d3_14 : decode jdk_42_method_149_code 14 = .ok (.putfield 9, 3) := by decide +kernel
theorem d3_17 : decode jdk_42_method_149_code 17 = .ok (.aload_n 0, 1) := by decide +kernel
theorem d3_18 : decode jdk_42_method_149_code 18 = .ok (.ldc 7, 2) := by decide +kernel
theorem d3_20 : decode jdk_42_method_149_code 20 = .ok (.getfield 15, 3) := by decide +kernel
theorem d3_23 : decode jdk_42_method_149_code 23 = .ok (.putfield 15, 3) := by decide +kernel
theorem d3_26 : decode jdk_42_method_149_code 26 = .ok (.return_, 1) := by decide +kernel
theorem d3_27 : decode jdk_42_method_149_code 27 = .ok (.getstatic 38, 3) := by decide +kernel
theorem d3_30 : decode jdk_42_method_149_code 30 = .ok (.ifCond .eq 28, 3) := by decide +kernel
theorem d3_33 : decode jdk_42_method_149_code 33 = .ok (.aload_n 1, 1) := by decide +kernel
theorem d3_34 : decode jdk_42_method_149_code 34 = .ok (.iload_n 2, 1) := by decide +kernel
theorem d3_35 : decode jdk_42_method_149_code 35 = .ok (.iload_n 3, 1) := by decide +kernel
theorem d3_36 : decode jdk_42_method_149_code 36 = .ok (.invokestatic 177, 3) := by decide +kernel
theorem d3_39 : decode jdk_42_method_149_code 39 = .ok (.astore 5, 2) := by decide +kernel
theorem d3_41 : decode jdk_42_method_149_code 41 = .ok (.aload_n 0, 1) := by decide +kernel
theorem d3_42 : decode jdk_42_method_149_code 42 = .ok (.aload 5, 2) := by decide +kernel
theorem d3_44 : decode jdk_42_method_149_code 44 = .ok (.iload_n 3, 1) := by decide +kernel
theorem d3_45 : decode jdk_42_method_149_code 45 = .ok (.invokestatic 47, 3) := by decide +kernel
theorem d3_48 : decode jdk_42_method_149_code 48 = .ok (.putfield 15, 3) := by decide +kernel
theorem d3_51 : decode jdk_42_method_149_code 51 = .ok (.aload_n 0, 1) := by decide +kernel
theorem d3_52 : decode jdk_42_method_149_code 52 = .ok (.aload 5, 2) := by decide +kernel
theorem d3_54 : decode jdk_42_method_149_code 54 = .ok (.putfield 9, 3) := by decide +kernel
theorem d3_57 : decode jdk_42_method_149_code 57 = .ok (.return_, 1) := by decide +kernel
theorem d3_58 : decode jdk_42_method_149_code 58 = .ok (.aload_n 0, 1) := by decide +kernel
theorem d3_59 : decode jdk_42_method_149_code 59 = .ok (.iconst 1, 1) := by decide +kernel
theorem d3_60 : decode jdk_42_method_149_code 60 = .ok (.putfield 15, 3) := by decide +kernel
theorem d3_63 : decode jdk_42_method_149_code 63 = .ok (.aload_n 0, 1) := by decide +kernel
theorem d3_64 : decode jdk_42_method_149_code 64 = .ok (.aload_n 1, 1) := by decide +kernel
theorem d3_65 : decode jdk_42_method_149_code 65 = .ok (.iload_n 2, 1) := by decide +kernel
theorem d3_66 : decode jdk_42_method_149_code 66 = .ok (.iload_n 3, 1) := by decide +kernel
theorem d3_67 : decode jdk_42_method_149_code 67 = .ok (.invokestatic 180, 3) := by decide +kernel
theorem d3_70 : decode jdk_42_method_149_code 70 = .ok (.putfield 9, 3) := by decide +kernel
theorem d3_73 : decode jdk_42_method_149_code 73 = .ok (.return_, 1) := by decide +kernel
theorem ef_3 (a1 : Addr) (a2 : Addr) (p3 : Int32) (z : Int32) (m : MethodId) : entryFrame m #[(.ref a1), (.ref a2), (.int p3), (.int z), .null] 6 = mkF m 0 #[.val (.ref a1), .val (.ref a2), .val (.int p3), .val (.int z), .val .null, .unset] [] := by first | (simp [entryFrame, mkF, argsToLocals, Value.category]; done) | rfl
theorem pd_6 : parseMethodDescriptor "([CII)[B" = some ⟨[(.array .char), .int, .int], some (.array .byte)⟩ := by decide +kernel
theorem pd_7 : parseMethodDescriptor "([BI)B" = some ⟨[(.array .byte), .int], some .byte⟩ := by decide +kernel
set_option maxRecDepth 65536 in
set_option maxHeartbeats 40000000 in
theorem rm3 (l : Launch) (Z : State) (a0 : Array Value) (hw : ∀ d ∈ tables_1, d.before a0 Z = true) (ws : List Jvm.Cond) (a1 : Addr) (a2 : Addr) (p3 : Int32) (z : Int32) (kc : ClassId) (cz : Int32) (cs : List Int32) (h0 : Heap) (n0 : Nat) (Z0 : n0 ≤ h0.size) (hEL : EW Z a0 own_EL) (O0 : Old Z n0 h0) (SC : Sta Z Z.heap "java/lang/String" "COMPACT_STRINGS" "Z" (.int cz)) (hcz : ¬ cz = (0 : Int32)) (E_a1 : Exa Z h0 a1 "java/lang/String") (FC_a1 : Fld Z h0 a1 "java/lang/String" "coder" "B" (.int (0 : Int32))) (FV_a1 : Fld Z h0 a1 "java/lang/String" "value" "[B" .null) (VA : Arv Z h0 a2 kc .char z (cs.map Value.int) (.int (0 : Int32))) (hcs : z.toInt = (cs.length : Nat)) (hcap : cs.length ≤ 8) (hlat : ∀ t, ¬ (255 : Int32) < cs.getD t (0 : Int32)) (g_a1 : n0 ≤ a1) (hp3 : p3 = (0 : Int32)) :
    own_MetW l (⟨"java/lang/String", "<init>", "([CIILjava/lang/Void;)V"⟩ : MethodName) jdk_42_method_149_code 6 none ws ({ frames := 2, cells := 4, slots := 8, locals := 35 } : Room) #[(.ref a1), (.ref a2), (.int p3), (.int z), .null] Z own_EL h0 (fun v h L => ∃ b k, v = none ∧ Fr n0 L ∧ Keep h0 h [a1] ∧ (Exa Z h a1 "java/lang/String" ∧ Fld Z h a1 "java/lang/String" "coder" "B" (.int (0 : Int32)) ∧ Fld Z h a1 "java/lang/String" "value" "[B" (.ref b)) ∧ Arv Z h b k .byte z ((cs.map (fun c => c.toInt8.toInt32)).map Value.int) (.int (0 : Int32))) := by
  refine own_bodyW (plainFor_of_name pn_0) (ef_3 a1 a2 p3 z) ?_
  intro p e s m below meth c T0 X0 hx hby hml0 hret hlk hnm hown hZ e0 eS H0 hS0
  have C0 := CHr.refl H0
  have hml : c.maxLocals = 6 := hml0
  have N0 := Fr.nil n0
  have ne_a1_a2 : a1 ≠ a2 := Exa.neArv E_a1 VA (hw _ (List.mem_of_getElem? (i := 9) rfl))
  have Sf0 := own_safe (EL := own_EL) hZ.alike E_a1 FV_a1
  refine own_step (fun _ k => XS.aloadN X0.here hx rfl (hb hby d3_0) rfl rfl k) ?_
  show own_Go _ _ _ _ T0 (mkF m 1 #[.val (.ref a1), .val (.ref a2), .val (.int p3), .val (.int z), .val .null, .unset] [(.ref a1)])
  obtain ⟨T1, X1, e1, st1⟩ := initO X0 hx hZ hown (hw _ (List.mem_of_getElem? (i := 18) rfl)) (hw _ (List.mem_of_getElem? (i := 19) rfl)) (hw _ (List.mem_of_getElem? (i := 20) rfl)) e0 (g := (mkF m 1 #[.val (.ref a1), .val (.ref a2), .val (.int p3), .val (.int z), .val .null, .unset] [(.ref a1)])) rfl (by rw [hml]; rfl) rfl (hb hby d3_1) (by decide) (W := 0) (by show 2 * 0 + _ ≤ _; exact Nat.le_of_eq rfl) (by decide)
  refine own_step st1 ?_
  show own_Go _ _ _ _ T1 (mkF m 4 #[.val (.ref a1), .val (.ref a2), .val (.int p3), .val (.int z), .val .null, .unset] [])
  refine own_step (fun _ k => XS.iloadN X1.here hx rfl (hb hby d3_4) rfl k) ?_
  show own_Go _ _ _ _ T1 (mkF m 5 #[.val (.ref a1), .val (.ref a2), .val (.int p3), .val (.int z), .val .null, .unset] [(.int z)])
  by_cases hz0 : z = (0 : Int32)
  · refine own_step (fun _ k => XS.ifNo X1.here hx rfl (hb hby d3_5) rfl ((if0 _ _).trans (teq hz0).2) k) ?_
    show own_Go _ _ _ _ T1 (mkF m 8 #[.val (.ref a1), .val (.ref a2), .val (.int p3), .val (.int z), .val .null, .unset] [])
    have hnil : cs = [] := List.eq_nil_of_length_eq_zero (by rw [hz0] at hcs; have e0 : (0 : Int32).toInt = 0 := rfl; omega)
    subst hnil
    refine own_step (fun _ k => XS.aloadN X1.here hx rfl (hb hby d3_8) rfl rfl k) ?_
    show own_Go _ _ _ _ T1 (mkF m 9 #[.val (.ref a1), .val (.ref a2), .val (.int p3), .val (.int z), .val .null, .unset] [(.ref a1)])
    obtain ⟨lit2, T2, h2, k12, lib2, kd2, X2, e2, E2, hS2, hk2, hZ, hown, EX2, FC2, FV2, V2, lt12, lt22, D2, Ld2, sf2, st2⟩ := ldcCH X1 hx hZ hown (hw _ (List.mem_of_getElem? (i := 75) rfl)) (own_wS hw) e1 hS0 (Nat.le_refl _) hEL (List.mem_of_getElem? (i := 0) rfl) C0.1 (vs := []) (z := (0 : Int32)) ⟨fun c hc => absurd hc (by simp), rfl⟩ (by decide) rfl (g := (mkF m 9 #[.val (.ref a1), .val (.ref a2), .val (.int p3), .val (.int z), .val .null, .unset] [(.ref a1)])) rfl (hb hby d3_9) (n := 0) (by simp) (by decide) (by decide) (by decide)
    refine own_step st2 ?_
    have Z2 := Nat.le_trans Z0 E2.1
    have KK2 := (Keep.refl h0 [a1]).ext E2
    have Sf_a1_2 := CHr.safe D2 E_a1.lt Sf0
    have C2 := C0.trans D2
    show own_Go _ _ _ _ T2 (mkF m 11 #[.val (.ref a1), .val (.ref a2), .val (.int p3), .val (.int z), .val .null, .unset] [(.ref lit2), (.ref a1)])
    obtain ⟨T3, X3, e3, st3⟩ := getF X2 hx hZ hown (host := "") (Or.inl (hw _ (List.mem_of_getElem? (i := 34) rfl))) Via.refl e2 FV2 (g := (mkF m 11 #[.val (.ref a1), .val (.ref a2), .val (.int p3), .val (.int z), .val .null, .unset] [(.ref lit2), (.ref a1)])) rfl rfl (hb hby d3_11)
    refine own_step st3 ?_
    show own_Go _ _ _ _ T3 (mkF m 14 #[.val (.ref a1), .val (.ref a2), .val (.int p3), .val (.int z), .val .null, .unset] [(.ref lib2), (.ref a1)])
    have Q4 := (FV_a1.ext E2)
    have Q5 := (E_a1.ext E2)
    obtain ⟨T6, h6, X6, e6, W6, st6⟩ := putF X3 hx hZ hown (host := "") (Or.inl (hw _ (List.mem_of_getElem? (i := 34) rfl))) Via.refl e3 Q4 Q5 (Or.inr ⟨(hw _ (List.mem_of_getElem? (i := 35) rfl)), rfl, hnm⟩) (hw _ (List.mem_of_getElem? (i := 9) rfl)) (ty := (.array .byte)) (by decide) rfl rfl (g := (mkF m 14 #[.val (.ref a1), .val (.ref a2), .val (.int p3), .val (.int z), .val .null, .unset] [(.ref lib2), (.ref a1)])) rfl rfl (hb hby d3_14)
    refine own_step st6 ?_
    have N6 := Fr.snoc X6 N0 g_a1
    have F6 := Q4.same W6
    have Dc6 := (CHr.wr W6 Sf_a1_2 C2.1)
    have Sf_a1_6 := CHr.safe Dc6 Q5.lt Sf_a1_2
    have C6 := C2.trans Dc6
    have hk6 := Nat.le_trans hk2 Dc6.2.1
    have Z6 := Nat.le_trans Z2 (Keep.of_wr W6).1
    have KK6 := KK2.wr W6 (Or.inl (List.mem_of_getElem? (i := 0) rfl))
    show own_Go _ _ _ _ T6 (mkF m 17 #[.val (.ref a1), .val (.ref a2), .val (.int p3), .val (.int z), .val .null, .unset] [])
    refine own_step (fun _ k => XS.aloadN X6.here hx rfl (hb hby d3_17) rfl rfl k) ?_
    show own_Go _ _ _ _ T6 (mkF m 18 #[.val (.ref a1), .val (.ref a2), .val (.int p3), .val (.int z), .val .null, .unset] [(.ref a1)])
    obtain ⟨lit7, T7, h7, k17, lib7, kd7, X7, e7, E7, hS7, hk7, hZ, hown, EX7, FC7, FV7, V7, lt17, lt27, D7, Ld7, sf7, st7⟩ := ldcCH X6 hx hZ hown (hw _ (List.mem_of_getElem? (i := 75) rfl)) (own_wS hw) e6 hS2 hk6 hEL (List.mem_of_getElem? (i := 0) rfl) C6.1 (vs := []) (z := (0 : Int32)) ⟨fun c hc => absurd hc (by simp), rfl⟩ (by decide) rfl (g := (mkF m 18 #[.val (.ref a1), .val (.ref a2), .val (.int p3), .val (.int z), .val .null, .unset] [(.ref a1)])) rfl (hb hby d3_18) (n := 0) (by simp) (by decide) (by decide) (by decide)
    refine own_step st7 ?_
    have Q8 := (Q5.wr W6)
    have Z7 := Nat.le_trans Z6 E7.1
    have KK7 := KK6.ext E7
    have Sf_a1_7 := CHr.safe D7 Q8.lt Sf_a1_6
    have C7 := C6.trans D7
    show own_Go _ _ _ _ T7 (mkF m 20 #[.val (.ref a1), .val (.ref a2), .val (.int p3), .val (.int z), .val .null, .unset] [(.ref lit7), (.ref a1)])
    obtain ⟨T9, X9, e9, st9⟩ := getF X7 hx hZ hown (host := "") (Or.inl (hw _ (List.mem_of_getElem? (i := 32) rfl))) Via.refl e7 FC7 (g := (mkF m 20 #[.val (.ref a1), .val (.ref a2), .val (.int p3), .val (.int z), .val .null, .unset] [(.ref lit7), (.ref a1)])) rfl rfl (hb hby d3_20)
    refine own_step st9 ?_
    show own_Go _ _ _ _ T9 (mkF m 23 #[.val (.ref a1), .val (.ref a2), .val (.int p3), .val (.int z), .val .null, .unset] [(.int (0 : Int32)), (.ref a1)])
    have Q10 := (((FC_a1.ext E2).other W6 (Or.inr (slot_ne (Or.inr (hw _ (List.mem_of_getElem? (i := 33) rfl))) (Or.inr (hw _ (List.mem_of_getElem? (i := 35) rfl))) (by decide) (t := .byte) (t' := (.array .byte)) (by decide) (by decide)))).ext E7)
    have Q11 := (Q8.ext E7)
    obtain ⟨T12, h12, X12, e12, W12, st12⟩ := putFN X9 hx hZ hown (hw _ (List.mem_of_getElem? (i := 32) rfl)) Via.refl e9 Q10 Q11 (Or.inr ⟨(hw _ (List.mem_of_getElem? (i := 33) rfl)), rfl, hnm⟩) (hw _ (List.mem_of_getElem? (i := 9) rfl)) (ty := .byte) (v' := (.int (0 : Int32))) (by decide) rfl (fits_nar_byte (0 : Int32)) (g := (mkF m 23 #[.val (.ref a1), .val (.ref a2), .val (.int p3), .val (.int z), .val .null, .unset] [(.int (0 : Int32)), (.ref a1)])) rfl rfl (hb hby d3_23)
    refine own_step st12 ?_
    have N12 := Fr.snoc X12 N6 g_a1
    have F12 := Q10.same W12
    have Dc12 := (CHr.wr W12 Sf_a1_7 C7.1)
    have Sf_a1_12 := CHr.safe Dc12 Q11.lt Sf_a1_7
    have C12 := C7.trans Dc12
    have hk12 := Nat.le_trans hk7 Dc12.2.1
    have Z12 := Nat.le_trans Z7 (Keep.of_wr W12).1
    have KK12 := KK7.wr W12 (Or.inl (List.mem_of_getElem? (i := 0) rfl))
    show own_Go _ _ _ _ T12 (mkF m 26 #[.val (.ref a1), .val (.ref a2), .val (.int p3), .val (.int z), .val .null, .unset] [])
    have Q13 := (Q11.wr W12)
    have Q14 := ((F6.ext E7).other W12 (Or.inr (slot_ne (Or.inr (hw _ (List.mem_of_getElem? (i := 35) rfl))) (Or.inr (hw _ (List.mem_of_getElem? (i := 33) rfl))) (by decide) (t := (.array .byte)) (t' := .byte) (by decide) (by decide))))
    have Q15 := (((V2.other W6 (Ne.symm (sf2 a1 Sf_a1_2).2)).ext E7).other W12 (Ne.symm (sf2 a1 Sf_a1_2).2))
    exact own_retV X12 hx hret hlk (hb hby d3_26) (own_W X12 hS7 hk12 e12 eS hZ hEL C12 (by rw [e12, hz0]; exact ⟨lib2, _, rfl, N12, KK12, ⟨Q13, F12, Q14⟩, Q15⟩) (by decide) (by decide)) 
  · refine own_step (fun _ k => XS.ifYes X1.here hx rfl (pc0 := 5) (pc' := 27) rfl (hb hby d3_5) rfl ((if0 _ _).trans (feq hz0).2) (by decide) (by decide) k) ?_
    show own_Go _ _ _ _ T1 (mkF m 27 #[.val (.ref a1), .val (.ref a2), .val (.int p3), .val (.int z), .val .null, .unset] [])
    obtain ⟨T16, X16, e16, st16⟩ := getS2 X1 hx hZ hown (host := "") (Or.inl (hw _ (List.mem_of_getElem? (i := 21) rfl))) Via.refl e1 (SC.ext O0.2) (g := (mkF m 27 #[.val (.ref a1), .val (.ref a2), .val (.int p3), .val (.int z), .val .null, .unset] [])) rfl (hb hby d3_27)
    refine own_step st16 ?_
    show own_Go _ _ _ _ T16 (mkF m 30 #[.val (.ref a1), .val (.ref a2), .val (.int p3), .val (.int z), .val .null, .unset] [(.int cz)])
    refine own_step (fun _ k => XS.ifNo X16.here hx rfl (hb hby d3_30) rfl ((if0 _ _).trans (feq hcz).1) k) ?_
    show own_Go _ _ _ _ T16 (mkF m 33 #[.val (.ref a1), .val (.ref a2), .val (.int p3), .val (.int z), .val .null, .unset] [])
    refine own_step (fun _ k => XS.aloadN X16.here hx rfl (hb hby d3_33) rfl rfl k) ?_
    show own_Go _ _ _ _ T16 (mkF m 34 #[.val (.ref a1), .val (.ref a2), .val (.int p3), .val (.int z), .val .null, .unset] [(.ref a2)])
    refine own_step (fun _ k => XS.iloadN X16.here hx rfl (hb hby d3_34) rfl k) ?_
    show own_Go _ _ _ _ T16 (mkF m 35 #[.val (.ref a1), .val (.ref a2), .val (.int p3), .val (.int z), .val .null, .unset] [(.int p3), (.ref a2)])
    refine own_step (fun _ k => XS.iloadN X16.here hx rfl (hb hby d3_35) rfl k) ?_
    show own_Go _ _ _ _ T16 (mkF m 36 #[.val (.ref a1), .val (.ref a2), .val (.int p3), .val (.int z), .val .null, .unset] [(.int z), (.int p3), (.ref a2)])
    refine own_callS X16 hx hZ (y := (⟨"java/lang/StringUTF16", "compress", "([CII)[B"⟩ : MethodName)) hown (hw _ (List.mem_of_getElem? (i := 22) rfl)) (hw _ (List.mem_of_getElem? (i := 23) rfl)) (hw _ (List.mem_of_getElem? (i := 24) rfl)) (hw _ (List.mem_of_getElem? (i := 25) rfl)) (by decide) (rm5 l Z a0 hw [] a2 p3 z kc cs h0 n0 Z0 VA hcs hcap hlat (by rw [hp3]; rfl)) e16 0 (by decide) (by decide) (by decide) (by decide) (g := (mkF m 36 #[.val (.ref a1), .val (.ref a2), .val (.int p3), .val (.int z), .val .null, .unset] [(.int z), (.int p3), (.ref a2)])) rfl (by rw [hml]; rfl) [(.ref a2), (.int p3), (.int z)] [] pd_6 rfl rfl rfl (by show 2 * 0 + _ ≤ _; exact Nat.le_of_eq rfl) (hb hby d3_36) ?_
    rintro v17 T17 L17 X17 ⟨bv, kv, rfl, Nq17, K17, g_bv, sb17, V17⟩
    have N17 := Fr.app N0 Nq17
    show own_Go _ _ _ _ T17 (mkF m 39 #[.val (.ref a1), .val (.ref a2), .val (.int p3), .val (.int z), .val .null, .unset] [(.ref bv)])
    have ne_a1_bv : a1 ≠ bv := Nat.ne_of_lt (Nat.lt_of_lt_of_le E_a1.lt sb17)
    have Dc17 := (CHr.keep K17 sf0 C0.1)
    have Sf_a1_17 := CHr.safe Dc17 E_a1.lt Sf0
    have C17 := C0.trans Dc17
    have hk17 := Nat.le_trans (Nat.le_refl _) Dc17.2.1
    have Z17 := Nat.le_trans Z0 K17.1
    have KK17 := (Keep.refl h0 [a1]).trans K17 all0
    refine own_step (fun _ k => XS.astore X17.here hx rfl (hb hby d3_39) rfl rfl (l' := #[.val (.ref a1), .val (.ref a2), .val (.int p3), .val (.int z), .val .null, .val (.ref bv)]) rfl k) ?_
    show own_Go _ _ _ _ T17 (mkF m 41 #[.val (.ref a1), .val (.ref a2), .val (.int p3), .val (.int z), .val .null, .val (.ref bv)] [])
    refine own_step (fun _ k => XS.aloadN X17.here hx rfl (hb hby d3_41) rfl rfl k) ?_
    show own_Go _ _ _ _ T17 (mkF m 42 #[.val (.ref a1), .val (.ref a2), .val (.int p3), .val (.int z), .val .null, .val (.ref bv)] [(.ref a1)])
    refine own_step (fun _ k => XS.aload X17.here hx rfl (hb hby d3_42) rfl rfl k) ?_
    show own_Go _ _ _ _ T17 (mkF m 44 #[.val (.ref a1), .val (.ref a2), .val (.int p3), .val (.int z), .val .null, .val (.ref bv)] [(.ref bv), (.ref a1)])
    refine own_step (fun _ k => XS.iloadN X17.here hx rfl (hb hby d3_44) rfl k) ?_
    show own_Go _ _ _ _ T17 (mkF m 45 #[.val (.ref a1), .val (.ref a2), .val (.int p3), .val (.int z), .val .null, .val (.ref bv)] [(.int z), (.ref bv), (.ref a1)])
    refine own_callS X17 hx hZ (y := (⟨"java/lang/StringUTF16", "coderFromArrayLen", "([BI)B"⟩ : MethodName)) hown (hw _ (List.mem_of_getElem? (i := 29) rfl)) (hw _ (List.mem_of_getElem? (i := 30) rfl)) (hw _ (List.mem_of_getElem? (i := 24) rfl)) (hw _ (List.mem_of_getElem? (i := 31) rfl)) (by decide) (rm7 l Z a0 hw [] bv z kv _ T17.heap n0 Z17 V17) rfl 1 (by decide) (by decide) (by decide) (by decide) (g := (mkF m 45 #[.val (.ref a1), .val (.ref a2), .val (.int p3), .val (.int z), .val .null, .val (.ref bv)] [(.int z), (.ref bv), (.ref a1)])) rfl (by rw [hml]; rfl) [(.ref bv), (.int z)] [(.ref a1)] pd_7 rfl rfl rfl (by show 2 * 0 + _ ≤ _; exact Nat.le_of_eq rfl) (hb hby d3_45) ?_
    rintro v18 T18 L18 X18 ⟨rfl, Nq18, e18⟩
    have N18 := Fr.app N17 Nq18
    show own_Go _ _ _ _ T18 (mkF m 48 #[.val (.ref a1), .val (.ref a2), .val (.int p3), .val (.int z), .val .null, .val (.ref bv)] [(.int (0 : Int32)), (.ref a1)])
    have Q19 := (FC_a1.keep K17 nin0)
    have Q20 := (E_a1.keep K17)
    obtain ⟨T21, h21, X21, e21, W21, st21⟩ := putFN X18 hx hZ hown (hw _ (List.mem_of_getElem? (i := 32) rfl)) Via.refl e18 Q19 Q20 (Or.inr ⟨(hw _ (List.mem_of_getElem? (i := 33) rfl)), rfl, hnm⟩) (hw _ (List.mem_of_getElem? (i := 9) rfl)) (ty := .byte) (v' := (.int (0 : Int32))) (by decide) rfl (fits_nar_byte (0 : Int32)) (g := (mkF m 48 #[.val (.ref a1), .val (.ref a2), .val (.int p3), .val (.int z), .val .null, .val (.ref bv)] [(.int (0 : Int32)), (.ref a1)])) rfl rfl (hb hby d3_48)
    refine own_step st21 ?_
    have N21 := Fr.snoc X21 N18 g_a1
    have F21 := Q19.same W21
    have Dc21 := (CHr.wr W21 Sf_a1_17 C17.1)
    have Sf_a1_21 := CHr.safe Dc21 Q20.lt Sf_a1_17
    have C21 := C17.trans Dc21
    have hk21 := Nat.le_trans hk17 Dc21.2.1
    have Z21 := Nat.le_trans Z17 (Keep.of_wr W21).1
    have KK21 := KK17.wr W21 (Or.inl (List.mem_of_getElem? (i := 0) rfl))
    show own_Go _ _ _ _ T21 (mkF m 51 #[.val (.ref a1), .val (.ref a2), .val (.int p3), .val (.int z), .val .null, .val (.ref bv)] [])
    refine own_step (fun _ k => XS.aloadN X21.here hx rfl (hb hby d3_51) rfl rfl k) ?_
    show own_Go _ _ _ _ T21 (mkF m 52 #[.val (.ref a1), .val (.ref a2), .val (.int p3), .val (.int z), .val .null, .val (.ref bv)] [(.ref a1)])
    refine own_step (fun _ k => XS.aload X21.here hx rfl (hb hby d3_52) rfl rfl k) ?_
    show own_Go _ _ _ _ T21 (mkF m 54 #[.val (.ref a1), .val (.ref a2), .val (.int p3), .val (.int z), .val .null, .val (.ref bv)] [(.ref bv), (.ref a1)])
    have Q22 := ((FV_a1.keep K17 nin0).other W21 (Or.inr (slot_ne (Or.inr (hw _ (List.mem_of_getElem? (i := 35) rfl))) (Or.inr (hw _ (List.mem_of_getElem? (i := 33) rfl))) (by decide) (t := (.array .byte)) (t' := .byte) (by decide) (by decide))))
    have Q23 := (Q20.wr W21)
    obtain ⟨T24, h24, X24, e24, W24, st24⟩ := putF X21 hx hZ hown (host := "") (Or.inl (hw _ (List.mem_of_getElem? (i := 34) rfl))) Via.refl e21 Q22 Q23 (Or.inr ⟨(hw _ (List.mem_of_getElem? (i := 35) rfl)), rfl, hnm⟩) (hw _ (List.mem_of_getElem? (i := 9) rfl)) (ty := (.array .byte)) (by decide) rfl rfl (g := (mkF m 54 #[.val (.ref a1), .val (.ref a2), .val (.int p3), .val (.int z), .val .null, .val (.ref bv)] [(.ref bv), (.ref a1)])) rfl rfl (hb hby d3_54)
    refine own_step st24 ?_
    have N24 := Fr.snoc X24 N21 g_a1
    have F24 := Q22.same W24
    have Dc24 := (CHr.wr W24 Sf_a1_21 C21.1)
    have Sf_a1_24 := CHr.safe Dc24 Q23.lt Sf_a1_21
    have C24 := C21.trans Dc24
    have hk24 := Nat.le_trans hk21 Dc24.2.1
    have Z24 := Nat.le_trans Z21 (Keep.of_wr W24).1
    have KK24 := KK21.wr W24 (Or.inl (List.mem_of_getElem? (i := 0) rfl))
    show own_Go _ _ _ _ T24 (mkF m 57 #[.val (.ref a1), .val (.ref a2), .val (.int p3), .val (.int z), .val .null, .val (.ref bv)] [])
    have Q25 := (Q23.wr W24)
    have Q26 := (F21.other W24 (Or.inr (slot_ne (Or.inr (hw _ (List.mem_of_getElem? (i := 33) rfl))) (Or.inr (hw _ (List.mem_of_getElem? (i := 35) rfl))) (by decide) (t := .byte) (t' := (.array .byte)) (by decide) (by decide))))
    have Q27 := ((V17.other W21 (Ne.symm ne_a1_bv)).other W24 (Ne.symm ne_a1_bv))
    exact own_retV X24 hx hret hlk (hb hby d3_57) (own_W X24 hS0 hk24 e24 eS hZ hEL C24 (by rw [e24]; exact ⟨bv, kv, rfl, N24, KK24, ⟨Q25, Q26, F24⟩, Q27⟩) (by decide) (by decide)) 
theorem d2_0 : decode jdk_42_method_3_code 0 = .ok (.aload_n 0, 1) := by decide +kernel
theorem d2_1 : decode jdk_42_method_3_code 1 = .ok (.aload_n 1, 1) := by decide +kernel
theorem d2_2 : decode jdk_42_method_3_code 2 = .ok (.iconst 0, 1) := by decide +kernel
theorem d2_3 : decode jdk_42_method_3_code 3 = .ok (.aload_n 1, 1) := by decide +kernel
theorem d2_4 : decode jdk_42_method_3_code 4 = .ok (.arraylength, 1) := by decide +kernel
theorem d2_5 : decode jdk_42_method_3_code 5 = .ok (.aconst_null, 1) := by decide +kernel
theorem d2_6 : decode jdk_42_method_3_code 6 = .ok (.invokespecial 27, 3) := by decide +kernel
theorem d2_9 : decode jdk_42_method_3_code 9 = .ok (.return_, 1) := by decide +kernel
theorem ef_2 (a1 : Addr) (a2 : Addr) (m : MethodId) : entryFrame m #[(.ref a1), (.ref a2)] 2 = mkF m 0 #[.val (.ref a1), .val (.ref a2)] [] := by first | (simp [entryFrame, mkF, argsToLocals, Value.category]; done) | rfl
theorem pd_8 : parseMethodDescriptor "([CIILjava/lang/Void;)V" = some ⟨[(.array .char), .int, .int, (.object "java/lang/Void")], none⟩ := by decide +kernel
set_option maxRecDepth 65536 in
set_option maxHeartbeats 40000000 in
theorem rm2 (l : Launch) (Z : State) (a0 : Array Value) (hw : ∀ d ∈ tables_1, d.before a0 Z = true) (ws : List Jvm.Cond) (a1 : Addr) (a2 : Addr) (kc : ClassId) (cz : Int32) (z : Int32) (cs : List Int32) (h0 : Heap) (n0 : Nat) (Z0 : n0 ≤ h0.size) (hEL : EW Z a0 own_EL) (O0 : Old Z n0 h0) (SC : Sta Z Z.heap "java/lang/String" "COMPACT_STRINGS" "Z" (.int cz)) (hcz : ¬ cz = (0 : Int32)) (E_a1 : Exa Z h0 a1 "java/lang/String") (FC_a1 : Fld Z h0 a1 "java/lang/String" "coder" "B" (.int (0 : Int32))) (FV_a1 : Fld Z h0 a1 "java/lang/String" "value" "[B" .null) (VA : Arv Z h0 a2 kc .char z (cs.map Value.int) (.int (0 : Int32))) (hcs : z.toInt = (cs.length : Nat)) (hcap : cs.length ≤ 8) (hlat : ∀ t, ¬ (255 : Int32) < cs.getD t (0 : Int32)) (g_a1 : n0 ≤ a1) :
    own_MetW l (⟨"java/lang/String", "<init>", "([C)V"⟩ : MethodName) jdk_42_method_3_code 2 none ws ({ frames := 3, cells := 4, slots := 8, locals := 52 } : Room) #[(.ref a1), (.ref a2)] Z own_EL h0 (fun v h L => ∃ b k, v = none ∧ Fr n0 L ∧ Keep h0 h [a1] ∧ (Exa Z h a1 "java/lang/String" ∧ Fld Z h a1 "java/lang/String" "coder" "B" (.int (0 : Int32)) ∧ Fld Z h a1 "java/lang/String" "value" "[B" (.ref b)) ∧ Arv Z h b k .byte z ((cs.map (fun c => c.toInt8.toInt32)).map Value.int) (.int (0 : Int32))) := by
  refine own_bodyW (plainFor_of_name pn_0) (ef_2 a1 a2) ?_
  intro p e s m below meth c T0 X0 hx hby hml0 hret hlk hnm hown hZ e0 eS H0 hS0
  have C0 := CHr.refl H0
  have hml : c.maxLocals = 2 := hml0
  have N0 := Fr.nil n0
  have ne_a1_a2 : a1 ≠ a2 := Exa.neArv E_a1 VA (hw _ (List.mem_of_getElem? (i := 9) rfl))
  refine own_step (fun _ k => XS.aloadN X0.here hx rfl (hb hby d2_0) rfl rfl k) ?_
  show own_Go _ _ _ _ T0 (mkF m 1 #[.val (.ref a1), .val (.ref a2)] [(.ref a1)])
  refine own_step (fun _ k => XS.aloadN X0.here hx rfl (hb hby d2_1) rfl rfl k) ?_
  show own_Go _ _ _ _ T0 (mkF m 2 #[.val (.ref a1), .val (.ref a2)] [(.ref a2), (.ref a1)])
  refine own_step (fun _ k => XS.iconst X0.here hx rfl (hb hby d2_2) k) ?_
  show own_Go _ _ _ _ T0 (mkF m 3 #[.val (.ref a1), .val (.ref a2)] [(.int (0 : Int32)), (.ref a2), (.ref a1)])
  refine own_step (fun _ k => XS.aloadN X0.here hx rfl (hb hby d2_3) rfl rfl k) ?_
  show own_Go _ _ _ _ T0 (mkF m 4 #[.val (.ref a1), .val (.ref a2)] [(.ref a2), (.int (0 : Int32)), (.ref a2), (.ref a1)])
  refine own_step (own_len X0 hx hZ e0 VA (g := (mkF m 4 #[.val (.ref a1), .val (.ref a2)] [(.ref a2), (.int (0 : Int32)), (.ref a2), (.ref a1)])) rfl rfl (hb hby d2_4)) ?_
  show own_Go _ _ _ _ T0 (mkF m 5 #[.val (.ref a1), .val (.ref a2)] [(.int z), (.int (0 : Int32)), (.ref a2), (.ref a1)])
  refine own_step (fun _ k => XS.aconstNull X0.here hx rfl (hb hby d2_5) k) ?_
  show own_Go _ _ _ _ T0 (mkF m 6 #[.val (.ref a1), .val (.ref a2)] [.null, (.int z), (.int (0 : Int32)), (.ref a2), (.ref a1)])
  refine own_callCW X0 hx hZ (y := (⟨"java/lang/String", "<init>", "([CIILjava/lang/Void;)V"⟩ : MethodName)) rfl hown (hw _ (List.mem_of_getElem? (i := 14) rfl)) (hw _ (List.mem_of_getElem? (i := 15) rfl)) (hw _ (List.mem_of_getElem? (i := 10) rfl)) (hw _ (List.mem_of_getElem? (i := 17) rfl)) (by decide) (rm3 l Z a0 hw [] a1 a2 (0 : Int32) z kc cz cs h0 n0 Z0 hEL O0 SC hcz E_a1 FC_a1 FV_a1 VA hcs hcap hlat g_a1 rfl) e0 hEL C0.1 hS0 (Nat.le_refl _) (b := a1) 0 (by decide) (by decide) (by decide) (by decide) (g := (mkF m 6 #[.val (.ref a1), .val (.ref a2)] [.null, (.int z), (.int (0 : Int32)), (.ref a2), (.ref a1)])) rfl (by rw [hml]; rfl) [(.ref a2), (.int (0 : Int32)), (.int z), .null] [] pd_8 rfl rfl rfl (by show 2 * 0 + _ ≤ _; exact Nat.le_of_eq rfl) (hb hby d2_6) ?_
  rintro v1 T1 L1 X1 ⟨bv, kv, rfl, Nq1, K1, ⟨EX1, FC1, FV1⟩, V1⟩ D1 hS1 hZ hown
  have N1 := Fr.app N0 Nq1
  show own_Go _ _ _ _ T1 (mkF m 9 #[.val (.ref a1), .val (.ref a2)] [])
  have Dc1 := D1
  have C1 := C0.trans Dc1
  have Z1 := Nat.le_trans Z0 K1.1
  have KK1 := (Keep.refl h0 [a1]).trans K1 (allS (P := fun x => x ∈ [a1] ∨ h0.size ≤ x) (Or.inl (List.mem_of_getElem? (i := 0) rfl)) all0)
  exact own_retV X1 hx hret hlk (hb hby d2_9) (own_W X1 hS1 (Nat.le_refl _) rfl eS hZ hEL C1 (by exact ⟨bv, kv, rfl, N1, KK1, ⟨EX1, FC1, FV1⟩, V1⟩) (by decide) (by decide)) 
theorem d16_0 : decode method_2_code 0 = .ok (.iload_n 0, 1) := by decide +kernel
theorem d16_1 : decode method_2_code 1 = .ok (.bipush 10, 2) := by decide +kernel
theorem d16_3 : decode method_2_code 3 = .ok (.if_icmp .ge 9, 3) := by decide +kernel
theorem d16_6 : decode method_2_code 6 = .ok (.bipush 48, 2) := by decide +kernel
theorem d16_8 : decode method_2_code 8 = .ok (.iload_n 0, 1) := by decide +kernel
theorem d16_9 : decode method_2_code 9 = .ok (.iadd, 1) := by decide +kernel
theorem d16_10 : decode method_2_code 10 = .ok (.i2c, 1) := by decide +kernel
theorem d16_11 : decode method_2_code 11 = .ok (.ireturn, 1) := by decide +kernel
theorem d16_12 : decode method_2_code 12 = .ok (.bipush 97, 2) := by decide +kernel
theorem d16_14 : decode method_2_code 14 = .ok (.iload_n 0, 1) := by decide +kernel
theorem d16_15 : decode method_2_code 15 = .ok (.bipush 10, 2) := by decide +kernel
theorem d16_17 : decode method_2_code 17 = .ok (.isub, 1) := by decide +kernel
theorem d16_18 : decode method_2_code 18 = .ok (.iadd, 1) := by decide +kernel
theorem d16_19 : decode method_2_code 19 = .ok (.i2c, 1) := by decide +kernel
theorem d16_20 : decode method_2_code 20 = .ok (.ireturn, 1) := by decide +kernel
theorem ef_16 (p1 : Int32) (m : MethodId) : entryFrame m #[(.int p1)] 1 = mkF m 0 #[.val (.int p1)] [] := by first | (simp [entryFrame, mkF, argsToLocals, Value.category]; done) | rfl
def own_hc (p1 : Int32) : Int32 := (if p1 < (10 : Int32) then ((((48 : Int32) + p1).toUInt32.toUInt16.toUInt32.toInt32).toUInt32.toUInt16.toUInt32.toInt32) else ((((97 : Int32) + (p1 - (10 : Int32))).toUInt32.toUInt16.toUInt32.toInt32).toUInt32.toUInt16.toUInt32.toInt32))
theorem pn_4 : plainName "com/example/fixwire/fixwire/HexEncodePinLaw" = true := by first | (simp [plainName, overriddenIn]; done) | decide +kernel
set_option maxRecDepth 65536 in
set_option maxHeartbeats 40000000 in
theorem rm16 (l : Launch) (Z : State) (a0 : Array Value) (hw : ∀ d ∈ tables_1, d.before a0 Z = true) (ws : List Jvm.Cond) (p1 : Int32) (h0 : Heap) (n0 : Nat) (Z0 : n0 ≤ h0.size) :
    own_Met l (⟨"com/example/fixwire/fixwire/HexEncodePinLaw", "hexChar", "(I)C"⟩ : MethodName) method_2_code 1 (some .char) ws ({ frames := 0, cells := 0, slots := 0, locals := 0 } : Room) #[(.int p1)] Z h0 (fun v h L => v = some (.int (own_hc p1)) ∧ Fr n0 L ∧ h = h0) := by
  refine own_body (plainFor_of_name pn_4) (ef_16 p1) ?_
  intro p e s m below meth c T0 X0 hx hby hml0 hret hlk hnm hown hZ e0
  have hml : c.maxLocals = 1 := hml0
  have N0 := Fr.nil n0
  refine own_step (fun _ k => XS.iloadN X0.here hx rfl (hb hby d16_0) rfl k) ?_
  show own_Go _ _ _ _ T0 (mkF m 1 #[.val (.int p1)] [(.int p1)])
  refine own_step (fun _ k => XS.bipush X0.here hx rfl (hb hby d16_1) k) ?_
  show own_Go _ _ _ _ T0 (mkF m 3 #[.val (.int p1)] [(.int (10 : Int32)), (.int p1)])
  by_cases hc1 : p1 < (10 : Int32)
  · refine own_step (fun _ k => XS.icmpNo X0.here hx rfl (hb hby d16_3) rfl (tlt hc1).2.1 k) ?_
    show own_Go _ _ _ _ T0 (mkF m 6 #[.val (.int p1)] [])
    refine own_step (fun _ k => XS.bipush X0.here hx rfl (hb hby d16_6) k) ?_
    show own_Go _ _ _ _ T0 (mkF m 8 #[.val (.int p1)] [(.int (48 : Int32))])
    refine own_step (fun _ k => XS.iloadN X0.here hx rfl (hb hby d16_8) rfl k) ?_
    show own_Go _ _ _ _ T0 (mkF m 9 #[.val (.int p1)] [(.int p1), (.int (48 : Int32))])
    refine own_step (fun _ k => XS.iadd X0.here hx rfl (hb hby d16_9) rfl k) ?_
    show own_Go _ _ _ _ T0 (mkF m 10 #[.val (.int p1)] [(.int ((48 : Int32) + p1))])
    refine own_step (fun _ k => XS.i2c X0.here hx rfl (hb hby d16_10) rfl k) ?_
    show own_Go _ _ _ _ T0 (mkF m 11 #[.val (.int p1)] [(.int (((48 : Int32) + p1).toUInt32.toUInt16.toUInt32.toInt32))])
    exact own_retN X0 hx (t := .char) hret (by simp) hlk (hb hby d16_11) rfl (own_N ⟨own_leafI (if_pos hc1), N0, e0⟩ (by decide) (by decide)) 
  · refine own_step (fun _ k => XS.icmpYes X0.here hx rfl (pc0 := 3) (pc' := 12) rfl (hb hby d16_3) rfl (flt hc1).2.1 (by decide) (by decide) k) ?_
    show own_Go _ _ _ _ T0 (mkF m 12 #[.val (.int p1)] [])
    refine own_step (fun _ k => XS.bipush X0.here hx rfl (hb hby d16_12) k) ?_
    show own_Go _ _ _ _ T0 (mkF m 14 #[.val (.int p1)] [(.int (97 : Int32))])
    refine own_step (fun _ k => XS.iloadN X0.here hx rfl (hb hby d16_14) rfl k) ?_
    show own_Go _ _ _ _ T0 (mkF m 15 #[.val (.int p1)] [(.int p1), (.int (97 : Int32))])
    refine own_step (fun _ k => XS.bipush X0.here hx rfl (hb hby d16_15) k) ?_
    show own_Go _ _ _ _ T0 (mkF m 17 #[.val (.int p1)] [(.int (10 : Int32)), (.int p1), (.int (97 : Int32))])
    refine own_step (fun _ k => XS.isub X0.here hx rfl (hb hby d16_17) rfl k) ?_
    show own_Go _ _ _ _ T0 (mkF m 18 #[.val (.int p1)] [(.int (p1 - (10 : Int32))), (.int (97 : Int32))])
    refine own_step (fun _ k => XS.iadd X0.here hx rfl (hb hby d16_18) rfl k) ?_
    show own_Go _ _ _ _ T0 (mkF m 19 #[.val (.int p1)] [(.int ((97 : Int32) + (p1 - (10 : Int32))))])
    refine own_step (fun _ k => XS.i2c X0.here hx rfl (hb hby d16_19) rfl k) ?_
    show own_Go _ _ _ _ T0 (mkF m 20 #[.val (.int p1)] [(.int (((97 : Int32) + (p1 - (10 : Int32))).toUInt32.toUInt16.toUInt32.toInt32))])
    exact own_retN X0 hx (t := .char) hret (by simp) hlk (hb hby d16_20) rfl (own_N ⟨own_leafI (if_neg hc1), N0, e0⟩ (by decide) (by decide)) 
def own_dg : List Int32 := [48, 49, 50, 51, 52, 53, 54, 55, 56, 57, 97, 98, 99, 100, 101, 102]
def own_dgv (x : Int32) : Int32 := own_dg.getD (x &&& (15 : Int32)).toNatClampNeg (0 : Int32)
theorem own_nib (x : Int32) : ¬ (x &&& (15 : Int32)) < 0 ∧ (x &&& (15 : Int32)) < (16 : Int32) := by
  have h := c_and x (15 : Int32) (by decide)
  have e0 : (0 : Int32).toInt = 0 := rfl
  have e1 : (15 : Int32).toInt = 15 := by decide
  have e2 : (16 : Int32).toInt = 16 := by decide
  rw [Int32.lt_iff_toInt_lt, Int32.lt_iff_toInt_lt]; omega
theorem own_dgt : ∀ n : Fin 16, nar .char (own_dg.getD (Int32.ofInt (n.1 : Int)).toNatClampNeg (0 : Int32)) = own_dg.getD (Int32.ofInt (n.1 : Int)).toNatClampNeg (0 : Int32) ∧ ¬ (255 : Int32) < own_dg.getD (Int32.ofInt (n.1 : Int)).toNatClampNeg (0 : Int32) := by decide +kernel
theorem own_v16 (b : Int32) : ∃ n : Fin 16, (b &&& (15 : Int32)) = Int32.ofInt (n.1 : Int) := by
  have h := c_and b (15 : Int32) (by decide)
  have e : (15 : Int32).toInt = 15 := by decide
  exact own_small h.1 (by omega)
theorem own_dgn (x : Int32) : nar .char (own_dgv x) = own_dgv x := by
  obtain ⟨n, q⟩ := own_v16 x; unfold own_dgv; rw [q]; exact (own_dgt n).1
theorem own_dgl (x : Int32) : ¬ (255 : Int32) < own_dgv x := by
  obtain ⟨n, q⟩ := own_v16 x; unfold own_dgv; rw [q]; exact (own_dgt n).2
def own_pr (x y v : Int32) : Int32 := if x = own_hc ((v &&& (255 : Int32)) / (16 : Int32)) then (if y = own_hc ((v &&& (255 : Int32)) % (16 : Int32)) then (1 : Int32) else (0 : Int32)) else (0 : Int32)
set_option maxRecDepth 65536 in
theorem own_prt : ∀ n : Fin 256, (((own_dgv (((Int32.ofInt (n.1 : Int)).toInt8.toInt32) >>> ((4 : Int32) &&& 31))).toInt8.toInt32 &&& (255 : Int32)) = own_hc ((Int32.ofInt (n.1 : Int)) / (16 : Int32))) ∧ (((own_dgv ((Int32.ofInt (n.1 : Int)).toInt8.toInt32)).toInt8.toInt32 &&& (255 : Int32)) = own_hc ((Int32.ofInt (n.1 : Int)) % (16 : Int32))) := by decide +kernel
theorem own_prl (a : Int32) : ¬ own_pr ((own_dgv ((a.toInt8.toInt32) >>> ((4 : Int32) &&& 31))).toInt8.toInt32 &&& (255 : Int32)) ((own_dgv (a.toInt8.toInt32)).toInt8.toInt32 &&& (255 : Int32)) a = (0 : Int32) := by
  obtain ⟨n, q⟩ := own_v256 a
  unfold own_pr
  rw [own_b255 a, q, if_pos (own_prt n).1, if_pos (own_prt n).2]; decide
theorem d10_0 : decode method_3_code 0 = .ok (.iload_n 2, 1) := by decide +kernel
theorem d10_1 : decode method_3_code 1 = .ok (.sipush 255, 3) := by decide +kernel
theorem d10_4 : decode method_3_code 4 = .ok (.iand, 1) := by decide +kernel
theorem d10_5 : decode method_3_code 5 = .ok (.istore_n 3, 1) := by decide +kernel
theorem d10_6 : decode method_3_code 6 = .ok (.aload_n 0, 1) := by decide +kernel
theorem d10_7 : decode method_3_code 7 = .ok (.iconst 2, 1) := by decide +kernel
theorem d10_8 : decode method_3_code 8 = .ok (.iload_n 1, 1) := by decide +kernel
theorem d10_9 : decode method_3_code 9 = .ok (.imul, 1) := by decide +kernel
theorem d10_10 : decode method_3_code 10 = .ok (.invokevirtual 7, 3) := by decide +kernel
theorem d10_13 : decode method_3_code 13 = .ok (.iload_n 3, 1) := by decide +kernel
theorem d10_14 : decode method_3_code 14 = .ok (.bipush 16, 2) := by decide +kernel
theorem d10_16 : decode method_3_code 16 = .ok (.idiv, 1) := by decide +kernel
theorem d10_17 : decode method_3_code 17 = .ok (.invokestatic 13, 3) := by decide +kernel
theorem d10_20 : decode method_3_code 20 = .ok (.if_icmp .ne 26, 3) := by decide +kernel
theorem d10_23 : decode method_3_code 23 = .ok (.aload_n 0, 1) := by decide +kernel
theorem d10_24 : decode method_3_code 24 = .ok (.iconst 2, 1) := by decide +kernel
theorem d10_25 : decode method_3_code 25 = .ok (.iload_n 1, 1) := by decide +kernel
theorem d10_26 : decode method_3_code 26 = .ok (.imul, 1) := by decide +kernel
theorem d10_27 : decode method_3_code 27 = .ok (.iconst 1, 1) := by decide +kernel
theorem d10_28 : decode method_3_code 28 = .ok (.iadd, 1) := by decide +kernel
theorem d10_29 : decode method_3_code 29 = .ok (.invokevirtual 7, 3) := by decide +kernel
theorem d10_32 : decode method_3_code 32 = .ok (.iload_n 3, 1) := by decide +kernel
theorem d10_33 : decode method_3_code 33 = .ok (.bipush 16, 2) := by decide +kernel
theorem d10_35 : decode method_3_code 35 = .ok (.irem, 1) := by decide +kernel
theorem d10_36 : decode method_3_code 36 = .ok (.invokestatic 13, 3) := by decide +kernel
theorem d10_39 : decode method_3_code 39 = .ok (.if_icmp .ne 7, 3) := by decide +kernel
theorem d10_42 : decode method_3_code 42 = .ok (.iconst 1, 1) := by decide +kernel
theorem d10_43 : decode method_3_code 43 = .ok (.goto 4, 3) := by decide +kernel
theorem d10_46 : decode method_3_code 46 = .ok (.iconst 0, 1) := by decide +kernel
theorem d10_47 : decode method_3_code 47 = .ok (.ireturn, 1) := by decide +kernel
theorem ef_10 (a1 : Addr) (p2 : Int32) (p3 : Int32) (m : MethodId) : entryFrame m #[(.ref a1), (.int p2), (.int p3)] 4 = mkF m 0 #[.val (.ref a1), .val (.int p2), .val (.int p3), .unset] [] := by first | (simp [entryFrame, mkF, argsToLocals, Value.category]; done) | rfl
theorem pd_9 : parseMethodDescriptor "(I)C" = some ⟨[.int], some .char⟩ := by decide +kernel
set_option maxRecDepth 65536 in
set_option maxHeartbeats 40000000 in
theorem rm10 (l : Launch) (Z : State) (a0 : Array Value) (hw : ∀ d ∈ tables_1, d.before a0 Z = true) (ws : List Jvm.Cond) (a1 : Addr) (p2 : Int32) (p3 : Int32) (cz : Int32) (fv : Value) (b : Addr) (kb : ClassId) (z : Int32) (ys : List Int32) (h0 : Heap) (n0 : Nat) (Z0 : n0 ≤ h0.size) (O0 : Old Z n0 h0) (SC : Sta Z Z.heap "java/lang/String" "COMPACT_STRINGS" "Z" (.int cz)) (hcz : ¬ cz = (0 : Int32)) (SF : Sta Z Z.heap "jdk/internal/util/Preconditions" "SIOOBE_FORMATTER" "Ljava/util/function/BiFunction;" fv) (hfv : fv.isRef = true) (E_a1 : Exa Z h0 a1 "java/lang/String") (FC_a1 : Fld Z h0 a1 "java/lang/String" "coder" "B" (.int (0 : Int32))) (FV_a1 : Fld Z h0 a1 "java/lang/String" "value" "[B" (.ref b)) (VB : Arv Z h0 b kb .byte z (ys.map Value.int) (.int (0 : Int32))) (h1 : ¬ ((2 : Int32) * p2) < (0 : Int32)) (h2 : ((2 : Int32) * p2) < z) (h3 : ¬ (((2 : Int32) * p2) + (1 : Int32)) < (0 : Int32)) (h4 : (((2 : Int32) * p2) + (1 : Int32)) < z) :
    own_Met l (⟨"com/example/fixwire/fixwire/HexEncodePinLaw", "pair", "(Ljava/lang/String;II)Z"⟩ : MethodName) method_3_code 4 (some .boolean) ws ({ frames := 4, cells := 0, slots := 0, locals := 53 } : Room) #[(.ref a1), (.int p2), (.int p3)] Z h0 (fun v h L => v = some (.int (own_pr ((ys.getD ((2 : Int32) * p2).toNatClampNeg (0 : Int32)) &&& (255 : Int32)) ((ys.getD (((2 : Int32) * p2) + (1 : Int32)).toNatClampNeg (0 : Int32)) &&& (255 : Int32)) p3)) ∧ Fr n0 L ∧ h = h0) := by
  refine own_body (plainFor_of_name pn_4) (ef_10 a1 p2 p3) ?_
  intro p e s m below meth c T0 X0 hx hby hml0 hret hlk hnm hown hZ e0
  have hml : c.maxLocals = 4 := hml0
  have N0 := Fr.nil n0
  refine own_step (fun _ k => XS.iloadN X0.here hx rfl (hb hby d10_0) rfl k) ?_
  show own_Go _ _ _ _ T0 (mkF m 1 #[.val (.ref a1), .val (.int p2), .val (.int p3), .unset] [(.int p3)])
  refine own_step (fun _ k => XS.sipush X0.here hx rfl (hb hby d10_1) k) ?_
  show own_Go _ _ _ _ T0 (mkF m 4 #[.val (.ref a1), .val (.int p2), .val (.int p3), .unset] [(.int (255 : Int32)), (.int p3)])
  refine own_step (fun _ k => XS.iand X0.here hx rfl (hb hby d10_4) rfl k) ?_
  show own_Go _ _ _ _ T0 (mkF m 5 #[.val (.ref a1), .val (.int p2), .val (.int p3), .unset] [(.int (p3 &&& (255 : Int32)))])
  refine own_step (fun _ k => XS.istoreN X0.here hx rfl (hb hby d10_5) rfl (l' := #[.val (.ref a1), .val (.int p2), .val (.int p3), .val (.int (p3 &&& (255 : Int32)))]) rfl k) ?_
  show own_Go _ _ _ _ T0 (mkF m 6 #[.val (.ref a1), .val (.int p2), .val (.int p3), .val (.int (p3 &&& (255 : Int32)))] [])
  refine own_step (fun _ k => XS.aloadN X0.here hx rfl (hb hby d10_6) rfl rfl k) ?_
  show own_Go _ _ _ _ T0 (mkF m 7 #[.val (.ref a1), .val (.int p2), .val (.int p3), .val (.int (p3 &&& (255 : Int32)))] [(.ref a1)])
  refine own_step (fun _ k => XS.iconst X0.here hx rfl (hb hby d10_7) k) ?_
  show own_Go _ _ _ _ T0 (mkF m 8 #[.val (.ref a1), .val (.int p2), .val (.int p3), .val (.int (p3 &&& (255 : Int32)))] [(.int (2 : Int32)), (.ref a1)])
  refine own_step (fun _ k => XS.iloadN X0.here hx rfl (hb hby d10_8) rfl k) ?_
  show own_Go _ _ _ _ T0 (mkF m 9 #[.val (.ref a1), .val (.int p2), .val (.int p3), .val (.int (p3 &&& (255 : Int32)))] [(.int p2), (.int (2 : Int32)), (.ref a1)])
  refine own_step (fun _ k => XS.imul X0.here hx rfl (hb hby d10_9) rfl k) ?_
  show own_Go _ _ _ _ T0 (mkF m 10 #[.val (.ref a1), .val (.int p2), .val (.int p3), .val (.int (p3 &&& (255 : Int32)))] [(.int ((2 : Int32) * p2)), (.ref a1)])
  refine own_callV X0 hx hZ (y := (⟨"java/lang/String", "charAt", "(I)C"⟩ : MethodName)) (z := (⟨"java/lang/String", "charAt", "(I)C"⟩ : MethodName)) hown (hw _ (List.mem_of_getElem? (i := 50) rfl)) (hw _ (List.mem_of_getElem? (i := 51) rfl)) (hw _ (List.mem_of_getElem? (i := 53) rfl)) (hw _ (List.mem_of_getElem? (i := 53) rfl)) (hw _ (List.mem_of_getElem? (i := 52) rfl)) (hw _ (List.mem_of_getElem? (i := 10) rfl)) (hw _ (List.mem_of_getElem? (i := 54) rfl)) (by decide) (rm11 l Z a0 hw [] a1 ((2 : Int32) * p2) cz fv b kb z ys h0 n0 Z0 O0 SC hcz SF hfv E_a1 FC_a1 FV_a1 VB h1 h2) e0 (b := a1) E_a1 0 (by decide) (by decide) (by decide) (by decide) (g := (mkF m 10 #[.val (.ref a1), .val (.int p2), .val (.int p3), .val (.int (p3 &&& (255 : Int32)))] [(.int ((2 : Int32) * p2)), (.ref a1)])) rfl (by rw [hml]; rfl) [(.int ((2 : Int32) * p2))] [] pd_9 rfl rfl rfl (by show 2 * 0 + _ ≤ _; exact Nat.le_of_eq rfl) (hb hby d10_10) ?_
  rintro v1 T1 L1 X1 ⟨rfl, Nq1, e1⟩
  have N1 := Fr.app N0 Nq1
  show own_Go _ _ _ _ T1 (mkF m 13 #[.val (.ref a1), .val (.int p2), .val (.int p3), .val (.int (p3 &&& (255 : Int32)))] [(.int ((ys.getD ((2 : Int32) * p2).toNatClampNeg (0 : Int32)) &&& (255 : Int32)))])
  refine own_step (fun _ k => XS.iloadN X1.here hx rfl (hb hby d10_13) rfl k) ?_
  show own_Go _ _ _ _ T1 (mkF m 14 #[.val (.ref a1), .val (.int p2), .val (.int p3), .val (.int (p3 &&& (255 : Int32)))] [(.int (p3 &&& (255 : Int32))), (.int ((ys.getD ((2 : Int32) * p2).toNatClampNeg (0 : Int32)) &&& (255 : Int32)))])
  refine own_step (fun _ k => XS.bipush X1.here hx rfl (hb hby d10_14) k) ?_
  show own_Go _ _ _ _ T1 (mkF m 16 #[.val (.ref a1), .val (.int p2), .val (.int p3), .val (.int (p3 &&& (255 : Int32)))] [(.int (16 : Int32)), (.int (p3 &&& (255 : Int32))), (.int ((ys.getD ((2 : Int32) * p2).toNatClampNeg (0 : Int32)) &&& (255 : Int32)))])
  refine own_step (fun _ k => XS.idiv X1.here hx rfl (hb hby d10_16) rfl (by decide) k) ?_
  show own_Go _ _ _ _ T1 (mkF m 17 #[.val (.ref a1), .val (.int p2), .val (.int p3), .val (.int (p3 &&& (255 : Int32)))] [(.int ((p3 &&& (255 : Int32)) / (16 : Int32))), (.int ((ys.getD ((2 : Int32) * p2).toNatClampNeg (0 : Int32)) &&& (255 : Int32)))])
  refine own_callS X1 hx hZ (y := (⟨"com/example/fixwire/fixwire/HexEncodePinLaw", "hexChar", "(I)C"⟩ : MethodName)) hown (hw _ (List.mem_of_getElem? (i := 72) rfl)) (hw _ (List.mem_of_getElem? (i := 73) rfl)) (hw _ (List.mem_of_getElem? (i := 48) rfl)) (hw _ (List.mem_of_getElem? (i := 74) rfl)) (by decide) (rm16 l Z a0 hw [] ((p3 &&& (255 : Int32)) / (16 : Int32)) h0 n0 Z0) e1 1 (by decide) (by decide) (by decide) (by decide) (g := (mkF m 17 #[.val (.ref a1), .val (.int p2), .val (.int p3), .val (.int (p3 &&& (255 : Int32)))] [(.int ((p3 &&& (255 : Int32)) / (16 : Int32))), (.int ((ys.getD ((2 : Int32) * p2).toNatClampNeg (0 : Int32)) &&& (255 : Int32)))])) rfl (by rw [hml]; rfl) [(.int ((p3 &&& (255 : Int32)) / (16 : Int32)))] [(.int ((ys.getD ((2 : Int32) * p2).toNatClampNeg (0 : Int32)) &&& (255 : Int32)))] pd_9 rfl rfl rfl (by show 2 * 0 + _ ≤ _; exact Nat.le_of_eq rfl) (hb hby d10_17) ?_
  rintro v2 T2 L2 X2 ⟨rfl, Nq2, e2⟩
  have N2 := Fr.app N1 Nq2
  show own_Go _ _ _ _ T2 (mkF m 20 #[.val (.ref a1), .val (.int p2), .val (.int p3), .val (.int (p3 &&& (255 : Int32)))] [(.int (own_hc ((p3 &&& (255 : Int32)) / (16 : Int32)))), (.int ((ys.getD ((2 : Int32) * p2).toNatClampNeg (0 : Int32)) &&& (255 : Int32)))])
  by_cases hc3 : ((ys.getD ((2 : Int32) * p2).toNatClampNeg (0 : Int32)) &&& (255 : Int32)) = (own_hc ((p3 &&& (255 : Int32)) / (16 : Int32)))
  · refine own_step (fun _ k => XS.icmpNo X2.here hx rfl (hb hby d10_20) rfl (teq hc3).2 k) ?_
    show own_Go _ _ _ _ T2 (mkF m 23 #[.val (.ref a1), .val (.int p2), .val (.int p3), .val (.int (p3 &&& (255 : Int32)))] [])
    refine own_step (fun _ k => XS.aloadN X2.here hx rfl (hb hby d10_23) rfl rfl k) ?_
    show own_Go _ _ _ _ T2 (mkF m 24 #[.val (.ref a1), .val (.int p2), .val (.int p3), .val (.int (p3 &&& (255 : Int32)))] [(.ref a1)])
    refine own_step (fun _ k => XS.iconst X2.here hx rfl (hb hby d10_24) k) ?_
    show own_Go _ _ _ _ T2 (mkF m 25 #[.val (.ref a1), .val (.int p2), .val (.int p3), .val (.int (p3 &&& (255 : Int32)))] [(.int (2 : Int32)), (.ref a1)])
    refine own_step (fun _ k => XS.iloadN X2.here hx rfl (hb hby d10_25) rfl k) ?_
    show own_Go _ _ _ _ T2 (mkF m 26 #[.val (.ref a1), .val (.int p2), .val (.int p3), .val (.int (p3 &&& (255 : Int32)))] [(.int p2), (.int (2 : Int32)), (.ref a1)])
    refine own_step (fun _ k => XS.imul X2.here hx rfl (hb hby d10_26) rfl k) ?_
    show own_Go _ _ _ _ T2 (mkF m 27 #[.val (.ref a1), .val (.int p2), .val (.int p3), .val (.int (p3 &&& (255 : Int32)))] [(.int ((2 : Int32) * p2)), (.ref a1)])
    refine own_step (fun _ k => XS.iconst X2.here hx rfl (hb hby d10_27) k) ?_
    show own_Go _ _ _ _ T2 (mkF m 28 #[.val (.ref a1), .val (.int p2), .val (.int p3), .val (.int (p3 &&& (255 : Int32)))] [(.int (1 : Int32)), (.int ((2 : Int32) * p2)), (.ref a1)])
    refine own_step (fun _ k => XS.iadd X2.here hx rfl (hb hby d10_28) rfl k) ?_
    show own_Go _ _ _ _ T2 (mkF m 29 #[.val (.ref a1), .val (.int p2), .val (.int p3), .val (.int (p3 &&& (255 : Int32)))] [(.int (((2 : Int32) * p2) + (1 : Int32))), (.ref a1)])
    refine own_callV X2 hx hZ (y := (⟨"java/lang/String", "charAt", "(I)C"⟩ : MethodName)) (z := (⟨"java/lang/String", "charAt", "(I)C"⟩ : MethodName)) hown (hw _ (List.mem_of_getElem? (i := 50) rfl)) (hw _ (List.mem_of_getElem? (i := 51) rfl)) (hw _ (List.mem_of_getElem? (i := 53) rfl)) (hw _ (List.mem_of_getElem? (i := 53) rfl)) (hw _ (List.mem_of_getElem? (i := 52) rfl)) (hw _ (List.mem_of_getElem? (i := 10) rfl)) (hw _ (List.mem_of_getElem? (i := 54) rfl)) (by decide) (rm11 l Z a0 hw [] a1 (((2 : Int32) * p2) + (1 : Int32)) cz fv b kb z ys h0 n0 Z0 O0 SC hcz SF hfv E_a1 FC_a1 FV_a1 VB h3 h4) e2 (b := a1) E_a1 0 (by decide) (by decide) (by decide) (by decide) (g := (mkF m 29 #[.val (.ref a1), .val (.int p2), .val (.int p3), .val (.int (p3 &&& (255 : Int32)))] [(.int (((2 : Int32) * p2) + (1 : Int32))), (.ref a1)])) rfl (by rw [hml]; rfl) [(.int (((2 : Int32) * p2) + (1 : Int32)))] [] pd_9 rfl rfl rfl (by show 2 * 0 + _ ≤ _; exact Nat.le_of_eq rfl) (hb hby d10_29) ?_
    rintro v4 T4 L4 X4 ⟨rfl, Nq4, e4⟩
    have N4 := Fr.app N2 Nq4
    show own_Go _ _ _ _ T4 (mkF m 32 #[.val (.ref a1), .val (.int p2), .val (.int p3), .val (.int (p3 &&& (255 : Int32)))] [(.int ((ys.getD (((2 : Int32) * p2) + (1 : Int32)).toNatClampNeg (0 : Int32)) &&& (255 : Int32)))])
    refine own_step (fun _ k => XS.iloadN X4.here hx rfl (hb hby d10_32) rfl k) ?_
    show own_Go _ _ _ _ T4 (mkF m 33 #[.val (.ref a1), .val (.int p2), .val (.int p3), .val (.int (p3 &&& (255 : Int32)))] [(.int (p3 &&& (255 : Int32))), (.int ((ys.getD (((2 : Int32) * p2) + (1 : Int32)).toNatClampNeg (0 : Int32)) &&& (255 : Int32)))])
    refine own_step (fun _ k => XS.bipush X4.here hx rfl (hb hby d10_33) k) ?_
    show own_Go _ _ _ _ T4 (mkF m 35 #[.val (.ref a1), .val (.int p2), .val (.int p3), .val (.int (p3 &&& (255 : Int32)))] [(.int (16 : Int32)), (.int (p3 &&& (255 : Int32))), (.int ((ys.getD (((2 : Int32) * p2) + (1 : Int32)).toNatClampNeg (0 : Int32)) &&& (255 : Int32)))])
    refine own_step (fun _ k => iremM X4 hx rfl (hb hby d10_35) rfl (by decide) k) ?_
    show own_Go _ _ _ _ T4 (mkF m 36 #[.val (.ref a1), .val (.int p2), .val (.int p3), .val (.int (p3 &&& (255 : Int32)))] [(.int ((p3 &&& (255 : Int32)) % (16 : Int32))), (.int ((ys.getD (((2 : Int32) * p2) + (1 : Int32)).toNatClampNeg (0 : Int32)) &&& (255 : Int32)))])
    refine own_callS X4 hx hZ (y := (⟨"com/example/fixwire/fixwire/HexEncodePinLaw", "hexChar", "(I)C"⟩ : MethodName)) hown (hw _ (List.mem_of_getElem? (i := 72) rfl)) (hw _ (List.mem_of_getElem? (i := 73) rfl)) (hw _ (List.mem_of_getElem? (i := 48) rfl)) (hw _ (List.mem_of_getElem? (i := 74) rfl)) (by decide) (rm16 l Z a0 hw [] ((p3 &&& (255 : Int32)) % (16 : Int32)) h0 n0 Z0) e4 1 (by decide) (by decide) (by decide) (by decide) (g := (mkF m 36 #[.val (.ref a1), .val (.int p2), .val (.int p3), .val (.int (p3 &&& (255 : Int32)))] [(.int ((p3 &&& (255 : Int32)) % (16 : Int32))), (.int ((ys.getD (((2 : Int32) * p2) + (1 : Int32)).toNatClampNeg (0 : Int32)) &&& (255 : Int32)))])) rfl (by rw [hml]; rfl) [(.int ((p3 &&& (255 : Int32)) % (16 : Int32)))] [(.int ((ys.getD (((2 : Int32) * p2) + (1 : Int32)).toNatClampNeg (0 : Int32)) &&& (255 : Int32)))] pd_9 rfl rfl rfl (by show 2 * 0 + _ ≤ _; exact Nat.le_of_eq rfl) (hb hby d10_36) ?_
    rintro v5 T5 L5 X5 ⟨rfl, Nq5, e5⟩
    have N5 := Fr.app N4 Nq5
    show own_Go _ _ _ _ T5 (mkF m 39 #[.val (.ref a1), .val (.int p2), .val (.int p3), .val (.int (p3 &&& (255 : Int32)))] [(.int (own_hc ((p3 &&& (255 : Int32)) % (16 : Int32)))), (.int ((ys.getD (((2 : Int32) * p2) + (1 : Int32)).toNatClampNeg (0 : Int32)) &&& (255 : Int32)))])
    by_cases hc6 : ((ys.getD (((2 : Int32) * p2) + (1 : Int32)).toNatClampNeg (0 : Int32)) &&& (255 : Int32)) = (own_hc ((p3 &&& (255 : Int32)) % (16 : Int32)))
    · refine own_step (fun _ k => XS.icmpNo X5.here hx rfl (hb hby d10_39) rfl (teq hc6).2 k) ?_
      show own_Go _ _ _ _ T5 (mkF m 42 #[.val (.ref a1), .val (.int p2), .val (.int p3), .val (.int (p3 &&& (255 : Int32)))] [])
      refine own_step (fun _ k => XS.iconst X5.here hx rfl (hb hby d10_42) k) ?_
      show own_Go _ _ _ _ T5 (mkF m 43 #[.val (.ref a1), .val (.int p2), .val (.int p3), .val (.int (p3 &&& (255 : Int32)))] [(.int (1 : Int32))])
      refine own_step (fun _ k => XS.goto X5.here hx rfl (pc0 := 43) (pc' := 47) rfl (hb hby d10_43) (by decide) (by decide) k) ?_
      show own_Go _ _ _ _ T5 (mkF m 47 #[.val (.ref a1), .val (.int p2), .val (.int p3), .val (.int (p3 &&& (255 : Int32)))] [(.int (1 : Int32))])
      exact own_retN X5 hx (t := .boolean) hret (by simp) hlk (hb hby d10_47) rfl (own_N ⟨own_leafI ((if_pos hc3).trans (if_pos hc6)), N5, e5⟩ (by decide) (by decide)) 
    · refine own_step (fun _ k => XS.icmpYes X5.here hx rfl (pc0 := 39) (pc' := 46) rfl (hb hby d10_39) rfl (feq hc6).2 (by decide) (by decide) k) ?_
      show own_Go _ _ _ _ T5 (mkF m 46 #[.val (.ref a1), .val (.int p2), .val (.int p3), .val (.int (p3 &&& (255 : Int32)))] [])
      refine own_step (fun _ k => XS.iconst X5.here hx rfl (hb hby d10_46) k) ?_
      show own_Go _ _ _ _ T5 (mkF m 47 #[.val (.ref a1), .val (.int p2), .val (.int p3), .val (.int (p3 &&& (255 : Int32)))] [(.int (0 : Int32))])
      exact own_retN X5 hx (t := .boolean) hret (by simp) hlk (hb hby d10_47) rfl (own_N ⟨own_leafI ((if_pos hc3).trans (if_neg hc6)), N5, e5⟩ (by decide) (by decide)) 
  · refine own_step (fun _ k => XS.icmpYes X2.here hx rfl (pc0 := 20) (pc' := 46) rfl (hb hby d10_20) rfl (feq hc3).2 (by decide) (by decide) k) ?_
    show own_Go _ _ _ _ T2 (mkF m 46 #[.val (.ref a1), .val (.int p2), .val (.int p3), .val (.int (p3 &&& (255 : Int32)))] [])
    refine own_step (fun _ k => XS.iconst X2.here hx rfl (hb hby d10_46) k) ?_
    show own_Go _ _ _ _ T2 (mkF m 47 #[.val (.ref a1), .val (.int p2), .val (.int p3), .val (.int (p3 &&& (255 : Int32)))] [(.int (0 : Int32))])
    exact own_retN X2 hx (t := .boolean) hret (by simp) hlk (hb hby d10_47) rfl (own_N ⟨own_leafI (if_neg hc3), N2, e2⟩ (by decide) (by decide)) 
theorem d1_0 : decode prog_14_method_3_code 0 = .ok (.aload_n 0, 1) := by decide +kernel
theorem d1_1 : decode prog_14_method_3_code 1 = .ok (.arraylength, 1) := by decide +kernel
theorem d1_2 : decode prog_14_method_3_code 2 = .ok (.iconst 2, 1) := by decide +kernel
theorem d1_3 : decode prog_14_method_3_code 3 = .ok (.imul, 1) := by decide +kernel
theorem d1_4 : decode prog_14_method_3_code 4 = .ok (.newarray .char, 2) := by decide +kernel
theorem d1_6 : decode prog_14_method_3_code 6 = .ok (.astore_n 1, 1) := by decide +kernel
theorem d1_7 : decode prog_14_method_3_code 7 = .ok (.iconst 0, 1) := by decide +kernel
theorem d1_8 : decode prog_14_method_3_code 8 = .ok (.istore_n 2, 1) := by decide +kernel
theorem d1_9 : decode prog_14_method_3_code 9 = .ok (.iload_n 2, 1) := by decide +kernel
theorem d1_10 : decode prog_14_method_3_code 10 = .ok (.aload_n 0, 1) := by decide +kernel
theorem d1_11 : decode prog_14_method_3_code 11 = .ok (.arraylength, 1) := by decide +kernel
theorem d1_12 : decode prog_14_method_3_code 12 = .ok (.if_icmp .ge 43, 3) := by decide +kernel
theorem d1_15 : decode prog_14_method_3_code 15 = .ok (.aload_n 1, 1) := by decide +kernel
theorem d1_16 : decode prog_14_method_3_code 16 = .ok (.iconst 2, 1) := by decide +kernel
theorem d1_17 : decode prog_14_method_3_code 17 = .ok (.iload_n 2, 1) := by decide +kernel
theorem d1_18 : decode prog_14_method_3_code 18 = .ok (.imul, 1) := by decide +kernel
theorem d1_19 : decode prog_14_method_3_code 19 = .ok (.getstatic 44, 3) := by decide +kernel
theorem d1_22 : decode prog_14_method_3_code 22 = .ok (.aload_n 0, 1) := by decide +kernel
theorem d1_23 : decode prog_14_method_3_code 23 = .ok (.iload_n 2, 1) := by decide +kernel
theorem d1_24 : decode prog_14_method_3_code 24 = .ok (.baload, 1) := by decide +kernel
theorem d1_25 : decode prog_14_method_3_code 25 = .ok (.iconst 4, 1) := by decide +kernel
theorem d1_26 : decode prog_14_method_3_code 26 = .ok (.ishr, 1) := by decide +kernel
theorem d1_27 : decode prog_14_method_3_code 27 = .ok (.bipush 15, 2) := by decide +kernel
theorem d1_29 : decode prog_14_method_3_code 29 = .ok (.iand, 1) := by decide +kernel
theorem d1_30 : decode prog_14_method_3_code 30 = .ok (.caload, 1) := by decide +kernel
theorem d1_31 : decode prog_14_method_3_code 31 = .ok (.castore, 1) := by decide +kernel
theorem d1_32 : decode prog_14_method_3_code 32 = .ok (.aload_n 1, 1) := by decide +kernel
theorem d1_33 : decode prog_14_method_3_code 33 = .ok (.iconst 2, 1) := by decide +kernel
theorem d1_34 : decode prog_14_method_3_code 34 = .ok (.iload_n 2, 1) := by decide +kernel
theorem d1_35 : decode prog_14_method_3_code 35 = .ok (.imul, 1) := by decide +kernel
theorem d1_36 : decode prog_14_method_3_code 36 = .ok (.iconst 1, 1) := by decide +kernel
theorem d1_37 : decode prog_14_method_3_code 37 = .ok (.iadd, 1) := by decide +kernel
theorem d1_38 : decode prog_14_method_3_code 38 = .ok (.getstatic 44, 3) := by decide +kernel
theorem d1_41 : decode prog_14_method_3_code 41 = .ok (.aload_n 0, 1) := by decide +kernel
theorem d1_42 : decode prog_14_method_3_code 42 = .ok (.iload_n 2, 1) := by decide +kernel
theorem d1_43 : decode prog_14_method_3_code 43 = .ok (.baload, 1) := by decide +kernel
theorem d1_44 : decode prog_14_method_3_code 44 = .ok (.bipush 15, 2) := by decide +kernel
theorem d1_46 : decode prog_14_method_3_code 46 = .ok (.iand, 1) := by decide +kernel
theorem d1_47 : decode prog_14_method_3_code 47 = .ok (.caload, 1) := by decide +kernel
theorem d1_48 : decode prog_14_method_3_code 48 = .ok (.castore, 1) := by decide +kernel
theorem d1_49 : decode prog_14_method_3_code 49 = .ok (.iinc 2 1, 3) := by decide +kernel
theorem d1_52 : decode prog_14_method_3_code 52 = .ok (.goto (-43), 3) := by decide +kernel
theorem d1_55 : decode prog_14_method_3_code 55 = .ok (.new 48, 3) := by decide +kernel
theorem d1_58 : decode prog_14_method_3_code 58 = .ok (.dup, 1) := by decide +kernel
theorem d1_59 : decode prog_14_method_3_code 59 = .ok (.aload_n 1, 1) := by decide +kernel
theorem d1_60 : decode prog_14_method_3_code 60 = .ok (.invokespecial 50, 3) := by decide +kernel
theorem d1_63 : decode prog_14_method_3_code 63 = .ok (.areturn, 1) := by decide +kernel
theorem ef_1 (a1 : Addr) (m : MethodId) : entryFrame m #[(.ref a1)] 3 = mkF m 0 #[.val (.ref a1), .unset, .unset] [] := by first | (simp [entryFrame, mkF, argsToLocals, Value.category]; done) | rfl
theorem pd_10 : parseMethodDescriptor "([C)V" = some ⟨[(.array .char)], none⟩ := by decide +kernel
theorem pn_5 : plainName "com/example/fixwire/fixwire/Hex" = true := by first | (simp [plainName, overriddenIn]; done) | decide +kernel
set_option maxRecDepth 65536 in
set_option maxHeartbeats 40000000 in
theorem rm1_0 (l : Launch) (Z : State) (a0 : Array Value) (hw : ∀ d ∈ tables_1, d.before a0 Z = true) (ws : List Jvm.Cond) (a1 : Addr) (kA : ClassId) (cz : Int32) (dg : Addr) (kd : ClassId) (h0 : Heap) (n0 : Nat) (Z0 : n0 ≤ h0.size) (hEL : EW Z a0 own_EL) (O0 : Old Z n0 h0) (SC : Sta Z Z.heap "java/lang/String" "COMPACT_STRINGS" "Z" (.int cz)) (hcz : ¬ cz = (0 : Int32)) (SD : Sta Z Z.heap "com/example/fixwire/fixwire/Hex" "DIGITS" "[C" (.ref dg)) (VD : Arv Z Z.heap dg kd .char (16 : Int32) (own_dg.map Value.int) (.int (0 : Int32))) (VA : Arv Z h0 a1 kA .byte (0 : Int32) [] (.int (0 : Int32))) :
    own_MetW l (⟨"com/example/fixwire/fixwire/Hex", "encode", "([B)Ljava/lang/String;"⟩ : MethodName) prog_14_method_3_code 3 (some (.object "java/lang/String")) ws ({ frames := 4, cells := 6, slots := 12, locals := 66 } : Room) #[(.ref a1)] Z own_EL h0 (fun v h L => ∃ o b k, v = some (.ref o) ∧ Fr n0 L ∧ Keep h0 h [] ∧ n0 ≤ o ∧ (Exa Z h o "java/lang/String" ∧ Fld Z h o "java/lang/String" "coder" "B" (.int (0 : Int32)) ∧ Fld Z h o "java/lang/String" "value" "[B" (.ref b)) ∧ Arv Z h b k .byte (0 : Int32) ((([] : List Int32).map (fun c => c.toInt8.toInt32)).map Value.int) (.int (0 : Int32))) := by
  refine own_bodyW (plainFor_of_name pn_5) (ef_1 a1) ?_
  intro p e s m below meth c T0 X0 hx hby hml0 hret hlk hnm hown hZ e0 eS H0 hS0
  have C0 := CHr.refl H0
  have hml : c.maxLocals = 3 := hml0
  have N0 := Fr.nil n0
  refine own_step (fun _ k => XS.aloadN X0.here hx rfl (hb hby d1_0) rfl rfl k) ?_
  show own_Go _ _ _ _ T0 (mkF m 1 #[.val (.ref a1), .unset, .unset] [(.ref a1)])
  refine own_step (own_len X0 hx hZ e0 VA (g := (mkF m 1 #[.val (.ref a1), .unset, .unset] [(.ref a1)])) rfl rfl (hb hby d1_1)) ?_
  show own_Go _ _ _ _ T0 (mkF m 2 #[.val (.ref a1), .unset, .unset] [(.int (0 : Int32))])
  refine own_step (fun _ k => XS.iconst X0.here hx rfl (hb hby d1_2) k) ?_
  show own_Go _ _ _ _ T0 (mkF m 3 #[.val (.ref a1), .unset, .unset] [(.int (2 : Int32)), (.int (0 : Int32))])
  refine own_step (fun _ k => XS.imul X0.here hx rfl (hb hby d1_3) rfl k) ?_
  show own_Go _ _ _ _ T0 (mkF m 4 #[.val (.ref a1), .unset, .unset] [(.int ((0 : Int32) * (2 : Int32)))])
  show own_Go _ _ _ _ T0 (mkF m 4 #[.val (.ref a1), .unset, .unset] [(.int (0 : Int32))])
  obtain ⟨T1, h1, k1, ca, g1, X1, e1, E1, V1, st1⟩ := own_newA X0 hx hZ (hw _ (List.mem_of_getElem? (i := 5) rfl)) e0 (g := (mkF m 4 #[.val (.ref a1), .unset, .unset] [(.int (0 : Int32))])) rfl (hb hby d1_4) rfl (by decide) (cap := 0) (by decide) (by decide) (by decide) (by decide)
  have ne_a1_ca : a1 ≠ ca := Nat.ne_of_lt (Nat.lt_of_lt_of_eq VA.lt g1.symm)
  have g_ca : n0 ≤ ca := Nat.le_trans Z0 (Nat.le_of_eq g1.symm)
  have sz_ca : h0.size ≤ ca := Nat.le_trans (Keep.refl h0 []).1 (Nat.le_of_eq g1.symm)
  refine own_step st1 ?_
  have Dc1 := (CHr.ext E1 C0.1)
  have C1 := C0.trans Dc1
  have hk1 := Nat.le_trans (Nat.le_refl _) Dc1.2.1
  have Z1 := Nat.le_trans Z0 E1.1
  have KK1 := (Keep.refl h0 []).ext E1
  have V_ca : Arv Z h1 ca k1 .char (0 : Int32) [] (.int (0 : Int32)) := V1
  show own_Go _ _ _ _ T1 (mkF m 6 #[.val (.ref a1), .unset, .unset] [(.ref ca)])
  refine own_step (fun _ k => XS.astoreN X1.here hx rfl (hb hby d1_6) rfl rfl (l' := #[.val (.ref a1), .val (.ref ca), .unset]) rfl k) ?_
  show own_Go _ _ _ _ T1 (mkF m 7 #[.val (.ref a1), .val (.ref ca), .unset] [])
  refine own_step (fun _ k => XS.iconst X1.here hx rfl (hb hby d1_7) k) ?_
  show own_Go _ _ _ _ T1 (mkF m 8 #[.val (.ref a1), .val (.ref ca), .unset] [(.int (0 : Int32))])
  refine own_step (fun _ k => XS.istoreN X1.here hx rfl (hb hby d1_8) rfl (l' := #[.val (.ref a1), .val (.ref ca), .val (.int (0 : Int32))]) rfl k) ?_
  show own_Go _ _ _ _ T1 (mkF m 9 #[.val (.ref a1), .val (.ref ca), .val (.int (0 : Int32))] [])
  refine own_step (fun _ k => XS.iloadN X1.here hx rfl (hb hby d1_9) rfl k) ?_
  show own_Go _ _ _ _ T1 (mkF m 10 #[.val (.ref a1), .val (.ref ca), .val (.int (0 : Int32))] [(.int (0 : Int32))])
  refine own_step (fun _ k => XS.aloadN X1.here hx rfl (hb hby d1_10) rfl rfl k) ?_
  show own_Go _ _ _ _ T1 (mkF m 11 #[.val (.ref a1), .val (.ref ca), .val (.int (0 : Int32))] [(.ref a1), (.int (0 : Int32))])
  have Q2 := (VA.ext E1)
  refine own_step (own_len X1 hx hZ e1 Q2 (g := (mkF m 11 #[.val (.ref a1), .val (.ref ca), .val (.int (0 : Int32))] [(.ref a1), (.int (0 : Int32))])) rfl rfl (hb hby d1_11)) ?_
  show own_Go _ _ _ _ T1 (mkF m 12 #[.val (.ref a1), .val (.ref ca), .val (.int (0 : Int32))] [(.int (0 : Int32)), (.int (0 : Int32))])
  refine own_step (fun _ k => XS.icmpYes X1.here hx rfl (pc0 := 12) (pc' := 55) rfl (hb hby d1_12) rfl (flt (by decide : ¬ ((0 : Int32) < (0 : Int32)))).2.1 (by decide) (by decide) k) ?_
  show own_Go _ _ _ _ T1 (mkF m 55 #[.val (.ref a1), .val (.ref ca), .val (.int (0 : Int32))] [])
  obtain ⟨T3, h3, X3, e3, E3, A3, D3, -, st3⟩ := newO X1 hx hZ hown (hw _ (List.mem_of_getElem? (i := 8) rfl)) (hw _ (List.mem_of_getElem? (i := 9) rfl)) (hw _ (List.mem_of_getElem? (i := 10) rfl)) e1 (g := (mkF m 55 #[.val (.ref a1), .val (.ref ca), .val (.int (0 : Int32))] [])) rfl (hb hby d1_55) (by decide) (by decide)
  obtain ⟨so, g3⟩ : ∃ z, z = h1.size := ⟨_, rfl⟩
  rw [← g3] at A3 D3 st3
  have ne_a1_so : a1 ≠ so := Nat.ne_of_lt (Nat.lt_of_lt_of_eq Q2.lt g3.symm)
  have ne_ca_so : ca ≠ so := Nat.ne_of_lt (Nat.lt_of_lt_of_eq V_ca.lt g3.symm)
  have g_so : n0 ≤ so := Nat.le_trans Z1 (Nat.le_of_eq g3.symm)
  have sz_so : h0.size ≤ so := Nat.le_trans KK1.1 (Nat.le_of_eq g3.symm)
  refine own_step st3 ?_
  have Dc3 := (CHr.ext E3 C1.1)
  have C3 := C1.trans Dc3
  have hk3 := Nat.le_trans hk1 Dc3.2.1
  have Z3 := Nat.le_trans Z1 E3.1
  have KK3 := KK1.ext E3
  have F_coder_so : Fld Z h3 so "java/lang/String" "coder" "B" (.int (0 : Int32)) := D3 (Or.inr (hw _ (List.mem_of_getElem? (i := 33) rfl))) (ty := .byte) (by decide)
  have F_value_so : Fld Z h3 so "java/lang/String" "value" "[B" .null := D3 (Or.inr (hw _ (List.mem_of_getElem? (i := 35) rfl))) (ty := (.array .byte)) (by decide)
  show own_Go _ _ _ _ T3 (mkF m 58 #[.val (.ref a1), .val (.ref ca), .val (.int (0 : Int32))] [(.ref so)])
  refine own_step (fun _ k => XS.dup X3.here hx rfl (hb hby d1_58) rfl rfl k) ?_
  show own_Go _ _ _ _ T3 (mkF m 59 #[.val (.ref a1), .val (.ref ca), .val (.int (0 : Int32))] [(.ref so), (.ref so)])
  refine own_step (fun _ k => XS.aloadN X3.here hx rfl (hb hby d1_59) rfl rfl k) ?_
  show own_Go _ _ _ _ T3 (mkF m 60 #[.val (.ref a1), .val (.ref ca), .val (.int (0 : Int32))] [(.ref ca), (.ref so), (.ref so)])
  have Q4 := ((O0.ext E1).ext E3)
  have Q5 := (V_ca.ext E3)
  refine own_callCW X3 hx hZ (y := (⟨"java/lang/String", "<init>", "([C)V"⟩ : MethodName)) rfl hown (hw _ (List.mem_of_getElem? (i := 11) rfl)) (hw _ (List.mem_of_getElem? (i := 12) rfl)) (hw _ (List.mem_of_getElem? (i := 10) rfl)) (hw _ (List.mem_of_getElem? (i := 13) rfl)) (by decide) (rm2 l Z a0 hw [] so ca k1 cz (0 : Int32) ([] : List Int32) h3 n0 Z3 hEL Q4 SC hcz A3 F_coder_so F_value_so Q5 rfl (Nat.le_of_ble_eq_true rfl) (own_lat _ (fun c hc => by cases hc)) g_so) e3 hEL C3.1 hS0 hk3 (b := so) 1 (by decide) (by decide) (by decide) (by decide) (g := (mkF m 60 #[.val (.ref a1), .val (.ref ca), .val (.int (0 : Int32))] [(.ref ca), (.ref so), (.ref so)])) rfl (by rw [hml]; rfl) [(.ref ca)] [(.ref so)] pd_10 rfl rfl rfl (by show 2 * 0 + _ ≤ _; exact Nat.le_of_eq rfl) (hb hby d1_60) ?_
  rintro v6 T6 L6 X6 ⟨va_so, kv_so, rfl, Nq6, K6, ⟨EX6, FC6, FV6⟩, V6⟩ D6 hS6 hZ hown
  have N6 := Fr.app N0 Nq6
  show own_Go _ _ _ _ T6 (mkF m 63 #[.val (.ref a1), .val (.ref ca), .val (.int (0 : Int32))] [(.ref so)])
  have Dc6 := D6
  have C6 := C3.trans Dc6
  have Z6 := Nat.le_trans Z3 K6.1
  have KK6 := KK3.trans K6 (allS (P := fun x => x ∈ [] ∨ h0.size ≤ x) (Or.inr sz_so) all0)
  exact own_retA X6 hx hret rfl hlk rfl rfl (hb hby d1_63) (own_W X6 hS6 (Nat.le_refl _) rfl eS hZ hEL C6 (by exact ⟨so, va_so, kv_so, rfl, N6, KK6, g_so, ⟨EX6, FC6, FV6⟩, V6⟩) (by decide) (by decide)) 
set_option maxRecDepth 65536 in
set_option maxHeartbeats 40000000 in
theorem rm1_1 (l : Launch) (Z : State) (a0 : Array Value) (hw : ∀ d ∈ tables_1, d.before a0 Z = true) (ws : List Jvm.Cond) (a1 : Addr) (kA : ClassId) (cz : Int32) (dg : Addr) (kd : ClassId) (b0_ : Int32) (h0 : Heap) (n0 : Nat) (Z0 : n0 ≤ h0.size) (hEL : EW Z a0 own_EL) (O0 : Old Z n0 h0) (SC : Sta Z Z.heap "java/lang/String" "COMPACT_STRINGS" "Z" (.int cz)) (hcz : ¬ cz = (0 : Int32)) (SD : Sta Z Z.heap "com/example/fixwire/fixwire/Hex" "DIGITS" "[C" (.ref dg)) (VD : Arv Z Z.heap dg kd .char (16 : Int32) (own_dg.map Value.int) (.int (0 : Int32))) (VA : Arv Z h0 a1 kA .byte (1 : Int32) [(.int b0_)] (.int (0 : Int32))) :
    own_MetW l (⟨"com/example/fixwire/fixwire/Hex", "encode", "([B)Ljava/lang/String;"⟩ : MethodName) prog_14_method_3_code 3 (some (.object "java/lang/String")) ws ({ frames := 4, cells := 6, slots := 14, locals := 66 } : Room) #[(.ref a1)] Z own_EL h0 (fun v h L => ∃ o b k, v = some (.ref o) ∧ Fr n0 L ∧ Keep h0 h [] ∧ n0 ≤ o ∧ (Exa Z h o "java/lang/String" ∧ Fld Z h o "java/lang/String" "coder" "B" (.int (0 : Int32)) ∧ Fld Z h o "java/lang/String" "value" "[B" (.ref b)) ∧ Arv Z h b k .byte (2 : Int32) ((([(own_dgv (b0_ >>> ((4 : Int32) &&& 31))), (own_dgv b0_)] : List Int32).map (fun c => c.toInt8.toInt32)).map Value.int) (.int (0 : Int32))) := by
  refine own_bodyW (plainFor_of_name pn_5) (ef_1 a1) ?_
  intro p e s m below meth c T0 X0 hx hby hml0 hret hlk hnm hown hZ e0 eS H0 hS0
  have C0 := CHr.refl H0
  have hml : c.maxLocals = 3 := hml0
  have N0 := Fr.nil n0
  refine own_step (fun _ k => XS.aloadN X0.here hx rfl (hb hby d1_0) rfl rfl k) ?_
  show own_Go _ _ _ _ T0 (mkF m 1 #[.val (.ref a1), .unset, .unset] [(.ref a1)])
  refine own_step (own_len X0 hx hZ e0 VA (g := (mkF m 1 #[.val (.ref a1), .unset, .unset] [(.ref a1)])) rfl rfl (hb hby d1_1)) ?_
  show own_Go _ _ _ _ T0 (mkF m 2 #[.val (.ref a1), .unset, .unset] [(.int (1 : Int32))])
  refine own_step (fun _ k => XS.iconst X0.here hx rfl (hb hby d1_2) k) ?_
  show own_Go _ _ _ _ T0 (mkF m 3 #[.val (.ref a1), .unset, .unset] [(.int (2 : Int32)), (.int (1 : Int32))])
  refine own_step (fun _ k => XS.imul X0.here hx rfl (hb hby d1_3) rfl k) ?_
  show own_Go _ _ _ _ T0 (mkF m 4 #[.val (.ref a1), .unset, .unset] [(.int ((1 : Int32) * (2 : Int32)))])
  show own_Go _ _ _ _ T0 (mkF m 4 #[.val (.ref a1), .unset, .unset] [(.int (2 : Int32))])
  obtain ⟨T1, h1, k1, ca, g1, X1, e1, E1, V1, st1⟩ := own_newA X0 hx hZ (hw _ (List.mem_of_getElem? (i := 5) rfl)) e0 (g := (mkF m 4 #[.val (.ref a1), .unset, .unset] [(.int (2 : Int32))])) rfl (hb hby d1_4) rfl (by decide) (cap := 2) (by decide) (by decide) (by decide) (by decide)
  have ne_a1_ca : a1 ≠ ca := Nat.ne_of_lt (Nat.lt_of_lt_of_eq VA.lt g1.symm)
  have g_ca : n0 ≤ ca := Nat.le_trans Z0 (Nat.le_of_eq g1.symm)
  have sz_ca : h0.size ≤ ca := Nat.le_trans (Keep.refl h0 []).1 (Nat.le_of_eq g1.symm)
  refine own_step st1 ?_
  have Dc1 := (CHr.ext E1 C0.1)
  have C1 := C0.trans Dc1
  have hk1 := Nat.le_trans (Nat.le_refl _) Dc1.2.1
  have Z1 := Nat.le_trans Z0 E1.1
  have KK1 := (Keep.refl h0 []).ext E1
  have V_ca : Arv Z h1 ca k1 .char (2 : Int32) [(.int (0 : Int32)), (.int (0 : Int32))] (.int (0 : Int32)) := V1
  show own_Go _ _ _ _ T1 (mkF m 6 #[.val (.ref a1), .unset, .unset] [(.ref ca)])
  refine own_step (fun _ k => XS.astoreN X1.here hx rfl (hb hby d1_6) rfl rfl (l' := #[.val (.ref a1), .val (.ref ca), .unset]) rfl k) ?_
  show own_Go _ _ _ _ T1 (mkF m 7 #[.val (.ref a1), .val (.ref ca), .unset] [])
  refine own_step (fun _ k => XS.iconst X1.here hx rfl (hb hby d1_7) k) ?_
  show own_Go _ _ _ _ T1 (mkF m 8 #[.val (.ref a1), .val (.ref ca), .unset] [(.int (0 : Int32))])
  refine own_step (fun _ k => XS.istoreN X1.here hx rfl (hb hby d1_8) rfl (l' := #[.val (.ref a1), .val (.ref ca), .val (.int (0 : Int32))]) rfl k) ?_
  show own_Go _ _ _ _ T1 (mkF m 9 #[.val (.ref a1), .val (.ref ca), .val (.int (0 : Int32))] [])
  refine own_step (fun _ k => XS.iloadN X1.here hx rfl (hb hby d1_9) rfl k) ?_
  show own_Go _ _ _ _ T1 (mkF m 10 #[.val (.ref a1), .val (.ref ca), .val (.int (0 : Int32))] [(.int (0 : Int32))])
  refine own_step (fun _ k => XS.aloadN X1.here hx rfl (hb hby d1_10) rfl rfl k) ?_
  show own_Go _ _ _ _ T1 (mkF m 11 #[.val (.ref a1), .val (.ref ca), .val (.int (0 : Int32))] [(.ref a1), (.int (0 : Int32))])
  have Q2 := (VA.ext E1)
  refine own_step (own_len X1 hx hZ e1 Q2 (g := (mkF m 11 #[.val (.ref a1), .val (.ref ca), .val (.int (0 : Int32))] [(.ref a1), (.int (0 : Int32))])) rfl rfl (hb hby d1_11)) ?_
  show own_Go _ _ _ _ T1 (mkF m 12 #[.val (.ref a1), .val (.ref ca), .val (.int (0 : Int32))] [(.int (1 : Int32)), (.int (0 : Int32))])
  refine own_step (fun _ k => XS.icmpNo X1.here hx rfl (hb hby d1_12) rfl (tlt (by decide : (0 : Int32) < (1 : Int32))).2.1 k) ?_
  show own_Go _ _ _ _ T1 (mkF m 15 #[.val (.ref a1), .val (.ref ca), .val (.int (0 : Int32))] [])
  refine own_step (fun _ k => XS.aloadN X1.here hx rfl (hb hby d1_15) rfl rfl k) ?_
  show own_Go _ _ _ _ T1 (mkF m 16 #[.val (.ref a1), .val (.ref ca), .val (.int (0 : Int32))] [(.ref ca)])
  refine own_step (fun _ k => XS.iconst X1.here hx rfl (hb hby d1_16) k) ?_
  show own_Go _ _ _ _ T1 (mkF m 17 #[.val (.ref a1), .val (.ref ca), .val (.int (0 : Int32))] [(.int (2 : Int32)), (.ref ca)])
  refine own_step (fun _ k => XS.iloadN X1.here hx rfl (hb hby d1_17) rfl k) ?_
  show own_Go _ _ _ _ T1 (mkF m 18 #[.val (.ref a1), .val (.ref ca), .val (.int (0 : Int32))] [(.int (0 : Int32)), (.int (2 : Int32)), (.ref ca)])
  refine own_step (fun _ k => XS.imul X1.here hx rfl (hb hby d1_18) rfl k) ?_
  show own_Go _ _ _ _ T1 (mkF m 19 #[.val (.ref a1), .val (.ref ca), .val (.int (0 : Int32))] [(.int ((2 : Int32) * (0 : Int32))), (.ref ca)])
  show own_Go _ _ _ _ T1 (mkF m 19 #[.val (.ref a1), .val (.ref ca), .val (.int (0 : Int32))] [(.int (0 : Int32)), (.ref ca)])
  have Q4 := (O0.ext E1)
  obtain ⟨T3, X3, e3, st3⟩ := getS2 X1 hx hZ hown (host := "") (Or.inl (hw _ (List.mem_of_getElem? (i := 6) rfl))) Via.refl e1 (SD.ext Q4.2) (g := (mkF m 19 #[.val (.ref a1), .val (.ref ca), .val (.int (0 : Int32))] [(.int (0 : Int32)), (.ref ca)])) rfl (hb hby d1_19)
  refine own_step st3 ?_
  show own_Go _ _ _ _ T3 (mkF m 22 #[.val (.ref a1), .val (.ref ca), .val (.int (0 : Int32))] [(.ref dg), (.int (0 : Int32)), (.ref ca)])
  refine own_step (fun _ k => XS.aloadN X3.here hx rfl (hb hby d1_22) rfl rfl k) ?_
  show own_Go _ _ _ _ T3 (mkF m 23 #[.val (.ref a1), .val (.ref ca), .val (.int (0 : Int32))] [(.ref a1), (.ref dg), (.int (0 : Int32)), (.ref ca)])
  refine own_step (fun _ k => XS.iloadN X3.here hx rfl (hb hby d1_23) rfl k) ?_
  show own_Go _ _ _ _ T3 (mkF m 24 #[.val (.ref a1), .val (.ref ca), .val (.int (0 : Int32))] [(.int (0 : Int32)), (.ref a1), (.ref dg), (.int (0 : Int32)), (.ref ca)])
  refine own_step (own_ldB X3 hx hZ e3 Q2 (j := (0 : Int32)) (v := (.int b0_)) ⟨by decide, by decide⟩ rfl (g := (mkF m 24 #[.val (.ref a1), .val (.ref ca), .val (.int (0 : Int32))] [(.int (0 : Int32)), (.ref a1), (.ref dg), (.int (0 : Int32)), (.ref ca)])) rfl rfl (hb hby d1_24)) ?_
  show own_Go _ _ _ _ T3 (mkF m 25 #[.val (.ref a1), .val (.ref ca), .val (.int (0 : Int32))] [(.int b0_), (.ref dg), (.int (0 : Int32)), (.ref ca)])
  refine own_step (fun _ k => XS.iconst X3.here hx rfl (hb hby d1_25) k) ?_
  show own_Go _ _ _ _ T3 (mkF m 26 #[.val (.ref a1), .val (.ref ca), .val (.int (0 : Int32))] [(.int (4 : Int32)), (.int b0_), (.ref dg), (.int (0 : Int32)), (.ref ca)])
  refine own_step (fun _ k => XS.ishr X3.here hx rfl (hb hby d1_26) rfl k) ?_
  show own_Go _ _ _ _ T3 (mkF m 27 #[.val (.ref a1), .val (.ref ca), .val (.int (0 : Int32))] [(.int (b0_ >>> ((4 : Int32) &&& 31))), (.ref dg), (.int (0 : Int32)), (.ref ca)])
  refine own_step (fun _ k => XS.bipush X3.here hx rfl (hb hby d1_27) k) ?_
  show own_Go _ _ _ _ T3 (mkF m 29 #[.val (.ref a1), .val (.ref ca), .val (.int (0 : Int32))] [(.int (15 : Int32)), (.int (b0_ >>> ((4 : Int32) &&& 31))), (.ref dg), (.int (0 : Int32)), (.ref ca)])
  refine own_step (fun _ k => XS.iand X3.here hx rfl (hb hby d1_29) rfl k) ?_
  show own_Go _ _ _ _ T3 (mkF m 30 #[.val (.ref a1), .val (.ref ca), .val (.int (0 : Int32))] [(.int ((b0_ >>> ((4 : Int32) &&& 31)) &&& (15 : Int32))), (.ref dg), (.int (0 : Int32)), (.ref ca)])
  refine own_step (own_ldC X3 hx hZ e3 (VD.ext Q4.2) (j := ((b0_ >>> ((4 : Int32) &&& 31)) &&& (15 : Int32))) (v := (.int (own_dgv (b0_ >>> ((4 : Int32) &&& 31))))) (own_nib (b0_ >>> ((4 : Int32) &&& 31))) (own_getI own_dg _ _) (g := (mkF m 30 #[.val (.ref a1), .val (.ref ca), .val (.int (0 : Int32))] [(.int ((b0_ >>> ((4 : Int32) &&& 31)) &&& (15 : Int32))), (.ref dg), (.int (0 : Int32)), (.ref ca)])) rfl rfl (hb hby d1_30)) ?_
  show own_Go _ _ _ _ T3 (mkF m 31 #[.val (.ref a1), .val (.ref ca), .val (.int (0 : Int32))] [(.int (own_dgv (b0_ >>> ((4 : Int32) &&& 31)))), (.int (0 : Int32)), (.ref ca)])
  obtain ⟨T5, h5, l5, X5, e5, W5, V5, st5⟩ := own_stC X3 hx hZ e3 V_ca (j := (0 : Int32)) ⟨by decide, by decide⟩ 0 rfl (Nat.le_of_ble_eq_true rfl) (g := (mkF m 31 #[.val (.ref a1), .val (.ref ca), .val (.int (0 : Int32))] [(.int (own_dgv (b0_ >>> ((4 : Int32) &&& 31)))), (.int (0 : Int32)), (.ref ca)])) rfl rfl (hb hby d1_31)
  refine own_step st5 ?_
  have N5 := Fr.snoc X5 N0 g_ca
  have Dc5 := (CHr.wr W5 (Safe.arv (EL := own_EL) hZ.alike V_ca (by decide)) C1.1)
  have C5 := C1.trans Dc5
  have hk5 := Nat.le_trans hk1 Dc5.2.1
  have Z5 := Nat.le_trans Z1 (Keep.of_wr W5).1
  have KK5 := KK1.wr W5 (Or.inr sz_ca)
  rw [own_dgn] at V5
  have V_ca_5 : Arv Z h5 ca k1 .char (2 : Int32) [(.int (own_dgv (b0_ >>> ((4 : Int32) &&& 31)))), (.int (0 : Int32))] (.int (0 : Int32)) := V5
  show own_Go _ _ _ _ T5 (mkF m 32 #[.val (.ref a1), .val (.ref ca), .val (.int (0 : Int32))] [])
  refine own_step (fun _ k => XS.aloadN X5.here hx rfl (hb hby d1_32) rfl rfl k) ?_
  show own_Go _ _ _ _ T5 (mkF m 33 #[.val (.ref a1), .val (.ref ca), .val (.int (0 : Int32))] [(.ref ca)])
  refine own_step (fun _ k => XS.iconst X5.here hx rfl (hb hby d1_33) k) ?_
  show own_Go _ _ _ _ T5 (mkF m 34 #[.val (.ref a1), .val (.ref ca), .val (.int (0 : Int32))] [(.int (2 : Int32)), (.ref ca)])
  refine own_step (fun _ k => XS.iloadN X5.here hx rfl (hb hby d1_34) rfl k) ?_
  show own_Go _ _ _ _ T5 (mkF m 35 #[.val (.ref a1), .val (.ref ca), .val (.int (0 : Int32))] [(.int (0 : Int32)), (.int (2 : Int32)), (.ref ca)])
  refine own_step (fun _ k => XS.imul X5.here hx rfl (hb hby d1_35) rfl k) ?_
  show own_Go _ _ _ _ T5 (mkF m 36 #[.val (.ref a1), .val (.ref ca), .val (.int (0 : Int32))] [(.int ((2 : Int32) * (0 : Int32))), (.ref ca)])
  show own_Go _ _ _ _ T5 (mkF m 36 #[.val (.ref a1), .val (.ref ca), .val (.int (0 : Int32))] [(.int (0 : Int32)), (.ref ca)])
  refine own_step (fun _ k => XS.iconst X5.here hx rfl (hb hby d1_36) k) ?_
  show own_Go _ _ _ _ T5 (mkF m 37 #[.val (.ref a1), .val (.ref ca), .val (.int (0 : Int32))] [(.int (1 : Int32)), (.int (0 : Int32)), (.ref ca)])
  refine own_step (fun _ k => XS.iadd X5.here hx rfl (hb hby d1_37) rfl k) ?_
  show own_Go _ _ _ _ T5 (mkF m 38 #[.val (.ref a1), .val (.ref ca), .val (.int (0 : Int32))] [(.int ((0 : Int32) + (1 : Int32))), (.ref ca)])
  show own_Go _ _ _ _ T5 (mkF m 38 #[.val (.ref a1), .val (.ref ca), .val (.int (0 : Int32))] [(.int (1 : Int32)), (.ref ca)])
  have Q7 := (Q4.wr W5 g_ca)
  obtain ⟨T6, X6, e6, st6⟩ := getS2 X5 hx hZ hown (host := "") (Or.inl (hw _ (List.mem_of_getElem? (i := 6) rfl))) Via.refl e5 (SD.ext Q7.2) (g := (mkF m 38 #[.val (.ref a1), .val (.ref ca), .val (.int (0 : Int32))] [(.int (1 : Int32)), (.ref ca)])) rfl (hb hby d1_38)
  refine own_step st6 ?_
  show own_Go _ _ _ _ T6 (mkF m 41 #[.val (.ref a1), .val (.ref ca), .val (.int (0 : Int32))] [(.ref dg), (.int (1 : Int32)), (.ref ca)])
  refine own_step (fun _ k => XS.aloadN X6.here hx rfl (hb hby d1_41) rfl rfl k) ?_
  show own_Go _ _ _ _ T6 (mkF m 42 #[.val (.ref a1), .val (.ref ca), .val (.int (0 : Int32))] [(.ref a1), (.ref dg), (.int (1 : Int32)), (.ref ca)])
  refine own_step (fun _ k => XS.iloadN X6.here hx rfl (hb hby d1_42) rfl k) ?_
  show own_Go _ _ _ _ T6 (mkF m 43 #[.val (.ref a1), .val (.ref ca), .val (.int (0 : Int32))] [(.int (0 : Int32)), (.ref a1), (.ref dg), (.int (1 : Int32)), (.ref ca)])
  have Q8 := (Q2.other W5 ne_a1_ca)
  refine own_step (own_ldB X6 hx hZ e6 Q8 (j := (0 : Int32)) (v := (.int b0_)) ⟨by decide, by decide⟩ rfl (g := (mkF m 43 #[.val (.ref a1), .val (.ref ca), .val (.int (0 : Int32))] [(.int (0 : Int32)), (.ref a1), (.ref dg), (.int (1 : Int32)), (.ref ca)])) rfl rfl (hb hby d1_43)) ?_
  show own_Go _ _ _ _ T6 (mkF m 44 #[.val (.ref a1), .val (.ref ca), .val (.int (0 : Int32))] [(.int b0_), (.ref dg), (.int (1 : Int32)), (.ref ca)])
  refine own_step (fun _ k => XS.bipush X6.here hx rfl (hb hby d1_44) k) ?_
  show own_Go _ _ _ _ T6 (mkF m 46 #[.val (.ref a1), .val (.ref ca), .val (.int (0 : Int32))] [(.int (15 : Int32)), (.int b0_), (.ref dg), (.int (1 : Int32)), (.ref ca)])
  refine own_step (fun _ k => XS.iand X6.here hx rfl (hb hby d1_46) rfl k) ?_
  show own_Go _ _ _ _ T6 (mkF m 47 #[.val (.ref a1), .val (.ref ca), .val (.int (0 : Int32))] [(.int (b0_ &&& (15 : Int32))), (.ref dg), (.int (1 : Int32)), (.ref ca)])
  refine own_step (own_ldC X6 hx hZ e6 (VD.ext Q7.2) (j := (b0_ &&& (15 : Int32))) (v := (.int (own_dgv b0_))) (own_nib b0_) (own_getI own_dg _ _) (g := (mkF m 47 #[.val (.ref a1), .val (.ref ca), .val (.int (0 : Int32))] [(.int (b0_ &&& (15 : Int32))), (.ref dg), (.int (1 : Int32)), (.ref ca)])) rfl rfl (hb hby d1_47)) ?_
  show own_Go _ _ _ _ T6 (mkF m 48 #[.val (.ref a1), .val (.ref ca), .val (.int (0 : Int32))] [(.int (own_dgv b0_)), (.int (1 : Int32)), (.ref ca)])
  obtain ⟨T9, h9, l9, X9, e9, W9, V9, st9⟩ := own_stC X6 hx hZ e6 V_ca_5 (j := (1 : Int32)) ⟨by decide, by decide⟩ 1 rfl (Nat.le_of_ble_eq_true rfl) (g := (mkF m 48 #[.val (.ref a1), .val (.ref ca), .val (.int (0 : Int32))] [(.int (own_dgv b0_)), (.int (1 : Int32)), (.ref ca)])) rfl rfl (hb hby d1_48)
  refine own_step st9 ?_
  have N9 := Fr.snoc X9 N5 g_ca
  have Dc9 := (CHr.wr W9 (Safe.arv (EL := own_EL) hZ.alike V_ca_5 (by decide)) C5.1)
  have C9 := C5.trans Dc9
  have hk9 := Nat.le_trans hk5 Dc9.2.1
  have Z9 := Nat.le_trans Z5 (Keep.of_wr W9).1
  have KK9 := KK5.wr W9 (Or.inr sz_ca)
  rw [own_dgn] at V9
  have V_ca_9 : Arv Z h9 ca k1 .char (2 : Int32) [(.int (own_dgv (b0_ >>> ((4 : Int32) &&& 31)))), (.int (own_dgv b0_))] (.int (0 : Int32)) := V9
  show own_Go _ _ _ _ T9 (mkF m 49 #[.val (.ref a1), .val (.ref ca), .val (.int (0 : Int32))] [])
  refine own_step (fun _ k => XS.iinc X9.here hx rfl (hb hby d1_49) rfl (l' := #[.val (.ref a1), .val (.ref ca), .val (.int (1 : Int32))]) rfl k) ?_
  show own_Go _ _ _ _ T9 (mkF m 52 #[.val (.ref a1), .val (.ref ca), .val (.int (1 : Int32))] [])
  refine own_step (fun _ k => XS.goto X9.here hx rfl (pc0 := 52) (pc' := 9) rfl (hb hby d1_52) (by decide) (by decide) k) ?_
  show own_Go _ _ _ _ T9 (mkF m 9 #[.val (.ref a1), .val (.ref ca), .val (.int (1 : Int32))] [])
  refine own_step (fun _ k => XS.iloadN X9.here hx rfl (hb hby d1_9) rfl k) ?_
  show own_Go _ _ _ _ T9 (mkF m 10 #[.val (.ref a1), .val (.ref ca), .val (.int (1 : Int32))] [(.int (1 : Int32))])
  refine own_step (fun _ k => XS.aloadN X9.here hx rfl (hb hby d1_10) rfl rfl k) ?_
  show own_Go _ _ _ _ T9 (mkF m 11 #[.val (.ref a1), .val (.ref ca), .val (.int (1 : Int32))] [(.ref a1), (.int (1 : Int32))])
  have Q10 := (Q8.other W9 ne_a1_ca)
  refine own_step (own_len X9 hx hZ e9 Q10 (g := (mkF m 11 #[.val (.ref a1), .val (.ref ca), .val (.int (1 : Int32))] [(.ref a1), (.int (1 : Int32))])) rfl rfl (hb hby d1_11)) ?_
  show own_Go _ _ _ _ T9 (mkF m 12 #[.val (.ref a1), .val (.ref ca), .val (.int (1 : Int32))] [(.int (1 : Int32)), (.int (1 : Int32))])
  refine own_step (fun _ k => XS.icmpYes X9.here hx rfl (pc0 := 12) (pc' := 55) rfl (hb hby d1_12) rfl (flt (by decide : ¬ ((1 : Int32) < (1 : Int32)))).2.1 (by decide) (by decide) k) ?_
  show own_Go _ _ _ _ T9 (mkF m 55 #[.val (.ref a1), .val (.ref ca), .val (.int (1 : Int32))] [])
  obtain ⟨T11, h11, X11, e11, E11, A11, D11, -, st11⟩ := newO X9 hx hZ hown (hw _ (List.mem_of_getElem? (i := 8) rfl)) (hw _ (List.mem_of_getElem? (i := 9) rfl)) (hw _ (List.mem_of_getElem? (i := 10) rfl)) e9 (g := (mkF m 55 #[.val (.ref a1), .val (.ref ca), .val (.int (1 : Int32))] [])) rfl (hb hby d1_55) (by decide) (by decide)
  obtain ⟨so, g11⟩ : ∃ z, z = h9.size := ⟨_, rfl⟩
  rw [← g11] at A11 D11 st11
  have ne_a1_so : a1 ≠ so := Nat.ne_of_lt (Nat.lt_of_lt_of_eq Q10.lt g11.symm)
  have ne_ca_so : ca ≠ so := Nat.ne_of_lt (Nat.lt_of_lt_of_eq V_ca_9.lt g11.symm)
  have g_so : n0 ≤ so := Nat.le_trans Z9 (Nat.le_of_eq g11.symm)
  have sz_so : h0.size ≤ so := Nat.le_trans KK9.1 (Nat.le_of_eq g11.symm)
  refine own_step st11 ?_
  have Dc11 := (CHr.ext E11 C9.1)
  have C11 := C9.trans Dc11
  have hk11 := Nat.le_trans hk9 Dc11.2.1
  have Z11 := Nat.le_trans Z9 E11.1
  have KK11 := KK9.ext E11
  have F_coder_so : Fld Z h11 so "java/lang/String" "coder" "B" (.int (0 : Int32)) := D11 (Or.inr (hw _ (List.mem_of_getElem? (i := 33) rfl))) (ty := .byte) (by decide)
  have F_value_so : Fld Z h11 so "java/lang/String" "value" "[B" .null := D11 (Or.inr (hw _ (List.mem_of_getElem? (i := 35) rfl))) (ty := (.array .byte)) (by decide)
  show own_Go _ _ _ _ T11 (mkF m 58 #[.val (.ref a1), .val (.ref ca), .val (.int (1 : Int32))] [(.ref so)])
  refine own_step (fun _ k => XS.dup X11.here hx rfl (hb hby d1_58) rfl rfl k) ?_
  show own_Go _ _ _ _ T11 (mkF m 59 #[.val (.ref a1), .val (.ref ca), .val (.int (1 : Int32))] [(.ref so), (.ref so)])
  refine own_step (fun _ k => XS.aloadN X11.here hx rfl (hb hby d1_59) rfl rfl k) ?_
  show own_Go _ _ _ _ T11 (mkF m 60 #[.val (.ref a1), .val (.ref ca), .val (.int (1 : Int32))] [(.ref ca), (.ref so), (.ref so)])
  have Q12 := ((Q7.wr W9 g_ca).ext E11)
  have Q13 := (V_ca_9.ext E11)
  refine own_callCW X11 hx hZ (y := (⟨"java/lang/String", "<init>", "([C)V"⟩ : MethodName)) rfl hown (hw _ (List.mem_of_getElem? (i := 11) rfl)) (hw _ (List.mem_of_getElem? (i := 12) rfl)) (hw _ (List.mem_of_getElem? (i := 10) rfl)) (hw _ (List.mem_of_getElem? (i := 13) rfl)) (by decide) (rm2 l Z a0 hw [] so ca k1 cz (2 : Int32) ([(own_dgv (b0_ >>> ((4 : Int32) &&& 31))), (own_dgv b0_)] : List Int32) h11 n0 Z11 hEL Q12 SC hcz A11 F_coder_so F_value_so Q13 rfl (Nat.le_of_ble_eq_true rfl) (own_lat _ (by intro c hc; simp only [List.mem_cons, List.not_mem_nil, or_false] at hc; rcases hc with rfl | rfl; exact own_dgl _; exact own_dgl _)) g_so) e11 hEL C11.1 hS0 hk11 (b := so) 1 (by decide) (by decide) (by decide) (by decide) (g := (mkF m 60 #[.val (.ref a1), .val (.ref ca), .val (.int (1 : Int32))] [(.ref ca), (.ref so), (.ref so)])) rfl (by rw [hml]; rfl) [(.ref ca)] [(.ref so)] pd_10 rfl rfl rfl (by show 2 * 0 + _ ≤ _; exact Nat.le_of_eq rfl) (hb hby d1_60) ?_
  rintro v14 T14 L14 X14 ⟨va_so, kv_so, rfl, Nq14, K14, ⟨EX14, FC14, FV14⟩, V14⟩ D14 hS14 hZ hown
  have N14 := Fr.app N9 Nq14
  show own_Go _ _ _ _ T14 (mkF m 63 #[.val (.ref a1), .val (.ref ca), .val (.int (1 : Int32))] [(.ref so)])
  have Dc14 := D14
  have C14 := C11.trans Dc14
  have Z14 := Nat.le_trans Z11 K14.1
  have KK14 := KK11.trans K14 (allS (P := fun x => x ∈ [] ∨ h0.size ≤ x) (Or.inr sz_so) all0)
  exact own_retA X14 hx hret rfl hlk rfl rfl (hb hby d1_63) (own_W X14 hS14 (Nat.le_refl _) rfl eS hZ hEL C14 (by exact ⟨so, va_so, kv_so, rfl, N14, KK14, g_so, ⟨EX14, FC14, FV14⟩, V14⟩) (by decide) (by decide)) 
set_option maxRecDepth 65536 in
set_option maxHeartbeats 40000000 in
theorem rm1_2 (l : Launch) (Z : State) (a0 : Array Value) (hw : ∀ d ∈ tables_1, d.before a0 Z = true) (ws : List Jvm.Cond) (a1 : Addr) (kA : ClassId) (cz : Int32) (dg : Addr) (kd : ClassId) (b0_ b1_ : Int32) (h0 : Heap) (n0 : Nat) (Z0 : n0 ≤ h0.size) (hEL : EW Z a0 own_EL) (O0 : Old Z n0 h0) (SC : Sta Z Z.heap "java/lang/String" "COMPACT_STRINGS" "Z" (.int cz)) (hcz : ¬ cz = (0 : Int32)) (SD : Sta Z Z.heap "com/example/fixwire/fixwire/Hex" "DIGITS" "[C" (.ref dg)) (VD : Arv Z Z.heap dg kd .char (16 : Int32) (own_dg.map Value.int) (.int (0 : Int32))) (VA : Arv Z h0 a1 kA .byte (2 : Int32) [(.int b0_), (.int b1_)] (.int (0 : Int32))) :
    own_MetW l (⟨"com/example/fixwire/fixwire/Hex", "encode", "([B)Ljava/lang/String;"⟩ : MethodName) prog_14_method_3_code 3 (some (.object "java/lang/String")) ws ({ frames := 4, cells := 6, slots := 16, locals := 66 } : Room) #[(.ref a1)] Z own_EL h0 (fun v h L => ∃ o b k, v = some (.ref o) ∧ Fr n0 L ∧ Keep h0 h [] ∧ n0 ≤ o ∧ (Exa Z h o "java/lang/String" ∧ Fld Z h o "java/lang/String" "coder" "B" (.int (0 : Int32)) ∧ Fld Z h o "java/lang/String" "value" "[B" (.ref b)) ∧ Arv Z h b k .byte (4 : Int32) ((([(own_dgv (b0_ >>> ((4 : Int32) &&& 31))), (own_dgv b0_), (own_dgv (b1_ >>> ((4 : Int32) &&& 31))), (own_dgv b1_)] : List Int32).map (fun c => c.toInt8.toInt32)).map Value.int) (.int (0 : Int32))) := by
  refine own_bodyW (plainFor_of_name pn_5) (ef_1 a1) ?_
  intro p e s m below meth c T0 X0 hx hby hml0 hret hlk hnm hown hZ e0 eS H0 hS0
  have C0 := CHr.refl H0
  have hml : c.maxLocals = 3 := hml0
  have N0 := Fr.nil n0
  refine own_step (fun _ k => XS.aloadN X0.here hx rfl (hb hby d1_0) rfl rfl k) ?_
  show own_Go _ _ _ _ T0 (mkF m 1 #[.val (.ref a1), .unset, .unset] [(.ref a1)])
  refine own_step (own_len X0 hx hZ e0 VA (g := (mkF m 1 #[.val (.ref a1), .unset, .unset] [(.ref a1)])) rfl rfl (hb hby d1_1)) ?_
  show own_Go _ _ _ _ T0 (mkF m 2 #[.val (.ref a1), .unset, .unset] [(.int (2 : Int32))])
  refine own_step (fun _ k => XS.iconst X0.here hx rfl (hb hby d1_2) k) ?_
  show own_Go _ _ _ _ T0 (mkF m 3 #[.val (.ref a1), .unset, .unset] [(.int (2 : Int32)), (.int (2 : Int32))])
  refine own_step (fun _ k => XS.imul X0.here hx rfl (hb hby d1_3) rfl k) ?_
  show own_Go _ _ _ _ T0 (mkF m 4 #[.val (.ref a1), .unset, .unset] [(.int ((2 : Int32) * (2 : Int32)))])
  show own_Go _ _ _ _ T0 (mkF m 4 #[.val (.ref a1), .unset, .unset] [(.int (4 : Int32))])
  obtain ⟨T1, h1, k1, ca, g1, X1, e1, E1, V1, st1⟩ := own_newA X0 hx hZ (hw _ (List.mem_of_getElem? (i := 5) rfl)) e0 (g := (mkF m 4 #[.val (.ref a1), .unset, .unset] [(.int (4 : Int32))])) rfl (hb hby d1_4) rfl (by decide) (cap := 4) (by decide) (by decide) (by decide) (by decide)
  have ne_a1_ca : a1 ≠ ca := Nat.ne_of_lt (Nat.lt_of_lt_of_eq VA.lt g1.symm)
  have g_ca : n0 ≤ ca := Nat.le_trans Z0 (Nat.le_of_eq g1.symm)
  have sz_ca : h0.size ≤ ca := Nat.le_trans (Keep.refl h0 []).1 (Nat.le_of_eq g1.symm)
  refine own_step st1 ?_
  have Dc1 := (CHr.ext E1 C0.1)
  have C1 := C0.trans Dc1
  have hk1 := Nat.le_trans (Nat.le_refl _) Dc1.2.1
  have Z1 := Nat.le_trans Z0 E1.1
  have KK1 := (Keep.refl h0 []).ext E1
  have V_ca : Arv Z h1 ca k1 .char (4 : Int32) [(.int (0 : Int32)), (.int (0 : Int32)), (.int (0 : Int32)), (.int (0 : Int32))] (.int (0 : Int32)) := V1
  show own_Go _ _ _ _ T1 (mkF m 6 #[.val (.ref a1), .unset, .unset] [(.ref ca)])
  refine own_step (fun _ k => XS.astoreN X1.here hx rfl (hb hby d1_6) rfl rfl (l' := #[.val (.ref a1), .val (.ref ca), .unset]) rfl k) ?_
  show own_Go _ _ _ _ T1 (mkF m 7 #[.val (.ref a1), .val (.ref ca), .unset] [])
  refine own_step (fun _ k => XS.iconst X1.here hx rfl (hb hby d1_7) k) ?_
  show own_Go _ _ _ _ T1 (mkF m 8 #[.val (.ref a1), .val (.ref ca), .unset] [(.int (0 : Int32))])
  refine own_step (fun _ k => XS.istoreN X1.here hx rfl (hb hby d1_8) rfl (l' := #[.val (.ref a1), .val (.ref ca), .val (.int (0 : Int32))]) rfl k) ?_
  show own_Go _ _ _ _ T1 (mkF m 9 #[.val (.ref a1), .val (.ref ca), .val (.int (0 : Int32))] [])
  refine own_step (fun _ k => XS.iloadN X1.here hx rfl (hb hby d1_9) rfl k) ?_
  show own_Go _ _ _ _ T1 (mkF m 10 #[.val (.ref a1), .val (.ref ca), .val (.int (0 : Int32))] [(.int (0 : Int32))])
  refine own_step (fun _ k => XS.aloadN X1.here hx rfl (hb hby d1_10) rfl rfl k) ?_
  show own_Go _ _ _ _ T1 (mkF m 11 #[.val (.ref a1), .val (.ref ca), .val (.int (0 : Int32))] [(.ref a1), (.int (0 : Int32))])
  have Q2 := (VA.ext E1)
  refine own_step (own_len X1 hx hZ e1 Q2 (g := (mkF m 11 #[.val (.ref a1), .val (.ref ca), .val (.int (0 : Int32))] [(.ref a1), (.int (0 : Int32))])) rfl rfl (hb hby d1_11)) ?_
  show own_Go _ _ _ _ T1 (mkF m 12 #[.val (.ref a1), .val (.ref ca), .val (.int (0 : Int32))] [(.int (2 : Int32)), (.int (0 : Int32))])
  refine own_step (fun _ k => XS.icmpNo X1.here hx rfl (hb hby d1_12) rfl (tlt (by decide : (0 : Int32) < (2 : Int32))).2.1 k) ?_
  show own_Go _ _ _ _ T1 (mkF m 15 #[.val (.ref a1), .val (.ref ca), .val (.int (0 : Int32))] [])
  refine own_step (fun _ k => XS.aloadN X1.here hx rfl (hb hby d1_15) rfl rfl k) ?_
  show own_Go _ _ _ _ T1 (mkF m 16 #[.val (.ref a1), .val (.ref ca), .val (.int (0 : Int32))] [(.ref ca)])
  refine own_step (fun _ k => XS.iconst X1.here hx rfl (hb hby d1_16) k) ?_
  show own_Go _ _ _ _ T1 (mkF m 17 #[.val (.ref a1), .val (.ref ca), .val (.int (0 : Int32))] [(.int (2 : Int32)), (.ref ca)])
  refine own_step (fun _ k => XS.iloadN X1.here hx rfl (hb hby d1_17) rfl k) ?_
  show own_Go _ _ _ _ T1 (mkF m 18 #[.val (.ref a1), .val (.ref ca), .val (.int (0 : Int32))] [(.int (0 : Int32)), (.int (2 : Int32)), (.ref ca)])
  refine own_step (fun _ k => XS.imul X1.here hx rfl (hb hby d1_18) rfl k) ?_
  show own_Go _ _ _ _ T1 (mkF m 19 #[.val (.ref a1), .val (.ref ca), .val (.int (0 : Int32))] [(.int ((2 : Int32) * (0 : Int32))), (.ref ca)])
  show own_Go _ _ _ _ T1 (mkF m 19 #[.val (.ref a1), .val (.ref ca), .val (.int (0 : Int32))] [(.int (0 : Int32)), (.ref ca)])
  have Q4 := (O0.ext E1)
  obtain ⟨T3, X3, e3, st3⟩ := getS2 X1 hx hZ hown (host := "") (Or.inl (hw _ (List.mem_of_getElem? (i := 6) rfl))) Via.refl e1 (SD.ext Q4.2) (g := (mkF m 19 #[.val (.ref a1), .val (.ref ca), .val (.int (0 : Int32))] [(.int (0 : Int32)), (.ref ca)])) rfl (hb hby d1_19)
  refine own_step st3 ?_
  show own_Go _ _ _ _ T3 (mkF m 22 #[.val (.ref a1), .val (.ref ca), .val (.int (0 : Int32))] [(.ref dg), (.int (0 : Int32)), (.ref ca)])
  refine own_step (fun _ k => XS.aloadN X3.here hx rfl (hb hby d1_22) rfl rfl k) ?_
  show own_Go _ _ _ _ T3 (mkF m 23 #[.val (.ref a1), .val (.ref ca), .val (.int (0 : Int32))] [(.ref a1), (.ref dg), (.int (0 : Int32)), (.ref ca)])
  refine own_step (fun _ k => XS.iloadN X3.here hx rfl (hb hby d1_23) rfl k) ?_
  show own_Go _ _ _ _ T3 (mkF m 24 #[.val (.ref a1), .val (.ref ca), .val (.int (0 : Int32))] [(.int (0 : Int32)), (.ref a1), (.ref dg), (.int (0 : Int32)), (.ref ca)])
  refine own_step (own_ldB X3 hx hZ e3 Q2 (j := (0 : Int32)) (v := (.int b0_)) ⟨by decide, by decide⟩ rfl (g := (mkF m 24 #[.val (.ref a1), .val (.ref ca), .val (.int (0 : Int32))] [(.int (0 : Int32)), (.ref a1), (.ref dg), (.int (0 : Int32)), (.ref ca)])) rfl rfl (hb hby d1_24)) ?_
  show own_Go _ _ _ _ T3 (mkF m 25 #[.val (.ref a1), .val (.ref ca), .val (.int (0 : Int32))] [(.int b0_), (.ref dg), (.int (0 : Int32)), (.ref ca)])
  refine own_step (fun _ k => XS.iconst X3.here hx rfl (hb hby d1_25) k) ?_
  show own_Go _ _ _ _ T3 (mkF m 26 #[.val (.ref a1), .val (.ref ca), .val (.int (0 : Int32))] [(.int (4 : Int32)), (.int b0_), (.ref dg), (.int (0 : Int32)), (.ref ca)])
  refine own_step (fun _ k => XS.ishr X3.here hx rfl (hb hby d1_26) rfl k) ?_
  show own_Go _ _ _ _ T3 (mkF m 27 #[.val (.ref a1), .val (.ref ca), .val (.int (0 : Int32))] [(.int (b0_ >>> ((4 : Int32) &&& 31))), (.ref dg), (.int (0 : Int32)), (.ref ca)])
  refine own_step (fun _ k => XS.bipush X3.here hx rfl (hb hby d1_27) k) ?_
  show own_Go _ _ _ _ T3 (mkF m 29 #[.val (.ref a1), .val (.ref ca), .val (.int (0 : Int32))] [(.int (15 : Int32)), (.int (b0_ >>> ((4 : Int32) &&& 31))), (.ref dg), (.int (0 : Int32)), (.ref ca)])
  refine own_step (fun _ k => XS.iand X3.here hx rfl (hb hby d1_29) rfl k) ?_
  show own_Go _ _ _ _ T3 (mkF m 30 #[.val (.ref a1), .val (.ref ca), .val (.int (0 : Int32))] [(.int ((b0_ >>> ((4 : Int32) &&& 31)) &&& (15 : Int32))), (.ref dg), (.int (0 : Int32)), (.ref ca)])
  refine own_step (own_ldC X3 hx hZ e3 (VD.ext Q4.2) (j := ((b0_ >>> ((4 : Int32) &&& 31)) &&& (15 : Int32))) (v := (.int (own_dgv (b0_ >>> ((4 : Int32) &&& 31))))) (own_nib (b0_ >>> ((4 : Int32) &&& 31))) (own_getI own_dg _ _) (g := (mkF m 30 #[.val (.ref a1), .val (.ref ca), .val (.int (0 : Int32))] [(.int ((b0_ >>> ((4 : Int32) &&& 31)) &&& (15 : Int32))), (.ref dg), (.int (0 : Int32)), (.ref ca)])) rfl rfl (hb hby d1_30)) ?_
  show own_Go _ _ _ _ T3 (mkF m 31 #[.val (.ref a1), .val (.ref ca), .val (.int (0 : Int32))] [(.int (own_dgv (b0_ >>> ((4 : Int32) &&& 31)))), (.int (0 : Int32)), (.ref ca)])
  obtain ⟨T5, h5, l5, X5, e5, W5, V5, st5⟩ := own_stC X3 hx hZ e3 V_ca (j := (0 : Int32)) ⟨by decide, by decide⟩ 0 rfl (Nat.le_of_ble_eq_true rfl) (g := (mkF m 31 #[.val (.ref a1), .val (.ref ca), .val (.int (0 : Int32))] [(.int (own_dgv (b0_ >>> ((4 : Int32) &&& 31)))), (.int (0 : Int32)), (.ref ca)])) rfl rfl (hb hby d1_31)
  refine own_step st5 ?_
  have N5 := Fr.snoc X5 N0 g_ca
  have Dc5 := (CHr.wr W5 (Safe.arv (EL := own_EL) hZ.alike V_ca (by decide)) C1.1)
  have C5 := C1.trans Dc5
  have hk5 := Nat.le_trans hk1 Dc5.2.1
  have Z5 := Nat.le_trans Z1 (Keep.of_wr W5).1
  have KK5 := KK1.wr W5 (Or.inr sz_ca)
  rw [own_dgn] at V5
  have V_ca_5 : Arv Z h5 ca k1 .char (4 : Int32) [(.int (own_dgv (b0_ >>> ((4 : Int32) &&& 31)))), (.int (0 : Int32)), (.int (0 : Int32)), (.int (0 : Int32))] (.int (0 : Int32)) := V5
  show own_Go _ _ _ _ T5 (mkF m 32 #[.val (.ref a1), .val (.ref ca), .val (.int (0 : Int32))] [])
  refine own_step (fun _ k => XS.aloadN X5.here hx rfl (hb hby d1_32) rfl rfl k) ?_
  show own_Go _ _ _ _ T5 (mkF m 33 #[.val (.ref a1), .val (.ref ca), .val (.int (0 : Int32))] [(.ref ca)])
  refine own_step (fun _ k => XS.iconst X5.here hx rfl (hb hby d1_33) k) ?_
  show own_Go _ _ _ _ T5 (mkF m 34 #[.val (.ref a1), .val (.ref ca), .val (.int (0 : Int32))] [(.int (2 : Int32)), (.ref ca)])
  refine own_step (fun _ k => XS.iloadN X5.here hx rfl (hb hby d1_34) rfl k) ?_
  show own_Go _ _ _ _ T5 (mkF m 35 #[.val (.ref a1), .val (.ref ca), .val (.int (0 : Int32))] [(.int (0 : Int32)), (.int (2 : Int32)), (.ref ca)])
  refine own_step (fun _ k => XS.imul X5.here hx rfl (hb hby d1_35) rfl k) ?_
  show own_Go _ _ _ _ T5 (mkF m 36 #[.val (.ref a1), .val (.ref ca), .val (.int (0 : Int32))] [(.int ((2 : Int32) * (0 : Int32))), (.ref ca)])
  show own_Go _ _ _ _ T5 (mkF m 36 #[.val (.ref a1), .val (.ref ca), .val (.int (0 : Int32))] [(.int (0 : Int32)), (.ref ca)])
  refine own_step (fun _ k => XS.iconst X5.here hx rfl (hb hby d1_36) k) ?_
  show own_Go _ _ _ _ T5 (mkF m 37 #[.val (.ref a1), .val (.ref ca), .val (.int (0 : Int32))] [(.int (1 : Int32)), (.int (0 : Int32)), (.ref ca)])
  refine own_step (fun _ k => XS.iadd X5.here hx rfl (hb hby d1_37) rfl k) ?_
  show own_Go _ _ _ _ T5 (mkF m 38 #[.val (.ref a1), .val (.ref ca), .val (.int (0 : Int32))] [(.int ((0 : Int32) + (1 : Int32))), (.ref ca)])
  show own_Go _ _ _ _ T5 (mkF m 38 #[.val (.ref a1), .val (.ref ca), .val (.int (0 : Int32))] [(.int (1 : Int32)), (.ref ca)])
  have Q7 := (Q4.wr W5 g_ca)
  obtain ⟨T6, X6, e6, st6⟩ := getS2 X5 hx hZ hown (host := "") (Or.inl (hw _ (List.mem_of_getElem? (i := 6) rfl))) Via.refl e5 (SD.ext Q7.2) (g := (mkF m 38 #[.val (.ref a1), .val (.ref ca), .val (.int (0 : Int32))] [(.int (1 : Int32)), (.ref ca)])) rfl (hb hby d1_38)
  refine own_step st6 ?_
  show own_Go _ _ _ _ T6 (mkF m 41 #[.val (.ref a1), .val (.ref ca), .val (.int (0 : Int32))] [(.ref dg), (.int (1 : Int32)), (.ref ca)])
  refine own_step (fun _ k => XS.aloadN X6.here hx rfl (hb hby d1_41) rfl rfl k) ?_
  show own_Go _ _ _ _ T6 (mkF m 42 #[.val (.ref a1), .val (.ref ca), .val (.int (0 : Int32))] [(.ref a1), (.ref dg), (.int (1 : Int32)), (.ref ca)])
  refine own_step (fun _ k => XS.iloadN X6.here hx rfl (hb hby d1_42) rfl k) ?_
  show own_Go _ _ _ _ T6 (mkF m 43 #[.val (.ref a1), .val (.ref ca), .val (.int (0 : Int32))] [(.int (0 : Int32)), (.ref a1), (.ref dg), (.int (1 : Int32)), (.ref ca)])
  have Q8 := (Q2.other W5 ne_a1_ca)
  refine own_step (own_ldB X6 hx hZ e6 Q8 (j := (0 : Int32)) (v := (.int b0_)) ⟨by decide, by decide⟩ rfl (g := (mkF m 43 #[.val (.ref a1), .val (.ref ca), .val (.int (0 : Int32))] [(.int (0 : Int32)), (.ref a1), (.ref dg), (.int (1 : Int32)), (.ref ca)])) rfl rfl (hb hby d1_43)) ?_
  show own_Go _ _ _ _ T6 (mkF m 44 #[.val (.ref a1), .val (.ref ca), .val (.int (0 : Int32))] [(.int b0_), (.ref dg), (.int (1 : Int32)), (.ref ca)])
  refine own_step (fun _ k => XS.bipush X6.here hx rfl (hb hby d1_44) k) ?_
  show own_Go _ _ _ _ T6 (mkF m 46 #[.val (.ref a1), .val (.ref ca), .val (.int (0 : Int32))] [(.int (15 : Int32)), (.int b0_), (.ref dg), (.int (1 : Int32)), (.ref ca)])
  refine own_step (fun _ k => XS.iand X6.here hx rfl (hb hby d1_46) rfl k) ?_
  show own_Go _ _ _ _ T6 (mkF m 47 #[.val (.ref a1), .val (.ref ca), .val (.int (0 : Int32))] [(.int (b0_ &&& (15 : Int32))), (.ref dg), (.int (1 : Int32)), (.ref ca)])
  refine own_step (own_ldC X6 hx hZ e6 (VD.ext Q7.2) (j := (b0_ &&& (15 : Int32))) (v := (.int (own_dgv b0_))) (own_nib b0_) (own_getI own_dg _ _) (g := (mkF m 47 #[.val (.ref a1), .val (.ref ca), .val (.int (0 : Int32))] [(.int (b0_ &&& (15 : Int32))), (.ref dg), (.int (1 : Int32)), (.ref ca)])) rfl rfl (hb hby d1_47)) ?_
  show own_Go _ _ _ _ T6 (mkF m 48 #[.val (.ref a1), .val (.ref ca), .val (.int (0 : Int32))] [(.int (own_dgv b0_)), (.int (1 : Int32)), (.ref ca)])
  obtain ⟨T9, h9, l9, X9, e9, W9, V9, st9⟩ := own_stC X6 hx hZ e6 V_ca_5 (j := (1 : Int32)) ⟨by decide, by decide⟩ 1 rfl (Nat.le_of_ble_eq_true rfl) (g := (mkF m 48 #[.val (.ref a1), .val (.ref ca), .val (.int (0 : Int32))] [(.int (own_dgv b0_)), (.int (1 : Int32)), (.ref ca)])) rfl rfl (hb hby d1_48)
  refine own_step st9 ?_
  have N9 := Fr.snoc X9 N5 g_ca
  have Dc9 := (CHr.wr W9 (Safe.arv (EL := own_EL) hZ.alike V_ca_5 (by decide)) C5.1)
  have C9 := C5.trans Dc9
  have hk9 := Nat.le_trans hk5 Dc9.2.1
  have Z9 := Nat.le_trans Z5 (Keep.of_wr W9).1
  have KK9 := KK5.wr W9 (Or.inr sz_ca)
  rw [own_dgn] at V9
  have V_ca_9 : Arv Z h9 ca k1 .char (4 : Int32) [(.int (own_dgv (b0_ >>> ((4 : Int32) &&& 31)))), (.int (own_dgv b0_)), (.int (0 : Int32)), (.int (0 : Int32))] (.int (0 : Int32)) := V9
  show own_Go _ _ _ _ T9 (mkF m 49 #[.val (.ref a1), .val (.ref ca), .val (.int (0 : Int32))] [])
  refine own_step (fun _ k => XS.iinc X9.here hx rfl (hb hby d1_49) rfl (l' := #[.val (.ref a1), .val (.ref ca), .val (.int (1 : Int32))]) rfl k) ?_
  show own_Go _ _ _ _ T9 (mkF m 52 #[.val (.ref a1), .val (.ref ca), .val (.int (1 : Int32))] [])
  refine own_step (fun _ k => XS.goto X9.here hx rfl (pc0 := 52) (pc' := 9) rfl (hb hby d1_52) (by decide) (by decide) k) ?_
  show own_Go _ _ _ _ T9 (mkF m 9 #[.val (.ref a1), .val (.ref ca), .val (.int (1 : Int32))] [])
  refine own_step (fun _ k => XS.iloadN X9.here hx rfl (hb hby d1_9) rfl k) ?_
  show own_Go _ _ _ _ T9 (mkF m 10 #[.val (.ref a1), .val (.ref ca), .val (.int (1 : Int32))] [(.int (1 : Int32))])
  refine own_step (fun _ k => XS.aloadN X9.here hx rfl (hb hby d1_10) rfl rfl k) ?_
  show own_Go _ _ _ _ T9 (mkF m 11 #[.val (.ref a1), .val (.ref ca), .val (.int (1 : Int32))] [(.ref a1), (.int (1 : Int32))])
  have Q10 := (Q8.other W9 ne_a1_ca)
  refine own_step (own_len X9 hx hZ e9 Q10 (g := (mkF m 11 #[.val (.ref a1), .val (.ref ca), .val (.int (1 : Int32))] [(.ref a1), (.int (1 : Int32))])) rfl rfl (hb hby d1_11)) ?_
  show own_Go _ _ _ _ T9 (mkF m 12 #[.val (.ref a1), .val (.ref ca), .val (.int (1 : Int32))] [(.int (2 : Int32)), (.int (1 : Int32))])
  refine own_step (fun _ k => XS.icmpNo X9.here hx rfl (hb hby d1_12) rfl (tlt (by decide : (1 : Int32) < (2 : Int32))).2.1 k) ?_
  show own_Go _ _ _ _ T9 (mkF m 15 #[.val (.ref a1), .val (.ref ca), .val (.int (1 : Int32))] [])
  refine own_step (fun _ k => XS.aloadN X9.here hx rfl (hb hby d1_15) rfl rfl k) ?_
  show own_Go _ _ _ _ T9 (mkF m 16 #[.val (.ref a1), .val (.ref ca), .val (.int (1 : Int32))] [(.ref ca)])
  refine own_step (fun _ k => XS.iconst X9.here hx rfl (hb hby d1_16) k) ?_
  show own_Go _ _ _ _ T9 (mkF m 17 #[.val (.ref a1), .val (.ref ca), .val (.int (1 : Int32))] [(.int (2 : Int32)), (.ref ca)])
  refine own_step (fun _ k => XS.iloadN X9.here hx rfl (hb hby d1_17) rfl k) ?_
  show own_Go _ _ _ _ T9 (mkF m 18 #[.val (.ref a1), .val (.ref ca), .val (.int (1 : Int32))] [(.int (1 : Int32)), (.int (2 : Int32)), (.ref ca)])
  refine own_step (fun _ k => XS.imul X9.here hx rfl (hb hby d1_18) rfl k) ?_
  show own_Go _ _ _ _ T9 (mkF m 19 #[.val (.ref a1), .val (.ref ca), .val (.int (1 : Int32))] [(.int ((2 : Int32) * (1 : Int32))), (.ref ca)])
  show own_Go _ _ _ _ T9 (mkF m 19 #[.val (.ref a1), .val (.ref ca), .val (.int (1 : Int32))] [(.int (2 : Int32)), (.ref ca)])
  have Q12 := (Q7.wr W9 g_ca)
  obtain ⟨T11, X11, e11, st11⟩ := getS2 X9 hx hZ hown (host := "") (Or.inl (hw _ (List.mem_of_getElem? (i := 6) rfl))) Via.refl e9 (SD.ext Q12.2) (g := (mkF m 19 #[.val (.ref a1), .val (.ref ca), .val (.int (1 : Int32))] [(.int (2 : Int32)), (.ref ca)])) rfl (hb hby d1_19)
  refine own_step st11 ?_
  show own_Go _ _ _ _ T11 (mkF m 22 #[.val (.ref a1), .val (.ref ca), .val (.int (1 : Int32))] [(.ref dg), (.int (2 : Int32)), (.ref ca)])
  refine own_step (fun _ k => XS.aloadN X11.here hx rfl (hb hby d1_22) rfl rfl k) ?_
  show own_Go _ _ _ _ T11 (mkF m 23 #[.val (.ref a1), .val (.ref ca), .val (.int (1 : Int32))] [(.ref a1), (.ref dg), (.int (2 : Int32)), (.ref ca)])
  refine own_step (fun _ k => XS.iloadN X11.here hx rfl (hb hby d1_23) rfl k) ?_
  show own_Go _ _ _ _ T11 (mkF m 24 #[.val (.ref a1), .val (.ref ca), .val (.int (1 : Int32))] [(.int (1 : Int32)), (.ref a1), (.ref dg), (.int (2 : Int32)), (.ref ca)])
  refine own_step (own_ldB X11 hx hZ e11 Q10 (j := (1 : Int32)) (v := (.int b1_)) ⟨by decide, by decide⟩ rfl (g := (mkF m 24 #[.val (.ref a1), .val (.ref ca), .val (.int (1 : Int32))] [(.int (1 : Int32)), (.ref a1), (.ref dg), (.int (2 : Int32)), (.ref ca)])) rfl rfl (hb hby d1_24)) ?_
  show own_Go _ _ _ _ T11 (mkF m 25 #[.val (.ref a1), .val (.ref ca), .val (.int (1 : Int32))] [(.int b1_), (.ref dg), (.int (2 : Int32)), (.ref ca)])
  refine own_step (fun _ k => XS.iconst X11.here hx rfl (hb hby d1_25) k) ?_
  show own_Go _ _ _ _ T11 (mkF m 26 #[.val (.ref a1), .val (.ref ca), .val (.int (1 : Int32))] [(.int (4 : Int32)), (.int b1_), (.ref dg), (.int (2 : Int32)), (.ref ca)])
  refine own_step (fun _ k => XS.ishr X11.here hx rfl (hb hby d1_26) rfl k) ?_
  show own_Go _ _ _ _ T11 (mkF m 27 #[.val (.ref a1), .val (.ref ca), .val (.int (1 : Int32))] [(.int (b1_ >>> ((4 : Int32) &&& 31))), (.ref dg), (.int (2 : Int32)), (.ref ca)])
  refine own_step (fun _ k => XS.bipush X11.here hx rfl (hb hby d1_27) k) ?_
  show own_Go _ _ _ _ T11 (mkF m 29 #[.val (.ref a1), .val (.ref ca), .val (.int (1 : Int32))] [(.int (15 : Int32)), (.int (b1_ >>> ((4 : Int32) &&& 31))), (.ref dg), (.int (2 : Int32)), (.ref ca)])
  refine own_step (fun _ k => XS.iand X11.here hx rfl (hb hby d1_29) rfl k) ?_
  show own_Go _ _ _ _ T11 (mkF m 30 #[.val (.ref a1), .val (.ref ca), .val (.int (1 : Int32))] [(.int ((b1_ >>> ((4 : Int32) &&& 31)) &&& (15 : Int32))), (.ref dg), (.int (2 : Int32)), (.ref ca)])
  refine own_step (own_ldC X11 hx hZ e11 (VD.ext Q12.2) (j := ((b1_ >>> ((4 : Int32) &&& 31)) &&& (15 : Int32))) (v := (.int (own_dgv (b1_ >>> ((4 : Int32) &&& 31))))) (own_nib (b1_ >>> ((4 : Int32) &&& 31))) (own_getI own_dg _ _) (g := (mkF m 30 #[.val (.ref a1), .val (.ref ca), .val (.int (1 : Int32))] [(.int ((b1_ >>> ((4 : Int32) &&& 31)) &&& (15 : Int32))), (.ref dg), (.int (2 : Int32)), (.ref ca)])) rfl rfl (hb hby d1_30)) ?_
  show own_Go _ _ _ _ T11 (mkF m 31 #[.val (.ref a1), .val (.ref ca), .val (.int (1 : Int32))] [(.int (own_dgv (b1_ >>> ((4 : Int32) &&& 31)))), (.int (2 : Int32)), (.ref ca)])
  obtain ⟨T13, h13, l13, X13, e13, W13, V13, st13⟩ := own_stC X11 hx hZ e11 V_ca_9 (j := (2 : Int32)) ⟨by decide, by decide⟩ 2 rfl (Nat.le_of_ble_eq_true rfl) (g := (mkF m 31 #[.val (.ref a1), .val (.ref ca), .val (.int (1 : Int32))] [(.int (own_dgv (b1_ >>> ((4 : Int32) &&& 31)))), (.int (2 : Int32)), (.ref ca)])) rfl rfl (hb hby d1_31)
  refine own_step st13 ?_
  have N13 := Fr.snoc X13 N9 g_ca
  have Dc13 := (CHr.wr W13 (Safe.arv (EL := own_EL) hZ.alike V_ca_9 (by decide)) C9.1)
  have C13 := C9.trans Dc13
  have hk13 := Nat.le_trans hk9 Dc13.2.1
  have Z13 := Nat.le_trans Z9 (Keep.of_wr W13).1
  have KK13 := KK9.wr W13 (Or.inr sz_ca)
  rw [own_dgn] at V13
  have V_ca_13 : Arv Z h13 ca k1 .char (4 : Int32) [(.int (own_dgv (b0_ >>> ((4 : Int32) &&& 31)))), (.int (own_dgv b0_)), (.int (own_dgv (b1_ >>> ((4 : Int32) &&& 31)))), (.int (0 : Int32))] (.int (0 : Int32)) := V13
  show own_Go _ _ _ _ T13 (mkF m 32 #[.val (.ref a1), .val (.ref ca), .val (.int (1 : Int32))] [])
  refine own_step (fun _ k => XS.aloadN X13.here hx rfl (hb hby d1_32) rfl rfl k) ?_
  show own_Go _ _ _ _ T13 (mkF m 33 #[.val (.ref a1), .val (.ref ca), .val (.int (1 : Int32))] [(.ref ca)])
  refine own_step (fun _ k => XS.iconst X13.here hx rfl (hb hby d1_33) k) ?_
  show own_Go _ _ _ _ T13 (mkF m 34 #[.val (.ref a1), .val (.ref ca), .val (.int (1 : Int32))] [(.int (2 : Int32)), (.ref ca)])
  refine own_step (fun _ k => XS.iloadN X13.here hx rfl (hb hby d1_34) rfl k) ?_
  show own_Go _ _ _ _ T13 (mkF m 35 #[.val (.ref a1), .val (.ref ca), .val (.int (1 : Int32))] [(.int (1 : Int32)), (.int (2 : Int32)), (.ref ca)])
  refine own_step (fun _ k => XS.imul X13.here hx rfl (hb hby d1_35) rfl k) ?_
  show own_Go _ _ _ _ T13 (mkF m 36 #[.val (.ref a1), .val (.ref ca), .val (.int (1 : Int32))] [(.int ((2 : Int32) * (1 : Int32))), (.ref ca)])
  show own_Go _ _ _ _ T13 (mkF m 36 #[.val (.ref a1), .val (.ref ca), .val (.int (1 : Int32))] [(.int (2 : Int32)), (.ref ca)])
  refine own_step (fun _ k => XS.iconst X13.here hx rfl (hb hby d1_36) k) ?_
  show own_Go _ _ _ _ T13 (mkF m 37 #[.val (.ref a1), .val (.ref ca), .val (.int (1 : Int32))] [(.int (1 : Int32)), (.int (2 : Int32)), (.ref ca)])
  refine own_step (fun _ k => XS.iadd X13.here hx rfl (hb hby d1_37) rfl k) ?_
  show own_Go _ _ _ _ T13 (mkF m 38 #[.val (.ref a1), .val (.ref ca), .val (.int (1 : Int32))] [(.int ((2 : Int32) + (1 : Int32))), (.ref ca)])
  show own_Go _ _ _ _ T13 (mkF m 38 #[.val (.ref a1), .val (.ref ca), .val (.int (1 : Int32))] [(.int (3 : Int32)), (.ref ca)])
  have Q15 := (Q12.wr W13 g_ca)
  obtain ⟨T14, X14, e14, st14⟩ := getS2 X13 hx hZ hown (host := "") (Or.inl (hw _ (List.mem_of_getElem? (i := 6) rfl))) Via.refl e13 (SD.ext Q15.2) (g := (mkF m 38 #[.val (.ref a1), .val (.ref ca), .val (.int (1 : Int32))] [(.int (3 : Int32)), (.ref ca)])) rfl (hb hby d1_38)
  refine own_step st14 ?_
  show own_Go _ _ _ _ T14 (mkF m 41 #[.val (.ref a1), .val (.ref ca), .val (.int (1 : Int32))] [(.ref dg), (.int (3 : Int32)), (.ref ca)])
  refine own_step (fun _ k => XS.aloadN X14.here hx rfl (hb hby d1_41) rfl rfl k) ?_
  show own_Go _ _ _ _ T14 (mkF m 42 #[.val (.ref a1), .val (.ref ca), .val (.int (1 : Int32))] [(.ref a1), (.ref dg), (.int (3 : Int32)), (.ref ca)])
  refine own_step (fun _ k => XS.iloadN X14.here hx rfl (hb hby d1_42) rfl k) ?_
  show own_Go _ _ _ _ T14 (mkF m 43 #[.val (.ref a1), .val (.ref ca), .val (.int (1 : Int32))] [(.int (1 : Int32)), (.ref a1), (.ref dg), (.int (3 : Int32)), (.ref ca)])
  have Q16 := (Q10.other W13 ne_a1_ca)
  refine own_step (own_ldB X14 hx hZ e14 Q16 (j := (1 : Int32)) (v := (.int b1_)) ⟨by decide, by decide⟩ rfl (g := (mkF m 43 #[.val (.ref a1), .val (.ref ca), .val (.int (1 : Int32))] [(.int (1 : Int32)), (.ref a1), (.ref dg), (.int (3 : Int32)), (.ref ca)])) rfl rfl (hb hby d1_43)) ?_
  show own_Go _ _ _ _ T14 (mkF m 44 #[.val (.ref a1), .val (.ref ca), .val (.int (1 : Int32))] [(.int b1_), (.ref dg), (.int (3 : Int32)), (.ref ca)])
  refine own_step (fun _ k => XS.bipush X14.here hx rfl (hb hby d1_44) k) ?_
  show own_Go _ _ _ _ T14 (mkF m 46 #[.val (.ref a1), .val (.ref ca), .val (.int (1 : Int32))] [(.int (15 : Int32)), (.int b1_), (.ref dg), (.int (3 : Int32)), (.ref ca)])
  refine own_step (fun _ k => XS.iand X14.here hx rfl (hb hby d1_46) rfl k) ?_
  show own_Go _ _ _ _ T14 (mkF m 47 #[.val (.ref a1), .val (.ref ca), .val (.int (1 : Int32))] [(.int (b1_ &&& (15 : Int32))), (.ref dg), (.int (3 : Int32)), (.ref ca)])
  refine own_step (own_ldC X14 hx hZ e14 (VD.ext Q15.2) (j := (b1_ &&& (15 : Int32))) (v := (.int (own_dgv b1_))) (own_nib b1_) (own_getI own_dg _ _) (g := (mkF m 47 #[.val (.ref a1), .val (.ref ca), .val (.int (1 : Int32))] [(.int (b1_ &&& (15 : Int32))), (.ref dg), (.int (3 : Int32)), (.ref ca)])) rfl rfl (hb hby d1_47)) ?_
  show own_Go _ _ _ _ T14 (mkF m 48 #[.val (.ref a1), .val (.ref ca), .val (.int (1 : Int32))] [(.int (own_dgv b1_)), (.int (3 : Int32)), (.ref ca)])
  obtain ⟨T17, h17, l17, X17, e17, W17, V17, st17⟩ := own_stC X14 hx hZ e14 V_ca_13 (j := (3 : Int32)) ⟨by decide, by decide⟩ 3 rfl (Nat.le_of_ble_eq_true rfl) (g := (mkF m 48 #[.val (.ref a1), .val (.ref ca), .val (.int (1 : Int32))] [(.int (own_dgv b1_)), (.int (3 : Int32)), (.ref ca)])) rfl rfl (hb hby d1_48)
  refine own_step st17 ?_
  have N17 := Fr.snoc X17 N13 g_ca
  have Dc17 := (CHr.wr W17 (Safe.arv (EL := own_EL) hZ.alike V_ca_13 (by decide)) C13.1)
  have C17 := C13.trans Dc17
  have hk17 := Nat.le_trans hk13 Dc17.2.1
  have Z17 := Nat.le_trans Z13 (Keep.of_wr W17).1
  have KK17 := KK13.wr W17 (Or.inr sz_ca)
  rw [own_dgn] at V17
  have V_ca_17 : Arv Z h17 ca k1 .char (4 : Int32) [(.int (own_dgv (b0_ >>> ((4 : Int32) &&& 31)))), (.int (own_dgv b0_)), (.int (own_dgv (b1_ >>> ((4 : Int32) &&& 31)))), (.int (own_dgv b1_))] (.int (0 : Int32)) := V17
  show own_Go _ _ _ _ T17 (mkF m 49 #[.val (.ref a1), .val (.ref ca), .val (.int (1 : Int32))] [])
  refine own_step (fun _ k => XS.iinc X17.here hx rfl (hb hby d1_49) rfl (l' := #[.val (.ref a1), .val (.ref ca), .val (.int (2 : Int32))]) rfl k) ?_
  show own_Go _ _ _ _ T17 (mkF m 52 #[.val (.ref a1), .val (.ref ca), .val (.int (2 : Int32))] [])
  refine own_step (fun _ k => XS.goto X17.here hx rfl (pc0 := 52) (pc' := 9) rfl (hb hby d1_52) (by decide) (by decide) k) ?_
  show own_Go _ _ _ _ T17 (mkF m 9 #[.val (.ref a1), .val (.ref ca), .val (.int (2 : Int32))] [])
  refine own_step (fun _ k => XS.iloadN X17.here hx rfl (hb hby d1_9) rfl k) ?_
  show own_Go _ _ _ _ T17 (mkF m 10 #[.val (.ref a1), .val (.ref ca), .val (.int (2 : Int32))] [(.int (2 : Int32))])
  refine own_step (fun _ k => XS.aloadN X17.here hx rfl (hb hby d1_10) rfl rfl k) ?_
  show own_Go _ _ _ _ T17 (mkF m 11 #[.val (.ref a1), .val (.ref ca), .val (.int (2 : Int32))] [(.ref a1), (.int (2 : Int32))])
  have Q18 := (Q16.other W17 ne_a1_ca)
  refine own_step (own_len X17 hx hZ e17 Q18 (g := (mkF m 11 #[.val (.ref a1), .val (.ref ca), .val (.int (2 : Int32))] [(.ref a1), (.int (2 : Int32))])) rfl rfl (hb hby d1_11)) ?_
  show own_Go _ _ _ _ T17 (mkF m 12 #[.val (.ref a1), .val (.ref ca), .val (.int (2 : Int32))] [(.int (2 : Int32)), (.int (2 : Int32))])
  refine own_step (fun _ k => XS.icmpYes X17.here hx rfl (pc0 := 12) (pc' := 55) rfl (hb hby d1_12) rfl (flt (by decide : ¬ ((2 : Int32) < (2 : Int32)))).2.1 (by decide) (by decide) k) ?_
  show own_Go _ _ _ _ T17 (mkF m 55 #[.val (.ref a1), .val (.ref ca), .val (.int (2 : Int32))] [])
  obtain ⟨T19, h19, X19, e19, E19, A19, D19, -, st19⟩ := newO X17 hx hZ hown (hw _ (List.mem_of_getElem? (i := 8) rfl)) (hw _ (List.mem_of_getElem? (i := 9) rfl)) (hw _ (List.mem_of_getElem? (i := 10) rfl)) e17 (g := (mkF m 55 #[.val (.ref a1), .val (.ref ca), .val (.int (2 : Int32))] [])) rfl (hb hby d1_55) (by decide) (by decide)
  obtain ⟨so, g19⟩ : ∃ z, z = h17.size := ⟨_, rfl⟩
  rw [← g19] at A19 D19 st19
  have ne_a1_so : a1 ≠ so := Nat.ne_of_lt (Nat.lt_of_lt_of_eq Q18.lt g19.symm)
  have ne_ca_so : ca ≠ so := Nat.ne_of_lt (Nat.lt_of_lt_of_eq V_ca_17.lt g19.symm)
  have g_so : n0 ≤ so := Nat.le_trans Z17 (Nat.le_of_eq g19.symm)
  have sz_so : h0.size ≤ so := Nat.le_trans KK17.1 (Nat.le_of_eq g19.symm)
  refine own_step st19 ?_
  have Dc19 := (CHr.ext E19 C17.1)
  have C19 := C17.trans Dc19
  have hk19 := Nat.le_trans hk17 Dc19.2.1
  have Z19 := Nat.le_trans Z17 E19.1
  have KK19 := KK17.ext E19
  have F_coder_so : Fld Z h19 so "java/lang/String" "coder" "B" (.int (0 : Int32)) := D19 (Or.inr (hw _ (List.mem_of_getElem? (i := 33) rfl))) (ty := .byte) (by decide)
  have F_value_so : Fld Z h19 so "java/lang/String" "value" "[B" .null := D19 (Or.inr (hw _ (List.mem_of_getElem? (i := 35) rfl))) (ty := (.array .byte)) (by decide)
  show own_Go _ _ _ _ T19 (mkF m 58 #[.val (.ref a1), .val (.ref ca), .val (.int (2 : Int32))] [(.ref so)])
  refine own_step (fun _ k => XS.dup X19.here hx rfl (hb hby d1_58) rfl rfl k) ?_
  show own_Go _ _ _ _ T19 (mkF m 59 #[.val (.ref a1), .val (.ref ca), .val (.int (2 : Int32))] [(.ref so), (.ref so)])
  refine own_step (fun _ k => XS.aloadN X19.here hx rfl (hb hby d1_59) rfl rfl k) ?_
  show own_Go _ _ _ _ T19 (mkF m 60 #[.val (.ref a1), .val (.ref ca), .val (.int (2 : Int32))] [(.ref ca), (.ref so), (.ref so)])
  have Q20 := ((Q15.wr W17 g_ca).ext E19)
  have Q21 := (V_ca_17.ext E19)
  refine own_callCW X19 hx hZ (y := (⟨"java/lang/String", "<init>", "([C)V"⟩ : MethodName)) rfl hown (hw _ (List.mem_of_getElem? (i := 11) rfl)) (hw _ (List.mem_of_getElem? (i := 12) rfl)) (hw _ (List.mem_of_getElem? (i := 10) rfl)) (hw _ (List.mem_of_getElem? (i := 13) rfl)) (by decide) (rm2 l Z a0 hw [] so ca k1 cz (4 : Int32) ([(own_dgv (b0_ >>> ((4 : Int32) &&& 31))), (own_dgv b0_), (own_dgv (b1_ >>> ((4 : Int32) &&& 31))), (own_dgv b1_)] : List Int32) h19 n0 Z19 hEL Q20 SC hcz A19 F_coder_so F_value_so Q21 rfl (Nat.le_of_ble_eq_true rfl) (own_lat _ (by intro c hc; simp only [List.mem_cons, List.not_mem_nil, or_false] at hc; rcases hc with rfl | rfl | rfl | rfl; exact own_dgl _; exact own_dgl _; exact own_dgl _; exact own_dgl _)) g_so) e19 hEL C19.1 hS0 hk19 (b := so) 1 (by decide) (by decide) (by decide) (by decide) (g := (mkF m 60 #[.val (.ref a1), .val (.ref ca), .val (.int (2 : Int32))] [(.ref ca), (.ref so), (.ref so)])) rfl (by rw [hml]; rfl) [(.ref ca)] [(.ref so)] pd_10 rfl rfl rfl (by show 2 * 0 + _ ≤ _; exact Nat.le_of_eq rfl) (hb hby d1_60) ?_
  rintro v22 T22 L22 X22 ⟨va_so, kv_so, rfl, Nq22, K22, ⟨EX22, FC22, FV22⟩, V22⟩ D22 hS22 hZ hown
  have N22 := Fr.app N17 Nq22
  show own_Go _ _ _ _ T22 (mkF m 63 #[.val (.ref a1), .val (.ref ca), .val (.int (2 : Int32))] [(.ref so)])
  have Dc22 := D22
  have C22 := C19.trans Dc22
  have Z22 := Nat.le_trans Z19 K22.1
  have KK22 := KK19.trans K22 (allS (P := fun x => x ∈ [] ∨ h0.size ≤ x) (Or.inr sz_so) all0)
  exact own_retA X22 hx hret rfl hlk rfl rfl (hb hby d1_63) (own_W X22 hS22 (Nat.le_refl _) rfl eS hZ hEL C22 (by exact ⟨so, va_so, kv_so, rfl, N22, KK22, g_so, ⟨EX22, FC22, FV22⟩, V22⟩) (by decide) (by decide)) 
set_option maxRecDepth 65536 in
set_option maxHeartbeats 40000000 in
theorem rm1_3 (l : Launch) (Z : State) (a0 : Array Value) (hw : ∀ d ∈ tables_1, d.before a0 Z = true) (ws : List Jvm.Cond) (a1 : Addr) (kA : ClassId) (cz : Int32) (dg : Addr) (kd : ClassId) (b0_ b1_ b2_ : Int32) (h0 : Heap) (n0 : Nat) (Z0 : n0 ≤ h0.size) (hEL : EW Z a0 own_EL) (O0 : Old Z n0 h0) (SC : Sta Z Z.heap "java/lang/String" "COMPACT_STRINGS" "Z" (.int cz)) (hcz : ¬ cz = (0 : Int32)) (SD : Sta Z Z.heap "com/example/fixwire/fixwire/Hex" "DIGITS" "[C" (.ref dg)) (VD : Arv Z Z.heap dg kd .char (16 : Int32) (own_dg.map Value.int) (.int (0 : Int32))) (VA : Arv Z h0 a1 kA .byte (3 : Int32) [(.int b0_), (.int b1_), (.int b2_)] (.int (0 : Int32))) :
    own_MetW l (⟨"com/example/fixwire/fixwire/Hex", "encode", "([B)Ljava/lang/String;"⟩ : MethodName) prog_14_method_3_code 3 (some (.object "java/lang/String")) ws ({ frames := 4, cells := 6, slots := 18, locals := 66 } : Room) #[(.ref a1)] Z own_EL h0 (fun v h L => ∃ o b k, v = some (.ref o) ∧ Fr n0 L ∧ Keep h0 h [] ∧ n0 ≤ o ∧ (Exa Z h o "java/lang/String" ∧ Fld Z h o "java/lang/String" "coder" "B" (.int (0 : Int32)) ∧ Fld Z h o "java/lang/String" "value" "[B" (.ref b)) ∧ Arv Z h b k .byte (6 : Int32) ((([(own_dgv (b0_ >>> ((4 : Int32) &&& 31))), (own_dgv b0_), (own_dgv (b1_ >>> ((4 : Int32) &&& 31))), (own_dgv b1_), (own_dgv (b2_ >>> ((4 : Int32) &&& 31))), (own_dgv b2_)] : List Int32).map (fun c => c.toInt8.toInt32)).map Value.int) (.int (0 : Int32))) := by
  refine own_bodyW (plainFor_of_name pn_5) (ef_1 a1) ?_
  intro p e s m below meth c T0 X0 hx hby hml0 hret hlk hnm hown hZ e0 eS H0 hS0
  have C0 := CHr.refl H0
  have hml : c.maxLocals = 3 := hml0
  have N0 := Fr.nil n0
  refine own_step (fun _ k => XS.aloadN X0.here hx rfl (hb hby d1_0) rfl rfl k) ?_
  show own_Go _ _ _ _ T0 (mkF m 1 #[.val (.ref a1), .unset, .unset] [(.ref a1)])
  refine own_step (own_len X0 hx hZ e0 VA (g := (mkF m 1 #[.val (.ref a1), .unset, .unset] [(.ref a1)])) rfl rfl (hb hby d1_1)) ?_
  show own_Go _ _ _ _ T0 (mkF m 2 #[.val (.ref a1), .unset, .unset] [(.int (3 : Int32))])
  refine own_step (fun _ k => XS.iconst X0.here hx rfl (hb hby d1_2) k) ?_
  show own_Go _ _ _ _ T0 (mkF m 3 #[.val (.ref a1), .unset, .unset] [(.int (2 : Int32)), (.int (3 : Int32))])
  refine own_step (fun _ k => XS.imul X0.here hx rfl (hb hby d1_3) rfl k) ?_
  show own_Go _ _ _ _ T0 (mkF m 4 #[.val (.ref a1), .unset, .unset] [(.int ((3 : Int32) * (2 : Int32)))])
  show own_Go _ _ _ _ T0 (mkF m 4 #[.val (.ref a1), .unset, .unset] [(.int (6 : Int32))])
  obtain ⟨T1, h1, k1, ca, g1, X1, e1, E1, V1, st1⟩ := own_newA X0 hx hZ (hw _ (List.mem_of_getElem? (i := 5) rfl)) e0 (g := (mkF m 4 #[.val (.ref a1), .unset, .unset] [(.int (6 : Int32))])) rfl (hb hby d1_4) rfl (by decide) (cap := 6) (by decide) (by decide) (by decide) (by decide)
  have ne_a1_ca : a1 ≠ ca := Nat.ne_of_lt (Nat.lt_of_lt_of_eq VA.lt g1.symm)
  have g_ca : n0 ≤ ca := Nat.le_trans Z0 (Nat.le_of_eq g1.symm)
  have sz_ca : h0.size ≤ ca := Nat.le_trans (Keep.refl h0 []).1 (Nat.le_of_eq g1.symm)
  refine own_step st1 ?_
  have Dc1 := (CHr.ext E1 C0.1)
  have C1 := C0.trans Dc1
  have hk1 := Nat.le_trans (Nat.le_refl _) Dc1.2.1
  have Z1 := Nat.le_trans Z0 E1.1
  have KK1 := (Keep.refl h0 []).ext E1
  have V_ca : Arv Z h1 ca k1 .char (6 : Int32) [(.int (0 : Int32)), (.int (0 : Int32)), (.int (0 : Int32)), (.int (0 : Int32)), (.int (0 : Int32)), (.int (0 : Int32))] (.int (0 : Int32)) := V1
  show own_Go _ _ _ _ T1 (mkF m 6 #[.val (.ref a1), .unset, .unset] [(.ref ca)])
  refine own_step (fun _ k => XS.astoreN X1.here hx rfl (hb hby d1_6) rfl rfl (l' := #[.val (.ref a1), .val (.ref ca), .unset]) rfl k) ?_
  show own_Go _ _ _ _ T1 (mkF m 7 #[.val (.ref a1), .val (.ref ca), .unset] [])
  refine own_step (fun _ k => XS.iconst X1.here hx rfl (hb hby d1_7) k) ?_
  show own_Go _ _ _ _ T1 (mkF m 8 #[.val (.ref a1), .val (.ref ca), .unset] [(.int (0 : Int32))])
  refine own_step (fun _ k => XS.istoreN X1.here hx rfl (hb hby d1_8) rfl (l' := #[.val (.ref a1), .val (.ref ca), .val (.int (0 : Int32))]) rfl k) ?_
  show own_Go _ _ _ _ T1 (mkF m 9 #[.val (.ref a1), .val (.ref ca), .val (.int (0 : Int32))] [])
  refine own_step (fun _ k => XS.iloadN X1.here hx rfl (hb hby d1_9) rfl k) ?_
  show own_Go _ _ _ _ T1 (mkF m 10 #[.val (.ref a1), .val (.ref ca), .val (.int (0 : Int32))] [(.int (0 : Int32))])
  refine own_step (fun _ k => XS.aloadN X1.here hx rfl (hb hby d1_10) rfl rfl k) ?_
  show own_Go _ _ _ _ T1 (mkF m 11 #[.val (.ref a1), .val (.ref ca), .val (.int (0 : Int32))] [(.ref a1), (.int (0 : Int32))])
  have Q2 := (VA.ext E1)
  refine own_step (own_len X1 hx hZ e1 Q2 (g := (mkF m 11 #[.val (.ref a1), .val (.ref ca), .val (.int (0 : Int32))] [(.ref a1), (.int (0 : Int32))])) rfl rfl (hb hby d1_11)) ?_
  show own_Go _ _ _ _ T1 (mkF m 12 #[.val (.ref a1), .val (.ref ca), .val (.int (0 : Int32))] [(.int (3 : Int32)), (.int (0 : Int32))])
  refine own_step (fun _ k => XS.icmpNo X1.here hx rfl (hb hby d1_12) rfl (tlt (by decide : (0 : Int32) < (3 : Int32))).2.1 k) ?_
  show own_Go _ _ _ _ T1 (mkF m 15 #[.val (.ref a1), .val (.ref ca), .val (.int (0 : Int32))] [])
  refine own_step (fun _ k => XS.aloadN X1.here hx rfl (hb hby d1_15) rfl rfl k) ?_
  show own_Go _ _ _ _ T1 (mkF m 16 #[.val (.ref a1), .val (.ref ca), .val (.int (0 : Int32))] [(.ref ca)])
  refine own_step (fun _ k => XS.iconst X1.here hx rfl (hb hby d1_16) k) ?_
  show own_Go _ _ _ _ T1 (mkF m 17 #[.val (.ref a1), .val (.ref ca), .val (.int (0 : Int32))] [(.int (2 : Int32)), (.ref ca)])
  refine own_step (fun _ k => XS.iloadN X1.here hx rfl (hb hby d1_17) rfl k) ?_
  show own_Go _ _ _ _ T1 (mkF m 18 #[.val (.ref a1), .val (.ref ca), .val (.int (0 : Int32))] [(.int (0 : Int32)), (.int (2 : Int32)), (.ref ca)])
  refine own_step (fun _ k => XS.imul X1.here hx rfl (hb hby d1_18) rfl k) ?_
  show own_Go _ _ _ _ T1 (mkF m 19 #[.val (.ref a1), .val (.ref ca), .val (.int (0 : Int32))] [(.int ((2 : Int32) * (0 : Int32))), (.ref ca)])
  show own_Go _ _ _ _ T1 (mkF m 19 #[.val (.ref a1), .val (.ref ca), .val (.int (0 : Int32))] [(.int (0 : Int32)), (.ref ca)])
  have Q4 := (O0.ext E1)
  obtain ⟨T3, X3, e3, st3⟩ := getS2 X1 hx hZ hown (host := "") (Or.inl (hw _ (List.mem_of_getElem? (i := 6) rfl))) Via.refl e1 (SD.ext Q4.2) (g := (mkF m 19 #[.val (.ref a1), .val (.ref ca), .val (.int (0 : Int32))] [(.int (0 : Int32)), (.ref ca)])) rfl (hb hby d1_19)
  refine own_step st3 ?_
  show own_Go _ _ _ _ T3 (mkF m 22 #[.val (.ref a1), .val (.ref ca), .val (.int (0 : Int32))] [(.ref dg), (.int (0 : Int32)), (.ref ca)])
  refine own_step (fun _ k => XS.aloadN X3.here hx rfl (hb hby d1_22) rfl rfl k) ?_
  show own_Go _ _ _ _ T3 (mkF m 23 #[.val (.ref a1), .val (.ref ca), .val (.int (0 : Int32))] [(.ref a1), (.ref dg), (.int (0 : Int32)), (.ref ca)])
  refine own_step (fun _ k => XS.iloadN X3.here hx rfl (hb hby d1_23) rfl k) ?_
  show own_Go _ _ _ _ T3 (mkF m 24 #[.val (.ref a1), .val (.ref ca), .val (.int (0 : Int32))] [(.int (0 : Int32)), (.ref a1), (.ref dg), (.int (0 : Int32)), (.ref ca)])
  refine own_step (own_ldB X3 hx hZ e3 Q2 (j := (0 : Int32)) (v := (.int b0_)) ⟨by decide, by decide⟩ rfl (g := (mkF m 24 #[.val (.ref a1), .val (.ref ca), .val (.int (0 : Int32))] [(.int (0 : Int32)), (.ref a1), (.ref dg), (.int (0 : Int32)), (.ref ca)])) rfl rfl (hb hby d1_24)) ?_
  show own_Go _ _ _ _ T3 (mkF m 25 #[.val (.ref a1), .val (.ref ca), .val (.int (0 : Int32))] [(.int b0_), (.ref dg), (.int (0 : Int32)), (.ref ca)])
  refine own_step (fun _ k => XS.iconst X3.here hx rfl (hb hby d1_25) k) ?_
  show own_Go _ _ _ _ T3 (mkF m 26 #[.val (.ref a1), .val (.ref ca), .val (.int (0 : Int32))] [(.int (4 : Int32)), (.int b0_), (.ref dg), (.int (0 : Int32)), (.ref ca)])
  refine own_step (fun _ k => XS.ishr X3.here hx rfl (hb hby d1_26) rfl k) ?_
  show own_Go _ _ _ _ T3 (mkF m 27 #[.val (.ref a1), .val (.ref ca), .val (.int (0 : Int32))] [(.int (b0_ >>> ((4 : Int32) &&& 31))), (.ref dg), (.int (0 : Int32)), (.ref ca)])
  refine own_step (fun _ k => XS.bipush X3.here hx rfl (hb hby d1_27) k) ?_
  show own_Go _ _ _ _ T3 (mkF m 29 #[.val (.ref a1), .val (.ref ca), .val (.int (0 : Int32))] [(.int (15 : Int32)), (.int (b0_ >>> ((4 : Int32) &&& 31))), (.ref dg), (.int (0 : Int32)), (.ref ca)])
  refine own_step (fun _ k => XS.iand X3.here hx rfl (hb hby d1_29) rfl k) ?_
  show own_Go _ _ _ _ T3 (mkF m 30 #[.val (.ref a1), .val (.ref ca), .val (.int (0 : Int32))] [(.int ((b0_ >>> ((4 : Int32) &&& 31)) &&& (15 : Int32))), (.ref dg), (.int (0 : Int32)), (.ref ca)])
  refine own_step (own_ldC X3 hx hZ e3 (VD.ext Q4.2) (j := ((b0_ >>> ((4 : Int32) &&& 31)) &&& (15 : Int32))) (v := (.int (own_dgv (b0_ >>> ((4 : Int32) &&& 31))))) (own_nib (b0_ >>> ((4 : Int32) &&& 31))) (own_getI own_dg _ _) (g := (mkF m 30 #[.val (.ref a1), .val (.ref ca), .val (.int (0 : Int32))] [(.int ((b0_ >>> ((4 : Int32) &&& 31)) &&& (15 : Int32))), (.ref dg), (.int (0 : Int32)), (.ref ca)])) rfl rfl (hb hby d1_30)) ?_
  show own_Go _ _ _ _ T3 (mkF m 31 #[.val (.ref a1), .val (.ref ca), .val (.int (0 : Int32))] [(.int (own_dgv (b0_ >>> ((4 : Int32) &&& 31)))), (.int (0 : Int32)), (.ref ca)])
  obtain ⟨T5, h5, l5, X5, e5, W5, V5, st5⟩ := own_stC X3 hx hZ e3 V_ca (j := (0 : Int32)) ⟨by decide, by decide⟩ 0 rfl (Nat.le_of_ble_eq_true rfl) (g := (mkF m 31 #[.val (.ref a1), .val (.ref ca), .val (.int (0 : Int32))] [(.int (own_dgv (b0_ >>> ((4 : Int32) &&& 31)))), (.int (0 : Int32)), (.ref ca)])) rfl rfl (hb hby d1_31)
  refine own_step st5 ?_
  have N5 := Fr.snoc X5 N0 g_ca
  have Dc5 := (CHr.wr W5 (Safe.arv (EL := own_EL) hZ.alike V_ca (by decide)) C1.1)
  have C5 := C1.trans Dc5
  have hk5 := Nat.le_trans hk1 Dc5.2.1
  have Z5 := Nat.le_trans Z1 (Keep.of_wr W5).1
  have KK5 := KK1.wr W5 (Or.inr sz_ca)
  rw [own_dgn] at V5
  have V_ca_5 : Arv Z h5 ca k1 .char (6 : Int32) [(.int (own_dgv (b0_ >>> ((4 : Int32) &&& 31)))), (.int (0 : Int32)), (.int (0 : Int32)), (.int (0 : Int32)), (.int (0 : Int32)), (.int (0 : Int32))] (.int (0 : Int32)) := V5
  show own_Go _ _ _ _ T5 (mkF m 32 #[.val (.ref a1), .val (.ref ca), .val (.int (0 : Int32))] [])
  refine own_step (fun _ k => XS.aloadN X5.here hx rfl (hb hby d1_32) rfl rfl k) ?_
  show own_Go _ _ _ _ T5 (mkF m 33 #[.val (.ref a1), .val (.ref ca), .val (.int (0 : Int32))] [(.ref ca)])
  refine own_step (fun _ k => XS.iconst X5.here hx rfl (hb hby d1_33) k) ?_
  show own_Go _ _ _ _ T5 (mkF m 34 #[.val (.ref a1), .val (.ref ca), .val (.int (0 : Int32))] [(.int (2 : Int32)), (.ref ca)])
  refine own_step (fun _ k => XS.iloadN X5.here hx rfl (hb hby d1_34) rfl k) ?_
  show own_Go _ _ _ _ T5 (mkF m 35 #[.val (.ref a1), .val (.ref ca), .val (.int (0 : Int32))] [(.int (0 : Int32)), (.int (2 : Int32)), (.ref ca)])
  refine own_step (fun _ k => XS.imul X5.here hx rfl (hb hby d1_35) rfl k) ?_
  show own_Go _ _ _ _ T5 (mkF m 36 #[.val (.ref a1), .val (.ref ca), .val (.int (0 : Int32))] [(.int ((2 : Int32) * (0 : Int32))), (.ref ca)])
  show own_Go _ _ _ _ T5 (mkF m 36 #[.val (.ref a1), .val (.ref ca), .val (.int (0 : Int32))] [(.int (0 : Int32)), (.ref ca)])
  refine own_step (fun _ k => XS.iconst X5.here hx rfl (hb hby d1_36) k) ?_
  show own_Go _ _ _ _ T5 (mkF m 37 #[.val (.ref a1), .val (.ref ca), .val (.int (0 : Int32))] [(.int (1 : Int32)), (.int (0 : Int32)), (.ref ca)])
  refine own_step (fun _ k => XS.iadd X5.here hx rfl (hb hby d1_37) rfl k) ?_
  show own_Go _ _ _ _ T5 (mkF m 38 #[.val (.ref a1), .val (.ref ca), .val (.int (0 : Int32))] [(.int ((0 : Int32) + (1 : Int32))), (.ref ca)])
  show own_Go _ _ _ _ T5 (mkF m 38 #[.val (.ref a1), .val (.ref ca), .val (.int (0 : Int32))] [(.int (1 : Int32)), (.ref ca)])
  have Q7 := (Q4.wr W5 g_ca)
  obtain ⟨T6, X6, e6, st6⟩ := getS2 X5 hx hZ hown (host := "") (Or.inl (hw _ (List.mem_of_getElem? (i := 6) rfl))) Via.refl e5 (SD.ext Q7.2) (g := (mkF m 38 #[.val (.ref a1), .val (.ref ca), .val (.int (0 : Int32))] [(.int (1 : Int32)), (.ref ca)])) rfl (hb hby d1_38)
  refine own_step st6 ?_
  show own_Go _ _ _ _ T6 (mkF m 41 #[.val (.ref a1), .val (.ref ca), .val (.int (0 : Int32))] [(.ref dg), (.int (1 : Int32)), (.ref ca)])
  refine own_step (fun _ k => XS.aloadN X6.here hx rfl (hb hby d1_41) rfl rfl k) ?_
  show own_Go _ _ _ _ T6 (mkF m 42 #[.val (.ref a1), .val (.ref ca), .val (.int (0 : Int32))] [(.ref a1), (.ref dg), (.int (1 : Int32)), (.ref ca)])
  refine own_step (fun _ k => XS.iloadN X6.here hx rfl (hb hby d1_42) rfl k) ?_
  show own_Go _ _ _ _ T6 (mkF m 43 #[.val (.ref a1), .val (.ref ca), .val (.int (0 : Int32))] [(.int (0 : Int32)), (.ref a1), (.ref dg), (.int (1 : Int32)), (.ref ca)])
  have Q8 := (Q2.other W5 ne_a1_ca)
  refine own_step (own_ldB X6 hx hZ e6 Q8 (j := (0 : Int32)) (v := (.int b0_)) ⟨by decide, by decide⟩ rfl (g := (mkF m 43 #[.val (.ref a1), .val (.ref ca), .val (.int (0 : Int32))] [(.int (0 : Int32)), (.ref a1), (.ref dg), (.int (1 : Int32)), (.ref ca)])) rfl rfl (hb hby d1_43)) ?_
  show own_Go _ _ _ _ T6 (mkF m 44 #[.val (.ref a1), .val (.ref ca), .val (.int (0 : Int32))] [(.int b0_), (.ref dg), (.int (1 : Int32)), (.ref ca)])
  refine own_step (fun _ k => XS.bipush X6.here hx rfl (hb hby d1_44) k) ?_
  show own_Go _ _ _ _ T6 (mkF m 46 #[.val (.ref a1), .val (.ref ca), .val (.int (0 : Int32))] [(.int (15 : Int32)), (.int b0_), (.ref dg), (.int (1 : Int32)), (.ref ca)])
  refine own_step (fun _ k => XS.iand X6.here hx rfl (hb hby d1_46) rfl k) ?_
  show own_Go _ _ _ _ T6 (mkF m 47 #[.val (.ref a1), .val (.ref ca), .val (.int (0 : Int32))] [(.int (b0_ &&& (15 : Int32))), (.ref dg), (.int (1 : Int32)), (.ref ca)])
  refine own_step (own_ldC X6 hx hZ e6 (VD.ext Q7.2) (j := (b0_ &&& (15 : Int32))) (v := (.int (own_dgv b0_))) (own_nib b0_) (own_getI own_dg _ _) (g := (mkF m 47 #[.val (.ref a1), .val (.ref ca), .val (.int (0 : Int32))] [(.int (b0_ &&& (15 : Int32))), (.ref dg), (.int (1 : Int32)), (.ref ca)])) rfl rfl (hb hby d1_47)) ?_
  show own_Go _ _ _ _ T6 (mkF m 48 #[.val (.ref a1), .val (.ref ca), .val (.int (0 : Int32))] [(.int (own_dgv b0_)), (.int (1 : Int32)), (.ref ca)])
  obtain ⟨T9, h9, l9, X9, e9, W9, V9, st9⟩ := own_stC X6 hx hZ e6 V_ca_5 (j := (1 : Int32)) ⟨by decide, by decide⟩ 1 rfl (Nat.le_of_ble_eq_true rfl) (g := (mkF m 48 #[.val (.ref a1), .val (.ref ca), .val (.int (0 : Int32))] [(.int (own_dgv b0_)), (.int (1 : Int32)), (.ref ca)])) rfl rfl (hb hby d1_48)
  refine own_step st9 ?_
  have N9 := Fr.snoc X9 N5 g_ca
  have Dc9 := (CHr.wr W9 (Safe.arv (EL := own_EL) hZ.alike V_ca_5 (by decide)) C5.1)
  have C9 := C5.trans Dc9
  have hk9 := Nat.le_trans hk5 Dc9.2.1
  have Z9 := Nat.le_trans Z5 (Keep.of_wr W9).1
  have KK9 := KK5.wr W9 (Or.inr sz_ca)
  rw [own_dgn] at V9
  have V_ca_9 : Arv Z h9 ca k1 .char (6 : Int32) [(.int (own_dgv (b0_ >>> ((4 : Int32) &&& 31)))), (.int (own_dgv b0_)), (.int (0 : Int32)), (.int (0 : Int32)), (.int (0 : Int32)), (.int (0 : Int32))] (.int (0 : Int32)) := V9
  show own_Go _ _ _ _ T9 (mkF m 49 #[.val (.ref a1), .val (.ref ca), .val (.int (0 : Int32))] [])
  refine own_step (fun _ k => XS.iinc X9.here hx rfl (hb hby d1_49) rfl (l' := #[.val (.ref a1), .val (.ref ca), .val (.int (1 : Int32))]) rfl k) ?_
  show own_Go _ _ _ _ T9 (mkF m 52 #[.val (.ref a1), .val (.ref ca), .val (.int (1 : Int32))] [])
  refine own_step (fun _ k => XS.goto X9.here hx rfl (pc0 := 52) (pc' := 9) rfl (hb hby d1_52) (by decide) (by decide) k) ?_
  show own_Go _ _ _ _ T9 (mkF m 9 #[.val (.ref a1), .val (.ref ca), .val (.int (1 : Int32))] [])
  refine own_step (fun _ k => XS.iloadN X9.here hx rfl (hb hby d1_9) rfl k) ?_
  show own_Go _ _ _ _ T9 (mkF m 10 #[.val (.ref a1), .val (.ref ca), .val (.int (1 : Int32))] [(.int (1 : Int32))])
  refine own_step (fun _ k => XS.aloadN X9.here hx rfl (hb hby d1_10) rfl rfl k) ?_
  show own_Go _ _ _ _ T9 (mkF m 11 #[.val (.ref a1), .val (.ref ca), .val (.int (1 : Int32))] [(.ref a1), (.int (1 : Int32))])
  have Q10 := (Q8.other W9 ne_a1_ca)
  refine own_step (own_len X9 hx hZ e9 Q10 (g := (mkF m 11 #[.val (.ref a1), .val (.ref ca), .val (.int (1 : Int32))] [(.ref a1), (.int (1 : Int32))])) rfl rfl (hb hby d1_11)) ?_
  show own_Go _ _ _ _ T9 (mkF m 12 #[.val (.ref a1), .val (.ref ca), .val (.int (1 : Int32))] [(.int (3 : Int32)), (.int (1 : Int32))])
  refine own_step (fun _ k => XS.icmpNo X9.here hx rfl (hb hby d1_12) rfl (tlt (by decide : (1 : Int32) < (3 : Int32))).2.1 k) ?_
  show own_Go _ _ _ _ T9 (mkF m 15 #[.val (.ref a1), .val (.ref ca), .val (.int (1 : Int32))] [])
  refine own_step (fun _ k => XS.aloadN X9.here hx rfl (hb hby d1_15) rfl rfl k) ?_
  show own_Go _ _ _ _ T9 (mkF m 16 #[.val (.ref a1), .val (.ref ca), .val (.int (1 : Int32))] [(.ref ca)])
  refine own_step (fun _ k => XS.iconst X9.here hx rfl (hb hby d1_16) k) ?_
  show own_Go _ _ _ _ T9 (mkF m 17 #[.val (.ref a1), .val (.ref ca), .val (.int (1 : Int32))] [(.int (2 : Int32)), (.ref ca)])
  refine own_step (fun _ k => XS.iloadN X9.here hx rfl (hb hby d1_17) rfl k) ?_
  show own_Go _ _ _ _ T9 (mkF m 18 #[.val (.ref a1), .val (.ref ca), .val (.int (1 : Int32))] [(.int (1 : Int32)), (.int (2 : Int32)), (.ref ca)])
  refine own_step (fun _ k => XS.imul X9.here hx rfl (hb hby d1_18) rfl k) ?_
  show own_Go _ _ _ _ T9 (mkF m 19 #[.val (.ref a1), .val (.ref ca), .val (.int (1 : Int32))] [(.int ((2 : Int32) * (1 : Int32))), (.ref ca)])
  show own_Go _ _ _ _ T9 (mkF m 19 #[.val (.ref a1), .val (.ref ca), .val (.int (1 : Int32))] [(.int (2 : Int32)), (.ref ca)])
  have Q12 := (Q7.wr W9 g_ca)
  obtain ⟨T11, X11, e11, st11⟩ := getS2 X9 hx hZ hown (host := "") (Or.inl (hw _ (List.mem_of_getElem? (i := 6) rfl))) Via.refl e9 (SD.ext Q12.2) (g := (mkF m 19 #[.val (.ref a1), .val (.ref ca), .val (.int (1 : Int32))] [(.int (2 : Int32)), (.ref ca)])) rfl (hb hby d1_19)
  refine own_step st11 ?_
  show own_Go _ _ _ _ T11 (mkF m 22 #[.val (.ref a1), .val (.ref ca), .val (.int (1 : Int32))] [(.ref dg), (.int (2 : Int32)), (.ref ca)])
  refine own_step (fun _ k => XS.aloadN X11.here hx rfl (hb hby d1_22) rfl rfl k) ?_
  show own_Go _ _ _ _ T11 (mkF m 23 #[.val (.ref a1), .val (.ref ca), .val (.int (1 : Int32))] [(.ref a1), (.ref dg), (.int (2 : Int32)), (.ref ca)])
  refine own_step (fun _ k => XS.iloadN X11.here hx rfl (hb hby d1_23) rfl k) ?_
  show own_Go _ _ _ _ T11 (mkF m 24 #[.val (.ref a1), .val (.ref ca), .val (.int (1 : Int32))] [(.int (1 : Int32)), (.ref a1), (.ref dg), (.int (2 : Int32)), (.ref ca)])
  refine own_step (own_ldB X11 hx hZ e11 Q10 (j := (1 : Int32)) (v := (.int b1_)) ⟨by decide, by decide⟩ rfl (g := (mkF m 24 #[.val (.ref a1), .val (.ref ca), .val (.int (1 : Int32))] [(.int (1 : Int32)), (.ref a1), (.ref dg), (.int (2 : Int32)), (.ref ca)])) rfl rfl (hb hby d1_24)) ?_
  show own_Go _ _ _ _ T11 (mkF m 25 #[.val (.ref a1), .val (.ref ca), .val (.int (1 : Int32))] [(.int b1_), (.ref dg), (.int (2 : Int32)), (.ref ca)])
  refine own_step (fun _ k => XS.iconst X11.here hx rfl (hb hby d1_25) k) ?_
  show own_Go _ _ _ _ T11 (mkF m 26 #[.val (.ref a1), .val (.ref ca), .val (.int (1 : Int32))] [(.int (4 : Int32)), (.int b1_), (.ref dg), (.int (2 : Int32)), (.ref ca)])
  refine own_step (fun _ k => XS.ishr X11.here hx rfl (hb hby d1_26) rfl k) ?_
  show own_Go _ _ _ _ T11 (mkF m 27 #[.val (.ref a1), .val (.ref ca), .val (.int (1 : Int32))] [(.int (b1_ >>> ((4 : Int32) &&& 31))), (.ref dg), (.int (2 : Int32)), (.ref ca)])
  refine own_step (fun _ k => XS.bipush X11.here hx rfl (hb hby d1_27) k) ?_
  show own_Go _ _ _ _ T11 (mkF m 29 #[.val (.ref a1), .val (.ref ca), .val (.int (1 : Int32))] [(.int (15 : Int32)), (.int (b1_ >>> ((4 : Int32) &&& 31))), (.ref dg), (.int (2 : Int32)), (.ref ca)])
  refine own_step (fun _ k => XS.iand X11.here hx rfl (hb hby d1_29) rfl k) ?_
  show own_Go _ _ _ _ T11 (mkF m 30 #[.val (.ref a1), .val (.ref ca), .val (.int (1 : Int32))] [(.int ((b1_ >>> ((4 : Int32) &&& 31)) &&& (15 : Int32))), (.ref dg), (.int (2 : Int32)), (.ref ca)])
  refine own_step (own_ldC X11 hx hZ e11 (VD.ext Q12.2) (j := ((b1_ >>> ((4 : Int32) &&& 31)) &&& (15 : Int32))) (v := (.int (own_dgv (b1_ >>> ((4 : Int32) &&& 31))))) (own_nib (b1_ >>> ((4 : Int32) &&& 31))) (own_getI own_dg _ _) (g := (mkF m 30 #[.val (.ref a1), .val (.ref ca), .val (.int (1 : Int32))] [(.int ((b1_ >>> ((4 : Int32) &&& 31)) &&& (15 : Int32))), (.ref dg), (.int (2 : Int32)), (.ref ca)])) rfl rfl (hb hby d1_30)) ?_
  show own_Go _ _ _ _ T11 (mkF m 31 #[.val (.ref a1), .val (.ref ca), .val (.int (1 : Int32))] [(.int (own_dgv (b1_ >>> ((4 : Int32) &&& 31)))), (.int (2 : Int32)), (.ref ca)])
  obtain ⟨T13, h13, l13, X13, e13, W13, V13, st13⟩ := own_stC X11 hx hZ e11 V_ca_9 (j := (2 : Int32)) ⟨by decide, by decide⟩ 2 rfl (Nat.le_of_ble_eq_true rfl) (g := (mkF m 31 #[.val (.ref a1), .val (.ref ca), .val (.int (1 : Int32))] [(.int (own_dgv (b1_ >>> ((4 : Int32) &&& 31)))), (.int (2 : Int32)), (.ref ca)])) rfl rfl (hb hby d1_31)
  refine own_step st13 ?_
  have N13 := Fr.snoc X13 N9 g_ca
  have Dc13 := (CHr.wr W13 (Safe.arv (EL := own_EL) hZ.alike V_ca_9 (by decide)) C9.1)
  have C13 := C9.trans Dc13
  have hk13 := Nat.le_trans hk9 Dc13.2.1
  have Z13 := Nat.le_trans Z9 (Keep.of_wr W13).1
  have KK13 := KK9.wr W13 (Or.inr sz_ca)
  rw [own_dgn] at V13
  have V_ca_13 : Arv Z h13 ca k1 .char (6 : Int32) [(.int (own_dgv (b0_ >>> ((4 : Int32) &&& 31)))), (.int (own_dgv b0_)), (.int (own_dgv (b1_ >>> ((4 : Int32) &&& 31)))), (.int (0 : Int32)), (.int (0 : Int32)), (.int (0 : Int32))] (.int (0 : Int32)) := V13
  show own_Go _ _ _ _ T13 (mkF m 32 #[.val (.ref a1), .val (.ref ca), .val (.int (1 : Int32))] [])
  refine own_step (fun _ k => XS.aloadN X13.here hx rfl (hb hby d1_32) rfl rfl k) ?_
  show own_Go _ _ _ _ T13 (mkF m 33 #[.val (.ref a1), .val (.ref ca), .val (.int (1 : Int32))] [(.ref ca)])
  refine own_step (fun _ k => XS.iconst X13.here hx rfl (hb hby d1_33) k) ?_
  show own_Go _ _ _ _ T13 (mkF m 34 #[.val (.ref a1), .val (.ref ca), .val (.int (1 : Int32))] [(.int (2 : Int32)), (.ref ca)])
  refine own_step (fun _ k => XS.iloadN X13.here hx rfl (hb hby d1_34) rfl k) ?_
  show own_Go _ _ _ _ T13 (mkF m 35 #[.val (.ref a1), .val (.ref ca), .val (.int (1 : Int32))] [(.int (1 : Int32)), (.int (2 : Int32)), (.ref ca)])
  refine own_step (fun _ k => XS.imul X13.here hx rfl (hb hby d1_35) rfl k) ?_
  show own_Go _ _ _ _ T13 (mkF m 36 #[.val (.ref a1), .val (.ref ca), .val (.int (1 : Int32))] [(.int ((2 : Int32) * (1 : Int32))), (.ref ca)])
  show own_Go _ _ _ _ T13 (mkF m 36 #[.val (.ref a1), .val (.ref ca), .val (.int (1 : Int32))] [(.int (2 : Int32)), (.ref ca)])
  refine own_step (fun _ k => XS.iconst X13.here hx rfl (hb hby d1_36) k) ?_
  show own_Go _ _ _ _ T13 (mkF m 37 #[.val (.ref a1), .val (.ref ca), .val (.int (1 : Int32))] [(.int (1 : Int32)), (.int (2 : Int32)), (.ref ca)])
  refine own_step (fun _ k => XS.iadd X13.here hx rfl (hb hby d1_37) rfl k) ?_
  show own_Go _ _ _ _ T13 (mkF m 38 #[.val (.ref a1), .val (.ref ca), .val (.int (1 : Int32))] [(.int ((2 : Int32) + (1 : Int32))), (.ref ca)])
  show own_Go _ _ _ _ T13 (mkF m 38 #[.val (.ref a1), .val (.ref ca), .val (.int (1 : Int32))] [(.int (3 : Int32)), (.ref ca)])
  have Q15 := (Q12.wr W13 g_ca)
  obtain ⟨T14, X14, e14, st14⟩ := getS2 X13 hx hZ hown (host := "") (Or.inl (hw _ (List.mem_of_getElem? (i := 6) rfl))) Via.refl e13 (SD.ext Q15.2) (g := (mkF m 38 #[.val (.ref a1), .val (.ref ca), .val (.int (1 : Int32))] [(.int (3 : Int32)), (.ref ca)])) rfl (hb hby d1_38)
  refine own_step st14 ?_
  show own_Go _ _ _ _ T14 (mkF m 41 #[.val (.ref a1), .val (.ref ca), .val (.int (1 : Int32))] [(.ref dg), (.int (3 : Int32)), (.ref ca)])
  refine own_step (fun _ k => XS.aloadN X14.here hx rfl (hb hby d1_41) rfl rfl k) ?_
  show own_Go _ _ _ _ T14 (mkF m 42 #[.val (.ref a1), .val (.ref ca), .val (.int (1 : Int32))] [(.ref a1), (.ref dg), (.int (3 : Int32)), (.ref ca)])
  refine own_step (fun _ k => XS.iloadN X14.here hx rfl (hb hby d1_42) rfl k) ?_
  show own_Go _ _ _ _ T14 (mkF m 43 #[.val (.ref a1), .val (.ref ca), .val (.int (1 : Int32))] [(.int (1 : Int32)), (.ref a1), (.ref dg), (.int (3 : Int32)), (.ref ca)])
  have Q16 := (Q10.other W13 ne_a1_ca)
  refine own_step (own_ldB X14 hx hZ e14 Q16 (j := (1 : Int32)) (v := (.int b1_)) ⟨by decide, by decide⟩ rfl (g := (mkF m 43 #[.val (.ref a1), .val (.ref ca), .val (.int (1 : Int32))] [(.int (1 : Int32)), (.ref a1), (.ref dg), (.int (3 : Int32)), (.ref ca)])) rfl rfl (hb hby d1_43)) ?_
  show own_Go _ _ _ _ T14 (mkF m 44 #[.val (.ref a1), .val (.ref ca), .val (.int (1 : Int32))] [(.int b1_), (.ref dg), (.int (3 : Int32)), (.ref ca)])
  refine own_step (fun _ k => XS.bipush X14.here hx rfl (hb hby d1_44) k) ?_
  show own_Go _ _ _ _ T14 (mkF m 46 #[.val (.ref a1), .val (.ref ca), .val (.int (1 : Int32))] [(.int (15 : Int32)), (.int b1_), (.ref dg), (.int (3 : Int32)), (.ref ca)])
  refine own_step (fun _ k => XS.iand X14.here hx rfl (hb hby d1_46) rfl k) ?_
  show own_Go _ _ _ _ T14 (mkF m 47 #[.val (.ref a1), .val (.ref ca), .val (.int (1 : Int32))] [(.int (b1_ &&& (15 : Int32))), (.ref dg), (.int (3 : Int32)), (.ref ca)])
  refine own_step (own_ldC X14 hx hZ e14 (VD.ext Q15.2) (j := (b1_ &&& (15 : Int32))) (v := (.int (own_dgv b1_))) (own_nib b1_) (own_getI own_dg _ _) (g := (mkF m 47 #[.val (.ref a1), .val (.ref ca), .val (.int (1 : Int32))] [(.int (b1_ &&& (15 : Int32))), (.ref dg), (.int (3 : Int32)), (.ref ca)])) rfl rfl (hb hby d1_47)) ?_
  show own_Go _ _ _ _ T14 (mkF m 48 #[.val (.ref a1), .val (.ref ca), .val (.int (1 : Int32))] [(.int (own_dgv b1_)), (.int (3 : Int32)), (.ref ca)])
  obtain ⟨T17, h17, l17, X17, e17, W17, V17, st17⟩ := own_stC X14 hx hZ e14 V_ca_13 (j := (3 : Int32)) ⟨by decide, by decide⟩ 3 rfl (Nat.le_of_ble_eq_true rfl) (g := (mkF m 48 #[.val (.ref a1), .val (.ref ca), .val (.int (1 : Int32))] [(.int (own_dgv b1_)), (.int (3 : Int32)), (.ref ca)])) rfl rfl (hb hby d1_48)
  refine own_step st17 ?_
  have N17 := Fr.snoc X17 N13 g_ca
  have Dc17 := (CHr.wr W17 (Safe.arv (EL := own_EL) hZ.alike V_ca_13 (by decide)) C13.1)
  have C17 := C13.trans Dc17
  have hk17 := Nat.le_trans hk13 Dc17.2.1
  have Z17 := Nat.le_trans Z13 (Keep.of_wr W17).1
  have KK17 := KK13.wr W17 (Or.inr sz_ca)
  rw [own_dgn] at V17
  have V_ca_17 : Arv Z h17 ca k1 .char (6 : Int32) [(.int (own_dgv (b0_ >>> ((4 : Int32) &&& 31)))), (.int (own_dgv b0_)), (.int (own_dgv (b1_ >>> ((4 : Int32) &&& 31)))), (.int (own_dgv b1_)), (.int (0 : Int32)), (.int (0 : Int32))] (.int (0 : Int32)) := V17
  show own_Go _ _ _ _ T17 (mkF m 49 #[.val (.ref a1), .val (.ref ca), .val (.int (1 : Int32))] [])
  refine own_step (fun _ k => XS.iinc X17.here hx rfl (hb hby d1_49) rfl (l' := #[.val (.ref a1), .val (.ref ca), .val (.int (2 : Int32))]) rfl k) ?_
  show own_Go _ _ _ _ T17 (mkF m 52 #[.val (.ref a1), .val (.ref ca), .val (.int (2 : Int32))] [])
  refine own_step (fun _ k => XS.goto X17.here hx rfl (pc0 := 52) (pc' := 9) rfl (hb hby d1_52) (by decide) (by decide) k) ?_
  show own_Go _ _ _ _ T17 (mkF m 9 #[.val (.ref a1), .val (.ref ca), .val (.int (2 : Int32))] [])
  refine own_step (fun _ k => XS.iloadN X17.here hx rfl (hb hby d1_9) rfl k) ?_
  show own_Go _ _ _ _ T17 (mkF m 10 #[.val (.ref a1), .val (.ref ca), .val (.int (2 : Int32))] [(.int (2 : Int32))])
  refine own_step (fun _ k => XS.aloadN X17.here hx rfl (hb hby d1_10) rfl rfl k) ?_
  show own_Go _ _ _ _ T17 (mkF m 11 #[.val (.ref a1), .val (.ref ca), .val (.int (2 : Int32))] [(.ref a1), (.int (2 : Int32))])
  have Q18 := (Q16.other W17 ne_a1_ca)
  refine own_step (own_len X17 hx hZ e17 Q18 (g := (mkF m 11 #[.val (.ref a1), .val (.ref ca), .val (.int (2 : Int32))] [(.ref a1), (.int (2 : Int32))])) rfl rfl (hb hby d1_11)) ?_
  show own_Go _ _ _ _ T17 (mkF m 12 #[.val (.ref a1), .val (.ref ca), .val (.int (2 : Int32))] [(.int (3 : Int32)), (.int (2 : Int32))])
  refine own_step (fun _ k => XS.icmpNo X17.here hx rfl (hb hby d1_12) rfl (tlt (by decide : (2 : Int32) < (3 : Int32))).2.1 k) ?_
  show own_Go _ _ _ _ T17 (mkF m 15 #[.val (.ref a1), .val (.ref ca), .val (.int (2 : Int32))] [])
  refine own_step (fun _ k => XS.aloadN X17.here hx rfl (hb hby d1_15) rfl rfl k) ?_
  show own_Go _ _ _ _ T17 (mkF m 16 #[.val (.ref a1), .val (.ref ca), .val (.int (2 : Int32))] [(.ref ca)])
  refine own_step (fun _ k => XS.iconst X17.here hx rfl (hb hby d1_16) k) ?_
  show own_Go _ _ _ _ T17 (mkF m 17 #[.val (.ref a1), .val (.ref ca), .val (.int (2 : Int32))] [(.int (2 : Int32)), (.ref ca)])
  refine own_step (fun _ k => XS.iloadN X17.here hx rfl (hb hby d1_17) rfl k) ?_
  show own_Go _ _ _ _ T17 (mkF m 18 #[.val (.ref a1), .val (.ref ca), .val (.int (2 : Int32))] [(.int (2 : Int32)), (.int (2 : Int32)), (.ref ca)])
  refine own_step (fun _ k => XS.imul X17.here hx rfl (hb hby d1_18) rfl k) ?_
  show own_Go _ _ _ _ T17 (mkF m 19 #[.val (.ref a1), .val (.ref ca), .val (.int (2 : Int32))] [(.int ((2 : Int32) * (2 : Int32))), (.ref ca)])
  show own_Go _ _ _ _ T17 (mkF m 19 #[.val (.ref a1), .val (.ref ca), .val (.int (2 : Int32))] [(.int (4 : Int32)), (.ref ca)])
  have Q20 := (Q15.wr W17 g_ca)
  obtain ⟨T19, X19, e19, st19⟩ := getS2 X17 hx hZ hown (host := "") (Or.inl (hw _ (List.mem_of_getElem? (i := 6) rfl))) Via.refl e17 (SD.ext Q20.2) (g := (mkF m 19 #[.val (.ref a1), .val (.ref ca), .val (.int (2 : Int32))] [(.int (4 : Int32)), (.ref ca)])) rfl (hb hby d1_19)
  refine own_step st19 ?_
  show own_Go _ _ _ _ T19 (mkF m 22 #[.val (.ref a1), .val (.ref ca), .val (.int (2 : Int32))] [(.ref dg), (.int (4 : Int32)), (.ref ca)])
  refine own_step (fun _ k => XS.aloadN X19.here hx rfl (hb hby d1_22) rfl rfl k) ?_
  show own_Go _ _ _ _ T19 (mkF m 23 #[.val (.ref a1), .val (.ref ca), .val (.int (2 : Int32))] [(.ref a1), (.ref dg), (.int (4 : Int32)), (.ref ca)])
  refine own_step (fun _ k => XS.iloadN X19.here hx rfl (hb hby d1_23) rfl k) ?_
  show own_Go _ _ _ _ T19 (mkF m 24 #[.val (.ref a1), .val (.ref ca), .val (.int (2 : Int32))] [(.int (2 : Int32)), (.ref a1), (.ref dg), (.int (4 : Int32)), (.ref ca)])
  refine own_step (own_ldB X19 hx hZ e19 Q18 (j := (2 : Int32)) (v := (.int b2_)) ⟨by decide, by decide⟩ rfl (g := (mkF m 24 #[.val (.ref a1), .val (.ref ca), .val (.int (2 : Int32))] [(.int (2 : Int32)), (.ref a1), (.ref dg), (.int (4 : Int32)), (.ref ca)])) rfl rfl (hb hby d1_24)) ?_
  show own_Go _ _ _ _ T19 (mkF m 25 #[.val (.ref a1), .val (.ref ca), .val (.int (2 : Int32))] [(.int b2_), (.ref dg), (.int (4 : Int32)), (.ref ca)])
  refine own_step (fun _ k => XS.iconst X19.here hx rfl (hb hby d1_25) k) ?_
  show own_Go _ _ _ _ T19 (mkF m 26 #[.val (.ref a1), .val (.ref ca), .val (.int (2 : Int32))] [(.int (4 : Int32)), (.int b2_), (.ref dg), (.int (4 : Int32)), (.ref ca)])
  refine own_step (fun _ k => XS.ishr X19.here hx rfl (hb hby d1_26) rfl k) ?_
  show own_Go _ _ _ _ T19 (mkF m 27 #[.val (.ref a1), .val (.ref ca), .val (.int (2 : Int32))] [(.int (b2_ >>> ((4 : Int32) &&& 31))), (.ref dg), (.int (4 : Int32)), (.ref ca)])
  refine own_step (fun _ k => XS.bipush X19.here hx rfl (hb hby d1_27) k) ?_
  show own_Go _ _ _ _ T19 (mkF m 29 #[.val (.ref a1), .val (.ref ca), .val (.int (2 : Int32))] [(.int (15 : Int32)), (.int (b2_ >>> ((4 : Int32) &&& 31))), (.ref dg), (.int (4 : Int32)), (.ref ca)])
  refine own_step (fun _ k => XS.iand X19.here hx rfl (hb hby d1_29) rfl k) ?_
  show own_Go _ _ _ _ T19 (mkF m 30 #[.val (.ref a1), .val (.ref ca), .val (.int (2 : Int32))] [(.int ((b2_ >>> ((4 : Int32) &&& 31)) &&& (15 : Int32))), (.ref dg), (.int (4 : Int32)), (.ref ca)])
  refine own_step (own_ldC X19 hx hZ e19 (VD.ext Q20.2) (j := ((b2_ >>> ((4 : Int32) &&& 31)) &&& (15 : Int32))) (v := (.int (own_dgv (b2_ >>> ((4 : Int32) &&& 31))))) (own_nib (b2_ >>> ((4 : Int32) &&& 31))) (own_getI own_dg _ _) (g := (mkF m 30 #[.val (.ref a1), .val (.ref ca), .val (.int (2 : Int32))] [(.int ((b2_ >>> ((4 : Int32) &&& 31)) &&& (15 : Int32))), (.ref dg), (.int (4 : Int32)), (.ref ca)])) rfl rfl (hb hby d1_30)) ?_
  show own_Go _ _ _ _ T19 (mkF m 31 #[.val (.ref a1), .val (.ref ca), .val (.int (2 : Int32))] [(.int (own_dgv (b2_ >>> ((4 : Int32) &&& 31)))), (.int (4 : Int32)), (.ref ca)])
  obtain ⟨T21, h21, l21, X21, e21, W21, V21, st21⟩ := own_stC X19 hx hZ e19 V_ca_17 (j := (4 : Int32)) ⟨by decide, by decide⟩ 4 rfl (Nat.le_of_ble_eq_true rfl) (g := (mkF m 31 #[.val (.ref a1), .val (.ref ca), .val (.int (2 : Int32))] [(.int (own_dgv (b2_ >>> ((4 : Int32) &&& 31)))), (.int (4 : Int32)), (.ref ca)])) rfl rfl (hb hby d1_31)
  refine own_step st21 ?_
  have N21 := Fr.snoc X21 N17 g_ca
  have Dc21 := (CHr.wr W21 (Safe.arv (EL := own_EL) hZ.alike V_ca_17 (by decide)) C17.1)
  have C21 := C17.trans Dc21
  have hk21 := Nat.le_trans hk17 Dc21.2.1
  have Z21 := Nat.le_trans Z17 (Keep.of_wr W21).1
  have KK21 := KK17.wr W21 (Or.inr sz_ca)
  rw [own_dgn] at V21
  have V_ca_21 : Arv Z h21 ca k1 .char (6 : Int32) [(.int (own_dgv (b0_ >>> ((4 : Int32) &&& 31)))), (.int (own_dgv b0_)), (.int (own_dgv (b1_ >>> ((4 : Int32) &&& 31)))), (.int (own_dgv b1_)), (.int (own_dgv (b2_ >>> ((4 : Int32) &&& 31)))), (.int (0 : Int32))] (.int (0 : Int32)) := V21
  show own_Go _ _ _ _ T21 (mkF m 32 #[.val (.ref a1), .val (.ref ca), .val (.int (2 : Int32))] [])
  refine own_step (fun _ k => XS.aloadN X21.here hx rfl (hb hby d1_32) rfl rfl k) ?_
  show own_Go _ _ _ _ T21 (mkF m 33 #[.val (.ref a1), .val (.ref ca), .val (.int (2 : Int32))] [(.ref ca)])
  refine own_step (fun _ k => XS.iconst X21.here hx rfl (hb hby d1_33) k) ?_
  show own_Go _ _ _ _ T21 (mkF m 34 #[.val (.ref a1), .val (.ref ca), .val (.int (2 : Int32))] [(.int (2 : Int32)), (.ref ca)])
  refine own_step (fun _ k => XS.iloadN X21.here hx rfl (hb hby d1_34) rfl k) ?_
  show own_Go _ _ _ _ T21 (mkF m 35 #[.val (.ref a1), .val (.ref ca), .val (.int (2 : Int32))] [(.int (2 : Int32)), (.int (2 : Int32)), (.ref ca)])
  refine own_step (fun _ k => XS.imul X21.here hx rfl (hb hby d1_35) rfl k) ?_
  show own_Go _ _ _ _ T21 (mkF m 36 #[.val (.ref a1), .val (.ref ca), .val (.int (2 : Int32))] [(.int ((2 : Int32) * (2 : Int32))), (.ref ca)])
  show own_Go _ _ _ _ T21 (mkF m 36 #[.val (.ref a1), .val (.ref ca), .val (.int (2 : Int32))] [(.int (4 : Int32)), (.ref ca)])
  refine own_step (fun _ k => XS.iconst X21.here hx rfl (hb hby d1_36) k) ?_
  show own_Go _ _ _ _ T21 (mkF m 37 #[.val (.ref a1), .val (.ref ca), .val (.int (2 : Int32))] [(.int (1 : Int32)), (.int (4 : Int32)), (.ref ca)])
  refine own_step (fun _ k => XS.iadd X21.here hx rfl (hb hby d1_37) rfl k) ?_
  show own_Go _ _ _ _ T21 (mkF m 38 #[.val (.ref a1), .val (.ref ca), .val (.int (2 : Int32))] [(.int ((4 : Int32) + (1 : Int32))), (.ref ca)])
  show own_Go _ _ _ _ T21 (mkF m 38 #[.val (.ref a1), .val (.ref ca), .val (.int (2 : Int32))] [(.int (5 : Int32)), (.ref ca)])
  have Q23 := (Q20.wr W21 g_ca)
  obtain ⟨T22, X22, e22, st22⟩ := getS2 X21 hx hZ hown (host := "") (Or.inl (hw _ (List.mem_of_getElem? (i := 6) rfl))) Via.refl e21 (SD.ext Q23.2) (g := (mkF m 38 #[.val (.ref a1), .val (.ref ca), .val (.int (2 : Int32))] [(.int (5 : Int32)), (.ref ca)])) rfl (hb hby d1_38)
  refine own_step st22 ?_
  show own_Go _ _ _ _ T22 (mkF m 41 #[.val (.ref a1), .val (.ref ca), .val (.int (2 : Int32))] [(.ref dg), (.int (5 : Int32)), (.ref ca)])
  refine own_step (fun _ k => XS.aloadN X22.here hx rfl (hb hby d1_41) rfl rfl k) ?_
  show own_Go _ _ _ _ T22 (mkF m 42 #[.val (.ref a1), .val (.ref ca), .val (.int (2 : Int32))] [(.ref a1), (.ref dg), (.int (5 : Int32)), (.ref ca)])
  refine own_step (fun _ k => XS.iloadN X22.here hx rfl (hb hby d1_42) rfl k) ?_
  show own_Go _ _ _ _ T22 (mkF m 43 #[.val (.ref a1), .val (.ref ca), .val (.int (2 : Int32))] [(.int (2 : Int32)), (.ref a1), (.ref dg), (.int (5 : Int32)), (.ref ca)])
  have Q24 := (Q18.other W21 ne_a1_ca)
  refine own_step (own_ldB X22 hx hZ e22 Q24 (j := (2 : Int32)) (v := (.int b2_)) ⟨by decide, by decide⟩ rfl (g := (mkF m 43 #[.val (.ref a1), .val (.ref ca), .val (.int (2 : Int32))] [(.int (2 : Int32)), (.ref a1), (.ref dg), (.int (5 : Int32)), (.ref ca)])) rfl rfl (hb hby d1_43)) ?_
  show own_Go _ _ _ _ T22 (mkF m 44 #[.val (.ref a1), .val (.ref ca), .val (.int (2 : Int32))] [(.int b2_), (.ref dg), (.int (5 : Int32)), (.ref ca)])
  refine own_step (fun _ k => XS.bipush X22.here hx rfl (hb hby d1_44) k) ?_
  show own_Go _ _ _ _ T22 (mkF m 46 #[.val (.ref a1), .val (.ref ca), .val (.int (2 : Int32))] [(.int (15 : Int32)), (.int b2_), (.ref dg), (.int (5 : Int32)), (.ref ca)])
  refine own_step (fun _ k => XS.iand X22.here hx rfl (hb hby d1_46) rfl k) ?_
  show own_Go _ _ _ _ T22 (mkF m 47 #[.val (.ref a1), .val (.ref ca), .val (.int (2 : Int32))] [(.int (b2_ &&& (15 : Int32))), (.ref dg), (.int (5 : Int32)), (.ref ca)])
  refine own_step (own_ldC X22 hx hZ e22 (VD.ext Q23.2) (j := (b2_ &&& (15 : Int32))) (v := (.int (own_dgv b2_))) (own_nib b2_) (own_getI own_dg _ _) (g := (mkF m 47 #[.val (.ref a1), .val (.ref ca), .val (.int (2 : Int32))] [(.int (b2_ &&& (15 : Int32))), (.ref dg), (.int (5 : Int32)), (.ref ca)])) rfl rfl (hb hby d1_47)) ?_
  show own_Go _ _ _ _ T22 (mkF m 48 #[.val (.ref a1), .val (.ref ca), .val (.int (2 : Int32))] [(.int (own_dgv b2_)), (.int (5 : Int32)), (.ref ca)])
  obtain ⟨T25, h25, l25, X25, e25, W25, V25, st25⟩ := own_stC X22 hx hZ e22 V_ca_21 (j := (5 : Int32)) ⟨by decide, by decide⟩ 5 rfl (Nat.le_of_ble_eq_true rfl) (g := (mkF m 48 #[.val (.ref a1), .val (.ref ca), .val (.int (2 : Int32))] [(.int (own_dgv b2_)), (.int (5 : Int32)), (.ref ca)])) rfl rfl (hb hby d1_48)
  refine own_step st25 ?_
  have N25 := Fr.snoc X25 N21 g_ca
  have Dc25 := (CHr.wr W25 (Safe.arv (EL := own_EL) hZ.alike V_ca_21 (by decide)) C21.1)
  have C25 := C21.trans Dc25
  have hk25 := Nat.le_trans hk21 Dc25.2.1
  have Z25 := Nat.le_trans Z21 (Keep.of_wr W25).1
  have KK25 := KK21.wr W25 (Or.inr sz_ca)
  rw [own_dgn] at V25
  have V_ca_25 : Arv Z h25 ca k1 .char (6 : Int32) [(.int (own_dgv (b0_ >>> ((4 : Int32) &&& 31)))), (.int (own_dgv b0_)), (.int (own_dgv (b1_ >>> ((4 : Int32) &&& 31)))), (.int (own_dgv b1_)), (.int (own_dgv (b2_ >>> ((4 : Int32) &&& 31)))), (.int (own_dgv b2_))] (.int (0 : Int32)) := V25
  show own_Go _ _ _ _ T25 (mkF m 49 #[.val (.ref a1), .val (.ref ca), .val (.int (2 : Int32))] [])
  refine own_step (fun _ k => XS.iinc X25.here hx rfl (hb hby d1_49) rfl (l' := #[.val (.ref a1), .val (.ref ca), .val (.int (3 : Int32))]) rfl k) ?_
  show own_Go _ _ _ _ T25 (mkF m 52 #[.val (.ref a1), .val (.ref ca), .val (.int (3 : Int32))] [])
  refine own_step (fun _ k => XS.goto X25.here hx rfl (pc0 := 52) (pc' := 9) rfl (hb hby d1_52) (by decide) (by decide) k) ?_
  show own_Go _ _ _ _ T25 (mkF m 9 #[.val (.ref a1), .val (.ref ca), .val (.int (3 : Int32))] [])
  refine own_step (fun _ k => XS.iloadN X25.here hx rfl (hb hby d1_9) rfl k) ?_
  show own_Go _ _ _ _ T25 (mkF m 10 #[.val (.ref a1), .val (.ref ca), .val (.int (3 : Int32))] [(.int (3 : Int32))])
  refine own_step (fun _ k => XS.aloadN X25.here hx rfl (hb hby d1_10) rfl rfl k) ?_
  show own_Go _ _ _ _ T25 (mkF m 11 #[.val (.ref a1), .val (.ref ca), .val (.int (3 : Int32))] [(.ref a1), (.int (3 : Int32))])
  have Q26 := (Q24.other W25 ne_a1_ca)
  refine own_step (own_len X25 hx hZ e25 Q26 (g := (mkF m 11 #[.val (.ref a1), .val (.ref ca), .val (.int (3 : Int32))] [(.ref a1), (.int (3 : Int32))])) rfl rfl (hb hby d1_11)) ?_
  show own_Go _ _ _ _ T25 (mkF m 12 #[.val (.ref a1), .val (.ref ca), .val (.int (3 : Int32))] [(.int (3 : Int32)), (.int (3 : Int32))])
  refine own_step (fun _ k => XS.icmpYes X25.here hx rfl (pc0 := 12) (pc' := 55) rfl (hb hby d1_12) rfl (flt (by decide : ¬ ((3 : Int32) < (3 : Int32)))).2.1 (by decide) (by decide) k) ?_
  show own_Go _ _ _ _ T25 (mkF m 55 #[.val (.ref a1), .val (.ref ca), .val (.int (3 : Int32))] [])
  obtain ⟨T27, h27, X27, e27, E27, A27, D27, -, st27⟩ := newO X25 hx hZ hown (hw _ (List.mem_of_getElem? (i := 8) rfl)) (hw _ (List.mem_of_getElem? (i := 9) rfl)) (hw _ (List.mem_of_getElem? (i := 10) rfl)) e25 (g := (mkF m 55 #[.val (.ref a1), .val (.ref ca), .val (.int (3 : Int32))] [])) rfl (hb hby d1_55) (by decide) (by decide)
  obtain ⟨so, g27⟩ : ∃ z, z = h25.size := ⟨_, rfl⟩
  rw [← g27] at A27 D27 st27
  have ne_a1_so : a1 ≠ so := Nat.ne_of_lt (Nat.lt_of_lt_of_eq Q26.lt g27.symm)
  have ne_ca_so : ca ≠ so := Nat.ne_of_lt (Nat.lt_of_lt_of_eq V_ca_25.lt g27.symm)
  have g_so : n0 ≤ so := Nat.le_trans Z25 (Nat.le_of_eq g27.symm)
  have sz_so : h0.size ≤ so := Nat.le_trans KK25.1 (Nat.le_of_eq g27.symm)
  refine own_step st27 ?_
  have Dc27 := (CHr.ext E27 C25.1)
  have C27 := C25.trans Dc27
  have hk27 := Nat.le_trans hk25 Dc27.2.1
  have Z27 := Nat.le_trans Z25 E27.1
  have KK27 := KK25.ext E27
  have F_coder_so : Fld Z h27 so "java/lang/String" "coder" "B" (.int (0 : Int32)) := D27 (Or.inr (hw _ (List.mem_of_getElem? (i := 33) rfl))) (ty := .byte) (by decide)
  have F_value_so : Fld Z h27 so "java/lang/String" "value" "[B" .null := D27 (Or.inr (hw _ (List.mem_of_getElem? (i := 35) rfl))) (ty := (.array .byte)) (by decide)
  show own_Go _ _ _ _ T27 (mkF m 58 #[.val (.ref a1), .val (.ref ca), .val (.int (3 : Int32))] [(.ref so)])
  refine own_step (fun _ k => XS.dup X27.here hx rfl (hb hby d1_58) rfl rfl k) ?_
  show own_Go _ _ _ _ T27 (mkF m 59 #[.val (.ref a1), .val (.ref ca), .val (.int (3 : Int32))] [(.ref so), (.ref so)])
  refine own_step (fun _ k => XS.aloadN X27.here hx rfl (hb hby d1_59) rfl rfl k) ?_
  show own_Go _ _ _ _ T27 (mkF m 60 #[.val (.ref a1), .val (.ref ca), .val (.int (3 : Int32))] [(.ref ca), (.ref so), (.ref so)])
  have Q28 := ((Q23.wr W25 g_ca).ext E27)
  have Q29 := (V_ca_25.ext E27)
  refine own_callCW X27 hx hZ (y := (⟨"java/lang/String", "<init>", "([C)V"⟩ : MethodName)) rfl hown (hw _ (List.mem_of_getElem? (i := 11) rfl)) (hw _ (List.mem_of_getElem? (i := 12) rfl)) (hw _ (List.mem_of_getElem? (i := 10) rfl)) (hw _ (List.mem_of_getElem? (i := 13) rfl)) (by decide) (rm2 l Z a0 hw [] so ca k1 cz (6 : Int32) ([(own_dgv (b0_ >>> ((4 : Int32) &&& 31))), (own_dgv b0_), (own_dgv (b1_ >>> ((4 : Int32) &&& 31))), (own_dgv b1_), (own_dgv (b2_ >>> ((4 : Int32) &&& 31))), (own_dgv b2_)] : List Int32) h27 n0 Z27 hEL Q28 SC hcz A27 F_coder_so F_value_so Q29 rfl (Nat.le_of_ble_eq_true rfl) (own_lat _ (by intro c hc; simp only [List.mem_cons, List.not_mem_nil, or_false] at hc; rcases hc with rfl | rfl | rfl | rfl | rfl | rfl; exact own_dgl _; exact own_dgl _; exact own_dgl _; exact own_dgl _; exact own_dgl _; exact own_dgl _)) g_so) e27 hEL C27.1 hS0 hk27 (b := so) 1 (by decide) (by decide) (by decide) (by decide) (g := (mkF m 60 #[.val (.ref a1), .val (.ref ca), .val (.int (3 : Int32))] [(.ref ca), (.ref so), (.ref so)])) rfl (by rw [hml]; rfl) [(.ref ca)] [(.ref so)] pd_10 rfl rfl rfl (by show 2 * 0 + _ ≤ _; exact Nat.le_of_eq rfl) (hb hby d1_60) ?_
  rintro v30 T30 L30 X30 ⟨va_so, kv_so, rfl, Nq30, K30, ⟨EX30, FC30, FV30⟩, V30⟩ D30 hS30 hZ hown
  have N30 := Fr.app N25 Nq30
  show own_Go _ _ _ _ T30 (mkF m 63 #[.val (.ref a1), .val (.ref ca), .val (.int (3 : Int32))] [(.ref so)])
  have Dc30 := D30
  have C30 := C27.trans Dc30
  have Z30 := Nat.le_trans Z27 K30.1
  have KK30 := KK27.trans K30 (allS (P := fun x => x ∈ [] ∨ h0.size ≤ x) (Or.inr sz_so) all0)
  exact own_retA X30 hx hret rfl hlk rfl rfl (hb hby d1_63) (own_W X30 hS30 (Nat.le_refl _) rfl eS hZ hEL C30 (by exact ⟨so, va_so, kv_so, rfl, N30, KK30, g_so, ⟨EX30, FC30, FV30⟩, V30⟩) (by decide) (by decide)) 
theorem ef_0 (p1 : Int32) (p2 : Int32) (p3 : Int32) (p4 : Int32) (m : MethodId) : entryFrame m #[(.int p1), (.int p2), (.int p3), (.int p4)] maxLocals = mkF m 0 #[.val (.int p1), .val (.int p2), .val (.int p3), .val (.int p4), .unset, .unset, .unset, .unset] [] := by first | (simp [entryFrame, mkF, argsToLocals, Value.category, maxLocals]; done) | rfl
theorem pd_11 : parseMethodDescriptor "([B)Ljava/lang/String;" = some ⟨[(.array .byte)], some (.object "java/lang/String")⟩ := by decide +kernel
theorem pd_12 : parseMethodDescriptor "()I" = some ⟨[], some .int⟩ := by decide +kernel
theorem pd_13 : parseMethodDescriptor "(Ljava/lang/String;II)Z" = some ⟨[(.object "java/lang/String"), .int, .int], some .boolean⟩ := by decide +kernel
set_option maxRecDepth 65536 in
set_option maxHeartbeats 40000000 in
theorem rm0 (l : Launch) (Z : State) (a0 : Array Value) (hw : ∀ d ∈ tables_1, d.before a0 Z = true) (ws : List Jvm.Cond) (p1 : Int32) (p2 : Int32) (p3 : Int32) (p4 : Int32) (cz : Int32) (fv : Value) (dg : Addr) (kd : ClassId) (h0 : Heap) (n0 : Nat) (Z0 : n0 ≤ h0.size) (hEL : EW Z a0 own_EL) (O0 : Old Z n0 h0) (SC : Sta Z Z.heap "java/lang/String" "COMPACT_STRINGS" "Z" (.int cz)) (hcz : ¬ cz = (0 : Int32)) (SF : Sta Z Z.heap "jdk/internal/util/Preconditions" "SIOOBE_FORMATTER" "Ljava/util/function/BiFunction;" fv) (hfv : fv.isRef = true) (SD : Sta Z Z.heap "com/example/fixwire/fixwire/Hex" "DIGITS" "[C" (.ref dg)) (VD : Arv Z Z.heap dg kd .char (16 : Int32) (own_dg.map Value.int) (.int (0 : Int32))) :
    own_MetW l x code maxLocals ret ws room_1 #[(.int p1), (.int p2), (.int p3), (.int p4)] Z own_EL h0 (fun v h L => v = some (.int (1 : Int32)) ∧ Fr n0 L) := by
  refine own_bodyW (plainFor_of_name pn_4) (ef_0 p1 p2 p3 p4) ?_
  intro p e s m below meth c T0 X0 hx hby hml0 hret hlk hnm hown hZ e0 eS H0 hS0
  have C0 := CHr.refl H0
  have hml : c.maxLocals = 8 := hml0
  have N0 := Fr.nil n0
  rcases own_four p4 with hq | hq | hq | hq
  · refine own_step (fun _ k => XS.iloadN X0.here hx rfl (hb hby at_0) rfl k) ?_
    show own_Go _ _ _ _ T0 (mkF m 1 #[.val (.int p1), .val (.int p2), .val (.int p3), .val (.int p4), .unset, .unset, .unset, .unset] [(.int p4)])
    refine own_step (fun _ k => XS.iconst X0.here hx rfl (hb hby at_1) k) ?_
    show own_Go _ _ _ _ T0 (mkF m 2 #[.val (.int p1), .val (.int p2), .val (.int p3), .val (.int p4), .unset, .unset, .unset, .unset] [(.int (3 : Int32)), (.int p4)])
    refine own_step (fun _ k => XS.iand X0.here hx rfl (hb hby at_2) rfl k) ?_
    show own_Go _ _ _ _ T0 (mkF m 3 #[.val (.int p1), .val (.int p2), .val (.int p3), .val (.int p4), .unset, .unset, .unset, .unset] [(.int (p4 &&& (3 : Int32)))])
    rw [hq]
    show own_Go _ _ _ _ T0 (mkF m 3 #[.val (.int p1), .val (.int p2), .val (.int p3), .val (.int p4), .unset, .unset, .unset, .unset] [(.int (0 : Int32))])
    refine own_step (fun _ k => XS.istore X0.here hx rfl (hb hby at_3) rfl (l' := #[.val (.int p1), .val (.int p2), .val (.int p3), .val (.int p4), .val (.int (0 : Int32)), .unset, .unset, .unset]) rfl k) ?_
    show own_Go _ _ _ _ T0 (mkF m 5 #[.val (.int p1), .val (.int p2), .val (.int p3), .val (.int p4), .val (.int (0 : Int32)), .unset, .unset, .unset] [])
    refine own_step (fun _ k => XS.iload X0.here hx rfl (hb hby at_5) rfl k) ?_
    show own_Go _ _ _ _ T0 (mkF m 7 #[.val (.int p1), .val (.int p2), .val (.int p3), .val (.int p4), .val (.int (0 : Int32)), .unset, .unset, .unset] [(.int (0 : Int32))])
    refine own_step (fun _ k => XS.ifNo X0.here hx rfl (hb hby at_7) rfl ((if0 _ _).trans (teq (by decide : (0 : Int32) = (0 : Int32))).2) k) ?_
    show own_Go _ _ _ _ T0 (mkF m 10 #[.val (.int p1), .val (.int p2), .val (.int p3), .val (.int p4), .val (.int (0 : Int32)), .unset, .unset, .unset] [])
    refine own_step (fun _ k => XS.iconst X0.here hx rfl (hb hby at_10) k) ?_
    show own_Go _ _ _ _ T0 (mkF m 11 #[.val (.int p1), .val (.int p2), .val (.int p3), .val (.int p4), .val (.int (0 : Int32)), .unset, .unset, .unset] [(.int (0 : Int32))])
    obtain ⟨T1, h1, k1, b1, g1, X1, e1, E1, V1, st1⟩ := own_newA X0 hx hZ (hw _ (List.mem_of_getElem? (i := 0) rfl)) e0 (g := (mkF m 11 #[.val (.int p1), .val (.int p2), .val (.int p3), .val (.int p4), .val (.int (0 : Int32)), .unset, .unset, .unset] [(.int (0 : Int32))])) rfl (hb hby at_11) rfl (by decide) (cap := 0) (by decide) (by decide) (by decide) (by decide)
    have g_b1 : n0 ≤ b1 := Nat.le_trans Z0 (Nat.le_of_eq g1.symm)
    refine own_step st1 ?_
    have Dc1 := (CHr.ext E1 C0.1)
    have C1 := C0.trans Dc1
    have hk1 := Nat.le_trans (Nat.le_refl _) Dc1.2.1
    have Z1 := Nat.le_trans Z0 E1.1
    have Sf_b1_1 := Safe.ext E1 C0.1 (Safe.new (Nat.le_of_eq g1.symm))
    have V_b1 : Arv Z h1 b1 k1 .byte (0 : Int32) [] (.int (0 : Int32)) := V1
    show own_Go _ _ _ _ T1 (mkF m 13 #[.val (.int p1), .val (.int p2), .val (.int p3), .val (.int p4), .val (.int (0 : Int32)), .unset, .unset, .unset] [(.ref b1)])
    refine own_step (fun _ k => XS.astore X1.here hx rfl (hb hby at_13) rfl rfl (l' := #[.val (.int p1), .val (.int p2), .val (.int p3), .val (.int p4), .val (.int (0 : Int32)), .val (.ref b1), .unset, .unset]) rfl k) ?_
    show own_Go _ _ _ _ T1 (mkF m 15 #[.val (.int p1), .val (.int p2), .val (.int p3), .val (.int p4), .val (.int (0 : Int32)), .val (.ref b1), .unset, .unset] [])
    refine own_step (fun _ k => XS.goto X1.here hx rfl (pc0 := 15) (pc' := 81) rfl (hb hby at_15) (by decide) (by decide) k) ?_
    show own_Go _ _ _ _ T1 (mkF m 81 #[.val (.int p1), .val (.int p2), .val (.int p3), .val (.int p4), .val (.int (0 : Int32)), .val (.ref b1), .unset, .unset] [])
    refine own_step (fun _ k => XS.aload X1.here hx rfl (hb hby at_81) rfl rfl k) ?_
    show own_Go _ _ _ _ T1 (mkF m 83 #[.val (.int p1), .val (.int p2), .val (.int p3), .val (.int p4), .val (.int (0 : Int32)), .val (.ref b1), .unset, .unset] [(.ref b1)])
    have Q2 := (O0.ext E1)
    refine own_callSW X1 hx hZ (y := (⟨"com/example/fixwire/fixwire/Hex", "encode", "([B)Ljava/lang/String;"⟩ : MethodName)) hown (hw _ (List.mem_of_getElem? (i := 1) rfl)) (hw _ (List.mem_of_getElem? (i := 2) rfl)) (hw _ (List.mem_of_getElem? (i := 3) rfl)) (hw _ (List.mem_of_getElem? (i := 4) rfl)) (by decide) (rm1_0 l Z a0 hw [] b1 k1 cz dg kd  h1 n0 Z1 hEL Q2 SC hcz SD VD V_b1) e1 hEL C1.1 hS0 hk1 0 (by decide) (by decide) (by decide) (by decide) (g := (mkF m 83 #[.val (.int p1), .val (.int p2), .val (.int p3), .val (.int p4), .val (.int (0 : Int32)), .val (.ref b1), .unset, .unset] [(.ref b1)])) rfl (by rw [hml]; rfl) [(.ref b1)] [] pd_11 rfl rfl rfl (by show 2 * 0 + _ ≤ _; exact Nat.le_of_eq rfl) (hb hby at_83) ?_
    rintro v3 T3 L3 X3 ⟨so, vb, kv, rfl, Nq3, K3, g_so, ⟨EX3, FC3, FV3⟩, V3⟩ D3 hS3 hZ hown
    have N3 := Fr.app N0 Nq3
    show own_Go _ _ _ _ T3 (mkF m 86 #[.val (.int p1), .val (.int p2), .val (.int p3), .val (.int p4), .val (.int (0 : Int32)), .val (.ref b1), .unset, .unset] [(.ref so)])
    have Dc3 := D3
    have Sf_b1_3 := CHr.safe Dc3 V_b1.lt Sf_b1_1
    have C3 := C1.trans Dc3
    have Z3 := Nat.le_trans Z1 K3.1
    refine own_step (fun _ k => XS.astore X3.here hx rfl (hb hby at_86) rfl rfl (l' := #[.val (.int p1), .val (.int p2), .val (.int p3), .val (.int p4), .val (.int (0 : Int32)), .val (.ref b1), .val (.ref so), .unset]) rfl k) ?_
    show own_Go _ _ _ _ T3 (mkF m 88 #[.val (.int p1), .val (.int p2), .val (.int p3), .val (.int p4), .val (.int (0 : Int32)), .val (.ref b1), .val (.ref so), .unset] [])
    refine own_step (fun _ k => XS.aload X3.here hx rfl (hb hby at_88) rfl rfl k) ?_
    show own_Go _ _ _ _ T3 (mkF m 90 #[.val (.int p1), .val (.int p2), .val (.int p3), .val (.int p4), .val (.int (0 : Int32)), .val (.ref b1), .val (.ref so), .unset] [(.ref so)])
    have Q4 := (Q2.keep K3 all0)
    refine own_callV X3 hx hZ (y := (⟨"java/lang/String", "length", "()I"⟩ : MethodName)) (z := (⟨"java/lang/String", "length", "()I"⟩ : MethodName)) hown (hw _ (List.mem_of_getElem? (i := 36) rfl)) (hw _ (List.mem_of_getElem? (i := 37) rfl)) (hw _ (List.mem_of_getElem? (i := 39) rfl)) (hw _ (List.mem_of_getElem? (i := 39) rfl)) (hw _ (List.mem_of_getElem? (i := 38) rfl)) (hw _ (List.mem_of_getElem? (i := 10) rfl)) (hw _ (List.mem_of_getElem? (i := 40) rfl)) (by decide) (rm8 l Z a0 hw [] so cz vb kv (0 : Int32) _ T3.heap n0 Z3 Q4 SC hcz EX3 FC3 FV3 V3) rfl (b := so) EX3 0 (by decide) (by decide) (by decide) (by decide) (g := (mkF m 90 #[.val (.int p1), .val (.int p2), .val (.int p3), .val (.int p4), .val (.int (0 : Int32)), .val (.ref b1), .val (.ref so), .unset] [(.ref so)])) rfl (by rw [hml]; rfl) [] [] pd_12 rfl rfl rfl (by show 2 * 0 + _ ≤ _; exact Nat.le_of_eq rfl) (hb hby at_90) ?_
    rintro v5 T5 L5 X5 ⟨rfl, Nq5, e5⟩
    have N5 := Fr.app N3 Nq5
    show own_Go _ _ _ _ T5 (mkF m 93 #[.val (.int p1), .val (.int p2), .val (.int p3), .val (.int p4), .val (.int (0 : Int32)), .val (.ref b1), .val (.ref so), .unset] [(.int (0 : Int32))])
    refine own_step (fun _ k => XS.iconst X5.here hx rfl (hb hby at_93) k) ?_
    show own_Go _ _ _ _ T5 (mkF m 94 #[.val (.int p1), .val (.int p2), .val (.int p3), .val (.int p4), .val (.int (0 : Int32)), .val (.ref b1), .val (.ref so), .unset] [(.int (2 : Int32)), (.int (0 : Int32))])
    refine own_step (fun _ k => XS.iload X5.here hx rfl (hb hby at_94) rfl k) ?_
    show own_Go _ _ _ _ T5 (mkF m 96 #[.val (.int p1), .val (.int p2), .val (.int p3), .val (.int p4), .val (.int (0 : Int32)), .val (.ref b1), .val (.ref so), .unset] [(.int (0 : Int32)), (.int (2 : Int32)), (.int (0 : Int32))])
    refine own_step (fun _ k => XS.imul X5.here hx rfl (hb hby at_96) rfl k) ?_
    show own_Go _ _ _ _ T5 (mkF m 97 #[.val (.int p1), .val (.int p2), .val (.int p3), .val (.int p4), .val (.int (0 : Int32)), .val (.ref b1), .val (.ref so), .unset] [(.int ((2 : Int32) * (0 : Int32))), (.int (0 : Int32))])
    show own_Go _ _ _ _ T5 (mkF m 97 #[.val (.int p1), .val (.int p2), .val (.int p3), .val (.int p4), .val (.int (0 : Int32)), .val (.ref b1), .val (.ref so), .unset] [(.int (0 : Int32)), (.int (0 : Int32))])
    refine own_step (fun _ k => XS.icmpYes X5.here hx rfl (pc0 := 97) (pc' := 102) rfl (hb hby at_97) rfl (teq (by decide : (0 : Int32) = (0 : Int32))).1 (by decide) (by decide) k) ?_
    show own_Go _ _ _ _ T5 (mkF m 102 #[.val (.int p1), .val (.int p2), .val (.int p3), .val (.int p4), .val (.int (0 : Int32)), .val (.ref b1), .val (.ref so), .unset] [])
    refine own_step (fun _ k => XS.iconst X5.here hx rfl (hb hby at_102) k) ?_
    show own_Go _ _ _ _ T5 (mkF m 103 #[.val (.int p1), .val (.int p2), .val (.int p3), .val (.int p4), .val (.int (0 : Int32)), .val (.ref b1), .val (.ref so), .unset] [(.int (1 : Int32))])
    refine own_step (fun _ k => XS.istore X5.here hx rfl (hb hby at_103) rfl (l' := #[.val (.int p1), .val (.int p2), .val (.int p3), .val (.int p4), .val (.int (0 : Int32)), .val (.ref b1), .val (.ref so), .val (.int (1 : Int32))]) rfl k) ?_
    show own_Go _ _ _ _ T5 (mkF m 105 #[.val (.int p1), .val (.int p2), .val (.int p3), .val (.int p4), .val (.int (0 : Int32)), .val (.ref b1), .val (.ref so), .val (.int (1 : Int32))] [])
    refine own_step (fun _ k => XS.iload X5.here hx rfl (hb hby at_105) rfl k) ?_
    show own_Go _ _ _ _ T5 (mkF m 107 #[.val (.int p1), .val (.int p2), .val (.int p3), .val (.int p4), .val (.int (0 : Int32)), .val (.ref b1), .val (.ref so), .val (.int (1 : Int32))] [(.int (0 : Int32))])
    refine own_step (fun _ k => XS.ifYes X5.here hx rfl (pc0 := 107) (pc' := 132) rfl (hb hby at_107) rfl ((if0 _ _).trans (flt (by decide : ¬ ((0 : Int32) < (0 : Int32)))).2.2.2) (by decide) (by decide) k) ?_
    show own_Go _ _ _ _ T5 (mkF m 132 #[.val (.int p1), .val (.int p2), .val (.int p3), .val (.int p4), .val (.int (0 : Int32)), .val (.ref b1), .val (.ref so), .val (.int (1 : Int32))] [])
    refine own_step (fun _ k => XS.iload X5.here hx rfl (hb hby at_132) rfl k) ?_
    show own_Go _ _ _ _ T5 (mkF m 134 #[.val (.int p1), .val (.int p2), .val (.int p3), .val (.int p4), .val (.int (0 : Int32)), .val (.ref b1), .val (.ref so), .val (.int (1 : Int32))] [(.int (0 : Int32))])
    refine own_step (fun _ k => XS.iconst X5.here hx rfl (hb hby at_134) k) ?_
    show own_Go _ _ _ _ T5 (mkF m 135 #[.val (.int p1), .val (.int p2), .val (.int p3), .val (.int p4), .val (.int (0 : Int32)), .val (.ref b1), .val (.ref so), .val (.int (1 : Int32))] [(.int (1 : Int32)), (.int (0 : Int32))])
    refine own_step (fun _ k => XS.icmpYes X5.here hx rfl (pc0 := 135) (pc' := 160) rfl (hb hby at_135) rfl (flt (by decide : ¬ ((1 : Int32) < (0 : Int32)))).2.2.2 (by decide) (by decide) k) ?_
    show own_Go _ _ _ _ T5 (mkF m 160 #[.val (.int p1), .val (.int p2), .val (.int p3), .val (.int p4), .val (.int (0 : Int32)), .val (.ref b1), .val (.ref so), .val (.int (1 : Int32))] [])
    refine own_step (fun _ k => XS.iload X5.here hx rfl (hb hby at_160) rfl k) ?_
    show own_Go _ _ _ _ T5 (mkF m 162 #[.val (.int p1), .val (.int p2), .val (.int p3), .val (.int p4), .val (.int (0 : Int32)), .val (.ref b1), .val (.ref so), .val (.int (1 : Int32))] [(.int (0 : Int32))])
    refine own_step (fun _ k => XS.iconst X5.here hx rfl (hb hby at_162) k) ?_
    show own_Go _ _ _ _ T5 (mkF m 163 #[.val (.int p1), .val (.int p2), .val (.int p3), .val (.int p4), .val (.int (0 : Int32)), .val (.ref b1), .val (.ref so), .val (.int (1 : Int32))] [(.int (2 : Int32)), (.int (0 : Int32))])
    refine own_step (fun _ k => XS.icmpYes X5.here hx rfl (pc0 := 163) (pc' := 188) rfl (hb hby at_163) rfl (flt (by decide : ¬ ((2 : Int32) < (0 : Int32)))).2.2.2 (by decide) (by decide) k) ?_
    show own_Go _ _ _ _ T5 (mkF m 188 #[.val (.int p1), .val (.int p2), .val (.int p3), .val (.int p4), .val (.int (0 : Int32)), .val (.ref b1), .val (.ref so), .val (.int (1 : Int32))] [])
    refine own_step (fun _ k => XS.iload X5.here hx rfl (hb hby at_188) rfl k) ?_
    show own_Go _ _ _ _ T5 (mkF m 190 #[.val (.int p1), .val (.int p2), .val (.int p3), .val (.int p4), .val (.int (0 : Int32)), .val (.ref b1), .val (.ref so), .val (.int (1 : Int32))] [(.int (1 : Int32))])
    exact own_retN X5 hx (t := .boolean) hret (by simp) hlk (hb hby at_190) rfl (own_W X5 hS3 (Nat.le_refl _) e5 eS hZ hEL C3 ⟨rfl, N5⟩ (by decide) (by decide)) 
  · refine own_step (fun _ k => XS.iloadN X0.here hx rfl (hb hby at_0) rfl k) ?_
    show own_Go _ _ _ _ T0 (mkF m 1 #[.val (.int p1), .val (.int p2), .val (.int p3), .val (.int p4), .unset, .unset, .unset, .unset] [(.int p4)])
    refine own_step (fun _ k => XS.iconst X0.here hx rfl (hb hby at_1) k) ?_
    show own_Go _ _ _ _ T0 (mkF m 2 #[.val (.int p1), .val (.int p2), .val (.int p3), .val (.int p4), .unset, .unset, .unset, .unset] [(.int (3 : Int32)), (.int p4)])
    refine own_step (fun _ k => XS.iand X0.here hx rfl (hb hby at_2) rfl k) ?_
    show own_Go _ _ _ _ T0 (mkF m 3 #[.val (.int p1), .val (.int p2), .val (.int p3), .val (.int p4), .unset, .unset, .unset, .unset] [(.int (p4 &&& (3 : Int32)))])
    rw [hq]
    show own_Go _ _ _ _ T0 (mkF m 3 #[.val (.int p1), .val (.int p2), .val (.int p3), .val (.int p4), .unset, .unset, .unset, .unset] [(.int (1 : Int32))])
    refine own_step (fun _ k => XS.istore X0.here hx rfl (hb hby at_3) rfl (l' := #[.val (.int p1), .val (.int p2), .val (.int p3), .val (.int p4), .val (.int (1 : Int32)), .unset, .unset, .unset]) rfl k) ?_
    show own_Go _ _ _ _ T0 (mkF m 5 #[.val (.int p1), .val (.int p2), .val (.int p3), .val (.int p4), .val (.int (1 : Int32)), .unset, .unset, .unset] [])
    refine own_step (fun _ k => XS.iload X0.here hx rfl (hb hby at_5) rfl k) ?_
    show own_Go _ _ _ _ T0 (mkF m 7 #[.val (.int p1), .val (.int p2), .val (.int p3), .val (.int p4), .val (.int (1 : Int32)), .unset, .unset, .unset] [(.int (1 : Int32))])
    refine own_step (fun _ k => XS.ifYes X0.here hx rfl (pc0 := 7) (pc' := 18) rfl (hb hby at_7) rfl ((if0 _ _).trans (feq (by decide : ¬ ((1 : Int32) = (0 : Int32)))).2) (by decide) (by decide) k) ?_
    show own_Go _ _ _ _ T0 (mkF m 18 #[.val (.int p1), .val (.int p2), .val (.int p3), .val (.int p4), .val (.int (1 : Int32)), .unset, .unset, .unset] [])
    refine own_step (fun _ k => XS.iload X0.here hx rfl (hb hby at_18) rfl k) ?_
    show own_Go _ _ _ _ T0 (mkF m 20 #[.val (.int p1), .val (.int p2), .val (.int p3), .val (.int p4), .val (.int (1 : Int32)), .unset, .unset, .unset] [(.int (1 : Int32))])
    refine own_step (fun _ k => XS.iconst X0.here hx rfl (hb hby at_20) k) ?_
    show own_Go _ _ _ _ T0 (mkF m 21 #[.val (.int p1), .val (.int p2), .val (.int p3), .val (.int p4), .val (.int (1 : Int32)), .unset, .unset, .unset] [(.int (1 : Int32)), (.int (1 : Int32))])
    refine own_step (fun _ k => XS.icmpNo X0.here hx rfl (hb hby at_21) rfl (teq (by decide : (1 : Int32) = (1 : Int32))).2 k) ?_
    show own_Go _ _ _ _ T0 (mkF m 24 #[.val (.int p1), .val (.int p2), .val (.int p3), .val (.int p4), .val (.int (1 : Int32)), .unset, .unset, .unset] [])
    refine own_step (fun _ k => XS.iconst X0.here hx rfl (hb hby at_24) k) ?_
    show own_Go _ _ _ _ T0 (mkF m 25 #[.val (.int p1), .val (.int p2), .val (.int p3), .val (.int p4), .val (.int (1 : Int32)), .unset, .unset, .unset] [(.int (1 : Int32))])
    obtain ⟨T6, h6, k6, b6, g6, X6, e6, E6, V6, st6⟩ := own_newA X0 hx hZ (hw _ (List.mem_of_getElem? (i := 0) rfl)) e0 (g := (mkF m 25 #[.val (.int p1), .val (.int p2), .val (.int p3), .val (.int p4), .val (.int (1 : Int32)), .unset, .unset, .unset] [(.int (1 : Int32))])) rfl (hb hby at_25) rfl (by decide) (cap := 1) (by decide) (by decide) (by decide) (by decide)
    have g_b6 : n0 ≤ b6 := Nat.le_trans Z0 (Nat.le_of_eq g6.symm)
    refine own_step st6 ?_
    have Dc6 := (CHr.ext E6 C0.1)
    have C6 := C0.trans Dc6
    have hk6 := Nat.le_trans (Nat.le_refl _) Dc6.2.1
    have Z6 := Nat.le_trans Z0 E6.1
    have Sf_b6_6 := Safe.ext E6 C0.1 (Safe.new (Nat.le_of_eq g6.symm))
    have V_b6 : Arv Z h6 b6 k6 .byte (1 : Int32) [(.int (0 : Int32))] (.int (0 : Int32)) := V6
    show own_Go _ _ _ _ T6 (mkF m 27 #[.val (.int p1), .val (.int p2), .val (.int p3), .val (.int p4), .val (.int (1 : Int32)), .unset, .unset, .unset] [(.ref b6)])
    refine own_step (fun _ k => XS.dup X6.here hx rfl (hb hby at_27) rfl rfl k) ?_
    show own_Go _ _ _ _ T6 (mkF m 28 #[.val (.int p1), .val (.int p2), .val (.int p3), .val (.int p4), .val (.int (1 : Int32)), .unset, .unset, .unset] [(.ref b6), (.ref b6)])
    refine own_step (fun _ k => XS.iconst X6.here hx rfl (hb hby at_28) k) ?_
    show own_Go _ _ _ _ T6 (mkF m 29 #[.val (.int p1), .val (.int p2), .val (.int p3), .val (.int p4), .val (.int (1 : Int32)), .unset, .unset, .unset] [(.int (0 : Int32)), (.ref b6), (.ref b6)])
    refine own_step (fun _ k => XS.iloadN X6.here hx rfl (hb hby at_29) rfl k) ?_
    show own_Go _ _ _ _ T6 (mkF m 30 #[.val (.int p1), .val (.int p2), .val (.int p3), .val (.int p4), .val (.int (1 : Int32)), .unset, .unset, .unset] [(.int p1), (.int (0 : Int32)), (.ref b6), (.ref b6)])
    refine own_step (fun _ k => XS.i2b X6.here hx rfl (hb hby at_30) rfl k) ?_
    show own_Go _ _ _ _ T6 (mkF m 31 #[.val (.int p1), .val (.int p2), .val (.int p3), .val (.int p4), .val (.int (1 : Int32)), .unset, .unset, .unset] [(.int (p1.toInt8.toInt32)), (.int (0 : Int32)), (.ref b6), (.ref b6)])
    obtain ⟨T7, h7, l7, X7, e7, W7, V7, st7⟩ := own_stB X6 hx hZ e6 V_b6 (j := (0 : Int32)) ⟨by decide, by decide⟩ 0 rfl (Nat.le_of_ble_eq_true rfl) (g := (mkF m 31 #[.val (.int p1), .val (.int p2), .val (.int p3), .val (.int p4), .val (.int (1 : Int32)), .unset, .unset, .unset] [(.int (p1.toInt8.toInt32)), (.int (0 : Int32)), (.ref b6), (.ref b6)])) rfl rfl (hb hby at_31)
    refine own_step st7 ?_
    have N7 := Fr.snoc X7 N0 g_b6
    have Dc7 := (CHr.wr W7 Sf_b6_6 C6.1)
    have Sf_b6_7 := CHr.safe Dc7 V_b6.lt Sf_b6_6
    have C7 := C6.trans Dc7
    have hk7 := Nat.le_trans hk6 Dc7.2.1
    have Z7 := Nat.le_trans Z6 (Keep.of_wr W7).1
    rw [own_bb] at V7
    have V_b6_7 : Arv Z h7 b6 k6 .byte (1 : Int32) [(.int (p1.toInt8.toInt32))] (.int (0 : Int32)) := V7
    show own_Go _ _ _ _ T7 (mkF m 32 #[.val (.int p1), .val (.int p2), .val (.int p3), .val (.int p4), .val (.int (1 : Int32)), .unset, .unset, .unset] [(.ref b6)])
    refine own_step (fun _ k => XS.astore X7.here hx rfl (hb hby at_32) rfl rfl (l' := #[.val (.int p1), .val (.int p2), .val (.int p3), .val (.int p4), .val (.int (1 : Int32)), .val (.ref b6), .unset, .unset]) rfl k) ?_
    show own_Go _ _ _ _ T7 (mkF m 34 #[.val (.int p1), .val (.int p2), .val (.int p3), .val (.int p4), .val (.int (1 : Int32)), .val (.ref b6), .unset, .unset] [])
    refine own_step (fun _ k => XS.goto X7.here hx rfl (pc0 := 34) (pc' := 81) rfl (hb hby at_34) (by decide) (by decide) k) ?_
    show own_Go _ _ _ _ T7 (mkF m 81 #[.val (.int p1), .val (.int p2), .val (.int p3), .val (.int p4), .val (.int (1 : Int32)), .val (.ref b6), .unset, .unset] [])
    refine own_step (fun _ k => XS.aload X7.here hx rfl (hb hby at_81) rfl rfl k) ?_
    show own_Go _ _ _ _ T7 (mkF m 83 #[.val (.int p1), .val (.int p2), .val (.int p3), .val (.int p4), .val (.int (1 : Int32)), .val (.ref b6), .unset, .unset] [(.ref b6)])
    have Q8 := ((O0.ext E6).wr W7 g_b6)
    refine own_callSW X7 hx hZ (y := (⟨"com/example/fixwire/fixwire/Hex", "encode", "([B)Ljava/lang/String;"⟩ : MethodName)) hown (hw _ (List.mem_of_getElem? (i := 1) rfl)) (hw _ (List.mem_of_getElem? (i := 2) rfl)) (hw _ (List.mem_of_getElem? (i := 3) rfl)) (hw _ (List.mem_of_getElem? (i := 4) rfl)) (by decide) (rm1_1 l Z a0 hw [] b6 k6 cz dg kd (p1.toInt8.toInt32) h7 n0 Z7 hEL Q8 SC hcz SD VD V_b6_7) e7 hEL C7.1 hS0 hk7 0 (by decide) (by decide) (by decide) (by decide) (g := (mkF m 83 #[.val (.int p1), .val (.int p2), .val (.int p3), .val (.int p4), .val (.int (1 : Int32)), .val (.ref b6), .unset, .unset] [(.ref b6)])) rfl (by rw [hml]; rfl) [(.ref b6)] [] pd_11 rfl rfl rfl (by show 2 * 0 + _ ≤ _; exact Nat.le_of_eq rfl) (hb hby at_83) ?_
    rintro v9 T9 L9 X9 ⟨so, vb, kv, rfl, Nq9, K9, g_so, ⟨EX9, FC9, FV9⟩, V9⟩ D9 hS9 hZ hown
    have N9 := Fr.app N7 Nq9
    show own_Go _ _ _ _ T9 (mkF m 86 #[.val (.int p1), .val (.int p2), .val (.int p3), .val (.int p4), .val (.int (1 : Int32)), .val (.ref b6), .unset, .unset] [(.ref so)])
    have Dc9 := D9
    have Sf_b6_9 := CHr.safe Dc9 V_b6_7.lt Sf_b6_7
    have C9 := C7.trans Dc9
    have Z9 := Nat.le_trans Z7 K9.1
    refine own_step (fun _ k => XS.astore X9.here hx rfl (hb hby at_86) rfl rfl (l' := #[.val (.int p1), .val (.int p2), .val (.int p3), .val (.int p4), .val (.int (1 : Int32)), .val (.ref b6), .val (.ref so), .unset]) rfl k) ?_
    show own_Go _ _ _ _ T9 (mkF m 88 #[.val (.int p1), .val (.int p2), .val (.int p3), .val (.int p4), .val (.int (1 : Int32)), .val (.ref b6), .val (.ref so), .unset] [])
    refine own_step (fun _ k => XS.aload X9.here hx rfl (hb hby at_88) rfl rfl k) ?_
    show own_Go _ _ _ _ T9 (mkF m 90 #[.val (.int p1), .val (.int p2), .val (.int p3), .val (.int p4), .val (.int (1 : Int32)), .val (.ref b6), .val (.ref so), .unset] [(.ref so)])
    have Q10 := (Q8.keep K9 all0)
    refine own_callV X9 hx hZ (y := (⟨"java/lang/String", "length", "()I"⟩ : MethodName)) (z := (⟨"java/lang/String", "length", "()I"⟩ : MethodName)) hown (hw _ (List.mem_of_getElem? (i := 36) rfl)) (hw _ (List.mem_of_getElem? (i := 37) rfl)) (hw _ (List.mem_of_getElem? (i := 39) rfl)) (hw _ (List.mem_of_getElem? (i := 39) rfl)) (hw _ (List.mem_of_getElem? (i := 38) rfl)) (hw _ (List.mem_of_getElem? (i := 10) rfl)) (hw _ (List.mem_of_getElem? (i := 40) rfl)) (by decide) (rm8 l Z a0 hw [] so cz vb kv (2 : Int32) _ T9.heap n0 Z9 Q10 SC hcz EX9 FC9 FV9 V9) rfl (b := so) EX9 0 (by decide) (by decide) (by decide) (by decide) (g := (mkF m 90 #[.val (.int p1), .val (.int p2), .val (.int p3), .val (.int p4), .val (.int (1 : Int32)), .val (.ref b6), .val (.ref so), .unset] [(.ref so)])) rfl (by rw [hml]; rfl) [] [] pd_12 rfl rfl rfl (by show 2 * 0 + _ ≤ _; exact Nat.le_of_eq rfl) (hb hby at_90) ?_
    rintro v11 T11 L11 X11 ⟨rfl, Nq11, e11⟩
    have N11 := Fr.app N9 Nq11
    show own_Go _ _ _ _ T11 (mkF m 93 #[.val (.int p1), .val (.int p2), .val (.int p3), .val (.int p4), .val (.int (1 : Int32)), .val (.ref b6), .val (.ref so), .unset] [(.int (2 : Int32))])
    refine own_step (fun _ k => XS.iconst X11.here hx rfl (hb hby at_93) k) ?_
    show own_Go _ _ _ _ T11 (mkF m 94 #[.val (.int p1), .val (.int p2), .val (.int p3), .val (.int p4), .val (.int (1 : Int32)), .val (.ref b6), .val (.ref so), .unset] [(.int (2 : Int32)), (.int (2 : Int32))])
    refine own_step (fun _ k => XS.iload X11.here hx rfl (hb hby at_94) rfl k) ?_
    show own_Go _ _ _ _ T11 (mkF m 96 #[.val (.int p1), .val (.int p2), .val (.int p3), .val (.int p4), .val (.int (1 : Int32)), .val (.ref b6), .val (.ref so), .unset] [(.int (1 : Int32)), (.int (2 : Int32)), (.int (2 : Int32))])
    refine own_step (fun _ k => XS.imul X11.here hx rfl (hb hby at_96) rfl k) ?_
    show own_Go _ _ _ _ T11 (mkF m 97 #[.val (.int p1), .val (.int p2), .val (.int p3), .val (.int p4), .val (.int (1 : Int32)), .val (.ref b6), .val (.ref so), .unset] [(.int ((2 : Int32) * (1 : Int32))), (.int (2 : Int32))])
    show own_Go _ _ _ _ T11 (mkF m 97 #[.val (.int p1), .val (.int p2), .val (.int p3), .val (.int p4), .val (.int (1 : Int32)), .val (.ref b6), .val (.ref so), .unset] [(.int (2 : Int32)), (.int (2 : Int32))])
    refine own_step (fun _ k => XS.icmpYes X11.here hx rfl (pc0 := 97) (pc' := 102) rfl (hb hby at_97) rfl (teq (by decide : (2 : Int32) = (2 : Int32))).1 (by decide) (by decide) k) ?_
    show own_Go _ _ _ _ T11 (mkF m 102 #[.val (.int p1), .val (.int p2), .val (.int p3), .val (.int p4), .val (.int (1 : Int32)), .val (.ref b6), .val (.ref so), .unset] [])
    refine own_step (fun _ k => XS.iconst X11.here hx rfl (hb hby at_102) k) ?_
    show own_Go _ _ _ _ T11 (mkF m 103 #[.val (.int p1), .val (.int p2), .val (.int p3), .val (.int p4), .val (.int (1 : Int32)), .val (.ref b6), .val (.ref so), .unset] [(.int (1 : Int32))])
    refine own_step (fun _ k => XS.istore X11.here hx rfl (hb hby at_103) rfl (l' := #[.val (.int p1), .val (.int p2), .val (.int p3), .val (.int p4), .val (.int (1 : Int32)), .val (.ref b6), .val (.ref so), .val (.int (1 : Int32))]) rfl k) ?_
    show own_Go _ _ _ _ T11 (mkF m 105 #[.val (.int p1), .val (.int p2), .val (.int p3), .val (.int p4), .val (.int (1 : Int32)), .val (.ref b6), .val (.ref so), .val (.int (1 : Int32))] [])
    refine own_step (fun _ k => XS.iload X11.here hx rfl (hb hby at_105) rfl k) ?_
    show own_Go _ _ _ _ T11 (mkF m 107 #[.val (.int p1), .val (.int p2), .val (.int p3), .val (.int p4), .val (.int (1 : Int32)), .val (.ref b6), .val (.ref so), .val (.int (1 : Int32))] [(.int (1 : Int32))])
    refine own_step (fun _ k => XS.ifNo X11.here hx rfl (hb hby at_107) rfl ((if0 _ _).trans (tlt (by decide : (0 : Int32) < (1 : Int32))).2.2.2) k) ?_
    show own_Go _ _ _ _ T11 (mkF m 110 #[.val (.int p1), .val (.int p2), .val (.int p3), .val (.int p4), .val (.int (1 : Int32)), .val (.ref b6), .val (.ref so), .val (.int (1 : Int32))] [])
    refine own_step (fun _ k => XS.iload X11.here hx rfl (hb hby at_110) rfl k) ?_
    show own_Go _ _ _ _ T11 (mkF m 112 #[.val (.int p1), .val (.int p2), .val (.int p3), .val (.int p4), .val (.int (1 : Int32)), .val (.ref b6), .val (.ref so), .val (.int (1 : Int32))] [(.int (1 : Int32))])
    refine own_step (fun _ k => XS.ifNo X11.here hx rfl (hb hby at_112) rfl ((if0 _ _).trans (feq (by decide : ¬ ((1 : Int32) = (0 : Int32)))).1) k) ?_
    show own_Go _ _ _ _ T11 (mkF m 115 #[.val (.int p1), .val (.int p2), .val (.int p3), .val (.int p4), .val (.int (1 : Int32)), .val (.ref b6), .val (.ref so), .val (.int (1 : Int32))] [])
    refine own_step (fun _ k => XS.aload X11.here hx rfl (hb hby at_115) rfl rfl k) ?_
    show own_Go _ _ _ _ T11 (mkF m 117 #[.val (.int p1), .val (.int p2), .val (.int p3), .val (.int p4), .val (.int (1 : Int32)), .val (.ref b6), .val (.ref so), .val (.int (1 : Int32))] [(.ref so)])
    refine own_step (fun _ k => XS.iconst X11.here hx rfl (hb hby at_117) k) ?_
    show own_Go _ _ _ _ T11 (mkF m 118 #[.val (.int p1), .val (.int p2), .val (.int p3), .val (.int p4), .val (.int (1 : Int32)), .val (.ref b6), .val (.ref so), .val (.int (1 : Int32))] [(.int (0 : Int32)), (.ref so)])
    refine own_step (fun _ k => XS.iloadN X11.here hx rfl (hb hby at_118) rfl k) ?_
    show own_Go _ _ _ _ T11 (mkF m 119 #[.val (.int p1), .val (.int p2), .val (.int p3), .val (.int p4), .val (.int (1 : Int32)), .val (.ref b6), .val (.ref so), .val (.int (1 : Int32))] [(.int p1), (.int (0 : Int32)), (.ref so)])
    refine own_callS X11 hx hZ (y := (⟨"com/example/fixwire/fixwire/HexEncodePinLaw", "pair", "(Ljava/lang/String;II)Z"⟩ : MethodName)) hown (hw _ (List.mem_of_getElem? (i := 46) rfl)) (hw _ (List.mem_of_getElem? (i := 47) rfl)) (hw _ (List.mem_of_getElem? (i := 48) rfl)) (hw _ (List.mem_of_getElem? (i := 49) rfl)) (by decide) (rm10 l Z a0 hw [] so (0 : Int32) p1 cz fv vb kv (2 : Int32) (([(own_dgv ((p1.toInt8.toInt32) >>> ((4 : Int32) &&& 31))), (own_dgv (p1.toInt8.toInt32))] : List Int32).map (fun c => c.toInt8.toInt32)) T9.heap n0 Z9 Q10 SC hcz SF hfv EX9 FC9 FV9 V9 (by decide) (by decide) (by decide) (by decide)) e11 0 (by decide) (by decide) (by decide) (by decide) (g := (mkF m 119 #[.val (.int p1), .val (.int p2), .val (.int p3), .val (.int p4), .val (.int (1 : Int32)), .val (.ref b6), .val (.ref so), .val (.int (1 : Int32))] [(.int p1), (.int (0 : Int32)), (.ref so)])) rfl (by rw [hml]; rfl) [(.ref so), (.int (0 : Int32)), (.int p1)] [] pd_13 rfl rfl rfl (by show 2 * 0 + _ ≤ _; exact Nat.le_of_eq rfl) (hb hby at_119) ?_
    rintro v12 T12 L12 X12 ⟨rfl, Nq12, e12⟩
    have N12 := Fr.app N11 Nq12
    show own_Go _ _ _ _ T12 (mkF m 122 #[.val (.int p1), .val (.int p2), .val (.int p3), .val (.int p4), .val (.int (1 : Int32)), .val (.ref b6), .val (.ref so), .val (.int (1 : Int32))] [(.int (own_pr (((([(own_dgv ((p1.toInt8.toInt32) >>> ((4 : Int32) &&& 31))), (own_dgv (p1.toInt8.toInt32))] : List Int32).map (fun c => c.toInt8.toInt32)).getD ((2 : Int32) * (0 : Int32)).toNatClampNeg (0 : Int32)) &&& (255 : Int32)) (((([(own_dgv ((p1.toInt8.toInt32) >>> ((4 : Int32) &&& 31))), (own_dgv (p1.toInt8.toInt32))] : List Int32).map (fun c => c.toInt8.toInt32)).getD (((2 : Int32) * (0 : Int32)) + (1 : Int32)).toNatClampNeg (0 : Int32)) &&& (255 : Int32)) p1))])
    refine own_step (fun _ k => XS.ifNo X12.here hx rfl (hb hby at_122) rfl ((if0 _ _).trans (feq (own_prl p1)).1) k) ?_
    show own_Go _ _ _ _ T12 (mkF m 125 #[.val (.int p1), .val (.int p2), .val (.int p3), .val (.int p4), .val (.int (1 : Int32)), .val (.ref b6), .val (.ref so), .val (.int (1 : Int32))] [])
    refine own_step (fun _ k => XS.iconst X12.here hx rfl (hb hby at_125) k) ?_
    show own_Go _ _ _ _ T12 (mkF m 126 #[.val (.int p1), .val (.int p2), .val (.int p3), .val (.int p4), .val (.int (1 : Int32)), .val (.ref b6), .val (.ref so), .val (.int (1 : Int32))] [(.int (1 : Int32))])
    refine own_step (fun _ k => XS.goto X12.here hx rfl (pc0 := 126) (pc' := 130) rfl (hb hby at_126) (by decide) (by decide) k) ?_
    show own_Go _ _ _ _ T12 (mkF m 130 #[.val (.int p1), .val (.int p2), .val (.int p3), .val (.int p4), .val (.int (1 : Int32)), .val (.ref b6), .val (.ref so), .val (.int (1 : Int32))] [(.int (1 : Int32))])
    refine own_step (fun _ k => XS.istore X12.here hx rfl (hb hby at_130) rfl (l' := #[.val (.int p1), .val (.int p2), .val (.int p3), .val (.int p4), .val (.int (1 : Int32)), .val (.ref b6), .val (.ref so), .val (.int (1 : Int32))]) rfl k) ?_
    show own_Go _ _ _ _ T12 (mkF m 132 #[.val (.int p1), .val (.int p2), .val (.int p3), .val (.int p4), .val (.int (1 : Int32)), .val (.ref b6), .val (.ref so), .val (.int (1 : Int32))] [])
    refine own_step (fun _ k => XS.iload X12.here hx rfl (hb hby at_132) rfl k) ?_
    show own_Go _ _ _ _ T12 (mkF m 134 #[.val (.int p1), .val (.int p2), .val (.int p3), .val (.int p4), .val (.int (1 : Int32)), .val (.ref b6), .val (.ref so), .val (.int (1 : Int32))] [(.int (1 : Int32))])
    refine own_step (fun _ k => XS.iconst X12.here hx rfl (hb hby at_134) k) ?_
    show own_Go _ _ _ _ T12 (mkF m 135 #[.val (.int p1), .val (.int p2), .val (.int p3), .val (.int p4), .val (.int (1 : Int32)), .val (.ref b6), .val (.ref so), .val (.int (1 : Int32))] [(.int (1 : Int32)), (.int (1 : Int32))])
    refine own_step (fun _ k => XS.icmpYes X12.here hx rfl (pc0 := 135) (pc' := 160) rfl (hb hby at_135) rfl (flt (by decide : ¬ ((1 : Int32) < (1 : Int32)))).2.2.2 (by decide) (by decide) k) ?_
    show own_Go _ _ _ _ T12 (mkF m 160 #[.val (.int p1), .val (.int p2), .val (.int p3), .val (.int p4), .val (.int (1 : Int32)), .val (.ref b6), .val (.ref so), .val (.int (1 : Int32))] [])
    refine own_step (fun _ k => XS.iload X12.here hx rfl (hb hby at_160) rfl k) ?_
    show own_Go _ _ _ _ T12 (mkF m 162 #[.val (.int p1), .val (.int p2), .val (.int p3), .val (.int p4), .val (.int (1 : Int32)), .val (.ref b6), .val (.ref so), .val (.int (1 : Int32))] [(.int (1 : Int32))])
    refine own_step (fun _ k => XS.iconst X12.here hx rfl (hb hby at_162) k) ?_
    show own_Go _ _ _ _ T12 (mkF m 163 #[.val (.int p1), .val (.int p2), .val (.int p3), .val (.int p4), .val (.int (1 : Int32)), .val (.ref b6), .val (.ref so), .val (.int (1 : Int32))] [(.int (2 : Int32)), (.int (1 : Int32))])
    refine own_step (fun _ k => XS.icmpYes X12.here hx rfl (pc0 := 163) (pc' := 188) rfl (hb hby at_163) rfl (flt (by decide : ¬ ((2 : Int32) < (1 : Int32)))).2.2.2 (by decide) (by decide) k) ?_
    show own_Go _ _ _ _ T12 (mkF m 188 #[.val (.int p1), .val (.int p2), .val (.int p3), .val (.int p4), .val (.int (1 : Int32)), .val (.ref b6), .val (.ref so), .val (.int (1 : Int32))] [])
    refine own_step (fun _ k => XS.iload X12.here hx rfl (hb hby at_188) rfl k) ?_
    show own_Go _ _ _ _ T12 (mkF m 190 #[.val (.int p1), .val (.int p2), .val (.int p3), .val (.int p4), .val (.int (1 : Int32)), .val (.ref b6), .val (.ref so), .val (.int (1 : Int32))] [(.int (1 : Int32))])
    exact own_retN X12 hx (t := .boolean) hret (by simp) hlk (hb hby at_190) rfl (own_W X12 hS9 (Nat.le_refl _) e12 eS hZ hEL C9 ⟨rfl, N12⟩ (by decide) (by decide)) 
  · refine own_step (fun _ k => XS.iloadN X0.here hx rfl (hb hby at_0) rfl k) ?_
    show own_Go _ _ _ _ T0 (mkF m 1 #[.val (.int p1), .val (.int p2), .val (.int p3), .val (.int p4), .unset, .unset, .unset, .unset] [(.int p4)])
    refine own_step (fun _ k => XS.iconst X0.here hx rfl (hb hby at_1) k) ?_
    show own_Go _ _ _ _ T0 (mkF m 2 #[.val (.int p1), .val (.int p2), .val (.int p3), .val (.int p4), .unset, .unset, .unset, .unset] [(.int (3 : Int32)), (.int p4)])
    refine own_step (fun _ k => XS.iand X0.here hx rfl (hb hby at_2) rfl k) ?_
    show own_Go _ _ _ _ T0 (mkF m 3 #[.val (.int p1), .val (.int p2), .val (.int p3), .val (.int p4), .unset, .unset, .unset, .unset] [(.int (p4 &&& (3 : Int32)))])
    rw [hq]
    show own_Go _ _ _ _ T0 (mkF m 3 #[.val (.int p1), .val (.int p2), .val (.int p3), .val (.int p4), .unset, .unset, .unset, .unset] [(.int (2 : Int32))])
    refine own_step (fun _ k => XS.istore X0.here hx rfl (hb hby at_3) rfl (l' := #[.val (.int p1), .val (.int p2), .val (.int p3), .val (.int p4), .val (.int (2 : Int32)), .unset, .unset, .unset]) rfl k) ?_
    show own_Go _ _ _ _ T0 (mkF m 5 #[.val (.int p1), .val (.int p2), .val (.int p3), .val (.int p4), .val (.int (2 : Int32)), .unset, .unset, .unset] [])
    refine own_step (fun _ k => XS.iload X0.here hx rfl (hb hby at_5) rfl k) ?_
    show own_Go _ _ _ _ T0 (mkF m 7 #[.val (.int p1), .val (.int p2), .val (.int p3), .val (.int p4), .val (.int (2 : Int32)), .unset, .unset, .unset] [(.int (2 : Int32))])
    refine own_step (fun _ k => XS.ifYes X0.here hx rfl (pc0 := 7) (pc' := 18) rfl (hb hby at_7) rfl ((if0 _ _).trans (feq (by decide : ¬ ((2 : Int32) = (0 : Int32)))).2) (by decide) (by decide) k) ?_
    show own_Go _ _ _ _ T0 (mkF m 18 #[.val (.int p1), .val (.int p2), .val (.int p3), .val (.int p4), .val (.int (2 : Int32)), .unset, .unset, .unset] [])
    refine own_step (fun _ k => XS.iload X0.here hx rfl (hb hby at_18) rfl k) ?_
    show own_Go _ _ _ _ T0 (mkF m 20 #[.val (.int p1), .val (.int p2), .val (.int p3), .val (.int p4), .val (.int (2 : Int32)), .unset, .unset, .unset] [(.int (2 : Int32))])
    refine own_step (fun _ k => XS.iconst X0.here hx rfl (hb hby at_20) k) ?_
    show own_Go _ _ _ _ T0 (mkF m 21 #[.val (.int p1), .val (.int p2), .val (.int p3), .val (.int p4), .val (.int (2 : Int32)), .unset, .unset, .unset] [(.int (1 : Int32)), (.int (2 : Int32))])
    refine own_step (fun _ k => XS.icmpYes X0.here hx rfl (pc0 := 21) (pc' := 37) rfl (hb hby at_21) rfl (feq (by decide : ¬ ((2 : Int32) = (1 : Int32)))).2 (by decide) (by decide) k) ?_
    show own_Go _ _ _ _ T0 (mkF m 37 #[.val (.int p1), .val (.int p2), .val (.int p3), .val (.int p4), .val (.int (2 : Int32)), .unset, .unset, .unset] [])
    refine own_step (fun _ k => XS.iload X0.here hx rfl (hb hby at_37) rfl k) ?_
    show own_Go _ _ _ _ T0 (mkF m 39 #[.val (.int p1), .val (.int p2), .val (.int p3), .val (.int p4), .val (.int (2 : Int32)), .unset, .unset, .unset] [(.int (2 : Int32))])
    refine own_step (fun _ k => XS.iconst X0.here hx rfl (hb hby at_39) k) ?_
    show own_Go _ _ _ _ T0 (mkF m 40 #[.val (.int p1), .val (.int p2), .val (.int p3), .val (.int p4), .val (.int (2 : Int32)), .unset, .unset, .unset] [(.int (2 : Int32)), (.int (2 : Int32))])
    refine own_step (fun _ k => XS.icmpNo X0.here hx rfl (hb hby at_40) rfl (teq (by decide : (2 : Int32) = (2 : Int32))).2 k) ?_
    show own_Go _ _ _ _ T0 (mkF m 43 #[.val (.int p1), .val (.int p2), .val (.int p3), .val (.int p4), .val (.int (2 : Int32)), .unset, .unset, .unset] [])
    refine own_step (fun _ k => XS.iconst X0.here hx rfl (hb hby at_43) k) ?_
    show own_Go _ _ _ _ T0 (mkF m 44 #[.val (.int p1), .val (.int p2), .val (.int p3), .val (.int p4), .val (.int (2 : Int32)), .unset, .unset, .unset] [(.int (2 : Int32))])
    obtain ⟨T13, h13, k13, b13, g13, X13, e13, E13, V13, st13⟩ := own_newA X0 hx hZ (hw _ (List.mem_of_getElem? (i := 0) rfl)) e0 (g := (mkF m 44 #[.val (.int p1), .val (.int p2), .val (.int p3), .val (.int p4), .val (.int (2 : Int32)), .unset, .unset, .unset] [(.int (2 : Int32))])) rfl (hb hby at_44) rfl (by decide) (cap := 2) (by decide) (by decide) (by decide) (by decide)
    have g_b13 : n0 ≤ b13 := Nat.le_trans Z0 (Nat.le_of_eq g13.symm)
    refine own_step st13 ?_
    have Dc13 := (CHr.ext E13 C0.1)
    have C13 := C0.trans Dc13
    have hk13 := Nat.le_trans (Nat.le_refl _) Dc13.2.1
    have Z13 := Nat.le_trans Z0 E13.1
    have Sf_b13_13 := Safe.ext E13 C0.1 (Safe.new (Nat.le_of_eq g13.symm))
    have V_b13 : Arv Z h13 b13 k13 .byte (2 : Int32) [(.int (0 : Int32)), (.int (0 : Int32))] (.int (0 : Int32)) := V13
    show own_Go _ _ _ _ T13 (mkF m 46 #[.val (.int p1), .val (.int p2), .val (.int p3), .val (.int p4), .val (.int (2 : Int32)), .unset, .unset, .unset] [(.ref b13)])
    refine own_step (fun _ k => XS.dup X13.here hx rfl (hb hby at_46) rfl rfl k) ?_
    show own_Go _ _ _ _ T13 (mkF m 47 #[.val (.int p1), .val (.int p2), .val (.int p3), .val (.int p4), .val (.int (2 : Int32)), .unset, .unset, .unset] [(.ref b13), (.ref b13)])
    refine own_step (fun _ k => XS.iconst X13.here hx rfl (hb hby at_47) k) ?_
    show own_Go _ _ _ _ T13 (mkF m 48 #[.val (.int p1), .val (.int p2), .val (.int p3), .val (.int p4), .val (.int (2 : Int32)), .unset, .unset, .unset] [(.int (0 : Int32)), (.ref b13), (.ref b13)])
    refine own_step (fun _ k => XS.iloadN X13.here hx rfl (hb hby at_48) rfl k) ?_
    show own_Go _ _ _ _ T13 (mkF m 49 #[.val (.int p1), .val (.int p2), .val (.int p3), .val (.int p4), .val (.int (2 : Int32)), .unset, .unset, .unset] [(.int p1), (.int (0 : Int32)), (.ref b13), (.ref b13)])
    refine own_step (fun _ k => XS.i2b X13.here hx rfl (hb hby at_49) rfl k) ?_
    show own_Go _ _ _ _ T13 (mkF m 50 #[.val (.int p1), .val (.int p2), .val (.int p3), .val (.int p4), .val (.int (2 : Int32)), .unset, .unset, .unset] [(.int (p1.toInt8.toInt32)), (.int (0 : Int32)), (.ref b13), (.ref b13)])
    obtain ⟨T14, h14, l14, X14, e14, W14, V14, st14⟩ := own_stB X13 hx hZ e13 V_b13 (j := (0 : Int32)) ⟨by decide, by decide⟩ 0 rfl (Nat.le_of_ble_eq_true rfl) (g := (mkF m 50 #[.val (.int p1), .val (.int p2), .val (.int p3), .val (.int p4), .val (.int (2 : Int32)), .unset, .unset, .unset] [(.int (p1.toInt8.toInt32)), (.int (0 : Int32)), (.ref b13), (.ref b13)])) rfl rfl (hb hby at_50)
    refine own_step st14 ?_
    have N14 := Fr.snoc X14 N0 g_b13
    have Dc14 := (CHr.wr W14 Sf_b13_13 C13.1)
    have Sf_b13_14 := CHr.safe Dc14 V_b13.lt Sf_b13_13
    have C14 := C13.trans Dc14
    have hk14 := Nat.le_trans hk13 Dc14.2.1
    have Z14 := Nat.le_trans Z13 (Keep.of_wr W14).1
    rw [own_bb] at V14
    have V_b13_14 : Arv Z h14 b13 k13 .byte (2 : Int32) [(.int (p1.toInt8.toInt32)), (.int (0 : Int32))] (.int (0 : Int32)) := V14
    show own_Go _ _ _ _ T14 (mkF m 51 #[.val (.int p1), .val (.int p2), .val (.int p3), .val (.int p4), .val (.int (2 : Int32)), .unset, .unset, .unset] [(.ref b13)])
    refine own_step (fun _ k => XS.dup X14.here hx rfl (hb hby at_51) rfl rfl k) ?_
    show own_Go _ _ _ _ T14 (mkF m 52 #[.val (.int p1), .val (.int p2), .val (.int p3), .val (.int p4), .val (.int (2 : Int32)), .unset, .unset, .unset] [(.ref b13), (.ref b13)])
    refine own_step (fun _ k => XS.iconst X14.here hx rfl (hb hby at_52) k) ?_
    show own_Go _ _ _ _ T14 (mkF m 53 #[.val (.int p1), .val (.int p2), .val (.int p3), .val (.int p4), .val (.int (2 : Int32)), .unset, .unset, .unset] [(.int (1 : Int32)), (.ref b13), (.ref b13)])
    refine own_step (fun _ k => XS.iloadN X14.here hx rfl (hb hby at_53) rfl k) ?_
    show own_Go _ _ _ _ T14 (mkF m 54 #[.val (.int p1), .val (.int p2), .val (.int p3), .val (.int p4), .val (.int (2 : Int32)), .unset, .unset, .unset] [(.int p2), (.int (1 : Int32)), (.ref b13), (.ref b13)])
    refine own_step (fun _ k => XS.i2b X14.here hx rfl (hb hby at_54) rfl k) ?_
    show own_Go _ _ _ _ T14 (mkF m 55 #[.val (.int p1), .val (.int p2), .val (.int p3), .val (.int p4), .val (.int (2 : Int32)), .unset, .unset, .unset] [(.int (p2.toInt8.toInt32)), (.int (1 : Int32)), (.ref b13), (.ref b13)])
    obtain ⟨T15, h15, l15, X15, e15, W15, V15, st15⟩ := own_stB X14 hx hZ e14 V_b13_14 (j := (1 : Int32)) ⟨by decide, by decide⟩ 1 rfl (Nat.le_of_ble_eq_true rfl) (g := (mkF m 55 #[.val (.int p1), .val (.int p2), .val (.int p3), .val (.int p4), .val (.int (2 : Int32)), .unset, .unset, .unset] [(.int (p2.toInt8.toInt32)), (.int (1 : Int32)), (.ref b13), (.ref b13)])) rfl rfl (hb hby at_55)
    refine own_step st15 ?_
    have N15 := Fr.snoc X15 N14 g_b13
    have Dc15 := (CHr.wr W15 Sf_b13_14 C14.1)
    have Sf_b13_15 := CHr.safe Dc15 V_b13_14.lt Sf_b13_14
    have C15 := C14.trans Dc15
    have hk15 := Nat.le_trans hk14 Dc15.2.1
    have Z15 := Nat.le_trans Z14 (Keep.of_wr W15).1
    rw [own_bb] at V15
    have V_b13_15 : Arv Z h15 b13 k13 .byte (2 : Int32) [(.int (p1.toInt8.toInt32)), (.int (p2.toInt8.toInt32))] (.int (0 : Int32)) := V15
    show own_Go _ _ _ _ T15 (mkF m 56 #[.val (.int p1), .val (.int p2), .val (.int p3), .val (.int p4), .val (.int (2 : Int32)), .unset, .unset, .unset] [(.ref b13)])
    refine own_step (fun _ k => XS.astore X15.here hx rfl (hb hby at_56) rfl rfl (l' := #[.val (.int p1), .val (.int p2), .val (.int p3), .val (.int p4), .val (.int (2 : Int32)), .val (.ref b13), .unset, .unset]) rfl k) ?_
    show own_Go _ _ _ _ T15 (mkF m 58 #[.val (.int p1), .val (.int p2), .val (.int p3), .val (.int p4), .val (.int (2 : Int32)), .val (.ref b13), .unset, .unset] [])
    refine own_step (fun _ k => XS.goto X15.here hx rfl (pc0 := 58) (pc' := 81) rfl (hb hby at_58) (by decide) (by decide) k) ?_
    show own_Go _ _ _ _ T15 (mkF m 81 #[.val (.int p1), .val (.int p2), .val (.int p3), .val (.int p4), .val (.int (2 : Int32)), .val (.ref b13), .unset, .unset] [])
    refine own_step (fun _ k => XS.aload X15.here hx rfl (hb hby at_81) rfl rfl k) ?_
    show own_Go _ _ _ _ T15 (mkF m 83 #[.val (.int p1), .val (.int p2), .val (.int p3), .val (.int p4), .val (.int (2 : Int32)), .val (.ref b13), .unset, .unset] [(.ref b13)])
    have Q16 := (((O0.ext E13).wr W14 g_b13).wr W15 g_b13)
    refine own_callSW X15 hx hZ (y := (⟨"com/example/fixwire/fixwire/Hex", "encode", "([B)Ljava/lang/String;"⟩ : MethodName)) hown (hw _ (List.mem_of_getElem? (i := 1) rfl)) (hw _ (List.mem_of_getElem? (i := 2) rfl)) (hw _ (List.mem_of_getElem? (i := 3) rfl)) (hw _ (List.mem_of_getElem? (i := 4) rfl)) (by decide) (rm1_2 l Z a0 hw [] b13 k13 cz dg kd (p1.toInt8.toInt32) (p2.toInt8.toInt32) h15 n0 Z15 hEL Q16 SC hcz SD VD V_b13_15) e15 hEL C15.1 hS0 hk15 0 (by decide) (by decide) (by decide) (by decide) (g := (mkF m 83 #[.val (.int p1), .val (.int p2), .val (.int p3), .val (.int p4), .val (.int (2 : Int32)), .val (.ref b13), .unset, .unset] [(.ref b13)])) rfl (by rw [hml]; rfl) [(.ref b13)] [] pd_11 rfl rfl rfl (by show 2 * 0 + _ ≤ _; exact Nat.le_of_eq rfl) (hb hby at_83) ?_
    rintro v17 T17 L17 X17 ⟨so, vb, kv, rfl, Nq17, K17, g_so, ⟨EX17, FC17, FV17⟩, V17⟩ D17 hS17 hZ hown
    have N17 := Fr.app N15 Nq17
    show own_Go _ _ _ _ T17 (mkF m 86 #[.val (.int p1), .val (.int p2), .val (.int p3), .val (.int p4), .val (.int (2 : Int32)), .val (.ref b13), .unset, .unset] [(.ref so)])
    have Dc17 := D17
    have Sf_b13_17 := CHr.safe Dc17 V_b13_15.lt Sf_b13_15
    have C17 := C15.trans Dc17
    have Z17 := Nat.le_trans Z15 K17.1
    refine own_step (fun _ k => XS.astore X17.here hx rfl (hb hby at_86) rfl rfl (l' := #[.val (.int p1), .val (.int p2), .val (.int p3), .val (.int p4), .val (.int (2 : Int32)), .val (.ref b13), .val (.ref so), .unset]) rfl k) ?_
    show own_Go _ _ _ _ T17 (mkF m 88 #[.val (.int p1), .val (.int p2), .val (.int p3), .val (.int p4), .val (.int (2 : Int32)), .val (.ref b13), .val (.ref so), .unset] [])
    refine own_step (fun _ k => XS.aload X17.here hx rfl (hb hby at_88) rfl rfl k) ?_
    show own_Go _ _ _ _ T17 (mkF m 90 #[.val (.int p1), .val (.int p2), .val (.int p3), .val (.int p4), .val (.int (2 : Int32)), .val (.ref b13), .val (.ref so), .unset] [(.ref so)])
    have Q18 := (Q16.keep K17 all0)
    refine own_callV X17 hx hZ (y := (⟨"java/lang/String", "length", "()I"⟩ : MethodName)) (z := (⟨"java/lang/String", "length", "()I"⟩ : MethodName)) hown (hw _ (List.mem_of_getElem? (i := 36) rfl)) (hw _ (List.mem_of_getElem? (i := 37) rfl)) (hw _ (List.mem_of_getElem? (i := 39) rfl)) (hw _ (List.mem_of_getElem? (i := 39) rfl)) (hw _ (List.mem_of_getElem? (i := 38) rfl)) (hw _ (List.mem_of_getElem? (i := 10) rfl)) (hw _ (List.mem_of_getElem? (i := 40) rfl)) (by decide) (rm8 l Z a0 hw [] so cz vb kv (4 : Int32) _ T17.heap n0 Z17 Q18 SC hcz EX17 FC17 FV17 V17) rfl (b := so) EX17 0 (by decide) (by decide) (by decide) (by decide) (g := (mkF m 90 #[.val (.int p1), .val (.int p2), .val (.int p3), .val (.int p4), .val (.int (2 : Int32)), .val (.ref b13), .val (.ref so), .unset] [(.ref so)])) rfl (by rw [hml]; rfl) [] [] pd_12 rfl rfl rfl (by show 2 * 0 + _ ≤ _; exact Nat.le_of_eq rfl) (hb hby at_90) ?_
    rintro v19 T19 L19 X19 ⟨rfl, Nq19, e19⟩
    have N19 := Fr.app N17 Nq19
    show own_Go _ _ _ _ T19 (mkF m 93 #[.val (.int p1), .val (.int p2), .val (.int p3), .val (.int p4), .val (.int (2 : Int32)), .val (.ref b13), .val (.ref so), .unset] [(.int (4 : Int32))])
    refine own_step (fun _ k => XS.iconst X19.here hx rfl (hb hby at_93) k) ?_
    show own_Go _ _ _ _ T19 (mkF m 94 #[.val (.int p1), .val (.int p2), .val (.int p3), .val (.int p4), .val (.int (2 : Int32)), .val (.ref b13), .val (.ref so), .unset] [(.int (2 : Int32)), (.int (4 : Int32))])
    refine own_step (fun _ k => XS.iload X19.here hx rfl (hb hby at_94) rfl k) ?_
    show own_Go _ _ _ _ T19 (mkF m 96 #[.val (.int p1), .val (.int p2), .val (.int p3), .val (.int p4), .val (.int (2 : Int32)), .val (.ref b13), .val (.ref so), .unset] [(.int (2 : Int32)), (.int (2 : Int32)), (.int (4 : Int32))])
    refine own_step (fun _ k => XS.imul X19.here hx rfl (hb hby at_96) rfl k) ?_
    show own_Go _ _ _ _ T19 (mkF m 97 #[.val (.int p1), .val (.int p2), .val (.int p3), .val (.int p4), .val (.int (2 : Int32)), .val (.ref b13), .val (.ref so), .unset] [(.int ((2 : Int32) * (2 : Int32))), (.int (4 : Int32))])
    show own_Go _ _ _ _ T19 (mkF m 97 #[.val (.int p1), .val (.int p2), .val (.int p3), .val (.int p4), .val (.int (2 : Int32)), .val (.ref b13), .val (.ref so), .unset] [(.int (4 : Int32)), (.int (4 : Int32))])
    refine own_step (fun _ k => XS.icmpYes X19.here hx rfl (pc0 := 97) (pc' := 102) rfl (hb hby at_97) rfl (teq (by decide : (4 : Int32) = (4 : Int32))).1 (by decide) (by decide) k) ?_
    show own_Go _ _ _ _ T19 (mkF m 102 #[.val (.int p1), .val (.int p2), .val (.int p3), .val (.int p4), .val (.int (2 : Int32)), .val (.ref b13), .val (.ref so), .unset] [])
    refine own_step (fun _ k => XS.iconst X19.here hx rfl (hb hby at_102) k) ?_
    show own_Go _ _ _ _ T19 (mkF m 103 #[.val (.int p1), .val (.int p2), .val (.int p3), .val (.int p4), .val (.int (2 : Int32)), .val (.ref b13), .val (.ref so), .unset] [(.int (1 : Int32))])
    refine own_step (fun _ k => XS.istore X19.here hx rfl (hb hby at_103) rfl (l' := #[.val (.int p1), .val (.int p2), .val (.int p3), .val (.int p4), .val (.int (2 : Int32)), .val (.ref b13), .val (.ref so), .val (.int (1 : Int32))]) rfl k) ?_
    show own_Go _ _ _ _ T19 (mkF m 105 #[.val (.int p1), .val (.int p2), .val (.int p3), .val (.int p4), .val (.int (2 : Int32)), .val (.ref b13), .val (.ref so), .val (.int (1 : Int32))] [])
    refine own_step (fun _ k => XS.iload X19.here hx rfl (hb hby at_105) rfl k) ?_
    show own_Go _ _ _ _ T19 (mkF m 107 #[.val (.int p1), .val (.int p2), .val (.int p3), .val (.int p4), .val (.int (2 : Int32)), .val (.ref b13), .val (.ref so), .val (.int (1 : Int32))] [(.int (2 : Int32))])
    refine own_step (fun _ k => XS.ifNo X19.here hx rfl (hb hby at_107) rfl ((if0 _ _).trans (tlt (by decide : (0 : Int32) < (2 : Int32))).2.2.2) k) ?_
    show own_Go _ _ _ _ T19 (mkF m 110 #[.val (.int p1), .val (.int p2), .val (.int p3), .val (.int p4), .val (.int (2 : Int32)), .val (.ref b13), .val (.ref so), .val (.int (1 : Int32))] [])
    refine own_step (fun _ k => XS.iload X19.here hx rfl (hb hby at_110) rfl k) ?_
    show own_Go _ _ _ _ T19 (mkF m 112 #[.val (.int p1), .val (.int p2), .val (.int p3), .val (.int p4), .val (.int (2 : Int32)), .val (.ref b13), .val (.ref so), .val (.int (1 : Int32))] [(.int (1 : Int32))])
    refine own_step (fun _ k => XS.ifNo X19.here hx rfl (hb hby at_112) rfl ((if0 _ _).trans (feq (by decide : ¬ ((1 : Int32) = (0 : Int32)))).1) k) ?_
    show own_Go _ _ _ _ T19 (mkF m 115 #[.val (.int p1), .val (.int p2), .val (.int p3), .val (.int p4), .val (.int (2 : Int32)), .val (.ref b13), .val (.ref so), .val (.int (1 : Int32))] [])
    refine own_step (fun _ k => XS.aload X19.here hx rfl (hb hby at_115) rfl rfl k) ?_
    show own_Go _ _ _ _ T19 (mkF m 117 #[.val (.int p1), .val (.int p2), .val (.int p3), .val (.int p4), .val (.int (2 : Int32)), .val (.ref b13), .val (.ref so), .val (.int (1 : Int32))] [(.ref so)])
    refine own_step (fun _ k => XS.iconst X19.here hx rfl (hb hby at_117) k) ?_
    show own_Go _ _ _ _ T19 (mkF m 118 #[.val (.int p1), .val (.int p2), .val (.int p3), .val (.int p4), .val (.int (2 : Int32)), .val (.ref b13), .val (.ref so), .val (.int (1 : Int32))] [(.int (0 : Int32)), (.ref so)])
    refine own_step (fun _ k => XS.iloadN X19.here hx rfl (hb hby at_118) rfl k) ?_
    show own_Go _ _ _ _ T19 (mkF m 119 #[.val (.int p1), .val (.int p2), .val (.int p3), .val (.int p4), .val (.int (2 : Int32)), .val (.ref b13), .val (.ref so), .val (.int (1 : Int32))] [(.int p1), (.int (0 : Int32)), (.ref so)])
    refine own_callS X19 hx hZ (y := (⟨"com/example/fixwire/fixwire/HexEncodePinLaw", "pair", "(Ljava/lang/String;II)Z"⟩ : MethodName)) hown (hw _ (List.mem_of_getElem? (i := 46) rfl)) (hw _ (List.mem_of_getElem? (i := 47) rfl)) (hw _ (List.mem_of_getElem? (i := 48) rfl)) (hw _ (List.mem_of_getElem? (i := 49) rfl)) (by decide) (rm10 l Z a0 hw [] so (0 : Int32) p1 cz fv vb kv (4 : Int32) (([(own_dgv ((p1.toInt8.toInt32) >>> ((4 : Int32) &&& 31))), (own_dgv (p1.toInt8.toInt32)), (own_dgv ((p2.toInt8.toInt32) >>> ((4 : Int32) &&& 31))), (own_dgv (p2.toInt8.toInt32))] : List Int32).map (fun c => c.toInt8.toInt32)) T17.heap n0 Z17 Q18 SC hcz SF hfv EX17 FC17 FV17 V17 (by decide) (by decide) (by decide) (by decide)) e19 0 (by decide) (by decide) (by decide) (by decide) (g := (mkF m 119 #[.val (.int p1), .val (.int p2), .val (.int p3), .val (.int p4), .val (.int (2 : Int32)), .val (.ref b13), .val (.ref so), .val (.int (1 : Int32))] [(.int p1), (.int (0 : Int32)), (.ref so)])) rfl (by rw [hml]; rfl) [(.ref so), (.int (0 : Int32)), (.int p1)] [] pd_13 rfl rfl rfl (by show 2 * 0 + _ ≤ _; exact Nat.le_of_eq rfl) (hb hby at_119) ?_
    rintro v20 T20 L20 X20 ⟨rfl, Nq20, e20⟩
    have N20 := Fr.app N19 Nq20
    show own_Go _ _ _ _ T20 (mkF m 122 #[.val (.int p1), .val (.int p2), .val (.int p3), .val (.int p4), .val (.int (2 : Int32)), .val (.ref b13), .val (.ref so), .val (.int (1 : Int32))] [(.int (own_pr (((([(own_dgv ((p1.toInt8.toInt32) >>> ((4 : Int32) &&& 31))), (own_dgv (p1.toInt8.toInt32)), (own_dgv ((p2.toInt8.toInt32) >>> ((4 : Int32) &&& 31))), (own_dgv (p2.toInt8.toInt32))] : List Int32).map (fun c => c.toInt8.toInt32)).getD ((2 : Int32) * (0 : Int32)).toNatClampNeg (0 : Int32)) &&& (255 : Int32)) (((([(own_dgv ((p1.toInt8.toInt32) >>> ((4 : Int32) &&& 31))), (own_dgv (p1.toInt8.toInt32)), (own_dgv ((p2.toInt8.toInt32) >>> ((4 : Int32) &&& 31))), (own_dgv (p2.toInt8.toInt32))] : List Int32).map (fun c => c.toInt8.toInt32)).getD (((2 : Int32) * (0 : Int32)) + (1 : Int32)).toNatClampNeg (0 : Int32)) &&& (255 : Int32)) p1))])
    refine own_step (fun _ k => XS.ifNo X20.here hx rfl (hb hby at_122) rfl ((if0 _ _).trans (feq (own_prl p1)).1) k) ?_
    show own_Go _ _ _ _ T20 (mkF m 125 #[.val (.int p1), .val (.int p2), .val (.int p3), .val (.int p4), .val (.int (2 : Int32)), .val (.ref b13), .val (.ref so), .val (.int (1 : Int32))] [])
    refine own_step (fun _ k => XS.iconst X20.here hx rfl (hb hby at_125) k) ?_
    show own_Go _ _ _ _ T20 (mkF m 126 #[.val (.int p1), .val (.int p2), .val (.int p3), .val (.int p4), .val (.int (2 : Int32)), .val (.ref b13), .val (.ref so), .val (.int (1 : Int32))] [(.int (1 : Int32))])
    refine own_step (fun _ k => XS.goto X20.here hx rfl (pc0 := 126) (pc' := 130) rfl (hb hby at_126) (by decide) (by decide) k) ?_
    show own_Go _ _ _ _ T20 (mkF m 130 #[.val (.int p1), .val (.int p2), .val (.int p3), .val (.int p4), .val (.int (2 : Int32)), .val (.ref b13), .val (.ref so), .val (.int (1 : Int32))] [(.int (1 : Int32))])
    refine own_step (fun _ k => XS.istore X20.here hx rfl (hb hby at_130) rfl (l' := #[.val (.int p1), .val (.int p2), .val (.int p3), .val (.int p4), .val (.int (2 : Int32)), .val (.ref b13), .val (.ref so), .val (.int (1 : Int32))]) rfl k) ?_
    show own_Go _ _ _ _ T20 (mkF m 132 #[.val (.int p1), .val (.int p2), .val (.int p3), .val (.int p4), .val (.int (2 : Int32)), .val (.ref b13), .val (.ref so), .val (.int (1 : Int32))] [])
    refine own_step (fun _ k => XS.iload X20.here hx rfl (hb hby at_132) rfl k) ?_
    show own_Go _ _ _ _ T20 (mkF m 134 #[.val (.int p1), .val (.int p2), .val (.int p3), .val (.int p4), .val (.int (2 : Int32)), .val (.ref b13), .val (.ref so), .val (.int (1 : Int32))] [(.int (2 : Int32))])
    refine own_step (fun _ k => XS.iconst X20.here hx rfl (hb hby at_134) k) ?_
    show own_Go _ _ _ _ T20 (mkF m 135 #[.val (.int p1), .val (.int p2), .val (.int p3), .val (.int p4), .val (.int (2 : Int32)), .val (.ref b13), .val (.ref so), .val (.int (1 : Int32))] [(.int (1 : Int32)), (.int (2 : Int32))])
    refine own_step (fun _ k => XS.icmpNo X20.here hx rfl (hb hby at_135) rfl (tlt (by decide : (1 : Int32) < (2 : Int32))).2.2.2 k) ?_
    show own_Go _ _ _ _ T20 (mkF m 138 #[.val (.int p1), .val (.int p2), .val (.int p3), .val (.int p4), .val (.int (2 : Int32)), .val (.ref b13), .val (.ref so), .val (.int (1 : Int32))] [])
    refine own_step (fun _ k => XS.iload X20.here hx rfl (hb hby at_138) rfl k) ?_
    show own_Go _ _ _ _ T20 (mkF m 140 #[.val (.int p1), .val (.int p2), .val (.int p3), .val (.int p4), .val (.int (2 : Int32)), .val (.ref b13), .val (.ref so), .val (.int (1 : Int32))] [(.int (1 : Int32))])
    refine own_step (fun _ k => XS.ifNo X20.here hx rfl (hb hby at_140) rfl ((if0 _ _).trans (feq (by decide : ¬ ((1 : Int32) = (0 : Int32)))).1) k) ?_
    show own_Go _ _ _ _ T20 (mkF m 143 #[.val (.int p1), .val (.int p2), .val (.int p3), .val (.int p4), .val (.int (2 : Int32)), .val (.ref b13), .val (.ref so), .val (.int (1 : Int32))] [])
    refine own_step (fun _ k => XS.aload X20.here hx rfl (hb hby at_143) rfl rfl k) ?_
    show own_Go _ _ _ _ T20 (mkF m 145 #[.val (.int p1), .val (.int p2), .val (.int p3), .val (.int p4), .val (.int (2 : Int32)), .val (.ref b13), .val (.ref so), .val (.int (1 : Int32))] [(.ref so)])
    refine own_step (fun _ k => XS.iconst X20.here hx rfl (hb hby at_145) k) ?_
    show own_Go _ _ _ _ T20 (mkF m 146 #[.val (.int p1), .val (.int p2), .val (.int p3), .val (.int p4), .val (.int (2 : Int32)), .val (.ref b13), .val (.ref so), .val (.int (1 : Int32))] [(.int (1 : Int32)), (.ref so)])
    refine own_step (fun _ k => XS.iloadN X20.here hx rfl (hb hby at_146) rfl k) ?_
    show own_Go _ _ _ _ T20 (mkF m 147 #[.val (.int p1), .val (.int p2), .val (.int p3), .val (.int p4), .val (.int (2 : Int32)), .val (.ref b13), .val (.ref so), .val (.int (1 : Int32))] [(.int p2), (.int (1 : Int32)), (.ref so)])
    refine own_callS X20 hx hZ (y := (⟨"com/example/fixwire/fixwire/HexEncodePinLaw", "pair", "(Ljava/lang/String;II)Z"⟩ : MethodName)) hown (hw _ (List.mem_of_getElem? (i := 46) rfl)) (hw _ (List.mem_of_getElem? (i := 47) rfl)) (hw _ (List.mem_of_getElem? (i := 48) rfl)) (hw _ (List.mem_of_getElem? (i := 49) rfl)) (by decide) (rm10 l Z a0 hw [] so (1 : Int32) p2 cz fv vb kv (4 : Int32) (([(own_dgv ((p1.toInt8.toInt32) >>> ((4 : Int32) &&& 31))), (own_dgv (p1.toInt8.toInt32)), (own_dgv ((p2.toInt8.toInt32) >>> ((4 : Int32) &&& 31))), (own_dgv (p2.toInt8.toInt32))] : List Int32).map (fun c => c.toInt8.toInt32)) T17.heap n0 Z17 Q18 SC hcz SF hfv EX17 FC17 FV17 V17 (by decide) (by decide) (by decide) (by decide)) e20 0 (by decide) (by decide) (by decide) (by decide) (g := (mkF m 147 #[.val (.int p1), .val (.int p2), .val (.int p3), .val (.int p4), .val (.int (2 : Int32)), .val (.ref b13), .val (.ref so), .val (.int (1 : Int32))] [(.int p2), (.int (1 : Int32)), (.ref so)])) rfl (by rw [hml]; rfl) [(.ref so), (.int (1 : Int32)), (.int p2)] [] pd_13 rfl rfl rfl (by show 2 * 0 + _ ≤ _; exact Nat.le_of_eq rfl) (hb hby at_147) ?_
    rintro v21 T21 L21 X21 ⟨rfl, Nq21, e21⟩
    have N21 := Fr.app N20 Nq21
    show own_Go _ _ _ _ T21 (mkF m 150 #[.val (.int p1), .val (.int p2), .val (.int p3), .val (.int p4), .val (.int (2 : Int32)), .val (.ref b13), .val (.ref so), .val (.int (1 : Int32))] [(.int (own_pr (((([(own_dgv ((p1.toInt8.toInt32) >>> ((4 : Int32) &&& 31))), (own_dgv (p1.toInt8.toInt32)), (own_dgv ((p2.toInt8.toInt32) >>> ((4 : Int32) &&& 31))), (own_dgv (p2.toInt8.toInt32))] : List Int32).map (fun c => c.toInt8.toInt32)).getD ((2 : Int32) * (1 : Int32)).toNatClampNeg (0 : Int32)) &&& (255 : Int32)) (((([(own_dgv ((p1.toInt8.toInt32) >>> ((4 : Int32) &&& 31))), (own_dgv (p1.toInt8.toInt32)), (own_dgv ((p2.toInt8.toInt32) >>> ((4 : Int32) &&& 31))), (own_dgv (p2.toInt8.toInt32))] : List Int32).map (fun c => c.toInt8.toInt32)).getD (((2 : Int32) * (1 : Int32)) + (1 : Int32)).toNatClampNeg (0 : Int32)) &&& (255 : Int32)) p2))])
    refine own_step (fun _ k => XS.ifNo X21.here hx rfl (hb hby at_150) rfl ((if0 _ _).trans (feq (own_prl p2)).1) k) ?_
    show own_Go _ _ _ _ T21 (mkF m 153 #[.val (.int p1), .val (.int p2), .val (.int p3), .val (.int p4), .val (.int (2 : Int32)), .val (.ref b13), .val (.ref so), .val (.int (1 : Int32))] [])
    refine own_step (fun _ k => XS.iconst X21.here hx rfl (hb hby at_153) k) ?_
    show own_Go _ _ _ _ T21 (mkF m 154 #[.val (.int p1), .val (.int p2), .val (.int p3), .val (.int p4), .val (.int (2 : Int32)), .val (.ref b13), .val (.ref so), .val (.int (1 : Int32))] [(.int (1 : Int32))])
    refine own_step (fun _ k => XS.goto X21.here hx rfl (pc0 := 154) (pc' := 158) rfl (hb hby at_154) (by decide) (by decide) k) ?_
    show own_Go _ _ _ _ T21 (mkF m 158 #[.val (.int p1), .val (.int p2), .val (.int p3), .val (.int p4), .val (.int (2 : Int32)), .val (.ref b13), .val (.ref so), .val (.int (1 : Int32))] [(.int (1 : Int32))])
    refine own_step (fun _ k => XS.istore X21.here hx rfl (hb hby at_158) rfl (l' := #[.val (.int p1), .val (.int p2), .val (.int p3), .val (.int p4), .val (.int (2 : Int32)), .val (.ref b13), .val (.ref so), .val (.int (1 : Int32))]) rfl k) ?_
    show own_Go _ _ _ _ T21 (mkF m 160 #[.val (.int p1), .val (.int p2), .val (.int p3), .val (.int p4), .val (.int (2 : Int32)), .val (.ref b13), .val (.ref so), .val (.int (1 : Int32))] [])
    refine own_step (fun _ k => XS.iload X21.here hx rfl (hb hby at_160) rfl k) ?_
    show own_Go _ _ _ _ T21 (mkF m 162 #[.val (.int p1), .val (.int p2), .val (.int p3), .val (.int p4), .val (.int (2 : Int32)), .val (.ref b13), .val (.ref so), .val (.int (1 : Int32))] [(.int (2 : Int32))])
    refine own_step (fun _ k => XS.iconst X21.here hx rfl (hb hby at_162) k) ?_
    show own_Go _ _ _ _ T21 (mkF m 163 #[.val (.int p1), .val (.int p2), .val (.int p3), .val (.int p4), .val (.int (2 : Int32)), .val (.ref b13), .val (.ref so), .val (.int (1 : Int32))] [(.int (2 : Int32)), (.int (2 : Int32))])
    refine own_step (fun _ k => XS.icmpYes X21.here hx rfl (pc0 := 163) (pc' := 188) rfl (hb hby at_163) rfl (flt (by decide : ¬ ((2 : Int32) < (2 : Int32)))).2.2.2 (by decide) (by decide) k) ?_
    show own_Go _ _ _ _ T21 (mkF m 188 #[.val (.int p1), .val (.int p2), .val (.int p3), .val (.int p4), .val (.int (2 : Int32)), .val (.ref b13), .val (.ref so), .val (.int (1 : Int32))] [])
    refine own_step (fun _ k => XS.iload X21.here hx rfl (hb hby at_188) rfl k) ?_
    show own_Go _ _ _ _ T21 (mkF m 190 #[.val (.int p1), .val (.int p2), .val (.int p3), .val (.int p4), .val (.int (2 : Int32)), .val (.ref b13), .val (.ref so), .val (.int (1 : Int32))] [(.int (1 : Int32))])
    exact own_retN X21 hx (t := .boolean) hret (by simp) hlk (hb hby at_190) rfl (own_W X21 hS17 (Nat.le_refl _) e21 eS hZ hEL C17 ⟨rfl, N21⟩ (by decide) (by decide)) 
  · refine own_step (fun _ k => XS.iloadN X0.here hx rfl (hb hby at_0) rfl k) ?_
    show own_Go _ _ _ _ T0 (mkF m 1 #[.val (.int p1), .val (.int p2), .val (.int p3), .val (.int p4), .unset, .unset, .unset, .unset] [(.int p4)])
    refine own_step (fun _ k => XS.iconst X0.here hx rfl (hb hby at_1) k) ?_
    show own_Go _ _ _ _ T0 (mkF m 2 #[.val (.int p1), .val (.int p2), .val (.int p3), .val (.int p4), .unset, .unset, .unset, .unset] [(.int (3 : Int32)), (.int p4)])
    refine own_step (fun _ k => XS.iand X0.here hx rfl (hb hby at_2) rfl k) ?_
    show own_Go _ _ _ _ T0 (mkF m 3 #[.val (.int p1), .val (.int p2), .val (.int p3), .val (.int p4), .unset, .unset, .unset, .unset] [(.int (p4 &&& (3 : Int32)))])
    rw [hq]
    show own_Go _ _ _ _ T0 (mkF m 3 #[.val (.int p1), .val (.int p2), .val (.int p3), .val (.int p4), .unset, .unset, .unset, .unset] [(.int (3 : Int32))])
    refine own_step (fun _ k => XS.istore X0.here hx rfl (hb hby at_3) rfl (l' := #[.val (.int p1), .val (.int p2), .val (.int p3), .val (.int p4), .val (.int (3 : Int32)), .unset, .unset, .unset]) rfl k) ?_
    show own_Go _ _ _ _ T0 (mkF m 5 #[.val (.int p1), .val (.int p2), .val (.int p3), .val (.int p4), .val (.int (3 : Int32)), .unset, .unset, .unset] [])
    refine own_step (fun _ k => XS.iload X0.here hx rfl (hb hby at_5) rfl k) ?_
    show own_Go _ _ _ _ T0 (mkF m 7 #[.val (.int p1), .val (.int p2), .val (.int p3), .val (.int p4), .val (.int (3 : Int32)), .unset, .unset, .unset] [(.int (3 : Int32))])
    refine own_step (fun _ k => XS.ifYes X0.here hx rfl (pc0 := 7) (pc' := 18) rfl (hb hby at_7) rfl ((if0 _ _).trans (feq (by decide : ¬ ((3 : Int32) = (0 : Int32)))).2) (by decide) (by decide) k) ?_
    show own_Go _ _ _ _ T0 (mkF m 18 #[.val (.int p1), .val (.int p2), .val (.int p3), .val (.int p4), .val (.int (3 : Int32)), .unset, .unset, .unset] [])
    refine own_step (fun _ k => XS.iload X0.here hx rfl (hb hby at_18) rfl k) ?_
    show own_Go _ _ _ _ T0 (mkF m 20 #[.val (.int p1), .val (.int p2), .val (.int p3), .val (.int p4), .val (.int (3 : Int32)), .unset, .unset, .unset] [(.int (3 : Int32))])
    refine own_step (fun _ k => XS.iconst X0.here hx rfl (hb hby at_20) k) ?_
    show own_Go _ _ _ _ T0 (mkF m 21 #[.val (.int p1), .val (.int p2), .val (.int p3), .val (.int p4), .val (.int (3 : Int32)), .unset, .unset, .unset] [(.int (1 : Int32)), (.int (3 : Int32))])
    refine own_step (fun _ k => XS.icmpYes X0.here hx rfl (pc0 := 21) (pc' := 37) rfl (hb hby at_21) rfl (feq (by decide : ¬ ((3 : Int32) = (1 : Int32)))).2 (by decide) (by decide) k) ?_
    show own_Go _ _ _ _ T0 (mkF m 37 #[.val (.int p1), .val (.int p2), .val (.int p3), .val (.int p4), .val (.int (3 : Int32)), .unset, .unset, .unset] [])
    refine own_step (fun _ k => XS.iload X0.here hx rfl (hb hby at_37) rfl k) ?_
    show own_Go _ _ _ _ T0 (mkF m 39 #[.val (.int p1), .val (.int p2), .val (.int p3), .val (.int p4), .val (.int (3 : Int32)), .unset, .unset, .unset] [(.int (3 : Int32))])
    refine own_step (fun _ k => XS.iconst X0.here hx rfl (hb hby at_39) k) ?_
    show own_Go _ _ _ _ T0 (mkF m 40 #[.val (.int p1), .val (.int p2), .val (.int p3), .val (.int p4), .val (.int (3 : Int32)), .unset, .unset, .unset] [(.int (2 : Int32)), (.int (3 : Int32))])
    refine own_step (fun _ k => XS.icmpYes X0.here hx rfl (pc0 := 40) (pc' := 61) rfl (hb hby at_40) rfl (feq (by decide : ¬ ((3 : Int32) = (2 : Int32)))).2 (by decide) (by decide) k) ?_
    show own_Go _ _ _ _ T0 (mkF m 61 #[.val (.int p1), .val (.int p2), .val (.int p3), .val (.int p4), .val (.int (3 : Int32)), .unset, .unset, .unset] [])
    refine own_step (fun _ k => XS.iconst X0.here hx rfl (hb hby at_61) k) ?_
    show own_Go _ _ _ _ T0 (mkF m 62 #[.val (.int p1), .val (.int p2), .val (.int p3), .val (.int p4), .val (.int (3 : Int32)), .unset, .unset, .unset] [(.int (3 : Int32))])
    obtain ⟨T22, h22, k22, b22, g22, X22, e22, E22, V22, st22⟩ := own_newA X0 hx hZ (hw _ (List.mem_of_getElem? (i := 0) rfl)) e0 (g := (mkF m 62 #[.val (.int p1), .val (.int p2), .val (.int p3), .val (.int p4), .val (.int (3 : Int32)), .unset, .unset, .unset] [(.int (3 : Int32))])) rfl (hb hby at_62) rfl (by decide) (cap := 3) (by decide) (by decide) (by decide) (by decide)
    have g_b22 : n0 ≤ b22 := Nat.le_trans Z0 (Nat.le_of_eq g22.symm)
    refine own_step st22 ?_
    have Dc22 := (CHr.ext E22 C0.1)
    have C22 := C0.trans Dc22
    have hk22 := Nat.le_trans (Nat.le_refl _) Dc22.2.1
    have Z22 := Nat.le_trans Z0 E22.1
    have Sf_b22_22 := Safe.ext E22 C0.1 (Safe.new (Nat.le_of_eq g22.symm))
    have V_b22 : Arv Z h22 b22 k22 .byte (3 : Int32) [(.int (0 : Int32)), (.int (0 : Int32)), (.int (0 : Int32))] (.int (0 : Int32)) := V22
    show own_Go _ _ _ _ T22 (mkF m 64 #[.val (.int p1), .val (.int p2), .val (.int p3), .val (.int p4), .val (.int (3 : Int32)), .unset, .unset, .unset] [(.ref b22)])
    refine own_step (fun _ k => XS.dup X22.here hx rfl (hb hby at_64) rfl rfl k) ?_
    show own_Go _ _ _ _ T22 (mkF m 65 #[.val (.int p1), .val (.int p2), .val (.int p3), .val (.int p4), .val (.int (3 : Int32)), .unset, .unset, .unset] [(.ref b22), (.ref b22)])
    refine own_step (fun _ k => XS.iconst X22.here hx rfl (hb hby at_65) k) ?_
    show own_Go _ _ _ _ T22 (mkF m 66 #[.val (.int p1), .val (.int p2), .val (.int p3), .val (.int p4), .val (.int (3 : Int32)), .unset, .unset, .unset] [(.int (0 : Int32)), (.ref b22), (.ref b22)])
    refine own_step (fun _ k => XS.iloadN X22.here hx rfl (hb hby at_66) rfl k) ?_
    show own_Go _ _ _ _ T22 (mkF m 67 #[.val (.int p1), .val (.int p2), .val (.int p3), .val (.int p4), .val (.int (3 : Int32)), .unset, .unset, .unset] [(.int p1), (.int (0 : Int32)), (.ref b22), (.ref b22)])
    refine own_step (fun _ k => XS.i2b X22.here hx rfl (hb hby at_67) rfl k) ?_
    show own_Go _ _ _ _ T22 (mkF m 68 #[.val (.int p1), .val (.int p2), .val (.int p3), .val (.int p4), .val (.int (3 : Int32)), .unset, .unset, .unset] [(.int (p1.toInt8.toInt32)), (.int (0 : Int32)), (.ref b22), (.ref b22)])
    obtain ⟨T23, h23, l23, X23, e23, W23, V23, st23⟩ := own_stB X22 hx hZ e22 V_b22 (j := (0 : Int32)) ⟨by decide, by decide⟩ 0 rfl (Nat.le_of_ble_eq_true rfl) (g := (mkF m 68 #[.val (.int p1), .val (.int p2), .val (.int p3), .val (.int p4), .val (.int (3 : Int32)), .unset, .unset, .unset] [(.int (p1.toInt8.toInt32)), (.int (0 : Int32)), (.ref b22), (.ref b22)])) rfl rfl (hb hby at_68)
    refine own_step st23 ?_
    have N23 := Fr.snoc X23 N0 g_b22
    have Dc23 := (CHr.wr W23 Sf_b22_22 C22.1)
    have Sf_b22_23 := CHr.safe Dc23 V_b22.lt Sf_b22_22
    have C23 := C22.trans Dc23
    have hk23 := Nat.le_trans hk22 Dc23.2.1
    have Z23 := Nat.le_trans Z22 (Keep.of_wr W23).1
    rw [own_bb] at V23
    have V_b22_23 : Arv Z h23 b22 k22 .byte (3 : Int32) [(.int (p1.toInt8.toInt32)), (.int (0 : Int32)), (.int (0 : Int32))] (.int (0 : Int32)) := V23
    show own_Go _ _ _ _ T23 (mkF m 69 #[.val (.int p1), .val (.int p2), .val (.int p3), .val (.int p4), .val (.int (3 : Int32)), .unset, .unset, .unset] [(.ref b22)])
    refine own_step (fun _ k => XS.dup X23.here hx rfl (hb hby at_69) rfl rfl k) ?_
    show own_Go _ _ _ _ T23 (mkF m 70 #[.val (.int p1), .val (.int p2), .val (.int p3), .val (.int p4), .val (.int (3 : Int32)), .unset, .unset, .unset] [(.ref b22), (.ref b22)])
    refine own_step (fun _ k => XS.iconst X23.here hx rfl (hb hby at_70) k) ?_
    show own_Go _ _ _ _ T23 (mkF m 71 #[.val (.int p1), .val (.int p2), .val (.int p3), .val (.int p4), .val (.int (3 : Int32)), .unset, .unset, .unset] [(.int (1 : Int32)), (.ref b22), (.ref b22)])
    refine own_step (fun _ k => XS.iloadN X23.here hx rfl (hb hby at_71) rfl k) ?_
    show own_Go _ _ _ _ T23 (mkF m 72 #[.val (.int p1), .val (.int p2), .val (.int p3), .val (.int p4), .val (.int (3 : Int32)), .unset, .unset, .unset] [(.int p2), (.int (1 : Int32)), (.ref b22), (.ref b22)])
    refine own_step (fun _ k => XS.i2b X23.here hx rfl (hb hby at_72) rfl k) ?_
    show own_Go _ _ _ _ T23 (mkF m 73 #[.val (.int p1), .val (.int p2), .val (.int p3), .val (.int p4), .val (.int (3 : Int32)), .unset, .unset, .unset] [(.int (p2.toInt8.toInt32)), (.int (1 : Int32)), (.ref b22), (.ref b22)])
    obtain ⟨T24, h24, l24, X24, e24, W24, V24, st24⟩ := own_stB X23 hx hZ e23 V_b22_23 (j := (1 : Int32)) ⟨by decide, by decide⟩ 1 rfl (Nat.le_of_ble_eq_true rfl) (g := (mkF m 73 #[.val (.int p1), .val (.int p2), .val (.int p3), .val (.int p4), .val (.int (3 : Int32)), .unset, .unset, .unset] [(.int (p2.toInt8.toInt32)), (.int (1 : Int32)), (.ref b22), (.ref b22)])) rfl rfl (hb hby at_73)
    refine own_step st24 ?_
    have N24 := Fr.snoc X24 N23 g_b22
    have Dc24 := (CHr.wr W24 Sf_b22_23 C23.1)
    have Sf_b22_24 := CHr.safe Dc24 V_b22_23.lt Sf_b22_23
    have C24 := C23.trans Dc24
    have hk24 := Nat.le_trans hk23 Dc24.2.1
    have Z24 := Nat.le_trans Z23 (Keep.of_wr W24).1
    rw [own_bb] at V24
    have V_b22_24 : Arv Z h24 b22 k22 .byte (3 : Int32) [(.int (p1.toInt8.toInt32)), (.int (p2.toInt8.toInt32)), (.int (0 : Int32))] (.int (0 : Int32)) := V24
    show own_Go _ _ _ _ T24 (mkF m 74 #[.val (.int p1), .val (.int p2), .val (.int p3), .val (.int p4), .val (.int (3 : Int32)), .unset, .unset, .unset] [(.ref b22)])
    refine own_step (fun _ k => XS.dup X24.here hx rfl (hb hby at_74) rfl rfl k) ?_
    show own_Go _ _ _ _ T24 (mkF m 75 #[.val (.int p1), .val (.int p2), .val (.int p3), .val (.int p4), .val (.int (3 : Int32)), .unset, .unset, .unset] [(.ref b22), (.ref b22)])
    refine own_step (fun _ k => XS.iconst X24.here hx rfl (hb hby at_75) k) ?_
    show own_Go _ _ _ _ T24 (mkF m 76 #[.val (.int p1), .val (.int p2), .val (.int p3), .val (.int p4), .val (.int (3 : Int32)), .unset, .unset, .unset] [(.int (2 : Int32)), (.ref b22), (.ref b22)])
    refine own_step (fun _ k => XS.iloadN X24.here hx rfl (hb hby at_76) rfl k) ?_
    show own_Go _ _ _ _ T24 (mkF m 77 #[.val (.int p1), .val (.int p2), .val (.int p3), .val (.int p4), .val (.int (3 : Int32)), .unset, .unset, .unset] [(.int p3), (.int (2 : Int32)), (.ref b22), (.ref b22)])
    refine own_step (fun _ k => XS.i2b X24.here hx rfl (hb hby at_77) rfl k) ?_
    show own_Go _ _ _ _ T24 (mkF m 78 #[.val (.int p1), .val (.int p2), .val (.int p3), .val (.int p4), .val (.int (3 : Int32)), .unset, .unset, .unset] [(.int (p3.toInt8.toInt32)), (.int (2 : Int32)), (.ref b22), (.ref b22)])
    obtain ⟨T25, h25, l25, X25, e25, W25, V25, st25⟩ := own_stB X24 hx hZ e24 V_b22_24 (j := (2 : Int32)) ⟨by decide, by decide⟩ 2 rfl (Nat.le_of_ble_eq_true rfl) (g := (mkF m 78 #[.val (.int p1), .val (.int p2), .val (.int p3), .val (.int p4), .val (.int (3 : Int32)), .unset, .unset, .unset] [(.int (p3.toInt8.toInt32)), (.int (2 : Int32)), (.ref b22), (.ref b22)])) rfl rfl (hb hby at_78)
    refine own_step st25 ?_
    have N25 := Fr.snoc X25 N24 g_b22
    have Dc25 := (CHr.wr W25 Sf_b22_24 C24.1)
    have Sf_b22_25 := CHr.safe Dc25 V_b22_24.lt Sf_b22_24
    have C25 := C24.trans Dc25
    have hk25 := Nat.le_trans hk24 Dc25.2.1
    have Z25 := Nat.le_trans Z24 (Keep.of_wr W25).1
    rw [own_bb] at V25
    have V_b22_25 : Arv Z h25 b22 k22 .byte (3 : Int32) [(.int (p1.toInt8.toInt32)), (.int (p2.toInt8.toInt32)), (.int (p3.toInt8.toInt32))] (.int (0 : Int32)) := V25
    show own_Go _ _ _ _ T25 (mkF m 79 #[.val (.int p1), .val (.int p2), .val (.int p3), .val (.int p4), .val (.int (3 : Int32)), .unset, .unset, .unset] [(.ref b22)])
    refine own_step (fun _ k => XS.astore X25.here hx rfl (hb hby at_79) rfl rfl (l' := #[.val (.int p1), .val (.int p2), .val (.int p3), .val (.int p4), .val (.int (3 : Int32)), .val (.ref b22), .unset, .unset]) rfl k) ?_
    show own_Go _ _ _ _ T25 (mkF m 81 #[.val (.int p1), .val (.int p2), .val (.int p3), .val (.int p4), .val (.int (3 : Int32)), .val (.ref b22), .unset, .unset] [])
    refine own_step (fun _ k => XS.aload X25.here hx rfl (hb hby at_81) rfl rfl k) ?_
    show own_Go _ _ _ _ T25 (mkF m 83 #[.val (.int p1), .val (.int p2), .val (.int p3), .val (.int p4), .val (.int (3 : Int32)), .val (.ref b22), .unset, .unset] [(.ref b22)])
    have Q26 := ((((O0.ext E22).wr W23 g_b22).wr W24 g_b22).wr W25 g_b22)
    refine own_callSW X25 hx hZ (y := (⟨"com/example/fixwire/fixwire/Hex", "encode", "([B)Ljava/lang/String;"⟩ : MethodName)) hown (hw _ (List.mem_of_getElem? (i := 1) rfl)) (hw _ (List.mem_of_getElem? (i := 2) rfl)) (hw _ (List.mem_of_getElem? (i := 3) rfl)) (hw _ (List.mem_of_getElem? (i := 4) rfl)) (by decide) (rm1_3 l Z a0 hw [] b22 k22 cz dg kd (p1.toInt8.toInt32) (p2.toInt8.toInt32) (p3.toInt8.toInt32) h25 n0 Z25 hEL Q26 SC hcz SD VD V_b22_25) e25 hEL C25.1 hS0 hk25 0 (by decide) (by decide) (by decide) (by decide) (g := (mkF m 83 #[.val (.int p1), .val (.int p2), .val (.int p3), .val (.int p4), .val (.int (3 : Int32)), .val (.ref b22), .unset, .unset] [(.ref b22)])) rfl (by rw [hml]; rfl) [(.ref b22)] [] pd_11 rfl rfl rfl (by show 2 * 0 + _ ≤ _; exact Nat.le_of_eq rfl) (hb hby at_83) ?_
    rintro v27 T27 L27 X27 ⟨so, vb, kv, rfl, Nq27, K27, g_so, ⟨EX27, FC27, FV27⟩, V27⟩ D27 hS27 hZ hown
    have N27 := Fr.app N25 Nq27
    show own_Go _ _ _ _ T27 (mkF m 86 #[.val (.int p1), .val (.int p2), .val (.int p3), .val (.int p4), .val (.int (3 : Int32)), .val (.ref b22), .unset, .unset] [(.ref so)])
    have Dc27 := D27
    have Sf_b22_27 := CHr.safe Dc27 V_b22_25.lt Sf_b22_25
    have C27 := C25.trans Dc27
    have Z27 := Nat.le_trans Z25 K27.1
    refine own_step (fun _ k => XS.astore X27.here hx rfl (hb hby at_86) rfl rfl (l' := #[.val (.int p1), .val (.int p2), .val (.int p3), .val (.int p4), .val (.int (3 : Int32)), .val (.ref b22), .val (.ref so), .unset]) rfl k) ?_
    show own_Go _ _ _ _ T27 (mkF m 88 #[.val (.int p1), .val (.int p2), .val (.int p3), .val (.int p4), .val (.int (3 : Int32)), .val (.ref b22), .val (.ref so), .unset] [])
    refine own_step (fun _ k => XS.aload X27.here hx rfl (hb hby at_88) rfl rfl k) ?_
    show own_Go _ _ _ _ T27 (mkF m 90 #[.val (.int p1), .val (.int p2), .val (.int p3), .val (.int p4), .val (.int (3 : Int32)), .val (.ref b22), .val (.ref so), .unset] [(.ref so)])
    have Q28 := (Q26.keep K27 all0)
    refine own_callV X27 hx hZ (y := (⟨"java/lang/String", "length", "()I"⟩ : MethodName)) (z := (⟨"java/lang/String", "length", "()I"⟩ : MethodName)) hown (hw _ (List.mem_of_getElem? (i := 36) rfl)) (hw _ (List.mem_of_getElem? (i := 37) rfl)) (hw _ (List.mem_of_getElem? (i := 39) rfl)) (hw _ (List.mem_of_getElem? (i := 39) rfl)) (hw _ (List.mem_of_getElem? (i := 38) rfl)) (hw _ (List.mem_of_getElem? (i := 10) rfl)) (hw _ (List.mem_of_getElem? (i := 40) rfl)) (by decide) (rm8 l Z a0 hw [] so cz vb kv (6 : Int32) _ T27.heap n0 Z27 Q28 SC hcz EX27 FC27 FV27 V27) rfl (b := so) EX27 0 (by decide) (by decide) (by decide) (by decide) (g := (mkF m 90 #[.val (.int p1), .val (.int p2), .val (.int p3), .val (.int p4), .val (.int (3 : Int32)), .val (.ref b22), .val (.ref so), .unset] [(.ref so)])) rfl (by rw [hml]; rfl) [] [] pd_12 rfl rfl rfl (by show 2 * 0 + _ ≤ _; exact Nat.le_of_eq rfl) (hb hby at_90) ?_
    rintro v29 T29 L29 X29 ⟨rfl, Nq29, e29⟩
    have N29 := Fr.app N27 Nq29
    show own_Go _ _ _ _ T29 (mkF m 93 #[.val (.int p1), .val (.int p2), .val (.int p3), .val (.int p4), .val (.int (3 : Int32)), .val (.ref b22), .val (.ref so), .unset] [(.int (6 : Int32))])
    refine own_step (fun _ k => XS.iconst X29.here hx rfl (hb hby at_93) k) ?_
    show own_Go _ _ _ _ T29 (mkF m 94 #[.val (.int p1), .val (.int p2), .val (.int p3), .val (.int p4), .val (.int (3 : Int32)), .val (.ref b22), .val (.ref so), .unset] [(.int (2 : Int32)), (.int (6 : Int32))])
    refine own_step (fun _ k => XS.iload X29.here hx rfl (hb hby at_94) rfl k) ?_
    show own_Go _ _ _ _ T29 (mkF m 96 #[.val (.int p1), .val (.int p2), .val (.int p3), .val (.int p4), .val (.int (3 : Int32)), .val (.ref b22), .val (.ref so), .unset] [(.int (3 : Int32)), (.int (2 : Int32)), (.int (6 : Int32))])
    refine own_step (fun _ k => XS.imul X29.here hx rfl (hb hby at_96) rfl k) ?_
    show own_Go _ _ _ _ T29 (mkF m 97 #[.val (.int p1), .val (.int p2), .val (.int p3), .val (.int p4), .val (.int (3 : Int32)), .val (.ref b22), .val (.ref so), .unset] [(.int ((2 : Int32) * (3 : Int32))), (.int (6 : Int32))])
    show own_Go _ _ _ _ T29 (mkF m 97 #[.val (.int p1), .val (.int p2), .val (.int p3), .val (.int p4), .val (.int (3 : Int32)), .val (.ref b22), .val (.ref so), .unset] [(.int (6 : Int32)), (.int (6 : Int32))])
    refine own_step (fun _ k => XS.icmpYes X29.here hx rfl (pc0 := 97) (pc' := 102) rfl (hb hby at_97) rfl (teq (by decide : (6 : Int32) = (6 : Int32))).1 (by decide) (by decide) k) ?_
    show own_Go _ _ _ _ T29 (mkF m 102 #[.val (.int p1), .val (.int p2), .val (.int p3), .val (.int p4), .val (.int (3 : Int32)), .val (.ref b22), .val (.ref so), .unset] [])
    refine own_step (fun _ k => XS.iconst X29.here hx rfl (hb hby at_102) k) ?_
    show own_Go _ _ _ _ T29 (mkF m 103 #[.val (.int p1), .val (.int p2), .val (.int p3), .val (.int p4), .val (.int (3 : Int32)), .val (.ref b22), .val (.ref so), .unset] [(.int (1 : Int32))])
    refine own_step (fun _ k => XS.istore X29.here hx rfl (hb hby at_103) rfl (l' := #[.val (.int p1), .val (.int p2), .val (.int p3), .val (.int p4), .val (.int (3 : Int32)), .val (.ref b22), .val (.ref so), .val (.int (1 : Int32))]) rfl k) ?_
    show own_Go _ _ _ _ T29 (mkF m 105 #[.val (.int p1), .val (.int p2), .val (.int p3), .val (.int p4), .val (.int (3 : Int32)), .val (.ref b22), .val (.ref so), .val (.int (1 : Int32))] [])
    refine own_step (fun _ k => XS.iload X29.here hx rfl (hb hby at_105) rfl k) ?_
    show own_Go _ _ _ _ T29 (mkF m 107 #[.val (.int p1), .val (.int p2), .val (.int p3), .val (.int p4), .val (.int (3 : Int32)), .val (.ref b22), .val (.ref so), .val (.int (1 : Int32))] [(.int (3 : Int32))])
    refine own_step (fun _ k => XS.ifNo X29.here hx rfl (hb hby at_107) rfl ((if0 _ _).trans (tlt (by decide : (0 : Int32) < (3 : Int32))).2.2.2) k) ?_
    show own_Go _ _ _ _ T29 (mkF m 110 #[.val (.int p1), .val (.int p2), .val (.int p3), .val (.int p4), .val (.int (3 : Int32)), .val (.ref b22), .val (.ref so), .val (.int (1 : Int32))] [])
    refine own_step (fun _ k => XS.iload X29.here hx rfl (hb hby at_110) rfl k) ?_
    show own_Go _ _ _ _ T29 (mkF m 112 #[.val (.int p1), .val (.int p2), .val (.int p3), .val (.int p4), .val (.int (3 : Int32)), .val (.ref b22), .val (.ref so), .val (.int (1 : Int32))] [(.int (1 : Int32))])
    refine own_step (fun _ k => XS.ifNo X29.here hx rfl (hb hby at_112) rfl ((if0 _ _).trans (feq (by decide : ¬ ((1 : Int32) = (0 : Int32)))).1) k) ?_
    show own_Go _ _ _ _ T29 (mkF m 115 #[.val (.int p1), .val (.int p2), .val (.int p3), .val (.int p4), .val (.int (3 : Int32)), .val (.ref b22), .val (.ref so), .val (.int (1 : Int32))] [])
    refine own_step (fun _ k => XS.aload X29.here hx rfl (hb hby at_115) rfl rfl k) ?_
    show own_Go _ _ _ _ T29 (mkF m 117 #[.val (.int p1), .val (.int p2), .val (.int p3), .val (.int p4), .val (.int (3 : Int32)), .val (.ref b22), .val (.ref so), .val (.int (1 : Int32))] [(.ref so)])
    refine own_step (fun _ k => XS.iconst X29.here hx rfl (hb hby at_117) k) ?_
    show own_Go _ _ _ _ T29 (mkF m 118 #[.val (.int p1), .val (.int p2), .val (.int p3), .val (.int p4), .val (.int (3 : Int32)), .val (.ref b22), .val (.ref so), .val (.int (1 : Int32))] [(.int (0 : Int32)), (.ref so)])
    refine own_step (fun _ k => XS.iloadN X29.here hx rfl (hb hby at_118) rfl k) ?_
    show own_Go _ _ _ _ T29 (mkF m 119 #[.val (.int p1), .val (.int p2), .val (.int p3), .val (.int p4), .val (.int (3 : Int32)), .val (.ref b22), .val (.ref so), .val (.int (1 : Int32))] [(.int p1), (.int (0 : Int32)), (.ref so)])
    refine own_callS X29 hx hZ (y := (⟨"com/example/fixwire/fixwire/HexEncodePinLaw", "pair", "(Ljava/lang/String;II)Z"⟩ : MethodName)) hown (hw _ (List.mem_of_getElem? (i := 46) rfl)) (hw _ (List.mem_of_getElem? (i := 47) rfl)) (hw _ (List.mem_of_getElem? (i := 48) rfl)) (hw _ (List.mem_of_getElem? (i := 49) rfl)) (by decide) (rm10 l Z a0 hw [] so (0 : Int32) p1 cz fv vb kv (6 : Int32) (([(own_dgv ((p1.toInt8.toInt32) >>> ((4 : Int32) &&& 31))), (own_dgv (p1.toInt8.toInt32)), (own_dgv ((p2.toInt8.toInt32) >>> ((4 : Int32) &&& 31))), (own_dgv (p2.toInt8.toInt32)), (own_dgv ((p3.toInt8.toInt32) >>> ((4 : Int32) &&& 31))), (own_dgv (p3.toInt8.toInt32))] : List Int32).map (fun c => c.toInt8.toInt32)) T27.heap n0 Z27 Q28 SC hcz SF hfv EX27 FC27 FV27 V27 (by decide) (by decide) (by decide) (by decide)) e29 0 (by decide) (by decide) (by decide) (by decide) (g := (mkF m 119 #[.val (.int p1), .val (.int p2), .val (.int p3), .val (.int p4), .val (.int (3 : Int32)), .val (.ref b22), .val (.ref so), .val (.int (1 : Int32))] [(.int p1), (.int (0 : Int32)), (.ref so)])) rfl (by rw [hml]; rfl) [(.ref so), (.int (0 : Int32)), (.int p1)] [] pd_13 rfl rfl rfl (by show 2 * 0 + _ ≤ _; exact Nat.le_of_eq rfl) (hb hby at_119) ?_
    rintro v30 T30 L30 X30 ⟨rfl, Nq30, e30⟩
    have N30 := Fr.app N29 Nq30
    show own_Go _ _ _ _ T30 (mkF m 122 #[.val (.int p1), .val (.int p2), .val (.int p3), .val (.int p4), .val (.int (3 : Int32)), .val (.ref b22), .val (.ref so), .val (.int (1 : Int32))] [(.int (own_pr (((([(own_dgv ((p1.toInt8.toInt32) >>> ((4 : Int32) &&& 31))), (own_dgv (p1.toInt8.toInt32)), (own_dgv ((p2.toInt8.toInt32) >>> ((4 : Int32) &&& 31))), (own_dgv (p2.toInt8.toInt32)), (own_dgv ((p3.toInt8.toInt32) >>> ((4 : Int32) &&& 31))), (own_dgv (p3.toInt8.toInt32))] : List Int32).map (fun c => c.toInt8.toInt32)).getD ((2 : Int32) * (0 : Int32)).toNatClampNeg (0 : Int32)) &&& (255 : Int32)) (((([(own_dgv ((p1.toInt8.toInt32) >>> ((4 : Int32) &&& 31))), (own_dgv (p1.toInt8.toInt32)), (own_dgv ((p2.toInt8.toInt32) >>> ((4 : Int32) &&& 31))), (own_dgv (p2.toInt8.toInt32)), (own_dgv ((p3.toInt8.toInt32) >>> ((4 : Int32) &&& 31))), (own_dgv (p3.toInt8.toInt32))] : List Int32).map (fun c => c.toInt8.toInt32)).getD (((2 : Int32) * (0 : Int32)) + (1 : Int32)).toNatClampNeg (0 : Int32)) &&& (255 : Int32)) p1))])
    refine own_step (fun _ k => XS.ifNo X30.here hx rfl (hb hby at_122) rfl ((if0 _ _).trans (feq (own_prl p1)).1) k) ?_
    show own_Go _ _ _ _ T30 (mkF m 125 #[.val (.int p1), .val (.int p2), .val (.int p3), .val (.int p4), .val (.int (3 : Int32)), .val (.ref b22), .val (.ref so), .val (.int (1 : Int32))] [])
    refine own_step (fun _ k => XS.iconst X30.here hx rfl (hb hby at_125) k) ?_
    show own_Go _ _ _ _ T30 (mkF m 126 #[.val (.int p1), .val (.int p2), .val (.int p3), .val (.int p4), .val (.int (3 : Int32)), .val (.ref b22), .val (.ref so), .val (.int (1 : Int32))] [(.int (1 : Int32))])
    refine own_step (fun _ k => XS.goto X30.here hx rfl (pc0 := 126) (pc' := 130) rfl (hb hby at_126) (by decide) (by decide) k) ?_
    show own_Go _ _ _ _ T30 (mkF m 130 #[.val (.int p1), .val (.int p2), .val (.int p3), .val (.int p4), .val (.int (3 : Int32)), .val (.ref b22), .val (.ref so), .val (.int (1 : Int32))] [(.int (1 : Int32))])
    refine own_step (fun _ k => XS.istore X30.here hx rfl (hb hby at_130) rfl (l' := #[.val (.int p1), .val (.int p2), .val (.int p3), .val (.int p4), .val (.int (3 : Int32)), .val (.ref b22), .val (.ref so), .val (.int (1 : Int32))]) rfl k) ?_
    show own_Go _ _ _ _ T30 (mkF m 132 #[.val (.int p1), .val (.int p2), .val (.int p3), .val (.int p4), .val (.int (3 : Int32)), .val (.ref b22), .val (.ref so), .val (.int (1 : Int32))] [])
    refine own_step (fun _ k => XS.iload X30.here hx rfl (hb hby at_132) rfl k) ?_
    show own_Go _ _ _ _ T30 (mkF m 134 #[.val (.int p1), .val (.int p2), .val (.int p3), .val (.int p4), .val (.int (3 : Int32)), .val (.ref b22), .val (.ref so), .val (.int (1 : Int32))] [(.int (3 : Int32))])
    refine own_step (fun _ k => XS.iconst X30.here hx rfl (hb hby at_134) k) ?_
    show own_Go _ _ _ _ T30 (mkF m 135 #[.val (.int p1), .val (.int p2), .val (.int p3), .val (.int p4), .val (.int (3 : Int32)), .val (.ref b22), .val (.ref so), .val (.int (1 : Int32))] [(.int (1 : Int32)), (.int (3 : Int32))])
    refine own_step (fun _ k => XS.icmpNo X30.here hx rfl (hb hby at_135) rfl (tlt (by decide : (1 : Int32) < (3 : Int32))).2.2.2 k) ?_
    show own_Go _ _ _ _ T30 (mkF m 138 #[.val (.int p1), .val (.int p2), .val (.int p3), .val (.int p4), .val (.int (3 : Int32)), .val (.ref b22), .val (.ref so), .val (.int (1 : Int32))] [])
    refine own_step (fun _ k => XS.iload X30.here hx rfl (hb hby at_138) rfl k) ?_
    show own_Go _ _ _ _ T30 (mkF m 140 #[.val (.int p1), .val (.int p2), .val (.int p3), .val (.int p4), .val (.int (3 : Int32)), .val (.ref b22), .val (.ref so), .val (.int (1 : Int32))] [(.int (1 : Int32))])
    refine own_step (fun _ k => XS.ifNo X30.here hx rfl (hb hby at_140) rfl ((if0 _ _).trans (feq (by decide : ¬ ((1 : Int32) = (0 : Int32)))).1) k) ?_
    show own_Go _ _ _ _ T30 (mkF m 143 #[.val (.int p1), .val (.int p2), .val (.int p3), .val (.int p4), .val (.int (3 : Int32)), .val (.ref b22), .val (.ref so), .val (.int (1 : Int32))] [])
    refine own_step (fun _ k => XS.aload X30.here hx rfl (hb hby at_143) rfl rfl k) ?_
    show own_Go _ _ _ _ T30 (mkF m 145 #[.val (.int p1), .val (.int p2), .val (.int p3), .val (.int p4), .val (.int (3 : Int32)), .val (.ref b22), .val (.ref so), .val (.int (1 : Int32))] [(.ref so)])
    refine own_step (fun _ k => XS.iconst X30.here hx rfl (hb hby at_145) k) ?_
    show own_Go _ _ _ _ T30 (mkF m 146 #[.val (.int p1), .val (.int p2), .val (.int p3), .val (.int p4), .val (.int (3 : Int32)), .val (.ref b22), .val (.ref so), .val (.int (1 : Int32))] [(.int (1 : Int32)), (.ref so)])
    refine own_step (fun _ k => XS.iloadN X30.here hx rfl (hb hby at_146) rfl k) ?_
    show own_Go _ _ _ _ T30 (mkF m 147 #[.val (.int p1), .val (.int p2), .val (.int p3), .val (.int p4), .val (.int (3 : Int32)), .val (.ref b22), .val (.ref so), .val (.int (1 : Int32))] [(.int p2), (.int (1 : Int32)), (.ref so)])
    refine own_callS X30 hx hZ (y := (⟨"com/example/fixwire/fixwire/HexEncodePinLaw", "pair", "(Ljava/lang/String;II)Z"⟩ : MethodName)) hown (hw _ (List.mem_of_getElem? (i := 46) rfl)) (hw _ (List.mem_of_getElem? (i := 47) rfl)) (hw _ (List.mem_of_getElem? (i := 48) rfl)) (hw _ (List.mem_of_getElem? (i := 49) rfl)) (by decide) (rm10 l Z a0 hw [] so (1 : Int32) p2 cz fv vb kv (6 : Int32) (([(own_dgv ((p1.toInt8.toInt32) >>> ((4 : Int32) &&& 31))), (own_dgv (p1.toInt8.toInt32)), (own_dgv ((p2.toInt8.toInt32) >>> ((4 : Int32) &&& 31))), (own_dgv (p2.toInt8.toInt32)), (own_dgv ((p3.toInt8.toInt32) >>> ((4 : Int32) &&& 31))), (own_dgv (p3.toInt8.toInt32))] : List Int32).map (fun c => c.toInt8.toInt32)) T27.heap n0 Z27 Q28 SC hcz SF hfv EX27 FC27 FV27 V27 (by decide) (by decide) (by decide) (by decide)) e30 0 (by decide) (by decide) (by decide) (by decide) (g := (mkF m 147 #[.val (.int p1), .val (.int p2), .val (.int p3), .val (.int p4), .val (.int (3 : Int32)), .val (.ref b22), .val (.ref so), .val (.int (1 : Int32))] [(.int p2), (.int (1 : Int32)), (.ref so)])) rfl (by rw [hml]; rfl) [(.ref so), (.int (1 : Int32)), (.int p2)] [] pd_13 rfl rfl rfl (by show 2 * 0 + _ ≤ _; exact Nat.le_of_eq rfl) (hb hby at_147) ?_
    rintro v31 T31 L31 X31 ⟨rfl, Nq31, e31⟩
    have N31 := Fr.app N30 Nq31
    show own_Go _ _ _ _ T31 (mkF m 150 #[.val (.int p1), .val (.int p2), .val (.int p3), .val (.int p4), .val (.int (3 : Int32)), .val (.ref b22), .val (.ref so), .val (.int (1 : Int32))] [(.int (own_pr (((([(own_dgv ((p1.toInt8.toInt32) >>> ((4 : Int32) &&& 31))), (own_dgv (p1.toInt8.toInt32)), (own_dgv ((p2.toInt8.toInt32) >>> ((4 : Int32) &&& 31))), (own_dgv (p2.toInt8.toInt32)), (own_dgv ((p3.toInt8.toInt32) >>> ((4 : Int32) &&& 31))), (own_dgv (p3.toInt8.toInt32))] : List Int32).map (fun c => c.toInt8.toInt32)).getD ((2 : Int32) * (1 : Int32)).toNatClampNeg (0 : Int32)) &&& (255 : Int32)) (((([(own_dgv ((p1.toInt8.toInt32) >>> ((4 : Int32) &&& 31))), (own_dgv (p1.toInt8.toInt32)), (own_dgv ((p2.toInt8.toInt32) >>> ((4 : Int32) &&& 31))), (own_dgv (p2.toInt8.toInt32)), (own_dgv ((p3.toInt8.toInt32) >>> ((4 : Int32) &&& 31))), (own_dgv (p3.toInt8.toInt32))] : List Int32).map (fun c => c.toInt8.toInt32)).getD (((2 : Int32) * (1 : Int32)) + (1 : Int32)).toNatClampNeg (0 : Int32)) &&& (255 : Int32)) p2))])
    refine own_step (fun _ k => XS.ifNo X31.here hx rfl (hb hby at_150) rfl ((if0 _ _).trans (feq (own_prl p2)).1) k) ?_
    show own_Go _ _ _ _ T31 (mkF m 153 #[.val (.int p1), .val (.int p2), .val (.int p3), .val (.int p4), .val (.int (3 : Int32)), .val (.ref b22), .val (.ref so), .val (.int (1 : Int32))] [])
    refine own_step (fun _ k => XS.iconst X31.here hx rfl (hb hby at_153) k) ?_
    show own_Go _ _ _ _ T31 (mkF m 154 #[.val (.int p1), .val (.int p2), .val (.int p3), .val (.int p4), .val (.int (3 : Int32)), .val (.ref b22), .val (.ref so), .val (.int (1 : Int32))] [(.int (1 : Int32))])
    refine own_step (fun _ k => XS.goto X31.here hx rfl (pc0 := 154) (pc' := 158) rfl (hb hby at_154) (by decide) (by decide) k) ?_
    show own_Go _ _ _ _ T31 (mkF m 158 #[.val (.int p1), .val (.int p2), .val (.int p3), .val (.int p4), .val (.int (3 : Int32)), .val (.ref b22), .val (.ref so), .val (.int (1 : Int32))] [(.int (1 : Int32))])
    refine own_step (fun _ k => XS.istore X31.here hx rfl (hb hby at_158) rfl (l' := #[.val (.int p1), .val (.int p2), .val (.int p3), .val (.int p4), .val (.int (3 : Int32)), .val (.ref b22), .val (.ref so), .val (.int (1 : Int32))]) rfl k) ?_
    show own_Go _ _ _ _ T31 (mkF m 160 #[.val (.int p1), .val (.int p2), .val (.int p3), .val (.int p4), .val (.int (3 : Int32)), .val (.ref b22), .val (.ref so), .val (.int (1 : Int32))] [])
    refine own_step (fun _ k => XS.iload X31.here hx rfl (hb hby at_160) rfl k) ?_
    show own_Go _ _ _ _ T31 (mkF m 162 #[.val (.int p1), .val (.int p2), .val (.int p3), .val (.int p4), .val (.int (3 : Int32)), .val (.ref b22), .val (.ref so), .val (.int (1 : Int32))] [(.int (3 : Int32))])
    refine own_step (fun _ k => XS.iconst X31.here hx rfl (hb hby at_162) k) ?_
    show own_Go _ _ _ _ T31 (mkF m 163 #[.val (.int p1), .val (.int p2), .val (.int p3), .val (.int p4), .val (.int (3 : Int32)), .val (.ref b22), .val (.ref so), .val (.int (1 : Int32))] [(.int (2 : Int32)), (.int (3 : Int32))])
    refine own_step (fun _ k => XS.icmpNo X31.here hx rfl (hb hby at_163) rfl (tlt (by decide : (2 : Int32) < (3 : Int32))).2.2.2 k) ?_
    show own_Go _ _ _ _ T31 (mkF m 166 #[.val (.int p1), .val (.int p2), .val (.int p3), .val (.int p4), .val (.int (3 : Int32)), .val (.ref b22), .val (.ref so), .val (.int (1 : Int32))] [])
    refine own_step (fun _ k => XS.iload X31.here hx rfl (hb hby at_166) rfl k) ?_
    show own_Go _ _ _ _ T31 (mkF m 168 #[.val (.int p1), .val (.int p2), .val (.int p3), .val (.int p4), .val (.int (3 : Int32)), .val (.ref b22), .val (.ref so), .val (.int (1 : Int32))] [(.int (1 : Int32))])
    refine own_step (fun _ k => XS.ifNo X31.here hx rfl (hb hby at_168) rfl ((if0 _ _).trans (feq (by decide : ¬ ((1 : Int32) = (0 : Int32)))).1) k) ?_
    show own_Go _ _ _ _ T31 (mkF m 171 #[.val (.int p1), .val (.int p2), .val (.int p3), .val (.int p4), .val (.int (3 : Int32)), .val (.ref b22), .val (.ref so), .val (.int (1 : Int32))] [])
    refine own_step (fun _ k => XS.aload X31.here hx rfl (hb hby at_171) rfl rfl k) ?_
    show own_Go _ _ _ _ T31 (mkF m 173 #[.val (.int p1), .val (.int p2), .val (.int p3), .val (.int p4), .val (.int (3 : Int32)), .val (.ref b22), .val (.ref so), .val (.int (1 : Int32))] [(.ref so)])
    refine own_step (fun _ k => XS.iconst X31.here hx rfl (hb hby at_173) k) ?_
    show own_Go _ _ _ _ T31 (mkF m 174 #[.val (.int p1), .val (.int p2), .val (.int p3), .val (.int p4), .val (.int (3 : Int32)), .val (.ref b22), .val (.ref so), .val (.int (1 : Int32))] [(.int (2 : Int32)), (.ref so)])
    refine own_step (fun _ k => XS.iloadN X31.here hx rfl (hb hby at_174) rfl k) ?_
    show own_Go _ _ _ _ T31 (mkF m 175 #[.val (.int p1), .val (.int p2), .val (.int p3), .val (.int p4), .val (.int (3 : Int32)), .val (.ref b22), .val (.ref so), .val (.int (1 : Int32))] [(.int p3), (.int (2 : Int32)), (.ref so)])
    refine own_callS X31 hx hZ (y := (⟨"com/example/fixwire/fixwire/HexEncodePinLaw", "pair", "(Ljava/lang/String;II)Z"⟩ : MethodName)) hown (hw _ (List.mem_of_getElem? (i := 46) rfl)) (hw _ (List.mem_of_getElem? (i := 47) rfl)) (hw _ (List.mem_of_getElem? (i := 48) rfl)) (hw _ (List.mem_of_getElem? (i := 49) rfl)) (by decide) (rm10 l Z a0 hw [] so (2 : Int32) p3 cz fv vb kv (6 : Int32) (([(own_dgv ((p1.toInt8.toInt32) >>> ((4 : Int32) &&& 31))), (own_dgv (p1.toInt8.toInt32)), (own_dgv ((p2.toInt8.toInt32) >>> ((4 : Int32) &&& 31))), (own_dgv (p2.toInt8.toInt32)), (own_dgv ((p3.toInt8.toInt32) >>> ((4 : Int32) &&& 31))), (own_dgv (p3.toInt8.toInt32))] : List Int32).map (fun c => c.toInt8.toInt32)) T27.heap n0 Z27 Q28 SC hcz SF hfv EX27 FC27 FV27 V27 (by decide) (by decide) (by decide) (by decide)) e31 0 (by decide) (by decide) (by decide) (by decide) (g := (mkF m 175 #[.val (.int p1), .val (.int p2), .val (.int p3), .val (.int p4), .val (.int (3 : Int32)), .val (.ref b22), .val (.ref so), .val (.int (1 : Int32))] [(.int p3), (.int (2 : Int32)), (.ref so)])) rfl (by rw [hml]; rfl) [(.ref so), (.int (2 : Int32)), (.int p3)] [] pd_13 rfl rfl rfl (by show 2 * 0 + _ ≤ _; exact Nat.le_of_eq rfl) (hb hby at_175) ?_
    rintro v32 T32 L32 X32 ⟨rfl, Nq32, e32⟩
    have N32 := Fr.app N31 Nq32
    show own_Go _ _ _ _ T32 (mkF m 178 #[.val (.int p1), .val (.int p2), .val (.int p3), .val (.int p4), .val (.int (3 : Int32)), .val (.ref b22), .val (.ref so), .val (.int (1 : Int32))] [(.int (own_pr (((([(own_dgv ((p1.toInt8.toInt32) >>> ((4 : Int32) &&& 31))), (own_dgv (p1.toInt8.toInt32)), (own_dgv ((p2.toInt8.toInt32) >>> ((4 : Int32) &&& 31))), (own_dgv (p2.toInt8.toInt32)), (own_dgv ((p3.toInt8.toInt32) >>> ((4 : Int32) &&& 31))), (own_dgv (p3.toInt8.toInt32))] : List Int32).map (fun c => c.toInt8.toInt32)).getD ((2 : Int32) * (2 : Int32)).toNatClampNeg (0 : Int32)) &&& (255 : Int32)) (((([(own_dgv ((p1.toInt8.toInt32) >>> ((4 : Int32) &&& 31))), (own_dgv (p1.toInt8.toInt32)), (own_dgv ((p2.toInt8.toInt32) >>> ((4 : Int32) &&& 31))), (own_dgv (p2.toInt8.toInt32)), (own_dgv ((p3.toInt8.toInt32) >>> ((4 : Int32) &&& 31))), (own_dgv (p3.toInt8.toInt32))] : List Int32).map (fun c => c.toInt8.toInt32)).getD (((2 : Int32) * (2 : Int32)) + (1 : Int32)).toNatClampNeg (0 : Int32)) &&& (255 : Int32)) p3))])
    refine own_step (fun _ k => XS.ifNo X32.here hx rfl (hb hby at_178) rfl ((if0 _ _).trans (feq (own_prl p3)).1) k) ?_
    show own_Go _ _ _ _ T32 (mkF m 181 #[.val (.int p1), .val (.int p2), .val (.int p3), .val (.int p4), .val (.int (3 : Int32)), .val (.ref b22), .val (.ref so), .val (.int (1 : Int32))] [])
    refine own_step (fun _ k => XS.iconst X32.here hx rfl (hb hby at_181) k) ?_
    show own_Go _ _ _ _ T32 (mkF m 182 #[.val (.int p1), .val (.int p2), .val (.int p3), .val (.int p4), .val (.int (3 : Int32)), .val (.ref b22), .val (.ref so), .val (.int (1 : Int32))] [(.int (1 : Int32))])
    refine own_step (fun _ k => XS.goto X32.here hx rfl (pc0 := 182) (pc' := 186) rfl (hb hby at_182) (by decide) (by decide) k) ?_
    show own_Go _ _ _ _ T32 (mkF m 186 #[.val (.int p1), .val (.int p2), .val (.int p3), .val (.int p4), .val (.int (3 : Int32)), .val (.ref b22), .val (.ref so), .val (.int (1 : Int32))] [(.int (1 : Int32))])
    refine own_step (fun _ k => XS.istore X32.here hx rfl (hb hby at_186) rfl (l' := #[.val (.int p1), .val (.int p2), .val (.int p3), .val (.int p4), .val (.int (3 : Int32)), .val (.ref b22), .val (.ref so), .val (.int (1 : Int32))]) rfl k) ?_
    show own_Go _ _ _ _ T32 (mkF m 188 #[.val (.int p1), .val (.int p2), .val (.int p3), .val (.int p4), .val (.int (3 : Int32)), .val (.ref b22), .val (.ref so), .val (.int (1 : Int32))] [])
    refine own_step (fun _ k => XS.iload X32.here hx rfl (hb hby at_188) rfl k) ?_
    show own_Go _ _ _ _ T32 (mkF m 190 #[.val (.int p1), .val (.int p2), .val (.int p3), .val (.int p4), .val (.int (3 : Int32)), .val (.ref b22), .val (.ref so), .val (.int (1 : Int32))] [(.int (1 : Int32))])
    exact own_retN X32 hx (t := .boolean) hret (by simp) hlk (hb hby at_190) rfl (own_W X32 hS27 (Nat.le_refl _) e32 eS hZ hEL C27 ⟨rfl, N32⟩ (by decide) (by decide)) 
set_option maxRecDepth 65536 in
set_option maxHeartbeats 40000000 in
theorem comes_1 {Post : Tables → Env → Array Value → State → Outcome → State → Prop} (hpost : ∀ tb e args s v u, (limb_1_1.after args s (.returned v) u = true ∧ limb_1_2.after args s (.returned v) u = true ∧ True) → ReturnedEndW s (.returned v) u (Jvm.fieldLocs frame_1_writes args s ++ Jvm.arrayLocs frame_1_arrays args s ++ Jvm.staticLocs frame_1_statics s) 24 1152 → Post tb e args s (.returned v) u) :
    ArmFor flags0 classFile x code maxLocals ret World_1 tables_1 room_1 Calls_1 rest_1 Pre_1 Post := by
  intro l hfl _ _ p e ha hc hk s m args below hf hA hF happ hP
  obtain ⟨hcalls, hrest, hpre⟩ := hP
  obtain ⟨-, -, -, hnamed, -, -, -, hat⟩ := (Spec.applies_iff hf).mp happ
  obtain ⟨hg, hn⟩ := and_e (Cond.before_iff.mp (show (Jvm.Cond.and given_1 narrow_1).before args s = true from hpre))
  obtain ⟨gc, g0⟩ := and_e hg
  obtain ⟨h0, g1⟩ := and_e g0
  obtain ⟨h1, g2⟩ := and_e g1
  obtain ⟨h2, g3⟩ := and_e g2
  have h3 := g3
  obtain ⟨w0, w1, w2, w3, rfl⟩ : ∃ w0 w1 w2 w3 : Value, args = #[w0, w1, w2, w3] := by
    have hs : args.size = 4 := by simpa [Cond.value, given_1] using gc
    obtain ⟨L⟩ := args
    match L, hs with
    | [w0, w1, w2, w3], _ => exact ⟨w0, w1, w2, w3, rfl⟩
  have hw := fun d (hd : d ∈ tables_1) => atoms_spec (ws := Jvm.Cond.code x code maxLocals ret :: tables_1) hat d (List.mem_cons_of_mem _ hd)
  have hfit : Fit s := fun {y c} hc i hi => by
    obtain ⟨ha, rfl⟩ := Array.getElem?_eq_some_iff.mp hc
    have q := List.all_eq_true.mp ((Array.all_eq_true_iff_forall_mem.mp hF) _ (Array.getElem_mem ha)) i (List.mem_range.mpr hi)
    simpa [Array.getElem?_eq_getElem hi] using q
  obtain ⟨hsets, hown0⟩ := atoms_of _ (rest_1_c_eq ▸ (show rest_1_c.before _ s = true from hrest))
  have hr0 := Cond.before_iff.mp hown0
  obtain ⟨i0, ei0⟩ := is_v h0
  obtain rfl : w0 = (.int i0) := Option.some.inj ei0
  obtain ⟨i1, ei1⟩ := is_v h1
  obtain rfl : w1 = (.int i1) := Option.some.inj ei1
  obtain ⟨i2, ei2⟩ := is_v h2
  obtain rfl : w2 = (.int i2) := Option.some.inj ei2
  obtain ⟨i3, ei3⟩ := is_v h3
  obtain rfl : w3 = (.int i3) := Option.some.inj ei3
  obtain ⟨cz, ecz⟩ := is_v (Cond.before_iff.mp (hsets _ (List.mem_of_getElem? (i := 1) rfl)))
  have SC := Sta.start ecz (Or.inl (hsets _ (List.mem_of_getElem? (i := 0) rfl)))
  have hcz : ¬ (cz = (0 : Int32)) := gotF (Cond.eq_ints ecz (Term.int_eval (0))) (not_v (Cond.before_iff.mp (hsets _ (List.mem_of_getElem? (i := 2) rfl))))
  obtain ⟨fv, efv, hfv⟩ := isR_v (Cond.before_iff.mp (hsets _ (List.mem_of_getElem? (i := 8) rfl)))
  have SF := Sta.start efv (Or.inl (hsets _ (List.mem_of_getElem? (i := 7) rfl)))
  have hEL : EW s _ own_EL := (EW.cons (hw _ (List.mem_of_getElem? (i := 75) rfl)) (fun c hc => absurd hc (by simp)) EW.nil)
  have hCH : CHv s own_EL s.vm s.heap := CHv.start hEL (fun p hp => hcalls.1 p hp) (hsets _ (List.mem_of_getElem? (i := 2) rfl)) (hw _ (List.mem_of_getElem? (i := 0) rfl)) (hw _ (List.mem_of_getElem? (i := 9) rfl))
  obtain ⟨y0, z0⟩ := and_e hn
  obtain ⟨y1, z1⟩ := and_e z0
  obtain ⟨y2, y3⟩ := and_e z1
  obtain ⟨dg, ev⟩ := arr_v y0
  obtain ⟨cl, AV⟩ := Arr.start ev y0
  obtain ⟨hl1, hl2⟩ := own_lenT ev AV (own_eqI y1)
  have SD := Sta.start ev (Or.inr ⟨(hw _ (List.mem_of_getElem? (i := 3) rfl)), (hw _ (List.mem_of_getElem? (i := 7) rfl))⟩)
  have hsz : cl.slots.size = 16 := by have q := len_toInt hl1; rw [hl2] at q; have q16 : (16 : Int32).toInt = 16 := (by decide); omega
  have hev : ∀ idx, (Term.static "com/example/fixwire/fixwire/Hex" "DIGITS" "[C").eval #[.int i0, .int i1, .int i2, .int i3] s none idx s = some (.ref dg) := fun idx => ev
  have el0 := own_hel (ty := .char) (by simp) hfit hev AV hl1 y2 0 (by omega) (by simp [Jvm.Cond.value, Term.eval]; try decide) (48 : Int32) (by decide)
  have el1 := own_hel (ty := .char) (by simp) hfit hev AV hl1 y2 1 (by omega) (by simp [Jvm.Cond.value, Term.eval]; try decide) (49 : Int32) (by decide)
  have el2 := own_hel (ty := .char) (by simp) hfit hev AV hl1 y2 2 (by omega) (by simp [Jvm.Cond.value, Term.eval]; try decide) (50 : Int32) (by decide)
  have el3 := own_hel (ty := .char) (by simp) hfit hev AV hl1 y2 3 (by omega) (by simp [Jvm.Cond.value, Term.eval]; try decide) (51 : Int32) (by decide)
  have el4 := own_hel (ty := .char) (by simp) hfit hev AV hl1 y2 4 (by omega) (by simp [Jvm.Cond.value, Term.eval]; try decide) (52 : Int32) (by decide)
  have el5 := own_hel (ty := .char) (by simp) hfit hev AV hl1 y2 5 (by omega) (by simp [Jvm.Cond.value, Term.eval]; try decide) (53 : Int32) (by decide)
  have el6 := own_hel (ty := .char) (by simp) hfit hev AV hl1 y2 6 (by omega) (by simp [Jvm.Cond.value, Term.eval]; try decide) (54 : Int32) (by decide)
  have el7 := own_hel (ty := .char) (by simp) hfit hev AV hl1 y2 7 (by omega) (by simp [Jvm.Cond.value, Term.eval]; try decide) (55 : Int32) (by decide)
  have el8 := own_hel (ty := .char) (by simp) hfit hev AV hl1 y2 8 (by omega) (by simp [Jvm.Cond.value, Term.eval]; try decide) (56 : Int32) (by decide)
  have el9 := own_hel (ty := .char) (by simp) hfit hev AV hl1 y2 9 (by omega) (by simp [Jvm.Cond.value, Term.eval]; try decide) (57 : Int32) (by decide)
  have el10 := own_hel (ty := .char) (by simp) hfit hev AV hl1 y3 10 (by omega) (by simp [Jvm.Cond.value, Term.eval]; try decide) (97 : Int32) (by decide)
  have el11 := own_hel (ty := .char) (by simp) hfit hev AV hl1 y3 11 (by omega) (by simp [Jvm.Cond.value, Term.eval]; try decide) (98 : Int32) (by decide)
  have el12 := own_hel (ty := .char) (by simp) hfit hev AV hl1 y3 12 (by omega) (by simp [Jvm.Cond.value, Term.eval]; try decide) (99 : Int32) (by decide)
  have el13 := own_hel (ty := .char) (by simp) hfit hev AV hl1 y3 13 (by omega) (by simp [Jvm.Cond.value, Term.eval]; try decide) (100 : Int32) (by decide)
  have el14 := own_hel (ty := .char) (by simp) hfit hev AV hl1 y3 14 (by omega) (by simp [Jvm.Cond.value, Term.eval]; try decide) (101 : Int32) (by decide)
  have el15 := own_hel (ty := .char) (by simp) hfit hev AV hl1 y3 15 (by omega) (by simp [Jvm.Cond.value, Term.eval]; try decide) (102 : Int32) (by decide)
  have VD := Arv.start (vs := own_dg.map Value.int) (dv := .int (0 : Int32)) hfit AV hl1 hl2 (by decide) rfl ⟨el0, el1, el2, el3, el4, el5, el6, el7, el8, el9, el10, el11, el12, el13, el14, el15, trivial⟩
  obtain ⟨n, o, h1, h2, h3, _, L, rfl, ⟨rfl, N⟩, -, hq⟩ := rm0 l s _ hw tables_1 i0 i1 i2 i3 cz fv dg _ s.heap s.heap.size (Nat.le_refl _) hEL (Old.start s) SC hcz SF hfv SD VD p e ha hc hk s m _ below hf ((Spec.applies_iff_loose hf).mp happ).1 ⟨rfl, State.Warmed39.refl s, rfl, hCH⟩ trivial
  refine ⟨n, _, h1, h2, h3, hpost _ _ _ _ _ _ ⟨Cond.after_iff.mpr rfl, Cond.after_iff.mpr (eq_i res_at (Term.int_eval (1)) rfl), trivial⟩ ⟨hq.1, hq.2.1, hq.2.2.1, (hq.2.2.2.sift fun y hy => Or.inr (N y hy)).mono (by decide) (by decide)⟩⟩
theorem main_1_1 : Claimed_1_1 := comes_1 fun _ _ _ _ _ _ h hF => ⟨h.1, hF⟩
theorem main_1_2 : Claimed_1_2 := comes_1 fun _ _ _ _ _ _ h hF => ⟨h.2.1, hF⟩
end Jvm.Pilot.@@N@@
namespace Jvm.Pilot.@@N@@
open Jvm Jvm.ClassFile Sem Op Lib Jvm.Free Jvm.Stand Jvm.Pilot.@@N@@.Jvm.D
/-! MADE BY PROGRAM (witnessworld.py) out of the Statement's table words and the real class files: 20 classes; the members and pool entries that the words name. The judged class is class 1, her method 3. -/
namespace start1
open Jvm.ClassFile
def u (s : String) : CpInfo := .utf8 (stringToUtf16 s)
/-- a pool by its gaps: so many unusable entries, then the entry; so many at the end -/
def gap : Nat → List CpInfo → List CpInfo
  | 0, r => r
  | n + 1, r => .unusable :: gap n r
def poolList (es : List (Nat × CpInfo)) (last : Nat) : List CpInfo := es.foldr (fun e r => gap e.1 (e.2 :: r)) (gap last [])
def pool (es : List (Nat × CpInfo)) (last : Nat) : Array CpInfo := ⟨poolList es last⟩
def fileOf (pool : Array CpInfo) (this : Nat) (attrs : Array Attribute := #[]) (ms : Array MethodInfo := #[]) (fl : Nat := 33) (sup : Nat := 0) (ifs : Array Nat := #[]) (fds : Array FieldInfo := #[]) : ClassFile where
  minorVersion := 0
  majorVersion := 65
  constantPool := pool
  accessFlags := fl
  thisClass := this
  superClass := sup
  interfaces := ifs
  fields := fds
  methods := ms
  attributes := attrs
def plain (name : String) (sup : Option ClassId) : Class where
  name := name
  kind := .ordinary
  loader := none
  accessFlags := 33
  super := sup
  interfaces := #[]
  cf := none
  fields := #[]
  methods := #[]
  instanceTypes := #[]
  staticTypes := #[]
  resolved := #[]
  callSites := []
  init := .initialized
  statics := none
  mirror := none

def pool0 : Array CpInfo := pool [(5, u "<init>"), (0, u "()V"), (1, .class_ 10), (1, u "java/lang/Object")] 113

def k0c0 : Code := { maxStack := 0, maxLocals := 1, code := object_method_1_code, exceptionTable := #[], attributes := #[] }
def k0m0 : Method := { name := "<init>", desc := "()V", sig := { parameters := [], returnType := none }, accessFlags := 1, code := some k0c0 }
/-- java/lang/Object -/
def k0 : Class := { plain "java/lang/Object" none with
  accessFlags := 33
  interfaces := #[]
  cf := some (fileOf pool0 8 #[] #[{ accessFlags := 1, nameIndex := 5, descriptorIndex := 6, attributes := #[] }] 33 0 #[] #[])
  fields := #[]
  methods := #[k0m0]
  instanceTypes := #[]
  staticTypes := #[]
  resolved := Array.replicate 124 none
  statics := none }

def pool1 : Array CpInfo := pool [(2, .class_ 4), (1, u "java/lang/Object"), (0, u "<init>"), (0, u "()V"), (0, .methodref 8 9), (0, .class_ 10), (0, .nameAndType 11 12), (0, u "java/lang/String"), (0, u "charAt"), (0, u "(I)C"), (0, .methodref 14 15), (0, .class_ 16), (0, .nameAndType 17 12), (0, u "com/example/fixwire/fixwire/HexEncodePinLaw"), (0, u "hexChar"), (0, .methodref 19 20), (0, .class_ 21), (0, .nameAndType 22 23), (0, u "com/example/fixwire/fixwire/Hex"), (0, u "encode"), (0, u "([B)Ljava/lang/String;"), (0, .methodref 8 25), (0, .nameAndType 26 27), (0, u "length"), (0, u "()I"), (0, .methodref 14 29), (0, .nameAndType 30 31), (0, u "pair"), (0, u "(Ljava/lang/String;II)Z"), (3, u "law"), (0, u "(IIII)Z")] 4

def k1m0 : Method := { name := "<init>", desc := "()V", sig := { parameters := [], returnType := none }, accessFlags := 2, code := none }
def k1c1 : Code := { maxStack := 3, maxLocals := 1, code := method_2_code, exceptionTable := #[], attributes := #[] }
def k1m1 : Method := { name := "hexChar", desc := "(I)C", sig := { parameters := [.int], returnType := some .char }, accessFlags := 10, code := some k1c1 }
def k1c2 : Code := { maxStack := 3, maxLocals := 4, code := method_3_code, exceptionTable := #[], attributes := #[] }
def k1m2 : Method := { name := "pair", desc := "(Ljava/lang/String;II)Z", sig := { parameters := [(.object "java/lang/String"), .int, .int], returnType := some .boolean }, accessFlags := 10, code := some k1c2 }
def k1c3 : Code := { maxStack := 4, maxLocals := 8, code := code, exceptionTable := #[], attributes := #[] }
def k1m3 : Method := { name := "law", desc := "(IIII)Z", sig := { parameters := [.int, .int, .int, .int], returnType := some .boolean }, accessFlags := 9, code := some k1c3 }
/-- com/example/fixwire/fixwire/HexEncodePinLaw -/
def k1 : Class := { plain "com/example/fixwire/fixwire/HexEncodePinLaw" (some 0) with
  accessFlags := 49
  interfaces := #[]
  cf := some (fileOf pool1 14 #[] #[{ accessFlags := 2, nameIndex := 5, descriptorIndex := 6, attributes := #[] }, { accessFlags := 10, nameIndex := 17, descriptorIndex := 12, attributes := #[] }, { accessFlags := 10, nameIndex := 30, descriptorIndex := 31, attributes := #[] }, { accessFlags := 9, nameIndex := 35, descriptorIndex := 36, attributes := #[] }] 49 2 #[] #[])
  fields := #[]
  methods := #[k1m0, k1m1, k1m2, k1m3]
  instanceTypes := #[]
  staticTypes := #[]
  resolved := Array.replicate 41 none
  statics := none }

def pool2 : Array CpInfo := pool [(2, .class_ 4), (1, u "java/lang/Object"), (0, u "<init>"), (0, u "()V"), (11, .class_ 20), (1, u "com/example/fixwire/fixwire/Hex"), (23, .fieldref 18 45), (0, .nameAndType 46 47), (0, u "DIGITS"), (0, u "[C"), (0, .class_ 49), (0, u "java/lang/String"), (0, .methodref 48 51), (0, .nameAndType 5 52), (0, u "([C)V"), (28, u "encode"), (0, u "([B)Ljava/lang/String;")] 21

def k2m0 : Method := { name := "<init>", desc := "()V", sig := { parameters := [], returnType := none }, accessFlags := 2, code := none }
def k2c1 : Code := { maxStack := 5, maxLocals := 3, code := prog_14_method_3_code, exceptionTable := #[], attributes := #[] }
def k2m1 : Method := { name := "encode", desc := "([B)Ljava/lang/String;", sig := { parameters := [(.array .byte)], returnType := some (.object "java/lang/String") }, accessFlags := 9, code := some k2c1 }
/-- com/example/fixwire/fixwire/Hex -/
def k2 : Class := { plain "com/example/fixwire/fixwire/Hex" (some 0) with
  accessFlags := 49
  interfaces := #[]
  cf := some (fileOf pool2 18 #[] #[{ accessFlags := 2, nameIndex := 5, descriptorIndex := 6, attributes := #[] }, { accessFlags := 9, nameIndex := 81, descriptorIndex := 82, attributes := #[] }] 49 2 #[] #[{ accessFlags := 26, nameIndex := 46, descriptorIndex := 47, attributes := #[] }])
  fields := #[{ name := "DIGITS", type := (.array .char), accessFlags := 26, slot := 0, constantValue := 0 }]
  methods := #[k2m0, k2m1]
  instanceTypes := #[]
  staticTypes := #[(.array .char)]
  resolved := Array.replicate 104 none
  statics := some 0 }

def pool3 : Array CpInfo := pool [(1, .class_ 2), (0, u "java/io/Serializable"), (0, .class_ 4), (0, u "java/lang/Object")] 2

/-- java/io/Serializable -/
def k3 : Class := { plain "java/io/Serializable" (some 0) with
  accessFlags := 1537
  interfaces := #[]
  cf := some (fileOf pool3 1 #[] #[] 1537 3 #[] #[])
  fields := #[]
  methods := #[]
  instanceTypes := #[]
  staticTypes := #[]
  resolved := Array.replicate 7 none
  statics := none }

def pool4 : Array CpInfo := pool [(1, .class_ 2), (0, u "java/lang/Comparable"), (0, .class_ 4), (0, u "java/lang/Object")] 7

/-- java/lang/Comparable -/
def k4 : Class := { plain "java/lang/Comparable" (some 0) with
  accessFlags := 1537
  interfaces := #[]
  cf := some (fileOf pool4 1 #[] #[] 1537 3 #[] #[])
  fields := #[]
  methods := #[]
  instanceTypes := #[]
  staticTypes := #[]
  resolved := Array.replicate 12 none
  statics := none }

def pool5 : Array CpInfo := pool [(2, .class_ 4), (1, u "java/lang/CharSequence"), (42, .class_ 48), (0, u "java/lang/CharSequence$1CodePointIterator"), (10, .class_ 60), (0, u "java/lang/CharSequence$1CharIterator"), (5, .class_ 67), (0, u "java/lang/Object")] 63

/-- java/lang/CharSequence -/
def k5 : Class := { plain "java/lang/CharSequence" (some 0) with
  accessFlags := 1537
  interfaces := #[]
  cf := some (fileOf pool5 2 #[.nestMembers #[47, 59]] #[] 1537 66 #[] #[])
  fields := #[]
  methods := #[]
  instanceTypes := #[]
  staticTypes := #[]
  resolved := Array.replicate 131 none
  statics := none }

def pool6 : Array CpInfo := pool [(1, .class_ 2), (0, u "java/lang/constant/Constable"), (0, .class_ 4), (0, u "java/lang/Object")] 6

/-- java/lang/constant/Constable -/
def k6 : Class := { plain "java/lang/constant/Constable" (some 0) with
  accessFlags := 1537
  interfaces := #[]
  cf := some (fileOf pool6 1 #[] #[] 1537 3 #[] #[])
  fields := #[]
  methods := #[]
  instanceTypes := #[]
  staticTypes := #[]
  resolved := Array.replicate 11 none
  statics := none }

def pool7 : Array CpInfo := pool [(1, .class_ 2), (0, u "java/lang/constant/ConstantDesc"), (0, .class_ 4), (0, u "java/lang/Object")] 32

/-- java/lang/constant/ConstantDesc -/
def k7 : Class := { plain "java/lang/constant/ConstantDesc" (some 0) with
  accessFlags := 1537
  interfaces := #[]
  cf := some (fileOf pool7 1 #[] #[] 1537 3 #[] #[])
  fields := #[]
  methods := #[]
  instanceTypes := #[]
  staticTypes := #[]
  resolved := Array.replicate 37 none
  statics := none }

def pool8 : Array CpInfo := pool [(1, .methodref 2 3), (0, .class_ 4), (0, .nameAndType 5 6), (0, u "java/lang/Object"), (0, u "<init>"), (0, u "()V"), (0, .string 8), (0, u ""), (0, .fieldref 10 11), (0, .class_ 12), (0, .nameAndType 13 14), (0, u "java/lang/String"), (0, u "value"), (0, u "[B"), (0, .fieldref 10 16), (0, .nameAndType 17 18), (0, u "coder"), (0, u "B"), (2, u "hash"), (0, u "I"), (2, u "hashIsZero"), (0, u "Z"), (0, .methodref 10 28), (0, .nameAndType 5 29), (0, u "([CIILjava/lang/Void;)V"), (8, .fieldref 10 39), (0, .nameAndType 40 26), (0, u "COMPACT_STRINGS"), (1, .class_ 44), (1, u "java/lang/StringUTF16"), (0, u "compress"), (1, .methodref 42 48), (0, .nameAndType 49 50), (0, u "coderFromArrayLen"), (0, u "([BI)B"), (56, .class_ 109), (1, u "java/lang/StringLatin1"), (32, u "()Z"), (34, .methodref 42 178), (0, .nameAndType 45 179), (0, u "([CII)[B"), (154, u "()I"), (0, .methodref 10 336), (0, .nameAndType 17 337), (0, u "()B"), (25, u "([BI)C"), (27, u "(II)V"), (35, u "(I)C"), (64, .methodref 10 493), (0, .nameAndType 494 142), (0, u "isLatin1"), (0, .methodref 107 496), (0, .nameAndType 497 363), (0, u "charAt"), (3, u "checkIndex"), (5, u "length"), (67, .class_ 576), (0, u "java/lang/CharSequence"), (22, u "CASE_INSENSITIVE_ORDER"), (0, u "Ljava/util/Comparator;"), (409, u "([C)V"), (42, .fieldref 1054 1055), (0, .class_ 1056), (0, .nameAndType 1057 1058), (0, u "jdk/internal/util/Preconditions"), (0, u "SIOOBE_FORMATTER"), (0, u "Ljava/util/function/BiFunction;"), (0, .methodref 1054 1060), (0, .nameAndType 501 1061), (0, u "(IILjava/util/function/BiFunction;)I"), (39, u "serialPersistentFields"), (0, u "[Ljava/io/ObjectStreamField;"), (0, .class_ 1104), (0, u "java/lang/String$CaseInsensitiveComparator"), (1, .class_ 1107), (0, u "java/io/Serializable"), (0, .class_ 1109), (0, u "java/lang/Comparable"), (0, .class_ 1111), (0, u "java/lang/constant/Constable"), (0, .class_ 1113), (0, u "java/lang/constant/ConstantDesc"), (2, u "serialVersionUID"), (0, u "J"), (3, u "REPL"), (0, u "C"), (2, u "LATIN1"), (1, u "UTF16")] 323

def k8m0 : Method := { name := "<init>", desc := "()V", sig := { parameters := [], returnType := none }, accessFlags := 1, code := none }
def k8c1 : Code := { maxStack := 5, maxLocals := 2, code := jdk_42_method_3_code, exceptionTable := #[], attributes := #[] }
def k8m1 : Method := { name := "<init>", desc := "([C)V", sig := { parameters := [(.array .char)], returnType := none }, accessFlags := 1, code := some k8c1 }
def k8c2 : Code := { maxStack := 2, maxLocals := 1, code := jdk_42_method_54_code, exceptionTable := #[], attributes := #[] }
def k8m2 : Method := { name := "length", desc := "()I", sig := { parameters := [], returnType := some .int }, accessFlags := 1, code := some k8c2 }
def k8c3 : Code := { maxStack := 2, maxLocals := 2, code := jdk_42_method_56_code, exceptionTable := #[], attributes := #[] }
def k8m3 : Method := { name := "charAt", desc := "(I)C", sig := { parameters := [.int], returnType := some .char }, accessFlags := 1, code := some k8c3 }
def k8c4 : Code := { maxStack := 4, maxLocals := 6, code := jdk_42_method_149_code, exceptionTable := #[], attributes := #[] }
def k8m4 : Method := { name := "<init>", desc := "([CIILjava/lang/Void;)V", sig := { parameters := [(.array .char), .int, .int, (.object "java/lang/Void")], returnType := none }, accessFlags := 2, code := some k8c4 }
def k8c5 : Code := { maxStack := 1, maxLocals := 1, code := jdk_42_method_152_code, exceptionTable := #[], attributes := #[] }
def k8m5 : Method := { name := "coder", desc := "()B", sig := { parameters := [], returnType := some .byte }, accessFlags := 0, code := some k8c5 }
def k8c6 : Code := { maxStack := 1, maxLocals := 1, code := jdk_42_method_154_code, exceptionTable := #[], attributes := #[] }
def k8m6 : Method := { name := "isLatin1", desc := "()Z", sig := { parameters := [], returnType := some .boolean }, accessFlags := 0, code := some k8c6 }
def k8c7 : Code := { maxStack := 3, maxLocals := 2, code := jdk_42_method_155_code, exceptionTable := #[], attributes := #[] }
def k8m7 : Method := { name := "checkIndex", desc := "(II)V", sig := { parameters := [.int, .int], returnType := none }, accessFlags := 8, code := some k8c7 }
/-- java/lang/String -/
def k8 : Class := { plain "java/lang/String" (some 0) with
  accessFlags := 49
  interfaces := #[3, 4, 5, 6, 7]
  cf := some (fileOf pool8 10 #[.nestMembers #[1103]] #[{ accessFlags := 1, nameIndex := 5, descriptorIndex := 6, attributes := #[] }, { accessFlags := 1, nameIndex := 5, descriptorIndex := 1010, attributes := #[] }, { accessFlags := 1, nameIndex := 507, descriptorIndex := 334, attributes := #[] }, { accessFlags := 1, nameIndex := 497, descriptorIndex := 427, attributes := #[] }, { accessFlags := 2, nameIndex := 5, descriptorIndex := 29, attributes := #[] }, { accessFlags := 0, nameIndex := 17, descriptorIndex := 337, attributes := #[] }, { accessFlags := 0, nameIndex := 494, descriptorIndex := 142, attributes := #[] }, { accessFlags := 8, nameIndex := 501, descriptorIndex := 391, attributes := #[] }] 49 2 #[1106, 1108, 575, 1110, 1112] #[{ accessFlags := 18, nameIndex := 13, descriptorIndex := 14, attributes := #[] }, { accessFlags := 18, nameIndex := 17, descriptorIndex := 18, attributes := #[] }, { accessFlags := 2, nameIndex := 21, descriptorIndex := 22, attributes := #[] }, { accessFlags := 2, nameIndex := 25, descriptorIndex := 26, attributes := #[] }, { accessFlags := 26, nameIndex := 1116, descriptorIndex := 1117, attributes := #[] }, { accessFlags := 24, nameIndex := 40, descriptorIndex := 26, attributes := #[] }, { accessFlags := 26, nameIndex := 1101, descriptorIndex := 1102, attributes := #[] }, { accessFlags := 26, nameIndex := 1121, descriptorIndex := 1122, attributes := #[] }, { accessFlags := 25, nameIndex := 599, descriptorIndex := 600, attributes := #[] }, { accessFlags := 24, nameIndex := 1125, descriptorIndex := 18, attributes := #[] }, { accessFlags := 24, nameIndex := 1127, descriptorIndex := 18, attributes := #[] }])
  fields := #[{ name := "value", type := (.array .byte), accessFlags := 18, slot := 0, constantValue := 0 }, { name := "coder", type := .byte, accessFlags := 18, slot := 1, constantValue := 0 }, { name := "hash", type := .int, accessFlags := 2, slot := 2, constantValue := 0 }, { name := "hashIsZero", type := .boolean, accessFlags := 2, slot := 3, constantValue := 0 }, { name := "serialVersionUID", type := .long, accessFlags := 26, slot := 0, constantValue := 0 }, { name := "COMPACT_STRINGS", type := .boolean, accessFlags := 24, slot := 1, constantValue := 0 }, { name := "serialPersistentFields", type := (.array (.object "java/io/ObjectStreamField")), accessFlags := 26, slot := 2, constantValue := 0 }, { name := "REPL", type := .char, accessFlags := 26, slot := 3, constantValue := 0 }, { name := "CASE_INSENSITIVE_ORDER", type := (.object "java/util/Comparator"), accessFlags := 25, slot := 4, constantValue := 0 }, { name := "LATIN1", type := .byte, accessFlags := 24, slot := 5, constantValue := 0 }, { name := "UTF16", type := .byte, accessFlags := 24, slot := 6, constantValue := 0 }]
  methods := #[k8m0, k8m1, k8m2, k8m3, k8m4, k8m5, k8m6, k8m7]
  instanceTypes := #[(.array .byte), .byte, .int, .boolean]
  staticTypes := #[.long, .boolean, (.array (.object "java/io/ObjectStreamField")), .char, (.object "java/util/Comparator"), .byte, .byte]
  resolved := Array.replicate 1451 none
  statics := some 1 }

def pool9 : Array CpInfo := pool [(6, .class_ 8), (1, u "java/lang/Object"), (0, u "<init>"), (0, u "()V"), (1, .class_ 14), (1, u "java/lang/StringUTF16"), (31, u "$assertionsDisabled"), (0, u "Z"), (13, u "HI_BYTE_SHIFT"), (0, u "I"), (2, u "LO_BYTE_SHIFT"), (49, .methodref 12 116), (0, .nameAndType 117 118), (0, u "compress"), (0, u "([CI[BII)I"), (3, u "([CII)[B"), (138, u "coderFromArrayLen"), (0, u "([BI)B"), (106, .class_ 371), (1, u "java/lang/StringUTF16$LinesSpliterator"), (58, u "MAX_LENGTH"), (196, .class_ 628), (0, u "java/lang/StringUTF16$CodePointsSpliterator"), (0, .class_ 630), (0, u "java/lang/StringUTF16$CharsSpliterator")] 4

def k9m0 : Method := { name := "<init>", desc := "()V", sig := { parameters := [], returnType := none }, accessFlags := 0, code := none }
def k9c1 : Code := { maxStack := 2, maxLocals := 2, code := jdk_52_method_15_code, exceptionTable := #[], attributes := #[] }
def k9m1 : Method := { name := "coderFromArrayLen", desc := "([BI)B", sig := { parameters := [(.array .byte), .int], returnType := some .byte }, accessFlags := 8, code := some k9c1 }
def k9c2 : Code := { maxStack := 5, maxLocals := 6, code := jdk_52_method_16_code, exceptionTable := #[], attributes := #[] }
def k9m2 : Method := { name := "compress", desc := "([CII)[B", sig := { parameters := [(.array .char), .int, .int], returnType := some (.array .byte) }, accessFlags := 9, code := some k9c2 }
def k9c3 : Code := { maxStack := 3, maxLocals := 7, code := jdk_52_method_21_code, exceptionTable := #[], attributes := #[] }
def k9m3 : Method := { name := "compress", desc := "([CI[BII)I", sig := { parameters := [(.array .char), .int, (.array .byte), .int, .int], returnType := some .int }, accessFlags := 9, code := some k9c3 }
/-- java/lang/StringUTF16 -/
def k9 : Class := { plain "java/lang/StringUTF16" (some 0) with
  accessFlags := 48
  interfaces := #[]
  cf := some (fileOf pool9 12 #[.nestMembers #[627, 629, 369]] #[{ accessFlags := 0, nameIndex := 9, descriptorIndex := 10, attributes := #[] }, { accessFlags := 8, nameIndex := 261, descriptorIndex := 262, attributes := #[] }, { accessFlags := 9, nameIndex := 117, descriptorIndex := 122, attributes := #[] }, { accessFlags := 9, nameIndex := 117, descriptorIndex := 118, attributes := #[] }] 48 6 #[] #[{ accessFlags := 26, nameIndex := 61, descriptorIndex := 62, attributes := #[] }, { accessFlags := 26, nameIndex := 65, descriptorIndex := 62, attributes := #[] }, { accessFlags := 24, nameIndex := 430, descriptorIndex := 62, attributes := #[] }, { accessFlags := 4120, nameIndex := 46, descriptorIndex := 47, attributes := #[] }])
  fields := #[{ name := "HI_BYTE_SHIFT", type := .int, accessFlags := 26, slot := 0, constantValue := 0 }, { name := "LO_BYTE_SHIFT", type := .int, accessFlags := 26, slot := 1, constantValue := 0 }, { name := "MAX_LENGTH", type := .int, accessFlags := 24, slot := 2, constantValue := 0 }, { name := "$assertionsDisabled", type := .boolean, accessFlags := 4120, slot := 3, constantValue := 0 }]
  methods := #[k9m0, k9m1, k9m2, k9m3]
  instanceTypes := #[]
  staticTypes := #[.int, .int, .int, .boolean]
  resolved := Array.replicate 635 none
  statics := none }

def pool10 : Array CpInfo := pool [(1, .class_ 2), (0, u "java/lang/String"), (1, .class_ 6), (1, u "java/lang/Object"), (0, u "<init>"), (0, u "()V"), (0, .methodref 1 10), (0, .nameAndType 11 12), (0, u "checkIndex"), (0, u "(II)V"), (1, .class_ 16), (1, u "java/lang/StringLatin1"), (36, u "([BI)C"), (67, u "$assertionsDisabled"), (0, u "Z"), (98, .class_ 223), (1, u "java/lang/StringLatin1$LinesSpliterator"), (28, u "charAt"), (137, .class_ 391), (0, u "java/lang/StringLatin1$CharsSpliterator")] 3

def k10m0 : Method := { name := "<init>", desc := "()V", sig := { parameters := [], returnType := none }, accessFlags := 0, code := none }
def k10c1 : Code := { maxStack := 2, maxLocals := 2, code := jdk_43_method_2_code, exceptionTable := #[], attributes := #[] }
def k10m1 : Method := { name := "charAt", desc := "([BI)C", sig := { parameters := [(.array .byte), .int], returnType := some .char }, accessFlags := 9, code := some k10c1 }
/-- java/lang/StringLatin1 -/
def k10 : Class := { plain "java/lang/StringLatin1" (some 0) with
  accessFlags := 48
  interfaces := #[]
  cf := some (fileOf pool10 14 #[.nestMembers #[390, 221]] #[{ accessFlags := 0, nameIndex := 7, descriptorIndex := 8, attributes := #[] }, { accessFlags := 9, nameIndex := 252, descriptorIndex := 53, attributes := #[] }] 48 4 #[] #[{ accessFlags := 4120, nameIndex := 121, descriptorIndex := 122, attributes := #[] }])
  fields := #[{ name := "$assertionsDisabled", type := .boolean, accessFlags := 4120, slot := 0, constantValue := 0 }]
  methods := #[k10m0, k10m1]
  instanceTypes := #[]
  staticTypes := #[.boolean]
  resolved := Array.replicate 395 none
  statics := none }

def pool11 : Array CpInfo := pool [(2, .class_ 4), (1, u "java/lang/Object"), (0, u "<init>"), (0, u "()V"), (17, .class_ 26), (1, u "jdk/internal/util/Preconditions"), (6, u "checkIndex"), (21, .class_ 56), (0, u "jdk/internal/util/Preconditions$4"), (57, .class_ 115), (0, u "jdk/internal/util/Preconditions$1"), (7, u "SIOOBE_FORMATTER"), (0, u "Ljava/util/function/BiFunction;"), (0, .class_ 126), (0, u "jdk/internal/util/Preconditions$2"), (3, u "AIOOBE_FORMATTER"), (0, .class_ 132), (0, u "jdk/internal/util/Preconditions$3"), (3, u "IOOBE_FORMATTER"), (41, u "(IILjava/util/function/BiFunction;)I")] 15

def k11m0 : Method := { name := "<init>", desc := "()V", sig := { parameters := [], returnType := none }, accessFlags := 1, code := none }
def k11c1 : Code := { maxStack := 3, maxLocals := 3, code := jdk_41_method_11_code, exceptionTable := #[], attributes := #[] }
def k11m1 : Method := { name := "checkIndex", desc := "(IILjava/util/function/BiFunction;)I", sig := { parameters := [.int, .int, (.object "java/util/function/BiFunction")], returnType := some .int }, accessFlags := 9, code := some k11c1 }
/-- jdk/internal/util/Preconditions -/
def k11 : Class := { plain "jdk/internal/util/Preconditions" (some 0) with
  accessFlags := 33
  interfaces := #[]
  cf := some (fileOf pool11 24 #[.nestMembers #[55, 131, 125, 114]] #[{ accessFlags := 1, nameIndex := 5, descriptorIndex := 6, attributes := #[] }, { accessFlags := 9, nameIndex := 33, descriptorIndex := 178, attributes := #[] }] 33 2 #[] #[{ accessFlags := 25, nameIndex := 123, descriptorIndex := 124, attributes := #[] }, { accessFlags := 25, nameIndex := 130, descriptorIndex := 124, attributes := #[] }, { accessFlags := 25, nameIndex := 136, descriptorIndex := 124, attributes := #[] }])
  fields := #[{ name := "SIOOBE_FORMATTER", type := (.object "java/util/function/BiFunction"), accessFlags := 25, slot := 0, constantValue := 0 }, { name := "AIOOBE_FORMATTER", type := (.object "java/util/function/BiFunction"), accessFlags := 25, slot := 1, constantValue := 0 }, { name := "IOOBE_FORMATTER", type := (.object "java/util/function/BiFunction"), accessFlags := 25, slot := 2, constantValue := 0 }]
  methods := #[k11m0, k11m1]
  instanceTypes := #[]
  staticTypes := #[(.object "java/util/function/BiFunction"), (.object "java/util/function/BiFunction"), (.object "java/util/function/BiFunction")]
  resolved := Array.replicate 194 none
  statics := some 2 }

def pool12 : Array CpInfo := pool [(9, u "<init>"), (6, .class_ 18), (1, u "java/lang/Object"), (0, u "()V"), (1, .class_ 23), (1, u "jdk/internal/util/ArraysSupport"), (0, u "LOG2_ARRAY_LONG_INDEX_SCALE"), (0, u "I"), (2, u "U"), (0, u "Ljdk/internal/misc/Unsafe;"), (8, u "BIG_ENDIAN"), (0, u "Z"), (8, u "LOG2_BYTE_BIT_SIZE"), (4, u "LOG2_ARRAY_INT_INDEX_SCALE"), (54, u "JLA"), (0, u "Ljdk/internal/access/JavaLangAccess;"), (11, u "LOG2_ARRAY_BOOLEAN_INDEX_SCALE"), (9, u "LOG2_ARRAY_BYTE_INDEX_SCALE"), (5, u "LOG2_ARRAY_CHAR_INDEX_SCALE"), (5, u "LOG2_ARRAY_SHORT_INDEX_SCALE"), (18, u "LOG2_ARRAY_FLOAT_INDEX_SCALE"), (24, u "LOG2_ARRAY_DOUBLE_INDEX_SCALE"), (89, u "T_BOOLEAN"), (2, u "T_CHAR"), (1, u "T_FLOAT"), (1, u "T_DOUBLE"), (1, u "T_BYTE"), (1, u "T_SHORT"), (1, u "T_INT"), (1, u "T_LONG"), (1, u "SOFT_MAX_ARRAY_LENGTH")] 83

def k12m0 : Method := { name := "<init>", desc := "()V", sig := { parameters := [], returnType := none }, accessFlags := 2, code := none }
/-- jdk/internal/util/ArraysSupport -/
def k12 : Class := { plain "jdk/internal/util/ArraysSupport" (some 0) with
  accessFlags := 33
  interfaces := #[]
  cf := some (fileOf pool12 21 #[] #[{ accessFlags := 2, nameIndex := 9, descriptorIndex := 19, attributes := #[] }] 33 16 #[] #[{ accessFlags := 24, nameIndex := 28, descriptorIndex := 29, attributes := #[] }, { accessFlags := 26, nameIndex := 38, descriptorIndex := 39, attributes := #[] }, { accessFlags := 25, nameIndex := 121, descriptorIndex := 25, attributes := #[] }, { accessFlags := 25, nameIndex := 131, descriptorIndex := 25, attributes := #[] }, { accessFlags := 25, nameIndex := 137, descriptorIndex := 25, attributes := #[] }, { accessFlags := 25, nameIndex := 143, descriptorIndex := 25, attributes := #[] }, { accessFlags := 25, nameIndex := 53, descriptorIndex := 25, attributes := #[] }, { accessFlags := 25, nameIndex := 24, descriptorIndex := 25, attributes := #[] }, { accessFlags := 25, nameIndex := 162, descriptorIndex := 25, attributes := #[] }, { accessFlags := 25, nameIndex := 187, descriptorIndex := 25, attributes := #[] }, { accessFlags := 26, nameIndex := 48, descriptorIndex := 25, attributes := #[] }, { accessFlags := 25, nameIndex := 277, descriptorIndex := 25, attributes := #[] }, { accessFlags := 25, nameIndex := 280, descriptorIndex := 25, attributes := #[] }, { accessFlags := 25, nameIndex := 282, descriptorIndex := 25, attributes := #[] }, { accessFlags := 25, nameIndex := 284, descriptorIndex := 25, attributes := #[] }, { accessFlags := 25, nameIndex := 286, descriptorIndex := 25, attributes := #[] }, { accessFlags := 25, nameIndex := 288, descriptorIndex := 25, attributes := #[] }, { accessFlags := 25, nameIndex := 290, descriptorIndex := 25, attributes := #[] }, { accessFlags := 25, nameIndex := 292, descriptorIndex := 25, attributes := #[] }, { accessFlags := 26, nameIndex := 108, descriptorIndex := 109, attributes := #[] }, { accessFlags := 25, nameIndex := 294, descriptorIndex := 25, attributes := #[] }])
  fields := #[{ name := "U", type := (.object "jdk/internal/misc/Unsafe"), accessFlags := 24, slot := 0, constantValue := 0 }, { name := "BIG_ENDIAN", type := .boolean, accessFlags := 26, slot := 1, constantValue := 0 }, { name := "LOG2_ARRAY_BOOLEAN_INDEX_SCALE", type := .int, accessFlags := 25, slot := 2, constantValue := 0 }, { name := "LOG2_ARRAY_BYTE_INDEX_SCALE", type := .int, accessFlags := 25, slot := 3, constantValue := 0 }, { name := "LOG2_ARRAY_CHAR_INDEX_SCALE", type := .int, accessFlags := 25, slot := 4, constantValue := 0 }, { name := "LOG2_ARRAY_SHORT_INDEX_SCALE", type := .int, accessFlags := 25, slot := 5, constantValue := 0 }, { name := "LOG2_ARRAY_INT_INDEX_SCALE", type := .int, accessFlags := 25, slot := 6, constantValue := 0 }, { name := "LOG2_ARRAY_LONG_INDEX_SCALE", type := .int, accessFlags := 25, slot := 7, constantValue := 0 }, { name := "LOG2_ARRAY_FLOAT_INDEX_SCALE", type := .int, accessFlags := 25, slot := 8, constantValue := 0 }, { name := "LOG2_ARRAY_DOUBLE_INDEX_SCALE", type := .int, accessFlags := 25, slot := 9, constantValue := 0 }, { name := "LOG2_BYTE_BIT_SIZE", type := .int, accessFlags := 26, slot := 10, constantValue := 0 }, { name := "T_BOOLEAN", type := .int, accessFlags := 25, slot := 11, constantValue := 0 }, { name := "T_CHAR", type := .int, accessFlags := 25, slot := 12, constantValue := 0 }, { name := "T_FLOAT", type := .int, accessFlags := 25, slot := 13, constantValue := 0 }, { name := "T_DOUBLE", type := .int, accessFlags := 25, slot := 14, constantValue := 0 }, { name := "T_BYTE", type := .int, accessFlags := 25, slot := 15, constantValue := 0 }, { name := "T_SHORT", type := .int, accessFlags := 25, slot := 16, constantValue := 0 }, { name := "T_INT", type := .int, accessFlags := 25, slot := 17, constantValue := 0 }, { name := "T_LONG", type := .int, accessFlags := 25, slot := 18, constantValue := 0 }, { name := "JLA", type := (.object "jdk/internal/access/JavaLangAccess"), accessFlags := 26, slot := 19, constantValue := 0 }, { name := "SOFT_MAX_ARRAY_LENGTH", type := .int, accessFlags := 25, slot := 20, constantValue := 0 }]
  methods := #[k12m0]
  instanceTypes := #[]
  staticTypes := #[(.object "jdk/internal/misc/Unsafe"), .boolean, .int, .int, .int, .int, .int, .int, .int, .int, .int, .int, .int, .int, .int, .int, .int, .int, .int, (.object "jdk/internal/access/JavaLangAccess"), .int]
  resolved := Array.replicate 378 none
  statics := none }

def pool13 : Array CpInfo := pool [(1, u "java/lang/Cloneable"), (0, .class_ 1), (0, u "java/lang/Object"), (0, .class_ 3)] 3

/-- java/lang/Cloneable -/
def k13 : Class := { plain "java/lang/Cloneable" (some 0) with
  accessFlags := 1537
  interfaces := #[]
  cf := some (fileOf pool13 2 #[] #[] 1537 4 #[] #[])
  fields := #[]
  methods := #[]
  instanceTypes := #[]
  staticTypes := #[]
  resolved := Array.replicate 8 none
  statics := none }

/-- the primitive byte -/
def k14 : Class := { plain "byte" none with kind := .primitive 'B', accessFlags := 0x411 }
/-- [B -/
def k15 : Class := { plain "[B" (some 0) with kind := .array 14 .byte, interfaces := #[13, 3], accessFlags := 1041 }

/-- the primitive char -/
def k16 : Class := { plain "char" none with kind := .primitive 'C', accessFlags := 0x411 }
/-- [C -/
def k17 : Class := { plain "[C" (some 0) with kind := .array 16 .char, interfaces := #[13, 3], accessFlags := 1041 }

/-- the primitive int -/
def k18 : Class := { plain "int" none with kind := .primitive 'I', accessFlags := 0x411 }
/-- [I -/
def k19 : Class := { plain "[I" (some 0) with kind := .array 18 .int, interfaces := #[13, 3], accessFlags := 1041 }

def heap : Heap := #[{ cls := 2, slots := #[.ref 3], vm := .statics 2 },
  { cls := 8, slots := #[.long 0, .int 1, .null, .int 0, .null, .int 0, .int 0], vm := .statics 8 },
  { cls := 11, slots := #[.null, .null, .null], vm := .statics 11 },
  { cls := 17, slots := #[.int 48, .int 49, .int 50, .int 51, .int 52, .int 53, .int 54, .int 55, .int 56, .int 57, .int 97, .int 98, .int 99, .int 100, .int 101, .int 102], vm := .none }]
def classes : Array Class := #[k0, k1, k2, k3, k4, k5, k6, k7, k8, k9, k10, k11, k12, k13, k14, k15, k16, k17, k18, k19]
def interned : List (Array UInt16 × Addr) := []
def slotsUsed : Nat := 27
def theMethod : MethodId := ⟨1, 3⟩
def args0 : Array Value := #[.int 65, .int 3, .int 3, .int 3]
def aboutOver (below : List Frame) : State where
  vm := { classes := classes, interned := interned.toArray }
  heap := heap
  slotsUsed := slotsUsed
  threads := #[{ frames := .invoking theMethod args0 :: below }]
def below0 : List Frame := [.native { method := ⟨0, 0⟩, args := #[] }]
def about1 : State := aboutOver below0
def p0 : Program := .bare "" "" ""
def e0 : Env := launch0.env 0 0 0
theorem w_frames : about1.frames = Frame.invoking theMethod args0 :: below0 := rfl
set_option maxRecDepth 65536 in
theorem w_args : argsFit about1.vm theMethod args0 = true := by decide +kernel
set_option maxRecDepth 65536 in
theorem w_heap : heapFits about1 = true := by decide +kernel
set_option maxRecDepth 65536 in
theorem w_runnable : about1.curStatus? = some .runnable := by decide +kernel
set_option maxRecDepth 65536 in
theorem w_alone : about1.alone = true := by decide +kernel
set_option maxRecDepth 65536 in
theorem w_named : about1.methodNamed? x = some theMethod := by decide +kernel
set_option maxRecDepth 65536 in
theorem w_hears : about1.hears theMethod below0 = true := by decide +kernel
set_option maxRecDepth 65536 in
theorem w_ripe : about1.ripe theMethod args0 below0 = true := by decide +kernel
theorem w_running : about1.status = .running := rfl
set_option maxRecDepth 65536 in
theorem w_room : about1.hasRoom e0.platform room_1 = true :=
  launch0.hasRoom_least _ room_1 (by decide +kernel) (by decide +kernel) (by decide +kernel) (by decide +kernel) (by decide +kernel) (by decide +kernel)
theorem allAtoms_all (ts : List Jvm.Cond) (a : Array Jvm.Value) (st : Jvm.State) : (allAtoms ts).before a st = ts.all (fun c => c.before a st) := by
  induction ts with
  | nil => rfl
  | cons c t ih =>
    show (Jvm.Cond.and c (allAtoms t)).before a st = _
    rw [Jvm.Cond.before_and, ih, List.all_cons]
def words1 : List Jvm.Cond := Jvm.Cond.code x code maxLocals ret :: tables_1
/-- a 'code' word, met by the world's own term for the bytes: nothing is compared byte by byte -/
theorem code_word {y : MethodName} {bytes : ByteArray} {mx : Nat} {rt : Option FieldType} {a : Array Value} {s : State} {m : MethodId} {meth : Method} {c : Code} (h1 : s.methodNamed? y = some m) (h2 : s.vm.method? m = some meth) (h3 : meth.code = some c) (h4 : c.code = bytes)
    (h5 : (c.maxLocals == mx && c.exceptionTable.isEmpty && decide (c.maxStack ≤ mostOperands) && decide (meth.sig.returnType = rt) && !meth.locks && decide (parseMethodDescriptor y.desc = some meth.sig)) = true) : (Jvm.Cond.code y bytes mx rt).before a s = true := by
  simp only [Bool.and_eq_true, beq_iff_eq, Bool.not_eq_true', decide_eq_true_eq] at h5
  obtain ⟨⟨⟨⟨⟨g1, g2⟩, g3⟩, g4⟩, g5⟩, g6⟩ := h5
  simp [Cond.before, Cond.holds, Cond.value, h1, h2, h3, h4, g1, g2, g3, g4, g5, g6]
def isCode : Jvm.Cond → Bool
  | .code _ _ _ _ => true
  | _ => false
theorem all_split {L : List Jvm.Cond} {P : Jvm.Cond → Bool} (h1 : L.all (fun c => isCode c || P c) = true) (h2 : ∀ c ∈ L.filter isCode, P c = true) : L.all P = true := by
  refine List.all_eq_true.mpr fun c hc => ?_
  have h := List.all_eq_true.mp h1 c hc
  rcases Bool.eq_false_or_eq_true (isCode c) with hi | hi
  · exact h2 c (List.mem_filter.mpr ⟨hc, hi⟩)
  · simpa [hi] using h
set_option maxRecDepth 65536 in
theorem w_c0 : (Jvm.Cond.code x code maxLocals ret).before args0 about1 = true := code_word (m := ⟨1, 3⟩) (meth := k1m3) (c := k1c3) (by decide +kernel) rfl rfl rfl (by decide +kernel)
set_option maxRecDepth 65536 in
theorem w_c1 : (Jvm.Cond.code ({ cls := "com/example/fixwire/fixwire/Hex", name := "encode", desc := "([B)Ljava/lang/String;" } : Jvm.MethodName) prog_14_method_3_code (3 : Nat) (Option.some (Jvm.ClassFile.FieldType.object "java/lang/String"))).before args0 about1 = true := code_word (m := ⟨2, 1⟩) (meth := k2m1) (c := k2c1) (by decide +kernel) rfl rfl rfl (by decide +kernel)
set_option maxRecDepth 65536 in
theorem w_c2 : (Jvm.Cond.code ({ cls := "java/lang/String", name := "<init>", desc := "([C)V" } : Jvm.MethodName) jdk_42_method_3_code (2 : Nat) (Option.none : Option Jvm.ClassFile.FieldType)).before args0 about1 = true := code_word (m := ⟨8, 1⟩) (meth := k8m1) (c := k8c1) (by decide +kernel) rfl rfl rfl (by decide +kernel)
set_option maxRecDepth 65536 in
theorem w_c3 : (Jvm.Cond.code ({ cls := "java/lang/String", name := "<init>", desc := "([CIILjava/lang/Void;)V" } : Jvm.MethodName) jdk_42_method_149_code (6 : Nat) (Option.none : Option Jvm.ClassFile.FieldType)).before args0 about1 = true := code_word (m := ⟨8, 4⟩) (meth := k8m4) (c := k8c4) (by decide +kernel) rfl rfl rfl (by decide +kernel)
set_option maxRecDepth 65536 in
theorem w_c4 : (Jvm.Cond.code ({ cls := "java/lang/Object", name := "<init>", desc := "()V" } : Jvm.MethodName) object_method_1_code (1 : Nat) (Option.none : Option Jvm.ClassFile.FieldType)).before args0 about1 = true := code_word (m := ⟨0, 0⟩) (meth := k0m0) (c := k0c0) (by decide +kernel) rfl rfl rfl (by decide +kernel)
set_option maxRecDepth 65536 in
theorem w_c5 : (Jvm.Cond.code ({ cls := "java/lang/StringUTF16", name := "compress", desc := "([CII)[B" } : Jvm.MethodName) jdk_52_method_16_code (6 : Nat) (Option.some (Jvm.ClassFile.FieldType.array Jvm.ClassFile.FieldType.byte))).before args0 about1 = true := code_word (m := ⟨9, 2⟩) (meth := k9m2) (c := k9c2) (by decide +kernel) rfl rfl rfl (by decide +kernel)
set_option maxRecDepth 65536 in
theorem w_c6 : (Jvm.Cond.code ({ cls := "java/lang/StringUTF16", name := "compress", desc := "([CI[BII)I" } : Jvm.MethodName) jdk_52_method_21_code (7 : Nat) (Option.some Jvm.ClassFile.FieldType.int)).before args0 about1 = true := code_word (m := ⟨9, 3⟩) (meth := k9m3) (c := k9c3) (by decide +kernel) rfl rfl rfl (by decide +kernel)
set_option maxRecDepth 65536 in
theorem w_c7 : (Jvm.Cond.code ({ cls := "java/lang/StringUTF16", name := "coderFromArrayLen", desc := "([BI)B" } : Jvm.MethodName) jdk_52_method_15_code (2 : Nat) (Option.some Jvm.ClassFile.FieldType.byte)).before args0 about1 = true := code_word (m := ⟨9, 1⟩) (meth := k9m1) (c := k9c1) (by decide +kernel) rfl rfl rfl (by decide +kernel)
set_option maxRecDepth 65536 in
theorem w_c8 : (Jvm.Cond.code ({ cls := "java/lang/String", name := "length", desc := "()I" } : Jvm.MethodName) jdk_42_method_54_code (1 : Nat) (Option.some Jvm.ClassFile.FieldType.int)).before args0 about1 = true := code_word (m := ⟨8, 2⟩) (meth := k8m2) (c := k8c2) (by decide +kernel) rfl rfl rfl (by decide +kernel)
set_option maxRecDepth 65536 in
theorem w_c9 : (Jvm.Cond.code ({ cls := "java/lang/String", name := "coder", desc := "()B" } : Jvm.MethodName) jdk_42_method_152_code (1 : Nat) (Option.some Jvm.ClassFile.FieldType.byte)).before args0 about1 = true := code_word (m := ⟨8, 5⟩) (meth := k8m5) (c := k8c5) (by decide +kernel) rfl rfl rfl (by decide +kernel)
set_option maxRecDepth 65536 in
theorem w_c10 : (Jvm.Cond.code ({ cls := "com/example/fixwire/fixwire/HexEncodePinLaw", name := "pair", desc := "(Ljava/lang/String;II)Z" } : Jvm.MethodName) method_3_code (4 : Nat) (Option.some Jvm.ClassFile.FieldType.boolean)).before args0 about1 = true := code_word (m := ⟨1, 2⟩) (meth := k1m2) (c := k1c2) (by decide +kernel) rfl rfl rfl (by decide +kernel)
set_option maxRecDepth 65536 in
theorem w_c11 : (Jvm.Cond.code ({ cls := "java/lang/String", name := "charAt", desc := "(I)C" } : Jvm.MethodName) jdk_42_method_56_code (2 : Nat) (Option.some Jvm.ClassFile.FieldType.char)).before args0 about1 = true := code_word (m := ⟨8, 3⟩) (meth := k8m3) (c := k8c3) (by decide +kernel) rfl rfl rfl (by decide +kernel)
set_option maxRecDepth 65536 in
theorem w_c12 : (Jvm.Cond.code ({ cls := "java/lang/String", name := "isLatin1", desc := "()Z" } : Jvm.MethodName) jdk_42_method_154_code (1 : Nat) (Option.some Jvm.ClassFile.FieldType.boolean)).before args0 about1 = true := code_word (m := ⟨8, 6⟩) (meth := k8m6) (c := k8c6) (by decide +kernel) rfl rfl rfl (by decide +kernel)
set_option maxRecDepth 65536 in
theorem w_c13 : (Jvm.Cond.code ({ cls := "java/lang/StringLatin1", name := "charAt", desc := "([BI)C" } : Jvm.MethodName) jdk_43_method_2_code (2 : Nat) (Option.some Jvm.ClassFile.FieldType.char)).before args0 about1 = true := code_word (m := ⟨10, 1⟩) (meth := k10m1) (c := k10c1) (by decide +kernel) rfl rfl rfl (by decide +kernel)
set_option maxRecDepth 65536 in
theorem w_c14 : (Jvm.Cond.code ({ cls := "java/lang/String", name := "checkIndex", desc := "(II)V" } : Jvm.MethodName) jdk_42_method_155_code (2 : Nat) (Option.none : Option Jvm.ClassFile.FieldType)).before args0 about1 = true := code_word (m := ⟨8, 7⟩) (meth := k8m7) (c := k8c7) (by decide +kernel) rfl rfl rfl (by decide +kernel)
set_option maxRecDepth 65536 in
theorem w_c15 : (Jvm.Cond.code ({ cls := "jdk/internal/util/Preconditions", name := "checkIndex", desc := "(IILjava/util/function/BiFunction;)I" } : Jvm.MethodName) jdk_41_method_11_code (3 : Nat) (Option.some Jvm.ClassFile.FieldType.int)).before args0 about1 = true := code_word (m := ⟨11, 1⟩) (meth := k11m1) (c := k11c1) (by decide +kernel) rfl rfl rfl (by decide +kernel)
set_option maxRecDepth 65536 in
theorem w_c16 : (Jvm.Cond.code ({ cls := "com/example/fixwire/fixwire/HexEncodePinLaw", name := "hexChar", desc := "(I)C" } : Jvm.MethodName) method_2_code (1 : Nat) (Option.some Jvm.ClassFile.FieldType.char)).before args0 about1 = true := code_word (m := ⟨1, 1⟩) (meth := k1m1) (c := k1c1) (by decide +kernel) rfl rfl rfl (by decide +kernel)
def codes1 : List Jvm.Cond := [Jvm.Cond.code x code maxLocals ret, Jvm.Cond.code ({ cls := "com/example/fixwire/fixwire/Hex", name := "encode", desc := "([B)Ljava/lang/String;" } : Jvm.MethodName) prog_14_method_3_code (3 : Nat) (Option.some (Jvm.ClassFile.FieldType.object "java/lang/String")), Jvm.Cond.code ({ cls := "java/lang/String", name := "<init>", desc := "([C)V" } : Jvm.MethodName) jdk_42_method_3_code (2 : Nat) (Option.none : Option Jvm.ClassFile.FieldType), Jvm.Cond.code ({ cls := "java/lang/String", name := "<init>", desc := "([CIILjava/lang/Void;)V" } : Jvm.MethodName) jdk_42_method_149_code (6 : Nat) (Option.none : Option Jvm.ClassFile.FieldType), Jvm.Cond.code ({ cls := "java/lang/Object", name := "<init>", desc := "()V" } : Jvm.MethodName) object_method_1_code (1 : Nat) (Option.none : Option Jvm.ClassFile.FieldType), Jvm.Cond.code ({ cls := "java/lang/StringUTF16", name := "compress", desc := "([CII)[B" } : Jvm.MethodName) jdk_52_method_16_code (6 : Nat) (Option.some (Jvm.ClassFile.FieldType.array Jvm.ClassFile.FieldType.byte)), Jvm.Cond.code ({ cls := "java/lang/StringUTF16", name := "compress", desc := "([CI[BII)I" } : Jvm.MethodName) jdk_52_method_21_code (7 : Nat) (Option.some Jvm.ClassFile.FieldType.int), Jvm.Cond.code ({ cls := "java/lang/StringUTF16", name := "coderFromArrayLen", desc := "([BI)B" } : Jvm.MethodName) jdk_52_method_15_code (2 : Nat) (Option.some Jvm.ClassFile.FieldType.byte), Jvm.Cond.code ({ cls := "java/lang/String", name := "length", desc := "()I" } : Jvm.MethodName) jdk_42_method_54_code (1 : Nat) (Option.some Jvm.ClassFile.FieldType.int), Jvm.Cond.code ({ cls := "java/lang/String", name := "coder", desc := "()B" } : Jvm.MethodName) jdk_42_method_152_code (1 : Nat) (Option.some Jvm.ClassFile.FieldType.byte), Jvm.Cond.code ({ cls := "com/example/fixwire/fixwire/HexEncodePinLaw", name := "pair", desc := "(Ljava/lang/String;II)Z" } : Jvm.MethodName) method_3_code (4 : Nat) (Option.some Jvm.ClassFile.FieldType.boolean), Jvm.Cond.code ({ cls := "java/lang/String", name := "charAt", desc := "(I)C" } : Jvm.MethodName) jdk_42_method_56_code (2 : Nat) (Option.some Jvm.ClassFile.FieldType.char), Jvm.Cond.code ({ cls := "java/lang/String", name := "isLatin1", desc := "()Z" } : Jvm.MethodName) jdk_42_method_154_code (1 : Nat) (Option.some Jvm.ClassFile.FieldType.boolean), Jvm.Cond.code ({ cls := "java/lang/StringLatin1", name := "charAt", desc := "([BI)C" } : Jvm.MethodName) jdk_43_method_2_code (2 : Nat) (Option.some Jvm.ClassFile.FieldType.char), Jvm.Cond.code ({ cls := "java/lang/String", name := "checkIndex", desc := "(II)V" } : Jvm.MethodName) jdk_42_method_155_code (2 : Nat) (Option.none : Option Jvm.ClassFile.FieldType), Jvm.Cond.code ({ cls := "jdk/internal/util/Preconditions", name := "checkIndex", desc := "(IILjava/util/function/BiFunction;)I" } : Jvm.MethodName) jdk_41_method_11_code (3 : Nat) (Option.some Jvm.ClassFile.FieldType.int), Jvm.Cond.code ({ cls := "com/example/fixwire/fixwire/HexEncodePinLaw", name := "hexChar", desc := "(I)C" } : Jvm.MethodName) method_2_code (1 : Nat) (Option.some Jvm.ClassFile.FieldType.char)]
set_option maxRecDepth 65536 in
theorem codes_eq : words1.filter isCode = codes1 := rfl
theorem w_codes : ∀ c ∈ words1.filter isCode, c.before args0 about1 = true := by
  rw [codes_eq]
  intro c hc
  simp only [codes1, List.mem_cons, List.not_mem_nil, or_false] at hc
  rcases hc with rfl | rfl | rfl | rfl | rfl | rfl | rfl | rfl | rfl | rfl | rfl | rfl | rfl | rfl | rfl | rfl | rfl
  · exact w_c0
  · exact w_c1
  · exact w_c2
  · exact w_c3
  · exact w_c4
  · exact w_c5
  · exact w_c6
  · exact w_c7
  · exact w_c8
  · exact w_c9
  · exact w_c10
  · exact w_c11
  · exact w_c12
  · exact w_c13
  · exact w_c14
  · exact w_c15
  · exact w_c16
set_option maxRecDepth 65536 in
theorem w_t1 : (words1.take 24).all (fun c => isCode c || c.before args0 about1) = true := by decide +kernel
set_option maxRecDepth 65536 in
theorem w_t2 : ((words1.drop 24).take 24).all (fun c => isCode c || c.before args0 about1) = true := by decide +kernel
set_option maxRecDepth 65536 in
theorem w_t3 : (((words1.drop 24).drop 24).take 24).all (fun c => isCode c || c.before args0 about1) = true := by decide +kernel
set_option maxRecDepth 65536 in
theorem w_t4 : (((words1.drop 24).drop 24).drop 24).all (fun c => isCode c || c.before args0 about1) = true := by decide +kernel
theorem w_tables : (allAtoms (Jvm.Cond.code x code maxLocals ret :: tables_1)).before args0 about1 = true := by
  rw [allAtoms_all]
  show words1.all (fun c => c.before args0 about1) = true
  refine all_split ?_ w_codes
  rw [← List.take_append_drop 24 words1, List.all_append, w_t1, ← List.take_append_drop 24 (words1.drop 24), List.all_append, w_t2, ← List.take_append_drop 24 ((words1.drop 24).drop 24), List.all_append, w_t3, w_t4]
  rfl
set_option maxRecDepth 65536 in
theorem w_rest : rest_1_c.before args0 about1 = true := by decide +kernel
set_option maxRecDepth 65536 in
theorem w_case : (Jvm.Cond.and given_1 narrow_1).before args0 about1 = true := by decide +kernel
set_option maxRecDepth 65536 in
theorem w_consts : constsHeld consts_1 about1 := Jvm.Lit.constsHeldB_iff.mp (by decide +kernel)
theorem w_applies : (headSpec (Jvm.Cond.code x code maxLocals ret :: tables_1) room_1).applies x e0.platform about1 = true :=
  (Spec.applies_iff w_frames).mpr ⟨w_running, w_runnable, w_alone, w_named, w_hears, w_ripe, w_room, w_tables⟩
theorem atStart : AtStart classFile x code maxLocals ret World_1 tables_1 room_1 Calls_1 rest_1 Pre_1 launch0 p0 e0 about1 theMethod args0 below0 :=
  ⟨lists_1, trivial, launch0.admits_env _ _ _, launch0.least_env, fairChoices_fair.cas, fairChoices_fair.clock, w_frames, w_args, w_heap, w_applies, ⟨w_consts, trivial⟩, w_rest, w_case⟩
end start1
theorem witness_1 : WitnessClaimed_1 := ⟨start1.p0, start1.e0, start1.about1, start1.theMethod, start1.args0, start1.below0, start1.atStart⟩
end Jvm.Pilot.@@N@@
