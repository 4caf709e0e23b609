import JvmDerived
import JvmDerived.Pilot.@@N@@Statement
import JvmDerived.Pilot.@@N@@Code
set_option linter.unusedVariables false
set_option linter.unusedSimpArgs false
namespace Jvm.RoadKit
open Sem ClassFile Op Lib Bundle Jvm.Stand Jvm.Free Jvm.LawKit
section Own
variable {p : Program} {l : Launch} {e : Env} {R : Room} {s : State} {m : MethodId} {args : Array Value} {below : List Frame} {meth : Method} {c : Code} {T : State} {locs : List Loc} {cells slots : Nat} {Z : State} {a0 : Array Value} {h : Heap}
/-- from T, with g on top, this invocation comes to an end of which F holds -/
def own_Go (p : Program) (e : Env) (below : List Frame) (F : State → Outcome → Prop) (T : State) (g : JFrame) : Prop := ∃ s₂ o, Steps p.tables e below (T.setTop g) s₂ ∧ F s₂ o
theorem own_step {F : State → Outcome → Prop} {T' : State} {g g' : JFrame} (h : ∀ t, Steps p.tables e below (T'.setTop g') t → Steps p.tables e below (T.setTop g) t) (H : own_Go p e below F T' g') : own_Go p e below F T g := by
  obtain ⟨s₂, o, h1, r⟩ := H
  exact ⟨s₂, o, h _ h1, r⟩
def own_EndN (below : List Frame) (s : State) (Q : Option Value → Heap → List Loc → Prop) (k n : Nat) : State → Outcome → Prop := fun s₂ o => s₂.status = .running ∧ Ended s₂ below o ∧ ∃ v L, o = .returned v ∧ Q v s₂.heap L ∧ FrameEnd s o s₂ L k n
def own_EndW (below : List Frame) (s Z : State) (EL : List (String × Nat)) (Q : Option Value → Heap → List Loc → Prop) (k n : Nat) : State → Outcome → Prop := fun s₂ o => s₂.status = .running ∧ Ended s₂ below o ∧ ∃ v L, o = .returned v ∧ Q v s₂.heap L ∧ CHr Z EL s.vm s.heap s₂.vm s₂.heap ∧ ReturnedEndW s o s₂ L k n
/-- what a return owes -/
def own_Out (below : List Frame) (s : State) (F : State → Outcome → Prop) (T : State) (v : Option Value) (locs : List Loc) (cells slots : Nat) : Prop := ∀ fs, (T.setFrames fs).status = .running → Ended (T.setFrames fs) below (.returned v) → s.WarmedH (T.setFrames fs).vm → s.sameButNew ({ T.setFrames fs with vm := s.vm } : State) locs cells slots → F (T.setFrames fs) (.returned v)
theorem own_N {v : Option Value} {Q : Option Value → Heap → List Loc → Prop} {k n : Nat} (hQ : Q v T.heap locs) (hk : cells ≤ k) (hn : slots ≤ n) : own_Out below s (own_EndN below s Q k n) T v locs cells slots := fun fs h1 h2 h3 h4 => ⟨h1, h2, v, locs, rfl, hQ, ⟨_, rfl⟩, h3, h4.mono hk hn⟩
theorem own_W {vm0 : Vm} {EL : List (String × Nat)} {k0 : Nat} {h0 : Heap} (X : Stand p l e R (s.setVm vm0) m args below meth c T locs cells slots) (hS : s.Since vm0 k0) (hk0 : k0 ≤ h.size) (eT : T.heap = h) (eS : s.heap = h0) (hZ : Z.Warmed39 vm0) (hEL : EW Z a0 EL) (C : CHr Z EL s.vm h0 vm0 h)
    {v : Option Value} {Q : Option Value → Heap → List Loc → Prop} {k n : Nat} (hQ : Q v T.heap locs) (hk : cells ≤ k) (hn : slots ≤ n) : own_Out below (s.setVm vm0) (own_EndW below s Z EL Q k n) T v locs cells slots := fun fs h1 h2 h3 h4 => by
  obtain ⟨a, b, c'⟩ := hS.ended (U := T.setFrames fs) h3 (by show k0 ≤ T.heap.size; rw [eT]; exact hk0) h4
  refine ⟨h1, h2, v, locs, rfl, hQ, ?_, ⟨_, rfl⟩, a, b, c'.mono hk hn⟩
  show CHr Z EL s.vm s.heap T.vm T.heap
  rw [eS, eT]; exact C.trans (CHv.at X hZ hEL C.1)
theorem own_ret (X : Stand p l e R s m args below meth c T locs cells slots) {v : Option Value} (hv : meth.sig.returnType = none → v = none) (hlk : meth.locks = false) {g : JFrame} {F : State → Outcome → Prop}
    (st : ∀ fs, (∀ (f : JFrame) (acts : List Action), f.method = m → f.locked = none → f.entered = [] → (doReturn e (T.setTop f) acts v).1 = T.setFrames fs) → Steps p.tables e below (T.setTop g) (T.setFrames fs))
    (hF : own_Out below s F T v locs cells slots) : own_Go p e below F T g := by
  obtain ⟨fs, hr, hrun, hended, hW, hsame⟩ := X.leave (v := v) hv hlk
  exact ⟨_, _, st fs hr, hF fs hrun hended hW hsame⟩
theorem own_retI (X : Stand p l e R s m args below meth c T locs cells slots) (hx : p.tables.exec = Jvm.exec) (hret : meth.sig.returnType = some .int) (hlk : meth.locks = false) {pc : Nat} {Ls : Array Slot} {z : Int32} {rest : List Value} (hd : decode c.code pc = .ok (.ireturn, 1)) {F : State → Outcome → Prop}
    (hF : own_Out below s F T (some (.int z)) locs cells slots) : own_Go p e below F T (mkF m pc Ls (.int z :: rest)) :=
  own_ret X (fun q => by rw [hret] at q; cases q) hlk (fun fs hr => retOut X hx hret rfl (Or.inl ⟨rfl, Or.inl rfl, z, rfl⟩) hd hr) hF
theorem own_retN (X : Stand p l e R s m args below meth c T locs cells slots) (hx : p.tables.exec = Jvm.exec) {t : FieldType} (hret : meth.sig.returnType = some t) (ht : t = .boolean ∨ t = .byte ∨ t = .char ∨ t = .short) (hlk : meth.locks = false) {pc : Nat} {Ls : Array Slot} {z v : Int32} {rest : List Value} (hd : decode c.code pc = .ok (.ireturn, 1)) {F : State → Outcome → Prop}
    (hv : nar t z = v) (hF : own_Out below s F T (some (.int v)) locs cells slots) : own_Go p e below F T (mkF m pc Ls (.int z :: rest)) :=
  own_ret X (v := some (.int v)) (fun q => by rw [hret] at q; cases q) hlk (fun fs hr => retN X hx hret ht hd (by rw [hv]; exact hr)) hF
theorem own_retL (X : Stand p l e R s m args below meth c T locs cells slots) (hx : p.tables.exec = Jvm.exec) (hret : meth.sig.returnType = some .long) (hlk : meth.locks = false) {pc : Nat} {Ls : Array Slot} {z : Int64} {rest : List Value} (hd : decode c.code pc = .ok (.lreturn, 1)) {F : State → Outcome → Prop}
    (hF : own_Out below s F T (some (.long z)) locs cells slots) : own_Go p e below F T (mkF m pc Ls (.long z :: rest)) :=
  own_ret X (fun q => by rw [hret] at q; cases q) hlk (fun fs hr => retOut X hx hret rfl (Or.inr (Or.inl ⟨rfl, rfl, z, rfl⟩)) hd hr) hF
theorem own_retA (X : Stand p l e R s m args below meth c T locs cells slots) (hx : p.tables.exec = Jvm.exec) {t : FieldType} (hret : meth.sig.returnType = some t) (ht : t.isReference = true) (hlk : meth.locks = false) {pc : Nat} {Ls : Array Slot} {z : Value} {rest : List Value} (hz : z.isRef = true) (hn0 : narrow t z = z) (hd : decode c.code pc = .ok (.areturn, 1)) {F : State → Outcome → Prop}
    (hF : own_Out below s F T (some z) locs cells slots) : own_Go p e below F T (mkF m pc Ls (z :: rest)) :=
  own_ret X (fun q => by rw [hret] at q; cases q) hlk (fun fs hr => retOut X hx hret hn0 (Or.inr (Or.inr (Or.inr (Or.inr ⟨rfl, ht, hz⟩)))) hd hr) hF
theorem own_retV (X : Stand p l e R s m args below meth c T locs cells slots) (hx : p.tables.exec = Jvm.exec) (hret : meth.sig.returnType = none) (hlk : meth.locks = false) {pc : Nat} {Ls : Array Slot} (hd : decode c.code pc = .ok (.return_, 1)) {F : State → Outcome → Prop}
    (hF : own_Out below s F T none locs cells slots) : own_Go p e below F T (mkF m pc Ls []) :=
  own_ret X (fun _ => rfl) hlk (fun fs hr => X.returnOut hx hret hd hr) hF
/-- a contract: called with as' over the heap h0, the method comes back and Q holds -/
def own_Met (l : Launch) (y : MethodName) (bytes : ByteArray) (maxL : Nat) (ret : Option FieldType) (ws : List Jvm.Cond) (rm : Room) (as' : Array Value) (Z : State) (h0 : Heap) (Q : Option Value → Heap → List Loc → Prop) : Prop :=
  MetFree l y (head1 (Jvm.Cond.code y bytes maxL ret :: ws) rm) (fun a U => a = as' ∧ Z.Warmed39 U.vm ∧ U.heap = h0) (fun _ _ _ _ _ => True) (fun _ U o U' => ∃ v L, o = .returned v ∧ Q v U'.heap L ∧ FrameEnd U o U' L rm.cells rm.slots)
theorem own_body {y : MethodName} {bytes : ByteArray} {maxL : Nat} {ret : Option FieldType} {ws : List Jvm.Cond} {rm : Room} {as' : Array Value} {h0 : Heap} {Q : Option Value → Heap → List Loc → Prop} (hy : plainFor y = true) {g0 : MethodId → JFrame} (ef : ∀ m, entryFrame m as' maxL = g0 m)
    (body : ∀ (p : Program) (e : Env) (s : State) (m : MethodId) (below : List Frame) (meth : Method) (c : Code) (T : State), Stand p l e rm s m as' below meth c T [] 0 0 → p.tables.exec = Jvm.exec → c.code = bytes → c.maxLocals = maxL → meth.sig.returnType = ret → meth.locks = false → meth.name = y.name → s.vm.findClass y.cls = some m.cls → Z.Warmed39 s.vm → T.heap = h0 → own_Go p e below (own_EndN below s Q rm.cells rm.slots) T (g0 m)) :
    own_Met l y bytes maxL ret ws rm as' Z h0 Q := by
  refine MetFree.of_bodySF hy hisR ?_
  intro p e s m args below meth c s₁ Bd hml hP hK
  obtain ⟨ha, hZ, hh⟩ := hP
  subst ha
  have q := body p e s m below meth c s₁ (Stand.of_body Bd) Bd.exec Bd.bytes hml Bd.returns Bd.notSynchronized (name_of_methodNamed Bd.named Bd.method).1 (findClass_of_methodNamed Bd.named) hZ (by rw [← hh, Bd.state]; rfl)
  rw [← ef m] at q
  exact q
/-- a contract of a method that may load a String constant -/
def own_MetW (l : Launch) (y : MethodName) (bytes : ByteArray) (maxL : Nat) (ret : Option FieldType) (ws : List Jvm.Cond) (rm : Room) (as' : Array Value) (Z : State) (EL : List (String × Nat)) (h0 : Heap) (Q : Option Value → Heap → List Loc → Prop) : Prop :=
  MetFree l y (head1 (Jvm.Cond.code y bytes maxL ret :: ws) rm) (fun a U => a = as' ∧ Z.Warmed39 U.vm ∧ U.heap = h0 ∧ CHv Z EL U.vm h0) (fun _ _ _ _ _ => True) (fun _ U o U' => ∃ v L, o = .returned v ∧ Q v U'.heap L ∧ CHr Z EL U.vm U.heap U'.vm U'.heap ∧ ReturnedEndW U o U' L rm.cells rm.slots)
theorem own_bodyW {EL : List (String × Nat)} {y : MethodName} {bytes : ByteArray} {maxL : Nat} {ret : Option FieldType} {ws : List Jvm.Cond} {rm : Room} {as' : Array Value} {h0 : Heap} {Q : Option Value → Heap → List Loc → Prop} (hy : plainFor y = true) {g0 : MethodId → JFrame} (ef : ∀ m, entryFrame m as' maxL = g0 m)
    (body : ∀ (p : Program) (e : Env) (s : State) (m : MethodId) (below : List Frame) (meth : Method) (c : Code) (T : State), Stand p l e rm (s.setVm s.vm) m as' below meth c T [] 0 0 → p.tables.exec = Jvm.exec → c.code = bytes → c.maxLocals = maxL → meth.sig.returnType = ret → meth.locks = false → meth.name = y.name → s.vm.findClass y.cls = some m.cls → Z.Warmed39 s.vm → T.heap = h0 → s.heap = h0 → CHv Z EL s.vm h0 → s.Since s.vm h0.size → own_Go p e below (own_EndW below s Z EL Q rm.cells rm.slots) T (g0 m)) :
    own_MetW l y bytes maxL ret ws rm as' Z EL h0 Q := by
  refine MetFree.of_bodySF hy hisR ?_
  intro p e s m args below meth c s₁ Bd hml hP hK
  obtain ⟨ha, hZ, hh, hC⟩ := hP
  subst ha
  have q := body p e s m below meth c s₁ (Stand.of_body Bd) Bd.exec Bd.bytes hml Bd.returns Bd.notSynchronized (name_of_methodNamed Bd.named Bd.method).1 (findClass_of_methodNamed Bd.named) hZ (by rw [← hh, Bd.state]; rfl) hh hC (State.WarmedH.since (State.WarmedH.refl s) _)
  rw [← ef m] at q
  exact q
theorem own_callS (X : Stand p l e R s m args below meth c T locs cells slots) (hx : p.tables.exec = Jvm.exec) (hZ : Z.Warmed39 s.vm) {own : String} {index : Nat} {y : MethodName} {bytes : ByteArray} {maxL : Nat} {ret : Option FieldType}
    (hown : s.vm.findClass own = some m.cls) (wl : (Jvm.Cond.methodLink own index y).before a0 Z = true) (wst : (Jvm.Cond.static y).before a0 Z = true) (wi : (Jvm.Cond.initialized y.cls).before a0 Z = true) (wc : (Jvm.Cond.code y bytes maxL ret).before a0 Z = true)
    (hy : y.cls ≠ "java/lang/invoke/MethodHandle" ∧ y.cls ≠ "java/lang/invoke/VarHandle") {rm : Room} {as' : Array Value} {Qc : Option Value → Heap → List Loc → Prop} (hM : own_Met l y bytes maxL ret [] rm as' Z h Qc) (eT : T.heap = h) (W : Nat)
    (hf : rm.frames + 1 ≤ R.frames) (hlo : W + (maxL + 11) + rm.locals ≤ R.locals) (hcl : cells + rm.cells ≤ R.cells) (hsl : slots + rm.slots ≤ R.slots)
    {g : JFrame} (hg : g.method = m) (hsize : g.locals.size = c.maxLocals) (argsL rest : List Value) {ps : List FieldType} {r : Option FieldType} (hpd : parseMethodDescriptor y.desc = some ⟨ps, r⟩) (hlen : argsL.length = ps.length) (has : argsL.toArray = as')
    (hstack : g.stack = argsL.reverse ++ rest) (hW : 2 * g.monitorRoom + (rest.map fun v => v.category).sum ≤ W) (hdg : decode c.code g.pc = .ok (.invokestatic index, 3)) {F : State → Outcome → Prop}
    (cont : ∀ v T' L, Stand p l e R s m args below meth c T' (locs ++ L) (cells + rm.cells) (slots + rm.slots) → Qc v T'.heap L → own_Go p e below F T' { g with pc := g.pc + 3, stack := v.toList ++ rest }) : own_Go p e below F T g := by
  obtain ⟨v, _, ⟨T2, L2, k2, n2⟩, -, X2, ⟨Lc, hQ, l2, y2, z2⟩, st⟩ := Jvm.LawKit.callS X hx (y := y) hown (mvT hZ wl) (mvT hZ wst) (mvT hZ wi) (mvT hZ wc) hy (backOf (W := W) hM hZ wc wi hf hlo) hg hsize (argsL := argsL) (rest := rest) (lenOf hpd hlen) hstack hW hdg (fun _ _ => ⟨has, eT, hcl, hsl⟩)
  dsimp only [Pt.U, Pt.locs, Pt.cells, Pt.slots] at X2 l2 y2 z2 st hQ
  subst l2 y2 z2
  exact own_step st (cont v T2 Lc X2 hQ)
theorem own_callV (X : Stand p l e R s m args below meth c T locs cells slots) (hx : p.tables.exec = Jvm.exec) (hZ : Z.Warmed39 s.vm) {own C : String} {index : Nat} {y z : MethodName} {bytes : ByteArray} {maxL : Nat} {ret : Option FieldType}
    (hown : s.vm.findClass own = some m.cls) (wl : (Jvm.Cond.methodLink own index y).before a0 Z = true) (wd : (Jvm.Cond.declares y).before a0 Z = true) (wf : (Jvm.Cond.selects y.cls y y).before a0 Z = true) (ws : (Jvm.Cond.selects C y z).before a0 Z = true) (wm : (Jvm.Cond.instanceMethod z).before a0 Z = true) (wi : (Jvm.Cond.initialized z.cls).before a0 Z = true) (wc : (Jvm.Cond.code z bytes maxL ret).before a0 Z = true)
    (hy : y.cls ≠ "java/lang/invoke/MethodHandle" ∧ y.cls ≠ "java/lang/invoke/VarHandle") {rm : Room} {as' : Array Value} {Qc : Option Value → Heap → List Loc → Prop} (hM : own_Met l z bytes maxL ret [] rm as' Z h Qc) (eT : T.heap = h) {b : Addr} (hE : Exa Z h b C) (W : Nat)
    (hf : rm.frames + 1 ≤ R.frames) (hlo : W + (maxL + 11) + rm.locals ≤ R.locals) (hcl : cells + rm.cells ≤ R.cells) (hsl : slots + rm.slots ≤ R.slots)
    {g : JFrame} (hg : g.method = m) (hsize : g.locals.size = c.maxLocals) (argsL rest : List Value) {ps : List FieldType} {r : Option FieldType} (hpd : parseMethodDescriptor y.desc = some ⟨ps, r⟩) (hlen : argsL.length = ps.length) (has : (Value.ref b :: argsL).toArray = as')
    (hstack : g.stack = argsL.reverse ++ .ref b :: rest) (hW : 2 * g.monitorRoom + (rest.map fun v => v.category).sum ≤ W) (hdg : decode c.code g.pc = .ok (.invokevirtual index, 3)) {F : State → Outcome → Prop}
    (cont : ∀ v T' L, Stand p l e R s m args below meth c T' (locs ++ L) (cells + rm.cells) (slots + rm.slots) → Qc v T'.heap L → own_Go p e below F T' { g with pc := g.pc + 3, stack := v.toList ++ rest }) : own_Go p e below F T g := by
  obtain ⟨cq, kq, q1, q2, q3⟩ := isOf hZ eT hE
  obtain ⟨v, _, ⟨T2, L2, k2, n2⟩, -, X2, ⟨Lc, hQ, l2, y2, z2⟩, st⟩ := X.virtualBack hx (y := y) (z := z) hown (mvT hZ wl) (mvT hZ wd) (notFace_of_selects (args := #[]) (mvT hZ wf)) (mvT hZ ws) (mvT hZ wm) hy (backOf (W := W) hM hZ wc wi hf hlo) q1 q3 hg hsize (Steps.refl _) (argsL := argsL) (rest := rest) (lenOf hpd hlen) hstack hW hdg (fun _ _ => ⟨has, eT, hcl, hsl⟩)
  dsimp only [Pt.U, Pt.locs, Pt.cells, Pt.slots] at X2 l2 y2 z2 st hQ
  subst l2 y2 z2
  exact own_step (fun _ k => st.trans k) (cont v T2 Lc X2 hQ)
theorem own_callC (X : Stand p l e R s m args below meth c T locs cells slots) (hx : p.tables.exec = Jvm.exec) (hZ : Z.Warmed39 s.vm) {own : String} {index : Nat} {y : MethodName} {bytes : ByteArray} {maxL : Nat} (hy1 : y.name = "<init>")
    (hown : s.vm.findClass own = some m.cls) (wl : (Jvm.Cond.methodLink own index y).before a0 Z = true) (wm : (Jvm.Cond.instanceMethod y).before a0 Z = true) (wi : (Jvm.Cond.initialized y.cls).before a0 Z = true) (wc : (Jvm.Cond.code y bytes maxL none).before a0 Z = true)
    (hy : y.cls ≠ "java/lang/invoke/MethodHandle" ∧ y.cls ≠ "java/lang/invoke/VarHandle") {rm : Room} {as' : Array Value} {Qc : Option Value → Heap → List Loc → Prop} (hM : own_Met l y bytes maxL none [] rm as' Z h Qc) (eT : T.heap = h) {b : Addr} (W : Nat)
    (hf : rm.frames + 1 ≤ R.frames) (hlo : W + (maxL + 11) + rm.locals ≤ R.locals) (hcl : cells + rm.cells ≤ R.cells) (hsl : slots + rm.slots ≤ R.slots)
    {g : JFrame} (hg : g.method = m) (hsize : g.locals.size = c.maxLocals) (argsL rest : List Value) {ps : List FieldType} {r : Option FieldType} (hpd : parseMethodDescriptor y.desc = some ⟨ps, r⟩) (hlen : argsL.length = ps.length) (has : (Value.ref b :: argsL).toArray = as')
    (hstack : g.stack = argsL.reverse ++ .ref b :: rest) (hW : 2 * g.monitorRoom + (rest.map fun v => v.category).sum ≤ W) (hdg : decode c.code g.pc = .ok (.invokespecial index, 3)) {F : State → Outcome → Prop}
    (cont : ∀ v T' L, Stand p l e R s m args below meth c T' (locs ++ L) (cells + rm.cells) (slots + rm.slots) → Qc v T'.heap L → own_Go p e below F T' { g with pc := g.pc + 3, stack := v.toList ++ rest }) : own_Go p e below F T g := by
  obtain ⟨v, _, ⟨T2, L2, k2, n2⟩, -, X2, ⟨Lc, hQ, l2, y2, z2⟩, st⟩ := X.specialBack hx (y := y) hy1 hown (mvT hZ wl) (mvT hZ wm) (mvT hZ wc) hy (backOf (W := W) hM hZ wc wi hf hlo) hg hsize (Steps.refl _) (a := b) (argsL := argsL) (rest := rest) (lenOf hpd hlen) hstack hW hdg (fun _ _ => ⟨has, eT, hcl, hsl⟩)
  dsimp only [Pt.U, Pt.locs, Pt.cells, Pt.slots] at X2 l2 y2 z2 st hQ
  subst l2 y2 z2
  exact own_step (fun _ k => st.trans k) (cont v T2 Lc X2 hQ)
theorem own_callSW {vm0 : Vm} {EL : List (String × Nat)} {k0 : Nat} (X : Stand p l e R (s.setVm vm0) m args below meth c T locs cells slots) (hx : p.tables.exec = Jvm.exec) (hZ : Z.Warmed39 vm0) {own : String} {index : Nat} {y : MethodName} {bytes : ByteArray} {maxL : Nat} {ret : Option FieldType}
    (hown : vm0.findClass own = some m.cls) (wl : (Jvm.Cond.methodLink own index y).before a0 Z = true) (wst : (Jvm.Cond.static y).before a0 Z = true) (wi : (Jvm.Cond.initialized y.cls).before a0 Z = true) (wc : (Jvm.Cond.code y bytes maxL ret).before a0 Z = true)
    (hy : y.cls ≠ "java/lang/invoke/MethodHandle" ∧ y.cls ≠ "java/lang/invoke/VarHandle") {rm : Room} {as' : Array Value} {Qc : Option Value → Heap → List Loc → Prop} (hM : own_MetW l y bytes maxL ret [] rm as' Z EL h Qc) (eT : T.heap = h) (hEL : EW Z a0 EL) (H : CHv Z EL vm0 h) (hS : s.Since vm0 k0) (hk : k0 ≤ h.size) (W : Nat)
    (hf : rm.frames + 1 ≤ R.frames) (hlo : W + (maxL + 11) + rm.locals ≤ R.locals) (hcl : cells + rm.cells ≤ R.cells) (hsl : slots + rm.slots ≤ R.slots)
    {g : JFrame} (hg : g.method = m) (hsize : g.locals.size = c.maxLocals) (argsL rest : List Value) {ps : List FieldType} {r : Option FieldType} (hpd : parseMethodDescriptor y.desc = some ⟨ps, r⟩) (hlen : argsL.length = ps.length) (has : argsL.toArray = as')
    (hstack : g.stack = argsL.reverse ++ rest) (hW : 2 * g.monitorRoom + (rest.map fun v => v.category).sum ≤ W) (hdg : decode c.code g.pc = .ok (.invokestatic index, 3)) {F : State → Outcome → Prop}
    (cont : ∀ v T' L, Stand p l e R (s.setVm T'.vm) m args below meth c T' (locs ++ L) (cells + rm.cells) (slots + rm.slots) → Qc v T'.heap L → CHr Z EL vm0 h T'.vm T'.heap → s.Since T'.vm T'.heap.size → Z.Warmed39 T'.vm → T'.vm.findClass own = some m.cls → own_Go p e below F T' { g with pc := g.pc + 3, stack := v.toList ++ rest }) : own_Go p e below F T g := by
  have hZ' : Z.Warmed39 (s.setVm vm0).vm := hZ
  obtain ⟨v, _, ⟨T2, L2, k2, n2⟩, -, X2, hS2, hg2, ⟨Lc, hQ, l2, y2, z2, hC⟩, st⟩ := callSS X hx (y := y) hown (mvT hZ' wl) (mvT hZ' wst) (mvT hZ' wi) (mvT hZ' wc) hy (backOfSH (W := W) hM hZ wc wi hf hlo hEL H) hg hsize (argsL := argsL) (rest := rest) (lenOf hpd hlen) hstack hW hdg (fun _ _ => ⟨has, eT, hcl, hsl⟩)
  dsimp only [Pt.U, Pt.locs, Pt.cells, Pt.slots] at X2 l2 y2 z2 st hQ hS2 hg2 hC
  subst l2 y2 z2
  obtain ⟨X3, hS3, hZ3, hown3⟩ := rebS hS hk X2 hS2 (by rw [← eT]; exact hg2) hZ' hown
  exact own_step (fun _ k => st.trans k) (cont v T2 Lc X3 hQ hC hS3 hZ3 hown3)
theorem own_callCW {vm0 : Vm} {EL : List (String × Nat)} {k0 : Nat} (X : Stand p l e R (s.setVm vm0) m args below meth c T locs cells slots) (hx : p.tables.exec = Jvm.exec) (hZ : Z.Warmed39 vm0) {own : String} {index : Nat} {y : MethodName} {bytes : ByteArray} {maxL : Nat} (hy1 : y.name = "<init>")
    (hown : vm0.findClass own = some m.cls) (wl : (Jvm.Cond.methodLink own index y).before a0 Z = true) (wm : (Jvm.Cond.instanceMethod y).before a0 Z = true) (wi : (Jvm.Cond.initialized y.cls).before a0 Z = true) (wc : (Jvm.Cond.code y bytes maxL none).before a0 Z = true)
    (hy : y.cls ≠ "java/lang/invoke/MethodHandle" ∧ y.cls ≠ "java/lang/invoke/VarHandle") {rm : Room} {as' : Array Value} {Qc : Option Value → Heap → List Loc → Prop} (hM : own_MetW l y bytes maxL none [] rm as' Z EL h Qc) (eT : T.heap = h) (hEL : EW Z a0 EL) (H : CHv Z EL vm0 h) (hS : s.Since vm0 k0) (hk : k0 ≤ h.size) {b : Addr} (W : Nat)
    (hf : rm.frames + 1 ≤ R.frames) (hlo : W + (maxL + 11) + rm.locals ≤ R.locals) (hcl : cells + rm.cells ≤ R.cells) (hsl : slots + rm.slots ≤ R.slots)
    {g : JFrame} (hg : g.method = m) (hsize : g.locals.size = c.maxLocals) (argsL rest : List Value) {ps : List FieldType} {r : Option FieldType} (hpd : parseMethodDescriptor y.desc = some ⟨ps, r⟩) (hlen : argsL.length = ps.length) (has : (Value.ref b :: argsL).toArray = as')
    (hstack : g.stack = argsL.reverse ++ .ref b :: rest) (hW : 2 * g.monitorRoom + (rest.map fun v => v.category).sum ≤ W) (hdg : decode c.code g.pc = .ok (.invokespecial index, 3)) {F : State → Outcome → Prop}
    (cont : ∀ v T' L, Stand p l e R (s.setVm T'.vm) m args below meth c T' (locs ++ L) (cells + rm.cells) (slots + rm.slots) → Qc v T'.heap L → CHr Z EL vm0 h T'.vm T'.heap → s.Since T'.vm T'.heap.size → Z.Warmed39 T'.vm → T'.vm.findClass own = some m.cls → own_Go p e below F T' { g with pc := g.pc + 3, stack := v.toList ++ rest }) : own_Go p e below F T g := by
  have hZ' : Z.Warmed39 (s.setVm vm0).vm := hZ
  obtain ⟨v, _, ⟨T2, L2, k2, n2⟩, -, X2, hS2, hg2, ⟨Lc, hQ, l2, y2, z2, hC⟩, st⟩ := X.specialBackS hx (y := y) hy1 hown (mvT hZ' wl) (mvT hZ' wm) (mvT hZ' wc) hy (backOfSH (W := W) hM hZ wc wi hf hlo hEL H) hg hsize (Steps.refl _) (a := b) (argsL := argsL) (rest := rest) (lenOf hpd hlen) hstack hW hdg (fun _ _ => ⟨has, eT, hcl, hsl⟩)
  dsimp only [Pt.U, Pt.locs, Pt.cells, Pt.slots] at X2 l2 y2 z2 st hQ hS2 hg2 hC
  subst l2 y2 z2
  obtain ⟨X3, hS3, hZ3, hown3⟩ := rebS hS hk X2 hS2 (by rw [← eT]; exact hg2) hZ' hown
  exact own_step (fun _ k => st.trans k) (cont v T2 Lc X3 hQ hC hS3 hZ3 hown3)
theorem own_callVW {vm0 : Vm} {EL : List (String × Nat)} {k0 : Nat} (X : Stand p l e R (s.setVm vm0) m args below meth c T locs cells slots) (hx : p.tables.exec = Jvm.exec) (hZ : Z.Warmed39 vm0) {own C : String} {index : Nat} {y z : MethodName} {bytes : ByteArray} {maxL : Nat} {ret : Option FieldType}
    (hown : vm0.findClass own = some m.cls) (wl : (Jvm.Cond.methodLink own index y).before a0 Z = true) (wd : (Jvm.Cond.declares y).before a0 Z = true) (wf : (Jvm.Cond.selects y.cls y y).before a0 Z = true) (ws : (Jvm.Cond.selects C y z).before a0 Z = true) (wm : (Jvm.Cond.instanceMethod z).before a0 Z = true) (wi : (Jvm.Cond.initialized z.cls).before a0 Z = true) (wc : (Jvm.Cond.code z bytes maxL ret).before a0 Z = true)
    (hy : y.cls ≠ "java/lang/invoke/MethodHandle" ∧ y.cls ≠ "java/lang/invoke/VarHandle") {rm : Room} {as' : Array Value} {Qc : Option Value → Heap → List Loc → Prop} (hM : own_MetW l z bytes maxL ret [] rm as' Z EL h Qc) (eT : T.heap = h) (hEL : EW Z a0 EL) (H : CHv Z EL vm0 h) (hS : s.Since vm0 k0) (hk : k0 ≤ h.size) {b : Addr} (hE : Exa Z h b C) (W : Nat)
    (hf : rm.frames + 1 ≤ R.frames) (hlo : W + (maxL + 11) + rm.locals ≤ R.locals) (hcl : cells + rm.cells ≤ R.cells) (hsl : slots + rm.slots ≤ R.slots)
    {g : JFrame} (hg : g.method = m) (hsize : g.locals.size = c.maxLocals) (argsL rest : List Value) {ps : List FieldType} {r : Option FieldType} (hpd : parseMethodDescriptor y.desc = some ⟨ps, r⟩) (hlen : argsL.length = ps.length) (has : (Value.ref b :: argsL).toArray = as')
    (hstack : g.stack = argsL.reverse ++ .ref b :: rest) (hW : 2 * g.monitorRoom + (rest.map fun v => v.category).sum ≤ W) (hdg : decode c.code g.pc = .ok (.invokevirtual index, 3)) {F : State → Outcome → Prop}
    (cont : ∀ v T' L, Stand p l e R (s.setVm T'.vm) m args below meth c T' (locs ++ L) (cells + rm.cells) (slots + rm.slots) → Qc v T'.heap L → CHr Z EL vm0 h T'.vm T'.heap → s.Since T'.vm T'.heap.size → Z.Warmed39 T'.vm → T'.vm.findClass own = some m.cls → own_Go p e below F T' { g with pc := g.pc + 3, stack := v.toList ++ rest }) : own_Go p e below F T g := by
  have hZ' : Z.Warmed39 (s.setVm vm0).vm := hZ
  obtain ⟨cq, kq, q1, q2, q3⟩ := isOf hZ' eT hE
  obtain ⟨v, _, ⟨T2, L2, k2, n2⟩, -, X2, hS2, hg2, ⟨Lc, hQ, l2, y2, z2, hC⟩, st⟩ := X.virtualBackS hx (y := y) (z := z) hown (mvT hZ' wl) (mvT hZ' wd) (notFace_of_selects (args := #[]) (mvT hZ' wf)) (mvT hZ' ws) (mvT hZ' wm) hy (backOfSH (W := W) hM hZ wc wi hf hlo hEL H) q1 q3 hg hsize (Steps.refl _) (argsL := argsL) (rest := rest) (lenOf hpd hlen) hstack hW hdg (fun _ _ => ⟨has, eT, hcl, hsl⟩)
  dsimp only [Pt.U, Pt.locs, Pt.cells, Pt.slots] at X2 l2 y2 z2 st hQ hS2 hg2 hC
  subst l2 y2 z2
  obtain ⟨X3, hS3, hZ3, hown3⟩ := rebS hS hk X2 hS2 (by rw [← eT]; exact hg2) hZ' hown
  exact own_step (fun _ k => st.trans k) (cont v T2 Lc X3 hQ hC hS3 hZ3 hown3)
/-- a String whose value is still null is no booked one -/
theorem own_safe {EL : List (String × Nat)} {vm : Vm} {a : Addr} (hal : Z.vm.Alike vm) (E : Exa Z h a "java/lang/String") (F : Fld Z h a "java/lang/String" "value" "[B" .null) : Safe Z EL vm h a := fun B => by
  obtain ⟨p0, hp, u, a', hb, q, rfl, S, hy⟩ := B
  obtain ⟨cS, ⟨⟨s1, s2, s3, ⟨cv, kv, iv, s4, s4'⟩, ⟨cc, kc, ic, s5, s5'⟩, s6, s7, s8, s9, s10, s11, s12, s13, s14, s15, s16⟩, hfS, hcS⟩, ⟨kS, k1, k2, k3⟩, hB, hbyt⟩ := S
  rcases hy with rfl | rfl
  · obtain ⟨kv', z4⟩ := ff_back (U := Wst Z vm h) hal s4
    obtain ⟨cell, cf, k, i, f, h1, h2, h3, h4, h5, h6, h7⟩ := F
    cases h2.symm.trans z4
    cases h1.symm.trans s1
    cases h7.symm.trans s8
  · obtain ⟨cell, k, h1, h2, h3, h4, -⟩ := E
    cases h1.symm.trans s10
    have e1 : vm.findClass "[B" = some q.SA.cls := hB
    rw [hal.findClass] at e1
    exact ids_ne h2 e1 (by decide) rfl
/-! arrays by their lists -/
variable {a b : Addr} {kA : ClassId} {ty : FieldType} {z : Int32} {vs : List Value} {dv : Value}
theorem own_newA (X : Stand p l e R s m args below meth c T locs cells slots) (hx : p.tables.exec = Jvm.exec) (hZ : Z.Warmed39 s.vm) {aty : ArrayType} (w : (Jvm.Cond.arrayClass (newarray.typeOf aty)).before a0 Z = true) (eT : T.heap = h) {g : JFrame} (hg : g.method = m) (hd : decode c.code g.pc = .ok (.newarray aty, 2)) {n : Int32} {rest : List Value} (hs : g.stack = .int n :: rest)
    (hn : ¬ n < 0) {cap : Nat} (hcap : n.toNatClampNeg ≤ cap) (hb : cap * 8 ≤ 536870912) (hc : cells + 1 ≤ R.cells) (hl : slots + cap ≤ R.slots) :
    ∃ T' h' cA b, b = h.size ∧ Stand p l e R s m args below meth c T' locs (cells + 1) (slots + cap) ∧ T'.heap = h' ∧ Ext h h' ∧ Arv Z h' b cA (newarray.typeOf aty) n (List.replicate cap (defaultValue (newarray.typeOf aty))) (defaultValue (newarray.typeOf aty)) ∧
      ∀ target, Steps p.tables e below (T'.setTop { g with pc := g.pc + 2, stack := .ref b :: rest }) target → Steps p.tables e below (T.setTop g) target := by
  obtain ⟨T', h', cA, X', e', E, A, st⟩ := newP X hx hZ w eT hg hd hs hn hcap hb hc hl
  exact ⟨T', h', cA, _, rfl, X', e', E, (Arv.new A hn).pad (pad_rep [] _ cap), st⟩
theorem own_stB (X : Stand p l e R s m args below meth c T locs cells slots) (hx : p.tables.exec = Jvm.exec) (hZ : Z.Warmed39 s.vm) (eT : T.heap = h) (V : Arv Z h a kA .byte z vs dv) {j x : Int32} (hj : ¬ j < 0 ∧ j < z) (i : Nat) (hi : j.toNatClampNeg = i) (hl : i < vs.length) {g : JFrame} (hg : g.method = m) {rest : List Value} (hs : g.stack = .int x :: .int j :: .ref a :: rest) (hd : decode c.code g.pc = .ok (.bastore, 1)) :
    ∃ T' h' L, Stand p l e R s m args below meth c T' (locs ++ [⟨a, L⟩]) cells slots ∧ T'.heap = h' ∧ Wr h h' a L (.int x.toInt8.toInt32) ∧ Arv Z h' a kA .byte z (vs.set i (.int x.toInt8.toInt32)) dv ∧ ∀ target, Steps p.tables e below (T'.setTop { g with pc := g.pc + 1, stack := rest }) target → Steps p.tables e below (T.setTop g) target := by
  obtain ⟨cl, Ar, q, S, N, H, G⟩ := V
  obtain ⟨T', h', X', e', W, st⟩ := stB X hx hZ eT Ar (inb_of S hj) hg hs hd
  exact ⟨T', h', _, X', e', W, Arv.set Ar q S N H G (fits_nar_byte _) W i hi hl, st⟩
theorem own_stZ (X : Stand p l e R s m args below meth c T locs cells slots) (hx : p.tables.exec = Jvm.exec) (hZ : Z.Warmed39 s.vm) (eT : T.heap = h) (V : Arv Z h a kA .boolean z vs dv) {j x : Int32} (hj : ¬ j < 0 ∧ j < z) (i : Nat) (hi : j.toNatClampNeg = i) (hl : i < vs.length) {g : JFrame} (hg : g.method = m) {rest : List Value} (hs : g.stack = .int x :: .int j :: .ref a :: rest) (hd : decode c.code g.pc = .ok (.bastore, 1)) :
    ∃ T' h' L, Stand p l e R s m args below meth c T' (locs ++ [⟨a, L⟩]) cells slots ∧ T'.heap = h' ∧ Wr h h' a L (.int (nar .boolean x)) ∧ Arv Z h' a kA .boolean z (vs.set i (.int (nar .boolean x))) dv ∧ ∀ target, Steps p.tables e below (T'.setTop { g with pc := g.pc + 1, stack := rest }) target → Steps p.tables e below (T.setTop g) target := by
  obtain ⟨cl, Ar, q, S, N, H, G⟩ := V
  obtain ⟨T', h', X', e', W, st⟩ := stZ X hx hZ eT Ar (inb_of S hj) hg hs hd
  exact ⟨T', h', _, X', e', W, Arv.set Ar q S N H G (fits_nar_bool _) W i hi hl, st⟩
theorem own_stC (X : Stand p l e R s m args below meth c T locs cells slots) (hx : p.tables.exec = Jvm.exec) (hZ : Z.Warmed39 s.vm) (eT : T.heap = h) (V : Arv Z h a kA .char z vs dv) {j x : Int32} (hj : ¬ j < 0 ∧ j < z) (i : Nat) (hi : j.toNatClampNeg = i) (hl : i < vs.length) {g : JFrame} (hg : g.method = m) {rest : List Value} (hs : g.stack = .int x :: .int j :: .ref a :: rest) (hd : decode c.code g.pc = .ok (.castore, 1)) :
    ∃ T' h' L, Stand p l e R s m args below meth c T' (locs ++ [⟨a, L⟩]) cells slots ∧ T'.heap = h' ∧ Wr h h' a L (.int (nar .char x)) ∧ Arv Z h' a kA .char z (vs.set i (.int (nar .char x))) dv ∧ ∀ target, Steps p.tables e below (T'.setTop { g with pc := g.pc + 1, stack := rest }) target → Steps p.tables e below (T.setTop g) target := by
  obtain ⟨cl, Ar, q, S, N, H, G⟩ := V
  obtain ⟨T', h', X', e', W, st⟩ := stC X hx hZ eT Ar (inb_of S hj) hg hs hd
  exact ⟨T', h', _, X', e', W, Arv.set Ar q S N H G (fits_nar_char _) W i hi hl, st⟩
theorem own_stI (X : Stand p l e R s m args below meth c T locs cells slots) (hx : p.tables.exec = Jvm.exec) (hZ : Z.Warmed39 s.vm) (eT : T.heap = h) (V : Arv Z h a kA .int z vs dv) {j x : Int32} (hj : ¬ j < 0 ∧ j < z) (i : Nat) (hi : j.toNatClampNeg = i) (hl : i < vs.length) {g : JFrame} (hg : g.method = m) {rest : List Value} (hs : g.stack = .int x :: .int j :: .ref a :: rest) (hd : decode c.code g.pc = .ok (.iastore, 1)) :
    ∃ T' h' L, Stand p l e R s m args below meth c T' (locs ++ [⟨a, L⟩]) cells slots ∧ T'.heap = h' ∧ Wr h h' a L (.int x) ∧ Arv Z h' a kA .int z (vs.set i (.int x)) dv ∧ ∀ target, Steps p.tables e below (T'.setTop { g with pc := g.pc + 1, stack := rest }) target → Steps p.tables e below (T.setTop g) target := by
  obtain ⟨cl, Ar, q, S, N, H, G⟩ := V
  obtain ⟨T', h', X', e', W, st⟩ := stI X hx hZ eT Ar (inb_of S hj) hg hs hd
  exact ⟨T', h', _, X', e', W, Arv.set Ar q S N H G rfl W i hi hl, st⟩
theorem own_stJ (X : Stand p l e R s m args below meth c T locs cells slots) (hx : p.tables.exec = Jvm.exec) (hZ : Z.Warmed39 s.vm) (eT : T.heap = h) (V : Arv Z h a kA .long z vs dv) {j : Int32} {x : Int64} (hj : ¬ j < 0 ∧ j < z) (i : Nat) (hi : j.toNatClampNeg = i) (hl : i < vs.length) {g : JFrame} (hg : g.method = m) {rest : List Value} (hs : g.stack = .long x :: .int j :: .ref a :: rest) (hd : decode c.code g.pc = .ok (.lastore, 1)) :
    ∃ T' h' L, Stand p l e R s m args below meth c T' (locs ++ [⟨a, L⟩]) cells slots ∧ T'.heap = h' ∧ Wr h h' a L (.long x) ∧ Arv Z h' a kA .long z (vs.set i (.long x)) dv ∧ ∀ target, Steps p.tables e below (T'.setTop { g with pc := g.pc + 1, stack := rest }) target → Steps p.tables e below (T.setTop g) target := by
  obtain ⟨cl, Ar, q, S, N, H, G⟩ := V
  obtain ⟨T', h', X', e', W, st⟩ := stJ X hx hZ eT Ar (inb_of S hj) hg hs hd
  exact ⟨T', h', _, X', e', W, Arv.set Ar q S N H G rfl W i hi hl, st⟩
theorem own_ldB (X : Stand p l e R s m args below meth c T locs cells slots) (hx : p.tables.exec = Jvm.exec) (hZ : Z.Warmed39 s.vm) (eT : T.heap = h) (V : Arv Z h a kA .byte z vs dv) {j : Int32} {v : Value} (hj : ¬ j < 0 ∧ j < z) (hv : vs.getD j.toNatClampNeg dv = v) {g : JFrame} (hg : g.method = m) {rest : List Value} (hs : g.stack = .int j :: .ref a :: rest) (hd : decode c.code g.pc = .ok (.baload, 1)) :
    ∀ t, Steps p.tables e below (T.setTop { g with pc := g.pc + 1, stack := v :: rest }) t → Steps p.tables e below (T.setTop g) t := by
  obtain ⟨cl, Ar, q, S, N, H, G⟩ := V
  exact fun t k => X.baloadBytes hx (by rw [eT]; exact Ar.1) (State.isArrayOf_alike hZ.alike Ar.2.1) Ar.2.2 (inb_of S hj) (Has.at H (inb_of S hj) hv) hg hs hd _ k
theorem own_ldZ (X : Stand p l e R s m args below meth c T locs cells slots) (hx : p.tables.exec = Jvm.exec) (hZ : Z.Warmed39 s.vm) (eT : T.heap = h) (V : Arv Z h a kA .boolean z vs dv) {j : Int32} {v : Value} (hj : ¬ j < 0 ∧ j < z) (hv : vs.getD j.toNatClampNeg dv = v) {g : JFrame} (hg : g.method = m) {rest : List Value} (hs : g.stack = .int j :: .ref a :: rest) (hd : decode c.code g.pc = .ok (.baload, 1)) :
    ∀ t, Steps p.tables e below (T.setTop { g with pc := g.pc + 1, stack := v :: rest }) t → Steps p.tables e below (T.setTop g) t := by
  obtain ⟨cl, Ar, q, S, N, H, G⟩ := V
  exact fun t k => X.baloadBooleans hx (by rw [eT]; exact Ar.1) (State.isArrayOf_alike hZ.alike Ar.2.1) Ar.2.2 (inb_of S hj) (Has.at H (inb_of S hj) hv) hg hs hd _ k
theorem own_ldC (X : Stand p l e R s m args below meth c T locs cells slots) (hx : p.tables.exec = Jvm.exec) (hZ : Z.Warmed39 s.vm) (eT : T.heap = h) (V : Arv Z h a kA .char z vs dv) {j : Int32} {v : Value} (hj : ¬ j < 0 ∧ j < z) (hv : vs.getD j.toNatClampNeg dv = v) {g : JFrame} (hg : g.method = m) {rest : List Value} (hs : g.stack = .int j :: .ref a :: rest) (hd : decode c.code g.pc = .ok (.caload, 1)) :
    ∀ t, Steps p.tables e below (T.setTop { g with pc := g.pc + 1, stack := v :: rest }) t → Steps p.tables e below (T.setTop g) t := by
  obtain ⟨cl, Ar, q, S, N, H, G⟩ := V
  exact fun t k => X.caload hx (by rw [eT]; exact Ar.1) (State.isArrayOf_alike hZ.alike Ar.2.1) Ar.2.2 (inb_of S hj) (Has.at H (inb_of S hj) hv) hg hs hd _ k
theorem own_ldI (X : Stand p l e R s m args below meth c T locs cells slots) (hx : p.tables.exec = Jvm.exec) (hZ : Z.Warmed39 s.vm) (eT : T.heap = h) (V : Arv Z h a kA .int z vs dv) {j : Int32} {v : Value} (hj : ¬ j < 0 ∧ j < z) (hv : vs.getD j.toNatClampNeg dv = v) {g : JFrame} (hg : g.method = m) {rest : List Value} (hs : g.stack = .int j :: .ref a :: rest) (hd : decode c.code g.pc = .ok (.iaload, 1)) :
    ∀ t, Steps p.tables e below (T.setTop { g with pc := g.pc + 1, stack := v :: rest }) t → Steps p.tables e below (T.setTop g) t := by
  obtain ⟨cl, Ar, q, S, N, H, G⟩ := V
  exact fun t k => X.iaload hx (by rw [eT]; exact Ar.1) (State.isArrayOf_alike hZ.alike Ar.2.1) Ar.2.2 (inb_of S hj) (Has.at H (inb_of S hj) hv) hg hs hd _ k
theorem own_ldJ (X : Stand p l e R s m args below meth c T locs cells slots) (hx : p.tables.exec = Jvm.exec) (hZ : Z.Warmed39 s.vm) (eT : T.heap = h) (V : Arv Z h a kA .long z vs dv) {j : Int32} {v : Value} (hj : ¬ j < 0 ∧ j < z) (hv : vs.getD j.toNatClampNeg dv = v) {g : JFrame} (hg : g.method = m) {rest : List Value} (hs : g.stack = .int j :: .ref a :: rest) (hd : decode c.code g.pc = .ok (.laload, 1)) :
    ∀ t, Steps p.tables e below (T.setTop { g with pc := g.pc + 1, stack := v :: rest }) t → Steps p.tables e below (T.setTop g) t := by
  obtain ⟨cl, Ar, q, S, N, H, G⟩ := V
  exact fun t k => X.laload hx (by rw [eT]; exact Ar.1) (State.isArrayOf_alike hZ.alike Ar.2.1) Ar.2.2 (inb_of S hj) (Has.at H (inb_of S hj) hv) hg hs hd _ k
theorem own_ldA (X : Stand p l e R s m args below meth c T locs cells slots) (hx : p.tables.exec = Jvm.exec) (hZ : Z.Warmed39 s.vm) (eT : T.heap = h) (V : Arv Z h a kA ty z vs dv) (hty : ty.isReference = true) {j : Int32} {v : Value} (hj : ¬ j < 0 ∧ j < z) (hv : vs.getD j.toNatClampNeg dv = v) {g : JFrame} (hg : g.method = m) {rest : List Value} (hs : g.stack = .int j :: .ref a :: rest) (hd : decode c.code g.pc = .ok (.aaload, 1)) :
    ∀ t, Steps p.tables e below (T.setTop { g with pc := g.pc + 1, stack := v :: rest }) t → Steps p.tables e below (T.setTop g) t := by
  obtain ⟨cl, Ar, q, S, N, H, G⟩ := V
  exact fun t k => X.aaload hx (by rw [eT]; exact Ar.1) (State.isArrayOf_alike hZ.alike Ar.2.1) hty Ar.2.2 (inb_of S hj) (Has.at H (inb_of S hj) hv) hg hs hd _ k
theorem own_len (X : Stand p l e R s m args below meth c T locs cells slots) (hx : p.tables.exec = Jvm.exec) (hZ : Z.Warmed39 s.vm) (eT : T.heap = h) (V : Arv Z h a kA ty z vs dv) {g : JFrame} (hg : g.method = m) {rest : List Value} (hs : g.stack = .ref a :: rest) (hd : decode c.code g.pc = .ok (.arraylength, 1)) :
    ∀ t, Steps p.tables e below (T.setTop { g with pc := g.pc + 1, stack := .int z :: rest }) t → Steps p.tables e below (T.setTop g) t := by
  obtain ⟨cl, Ar, q, S, N, H, G⟩ := V
  refine fun t k => X.arraylength hx (by rw [eT]; exact Ar.1) (State.isArrayOf_alike hZ.alike Ar.2.1) hg hs hd _ ?_
  rw [len_of S N]; exact k
theorem own_newR (X : Stand p l e R s m args below meth c T locs cells slots) (hx : p.tables.exec = Jvm.exec) (hZ : Z.Warmed39 s.vm) {own C : String} {index : Nat} (hown : s.vm.findClass own = some m.cls) (w1 : (Jvm.Cond.classLink own index C).before a0 Z = true) (w2 : (Jvm.Cond.arrayOver (.object C)).before a0 Z = true)
    (eT : T.heap = h) {g : JFrame} (hg : g.method = m) (hd : decode c.code g.pc = .ok (.anewarray index, 3)) {n : Int32} {rest : List Value} (hs : g.stack = .int n :: rest) (hn : ¬ n < 0) {cap : Nat} (hcap : n.toNatClampNeg ≤ cap) (hb : cap * 8 ≤ 536870912) (hc : cells + 1 ≤ R.cells) (hl : slots + cap ≤ R.slots) :
    ∃ T' h' cA b, b = h.size ∧ Stand p l e R s m args below meth c T' locs (cells + 1) (slots + cap) ∧ T'.heap = h' ∧ Ext h h' ∧ Arv Z h' b cA (.object C) n (List.replicate cap .null) .null ∧ Ovr Z cA C ∧
      ∀ target, Steps p.tables e below (T'.setTop { g with pc := g.pc + 3, stack := .ref b :: rest }) target → Steps p.tables e below (T.setTop g) target := by
  obtain ⟨T', h', cA, X', e', E, A, O, st⟩ := newR X hx hZ hown w1 w2 eT hg hd hs hn hcap hb hc hl
  exact ⟨T', h', cA, _, rfl, X', e', E, (Arv.new A hn).pad (pad_rep [] _ cap), O, st⟩
theorem own_stA (X : Stand p l e R s m args below meth c T locs cells slots) (hx : p.tables.exec = Jvm.exec) (hZ : Z.Warmed39 s.vm) (eT : T.heap = h) {C : String} {y : Addr} (V : Arv Z h a kA (.object C) z vs dv) (O : Ovr Z kA C) (I : Ins Z h y C true) {j : Int32} (hj : ¬ j < 0 ∧ j < z) (i : Nat) (hi : j.toNatClampNeg = i) (hl : i < vs.length) {g : JFrame} (hg : g.method = m) {rest : List Value} (hs : g.stack = .ref y :: .int j :: .ref a :: rest) (hd : decode c.code g.pc = .ok (.aastore, 1)) :
    ∃ T' h' L, Stand p l e R s m args below meth c T' (locs ++ [⟨a, L⟩]) cells slots ∧ T'.heap = h' ∧ Wr h h' a L (.ref y) ∧ Arv Z h' a kA (.object C) z (vs.set i (.ref y)) dv ∧ ∀ target, Steps p.tables e below (T'.setTop { g with pc := g.pc + 1, stack := rest }) target → Steps p.tables e below (T.setTop g) target := by
  obtain ⟨cl, Ar, q, S, N, H, G⟩ := V
  obtain ⟨T', h', X', e', W, st⟩ := stR X hx hZ eT Ar (inb_of S hj) rfl (Sto.ofV Ar q O I) hg hs hd
  exact ⟨T', h', _, X', e', W, Arv.set Ar q S N H G rfl W i hi hl, st⟩
/-! what the case's words say of statics -/
theorem own_eqI {t : Term} {n : Int32} {args : Array Value} {s : State} (q : (Jvm.Cond.eq t (.int n)).value args s none s [] = some true) : t.eval args s none [] s = some (.int n) := by
  cases ht : t.eval args s none [] s with
  | none => simp [Jvm.Cond.value, ht] at q
  | some v => cases v <;> simp [Jvm.Cond.value, ht, Term.eval, Value.isRef] at q ⊢ <;> exact q
theorem own_eqJ {t : Term} {n : Int64} {args : Array Value} {s : State} (q : (Jvm.Cond.eq t (.long n)).value args s none s [] = some true) : t.eval args s none [] s = some (.long n) := by
  cases ht : t.eval args s none [] s with
  | none => simp [Jvm.Cond.value, ht] at q
  | some v => cases v <;> simp [Jvm.Cond.value, ht, Term.eval, Value.isRef] at q ⊢ <;> exact q
theorem own_eqR {t u : Term} {x : Addr} {args : Array Value} {s : State} (hu : u.eval args s none [] s = some (.ref x)) (q : (Jvm.Cond.eq t u).value args s none s [] = some true) : t.eval args s none [] s = some (.ref x) := by
  cases ht : t.eval args s none [] s with
  | none => simp [Jvm.Cond.value, ht] at q
  | some v => cases v <;> simp [Jvm.Cond.value, ht, hu, Value.isRef] at q ⊢ <;> exact q
theorem own_lenT {t : Term} {a : Addr} {cl : Cell} {ty : FieldType} {z : Int32} {args : Array Value} {s : State} (ht : t.eval args s none [] s = some (.ref a)) (A : Arr s s.heap a cl ty) (q : (Term.length t).eval args s none [] s = some (.int z)) : cl.slots.size < 2 ^ 31 ∧ cl.slots.size.toInt32 = z := by
  have ha : s.arrayAt? a = some cl := Arr.fin (Vm.Alike.refl _) A
  by_cases hl : cl.slots.size < 2 ^ 31
  · rw [len_f ht ha hl] at q; cases q; exact ⟨hl, rfl⟩
  · simp [Term.eval, ht, ha, hl] at q
end Own
end Jvm.RoadKit
namespace Jvm.RoadKit
open Sem ClassFile Op Lib Bundle Jvm.Stand Jvm.Free Jvm.LawKit
section OwnI
variable {p : Program} {l : Launch} {e : Env} {R : Room} {s : State} {m : MethodId} {args : Array Value} {below : List Frame} {meth : Method} {c : Code} {T : State} {locs : List Loc} {cells slots : Nat} {Z : State} {a0 : Array Value} {h : Heap}
theorem own_callI (X : Stand p l e R s m args below meth c T locs cells slots) (hx : p.tables.exec = Jvm.exec) (hZ : Z.Warmed39 s.vm) {own C : String} {index count : Nat} {xi y : MethodName} {bytes : ByteArray} {maxL : Nat} {ret : Option FieldType}
    (hown : s.vm.findClass own = some m.cls) (wl : (Jvm.Cond.methodLink own index xi).before a0 Z = true) (wd : (Jvm.Cond.declares xi).before a0 Z = true) (wf : (Jvm.Cond.interfaceMethod xi.cls xi.cls xi.name xi.desc).before a0 Z = true) (ws : (Jvm.Cond.selects C xi y).before a0 Z = true) (wm : (Jvm.Cond.instanceMethod y).before a0 Z = true) (wp : (Jvm.Cond.publicMethod y).before a0 Z = true) (wu : (Jvm.Cond.unhidden C xi.name xi.desc).before a0 Z = true) (wk : (Jvm.Cond.castable C xi.cls).before a0 Z = true) (wi : (Jvm.Cond.initialized y.cls).before a0 Z = true) (wc : (Jvm.Cond.code y bytes maxL ret).before a0 Z = true)
    (hfa : ((Jvm.Cond.interfaceMethod xi.cls xi.cls xi.name xi.desc).onTables && (Jvm.Cond.interfaceMethod xi.cls xi.cls xi.name xi.desc).keepsFace) = true) (hy : xi.cls ≠ "java/lang/invoke/MethodHandle" ∧ xi.cls ≠ "java/lang/invoke/VarHandle") {rm : Room} {as' : Array Value} {Qc : Option Value → Heap → List Loc → Prop} (hM : own_Met l y bytes maxL ret [] rm as' Z h Qc) (eT : T.heap = h) {b : Addr} (hE : Exa Z h b C) (W : Nat)
    (hf : rm.frames + 1 ≤ R.frames) (hlo : W + (maxL + 11) + rm.locals ≤ R.locals) (hcl : cells + rm.cells ≤ R.cells) (hsl : slots + rm.slots ≤ R.slots)
    {g : JFrame} (hg : g.method = m) (hsize : g.locals.size = c.maxLocals) (argsL rest : List Value) {ps : List FieldType} {r : Option FieldType} (hpd : parseMethodDescriptor xi.desc = some ⟨ps, r⟩) (hlen : argsL.length = ps.length) (has : (Value.ref b :: argsL).toArray = as')
    (hstack : g.stack = argsL.reverse ++ .ref b :: rest) (hW : 2 * g.monitorRoom + (rest.map fun v => v.category).sum ≤ W) (hdg : decode c.code g.pc = .ok (.invokeinterface index count, 5)) {F : State → Outcome → Prop}
    (cont : ∀ v T' L, Stand p l e R s m args below meth c T' (locs ++ L) (cells + rm.cells) (slots + rm.slots) → Qc v T'.heap L → own_Go p e below F T' { g with pc := g.pc + 5, stack := v.toList ++ rest }) : own_Go p e below F T g := by
  obtain ⟨cq, kq, q1, q2, q3⟩ := isOf hZ eT hE
  obtain ⟨v, _, ⟨T2, L2, k2, n2⟩, -, X2, ⟨Lc, hQ, l2, y2, z2⟩, st⟩ := X.interfaceBack hx (xi := xi) (y := y) hown (mvT hZ wl) (mvT hZ wd) (mvT hZ wf hfa) (mvT hZ ws) (mvT hZ wm) (mvT hZ wp) (mvT hZ wu) (mvT hZ wk) hy (backOf (W := W) hM hZ wc wi hf hlo) q1 q2 q3 hg hsize (Steps.refl _) (argsL := argsL) (rest := rest) (lenOf hpd hlen) hstack hW hdg (fun _ _ => ⟨has, eT, hcl, hsl⟩)
  dsimp only [Pt.U, Pt.locs, Pt.cells, Pt.slots] at X2 l2 y2 z2 st hQ
  subst l2 y2 z2
  exact own_step (fun _ k => st.trans k) (cont v T2 Lc X2 hQ)
end OwnI
end Jvm.RoadKit
namespace Jvm.Pilot.@@N@@
open Jvm Jvm.ClassFile Sem Op Lib Jvm.Free Jvm.Stand Jvm.LawKit Jvm.RoadKit Bundle Jvm.Pilot.@@N@@.Jvm.D
theorem own_leafI {x y : Int32} (q : y = x) : some (Value.int x) = some (.int y) := by rw [q]
theorem own_leafJ {x y : Int64} (q : y = x) : some (Value.long x) = some (.long y) := by rw [q]
theorem own_bb (x : Int32) : x.toInt8.toInt32.toInt8.toInt32 = x.toInt8.toInt32 := by
  have h1 := c_i2b x; have h2 := c_i2b x.toInt8.toInt32
  rw [← Int32.toInt_inj]; omega
theorem own_lt {x y : Int32} {n k : Nat} (hx : x.toInt = n) (hy : y.toInt = k) : x < y ↔ n < k := by rw [Int32.lt_iff_toInt_lt]; omega
theorem own_add {x y : Int32} {n k : Nat} (hx : x.toInt = n) (hy : y.toInt = k) (h : n + k < 2147483648) : (x + y).toInt = (n + k : Nat) := by
  have h1 := c_iadd x y; have h2 := rng32 (x + y); omega
theorem own_nn {x : Int32} {n : Nat} (hx : x.toInt = n) : ¬ x < 0 := by
  rw [Int32.lt_iff_toInt_lt]; have e0 : (0 : Int32).toInt = 0 := rfl; omega
theorem own_clamp {x : Int32} {n : Nat} (hx : x.toInt = n) : x.toNatClampNeg = n := by simp only [Int32.toNatClampNeg]; omega
theorem own_lit32 {x : Int32} {n : Nat} (h : x.toInt = n) : x = Int32.ofInt n := by
  rw [← Int32.toInt_inj, Int32.toInt_ofInt, h]
  have := x.toInt_lt
  have es : Int32.size = 4294967296 := rfl
  rw [Int.bmod_eq_of_le (by omega) (by omega)]
theorem own_getI (xs : List Int32) (d : Int32) : ∀ j : Nat, (xs.map Value.int).getD j (.int d) = .int (xs.getD j d) := by
  induction xs with
  | nil => intro j; rfl
  | cons y r ih => intro j; cases j with
    | zero => rfl
    | succ j => exact ih j
theorem own_shr0 (z : Int32) : z >>> ((0 : Int32) &&& 31) = z := by
  have h := c_ishr z (0 : Int32) 0 (by decide)
  rw [← Int32.toInt_inj, h]; simp
theorem own_ci (y : Int32) : ((y &&& (255 : Int32)).toUInt32.toUInt16.toUInt32.toInt32) = (y &&& (255 : Int32)) := by
  have h1 := c_and y (255 : Int32) (by decide)
  have h2 := c_i2c (y &&& (255 : Int32))
  have e : (255 : Int32).toInt = 255 := by decide
  rw [← Int32.toInt_inj]; omega
/-- the bytes of the first j chars, the rest 0 -/
def own_cp (cs : List Int32) (j : Nat) : List Int32 := (cs.take j).map (fun c => c.toInt8.toInt32) ++ List.replicate (cs.length - j) (0 : Int32)
theorem own_cp0 (cs : List Int32) : own_cp cs 0 = List.replicate cs.length (0 : Int32) := by simp [own_cp]
theorem own_cpN (cs : List Int32) : own_cp cs cs.length = cs.map (fun c => c.toInt8.toInt32) := by simp [own_cp]
theorem own_cpl (cs : List Int32) (j : Nat) (h : j ≤ cs.length) : (own_cp cs j).length = cs.length := by
  simp only [own_cp, List.length_append, List.length_map, List.length_take, List.length_replicate]; omega
theorem own_cpS (cs : List Int32) (j : Nat) (h : j < cs.length) : (own_cp cs j).set j ((cs.getD j (0 : Int32)).toInt8.toInt32) = own_cp cs (j + 1) := by
  unfold own_cp
  rw [List.set_append_right _ _ (by rw [List.length_map, List.length_take]; omega), show (List.map (fun c : Int32 => c.toInt8.toInt32) (List.take j cs)).length = j by rw [List.length_map, List.length_take]; omega, Nat.sub_self]
  rw [show cs.length - j = (cs.length - (j + 1)) + 1 by omega, List.replicate_succ, List.set_cons_zero, List.take_succ_eq_append_getElem h, List.map_append, List.append_assoc]
  have e : cs.getD j (0 : Int32) = cs[j] := by simp [h]
  rw [e]; rfl
theorem own_lat (cs : List Int32) (h : ∀ c ∈ cs, ¬ (255 : Int32) < c) : ∀ t, ¬ (255 : Int32) < cs.getD t (0 : Int32) := by
  induction cs with
  | nil => intro t; have e : ([] : List Int32).getD t (0 : Int32) = 0 := by simp
           rw [e]; decide
  | cons y r ih => intro t; cases t with
    | zero => exact h y (List.mem_cons_self ..)
    | succ t => exact ih (fun c hc => h c (List.mem_cons_of_mem _ hc)) t
theorem own_small {K : Nat} {x : Int32} (h0 : 0 ≤ x.toInt) (h1 : x.toInt < K) : ∃ n : Fin K, x = Int32.ofInt (n.1 : Int) := by
  refine ⟨⟨x.toInt.toNat, by omega⟩, ?_⟩
  have h2 : x.toInt = ((x.toInt.toNat : Nat) : Int) := by omega
  exact own_lit32 h2
theorem own_v256 (b : Int32) : ∃ n : Fin 256, (b &&& (255 : Int32)) = Int32.ofInt (n.1 : Int) := by
  have h := c_and b (255 : Int32) (by decide)
  have e : (255 : Int32).toInt = 255 := by decide
  exact own_small h.1 (by omega)
theorem own_b255 (a : Int32) : a.toInt8.toInt32 = (a &&& (255 : Int32)).toInt8.toInt32 := by
  have h1 := c_i2b a; have h2 := c_i2b (a &&& (255 : Int32))
  have h3 := c_mask a (255 : Int32) 8 (by decide) (by decide)
  rw [← Int32.toInt_inj]; omega
theorem own_four (x : Int32) : (x &&& (3 : Int32)) = (0 : Int32) ∨ (x &&& (3 : Int32)) = (1 : Int32) ∨ (x &&& (3 : Int32)) = (2 : Int32) ∨ (x &&& (3 : Int32)) = (3 : Int32) := by
  have h := c_and x (3 : Int32) (by decide)
  have e : (0 : Int32).toInt = 0 ∧ (1 : Int32).toInt = 1 ∧ (2 : Int32).toInt = 2 ∧ (3 : Int32).toInt = 3 := by decide
  simp only [← Int32.toInt_inj]; omega
theorem own_hel {t : Term} {args : Array Value} {s : State} {a : Addr} {cl : Cell} {ty : FieldType} {k : Int64} {G : Jvm.Cond} (hty : ty = .int ∨ ty = .boolean ∨ ty = .byte ∨ ty = .char ∨ ty = .short) (hf : Fit s) (ht : ∀ idx, t.eval args s none idx s = some (.ref a)) (A : Arr s s.heap a cl ty) (hl : cl.slots.size < 2 ^ 31) (h : (Jvm.Cond.all t (Jvm.Cond.or G (Jvm.Cond.eq (.op1 .i2l (.elem t (.index 0))) (.op2 .ladd (.op1 .i2l (.index 0)) (.long k))))).value args s none s [] = some true)
    (i : Nat) (hi : i < cl.slots.size) (hG : G.value args s none s [i] = some false) (y : Int32) (hy : y.toInt64 = (Nat.toInt32 i).toInt64 + k) : cl.slots[i]? = some (.int y) := by
  have ha : s.arrayAt? a = some cl := Arr.fin (Vm.Alike.refl _) A
  have q := Jvm.Cond.all_elim (ht []) ha h i hi
  have e1 : (Nat.toInt32 i).toNatClampNeg = i := by simp only [Int32.toNatClampNeg, len_toInt (Nat.lt_trans hi hl)]; rfl
  obtain ⟨v, hv, hfit⟩ := elem_fit (j := Nat.toInt32 i) hf A (idx_in hi hl)
  obtain ⟨x, rfl⟩ := fit_I hfit hty
  rw [e1] at hv
  have hx : (Term.elem t (.index 0)).eval args s none [i] s = some (.int x) := by
    rw [elem_f (j := Nat.toInt32 i) (ht [i]) (by simp [Term.eval]) ha (by have := idx_in hi hl; exact fun z => this (Or.inl z)), e1]; exact hv
  have q2 : (Jvm.Cond.eq (.op1 .i2l (.elem t (.index 0))) (.op2 .ladd (.op1 .i2l (.index 0)) (.long k))).value args s none s [i] = some true := by
    simpa [Jvm.Cond.value, hG] using q
  have q3 : x.toInt64 = (Nat.toInt32 i).toInt64 + k := by
    have a1 : (Term.op1 .i2l (.elem t (.index 0))).eval args s none [i] s = some (.long x.toInt64) := by rw [op1_f hx]; rfl
    have a2 : (Term.op2 .ladd (.op1 .i2l (.index 0)) (.long k)).eval args s none [i] s = some (.long ((Nat.toInt32 i).toInt64 + k)) := by
      rw [op2_f (x := .long (Nat.toInt32 i).toInt64) (y := .long k) (by rw [op1_f (x := .int (Nat.toInt32 i)) (by simp [Term.eval])]; rfl) rfl]; rfl
    exact gotT (eq_L a1 a2) q2
  have q4 : x = y := by
    rw [← Int32.toInt_inj]; have z1 := c_i2l x; have z2 := c_i2l y; rw [q3, ← hy] at z1; omega
  rw [hv, q4]
theorem d6_0 : decode jdk_42_method_152_code 0 = .ok (.getstatic 38, 3) := by decide +kernel
theorem d6_3 : decode jdk_42_method_152_code 3 = .ok (.ifCond .eq 10, 3) := by decide +kernel
theorem d6_6 : decode jdk_42_method_152_code 6 = .ok (.aload_n 0, 1) := by decide +kernel
theorem d6_7 : decode jdk_42_method_152_code 7 = .ok (.getfield 15, 3) := by decide +kernel
theorem d6_10 : decode jdk_42_method_152_code 10 = .ok (.goto 4, 3) := by decide +kernel
theorem d6_13 : decode jdk_42_method_152_code 13 = .ok (.iconst 1, 1) := by decide +kernel
theorem d6_14 : decode jdk_42_method_152_code 14 = .ok (.ireturn, 1) := by decide +kernel
theorem ef_6 (a1 : Addr) (m : MethodId) : entryFrame m #[(.ref a1)] 1 = mkF m 0 #[.val (.ref a1)] [] := by first | (simp [entryFrame, mkF, argsToLocals, Value.category]; done) | rfl
theorem pn_0 : plainName "java/lang/String" = true := by first | (simp [plainName, overriddenIn]; done) | decide +kernel
set_option maxRecDepth 65536 in
set_option maxHeartbeats 40000000 in
theorem rm6 (l : Launch) (Z : State) (a0 : Array Value) (hw : ∀ d ∈ tables_1, d.before a0 Z = true) (ws : List Jvm.Cond) (a1 : Addr) (cz : Int32) (h0 : Heap) (n0 : Nat) (Z0 : n0 ≤ h0.size) (O0 : Old Z n0 h0) (SC : Sta Z Z.heap "java/lang/String" "COMPACT_STRINGS" "Z" (.int cz)) (hcz : ¬ cz = (0 : Int32)) (FC_a1 : Fld Z h0 a1 "java/lang/String" "coder" "B" (.int (0 : Int32))) :
    own_Met l (⟨"java/lang/String", "coder", "()B"⟩ : MethodName) jdk_42_method_152_code 1 (some .byte) ws ({ frames := 0, cells := 0, slots := 0, locals := 0 } : Room) #[(.ref a1)] Z h0 (fun v h L => v = some (.int (0 : Int32)) ∧ Fr n0 L ∧ h = h0) := by
  refine own_body (plainFor_of_name pn_0) (ef_6 a1) ?_
  intro p e s m below meth c T0 X0 hx hby hml0 hret hlk hnm hown hZ e0
  have hml : c.maxLocals = 1 := hml0
  have N0 := Fr.nil n0
  obtain ⟨T1, X1, e1, st1⟩ := getS2 X0 hx hZ hown (host := "") (Or.inl (hw _ (List.mem_of_getElem? (i := 41) rfl))) Via.refl e0 (SC.ext O0.2) (g := (mkF m 0 #[.val (.ref a1)] [])) rfl (hb hby d6_0)
  refine own_step st1 ?_
  show own_Go _ _ _ _ T1 (mkF m 3 #[.val (.ref a1)] [(.int cz)])
  refine own_step (fun _ k => XS.ifNo X1.here hx rfl (hb hby d6_3) rfl ((if0 _ _).trans (feq hcz).1) k) ?_
  show own_Go _ _ _ _ T1 (mkF m 6 #[.val (.ref a1)] [])
  refine own_step (fun _ k => XS.aloadN X1.here hx rfl (hb hby d6_6) rfl rfl k) ?_
  show own_Go _ _ _ _ T1 (mkF m 7 #[.val (.ref a1)] [(.ref a1)])
  obtain ⟨T2, X2, e2, st2⟩ := getF X1 hx hZ hown (host := "") (Or.inl (hw _ (List.mem_of_getElem? (i := 22) rfl))) Via.refl e1 FC_a1 (g := (mkF m 7 #[.val (.ref a1)] [(.ref a1)])) rfl rfl (hb hby d6_7)
  refine own_step st2 ?_
  show own_Go _ _ _ _ T2 (mkF m 10 #[.val (.ref a1)] [(.int (0 : Int32))])
  refine own_step (fun _ k => XS.goto X2.here hx rfl (pc0 := 10) (pc' := 14) rfl (hb hby d6_10) (by decide) (by decide) k) ?_
  show own_Go _ _ _ _ T2 (mkF m 14 #[.val (.ref a1)] [(.int (0 : Int32))])
  exact own_retN X2 hx (t := .byte) hret (by simp) hlk (hb hby d6_14) rfl (own_N ⟨rfl, N0, e2⟩ (by decide) (by decide)) 
theorem d5_0 : decode jdk_42_method_54_code 0 = .ok (.aload_n 0, 1) := by decide +kernel
theorem d5_1 : decode jdk_42_method_54_code 1 = .ok (.getfield 9, 3) := by decide +kernel
theorem d5_4 : decode jdk_42_method_54_code 4 = .ok (.arraylength, 1) := by decide +kernel
theorem d5_5 : decode jdk_42_method_54_code 5 = .ok (.aload_n 0, 1) := by decide +kernel
theorem d5_6 : decode jdk_42_method_54_code 6 = .ok (.invokevirtual 335, 3) := by decide +kernel
theorem d5_9 : decode jdk_42_method_54_code 9 = .ok (.ishr, 1) := by decide +kernel
theorem d5_10 : decode jdk_42_method_54_code 10 = .ok (.ireturn, 1) := by decide +kernel
theorem ef_5 (a1 : Addr) (m : MethodId) : entryFrame m #[(.ref a1)] 1 = mkF m 0 #[.val (.ref a1)] [] := by first | (simp [entryFrame, mkF, argsToLocals, Value.category]; done) | rfl
theorem pd_0 : parseMethodDescriptor "()B" = some ⟨[], some .byte⟩ := by decide +kernel
set_option maxRecDepth 65536 in
set_option maxHeartbeats 40000000 in
theorem rm5 (l : Launch) (Z : State) (a0 : Array Value) (hw : ∀ d ∈ tables_1, d.before a0 Z = true) (ws : List Jvm.Cond) (a1 : Addr) (cz : Int32) (b : Addr) (kb : ClassId) (z : Int32) (vs : List Value) (h0 : Heap) (n0 : Nat) (Z0 : n0 ≤ h0.size) (O0 : Old Z n0 h0) (SC : Sta Z Z.heap "java/lang/String" "COMPACT_STRINGS" "Z" (.int cz)) (hcz : ¬ cz = (0 : Int32)) (E_a1 : Exa Z h0 a1 "java/lang/String") (FC_a1 : Fld Z h0 a1 "java/lang/String" "coder" "B" (.int (0 : Int32))) (FV_a1 : Fld Z h0 a1 "java/lang/String" "value" "[B" (.ref b)) (VB : Arv Z h0 b kb .byte z vs (.int (0 : Int32))) :
    own_Met l (⟨"java/lang/String", "length", "()I"⟩ : MethodName) jdk_42_method_54_code 1 (some .int) ws ({ frames := 2, cells := 0, slots := 0, locals := 40 } : Room) #[(.ref a1)] Z h0 (fun v h L => v = some (.int z) ∧ Fr n0 L ∧ h = h0) := by
  refine own_body (plainFor_of_name pn_0) (ef_5 a1) ?_
  intro p e s m below meth c T0 X0 hx hby hml0 hret hlk hnm hown hZ e0
  have hml : c.maxLocals = 1 := hml0
  have N0 := Fr.nil n0
  refine own_step (fun _ k => XS.aloadN X0.here hx rfl (hb hby d5_0) rfl rfl k) ?_
  show own_Go _ _ _ _ T0 (mkF m 1 #[.val (.ref a1)] [(.ref a1)])
  obtain ⟨T1, X1, e1, st1⟩ := getF X0 hx hZ hown (host := "") (Or.inl (hw _ (List.mem_of_getElem? (i := 21) rfl))) Via.refl e0 FV_a1 (g := (mkF m 1 #[.val (.ref a1)] [(.ref a1)])) rfl rfl (hb hby d5_1)
  refine own_step st1 ?_
  show own_Go _ _ _ _ T1 (mkF m 4 #[.val (.ref a1)] [(.ref b)])
  refine own_step (own_len X1 hx hZ e1 VB (g := (mkF m 4 #[.val (.ref a1)] [(.ref b)])) rfl rfl (hb hby d5_4)) ?_
  show own_Go _ _ _ _ T1 (mkF m 5 #[.val (.ref a1)] [(.int z)])
  refine own_step (fun _ k => XS.aloadN X1.here hx rfl (hb hby d5_5) rfl rfl k) ?_
  show own_Go _ _ _ _ T1 (mkF m 6 #[.val (.ref a1)] [(.ref a1), (.int z)])
  refine own_callV X1 hx hZ (y := (⟨"java/lang/String", "coder", "()B"⟩ : MethodName)) (z := (⟨"java/lang/String", "coder", "()B"⟩ : MethodName)) hown (hw _ (List.mem_of_getElem? (i := 36) rfl)) (hw _ (List.mem_of_getElem? (i := 37) rfl)) (hw _ (List.mem_of_getElem? (i := 39) rfl)) (hw _ (List.mem_of_getElem? (i := 39) rfl)) (hw _ (List.mem_of_getElem? (i := 38) rfl)) (hw _ (List.mem_of_getElem? (i := 3) rfl)) (hw _ (List.mem_of_getElem? (i := 40) rfl)) (by decide) (rm6 l Z a0 hw [] a1 cz h0 n0 Z0 O0 SC hcz FC_a1) e1 (b := a1) E_a1 1 (by decide) (by decide) (by decide) (by decide) (g := (mkF m 6 #[.val (.ref a1)] [(.ref a1), (.int z)])) rfl (by rw [hml]; rfl) [] [(.int z)] pd_0 rfl rfl rfl (by show 2 * 0 + _ ≤ _; exact Nat.le_of_eq rfl) (hb hby d5_6) ?_
  rintro v2 T2 L2 X2 ⟨rfl, Nq2, e2⟩
  have N2 := Fr.app N0 Nq2
  show own_Go _ _ _ _ T2 (mkF m 9 #[.val (.ref a1)] [(.int (0 : Int32)), (.int z)])
  refine own_step (fun _ k => XS.ishr X2.here hx rfl (hb hby d5_9) rfl k) ?_
  show own_Go _ _ _ _ T2 (mkF m 10 #[.val (.ref a1)] [(.int (z >>> ((0 : Int32) &&& 31)))])
  rw [own_shr0]
  show own_Go _ _ _ _ T2 (mkF m 10 #[.val (.ref a1)] [(.int z)])
  exact own_retI X2 hx hret hlk (hb hby d5_10) (own_N ⟨rfl, N2, e2⟩ (by decide) (by decide)) 
theorem d12_0 : decode jdk_42_method_154_code 0 = .ok (.getstatic 38, 3) := by decide +kernel
theorem d12_3 : decode jdk_42_method_154_code 3 = .ok (.ifCond .eq 14, 3) := by decide +kernel
theorem d12_6 : decode jdk_42_method_154_code 6 = .ok (.aload_n 0, 1) := by decide +kernel
theorem d12_7 : decode jdk_42_method_154_code 7 = .ok (.getfield 15, 3) := by decide +kernel
theorem d12_10 : decode jdk_42_method_154_code 10 = .ok (.ifCond .ne 7, 3) := by decide +kernel
theorem d12_13 : decode jdk_42_method_154_code 13 = .ok (.iconst 1, 1) := by decide +kernel
theorem d12_14 : decode jdk_42_method_154_code 14 = .ok (.goto 4, 3) := by decide +kernel
theorem d12_17 : decode jdk_42_method_154_code 17 = .ok (.iconst 0, 1) := by decide +kernel
theorem d12_18 : decode jdk_42_method_154_code 18 = .ok (.ireturn, 1) := by decide +kernel
theorem ef_12 (a1 : Addr) (m : MethodId) : entryFrame m #[(.ref a1)] 1 = mkF m 0 #[.val (.ref a1)] [] := by first | (simp [entryFrame, mkF, argsToLocals, Value.category]; done) | rfl
set_option maxRecDepth 65536 in
set_option maxHeartbeats 40000000 in
theorem rm12 (l : Launch) (Z : State) (a0 : Array Value) (hw : ∀ d ∈ tables_1, d.before a0 Z = true) (ws : List Jvm.Cond) (a1 : Addr) (cz : Int32) (h0 : Heap) (n0 : Nat) (Z0 : n0 ≤ h0.size) (O0 : Old Z n0 h0) (SC : Sta Z Z.heap "java/lang/String" "COMPACT_STRINGS" "Z" (.int cz)) (hcz : ¬ cz = (0 : Int32)) (FC_a1 : Fld Z h0 a1 "java/lang/String" "coder" "B" (.int (0 : Int32))) :
    own_Met l (⟨"java/lang/String", "isLatin1", "()Z"⟩ : MethodName) jdk_42_method_154_code 1 (some .boolean) ws ({ frames := 0, cells := 0, slots := 0, locals := 0 } : Room) #[(.ref a1)] Z h0 (fun v h L => v = some (.int (1 : Int32)) ∧ Fr n0 L ∧ h = h0) := by
  refine own_body (plainFor_of_name pn_0) (ef_12 a1) ?_
  intro p e s m below meth c T0 X0 hx hby hml0 hret hlk hnm hown hZ e0
  have hml : c.maxLocals = 1 := hml0
  have N0 := Fr.nil n0
  obtain ⟨T1, X1, e1, st1⟩ := getS2 X0 hx hZ hown (host := "") (Or.inl (hw _ (List.mem_of_getElem? (i := 41) rfl))) Via.refl e0 (SC.ext O0.2) (g := (mkF m 0 #[.val (.ref a1)] [])) rfl (hb hby d12_0)
  refine own_step st1 ?_
  show own_Go _ _ _ _ T1 (mkF m 3 #[.val (.ref a1)] [(.int cz)])
  refine own_step (fun _ k => XS.ifNo X1.here hx rfl (hb hby d12_3) rfl ((if0 _ _).trans (feq hcz).1) k) ?_
  show own_Go _ _ _ _ T1 (mkF m 6 #[.val (.ref a1)] [])
  refine own_step (fun _ k => XS.aloadN X1.here hx rfl (hb hby d12_6) rfl rfl k) ?_
  show own_Go _ _ _ _ T1 (mkF m 7 #[.val (.ref a1)] [(.ref a1)])
  obtain ⟨T2, X2, e2, st2⟩ := getF X1 hx hZ hown (host := "") (Or.inl (hw _ (List.mem_of_getElem? (i := 22) rfl))) Via.refl e1 FC_a1 (g := (mkF m 7 #[.val (.ref a1)] [(.ref a1)])) rfl rfl (hb hby d12_7)
  refine own_step st2 ?_
  show own_Go _ _ _ _ T2 (mkF m 10 #[.val (.ref a1)] [(.int (0 : Int32))])
  refine own_step (fun _ k => XS.ifNo X2.here hx rfl (hb hby d12_10) rfl ((if0 _ _).trans (teq (by decide : (0 : Int32) = (0 : Int32))).2) k) ?_
  show own_Go _ _ _ _ T2 (mkF m 13 #[.val (.ref a1)] [])
  refine own_step (fun _ k => XS.iconst X2.here hx rfl (hb hby d12_13) k) ?_
  show own_Go _ _ _ _ T2 (mkF m 14 #[.val (.ref a1)] [(.int (1 : Int32))])
  refine own_step (fun _ k => XS.goto X2.here hx rfl (pc0 := 14) (pc' := 18) rfl (hb hby d12_14) (by decide) (by decide) k) ?_
  show own_Go _ _ _ _ T2 (mkF m 18 #[.val (.ref a1)] [(.int (1 : Int32))])
  exact own_retN X2 hx (t := .boolean) hret (by simp) hlk (hb hby d12_18) rfl (own_N ⟨rfl, N0, e2⟩ (by decide) (by decide)) 
theorem d15_0 : decode jdk_41_method_11_code 0 = .ok (.iload_n 0, 1) := by decide +kernel
theorem d15_1 : decode jdk_41_method_11_code 1 = .ok (.ifCond .lt 8, 3) := by decide +kernel
theorem d15_4 : decode jdk_41_method_11_code 4 = .ok (.iload_n 0, 1) := by decide +kernel
theorem d15_5 : decode jdk_41_method_11_code 5 = .ok (.iload_n 1, 1) := by decide +kernel
theorem d15_6 : decode jdk_41_method_11_code 6 = .ok (.if_icmp .lt 10, 3) := by decide +kernel
theorem d15_9 : decode jdk_41_method_11_code 9 = .ok (.aload_n 2, 1) := by decide +kernel
theorem d15_10 : decode jdk_41_method_11_code 10 = .ok (.iload_n 0, 1) := by decide +kernel
theorem d15_11 : decode jdk_41_method_11_code 11 = .ok (.iload_n 1, 1) := by decide +kernel
theorem d15_12 : decode jdk_41_method_11_code 12 = .ok (.invokestatic 95, 3) := by decide +kernel
theorem d15_15 : decode jdk_41_method_11_code 15 = .ok (.athrow, 1) := by decide +kernel
theorem d15_16 : decode jdk_41_method_11_code 16 = .ok (.iload_n 0, 1) := by decide +kernel
theorem d15_17 : decode jdk_41_method_11_code 17 = .ok (.ireturn, 1) := by decide +kernel
theorem ef_15 (p1 : Int32) (p2 : Int32) (fv : Value) (hfv : fv.isRef = true) (m : MethodId) : entryFrame m #[(.int p1), (.int p2), fv] 3 = mkF m 0 #[.val (.int p1), .val (.int p2), .val fv] [] := by
  rcases ref_cases hfv with rfl | ⟨a, rfl⟩ <;> first | (simp [entryFrame, mkF, argsToLocals, Value.category]; done) | rfl
theorem pn_1 : plainName "jdk/internal/util/Preconditions" = true := by first | (simp [plainName, overriddenIn]; done) | decide +kernel
set_option maxRecDepth 65536 in
set_option maxHeartbeats 40000000 in
theorem rm15 (l : Launch) (Z : State) (a0 : Array Value) (hw : ∀ d ∈ tables_1, d.before a0 Z = true) (ws : List Jvm.Cond) (p1 : Int32) (p2 : Int32) (fv : Value) (h0 : Heap) (n0 : Nat) (Z0 : n0 ≤ h0.size) (hfv : fv.isRef = true) (h1 : ¬ p1 < (0 : Int32)) (h2 : p1 < p2) :
    own_Met l (⟨"jdk/internal/util/Preconditions", "checkIndex", "(IILjava/util/function/BiFunction;)I"⟩ : MethodName) jdk_41_method_11_code 3 (some .int) ws ({ frames := 0, cells := 0, slots := 0, locals := 0 } : Room) #[(.int p1), (.int p2), fv] Z h0 (fun v h L => v = some (.int p1) ∧ Fr n0 L ∧ h = h0) := by
  refine own_body (plainFor_of_name pn_1) (ef_15 p1 p2 fv hfv) ?_
  intro p e s m below meth c T0 X0 hx hby hml0 hret hlk hnm hown hZ e0
  have hml : c.maxLocals = 3 := hml0
  have N0 := Fr.nil n0
  refine own_step (fun _ k => XS.iloadN X0.here hx rfl (hb hby d15_0) rfl k) ?_
  show own_Go _ _ _ _ T0 (mkF m 1 #[.val (.int p1), .val (.int p2), .val fv] [(.int p1)])
  refine own_step (fun _ k => XS.ifNo X0.here hx rfl (hb hby d15_1) rfl ((if0 _ _).trans (flt h1).1) k) ?_
  show own_Go _ _ _ _ T0 (mkF m 4 #[.val (.int p1), .val (.int p2), .val fv] [])
  refine own_step (fun _ k => XS.iloadN X0.here hx rfl (hb hby d15_4) rfl k) ?_
  show own_Go _ _ _ _ T0 (mkF m 5 #[.val (.int p1), .val (.int p2), .val fv] [(.int p1)])
  refine own_step (fun _ k => XS.iloadN X0.here hx rfl (hb hby d15_5) rfl k) ?_
  show own_Go _ _ _ _ T0 (mkF m 6 #[.val (.int p1), .val (.int p2), .val fv] [(.int p2), (.int p1)])
  refine own_step (fun _ k => XS.icmpYes X0.here hx rfl (pc0 := 6) (pc' := 16) rfl (hb hby d15_6) rfl (tlt h2).1 (by decide) (by decide) k) ?_
  show own_Go _ _ _ _ T0 (mkF m 16 #[.val (.int p1), .val (.int p2), .val fv] [])
  refine own_step (fun _ k => XS.iloadN X0.here hx rfl (hb hby d15_16) rfl k) ?_
  show own_Go _ _ _ _ T0 (mkF m 17 #[.val (.int p1), .val (.int p2), .val fv] [(.int p1)])
  exact own_retI X0 hx hret hlk (hb hby d15_17) (own_N ⟨rfl, N0, e0⟩ (by decide) (by decide)) 
theorem d14_0 : decode jdk_42_method_155_code 0 = .ok (.iload_n 0, 1) := by decide +kernel
theorem d14_1 : decode jdk_42_method_155_code 1 = .ok (.iload_n 1, 1) := by decide +kernel
theorem d14_2 : decode jdk_42_method_155_code 2 = .ok (.getstatic 1053, 3) := by decide +kernel
theorem d14_5 : decode jdk_42_method_155_code 5 = .ok (.invokestatic 1059, 3) := by decide +kernel
theorem d14_8 : decode jdk_42_method_155_code 8 = .ok (.pop, 1) := by decide +kernel
theorem d14_9 : decode jdk_42_method_155_code 9 = .ok (.return_, 1) := by decide +kernel
theorem ef_14 (p1 : Int32) (p2 : Int32) (m : MethodId) : entryFrame m #[(.int p1), (.int p2)] 2 = mkF m 0 #[.val (.int p1), .val (.int p2)] [] := by first | (simp [entryFrame, mkF, argsToLocals, Value.category]; done) | rfl
theorem pd_1 : parseMethodDescriptor "(IILjava/util/function/BiFunction;)I" = some ⟨[.int, .int, (.object "java/util/function/BiFunction")], some .int⟩ := by decide +kernel
set_option maxRecDepth 65536 in
set_option maxHeartbeats 40000000 in
theorem rm14 (l : Launch) (Z : State) (a0 : Array Value) (hw : ∀ d ∈ tables_1, d.before a0 Z = true) (ws : List Jvm.Cond) (p1 : Int32) (p2 : Int32) (fv : Value) (h0 : Heap) (n0 : Nat) (Z0 : n0 ≤ h0.size) (O0 : Old Z n0 h0) (SF : Sta Z Z.heap "jdk/internal/util/Preconditions" "SIOOBE_FORMATTER" "Ljava/util/function/BiFunction;" fv) (hfv : fv.isRef = true) (h1 : ¬ p1 < (0 : Int32)) (h2 : p1 < p2) :
    own_Met l (⟨"java/lang/String", "checkIndex", "(II)V"⟩ : MethodName) jdk_42_method_155_code 2 none ws ({ frames := 1, cells := 0, slots := 0, locals := 14 } : Room) #[(.int p1), (.int p2)] Z h0 (fun v h L => v = none ∧ Fr n0 L ∧ h = h0) := by
  refine own_body (plainFor_of_name pn_0) (ef_14 p1 p2) ?_
  intro p e s m below meth c T0 X0 hx hby hml0 hret hlk hnm hown hZ e0
  have hml : c.maxLocals = 2 := hml0
  have N0 := Fr.nil n0
  refine own_step (fun _ k => XS.iloadN X0.here hx rfl (hb hby d14_0) rfl k) ?_
  show own_Go _ _ _ _ T0 (mkF m 1 #[.val (.int p1), .val (.int p2)] [(.int p1)])
  refine own_step (fun _ k => XS.iloadN X0.here hx rfl (hb hby d14_1) rfl k) ?_
  show own_Go _ _ _ _ T0 (mkF m 2 #[.val (.int p1), .val (.int p2)] [(.int p2), (.int p1)])
  obtain ⟨T1, X1, e1, st1⟩ := getS2 X0 hx hZ hown (host := "") (Or.inl (hw _ (List.mem_of_getElem? (i := 76) rfl))) Via.refl e0 (SF.ext O0.2) (g := (mkF m 2 #[.val (.int p1), .val (.int p2)] [(.int p2), (.int p1)])) rfl (hb hby d14_2)
  refine own_step st1 ?_
  show own_Go _ _ _ _ T1 (mkF m 5 #[.val (.int p1), .val (.int p2)] [fv, (.int p2), (.int p1)])
  refine own_callS X1 hx hZ (y := (⟨"jdk/internal/util/Preconditions", "checkIndex", "(IILjava/util/function/BiFunction;)I"⟩ : MethodName)) hown (hw _ (List.mem_of_getElem? (i := 78) rfl)) (hw _ (List.mem_of_getElem? (i := 79) rfl)) (hw _ (List.mem_of_getElem? (i := 77) rfl)) (hw _ (List.mem_of_getElem? (i := 80) rfl)) (by decide) (rm15 l Z a0 hw [] p1 p2 fv  h0 n0 Z0 hfv h1 h2) e1 0 (by decide) (by decide) (by decide) (by decide) (g := (mkF m 5 #[.val (.int p1), .val (.int p2)] [fv, (.int p2), (.int p1)])) rfl (by rw [hml]; rfl) [(.int p1), (.int p2), fv] [] pd_1 rfl rfl rfl (by show 2 * 0 + _ ≤ _; exact Nat.le_of_eq rfl) (hb hby d14_5) ?_
  rintro v2 T2 L2 X2 ⟨rfl, Nq2, e2⟩
  have N2 := Fr.app N0 Nq2
  show own_Go _ _ _ _ T2 (mkF m 8 #[.val (.int p1), .val (.int p2)] [(.int p1)])
  refine own_step (fun _ k => XS.pop X2.here hx rfl (hb hby d14_8) rfl rfl k) ?_
  show own_Go _ _ _ _ T2 (mkF m 9 #[.val (.int p1), .val (.int p2)] [])
  exact own_retV X2 hx hret hlk (hb hby d14_9) (own_N ⟨rfl, N2, e2⟩ (by decide) (by decide)) 
theorem d13_0 : decode jdk_43_method_2_code 0 = .ok (.iload_n 1, 1) := by decide +kernel
theorem d13_1 : decode jdk_43_method_2_code 1 = .ok (.aload_n 0, 1) := by decide +kernel
theorem d13_2 : decode jdk_43_method_2_code 2 = .ok (.arraylength, 1) := by decide +kernel
theorem d13_3 : decode jdk_43_method_2_code 3 = .ok (.invokestatic 9, 3) := by decide +kernel
theorem d13_6 : decode jdk_43_method_2_code 6 = .ok (.aload_n 0, 1) := by decide +kernel
theorem d13_7 : decode jdk_43_method_2_code 7 = .ok (.iload_n 1, 1) := by decide +kernel
theorem d13_8 : decode jdk_43_method_2_code 8 = .ok (.baload, 1) := by decide +kernel
theorem d13_9 : decode jdk_43_method_2_code 9 = .ok (.sipush 255, 3) := by decide +kernel
theorem d13_12 : decode jdk_43_method_2_code 12 = .ok (.iand, 1) := by decide +kernel
theorem d13_13 : decode jdk_43_method_2_code 13 = .ok (.i2c, 1) := by decide +kernel
theorem d13_14 : decode jdk_43_method_2_code 14 = .ok (.ireturn, 1) := by decide +kernel
theorem ef_13 (a1 : Addr) (p2 : Int32) (m : MethodId) : entryFrame m #[(.ref a1), (.int p2)] 2 = mkF m 0 #[.val (.ref a1), .val (.int p2)] [] := by first | (simp [entryFrame, mkF, argsToLocals, Value.category]; done) | rfl
theorem pd_2 : parseMethodDescriptor "(II)V" = some ⟨[.int, .int], none⟩ := by decide +kernel
theorem pn_2 : plainName "java/lang/StringLatin1" = true := by first | (simp [plainName, overriddenIn]; done) | decide +kernel
set_option maxRecDepth 65536 in
set_option maxHeartbeats 40000000 in
theorem rm13 (l : Launch) (Z : State) (a0 : Array Value) (hw : ∀ d ∈ tables_1, d.before a0 Z = true) (ws : List Jvm.Cond) (a1 : Addr) (p2 : Int32) (fv : Value) (kb : ClassId) (z : Int32) (ys : List Int32) (h0 : Heap) (n0 : Nat) (Z0 : n0 ≤ h0.size) (O0 : Old Z n0 h0) (SF : Sta Z Z.heap "jdk/internal/util/Preconditions" "SIOOBE_FORMATTER" "Ljava/util/function/BiFunction;" fv) (hfv : fv.isRef = true) (VB : Arv Z h0 a1 kb .byte z (ys.map Value.int) (.int (0 : Int32))) (h1 : ¬ p2 < (0 : Int32)) (h2 : p2 < z) :
    own_Met l (⟨"java/lang/StringLatin1", "charAt", "([BI)C"⟩ : MethodName) jdk_43_method_2_code 2 (some .char) ws ({ frames := 2, cells := 0, slots := 0, locals := 27 } : Room) #[(.ref a1), (.int p2)] Z h0 (fun v h L => v = some (.int ((ys.getD p2.toNatClampNeg (0 : Int32)) &&& (255 : Int32))) ∧ Fr n0 L ∧ h = h0) := by
  refine own_body (plainFor_of_name pn_2) (ef_13 a1 p2) ?_
  intro p e s m below meth c T0 X0 hx hby hml0 hret hlk hnm hown hZ e0
  have hml : c.maxLocals = 2 := hml0
  have N0 := Fr.nil n0
  refine own_step (fun _ k => XS.iloadN X0.here hx rfl (hb hby d13_0) rfl k) ?_
  show own_Go _ _ _ _ T0 (mkF m 1 #[.val (.ref a1), .val (.int p2)] [(.int p2)])
  refine own_step (fun _ k => XS.aloadN X0.here hx rfl (hb hby d13_1) rfl rfl k) ?_
  show own_Go _ _ _ _ T0 (mkF m 2 #[.val (.ref a1), .val (.int p2)] [(.ref a1), (.int p2)])
  refine own_step (own_len X0 hx hZ e0 VB (g := (mkF m 2 #[.val (.ref a1), .val (.int p2)] [(.ref a1), (.int p2)])) rfl rfl (hb hby d13_2)) ?_
  show own_Go _ _ _ _ T0 (mkF m 3 #[.val (.ref a1), .val (.int p2)] [(.int z), (.int p2)])
  refine own_callS X0 hx hZ (y := (⟨"java/lang/String", "checkIndex", "(II)V"⟩ : MethodName)) hown (hw _ (List.mem_of_getElem? (i := 73) rfl)) (hw _ (List.mem_of_getElem? (i := 74) rfl)) (hw _ (List.mem_of_getElem? (i := 3) rfl)) (hw _ (List.mem_of_getElem? (i := 75) rfl)) (by decide) (rm14 l Z a0 hw [] p2 z fv h0 n0 Z0 O0 SF hfv h1 h2) e0 0 (by decide) (by decide) (by decide) (by decide) (g := (mkF m 3 #[.val (.ref a1), .val (.int p2)] [(.int z), (.int p2)])) rfl (by rw [hml]; rfl) [(.int p2), (.int z)] [] pd_2 rfl rfl rfl (by show 2 * 0 + _ ≤ _; exact Nat.le_of_eq rfl) (hb hby d13_3) ?_
  rintro v1 T1 L1 X1 ⟨rfl, Nq1, e1⟩
  have N1 := Fr.app N0 Nq1
  show own_Go _ _ _ _ T1 (mkF m 6 #[.val (.ref a1), .val (.int p2)] [])
  refine own_step (fun _ k => XS.aloadN X1.here hx rfl (hb hby d13_6) rfl rfl k) ?_
  show own_Go _ _ _ _ T1 (mkF m 7 #[.val (.ref a1), .val (.int p2)] [(.ref a1)])
  refine own_step (fun _ k => XS.iloadN X1.here hx rfl (hb hby d13_7) rfl k) ?_
  show own_Go _ _ _ _ T1 (mkF m 8 #[.val (.ref a1), .val (.int p2)] [(.int p2), (.ref a1)])
  refine own_step (own_ldB X1 hx hZ e1 VB (j := p2) (v := (.int (ys.getD p2.toNatClampNeg (0 : Int32)))) ⟨h1, h2⟩ (own_getI ys _ _) (g := (mkF m 8 #[.val (.ref a1), .val (.int p2)] [(.int p2), (.ref a1)])) rfl rfl (hb hby d13_8)) ?_
  show own_Go _ _ _ _ T1 (mkF m 9 #[.val (.ref a1), .val (.int p2)] [(.int (ys.getD p2.toNatClampNeg (0 : Int32)))])
  refine own_step (fun _ k => XS.sipush X1.here hx rfl (hb hby d13_9) k) ?_
  show own_Go _ _ _ _ T1 (mkF m 12 #[.val (.ref a1), .val (.int p2)] [(.int (255 : Int32)), (.int (ys.getD p2.toNatClampNeg (0 : Int32)))])
  refine own_step (fun _ k => XS.iand X1.here hx rfl (hb hby d13_12) rfl k) ?_
  show own_Go _ _ _ _ T1 (mkF m 13 #[.val (.ref a1), .val (.int p2)] [(.int ((ys.getD p2.toNatClampNeg (0 : Int32)) &&& (255 : Int32)))])
  refine own_step (fun _ k => XS.i2c X1.here hx rfl (hb hby d13_13) rfl k) ?_
  show own_Go _ _ _ _ T1 (mkF m 14 #[.val (.ref a1), .val (.int p2)] [(.int (((ys.getD p2.toNatClampNeg (0 : Int32)) &&& (255 : Int32)).toUInt32.toUInt16.toUInt32.toInt32))])
  rw [own_ci]
  show own_Go _ _ _ _ T1 (mkF m 14 #[.val (.ref a1), .val (.int p2)] [(.int ((ys.getD p2.toNatClampNeg (0 : Int32)) &&& (255 : Int32)))])
  exact own_retN X1 hx (t := .char) hret (by simp) hlk (hb hby d13_14) (own_ci _) (own_N ⟨rfl, N1, e1⟩ (by decide) (by decide))
theorem d11_0 : decode jdk_42_method_56_code 0 = .ok (.aload_n 0, 1) := by decide +kernel
theorem d11_1 : decode jdk_42_method_56_code 1 = .ok (.invokevirtual 492, 3) := by decide +kernel
theorem d11_4 : decode jdk_42_method_56_code 4 = .ok (.ifCond .eq 12, 3) := by decide +kernel
theorem d11_7 : decode jdk_42_method_56_code 7 = .ok (.aload_n 0, 1) := by decide +kernel
theorem d11_8 : decode jdk_42_method_56_code 8 = .ok (.getfield 9, 3) := by decide +kernel
theorem d11_11 : decode jdk_42_method_56_code 11 = .ok (.iload_n 1, 1) := by decide +kernel
theorem d11_12 : decode jdk_42_method_56_code 12 = .ok (.invokestatic 495, 3) := by decide +kernel
theorem d11_15 : decode jdk_42_method_56_code 15 = .ok (.ireturn, 1) := by decide +kernel
theorem d11_16 : decode jdk_42_method_56_code 16 = .ok (.aload_n 0, 1) := by decide +kernel
theorem d11_17 : decode jdk_42_method_56_code 17 = .ok (.getfield 9, 3) := by decide +kernel
theorem d11_20 : decode jdk_42_method_56_code 20 = .ok (.iload_n 1, 1) := by decide +kernel
theorem d11_21 : decode jdk_42_method_56_code 21 = .ok (.invokestatic 498, 3) := by decide +kernel
theorem d11_24 : decode jdk_42_method_56_code 24 = .ok (.ireturn, 1) := by decide +kernel
theorem ef_11 (a1 : Addr) (p2 : Int32) (m : MethodId) : entryFrame m #[(.ref a1), (.int p2)] 2 = mkF m 0 #[.val (.ref a1), .val (.int p2)] [] := by first | (simp [entryFrame, mkF, argsToLocals, Value.category]; done) | rfl
theorem pd_3 : parseMethodDescriptor "()Z" = some ⟨[], some .boolean⟩ := by decide +kernel
theorem pd_4 : parseMethodDescriptor "([BI)C" = some ⟨[(.array .byte), .int], some .char⟩ := by decide +kernel
set_option maxRecDepth 65536 in
set_option maxHeartbeats 40000000 in
theorem rm11 (l : Launch) (Z : State) (a0 : Array Value) (hw : ∀ d ∈ tables_1, d.before a0 Z = true) (ws : List Jvm.Cond) (a1 : Addr) (p2 : Int32) (cz : Int32) (fv : Value) (b : Addr) (kb : ClassId) (z : Int32) (ys : List Int32) (h0 : Heap) (n0 : Nat) (Z0 : n0 ≤ h0.size) (O0 : Old Z n0 h0) (SC : Sta Z Z.heap "java/lang/String" "COMPACT_STRINGS" "Z" (.int cz)) (hcz : ¬ cz = (0 : Int32)) (SF : Sta Z Z.heap "jdk/internal/util/Preconditions" "SIOOBE_FORMATTER" "Ljava/util/function/BiFunction;" fv) (hfv : fv.isRef = true) (E_a1 : Exa Z h0 a1 "java/lang/String") (FC_a1 : Fld Z h0 a1 "java/lang/String" "coder" "B" (.int (0 : Int32))) (FV_a1 : Fld Z h0 a1 "java/lang/String" "value" "[B" (.ref b)) (VB : Arv Z h0 b kb .byte z (ys.map Value.int) (.int (0 : Int32))) (h1 : ¬ p2 < (0 : Int32)) (h2 : p2 < z) :
    own_Met l (⟨"java/lang/String", "charAt", "(I)C"⟩ : MethodName) jdk_42_method_56_code 2 (some .char) ws ({ frames := 5, cells := 0, slots := 0, locals := 90 } : Room) #[(.ref a1), (.int p2)] Z h0 (fun v h L => v = some (.int ((ys.getD p2.toNatClampNeg (0 : Int32)) &&& (255 : Int32))) ∧ Fr n0 L ∧ h = h0) := by
  refine own_body (plainFor_of_name pn_0) (ef_11 a1 p2) ?_
  intro p e s m below meth c T0 X0 hx hby hml0 hret hlk hnm hown hZ e0
  have hml : c.maxLocals = 2 := hml0
  have N0 := Fr.nil n0
  refine own_step (fun _ k => XS.aloadN X0.here hx rfl (hb hby d11_0) rfl rfl k) ?_
  show own_Go _ _ _ _ T0 (mkF m 1 #[.val (.ref a1), .val (.int p2)] [(.ref a1)])
  refine own_callV X0 hx hZ (y := (⟨"java/lang/String", "isLatin1", "()Z"⟩ : MethodName)) (z := (⟨"java/lang/String", "isLatin1", "()Z"⟩ : MethodName)) hown (hw _ (List.mem_of_getElem? (i := 64) rfl)) (hw _ (List.mem_of_getElem? (i := 65) rfl)) (hw _ (List.mem_of_getElem? (i := 67) rfl)) (hw _ (List.mem_of_getElem? (i := 67) rfl)) (hw _ (List.mem_of_getElem? (i := 66) rfl)) (hw _ (List.mem_of_getElem? (i := 3) rfl)) (hw _ (List.mem_of_getElem? (i := 68) rfl)) (by decide) (rm12 l Z a0 hw [] a1 cz h0 n0 Z0 O0 SC hcz FC_a1) e0 (b := a1) E_a1 0 (by decide) (by decide) (by decide) (by decide) (g := (mkF m 1 #[.val (.ref a1), .val (.int p2)] [(.ref a1)])) rfl (by rw [hml]; rfl) [] [] pd_3 rfl rfl rfl (by show 2 * 0 + _ ≤ _; exact Nat.le_of_eq rfl) (hb hby d11_1) ?_
  rintro v1 T1 L1 X1 ⟨rfl, Nq1, e1⟩
  have N1 := Fr.app N0 Nq1
  show own_Go _ _ _ _ T1 (mkF m 4 #[.val (.ref a1), .val (.int p2)] [(.int (1 : Int32))])
  refine own_step (fun _ k => XS.ifNo X1.here hx rfl (hb hby d11_4) rfl ((if0 _ _).trans (feq (by decide : ¬ ((1 : Int32) = (0 : Int32)))).1) k) ?_
  show own_Go _ _ _ _ T1 (mkF m 7 #[.val (.ref a1), .val (.int p2)] [])
  refine own_step (fun _ k => XS.aloadN X1.here hx rfl (hb hby d11_7) rfl rfl k) ?_
  show own_Go _ _ _ _ T1 (mkF m 8 #[.val (.ref a1), .val (.int p2)] [(.ref a1)])
  obtain ⟨T2, X2, e2, st2⟩ := getF X1 hx hZ hown (host := "") (Or.inl (hw _ (List.mem_of_getElem? (i := 21) rfl))) Via.refl e1 FV_a1 (g := (mkF m 8 #[.val (.ref a1), .val (.int p2)] [(.ref a1)])) rfl rfl (hb hby d11_8)
  refine own_step st2 ?_
  show own_Go _ _ _ _ T2 (mkF m 11 #[.val (.ref a1), .val (.int p2)] [(.ref b)])
  refine own_step (fun _ k => XS.iloadN X2.here hx rfl (hb hby d11_11) rfl k) ?_
  show own_Go _ _ _ _ T2 (mkF m 12 #[.val (.ref a1), .val (.int p2)] [(.int p2), (.ref b)])
  refine own_callS X2 hx hZ (y := (⟨"java/lang/StringLatin1", "charAt", "([BI)C"⟩ : MethodName)) hown (hw _ (List.mem_of_getElem? (i := 69) rfl)) (hw _ (List.mem_of_getElem? (i := 70) rfl)) (hw _ (List.mem_of_getElem? (i := 71) rfl)) (hw _ (List.mem_of_getElem? (i := 72) rfl)) (by decide) (rm13 l Z a0 hw [] b p2 fv kb z ys h0 n0 Z0 O0 SF hfv VB h1 h2) e2 0 (by decide) (by decide) (by decide) (by decide) (g := (mkF m 12 #[.val (.ref a1), .val (.int p2)] [(.int p2), (.ref b)])) rfl (by rw [hml]; rfl) [(.ref b), (.int p2)] [] pd_4 rfl rfl rfl (by show 2 * 0 + _ ≤ _; exact Nat.le_of_eq rfl) (hb hby d11_12) ?_
  rintro v3 T3 L3 X3 ⟨rfl, Nq3, e3⟩
  have N3 := Fr.app N1 Nq3
  show own_Go _ _ _ _ T3 (mkF m 15 #[.val (.ref a1), .val (.int p2)] [(.int ((ys.getD p2.toNatClampNeg (0 : Int32)) &&& (255 : Int32)))])
  exact own_retN X3 hx (t := .char) hret (by simp) hlk (hb hby d11_15) (own_ci _) (own_N ⟨rfl, N3, e3⟩ (by decide) (by decide))
def own_EL : List (String × Nat) := [("java/lang/String", 7)]
theorem own_wS {Z : State} {a0 : Array Value} (hw : ∀ d ∈ tables_1, d.before a0 Z = true) : ∀ a ∈ Bundle.stringAtoms, a.before a0 Z = true := by
  intro a ha
  simp only [Bundle.stringAtoms, List.mem_cons, List.not_mem_nil, or_false] at ha
  rcases ha with rfl | rfl | rfl | rfl | rfl | rfl | rfl
  · exact (hw _ (List.mem_of_getElem? (i := 3) rfl))
  · exact (hw _ (List.mem_of_getElem? (i := 2) rfl))
  · exact (hw _ (List.mem_of_getElem? (i := 16) rfl))
  · exact (hw _ (List.mem_of_getElem? (i := 17) rfl))
  · exact (hw _ (List.mem_of_getElem? (i := 18) rfl))
  · exact (hw _ (List.mem_of_getElem? (i := 19) rfl))
  · exact (hw _ (List.mem_of_getElem? (i := 20) rfl))
theorem d8_0 : decode jdk_52_method_21_code 0 = .ok (.iconst 0, 1) := by decide +kernel
theorem d8_1 : decode jdk_52_method_21_code 1 = .ok (.istore 5, 2) := by decide +kernel
theorem d8_3 : decode jdk_52_method_21_code 3 = .ok (.iload 5, 2) := by decide +kernel
theorem d8_5 : decode jdk_52_method_21_code 5 = .ok (.iload 4, 2) := by decide +kernel
theorem d8_7 : decode jdk_52_method_21_code 7 = .ok (.if_icmp .ge 37, 3) := by decide +kernel
theorem d8_10 : decode jdk_52_method_21_code 10 = .ok (.aload_n 0, 1) := by decide +kernel
theorem d8_11 : decode jdk_52_method_21_code 11 = .ok (.iload_n 1, 1) := by decide +kernel
theorem d8_12 : decode jdk_52_method_21_code 12 = .ok (.caload, 1) := by decide +kernel
theorem d8_13 : decode jdk_52_method_21_code 13 = .ok (.istore 6, 2) := by decide +kernel
theorem d8_15 : decode jdk_52_method_21_code 15 = .ok (.iload 6, 2) := by decide +kernel
theorem d8_17 : decode jdk_52_method_21_code 17 = .ok (.sipush 255, 3) := by decide +kernel
theorem d8_20 : decode jdk_52_method_21_code 20 = .ok (.if_icmp .le 6, 3) := by decide +kernel
theorem d8_23 : decode jdk_52_method_21_code 23 = .ok (.iload 5, 2) := by decide +kernel
theorem d8_25 : decode jdk_52_method_21_code 25 = .ok (.ireturn, 1) := by decide +kernel
theorem d8_26 : decode jdk_52_method_21_code 26 = .ok (.aload_n 2, 1) := by decide +kernel
theorem d8_27 : decode jdk_52_method_21_code 27 = .ok (.iload_n 3, 1) := by decide +kernel
theorem d8_28 : decode jdk_52_method_21_code 28 = .ok (.iload 6, 2) := by decide +kernel
theorem d8_30 : decode jdk_52_method_21_code 30 = .ok (.i2b, 1) := by decide +kernel
theorem d8_31 : decode jdk_52_method_21_code 31 = .ok (.bastore, 1) := by decide +kernel
theorem d8_32 : decode jdk_52_method_21_code 32 = .ok (.iinc 1 1, 3) := by decide +kernel
theorem d8_35 : decode jdk_52_method_21_code 35 = .ok (.iinc 3 1, 3) := by decide +kernel
theorem d8_38 : decode jdk_52_method_21_code 38 = .ok (.iinc 5 1, 3) := by decide +kernel
theorem d8_41 : decode jdk_52_method_21_code 41 = .ok (.goto (-38), 3) := by decide +kernel
theorem d8_44 : decode jdk_52_method_21_code 44 = .ok (.iload 4, 2) := by decide +kernel
theorem d8_46 : decode jdk_52_method_21_code 46 = .ok (.ireturn, 1) := by decide +kernel
theorem ef_8 (a1 : Addr) (p2 : Int32) (a3 : Addr) (p4 : Int32) (p5 : Int32) (m : MethodId) : entryFrame m #[(.ref a1), (.int p2), (.ref a3), (.int p4), (.int p5)] 7 = mkF m 0 #[.val (.ref a1), .val (.int p2), .val (.ref a3), .val (.int p4), .val (.int p5), .unset, .unset] [] := by first | (simp [entryFrame, mkF, argsToLocals, Value.category]; done) | rfl
theorem pn_3 : plainName "java/lang/StringUTF16" = true := by first | (simp [plainName, overriddenIn]; done) | decide +kernel
set_option maxRecDepth 65536 in
set_option maxHeartbeats 40000000 in
theorem rm8 (l : Launch) (Z : State) (a0 : Array Value) (hw : ∀ d ∈ tables_1, d.before a0 Z = true) (ws : List Jvm.Cond) (a1 : Addr) (p2 : Int32) (a3 : Addr) (p4 : Int32) (p5 : Int32) (kc kb : ClassId) (z : Int32) (cs : List Int32) (h0 : Heap) (n0 : Nat) (Z0 : n0 ≤ h0.size) (VA : Arv Z h0 a1 kc .char z (cs.map Value.int) (.int (0 : Int32))) (VB : Arv Z h0 a3 kb .byte z ((List.replicate cs.length (0 : Int32)).map Value.int) (.int (0 : Int32))) (hcs : z.toInt = (cs.length : Nat)) (hcap : cs.length ≤ 8) (hlat : ∀ t, ¬ (255 : Int32) < cs.getD t (0 : Int32)) (hne : a1 ≠ a3) (hp5 : p5.toInt = (cs.length : Nat)) (hp2 : p2.toInt = (0 : Nat)) (hp4 : p4.toInt = (0 : Nat)) (g_a3 : n0 ≤ a3) :
    own_Met l (⟨"java/lang/StringUTF16", "compress", "([CI[BII)I"⟩ : MethodName) jdk_52_method_21_code 7 (some .int) ws ({ frames := 0, cells := 0, slots := 0, locals := 0 } : Room) #[(.ref a1), (.int p2), (.ref a3), (.int p4), (.int p5)] Z h0 (fun v h L => v = some (.int p5) ∧ Fr n0 L ∧ Keep h0 h [a3] ∧ Arv Z h a3 kb .byte z ((cs.map (fun c => c.toInt8.toInt32)).map Value.int) (.int (0 : Int32))) := by
  refine own_body (plainFor_of_name pn_3) (ef_8 a1 p2 a3 p4 p5) ?_
  intro p e s m below meth c T0 X0 hx hby hml0 hret hlk hnm hown hZ e0
  have hml : c.maxLocals = 7 := hml0
  have N0 := Fr.nil n0
  have e_1 : (1 : Int32).toInt = (1 : Nat) := by decide
  refine own_step (fun _ k => XS.iconst X0.here hx rfl (hb hby d8_0) k) ?_
  show own_Go _ _ _ _ T0 (mkF m 1 #[.val (.ref a1), .val (.int p2), .val (.ref a3), .val (.int p4), .val (.int p5), .unset, .unset] [(.int (0 : Int32))])
  refine own_step (fun _ k => XS.istore X0.here hx rfl (hb hby d8_1) rfl (l' := #[.val (.ref a1), .val (.int p2), .val (.ref a3), .val (.int p4), .val (.int p5), .val (.int (0 : Int32)), .unset]) rfl k) ?_
  show own_Go _ _ _ _ T0 (mkF m 3 #[.val (.ref a1), .val (.int p2), .val (.ref a3), .val (.int p4), .val (.int p5), .val (.int (0 : Int32)), .unset] [])
  have loop : ∀ (k j : Nat) (i1 i3 i5 : Int32) (s6 : Slot) (T : State) (hp : Heap) (locs : List Loc), Stand p l e ({ frames := 0, cells := 0, slots := 0, locals := 0 } : Room) s m #[(.ref a1), (.int p2), (.ref a3), (.int p4), (.int p5)] below meth c T locs 0 0 → T.heap = hp → Fr n0 locs → Keep h0 hp [a3] → Arv Z hp a3 kb .byte z ((own_cp cs j).map Value.int) (.int (0 : Int32)) → j + k = cs.length → i1.toInt = (j : Nat) → i3.toInt = (j : Nat) → i5.toInt = (j : Nat) → (s6 = .unset ∨ ∃ w, s6 = .val w ∧ w.category = 1) → own_Go p e below (own_EndN below s (fun v h L => v = some (.int p5) ∧ Fr n0 L ∧ Keep h0 h [a3] ∧ Arv Z h a3 kb .byte z ((cs.map (fun c => c.toInt8.toInt32)).map Value.int) (.int (0 : Int32))) ({ frames := 0, cells := 0, slots := 0, locals := 0 } : Room).cells ({ frames := 0, cells := 0, slots := 0, locals := 0 } : Room).slots) T (mkF m 3 #[.val (.ref a1), .val (.int i1), .val (.ref a3), .val (.int i3), .val (.int p5), .val (.int i5), s6] []) := by
    intro k
    induction k with
    | zero =>
      intro j i1 i3 i5 s6 T hp locs X e' N' K' V' hj h1 h3 h5 h6
      have hc : ¬ i5 < p5 := fun q => by have := (own_lt h5 hp5).mp q; omega
      obtain rfl : j = cs.length := by omega
      have Zp := Nat.le_trans Z0 K'.1
      refine own_step (fun _ k => XS.iload X.here hx rfl (hb hby d8_3) rfl k) ?_
      show own_Go _ _ _ _ T (mkF m 5 #[.val (.ref a1), .val (.int i1), .val (.ref a3), .val (.int i3), .val (.int p5), .val (.int i5), s6] [(.int i5)])
      refine own_step (fun _ k => XS.iload X.here hx rfl (hb hby d8_5) rfl k) ?_
      show own_Go _ _ _ _ T (mkF m 7 #[.val (.ref a1), .val (.int i1), .val (.ref a3), .val (.int i3), .val (.int p5), .val (.int i5), s6] [(.int p5), (.int i5)])
      refine own_step (fun _ k => XS.icmpYes X.here hx rfl (pc0 := 7) (pc' := 44) rfl (hb hby d8_7) rfl (flt hc).2.1 (by decide) (by decide) k) ?_
      show own_Go _ _ _ _ T (mkF m 44 #[.val (.ref a1), .val (.int i1), .val (.ref a3), .val (.int i3), .val (.int p5), .val (.int i5), s6] [])
      refine own_step (fun _ k => XS.iload X.here hx rfl (hb hby d8_44) rfl k) ?_
      show own_Go _ _ _ _ T (mkF m 46 #[.val (.ref a1), .val (.int i1), .val (.ref a3), .val (.int i3), .val (.int p5), .val (.int i5), s6] [(.int p5)])
      exact own_retI X hx hret hlk (hb hby d8_46) (own_N (by rw [e']; exact ⟨rfl, N', K', by rw [← own_cpN]; exact V'⟩) (by decide) (by decide)) 
    | succ k ih =>
      intro j i1 i3 i5 s6 T hp locs X e' N' K' V' hj h1 h3 h5 h6
      have hc : i5 < p5 := (own_lt h5 hp5).mpr (by omega)
      have Zp := Nat.le_trans Z0 K'.1
      refine own_step (fun _ k => XS.iload X.here hx rfl (hb hby d8_3) rfl k) ?_
      show own_Go _ _ _ _ T (mkF m 5 #[.val (.ref a1), .val (.int i1), .val (.ref a3), .val (.int i3), .val (.int p5), .val (.int i5), s6] [(.int i5)])
      refine own_step (fun _ k => XS.iload X.here hx rfl (hb hby d8_5) rfl k) ?_
      show own_Go _ _ _ _ T (mkF m 7 #[.val (.ref a1), .val (.int i1), .val (.ref a3), .val (.int i3), .val (.int p5), .val (.int i5), s6] [(.int p5), (.int i5)])
      refine own_step (fun _ k => XS.icmpNo X.here hx rfl (hb hby d8_7) rfl (tlt hc).2.1 k) ?_
      show own_Go _ _ _ _ T (mkF m 10 #[.val (.ref a1), .val (.int i1), .val (.ref a3), .val (.int i3), .val (.int p5), .val (.int i5), s6] [])
      refine own_step (fun _ k => XS.aloadN X.here hx rfl (hb hby d8_10) rfl rfl k) ?_
      show own_Go _ _ _ _ T (mkF m 11 #[.val (.ref a1), .val (.int i1), .val (.ref a3), .val (.int i3), .val (.int p5), .val (.int i5), s6] [(.ref a1)])
      refine own_step (fun _ k => XS.iloadN X.here hx rfl (hb hby d8_11) rfl k) ?_
      show own_Go _ _ _ _ T (mkF m 12 #[.val (.ref a1), .val (.int i1), .val (.ref a3), .val (.int i3), .val (.int p5), .val (.int i5), s6] [(.int i1), (.ref a1)])
      have Q1 := (VA.keep K' (ninS hne nin0))
      refine own_step (own_ldC X hx hZ e' Q1 (j := i1) (v := (.int (cs.getD j (0 : Int32)))) ⟨own_nn h1, (own_lt h1 hcs).mpr (by omega)⟩ (by rw [own_clamp h1]; exact own_getI cs _ j) (g := (mkF m 12 #[.val (.ref a1), .val (.int i1), .val (.ref a3), .val (.int i3), .val (.int p5), .val (.int i5), s6] [(.int i1), (.ref a1)])) rfl rfl (hb hby d8_12)) ?_
      show own_Go _ _ _ _ T (mkF m 13 #[.val (.ref a1), .val (.int i1), .val (.ref a3), .val (.int i3), .val (.int p5), .val (.int i5), s6] [(.int (cs.getD j (0 : Int32)))])
      -- general slot
      refine own_step (fun _ k => XS.istore X.here hx rfl (hb hby d8_13) rfl (l' := #[.val (.ref a1), .val (.int i1), .val (.ref a3), .val (.int i3), .val (.int p5), .val (.int i5), .val (.int (cs.getD j (0 : Int32)))]) (XS.store1 (o := s6) rfl h6 rfl) k) ?_
      show own_Go _ _ _ _ T (mkF m 15 #[.val (.ref a1), .val (.int i1), .val (.ref a3), .val (.int i3), .val (.int p5), .val (.int i5), .val (.int (cs.getD j (0 : Int32)))] [])
      refine own_step (fun _ k => XS.iload X.here hx rfl (hb hby d8_15) rfl k) ?_
      show own_Go _ _ _ _ T (mkF m 17 #[.val (.ref a1), .val (.int i1), .val (.ref a3), .val (.int i3), .val (.int p5), .val (.int i5), .val (.int (cs.getD j (0 : Int32)))] [(.int (cs.getD j (0 : Int32)))])
      refine own_step (fun _ k => XS.sipush X.here hx rfl (hb hby d8_17) k) ?_
      show own_Go _ _ _ _ T (mkF m 20 #[.val (.ref a1), .val (.int i1), .val (.ref a3), .val (.int i3), .val (.int p5), .val (.int i5), .val (.int (cs.getD j (0 : Int32)))] [(.int (255 : Int32)), (.int (cs.getD j (0 : Int32)))])
      refine own_step (fun _ k => XS.icmpYes X.here hx rfl (pc0 := 20) (pc' := 26) rfl (hb hby d8_20) rfl (flt (hlat j)).2.2.2 (by decide) (by decide) k) ?_
      show own_Go _ _ _ _ T (mkF m 26 #[.val (.ref a1), .val (.int i1), .val (.ref a3), .val (.int i3), .val (.int p5), .val (.int i5), .val (.int (cs.getD j (0 : Int32)))] [])
      refine own_step (fun _ k => XS.aloadN X.here hx rfl (hb hby d8_26) rfl rfl k) ?_
      show own_Go _ _ _ _ T (mkF m 27 #[.val (.ref a1), .val (.int i1), .val (.ref a3), .val (.int i3), .val (.int p5), .val (.int i5), .val (.int (cs.getD j (0 : Int32)))] [(.ref a3)])
      refine own_step (fun _ k => XS.iloadN X.here hx rfl (hb hby d8_27) rfl k) ?_
      show own_Go _ _ _ _ T (mkF m 28 #[.val (.ref a1), .val (.int i1), .val (.ref a3), .val (.int i3), .val (.int p5), .val (.int i5), .val (.int (cs.getD j (0 : Int32)))] [(.int i3), (.ref a3)])
      refine own_step (fun _ k => XS.iload X.here hx rfl (hb hby d8_28) rfl k) ?_
      show own_Go _ _ _ _ T (mkF m 30 #[.val (.ref a1), .val (.int i1), .val (.ref a3), .val (.int i3), .val (.int p5), .val (.int i5), .val (.int (cs.getD j (0 : Int32)))] [(.int (cs.getD j (0 : Int32))), (.int i3), (.ref a3)])
      refine own_step (fun _ k => XS.i2b X.here hx rfl (hb hby d8_30) rfl k) ?_
      show own_Go _ _ _ _ T (mkF m 31 #[.val (.ref a1), .val (.int i1), .val (.ref a3), .val (.int i3), .val (.int p5), .val (.int i5), .val (.int (cs.getD j (0 : Int32)))] [(.int ((cs.getD j (0 : Int32)).toInt8.toInt32)), (.int i3), (.ref a3)])
      obtain ⟨T2, h2, l2, X2, e2, W2, V2, st2⟩ := own_stB X hx hZ e' V' (j := i3) ⟨own_nn h3, (own_lt h3 hcs).mpr (by omega)⟩ j (own_clamp h3) (by rw [List.length_map, own_cpl cs j (by omega)]; omega) (g := (mkF m 31 #[.val (.ref a1), .val (.int i1), .val (.ref a3), .val (.int i3), .val (.int p5), .val (.int i5), .val (.int (cs.getD j (0 : Int32)))] [(.int ((cs.getD j (0 : Int32)).toInt8.toInt32)), (.int i3), (.ref a3)])) rfl rfl (hb hby d8_31)
      refine own_step st2 ?_
      have N2 := Fr.snoc X2 N' g_a3
      have Z2 := Nat.le_trans Zp (Keep.of_wr W2).1
      have KK2 := K'.wr W2 (Or.inl (List.mem_of_getElem? (i := 0) rfl))
      rw [own_bb] at V2
      rw [← List.map_set, own_cpS cs j (by omega)] at V2
      have V_a3_2 : Arv Z h2 a3 kb .byte z ((own_cp cs (j + 1)).map Value.int) (.int (0 : Int32)) := V2
      show own_Go _ _ _ _ T2 (mkF m 32 #[.val (.ref a1), .val (.int i1), .val (.ref a3), .val (.int i3), .val (.int p5), .val (.int i5), .val (.int (cs.getD j (0 : Int32)))] [])
      refine own_step (fun _ k => XS.iinc X2.here hx rfl (hb hby d8_32) rfl (l' := #[.val (.ref a1), .val (.int (i1 + (1 : Int32))), .val (.ref a3), .val (.int i3), .val (.int p5), .val (.int i5), .val (.int (cs.getD j (0 : Int32)))]) rfl k) ?_
      show own_Go _ _ _ _ T2 (mkF m 35 #[.val (.ref a1), .val (.int (i1 + (1 : Int32))), .val (.ref a3), .val (.int i3), .val (.int p5), .val (.int i5), .val (.int (cs.getD j (0 : Int32)))] [])
      refine own_step (fun _ k => XS.iinc X2.here hx rfl (hb hby d8_35) rfl (l' := #[.val (.ref a1), .val (.int (i1 + (1 : Int32))), .val (.ref a3), .val (.int (i3 + (1 : Int32))), .val (.int p5), .val (.int i5), .val (.int (cs.getD j (0 : Int32)))]) rfl k) ?_
      show own_Go _ _ _ _ T2 (mkF m 38 #[.val (.ref a1), .val (.int (i1 + (1 : Int32))), .val (.ref a3), .val (.int (i3 + (1 : Int32))), .val (.int p5), .val (.int i5), .val (.int (cs.getD j (0 : Int32)))] [])
      refine own_step (fun _ k => XS.iinc X2.here hx rfl (hb hby d8_38) rfl (l' := #[.val (.ref a1), .val (.int (i1 + (1 : Int32))), .val (.ref a3), .val (.int (i3 + (1 : Int32))), .val (.int p5), .val (.int (i5 + (1 : Int32))), .val (.int (cs.getD j (0 : Int32)))]) rfl k) ?_
      show own_Go _ _ _ _ T2 (mkF m 41 #[.val (.ref a1), .val (.int (i1 + (1 : Int32))), .val (.ref a3), .val (.int (i3 + (1 : Int32))), .val (.int p5), .val (.int (i5 + (1 : Int32))), .val (.int (cs.getD j (0 : Int32)))] [])
      refine own_step (fun _ k => XS.goto X2.here hx rfl (pc0 := 41) (pc' := 3) rfl (hb hby d8_41) (by decide) (by decide) k) ?_
      show own_Go _ _ _ _ T2 (mkF m 3 #[.val (.ref a1), .val (.int (i1 + (1 : Int32))), .val (.ref a3), .val (.int (i3 + (1 : Int32))), .val (.int p5), .val (.int (i5 + (1 : Int32))), .val (.int (cs.getD j (0 : Int32)))] [])
      exact ih (j + 1) _ _ _ _ T2 _ _ X2 e2 N2 KK2 V_a3_2 (by omega) (own_add h1 e_1 (by omega)) (own_add h3 e_1 (by omega)) (own_add h5 e_1 (by omega)) (Or.inr ⟨_, rfl, rfl⟩)
  exact loop cs.length 0 p2 p4 (0 : Int32) .unset T0 h0 [] X0 e0 N0 (Keep.refl h0 [a3]) (by rw [own_cp0]; exact VB) (by omega) hp2 hp4 rfl (Or.inl rfl)
theorem d7_0 : decode jdk_52_method_16_code 0 = .ok (.iload_n 2, 1) := by decide +kernel
theorem d7_1 : decode jdk_52_method_16_code 1 = .ok (.newarray .byte, 2) := by decide +kernel
theorem d7_3 : decode jdk_52_method_16_code 3 = .ok (.astore_n 3, 1) := by decide +kernel
theorem d7_4 : decode jdk_52_method_16_code 4 = .ok (.aload_n 0, 1) := by decide +kernel
theorem d7_5 : decode jdk_52_method_16_code 5 = .ok (.iload_n 1, 1) := by decide +kernel
theorem d7_6 : decode jdk_52_method_16_code 6 = .ok (.aload_n 3, 1) := by decide +kernel
theorem d7_7 : decode jdk_52_method_16_code 7 = .ok (.iconst 0, 1) := by decide +kernel
theorem d7_8 : decode jdk_52_method_16_code 8 = .ok (.iload_n 2, 1) := by decide +kernel
theorem d7_9 : decode jdk_52_method_16_code 9 = .ok (.invokestatic 115, 3) := by decide +kernel
theorem d7_12 : decode jdk_52_method_16_code 12 = .ok (.istore 4, 2) := by decide +kernel
theorem d7_14 : decode jdk_52_method_16_code 14 = .ok (.iload 4, 2) := by decide +kernel
theorem d7_16 : decode jdk_52_method_16_code 16 = .ok (.iload_n 2, 1) := by decide +kernel
theorem d7_17 : decode jdk_52_method_16_code 17 = .ok (.if_icmp .eq 40, 3) := by decide +kernel
theorem d7_20 : decode jdk_52_method_16_code 20 = .ok (.aload_n 0, 1) := by decide +kernel
theorem d7_21 : decode jdk_52_method_16_code 21 = .ok (.iload_n 1, 1) := by decide +kernel
theorem d7_22 : decode jdk_52_method_16_code 22 = .ok (.iload_n 2, 1) := by decide +kernel
theorem d7_23 : decode jdk_52_method_16_code 23 = .ok (.invokestatic 119, 3) := by decide +kernel
theorem d7_26 : decode jdk_52_method_16_code 26 = .ok (.astore 5, 2) := by decide +kernel
theorem d7_28 : decode jdk_52_method_16_code 28 = .ok (.aload 5, 2) := by decide +kernel
theorem d7_30 : decode jdk_52_method_16_code 30 = .ok (.iload 4, 2) := by decide +kernel
theorem d7_32 : decode jdk_52_method_16_code 32 = .ok (.invokestatic 71, 3) := by decide +kernel
theorem d7_35 : decode jdk_52_method_16_code 35 = .ok (.sipush 255, 3) := by decide +kernel
theorem d7_38 : decode jdk_52_method_16_code 38 = .ok (.if_icmp .gt 16, 3) := by decide +kernel
theorem d7_41 : decode jdk_52_method_16_code 41 = .ok (.aload 5, 2) := by decide +kernel
theorem d7_43 : decode jdk_52_method_16_code 43 = .ok (.iconst 0, 1) := by decide +kernel
theorem d7_44 : decode jdk_52_method_16_code 44 = .ok (.aload_n 3, 1) := by decide +kernel
theorem d7_45 : decode jdk_52_method_16_code 45 = .ok (.iconst 0, 1) := by decide +kernel
theorem d7_46 : decode jdk_52_method_16_code 46 = .ok (.iload_n 2, 1) := by decide +kernel
theorem d7_47 : decode jdk_52_method_16_code 47 = .ok (.invokestatic 123, 3) := by decide +kernel
theorem d7_50 : decode jdk_52_method_16_code 50 = .ok (.iload_n 2, 1) := by decide +kernel
theorem d7_51 : decode jdk_52_method_16_code 51 = .ok (.if_icmp .eq 6, 3) := by decide +kernel
theorem d7_54 : decode jdk_52_method_16_code 54 = .ok (.aload 5, 2) := by decide +kernel
theorem d7_56 : decode jdk_52_method_16_code 56 = .ok (.areturn, 1) := by decide +kernel
theorem d7_57 : decode jdk_52_method_16_code 57 = .ok (.aload_n 3, 1) := by decide +kernel
theorem d7_58 : decode jdk_52_method_16_code 58 = .ok (.areturn, 1) := by decide +kernel
theorem ef_7 (a1 : Addr) (p2 : Int32) (z : Int32) (m : MethodId) : entryFrame m #[(.ref a1), (.int p2), (.int z)] 6 = mkF m 0 #[.val (.ref a1), .val (.int p2), .val (.int z), .unset, .unset, .unset] [] := by first | (simp [entryFrame, mkF, argsToLocals, Value.category]; done) | rfl
theorem pd_5 : parseMethodDescriptor "([CI[BII)I" = some ⟨[(.array .char), .int, (.array .byte), .int, .int], some .int⟩ := by decide +kernel
set_option maxRecDepth 65536 in
set_option maxHeartbeats 40000000 in
theorem rm7 (l : Launch) (Z : State) (a0 : Array Value) (hw : ∀ d ∈ tables_1, d.before a0 Z = true) (ws : List Jvm.Cond) (a1 : Addr) (p2 : Int32) (z : Int32) (kc : ClassId) (cs : List Int32) (h0 : Heap) (n0 : Nat) (Z0 : n0 ≤ h0.size) (VA : Arv Z h0 a1 kc .char z (cs.map Value.int) (.int (0 : Int32))) (hcs : z.toInt = (cs.length : Nat)) (hcap : cs.length ≤ 8) (hlat : ∀ t, ¬ (255 : Int32) < cs.getD t (0 : Int32)) (hp2 : p2.toInt = (0 : Nat)) :
    own_Met l (⟨"java/lang/StringUTF16", "compress", "([CII)[B"⟩ : MethodName) jdk_52_method_16_code 6 (some (.array .byte)) ws ({ frames := 1, cells := 1, slots := 8, locals := 18 } : Room) #[(.ref a1), (.int p2), (.int z)] Z h0 (fun v h L => ∃ b k, v = some (.ref b) ∧ Fr n0 L ∧ Keep h0 h [] ∧ n0 ≤ b ∧ h0.size ≤ b ∧ Arv Z h b k .byte z ((cs.map (fun c => c.toInt8.toInt32)).map Value.int) (.int (0 : Int32))) := by
  refine own_body (plainFor_of_name pn_3) (ef_7 a1 p2 z) ?_
  intro p e s m below meth c T0 X0 hx hby hml0 hret hlk hnm hown hZ e0
  have hml : c.maxLocals = 6 := hml0
  have N0 := Fr.nil n0
  refine own_step (fun _ k => XS.iloadN X0.here hx rfl (hb hby d7_0) rfl k) ?_
  show own_Go _ _ _ _ T0 (mkF m 1 #[.val (.ref a1), .val (.int p2), .val (.int z), .unset, .unset, .unset] [(.int z)])
  have hzc := own_clamp hcs
  obtain ⟨T1, h1, k1, b, g1, X1, e1, E1, V1, st1⟩ := own_newA X0 hx hZ (hw _ (List.mem_of_getElem? (i := 16) rfl)) e0 (g := (mkF m 1 #[.val (.ref a1), .val (.int p2), .val (.int z), .unset, .unset, .unset] [(.int z)])) rfl (hb hby d7_1) rfl (own_nn hcs) (cap := 8) (by rw [hzc]; exact hcap) (by decide) (by decide) (by decide)
  have ne_a1_b : a1 ≠ b := Nat.ne_of_lt (Nat.lt_of_lt_of_eq VA.lt g1.symm)
  have g_b : n0 ≤ b := Nat.le_trans Z0 (Nat.le_of_eq g1.symm)
  have sz_b : h0.size ≤ b := Nat.le_trans (Keep.refl h0 []).1 (Nat.le_of_eq g1.symm)
  refine own_step st1 ?_
  have Z1 := Nat.le_trans Z0 E1.1
  have KK1 := (Keep.refl h0 []).ext E1
  have VB : Arv Z h1 b k1 .byte z ((List.replicate cs.length (0 : Int32)).map Value.int) (.int (0 : Int32)) := by
    refine Arv.pad V1 (fun i => ?_)
    rw [List.map_replicate]; show _ = (List.replicate 8 (Value.int 0)).getD i (.int 0)
    simp only [List.getD_eq_getElem?_getD, List.getElem?_replicate]; split <;> split <;> rfl
  show own_Go _ _ _ _ T1 (mkF m 3 #[.val (.ref a1), .val (.int p2), .val (.int z), .unset, .unset, .unset] [(.ref b)])
  refine own_step (fun _ k => XS.astoreN X1.here hx rfl (hb hby d7_3) rfl rfl (l' := #[.val (.ref a1), .val (.int p2), .val (.int z), .val (.ref b), .unset, .unset]) rfl k) ?_
  show own_Go _ _ _ _ T1 (mkF m 4 #[.val (.ref a1), .val (.int p2), .val (.int z), .val (.ref b), .unset, .unset] [])
  refine own_step (fun _ k => XS.aloadN X1.here hx rfl (hb hby d7_4) rfl rfl k) ?_
  show own_Go _ _ _ _ T1 (mkF m 5 #[.val (.ref a1), .val (.int p2), .val (.int z), .val (.ref b), .unset, .unset] [(.ref a1)])
  refine own_step (fun _ k => XS.iloadN X1.here hx rfl (hb hby d7_5) rfl k) ?_
  show own_Go _ _ _ _ T1 (mkF m 6 #[.val (.ref a1), .val (.int p2), .val (.int z), .val (.ref b), .unset, .unset] [(.int p2), (.ref a1)])
  refine own_step (fun _ k => XS.aloadN X1.here hx rfl (hb hby d7_6) rfl rfl k) ?_
  show own_Go _ _ _ _ T1 (mkF m 7 #[.val (.ref a1), .val (.int p2), .val (.int z), .val (.ref b), .unset, .unset] [(.ref b), (.int p2), (.ref a1)])
  refine own_step (fun _ k => XS.iconst X1.here hx rfl (hb hby d7_7) k) ?_
  show own_Go _ _ _ _ T1 (mkF m 8 #[.val (.ref a1), .val (.int p2), .val (.int z), .val (.ref b), .unset, .unset] [(.int (0 : Int32)), (.ref b), (.int p2), (.ref a1)])
  refine own_step (fun _ k => XS.iloadN X1.here hx rfl (hb hby d7_8) rfl k) ?_
  show own_Go _ _ _ _ T1 (mkF m 9 #[.val (.ref a1), .val (.int p2), .val (.int z), .val (.ref b), .unset, .unset] [(.int z), (.int (0 : Int32)), (.ref b), (.int p2), (.ref a1)])
  have Q2 := (VA.ext E1)
  refine own_callS X1 hx hZ (y := (⟨"java/lang/StringUTF16", "compress", "([CI[BII)I"⟩ : MethodName)) hown (hw _ (List.mem_of_getElem? (i := 46) rfl)) (hw _ (List.mem_of_getElem? (i := 47) rfl)) (hw _ (List.mem_of_getElem? (i := 44) rfl)) (hw _ (List.mem_of_getElem? (i := 48) rfl)) (by decide) (rm8 l Z a0 hw [] a1 p2 b (0 : Int32) z kc k1 z cs h1 n0 Z1 Q2 VB hcs hcap hlat ne_a1_b hcs hp2 rfl g_b) e1 0 (by decide) (by decide) (by decide) (by decide) (g := (mkF m 9 #[.val (.ref a1), .val (.int p2), .val (.int z), .val (.ref b), .unset, .unset] [(.int z), (.int (0 : Int32)), (.ref b), (.int p2), (.ref a1)])) rfl (by rw [hml]; rfl) [(.ref a1), (.int p2), (.ref b), (.int (0 : Int32)), (.int z)] [] pd_5 rfl rfl rfl (by show 2 * 0 + _ ≤ _; exact Nat.le_of_eq rfl) (hb hby d7_9) ?_
  rintro v3 T3 L3 X3 ⟨rfl, Nq3, K3, V3⟩
  have N3 := Fr.app N0 Nq3
  show own_Go _ _ _ _ T3 (mkF m 12 #[.val (.ref a1), .val (.int p2), .val (.int z), .val (.ref b), .unset, .unset] [(.int z)])
  have Z3 := Nat.le_trans Z1 K3.1
  have KK3 := KK1.trans K3 (allS (P := fun x => x ∈ [] ∨ h0.size ≤ x) (Or.inr sz_b) all0)
  refine own_step (fun _ k => XS.istore X3.here hx rfl (hb hby d7_12) rfl (l' := #[.val (.ref a1), .val (.int p2), .val (.int z), .val (.ref b), .val (.int z), .unset]) rfl k) ?_
  show own_Go _ _ _ _ T3 (mkF m 14 #[.val (.ref a1), .val (.int p2), .val (.int z), .val (.ref b), .val (.int z), .unset] [])
  refine own_step (fun _ k => XS.iload X3.here hx rfl (hb hby d7_14) rfl k) ?_
  show own_Go _ _ _ _ T3 (mkF m 16 #[.val (.ref a1), .val (.int p2), .val (.int z), .val (.ref b), .val (.int z), .unset] [(.int z)])
  refine own_step (fun _ k => XS.iloadN X3.here hx rfl (hb hby d7_16) rfl k) ?_
  show own_Go _ _ _ _ T3 (mkF m 17 #[.val (.ref a1), .val (.int p2), .val (.int z), .val (.ref b), .val (.int z), .unset] [(.int z), (.int z)])
  refine own_step (fun _ k => XS.icmpYes X3.here hx rfl (pc0 := 17) (pc' := 57) rfl (hb hby d7_17) rfl (teq (rfl : z = z)).1 (by decide) (by decide) k) ?_
  show own_Go _ _ _ _ T3 (mkF m 57 #[.val (.ref a1), .val (.int p2), .val (.int z), .val (.ref b), .val (.int z), .unset] [])
  refine own_step (fun _ k => XS.aloadN X3.here hx rfl (hb hby d7_57) rfl rfl k) ?_
  show own_Go _ _ _ _ T3 (mkF m 58 #[.val (.ref a1), .val (.int p2), .val (.int z), .val (.ref b), .val (.int z), .unset] [(.ref b)])
  exact own_retA X3 hx hret rfl hlk rfl rfl (hb hby d7_58) (own_N (by exact ⟨b, _, rfl, N3, KK3, g_b, sz_b, V3⟩) (by decide) (by decide)) 
theorem d9_0 : decode jdk_52_method_15_code 0 = .ok (.iload_n 1, 1) := by decide +kernel
theorem d9_1 : decode jdk_52_method_15_code 1 = .ok (.aload_n 0, 1) := by decide +kernel
theorem d9_2 : decode jdk_52_method_15_code 2 = .ok (.arraylength, 1) := by decide +kernel
theorem d9_3 : decode jdk_52_method_15_code 3 = .ok (.isub, 1) := by decide +kernel
theorem d9_4 : decode jdk_52_method_15_code 4 = .ok (.bipush 31, 2) := by decide +kernel
theorem d9_6 : decode jdk_52_method_15_code 6 = .ok (.iushr, 1) := by decide +kernel
theorem d9_7 : decode jdk_52_method_15_code 7 = .ok (.i2b, 1) := by decide +kernel
theorem d9_8 : decode jdk_52_method_15_code 8 = .ok (.ireturn, 1) := by decide +kernel
theorem ef_9 (a1 : Addr) (p2 : Int32) (m : MethodId) : entryFrame m #[(.ref a1), (.int p2)] 2 = mkF m 0 #[.val (.ref a1), .val (.int p2)] [] := by first | (simp [entryFrame, mkF, argsToLocals, Value.category]; done) | rfl
set_option maxRecDepth 65536 in
set_option maxHeartbeats 40000000 in
theorem rm9 (l : Launch) (Z : State) (a0 : Array Value) (hw : ∀ d ∈ tables_1, d.before a0 Z = true) (ws : List Jvm.Cond) (a1 : Addr) (p2 : Int32) (kb : ClassId) (vs : List Value) (h0 : Heap) (n0 : Nat) (Z0 : n0 ≤ h0.size) (VB : Arv Z h0 a1 kb .byte p2 vs (.int (0 : Int32))) :
    own_Met l (⟨"java/lang/StringUTF16", "coderFromArrayLen", "([BI)B"⟩ : MethodName) jdk_52_method_15_code 2 (some .byte) ws ({ frames := 0, cells := 0, slots := 0, locals := 0 } : Room) #[(.ref a1), (.int p2)] Z h0 (fun v h L => v = some (.int (0 : Int32)) ∧ Fr n0 L ∧ h = h0) := by
  refine own_body (plainFor_of_name pn_3) (ef_9 a1 p2) ?_
  intro p e s m below meth c T0 X0 hx hby hml0 hret hlk hnm hown hZ e0
  have hml : c.maxLocals = 2 := hml0
  have N0 := Fr.nil n0
  refine own_step (fun _ k => XS.iloadN X0.here hx rfl (hb hby d9_0) rfl k) ?_
  show own_Go _ _ _ _ T0 (mkF m 1 #[.val (.ref a1), .val (.int p2)] [(.int p2)])
  refine own_step (fun _ k => XS.aloadN X0.here hx rfl (hb hby d9_1) rfl rfl k) ?_
  show own_Go _ _ _ _ T0 (mkF m 2 #[.val (.ref a1), .val (.int p2)] [(.ref a1), (.int p2)])
  refine own_step (own_len X0 hx hZ e0 VB (g := (mkF m 2 #[.val (.ref a1), .val (.int p2)] [(.ref a1), (.int p2)])) rfl rfl (hb hby d9_2)) ?_
  show own_Go _ _ _ _ T0 (mkF m 3 #[.val (.ref a1), .val (.int p2)] [(.int p2), (.int p2)])
  refine own_step (fun _ k => XS.isub X0.here hx rfl (hb hby d9_3) rfl k) ?_
  show own_Go _ _ _ _ T0 (mkF m 4 #[.val (.ref a1), .val (.int p2)] [(.int (p2 - p2))])
  rw [Int32.sub_self]
  show own_Go _ _ _ _ T0 (mkF m 4 #[.val (.ref a1), .val (.int p2)] [(.int (0 : Int32))])
  refine own_step (fun _ k => XS.bipush X0.here hx rfl (hb hby d9_4) k) ?_
  show own_Go _ _ _ _ T0 (mkF m 6 #[.val (.ref a1), .val (.int p2)] [(.int (31 : Int32)), (.int (0 : Int32))])
  refine own_step (fun _ k => XS.iushr X0.here hx rfl (hb hby d9_6) rfl k) ?_
  show own_Go _ _ _ _ T0 (mkF m 7 #[.val (.ref a1), .val (.int p2)] [(.int (((0 : Int32).toUInt32 >>> ((31 : Int32) &&& 31).toUInt32).toInt32))])
  refine own_step (fun _ k => XS.i2b X0.here hx rfl (hb hby d9_7) rfl k) ?_
  show own_Go _ _ _ _ T0 (mkF m 8 #[.val (.ref a1), .val (.int p2)] [(.int ((((0 : Int32).toUInt32 >>> ((31 : Int32) &&& 31).toUInt32).toInt32).toInt8.toInt32))])
  show own_Go _ _ _ _ T0 (mkF m 8 #[.val (.ref a1), .val (.int p2)] [(.int (0 : Int32))])
  exact own_retN X0 hx (t := .byte) hret (by simp) hlk (hb hby d9_8) rfl (own_N ⟨rfl, N0, e0⟩ (by decide) (by decide)) 
theorem d10_0 : decode method_2_code 0 = .ok (.iload_n 0, 1) := by decide +kernel
theorem d10_1 : decode method_2_code 1 = .ok (.bipush 33, 2) := by decide +kernel
theorem d10_3 : decode method_2_code 3 = .ok (.if_icmp .lt 13, 3) := by decide +kernel
theorem d10_6 : decode method_2_code 6 = .ok (.iload_n 0, 1) := by decide +kernel
theorem d10_7 : decode method_2_code 7 = .ok (.bipush 126, 2) := by decide +kernel
theorem d10_9 : decode method_2_code 9 = .ok (.if_icmp .gt 7, 3) := by decide +kernel
theorem d10_12 : decode method_2_code 12 = .ok (.iconst 1, 1) := by decide +kernel
theorem d10_13 : decode method_2_code 13 = .ok (.goto 4, 3) := by decide +kernel
theorem d10_16 : decode method_2_code 16 = .ok (.iconst 0, 1) := by decide +kernel
theorem d10_17 : decode method_2_code 17 = .ok (.ireturn, 1) := by decide +kernel
theorem ef_10 (p1 : Int32) (m : MethodId) : entryFrame m #[(.int p1)] 1 = mkF m 0 #[.val (.int p1)] [] := by first | (simp [entryFrame, mkF, argsToLocals, Value.category]; done) | rfl
def own_vis (p1 : Int32) : Int32 := (if p1 < (33 : Int32) then (0 : Int32) else (if (126 : Int32) < p1 then (0 : Int32) else (1 : Int32)))
theorem pn_4 : plainName "com/example/stoa/stoa/http/HttpSyntaxIsRequestTargetPinLaw" = true := by first | (simp [plainName, overriddenIn]; done) | decide +kernel
set_option maxRecDepth 65536 in
set_option maxHeartbeats 40000000 in
theorem rm10 (l : Launch) (Z : State) (a0 : Array Value) (hw : ∀ d ∈ tables_1, d.before a0 Z = true) (ws : List Jvm.Cond) (p1 : Int32) (h0 : Heap) (n0 : Nat) (Z0 : n0 ≤ h0.size) :
    own_Met l (⟨"com/example/stoa/stoa/http/HttpSyntaxIsRequestTargetPinLaw", "visible", "(C)Z"⟩ : MethodName) method_2_code 1 (some .boolean) ws ({ frames := 0, cells := 0, slots := 0, locals := 0 } : Room) #[(.int p1)] Z h0 (fun v h L => v = some (.int (own_vis p1)) ∧ Fr n0 L ∧ h = h0) := by
  refine own_body (plainFor_of_name pn_4) (ef_10 p1) ?_
  intro p e s m below meth c T0 X0 hx hby hml0 hret hlk hnm hown hZ e0
  have hml : c.maxLocals = 1 := hml0
  have N0 := Fr.nil n0
  refine own_step (fun _ k => XS.iloadN X0.here hx rfl (hb hby d10_0) rfl k) ?_
  show own_Go _ _ _ _ T0 (mkF m 1 #[.val (.int p1)] [(.int p1)])
  refine own_step (fun _ k => XS.bipush X0.here hx rfl (hb hby d10_1) k) ?_
  show own_Go _ _ _ _ T0 (mkF m 3 #[.val (.int p1)] [(.int (33 : Int32)), (.int p1)])
  by_cases hc1 : p1 < (33 : Int32)
  · refine own_step (fun _ k => XS.icmpYes X0.here hx rfl (pc0 := 3) (pc' := 16) rfl (hb hby d10_3) rfl (tlt hc1).1 (by decide) (by decide) k) ?_
    show own_Go _ _ _ _ T0 (mkF m 16 #[.val (.int p1)] [])
    refine own_step (fun _ k => XS.iconst X0.here hx rfl (hb hby d10_16) k) ?_
    show own_Go _ _ _ _ T0 (mkF m 17 #[.val (.int p1)] [(.int (0 : Int32))])
    exact own_retN X0 hx (t := .boolean) hret (by simp) hlk (hb hby d10_17) rfl (own_N ⟨own_leafI (if_pos hc1), N0, e0⟩ (by decide) (by decide)) 
  · refine own_step (fun _ k => XS.icmpNo X0.here hx rfl (hb hby d10_3) rfl (flt hc1).1 k) ?_
    show own_Go _ _ _ _ T0 (mkF m 6 #[.val (.int p1)] [])
    refine own_step (fun _ k => XS.iloadN X0.here hx rfl (hb hby d10_6) rfl k) ?_
    show own_Go _ _ _ _ T0 (mkF m 7 #[.val (.int p1)] [(.int p1)])
    refine own_step (fun _ k => XS.bipush X0.here hx rfl (hb hby d10_7) k) ?_
    show own_Go _ _ _ _ T0 (mkF m 9 #[.val (.int p1)] [(.int (126 : Int32)), (.int p1)])
    by_cases hc2 : (126 : Int32) < p1
    · refine own_step (fun _ k => XS.icmpYes X0.here hx rfl (pc0 := 9) (pc' := 16) rfl (hb hby d10_9) rfl (tlt hc2).2.2.1 (by decide) (by decide) k) ?_
      show own_Go _ _ _ _ T0 (mkF m 16 #[.val (.int p1)] [])
      refine own_step (fun _ k => XS.iconst X0.here hx rfl (hb hby d10_16) k) ?_
      show own_Go _ _ _ _ T0 (mkF m 17 #[.val (.int p1)] [(.int (0 : Int32))])
      exact own_retN X0 hx (t := .boolean) hret (by simp) hlk (hb hby d10_17) rfl (own_N ⟨own_leafI ((if_neg hc1).trans (if_pos hc2)), N0, e0⟩ (by decide) (by decide)) 
    · refine own_step (fun _ k => XS.icmpNo X0.here hx rfl (hb hby d10_9) rfl (flt hc2).2.2.1 k) ?_
      show own_Go _ _ _ _ T0 (mkF m 12 #[.val (.int p1)] [])
      refine own_step (fun _ k => XS.iconst X0.here hx rfl (hb hby d10_12) k) ?_
      show own_Go _ _ _ _ T0 (mkF m 13 #[.val (.int p1)] [(.int (1 : Int32))])
      refine own_step (fun _ k => XS.goto X0.here hx rfl (pc0 := 13) (pc' := 17) rfl (hb hby d10_13) (by decide) (by decide) k) ?_
      show own_Go _ _ _ _ T0 (mkF m 17 #[.val (.int p1)] [(.int (1 : Int32))])
      exact own_retN X0 hx (t := .boolean) hret (by simp) hlk (hb hby d10_17) rfl (own_N ⟨own_leafI ((if_neg hc1).trans (if_neg hc2)), N0, e0⟩ (by decide) (by decide)) 
def own_lo (c : Int32) : Int32 := (c >>> ((0 : Int32) &&& 31)).toInt8.toInt32
def own_hi (c : Int32) : Int32 := (c >>> ((8 : Int32) &&& 31)).toInt8.toInt32
def own_u16 : List Int32 → List Int32
  | [] => []
  | c :: r => own_lo c :: own_hi c :: own_u16 r
def own_up : List Int32 → Nat → List Int32
  | [], _ => []
  | _ :: r, 0 => (0 : Int32) :: (0 : Int32) :: own_up r 0
  | c :: r, j + 1 => own_lo c :: own_hi c :: own_up r j
theorem own_up0 : ∀ cs : List Int32, own_up cs 0 = List.replicate (2 * cs.length) (0 : Int32)
  | [] => rfl
  | c :: r => by
    show (0 : Int32) :: (0 : Int32) :: own_up r 0 = List.replicate (2 * (r.length + 1)) (0 : Int32)
    rw [own_up0 r, show 2 * (r.length + 1) = (2 * r.length + 1) + 1 by omega, List.replicate_succ, List.replicate_succ]
theorem own_upN : ∀ cs : List Int32, own_up cs cs.length = own_u16 cs
  | [] => rfl
  | c :: r => by show own_lo c :: own_hi c :: own_up r r.length = _; rw [own_upN r]; rfl
theorem own_upl : ∀ (cs : List Int32) (j : Nat), (own_up cs j).length = 2 * cs.length
  | [], _ => rfl
  | c :: r, 0 => by show (own_up r 0).length + 1 + 1 = 2 * (r.length + 1); rw [own_upl r 0]; omega
  | c :: r, j + 1 => by show (own_up r j).length + 1 + 1 = 2 * (r.length + 1); rw [own_upl r j]; omega
theorem own_ul : ∀ cs : List Int32, (own_u16 cs).length = 2 * cs.length
  | [] => rfl
  | c :: r => by show (own_u16 r).length + 1 + 1 = 2 * (r.length + 1); rw [own_ul r]; omega
theorem own_upS : ∀ (cs : List Int32) (j : Nat), j < cs.length → ((own_up cs j).set (2 * j) (own_lo (cs.getD j (0 : Int32)))).set (2 * j + 1) (own_hi (cs.getD j (0 : Int32))) = own_up cs (j + 1)
  | [], _, h => absurd h (Nat.not_lt_zero _)
  | c :: r, 0, _ => rfl
  | c :: r, j + 1, h => by
    have ih := own_upS r j (by simpa using h)
    show ((own_lo c :: own_hi c :: own_up r j).set (2 * (j + 1)) (own_lo (r.getD j (0 : Int32)))).set (2 * (j + 1) + 1) (own_hi (r.getD j (0 : Int32))) = own_lo c :: own_hi c :: own_up r (j + 1)
    rw [← ih, show 2 * (j + 1) = 2 * j + 1 + 1 by omega]; rfl
theorem own_u0 : ∀ (cs : List Int32) (j : Nat), j < cs.length → (own_u16 cs).getD (2 * j) (0 : Int32) = own_lo (cs.getD j (0 : Int32)) ∧ (own_u16 cs).getD (2 * j + 1) (0 : Int32) = own_hi (cs.getD j (0 : Int32))
  | [], _, h => absurd h (Nat.not_lt_zero _)
  | c :: r, 0, _ => ⟨rfl, rfl⟩
  | c :: r, j + 1, h => by
    have ih := own_u0 r j (by simpa using h)
    rw [show 2 * (j + 1) = 2 * j + 1 + 1 by omega]; exact ih
theorem own_uc (x : Int32) (h : 0 ≤ x.toInt ∧ x.toInt ≤ 65535) : ((((own_lo x &&& (255 : Int32)) <<< ((0 : Int32) &&& 31)) ||| ((own_hi x &&& (255 : Int32)) <<< ((8 : Int32) &&& 31))).toUInt32.toUInt16.toUInt32.toInt32) = x := by
  unfold own_lo own_hi
  have a1 := c_ishr x (0 : Int32) 0 (by decide)
  have a2 := c_ishr x (8 : Int32) 8 (by decide)
  generalize x >>> ((0 : Int32) &&& 31) = u at *
  generalize x >>> ((8 : Int32) &&& 31) = v at *
  have b1 := c_i2b u
  have b2 := c_i2b v
  generalize u.toInt8.toInt32 = u2 at *
  generalize v.toInt8.toInt32 = v2 at *
  have d1 := c_mask u2 (255 : Int32) 8 (by decide) (by decide)
  have d2 := c_mask v2 (255 : Int32) 8 (by decide) (by decide)
  generalize u2 &&& (255 : Int32) = u3 at *
  generalize v2 &&& (255 : Int32) = v3 at *
  have f1 := c_ishl u3 (0 : Int32) 0 (by decide)
  have f2 := c_ishl v3 (8 : Int32) 8 (by decide)
  generalize u3 <<< ((0 : Int32) &&& 31) = u4 at *
  generalize v3 <<< ((8 : Int32) &&& 31) = v4 at *
  have r1 := rng32 u4
  have r2 := rng32 v4
  have p0 : ((2 : Nat) ^ 0 : Nat) = 1 := rfl
  have p8 : ((2 : Nat) ^ 8 : Nat) = 256 := rfl
  rw [p0] at a1 f1
  rw [p8] at a2 f2 d1 d2
  have g1 : u4.toInt = x.toInt % 256 := by omega
  have g2 : v4.toInt = (x.toInt / 256) * 256 := by omega
  have o1 := c_or' u4 v4 8 (by decide) 256 rfl (by omega) (by omega) (by omega)
  have r3 := rng32 (u4 ||| v4)
  have k1 := c_i2c (u4 ||| v4)
  rw [← Int32.toInt_inj]; omega
theorem own_shl1 {x : Int32} {j : Nat} (h : x.toInt = j) (hj : j ≤ 8) : (x <<< ((1 : Int32) &&& 31)).toInt = (2 * j : Nat) := by
  have a := c_ishl x (1 : Int32) 1 (by decide)
  have p1 : ((2 : Nat) ^ 1 : Nat) = 2 := rfl
  rw [p1] at a
  have r := rng32 (x <<< ((1 : Int32) &&& 31))
  omega
theorem own_shr1 {x : Int32} {j : Nat} (h : x.toInt = j) (hj : j ≤ 8) : (x <<< ((1 : Int32) &&& 31)) >>> ((1 : Int32) &&& 31) = x := by
  have a := own_shl1 h hj
  have b := c_ishr (x <<< ((1 : Int32) &&& 31)) (1 : Int32) 1 (by decide)
  have p1 : ((2 : Nat) ^ 1 : Nat) = 2 := rfl
  rw [p1] at b
  rw [← Int32.toInt_inj]; omega
theorem own_cfl {x : Int32} {j : Nat} (h : x.toInt = j) (h0 : 0 < j) (hj : j ≤ 8) : ((((x - (x <<< ((1 : Int32) &&& 31))).toUInt32 >>> ((31 : Int32) &&& 31).toUInt32).toInt32).toInt8.toInt32) = (1 : Int32) := by
  have a := own_shl1 h hj
  have b := c_isub x (x <<< ((1 : Int32) &&& 31))
  generalize x <<< ((1 : Int32) &&& 31) = y at *
  have r := rng32 (x - y)
  have d := c_iushr (x - y) (31 : Int32) 31 (by decide) (by decide)
  have p : ((2 : Nat) ^ 31 : Nat) = 2147483648 := rfl
  rw [p] at d
  generalize ((x - y).toUInt32 >>> ((31 : Int32) &&& 31).toUInt32).toInt32 = w at *
  have f := c_i2b w
  have e1 : (1 : Int32).toInt = 1 := by decide
  rw [← Int32.toInt_inj]; omega
theorem own_nc {x : Int32} (h : 0 ≤ x.toInt ∧ x.toInt ≤ 65535) : nar .char x = x := by
  have h2 := c_i2c x
  show x.toUInt32.toUInt16.toUInt32.toInt32 = x
  rw [← Int32.toInt_inj]; omega
theorem own_l8 {x : Int32} (h : 0 ≤ x.toInt ∧ x.toInt ≤ 65535) (h2 : ¬ (255 : Int32) < x) : (x.toInt8.toInt32 &&& (255 : Int32)) = x := by
  have h1 := c_i2b x
  have h3 := c_mask x.toInt8.toInt32 (255 : Int32) 8 (by decide) (by decide)
  have p8 : ((2 : Nat) ^ 8 : Nat) = 256 := rfl
  rw [p8] at h3
  have e : (255 : Int32).toInt = 255 := by decide
  rw [Int32.lt_iff_toInt_lt] at h2
  rw [← Int32.toInt_inj]; omega
theorem own_mapg (cs : List Int32) : ∀ t, t < cs.length → (cs.map (fun c : Int32 => c.toInt8.toInt32)).getD t (0 : Int32) = (cs.getD t (0 : Int32)).toInt8.toInt32 := by
  intro t h; simp [h]
theorem own_first : ∀ cs : List Int32, (∀ t, ¬ (255 : Int32) < cs.getD t (0 : Int32)) ∨ ∃ t, t < cs.length ∧ (∀ i, i < t → ¬ (255 : Int32) < cs.getD i (0 : Int32)) ∧ (255 : Int32) < cs.getD t (0 : Int32)
  | [] => Or.inl (own_lat [] (fun c hc => by cases hc))
  | c :: r => by
    by_cases h : (255 : Int32) < c
    · exact Or.inr ⟨0, by simp, fun i hi => absurd hi (Nat.not_lt_zero _), h⟩
    · rcases own_first r with q | ⟨t, q1, q2, q3⟩
      · refine Or.inl (fun t => ?_)
        cases t with
        | zero => exact h
        | succ t => exact q t
      · refine Or.inr ⟨t + 1, by simpa using q1, fun i hi => ?_, q3⟩
        cases i with
        | zero => exact h
        | succ i => exact q2 i (by omega)
def own_Str (Z : State) (h : Heap) (o : Addr) (z : Int32) (cs : List Int32) : Prop :=
  z.toInt = (cs.length : Nat) ∧ cs.length ≤ 3 ∧ (∀ t, 0 ≤ (cs.getD t (0 : Int32)).toInt ∧ (cs.getD t (0 : Int32)).toInt ≤ 65535) ∧ Exa Z h o "java/lang/String" ∧ ∃ b k, Fld Z h o "java/lang/String" "value" "[B" (.ref b) ∧ ((Fld Z h o "java/lang/String" "coder" "B" (.int (0 : Int32)) ∧ Arv Z h b k .byte z ((cs.map (fun c : Int32 => c.toInt8.toInt32)).map Value.int) (.int (0 : Int32)) ∧ ∀ t, ¬ (255 : Int32) < cs.getD t (0 : Int32)) ∨ (Fld Z h o "java/lang/String" "coder" "B" (.int (1 : Int32)) ∧ Arv Z h b k .byte (z <<< ((1 : Int32) &&& 31)) ((own_u16 cs).map Value.int) (.int (0 : Int32))))
def own_all : List Int32 → Int32
  | [] => (1 : Int32)
  | c :: r => if (32 : Int32) < c then (if c < (127 : Int32) then own_all r else (0 : Int32)) else (0 : Int32)
theorem own_allS : ∀ (cs : List Int32) (j : Nat), j < cs.length → own_all (cs.drop j) = if (32 : Int32) < cs.getD j (0 : Int32) then (if cs.getD j (0 : Int32) < (127 : Int32) then own_all (cs.drop (j + 1)) else (0 : Int32)) else (0 : Int32)
  | [], _, h => absurd h (Nat.not_lt_zero _)
  | c :: r, 0, _ => rfl
  | c :: r, j + 1, h => own_allS r j (by simpa using h)
def own_rt (cs : List Int32) : Int32 := if cs.length = 0 then (0 : Int32) else own_all cs
theorem own_visq (x : Int32) (y : Int32) : (if (32 : Int32) < x then (if x < (127 : Int32) then y else (0 : Int32)) else (0 : Int32)) = if own_vis x = (0 : Int32) then (0 : Int32) else y := by
  unfold own_vis
  have e1 : (32 : Int32).toInt = 32 := by decide
  have e2 : (127 : Int32).toInt = 127 := by decide
  have e3 : (33 : Int32).toInt = 33 := by decide
  have e4 : (126 : Int32).toInt = 126 := by decide
  by_cases h1 : (32 : Int32) < x
  · have h3 : ¬ x < (33 : Int32) := by rw [Int32.lt_iff_toInt_lt] at *; omega
    by_cases h2 : x < (127 : Int32)
    · have h4 : ¬ (126 : Int32) < x := by rw [Int32.lt_iff_toInt_lt] at *; omega
      rw [if_pos h1, if_pos h2, if_neg h3, if_neg h4, if_neg (by decide)]
    · have h4 : (126 : Int32) < x := by rw [Int32.lt_iff_toInt_lt] at *; omega
      rw [if_pos h1, if_neg h2, if_neg h3, if_pos h4, if_pos (by decide)]
  · have h3 : x < (33 : Int32) := by rw [Int32.lt_iff_toInt_lt] at *; omega
    rw [if_neg h1, if_pos h3, if_pos (by decide)]
theorem own_rt1 (a : Int32) : own_rt [a] = if own_vis a = (0 : Int32) then (0 : Int32) else (1 : Int32) := by
  show own_all [a] = _
  unfold own_all; rw [own_visq]; rfl
theorem own_rt2 (a b : Int32) : own_rt [a, b] = if own_vis a = (0 : Int32) then (0 : Int32) else if own_vis b = (0 : Int32) then (0 : Int32) else (1 : Int32) := by
  show own_all [a, b] = _
  unfold own_all; rw [own_visq]; unfold own_all; rw [own_visq]; rfl
theorem own_rt3 (a b c : Int32) : own_rt [a, b, c] = if own_vis a = (0 : Int32) then (0 : Int32) else if own_vis b = (0 : Int32) then (0 : Int32) else if own_vis c = (0 : Int32) then (0 : Int32) else (1 : Int32) := by
  show own_all [a, b, c] = _
  unfold own_all; rw [own_visq]; unfold own_all; rw [own_visq]; unfold own_all; rw [own_visq]; rfl
theorem d19_0 : decode jdk_52_method_4_code 0 = .ok (.getstatic 44, 3) := by decide +kernel
theorem d19_3 : decode jdk_52_method_4_code 3 = .ok (.ifCond .ne 25, 3) := by decide +kernel
theorem d19_6 : decode jdk_52_method_4_code 6 = .ok (.iload_n 1, 1) := by decide +kernel
theorem d19_7 : decode jdk_52_method_4_code 7 = .ok (.ifCond .lt 11, 3) := by decide +kernel
theorem d19_10 : decode jdk_52_method_4_code 10 = .ok (.iload_n 1, 1) := by decide +kernel
theorem d19_11 : decode jdk_52_method_4_code 11 = .ok (.aload_n 0, 1) := by decide +kernel
theorem d19_12 : decode jdk_52_method_4_code 12 = .ok (.invokestatic 48, 3) := by decide +kernel
theorem d19_15 : decode jdk_52_method_4_code 15 = .ok (.if_icmp .lt 13, 3) := by decide +kernel
theorem d19_18 : decode jdk_52_method_4_code 18 = .ok (.new 52, 3) := by decide +kernel
theorem d19_21 : decode jdk_52_method_4_code 21 = .ok (.dup, 1) := by decide +kernel
theorem d19_22 : decode jdk_52_method_4_code 22 = .ok (.ldc 54, 2) := by decide +kernel
theorem d19_24 : decode jdk_52_method_4_code 24 = .ok (.invokespecial 56, 3) := by decide +kernel
theorem d19_27 : decode jdk_52_method_4_code 27 = .ok (.athrow, 1) := by decide +kernel
theorem d19_28 : decode jdk_52_method_4_code 28 = .ok (.iload_n 1, 1) := by decide +kernel
theorem d19_29 : decode jdk_52_method_4_code 29 = .ok (.iconst 1, 1) := by decide +kernel
theorem d19_30 : decode jdk_52_method_4_code 30 = .ok (.ishl, 1) := by decide +kernel
theorem d19_31 : decode jdk_52_method_4_code 31 = .ok (.istore_n 1, 1) := by decide +kernel
theorem d19_32 : decode jdk_52_method_4_code 32 = .ok (.aload_n 0, 1) := by decide +kernel
theorem d19_33 : decode jdk_52_method_4_code 33 = .ok (.iload_n 1, 1) := by decide +kernel
theorem d19_34 : decode jdk_52_method_4_code 34 = .ok (.iinc 1 1, 3) := by decide +kernel
theorem d19_37 : decode jdk_52_method_4_code 37 = .ok (.iload_n 2, 1) := by decide +kernel
theorem d19_38 : decode jdk_52_method_4_code 38 = .ok (.getstatic 59, 3) := by decide +kernel
theorem d19_41 : decode jdk_52_method_4_code 41 = .ok (.ishr, 1) := by decide +kernel
theorem d19_42 : decode jdk_52_method_4_code 42 = .ok (.i2b, 1) := by decide +kernel
theorem d19_43 : decode jdk_52_method_4_code 43 = .ok (.bastore, 1) := by decide +kernel
theorem d19_44 : decode jdk_52_method_4_code 44 = .ok (.aload_n 0, 1) := by decide +kernel
theorem d19_45 : decode jdk_52_method_4_code 45 = .ok (.iload_n 1, 1) := by decide +kernel
theorem d19_46 : decode jdk_52_method_4_code 46 = .ok (.iload_n 2, 1) := by decide +kernel
theorem d19_47 : decode jdk_52_method_4_code 47 = .ok (.getstatic 63, 3) := by decide +kernel
theorem d19_50 : decode jdk_52_method_4_code 50 = .ok (.ishr, 1) := by decide +kernel
theorem d19_51 : decode jdk_52_method_4_code 51 = .ok (.i2b, 1) := by decide +kernel
theorem d19_52 : decode jdk_52_method_4_code 52 = .ok (.bastore, 1) := by decide +kernel
theorem d19_53 : decode jdk_52_method_4_code 53 = .ok (.return_, 1) := by decide +kernel
theorem ef_19 (a1 : Addr) (p2 : Int32) (p3 : Int32) (m : MethodId) : entryFrame m #[(.ref a1), (.int p2), (.int p3)] 3 = mkF m 0 #[.val (.ref a1), .val (.int p2), .val (.int p3)] [] := by first | (simp [entryFrame, mkF, argsToLocals, Value.category]; done) | rfl
set_option maxRecDepth 65536 in
set_option maxHeartbeats 40000000 in
theorem rm19 (l : Launch) (Z : State) (a0 : Array Value) (hw : ∀ d ∈ tables_1, d.before a0 Z = true) (ws : List Jvm.Cond) (a1 : Addr) (p2 : Int32) (p3 : Int32) (kb : ClassId) (z : Int32) (ys : List Int32) (j : Nat) (h0 : Heap) (n0 : Nat) (Z0 : n0 ≤ h0.size) (O0 : Old Z n0 h0) (SA : Sta Z Z.heap "java/lang/StringUTF16" "$assertionsDisabled" "Z" (.int (1 : Int32))) (SH : Sta Z Z.heap "java/lang/StringUTF16" "HI_BYTE_SHIFT" "I" (.int (0 : Int32))) (SL : Sta Z Z.heap "java/lang/StringUTF16" "LO_BYTE_SHIFT" "I" (.int (8 : Int32))) (VB : Arv Z h0 a1 kb .byte z (ys.map Value.int) (.int (0 : Int32))) (hj : p2.toInt = (j : Nat)) (hj8 : j ≤ 8) (hz : z.toInt = (ys.length : Nat)) (hjl : 2 * j + 1 < ys.length) (g_a1 : n0 ≤ a1) :
    own_Met l (⟨"java/lang/StringUTF16", "putChar", "([BII)V"⟩ : MethodName) jdk_52_method_4_code 3 none ws ({ frames := 0, cells := 0, slots := 0, locals := 0 } : Room) #[(.ref a1), (.int p2), (.int p3)] Z h0 (fun v h L => v = none ∧ Fr n0 L ∧ Keep h0 h [a1] ∧ Arv Z h a1 kb .byte z (((ys.set (2 * j) (own_lo p3)).set (2 * j + 1) (own_hi p3)).map Value.int) (.int (0 : Int32))) := by
  refine own_body (plainFor_of_name pn_3) (ef_19 a1 p2 p3) ?_
  intro p e s m below meth c T0 X0 hx hby hml0 hret hlk hnm hown hZ e0
  have hml : c.maxLocals = 3 := hml0
  have N0 := Fr.nil n0
  have hI := own_shl1 hj hj8
  have e_1 : (1 : Int32).toInt = (1 : Nat) := by decide
  have hI2 := own_add hI e_1 (by omega)
  obtain ⟨T1, X1, e1, st1⟩ := getS2 X0 hx hZ hown (host := "") (Or.inl (hw _ (List.mem_of_getElem? (i := 94) rfl))) Via.refl e0 (SA.ext O0.2) (g := (mkF m 0 #[.val (.ref a1), .val (.int p2), .val (.int p3)] [])) rfl (hb hby d19_0)
  refine own_step st1 ?_
  show own_Go _ _ _ _ T1 (mkF m 3 #[.val (.ref a1), .val (.int p2), .val (.int p3)] [(.int (1 : Int32))])
  refine own_step (fun _ k => XS.ifYes X1.here hx rfl (pc0 := 3) (pc' := 28) rfl (hb hby d19_3) rfl ((if0 _ _).trans (feq (by decide : ¬ ((1 : Int32) = (0 : Int32)))).2) (by decide) (by decide) k) ?_
  show own_Go _ _ _ _ T1 (mkF m 28 #[.val (.ref a1), .val (.int p2), .val (.int p3)] [])
  refine own_step (fun _ k => XS.iloadN X1.here hx rfl (hb hby d19_28) rfl k) ?_
  show own_Go _ _ _ _ T1 (mkF m 29 #[.val (.ref a1), .val (.int p2), .val (.int p3)] [(.int p2)])
  refine own_step (fun _ k => XS.iconst X1.here hx rfl (hb hby d19_29) k) ?_
  show own_Go _ _ _ _ T1 (mkF m 30 #[.val (.ref a1), .val (.int p2), .val (.int p3)] [(.int (1 : Int32)), (.int p2)])
  refine own_step (fun _ k => XS.ishl X1.here hx rfl (hb hby d19_30) rfl k) ?_
  show own_Go _ _ _ _ T1 (mkF m 31 #[.val (.ref a1), .val (.int p2), .val (.int p3)] [(.int (p2 <<< ((1 : Int32) &&& 31)))])
  refine own_step (fun _ k => XS.istoreN X1.here hx rfl (hb hby d19_31) rfl (l' := #[.val (.ref a1), .val (.int (p2 <<< ((1 : Int32) &&& 31))), .val (.int p3)]) rfl k) ?_
  show own_Go _ _ _ _ T1 (mkF m 32 #[.val (.ref a1), .val (.int (p2 <<< ((1 : Int32) &&& 31))), .val (.int p3)] [])
  refine own_step (fun _ k => XS.aloadN X1.here hx rfl (hb hby d19_32) rfl rfl k) ?_
  show own_Go _ _ _ _ T1 (mkF m 33 #[.val (.ref a1), .val (.int (p2 <<< ((1 : Int32) &&& 31))), .val (.int p3)] [(.ref a1)])
  refine own_step (fun _ k => XS.iloadN X1.here hx rfl (hb hby d19_33) rfl k) ?_
  show own_Go _ _ _ _ T1 (mkF m 34 #[.val (.ref a1), .val (.int (p2 <<< ((1 : Int32) &&& 31))), .val (.int p3)] [(.int (p2 <<< ((1 : Int32) &&& 31))), (.ref a1)])
  refine own_step (fun _ k => XS.iinc X1.here hx rfl (hb hby d19_34) rfl (l' := #[.val (.ref a1), .val (.int ((p2 <<< ((1 : Int32) &&& 31)) + (1 : Int32))), .val (.int p3)]) rfl k) ?_
  show own_Go _ _ _ _ T1 (mkF m 37 #[.val (.ref a1), .val (.int ((p2 <<< ((1 : Int32) &&& 31)) + (1 : Int32))), .val (.int p3)] [(.int (p2 <<< ((1 : Int32) &&& 31))), (.ref a1)])
  refine own_step (fun _ k => XS.iloadN X1.here hx rfl (hb hby d19_37) rfl k) ?_
  show own_Go _ _ _ _ T1 (mkF m 38 #[.val (.ref a1), .val (.int ((p2 <<< ((1 : Int32) &&& 31)) + (1 : Int32))), .val (.int p3)] [(.int p3), (.int (p2 <<< ((1 : Int32) &&& 31))), (.ref a1)])
  obtain ⟨T2, X2, e2, st2⟩ := getS2 X1 hx hZ hown (host := "") (Or.inl (hw _ (List.mem_of_getElem? (i := 95) rfl))) Via.refl e1 (SH.ext O0.2) (g := (mkF m 38 #[.val (.ref a1), .val (.int ((p2 <<< ((1 : Int32) &&& 31)) + (1 : Int32))), .val (.int p3)] [(.int p3), (.int (p2 <<< ((1 : Int32) &&& 31))), (.ref a1)])) rfl (hb hby d19_38)
  refine own_step st2 ?_
  show own_Go _ _ _ _ T2 (mkF m 41 #[.val (.ref a1), .val (.int ((p2 <<< ((1 : Int32) &&& 31)) + (1 : Int32))), .val (.int p3)] [(.int (0 : Int32)), (.int p3), (.int (p2 <<< ((1 : Int32) &&& 31))), (.ref a1)])
  refine own_step (fun _ k => XS.ishr X2.here hx rfl (hb hby d19_41) rfl k) ?_
  show own_Go _ _ _ _ T2 (mkF m 42 #[.val (.ref a1), .val (.int ((p2 <<< ((1 : Int32) &&& 31)) + (1 : Int32))), .val (.int p3)] [(.int (p3 >>> ((0 : Int32) &&& 31))), (.int (p2 <<< ((1 : Int32) &&& 31))), (.ref a1)])
  refine own_step (fun _ k => XS.i2b X2.here hx rfl (hb hby d19_42) rfl k) ?_
  show own_Go _ _ _ _ T2 (mkF m 43 #[.val (.ref a1), .val (.int ((p2 <<< ((1 : Int32) &&& 31)) + (1 : Int32))), .val (.int p3)] [(.int ((p3 >>> ((0 : Int32) &&& 31)).toInt8.toInt32)), (.int (p2 <<< ((1 : Int32) &&& 31))), (.ref a1)])
  obtain ⟨T3, h3, l3, X3, e3, W3, V3, st3⟩ := own_stB X2 hx hZ e2 VB (j := (p2 <<< ((1 : Int32) &&& 31))) ⟨own_nn hI, (own_lt hI hz).mpr (by omega)⟩ (2 * j) (own_clamp hI) (by rw [List.length_map]; omega) (g := (mkF m 43 #[.val (.ref a1), .val (.int ((p2 <<< ((1 : Int32) &&& 31)) + (1 : Int32))), .val (.int p3)] [(.int ((p3 >>> ((0 : Int32) &&& 31)).toInt8.toInt32)), (.int (p2 <<< ((1 : Int32) &&& 31))), (.ref a1)])) rfl rfl (hb hby d19_43)
  refine own_step st3 ?_
  have N3 := Fr.snoc X3 N0 g_a1
  have Z3 := Nat.le_trans Z0 (Keep.of_wr W3).1
  have KK3 := (Keep.refl h0 [a1]).wr W3 (Or.inl (List.mem_of_getElem? (i := 0) rfl))
  rw [own_bb] at V3
  rw [← List.map_set] at V3
  have V_a1_3 : Arv Z h3 a1 kb .byte z ((ys.set (2 * j) (own_lo p3)).map Value.int) (.int (0 : Int32)) := V3
  show own_Go _ _ _ _ T3 (mkF m 44 #[.val (.ref a1), .val (.int ((p2 <<< ((1 : Int32) &&& 31)) + (1 : Int32))), .val (.int p3)] [])
  refine own_step (fun _ k => XS.aloadN X3.here hx rfl (hb hby d19_44) rfl rfl k) ?_
  show own_Go _ _ _ _ T3 (mkF m 45 #[.val (.ref a1), .val (.int ((p2 <<< ((1 : Int32) &&& 31)) + (1 : Int32))), .val (.int p3)] [(.ref a1)])
  refine own_step (fun _ k => XS.iloadN X3.here hx rfl (hb hby d19_45) rfl k) ?_
  show own_Go _ _ _ _ T3 (mkF m 46 #[.val (.ref a1), .val (.int ((p2 <<< ((1 : Int32) &&& 31)) + (1 : Int32))), .val (.int p3)] [(.int ((p2 <<< ((1 : Int32) &&& 31)) + (1 : Int32))), (.ref a1)])
  refine own_step (fun _ k => XS.iloadN X3.here hx rfl (hb hby d19_46) rfl k) ?_
  show own_Go _ _ _ _ T3 (mkF m 47 #[.val (.ref a1), .val (.int ((p2 <<< ((1 : Int32) &&& 31)) + (1 : Int32))), .val (.int p3)] [(.int p3), (.int ((p2 <<< ((1 : Int32) &&& 31)) + (1 : Int32))), (.ref a1)])
  have Q5 := (O0.wr W3 g_a1)
  obtain ⟨T4, X4, e4, st4⟩ := getS2 X3 hx hZ hown (host := "") (Or.inl (hw _ (List.mem_of_getElem? (i := 96) rfl))) Via.refl e3 (SL.ext Q5.2) (g := (mkF m 47 #[.val (.ref a1), .val (.int ((p2 <<< ((1 : Int32) &&& 31)) + (1 : Int32))), .val (.int p3)] [(.int p3), (.int ((p2 <<< ((1 : Int32) &&& 31)) + (1 : Int32))), (.ref a1)])) rfl (hb hby d19_47)
  refine own_step st4 ?_
  show own_Go _ _ _ _ T4 (mkF m 50 #[.val (.ref a1), .val (.int ((p2 <<< ((1 : Int32) &&& 31)) + (1 : Int32))), .val (.int p3)] [(.int (8 : Int32)), (.int p3), (.int ((p2 <<< ((1 : Int32) &&& 31)) + (1 : Int32))), (.ref a1)])
  refine own_step (fun _ k => XS.ishr X4.here hx rfl (hb hby d19_50) rfl k) ?_
  show own_Go _ _ _ _ T4 (mkF m 51 #[.val (.ref a1), .val (.int ((p2 <<< ((1 : Int32) &&& 31)) + (1 : Int32))), .val (.int p3)] [(.int (p3 >>> ((8 : Int32) &&& 31))), (.int ((p2 <<< ((1 : Int32) &&& 31)) + (1 : Int32))), (.ref a1)])
  refine own_step (fun _ k => XS.i2b X4.here hx rfl (hb hby d19_51) rfl k) ?_
  show own_Go _ _ _ _ T4 (mkF m 52 #[.val (.ref a1), .val (.int ((p2 <<< ((1 : Int32) &&& 31)) + (1 : Int32))), .val (.int p3)] [(.int ((p3 >>> ((8 : Int32) &&& 31)).toInt8.toInt32)), (.int ((p2 <<< ((1 : Int32) &&& 31)) + (1 : Int32))), (.ref a1)])
  obtain ⟨T6, h6, l6, X6, e6, W6, V6, st6⟩ := own_stB X4 hx hZ e4 V_a1_3 (j := ((p2 <<< ((1 : Int32) &&& 31)) + (1 : Int32))) ⟨own_nn hI2, (own_lt hI2 hz).mpr (by omega)⟩ (2 * j + 1) (own_clamp hI2) (by rw [List.length_map, List.length_set]; omega) (g := (mkF m 52 #[.val (.ref a1), .val (.int ((p2 <<< ((1 : Int32) &&& 31)) + (1 : Int32))), .val (.int p3)] [(.int ((p3 >>> ((8 : Int32) &&& 31)).toInt8.toInt32)), (.int ((p2 <<< ((1 : Int32) &&& 31)) + (1 : Int32))), (.ref a1)])) rfl rfl (hb hby d19_52)
  refine own_step st6 ?_
  have N6 := Fr.snoc X6 N3 g_a1
  have Z6 := Nat.le_trans Z3 (Keep.of_wr W6).1
  have KK6 := KK3.wr W6 (Or.inl (List.mem_of_getElem? (i := 0) rfl))
  rw [own_bb] at V6
  rw [← List.map_set] at V6
  have V_a1_6 : Arv Z h6 a1 kb .byte z (((ys.set (2 * j) (own_lo p3)).set (2 * j + 1) (own_hi p3)).map Value.int) (.int (0 : Int32)) := V6
  show own_Go _ _ _ _ T6 (mkF m 53 #[.val (.ref a1), .val (.int ((p2 <<< ((1 : Int32) &&& 31)) + (1 : Int32))), .val (.int p3)] [])
  exact own_retV X6 hx hret hlk (hb hby d19_53) (own_N (by rw [e6]; exact ⟨rfl, N6, KK6, V_a1_6⟩) (by decide) (by decide)) 
theorem d20_0 : decode jdk_52_method_5_code 0 = .ok (.getstatic 44, 3) := by decide +kernel
theorem d20_3 : decode jdk_52_method_5_code 3 = .ok (.ifCond .ne 25, 3) := by decide +kernel
theorem d20_6 : decode jdk_52_method_5_code 6 = .ok (.iload_n 1, 1) := by decide +kernel
theorem d20_7 : decode jdk_52_method_5_code 7 = .ok (.ifCond .lt 11, 3) := by decide +kernel
theorem d20_10 : decode jdk_52_method_5_code 10 = .ok (.iload_n 1, 1) := by decide +kernel
theorem d20_11 : decode jdk_52_method_5_code 11 = .ok (.aload_n 0, 1) := by decide +kernel
theorem d20_12 : decode jdk_52_method_5_code 12 = .ok (.invokestatic 48, 3) := by decide +kernel
theorem d20_15 : decode jdk_52_method_5_code 15 = .ok (.if_icmp .lt 13, 3) := by decide +kernel
theorem d20_18 : decode jdk_52_method_5_code 18 = .ok (.new 52, 3) := by decide +kernel
theorem d20_21 : decode jdk_52_method_5_code 21 = .ok (.dup, 1) := by decide +kernel
theorem d20_22 : decode jdk_52_method_5_code 22 = .ok (.ldc 54, 2) := by decide +kernel
theorem d20_24 : decode jdk_52_method_5_code 24 = .ok (.invokespecial 56, 3) := by decide +kernel
theorem d20_27 : decode jdk_52_method_5_code 27 = .ok (.athrow, 1) := by decide +kernel
theorem d20_28 : decode jdk_52_method_5_code 28 = .ok (.iload_n 1, 1) := by decide +kernel
theorem d20_29 : decode jdk_52_method_5_code 29 = .ok (.iconst 1, 1) := by decide +kernel
theorem d20_30 : decode jdk_52_method_5_code 30 = .ok (.ishl, 1) := by decide +kernel
theorem d20_31 : decode jdk_52_method_5_code 31 = .ok (.istore_n 1, 1) := by decide +kernel
theorem d20_32 : decode jdk_52_method_5_code 32 = .ok (.aload_n 0, 1) := by decide +kernel
theorem d20_33 : decode jdk_52_method_5_code 33 = .ok (.iload_n 1, 1) := by decide +kernel
theorem d20_34 : decode jdk_52_method_5_code 34 = .ok (.iinc 1 1, 3) := by decide +kernel
theorem d20_37 : decode jdk_52_method_5_code 37 = .ok (.baload, 1) := by decide +kernel
theorem d20_38 : decode jdk_52_method_5_code 38 = .ok (.sipush 255, 3) := by decide +kernel
theorem d20_41 : decode jdk_52_method_5_code 41 = .ok (.iand, 1) := by decide +kernel
theorem d20_42 : decode jdk_52_method_5_code 42 = .ok (.getstatic 59, 3) := by decide +kernel
theorem d20_45 : decode jdk_52_method_5_code 45 = .ok (.ishl, 1) := by decide +kernel
theorem d20_46 : decode jdk_52_method_5_code 46 = .ok (.aload_n 0, 1) := by decide +kernel
theorem d20_47 : decode jdk_52_method_5_code 47 = .ok (.iload_n 1, 1) := by decide +kernel
theorem d20_48 : decode jdk_52_method_5_code 48 = .ok (.baload, 1) := by decide +kernel
theorem d20_49 : decode jdk_52_method_5_code 49 = .ok (.sipush 255, 3) := by decide +kernel
theorem d20_52 : decode jdk_52_method_5_code 52 = .ok (.iand, 1) := by decide +kernel
theorem d20_53 : decode jdk_52_method_5_code 53 = .ok (.getstatic 63, 3) := by decide +kernel
theorem d20_56 : decode jdk_52_method_5_code 56 = .ok (.ishl, 1) := by decide +kernel
theorem d20_57 : decode jdk_52_method_5_code 57 = .ok (.ior, 1) := by decide +kernel
theorem d20_58 : decode jdk_52_method_5_code 58 = .ok (.i2c, 1) := by decide +kernel
theorem d20_59 : decode jdk_52_method_5_code 59 = .ok (.ireturn, 1) := by decide +kernel
theorem ef_20 (a1 : Addr) (p2 : Int32) (m : MethodId) : entryFrame m #[(.ref a1), (.int p2)] 2 = mkF m 0 #[.val (.ref a1), .val (.int p2)] [] := by first | (simp [entryFrame, mkF, argsToLocals, Value.category]; done) | rfl
set_option maxRecDepth 65536 in
set_option maxHeartbeats 40000000 in
theorem rm20 (l : Launch) (Z : State) (a0 : Array Value) (hw : ∀ d ∈ tables_1, d.before a0 Z = true) (ws : List Jvm.Cond) (a1 : Addr) (p2 : Int32) (kb : ClassId) (z : Int32) (cs : List Int32) (j : Nat) (h0 : Heap) (n0 : Nat) (Z0 : n0 ≤ h0.size) (O0 : Old Z n0 h0) (SA : Sta Z Z.heap "java/lang/StringUTF16" "$assertionsDisabled" "Z" (.int (1 : Int32))) (SH : Sta Z Z.heap "java/lang/StringUTF16" "HI_BYTE_SHIFT" "I" (.int (0 : Int32))) (SL : Sta Z Z.heap "java/lang/StringUTF16" "LO_BYTE_SHIFT" "I" (.int (8 : Int32))) (VB : Arv Z h0 a1 kb .byte (z <<< ((1 : Int32) &&& 31)) ((own_u16 cs).map Value.int) (.int (0 : Int32))) (hl : z.toInt = (cs.length : Nat)) (hcap : cs.length ≤ 3) (hch : (∀ t, 0 ≤ (cs.getD t (0 : Int32)).toInt ∧ (cs.getD t (0 : Int32)).toInt ≤ 65535)) (hj : p2.toInt = (j : Nat)) (hjl : j < cs.length) :
    own_Met l (⟨"java/lang/StringUTF16", "getChar", "([BI)C"⟩ : MethodName) jdk_52_method_5_code 2 (some .char) ws ({ frames := 0, cells := 0, slots := 0, locals := 0 } : Room) #[(.ref a1), (.int p2)] Z h0 (fun v h L => v = some (.int (cs.getD j (0 : Int32))) ∧ Fr n0 L ∧ h = h0) := by
  refine own_body (plainFor_of_name pn_3) (ef_20 a1 p2) ?_
  intro p e s m below meth c T0 X0 hx hby hml0 hret hlk hnm hown hZ e0
  have hml : c.maxLocals = 2 := hml0
  have N0 := Fr.nil n0
  have hI := own_shl1 hj (by omega)
  have e_1 : (1 : Int32).toInt = (1 : Nat) := by decide
  have hI2 := own_add hI e_1 (by omega)
  have hz2 := own_shl1 hl (by omega)
  obtain ⟨hu0, hu1⟩ := own_u0 cs j hjl
  obtain ⟨T1, X1, e1, st1⟩ := getS2 X0 hx hZ hown (host := "") (Or.inl (hw _ (List.mem_of_getElem? (i := 94) rfl))) Via.refl e0 (SA.ext O0.2) (g := (mkF m 0 #[.val (.ref a1), .val (.int p2)] [])) rfl (hb hby d20_0)
  refine own_step st1 ?_
  show own_Go _ _ _ _ T1 (mkF m 3 #[.val (.ref a1), .val (.int p2)] [(.int (1 : Int32))])
  refine own_step (fun _ k => XS.ifYes X1.here hx rfl (pc0 := 3) (pc' := 28) rfl (hb hby d20_3) rfl ((if0 _ _).trans (feq (by decide : ¬ ((1 : Int32) = (0 : Int32)))).2) (by decide) (by decide) k) ?_
  show own_Go _ _ _ _ T1 (mkF m 28 #[.val (.ref a1), .val (.int p2)] [])
  refine own_step (fun _ k => XS.iloadN X1.here hx rfl (hb hby d20_28) rfl k) ?_
  show own_Go _ _ _ _ T1 (mkF m 29 #[.val (.ref a1), .val (.int p2)] [(.int p2)])
  refine own_step (fun _ k => XS.iconst X1.here hx rfl (hb hby d20_29) k) ?_
  show own_Go _ _ _ _ T1 (mkF m 30 #[.val (.ref a1), .val (.int p2)] [(.int (1 : Int32)), (.int p2)])
  refine own_step (fun _ k => XS.ishl X1.here hx rfl (hb hby d20_30) rfl k) ?_
  show own_Go _ _ _ _ T1 (mkF m 31 #[.val (.ref a1), .val (.int p2)] [(.int (p2 <<< ((1 : Int32) &&& 31)))])
  refine own_step (fun _ k => XS.istoreN X1.here hx rfl (hb hby d20_31) rfl (l' := #[.val (.ref a1), .val (.int (p2 <<< ((1 : Int32) &&& 31)))]) rfl k) ?_
  show own_Go _ _ _ _ T1 (mkF m 32 #[.val (.ref a1), .val (.int (p2 <<< ((1 : Int32) &&& 31)))] [])
  refine own_step (fun _ k => XS.aloadN X1.here hx rfl (hb hby d20_32) rfl rfl k) ?_
  show own_Go _ _ _ _ T1 (mkF m 33 #[.val (.ref a1), .val (.int (p2 <<< ((1 : Int32) &&& 31)))] [(.ref a1)])
  refine own_step (fun _ k => XS.iloadN X1.here hx rfl (hb hby d20_33) rfl k) ?_
  show own_Go _ _ _ _ T1 (mkF m 34 #[.val (.ref a1), .val (.int (p2 <<< ((1 : Int32) &&& 31)))] [(.int (p2 <<< ((1 : Int32) &&& 31))), (.ref a1)])
  refine own_step (fun _ k => XS.iinc X1.here hx rfl (hb hby d20_34) rfl (l' := #[.val (.ref a1), .val (.int ((p2 <<< ((1 : Int32) &&& 31)) + (1 : Int32)))]) rfl k) ?_
  show own_Go _ _ _ _ T1 (mkF m 37 #[.val (.ref a1), .val (.int ((p2 <<< ((1 : Int32) &&& 31)) + (1 : Int32)))] [(.int (p2 <<< ((1 : Int32) &&& 31))), (.ref a1)])
  refine own_step (own_ldB X1 hx hZ e1 VB (j := (p2 <<< ((1 : Int32) &&& 31))) (v := (.int (own_lo (cs.getD j (0 : Int32))))) ⟨own_nn hI, (own_lt hI hz2).mpr (by omega)⟩ (by rw [own_clamp hI]; exact (own_getI _ _ _).trans (congrArg Value.int hu0)) (g := (mkF m 37 #[.val (.ref a1), .val (.int ((p2 <<< ((1 : Int32) &&& 31)) + (1 : Int32)))] [(.int (p2 <<< ((1 : Int32) &&& 31))), (.ref a1)])) rfl rfl (hb hby d20_37)) ?_
  show own_Go _ _ _ _ T1 (mkF m 38 #[.val (.ref a1), .val (.int ((p2 <<< ((1 : Int32) &&& 31)) + (1 : Int32)))] [(.int (own_lo (cs.getD j (0 : Int32))))])
  refine own_step (fun _ k => XS.sipush X1.here hx rfl (hb hby d20_38) k) ?_
  show own_Go _ _ _ _ T1 (mkF m 41 #[.val (.ref a1), .val (.int ((p2 <<< ((1 : Int32) &&& 31)) + (1 : Int32)))] [(.int (255 : Int32)), (.int (own_lo (cs.getD j (0 : Int32))))])
  refine own_step (fun _ k => XS.iand X1.here hx rfl (hb hby d20_41) rfl k) ?_
  show own_Go _ _ _ _ T1 (mkF m 42 #[.val (.ref a1), .val (.int ((p2 <<< ((1 : Int32) &&& 31)) + (1 : Int32)))] [(.int ((own_lo (cs.getD j (0 : Int32))) &&& (255 : Int32)))])
  obtain ⟨T2, X2, e2, st2⟩ := getS2 X1 hx hZ hown (host := "") (Or.inl (hw _ (List.mem_of_getElem? (i := 95) rfl))) Via.refl e1 (SH.ext O0.2) (g := (mkF m 42 #[.val (.ref a1), .val (.int ((p2 <<< ((1 : Int32) &&& 31)) + (1 : Int32)))] [(.int ((own_lo (cs.getD j (0 : Int32))) &&& (255 : Int32)))])) rfl (hb hby d20_42)
  refine own_step st2 ?_
  show own_Go _ _ _ _ T2 (mkF m 45 #[.val (.ref a1), .val (.int ((p2 <<< ((1 : Int32) &&& 31)) + (1 : Int32)))] [(.int (0 : Int32)), (.int ((own_lo (cs.getD j (0 : Int32))) &&& (255 : Int32)))])
  refine own_step (fun _ k => XS.ishl X2.here hx rfl (hb hby d20_45) rfl k) ?_
  show own_Go _ _ _ _ T2 (mkF m 46 #[.val (.ref a1), .val (.int ((p2 <<< ((1 : Int32) &&& 31)) + (1 : Int32)))] [(.int (((own_lo (cs.getD j (0 : Int32))) &&& (255 : Int32)) <<< ((0 : Int32) &&& 31)))])
  refine own_step (fun _ k => XS.aloadN X2.here hx rfl (hb hby d20_46) rfl rfl k) ?_
  show own_Go _ _ _ _ T2 (mkF m 47 #[.val (.ref a1), .val (.int ((p2 <<< ((1 : Int32) &&& 31)) + (1 : Int32)))] [(.ref a1), (.int (((own_lo (cs.getD j (0 : Int32))) &&& (255 : Int32)) <<< ((0 : Int32) &&& 31)))])
  refine own_step (fun _ k => XS.iloadN X2.here hx rfl (hb hby d20_47) rfl k) ?_
  show own_Go _ _ _ _ T2 (mkF m 48 #[.val (.ref a1), .val (.int ((p2 <<< ((1 : Int32) &&& 31)) + (1 : Int32)))] [(.int ((p2 <<< ((1 : Int32) &&& 31)) + (1 : Int32))), (.ref a1), (.int (((own_lo (cs.getD j (0 : Int32))) &&& (255 : Int32)) <<< ((0 : Int32) &&& 31)))])
  refine own_step (own_ldB X2 hx hZ e2 VB (j := ((p2 <<< ((1 : Int32) &&& 31)) + (1 : Int32))) (v := (.int (own_hi (cs.getD j (0 : Int32))))) ⟨own_nn hI2, (own_lt hI2 hz2).mpr (by omega)⟩ (by rw [own_clamp hI2]; exact (own_getI _ _ _).trans (congrArg Value.int hu1)) (g := (mkF m 48 #[.val (.ref a1), .val (.int ((p2 <<< ((1 : Int32) &&& 31)) + (1 : Int32)))] [(.int ((p2 <<< ((1 : Int32) &&& 31)) + (1 : Int32))), (.ref a1), (.int (((own_lo (cs.getD j (0 : Int32))) &&& (255 : Int32)) <<< ((0 : Int32) &&& 31)))])) rfl rfl (hb hby d20_48)) ?_
  show own_Go _ _ _ _ T2 (mkF m 49 #[.val (.ref a1), .val (.int ((p2 <<< ((1 : Int32) &&& 31)) + (1 : Int32)))] [(.int (own_hi (cs.getD j (0 : Int32)))), (.int (((own_lo (cs.getD j (0 : Int32))) &&& (255 : Int32)) <<< ((0 : Int32) &&& 31)))])
  refine own_step (fun _ k => XS.sipush X2.here hx rfl (hb hby d20_49) k) ?_
  show own_Go _ _ _ _ T2 (mkF m 52 #[.val (.ref a1), .val (.int ((p2 <<< ((1 : Int32) &&& 31)) + (1 : Int32)))] [(.int (255 : Int32)), (.int (own_hi (cs.getD j (0 : Int32)))), (.int (((own_lo (cs.getD j (0 : Int32))) &&& (255 : Int32)) <<< ((0 : Int32) &&& 31)))])
  refine own_step (fun _ k => XS.iand X2.here hx rfl (hb hby d20_52) rfl k) ?_
  show own_Go _ _ _ _ T2 (mkF m 53 #[.val (.ref a1), .val (.int ((p2 <<< ((1 : Int32) &&& 31)) + (1 : Int32)))] [(.int ((own_hi (cs.getD j (0 : Int32))) &&& (255 : Int32))), (.int (((own_lo (cs.getD j (0 : Int32))) &&& (255 : Int32)) <<< ((0 : Int32) &&& 31)))])
  obtain ⟨T3, X3, e3, st3⟩ := getS2 X2 hx hZ hown (host := "") (Or.inl (hw _ (List.mem_of_getElem? (i := 96) rfl))) Via.refl e2 (SL.ext O0.2) (g := (mkF m 53 #[.val (.ref a1), .val (.int ((p2 <<< ((1 : Int32) &&& 31)) + (1 : Int32)))] [(.int ((own_hi (cs.getD j (0 : Int32))) &&& (255 : Int32))), (.int (((own_lo (cs.getD j (0 : Int32))) &&& (255 : Int32)) <<< ((0 : Int32) &&& 31)))])) rfl (hb hby d20_53)
  refine own_step st3 ?_
  show own_Go _ _ _ _ T3 (mkF m 56 #[.val (.ref a1), .val (.int ((p2 <<< ((1 : Int32) &&& 31)) + (1 : Int32)))] [(.int (8 : Int32)), (.int ((own_hi (cs.getD j (0 : Int32))) &&& (255 : Int32))), (.int (((own_lo (cs.getD j (0 : Int32))) &&& (255 : Int32)) <<< ((0 : Int32) &&& 31)))])
  refine own_step (fun _ k => XS.ishl X3.here hx rfl (hb hby d20_56) rfl k) ?_
  show own_Go _ _ _ _ T3 (mkF m 57 #[.val (.ref a1), .val (.int ((p2 <<< ((1 : Int32) &&& 31)) + (1 : Int32)))] [(.int (((own_hi (cs.getD j (0 : Int32))) &&& (255 : Int32)) <<< ((8 : Int32) &&& 31))), (.int (((own_lo (cs.getD j (0 : Int32))) &&& (255 : Int32)) <<< ((0 : Int32) &&& 31)))])
  refine own_step (fun _ k => XS.ior X3.here hx rfl (hb hby d20_57) rfl k) ?_
  show own_Go _ _ _ _ T3 (mkF m 58 #[.val (.ref a1), .val (.int ((p2 <<< ((1 : Int32) &&& 31)) + (1 : Int32)))] [(.int ((((own_lo (cs.getD j (0 : Int32))) &&& (255 : Int32)) <<< ((0 : Int32) &&& 31)) ||| (((own_hi (cs.getD j (0 : Int32))) &&& (255 : Int32)) <<< ((8 : Int32) &&& 31))))])
  refine own_step (fun _ k => XS.i2c X3.here hx rfl (hb hby d20_58) rfl k) ?_
  show own_Go _ _ _ _ T3 (mkF m 59 #[.val (.ref a1), .val (.int ((p2 <<< ((1 : Int32) &&& 31)) + (1 : Int32)))] [(.int (((((own_lo (cs.getD j (0 : Int32))) &&& (255 : Int32)) <<< ((0 : Int32) &&& 31)) ||| (((own_hi (cs.getD j (0 : Int32))) &&& (255 : Int32)) <<< ((8 : Int32) &&& 31))).toUInt32.toUInt16.toUInt32.toInt32))])
  rw [own_uc _ (hch j)]
  show own_Go _ _ _ _ T3 (mkF m 59 #[.val (.ref a1), .val (.int ((p2 <<< ((1 : Int32) &&& 31)) + (1 : Int32)))] [(.int (cs.getD j (0 : Int32)))])
  exact own_retN X3 hx (t := .char) hret (by simp) hlk (hb hby d20_59) (own_nc (hch j)) (own_N ⟨rfl, N0, e3⟩ (by decide) (by decide))
theorem d23_0 : decode jdk_52_method_6_code 0 = .ok (.aload_n 0, 1) := by decide +kernel
theorem d23_1 : decode jdk_52_method_6_code 1 = .ok (.arraylength, 1) := by decide +kernel
theorem d23_2 : decode jdk_52_method_6_code 2 = .ok (.iconst 1, 1) := by decide +kernel
theorem d23_3 : decode jdk_52_method_6_code 3 = .ok (.ishr, 1) := by decide +kernel
theorem d23_4 : decode jdk_52_method_6_code 4 = .ok (.ireturn, 1) := by decide +kernel
theorem ef_23 (a1 : Addr) (m : MethodId) : entryFrame m #[(.ref a1)] 1 = mkF m 0 #[.val (.ref a1)] [] := by first | (simp [entryFrame, mkF, argsToLocals, Value.category]; done) | rfl
set_option maxRecDepth 65536 in
set_option maxHeartbeats 40000000 in
theorem rm23 (l : Launch) (Z : State) (a0 : Array Value) (hw : ∀ d ∈ tables_1, d.before a0 Z = true) (ws : List Jvm.Cond) (a1 : Addr) (kb : ClassId) (z : Int32) (cs : List Int32) (h0 : Heap) (n0 : Nat) (Z0 : n0 ≤ h0.size) (VB : Arv Z h0 a1 kb .byte (z <<< ((1 : Int32) &&& 31)) ((own_u16 cs).map Value.int) (.int (0 : Int32))) (hl : z.toInt = (cs.length : Nat)) (hcap : cs.length ≤ 3) :
    own_Met l (⟨"java/lang/StringUTF16", "length", "([B)I"⟩ : MethodName) jdk_52_method_6_code 1 (some .int) ws ({ frames := 0, cells := 0, slots := 0, locals := 0 } : Room) #[(.ref a1)] Z h0 (fun v h L => v = some (.int z) ∧ Fr n0 L ∧ h = h0) := by
  refine own_body (plainFor_of_name pn_3) (ef_23 a1) ?_
  intro p e s m below meth c T0 X0 hx hby hml0 hret hlk hnm hown hZ e0
  have hml : c.maxLocals = 1 := hml0
  have N0 := Fr.nil n0
  refine own_step (fun _ k => XS.aloadN X0.here hx rfl (hb hby d23_0) rfl rfl k) ?_
  show own_Go _ _ _ _ T0 (mkF m 1 #[.val (.ref a1)] [(.ref a1)])
  refine own_step (own_len X0 hx hZ e0 VB (g := (mkF m 1 #[.val (.ref a1)] [(.ref a1)])) rfl rfl (hb hby d23_1)) ?_
  show own_Go _ _ _ _ T0 (mkF m 2 #[.val (.ref a1)] [(.int (z <<< ((1 : Int32) &&& 31)))])
  refine own_step (fun _ k => XS.iconst X0.here hx rfl (hb hby d23_2) k) ?_
  show own_Go _ _ _ _ T0 (mkF m 3 #[.val (.ref a1)] [(.int (1 : Int32)), (.int (z <<< ((1 : Int32) &&& 31)))])
  refine own_step (fun _ k => XS.ishr X0.here hx rfl (hb hby d23_3) rfl k) ?_
  show own_Go _ _ _ _ T0 (mkF m 4 #[.val (.ref a1)] [(.int ((z <<< ((1 : Int32) &&& 31)) >>> ((1 : Int32) &&& 31)))])
  rw [own_shr1 hl (by omega)]
  show own_Go _ _ _ _ T0 (mkF m 4 #[.val (.ref a1)] [(.int z)])
  exact own_retI X0 hx hret hlk (hb hby d23_4) (own_N ⟨rfl, N0, e0⟩ (by decide) (by decide)) 
theorem d22_0 : decode jdk_52_method_91_code 0 = .ok (.iload_n 0, 1) := by decide +kernel
theorem d22_1 : decode jdk_52_method_91_code 1 = .ok (.aload_n 1, 1) := by decide +kernel
theorem d22_2 : decode jdk_52_method_91_code 2 = .ok (.invokestatic 48, 3) := by decide +kernel
theorem d22_5 : decode jdk_52_method_91_code 5 = .ok (.invokestatic 414, 3) := by decide +kernel
theorem d22_8 : decode jdk_52_method_91_code 8 = .ok (.return_, 1) := by decide +kernel
theorem ef_22 (p1 : Int32) (a2 : Addr) (m : MethodId) : entryFrame m #[(.int p1), (.ref a2)] 2 = mkF m 0 #[.val (.int p1), .val (.ref a2)] [] := by first | (simp [entryFrame, mkF, argsToLocals, Value.category]; done) | rfl
theorem pd_6 : parseMethodDescriptor "([B)I" = some ⟨[(.array .byte)], some .int⟩ := by decide +kernel
set_option maxRecDepth 65536 in
set_option maxHeartbeats 40000000 in
theorem rm22 (l : Launch) (Z : State) (a0 : Array Value) (hw : ∀ d ∈ tables_1, d.before a0 Z = true) (ws : List Jvm.Cond) (p1 : Int32) (a2 : Addr) (fv : Value) (kb : ClassId) (z : Int32) (cs : List Int32) (h0 : Heap) (n0 : Nat) (Z0 : n0 ≤ h0.size) (O0 : Old Z n0 h0) (SF : Sta Z Z.heap "jdk/internal/util/Preconditions" "SIOOBE_FORMATTER" "Ljava/util/function/BiFunction;" fv) (hfv : fv.isRef = true) (VB : Arv Z h0 a2 kb .byte (z <<< ((1 : Int32) &&& 31)) ((own_u16 cs).map Value.int) (.int (0 : Int32))) (hl : z.toInt = (cs.length : Nat)) (hcap : cs.length ≤ 3) (h1 : ¬ p1 < (0 : Int32)) (h2 : p1 < z) :
    own_Met l (⟨"java/lang/StringUTF16", "checkIndex", "(I[B)V"⟩ : MethodName) jdk_52_method_91_code 2 none ws ({ frames := 2, cells := 0, slots := 0, locals := 27 } : Room) #[(.int p1), (.ref a2)] Z h0 (fun v h L => v = none ∧ Fr n0 L ∧ h = h0) := by
  refine own_body (plainFor_of_name pn_3) (ef_22 p1 a2) ?_
  intro p e s m below meth c T0 X0 hx hby hml0 hret hlk hnm hown hZ e0
  have hml : c.maxLocals = 2 := hml0
  have N0 := Fr.nil n0
  refine own_step (fun _ k => XS.iloadN X0.here hx rfl (hb hby d22_0) rfl k) ?_
  show own_Go _ _ _ _ T0 (mkF m 1 #[.val (.int p1), .val (.ref a2)] [(.int p1)])
  refine own_step (fun _ k => XS.aloadN X0.here hx rfl (hb hby d22_1) rfl rfl k) ?_
  show own_Go _ _ _ _ T0 (mkF m 2 #[.val (.int p1), .val (.ref a2)] [(.ref a2), (.int p1)])
  refine own_callS X0 hx hZ (y := (⟨"java/lang/StringUTF16", "length", "([B)I"⟩ : MethodName)) hown (hw _ (List.mem_of_getElem? (i := 106) rfl)) (hw _ (List.mem_of_getElem? (i := 107) rfl)) (hw _ (List.mem_of_getElem? (i := 44) rfl)) (hw _ (List.mem_of_getElem? (i := 108) rfl)) (by decide) (rm23 l Z a0 hw [] a2 kb z cs h0 n0 Z0 VB hl hcap) e0 1 (by decide) (by decide) (by decide) (by decide) (g := (mkF m 2 #[.val (.int p1), .val (.ref a2)] [(.ref a2), (.int p1)])) rfl (by rw [hml]; rfl) [(.ref a2)] [(.int p1)] pd_6 rfl rfl rfl (by show 2 * 0 + _ ≤ _; exact Nat.le_of_eq rfl) (hb hby d22_2) ?_
  rintro v1 T1 L1 X1 ⟨rfl, Nq1, e1⟩
  have N1 := Fr.app N0 Nq1
  show own_Go _ _ _ _ T1 (mkF m 5 #[.val (.int p1), .val (.ref a2)] [(.int z), (.int p1)])
  refine own_callS X1 hx hZ (y := (⟨"java/lang/String", "checkIndex", "(II)V"⟩ : MethodName)) hown (hw _ (List.mem_of_getElem? (i := 109) rfl)) (hw _ (List.mem_of_getElem? (i := 74) rfl)) (hw _ (List.mem_of_getElem? (i := 3) rfl)) (hw _ (List.mem_of_getElem? (i := 75) rfl)) (by decide) (rm14 l Z a0 hw [] p1 z fv h0 n0 Z0 O0 SF hfv h1 h2) e1 0 (by decide) (by decide) (by decide) (by decide) (g := (mkF m 5 #[.val (.int p1), .val (.ref a2)] [(.int z), (.int p1)])) rfl (by rw [hml]; rfl) [(.int p1), (.int z)] [] pd_2 rfl rfl rfl (by show 2 * 0 + _ ≤ _; exact Nat.le_of_eq rfl) (hb hby d22_5) ?_
  rintro v2 T2 L2 X2 ⟨rfl, Nq2, e2⟩
  have N2 := Fr.app N1 Nq2
  show own_Go _ _ _ _ T2 (mkF m 8 #[.val (.int p1), .val (.ref a2)] [])
  exact own_retV X2 hx hret hlk (hb hby d22_8) (own_N ⟨rfl, N2, e2⟩ (by decide) (by decide)) 
theorem d21_0 : decode jdk_52_method_83_code 0 = .ok (.iload_n 1, 1) := by decide +kernel
theorem d21_1 : decode jdk_52_method_83_code 1 = .ok (.aload_n 0, 1) := by decide +kernel
theorem d21_2 : decode jdk_52_method_83_code 2 = .ok (.invokestatic 67, 3) := by decide +kernel
theorem d21_5 : decode jdk_52_method_83_code 5 = .ok (.aload_n 0, 1) := by decide +kernel
theorem d21_6 : decode jdk_52_method_83_code 6 = .ok (.iload_n 1, 1) := by decide +kernel
theorem d21_7 : decode jdk_52_method_83_code 7 = .ok (.invokestatic 71, 3) := by decide +kernel
theorem d21_10 : decode jdk_52_method_83_code 10 = .ok (.ireturn, 1) := by decide +kernel
theorem ef_21 (a1 : Addr) (p2 : Int32) (m : MethodId) : entryFrame m #[(.ref a1), (.int p2)] 2 = mkF m 0 #[.val (.ref a1), .val (.int p2)] [] := by first | (simp [entryFrame, mkF, argsToLocals, Value.category]; done) | rfl
theorem pd_7 : parseMethodDescriptor "(I[B)V" = some ⟨[.int, (.array .byte)], none⟩ := by decide +kernel
set_option maxRecDepth 65536 in
set_option maxHeartbeats 40000000 in
theorem rm21 (l : Launch) (Z : State) (a0 : Array Value) (hw : ∀ d ∈ tables_1, d.before a0 Z = true) (ws : List Jvm.Cond) (a1 : Addr) (p2 : Int32) (fv : Value) (kb : ClassId) (z : Int32) (cs : List Int32) (j : Nat) (h0 : Heap) (n0 : Nat) (Z0 : n0 ≤ h0.size) (O0 : Old Z n0 h0) (SF : Sta Z Z.heap "jdk/internal/util/Preconditions" "SIOOBE_FORMATTER" "Ljava/util/function/BiFunction;" fv) (hfv : fv.isRef = true) (SA : Sta Z Z.heap "java/lang/StringUTF16" "$assertionsDisabled" "Z" (.int (1 : Int32))) (SH : Sta Z Z.heap "java/lang/StringUTF16" "HI_BYTE_SHIFT" "I" (.int (0 : Int32))) (SL : Sta Z Z.heap "java/lang/StringUTF16" "LO_BYTE_SHIFT" "I" (.int (8 : Int32))) (VB : Arv Z h0 a1 kb .byte (z <<< ((1 : Int32) &&& 31)) ((own_u16 cs).map Value.int) (.int (0 : Int32))) (hl : z.toInt = (cs.length : Nat)) (hcap : cs.length ≤ 3) (hch : (∀ t, 0 ≤ (cs.getD t (0 : Int32)).toInt ∧ (cs.getD t (0 : Int32)).toInt ≤ 65535)) (hj : p2.toInt = (j : Nat)) (hjl : j < cs.length) :
    own_Met l (⟨"java/lang/StringUTF16", "charAt", "([BI)C"⟩ : MethodName) jdk_52_method_83_code 2 (some .char) ws ({ frames := 3, cells := 0, slots := 0, locals := 40 } : Room) #[(.ref a1), (.int p2)] Z h0 (fun v h L => v = some (.int (cs.getD j (0 : Int32))) ∧ Fr n0 L ∧ h = h0) := by
  refine own_body (plainFor_of_name pn_3) (ef_21 a1 p2) ?_
  intro p e s m below meth c T0 X0 hx hby hml0 hret hlk hnm hown hZ e0
  have hml : c.maxLocals = 2 := hml0
  have N0 := Fr.nil n0
  refine own_step (fun _ k => XS.iloadN X0.here hx rfl (hb hby d21_0) rfl k) ?_
  show own_Go _ _ _ _ T0 (mkF m 1 #[.val (.ref a1), .val (.int p2)] [(.int p2)])
  refine own_step (fun _ k => XS.aloadN X0.here hx rfl (hb hby d21_1) rfl rfl k) ?_
  show own_Go _ _ _ _ T0 (mkF m 2 #[.val (.ref a1), .val (.int p2)] [(.ref a1), (.int p2)])
  refine own_callS X0 hx hZ (y := (⟨"java/lang/StringUTF16", "checkIndex", "(I[B)V"⟩ : MethodName)) hown (hw _ (List.mem_of_getElem? (i := 103) rfl)) (hw _ (List.mem_of_getElem? (i := 104) rfl)) (hw _ (List.mem_of_getElem? (i := 44) rfl)) (hw _ (List.mem_of_getElem? (i := 105) rfl)) (by decide) (rm22 l Z a0 hw [] p2 a1 fv kb z cs h0 n0 Z0 O0 SF hfv VB hl hcap (own_nn hj) ((own_lt hj hl).mpr hjl)) e0 0 (by decide) (by decide) (by decide) (by decide) (g := (mkF m 2 #[.val (.ref a1), .val (.int p2)] [(.ref a1), (.int p2)])) rfl (by rw [hml]; rfl) [(.int p2), (.ref a1)] [] pd_7 rfl rfl rfl (by show 2 * 0 + _ ≤ _; exact Nat.le_of_eq rfl) (hb hby d21_2) ?_
  rintro v1 T1 L1 X1 ⟨rfl, Nq1, e1⟩
  have N1 := Fr.app N0 Nq1
  show own_Go _ _ _ _ T1 (mkF m 5 #[.val (.ref a1), .val (.int p2)] [])
  refine own_step (fun _ k => XS.aloadN X1.here hx rfl (hb hby d21_5) rfl rfl k) ?_
  show own_Go _ _ _ _ T1 (mkF m 6 #[.val (.ref a1), .val (.int p2)] [(.ref a1)])
  refine own_step (fun _ k => XS.iloadN X1.here hx rfl (hb hby d21_6) rfl k) ?_
  show own_Go _ _ _ _ T1 (mkF m 7 #[.val (.ref a1), .val (.int p2)] [(.int p2), (.ref a1)])
  refine own_callS X1 hx hZ (y := (⟨"java/lang/StringUTF16", "getChar", "([BI)C"⟩ : MethodName)) hown (hw _ (List.mem_of_getElem? (i := 97) rfl)) (hw _ (List.mem_of_getElem? (i := 98) rfl)) (hw _ (List.mem_of_getElem? (i := 44) rfl)) (hw _ (List.mem_of_getElem? (i := 99) rfl)) (by decide) (rm20 l Z a0 hw [] a1 p2 kb z cs j h0 n0 Z0 O0 SA SH SL VB hl hcap hch hj hjl) e1 0 (by decide) (by decide) (by decide) (by decide) (g := (mkF m 7 #[.val (.ref a1), .val (.int p2)] [(.int p2), (.ref a1)])) rfl (by rw [hml]; rfl) [(.ref a1), (.int p2)] [] pd_4 rfl rfl rfl (by show 2 * 0 + _ ≤ _; exact Nat.le_of_eq rfl) (hb hby d21_7) ?_
  rintro v2 T2 L2 X2 ⟨rfl, Nq2, e2⟩
  have N2 := Fr.app N1 Nq2
  show own_Go _ _ _ _ T2 (mkF m 10 #[.val (.ref a1), .val (.int p2)] [(.int (cs.getD j (0 : Int32)))])
  exact own_retN X2 hx (t := .char) hret (by simp) hlk (hb hby d21_10) (own_nc (hch j)) (own_N ⟨rfl, N2, e2⟩ (by decide) (by decide))
set_option maxRecDepth 65536 in
set_option maxHeartbeats 40000000 in
theorem rm6_u (l : Launch) (Z : State) (a0 : Array Value) (hw : ∀ d ∈ tables_1, d.before a0 Z = true) (ws : List Jvm.Cond) (a1 : Addr) (cz : Int32) (h0 : Heap) (n0 : Nat) (Z0 : n0 ≤ h0.size) (O0 : Old Z n0 h0) (SC : Sta Z Z.heap "java/lang/String" "COMPACT_STRINGS" "Z" (.int cz)) (hcz : ¬ cz = (0 : Int32)) (FC_a1 : Fld Z h0 a1 "java/lang/String" "coder" "B" (.int (1 : Int32))) :
    own_Met l (⟨"java/lang/String", "coder", "()B"⟩ : MethodName) jdk_42_method_152_code 1 (some .byte) ws ({ frames := 0, cells := 0, slots := 0, locals := 0 } : Room) #[(.ref a1)] Z h0 (fun v h L => v = some (.int (1 : Int32)) ∧ Fr n0 L ∧ h = h0) := by
  refine own_body (plainFor_of_name pn_0) (ef_6 a1) ?_
  intro p e s m below meth c T0 X0 hx hby hml0 hret hlk hnm hown hZ e0
  have hml : c.maxLocals = 1 := hml0
  have N0 := Fr.nil n0
  obtain ⟨T1, X1, e1, st1⟩ := getS2 X0 hx hZ hown (host := "") (Or.inl (hw _ (List.mem_of_getElem? (i := 41) rfl))) Via.refl e0 (SC.ext O0.2) (g := (mkF m 0 #[.val (.ref a1)] [])) rfl (hb hby d6_0)
  refine own_step st1 ?_
  show own_Go _ _ _ _ T1 (mkF m 3 #[.val (.ref a1)] [(.int cz)])
  refine own_step (fun _ k => XS.ifNo X1.here hx rfl (hb hby d6_3) rfl ((if0 _ _).trans (feq hcz).1) k) ?_
  show own_Go _ _ _ _ T1 (mkF m 6 #[.val (.ref a1)] [])
  refine own_step (fun _ k => XS.aloadN X1.here hx rfl (hb hby d6_6) rfl rfl k) ?_
  show own_Go _ _ _ _ T1 (mkF m 7 #[.val (.ref a1)] [(.ref a1)])
  obtain ⟨T2, X2, e2, st2⟩ := getF X1 hx hZ hown (host := "") (Or.inl (hw _ (List.mem_of_getElem? (i := 22) rfl))) Via.refl e1 FC_a1 (g := (mkF m 7 #[.val (.ref a1)] [(.ref a1)])) rfl rfl (hb hby d6_7)
  refine own_step st2 ?_
  show own_Go _ _ _ _ T2 (mkF m 10 #[.val (.ref a1)] [(.int (1 : Int32))])
  refine own_step (fun _ k => XS.goto X2.here hx rfl (pc0 := 10) (pc' := 14) rfl (hb hby d6_10) (by decide) (by decide) k) ?_
  show own_Go _ _ _ _ T2 (mkF m 14 #[.val (.ref a1)] [(.int (1 : Int32))])
  exact own_retN X2 hx (t := .byte) hret (by simp) hlk (hb hby d6_14) rfl (own_N ⟨rfl, N0, e2⟩ (by decide) (by decide)) 
set_option maxRecDepth 65536 in
set_option maxHeartbeats 40000000 in
theorem rm12_u (l : Launch) (Z : State) (a0 : Array Value) (hw : ∀ d ∈ tables_1, d.before a0 Z = true) (ws : List Jvm.Cond) (a1 : Addr) (cz : Int32) (h0 : Heap) (n0 : Nat) (Z0 : n0 ≤ h0.size) (O0 : Old Z n0 h0) (SC : Sta Z Z.heap "java/lang/String" "COMPACT_STRINGS" "Z" (.int cz)) (hcz : ¬ cz = (0 : Int32)) (FC_a1 : Fld Z h0 a1 "java/lang/String" "coder" "B" (.int (1 : Int32))) :
    own_Met l (⟨"java/lang/String", "isLatin1", "()Z"⟩ : MethodName) jdk_42_method_154_code 1 (some .boolean) ws ({ frames := 0, cells := 0, slots := 0, locals := 0 } : Room) #[(.ref a1)] Z h0 (fun v h L => v = some (.int (0 : Int32)) ∧ Fr n0 L ∧ h = h0) := by
  refine own_body (plainFor_of_name pn_0) (ef_12 a1) ?_
  intro p e s m below meth c T0 X0 hx hby hml0 hret hlk hnm hown hZ e0
  have hml : c.maxLocals = 1 := hml0
  have N0 := Fr.nil n0
  obtain ⟨T1, X1, e1, st1⟩ := getS2 X0 hx hZ hown (host := "") (Or.inl (hw _ (List.mem_of_getElem? (i := 41) rfl))) Via.refl e0 (SC.ext O0.2) (g := (mkF m 0 #[.val (.ref a1)] [])) rfl (hb hby d12_0)
  refine own_step st1 ?_
  show own_Go _ _ _ _ T1 (mkF m 3 #[.val (.ref a1)] [(.int cz)])
  refine own_step (fun _ k => XS.ifNo X1.here hx rfl (hb hby d12_3) rfl ((if0 _ _).trans (feq hcz).1) k) ?_
  show own_Go _ _ _ _ T1 (mkF m 6 #[.val (.ref a1)] [])
  refine own_step (fun _ k => XS.aloadN X1.here hx rfl (hb hby d12_6) rfl rfl k) ?_
  show own_Go _ _ _ _ T1 (mkF m 7 #[.val (.ref a1)] [(.ref a1)])
  obtain ⟨T2, X2, e2, st2⟩ := getF X1 hx hZ hown (host := "") (Or.inl (hw _ (List.mem_of_getElem? (i := 22) rfl))) Via.refl e1 FC_a1 (g := (mkF m 7 #[.val (.ref a1)] [(.ref a1)])) rfl rfl (hb hby d12_7)
  refine own_step st2 ?_
  show own_Go _ _ _ _ T2 (mkF m 10 #[.val (.ref a1)] [(.int (1 : Int32))])
  refine own_step (fun _ k => XS.ifYes X2.here hx rfl (pc0 := 10) (pc' := 17) rfl (hb hby d12_10) rfl ((if0 _ _).trans (feq (by decide : ¬ ((1 : Int32) = (0 : Int32)))).2) (by decide) (by decide) k) ?_
  show own_Go _ _ _ _ T2 (mkF m 17 #[.val (.ref a1)] [])
  refine own_step (fun _ k => XS.iconst X2.here hx rfl (hb hby d12_17) k) ?_
  show own_Go _ _ _ _ T2 (mkF m 18 #[.val (.ref a1)] [(.int (0 : Int32))])
  exact own_retN X2 hx (t := .boolean) hret (by simp) hlk (hb hby d12_18) rfl (own_N ⟨rfl, N0, e2⟩ (by decide) (by decide)) 
set_option maxRecDepth 65536 in
set_option maxHeartbeats 40000000 in
theorem rm5_u (l : Launch) (Z : State) (a0 : Array Value) (hw : ∀ d ∈ tables_1, d.before a0 Z = true) (ws : List Jvm.Cond) (a1 : Addr) (cz : Int32) (b : Addr) (kb : ClassId) (z : Int32) (cs : List Int32) (h0 : Heap) (n0 : Nat) (Z0 : n0 ≤ h0.size) (O0 : Old Z n0 h0) (SC : Sta Z Z.heap "java/lang/String" "COMPACT_STRINGS" "Z" (.int cz)) (hcz : ¬ cz = (0 : Int32)) (E_a1 : Exa Z h0 a1 "java/lang/String") (FC_a1 : Fld Z h0 a1 "java/lang/String" "coder" "B" (.int (1 : Int32))) (FV_a1 : Fld Z h0 a1 "java/lang/String" "value" "[B" (.ref b)) (VB : Arv Z h0 b kb .byte (z <<< ((1 : Int32) &&& 31)) ((own_u16 cs).map Value.int) (.int (0 : Int32))) (hl : z.toInt = (cs.length : Nat)) (hcap : cs.length ≤ 3) :
    own_Met l (⟨"java/lang/String", "length", "()I"⟩ : MethodName) jdk_42_method_54_code 1 (some .int) ws ({ frames := 2, cells := 0, slots := 0, locals := 40 } : Room) #[(.ref a1)] Z h0 (fun v h L => v = some (.int z) ∧ Fr n0 L ∧ h = h0) := by
  refine own_body (plainFor_of_name pn_0) (ef_5 a1) ?_
  intro p e s m below meth c T0 X0 hx hby hml0 hret hlk hnm hown hZ e0
  have hml : c.maxLocals = 1 := hml0
  have N0 := Fr.nil n0
  refine own_step (fun _ k => XS.aloadN X0.here hx rfl (hb hby d5_0) rfl rfl k) ?_
  show own_Go _ _ _ _ T0 (mkF m 1 #[.val (.ref a1)] [(.ref a1)])
  obtain ⟨T1, X1, e1, st1⟩ := getF X0 hx hZ hown (host := "") (Or.inl (hw _ (List.mem_of_getElem? (i := 21) rfl))) Via.refl e0 FV_a1 (g := (mkF m 1 #[.val (.ref a1)] [(.ref a1)])) rfl rfl (hb hby d5_1)
  refine own_step st1 ?_
  show own_Go _ _ _ _ T1 (mkF m 4 #[.val (.ref a1)] [(.ref b)])
  refine own_step (own_len X1 hx hZ e1 VB (g := (mkF m 4 #[.val (.ref a1)] [(.ref b)])) rfl rfl (hb hby d5_4)) ?_
  show own_Go _ _ _ _ T1 (mkF m 5 #[.val (.ref a1)] [(.int (z <<< ((1 : Int32) &&& 31)))])
  refine own_step (fun _ k => XS.aloadN X1.here hx rfl (hb hby d5_5) rfl rfl k) ?_
  show own_Go _ _ _ _ T1 (mkF m 6 #[.val (.ref a1)] [(.ref a1), (.int (z <<< ((1 : Int32) &&& 31)))])
  refine own_callV X1 hx hZ (y := (⟨"java/lang/String", "coder", "()B"⟩ : MethodName)) (z := (⟨"java/lang/String", "coder", "()B"⟩ : MethodName)) hown (hw _ (List.mem_of_getElem? (i := 36) rfl)) (hw _ (List.mem_of_getElem? (i := 37) rfl)) (hw _ (List.mem_of_getElem? (i := 39) rfl)) (hw _ (List.mem_of_getElem? (i := 39) rfl)) (hw _ (List.mem_of_getElem? (i := 38) rfl)) (hw _ (List.mem_of_getElem? (i := 3) rfl)) (hw _ (List.mem_of_getElem? (i := 40) rfl)) (by decide) (rm6_u l Z a0 hw [] a1 cz h0 n0 Z0 O0 SC hcz FC_a1) e1 (b := a1) E_a1 1 (by decide) (by decide) (by decide) (by decide) (g := (mkF m 6 #[.val (.ref a1)] [(.ref a1), (.int (z <<< ((1 : Int32) &&& 31)))])) rfl (by rw [hml]; rfl) [] [(.int (z <<< ((1 : Int32) &&& 31)))] pd_0 rfl rfl rfl (by show 2 * 0 + _ ≤ _; exact Nat.le_of_eq rfl) (hb hby d5_6) ?_
  rintro v2 T2 L2 X2 ⟨rfl, Nq2, e2⟩
  have N2 := Fr.app N0 Nq2
  show own_Go _ _ _ _ T2 (mkF m 9 #[.val (.ref a1)] [(.int (1 : Int32)), (.int (z <<< ((1 : Int32) &&& 31)))])
  refine own_step (fun _ k => XS.ishr X2.here hx rfl (hb hby d5_9) rfl k) ?_
  show own_Go _ _ _ _ T2 (mkF m 10 #[.val (.ref a1)] [(.int ((z <<< ((1 : Int32) &&& 31)) >>> ((1 : Int32) &&& 31)))])
  rw [own_shr1 hl (by omega)]
  show own_Go _ _ _ _ T2 (mkF m 10 #[.val (.ref a1)] [(.int z)])
  exact own_retI X2 hx hret hlk (hb hby d5_10) (own_N ⟨rfl, N2, e2⟩ (by decide) (by decide)) 
set_option maxRecDepth 65536 in
set_option maxHeartbeats 40000000 in
theorem rm11_u (l : Launch) (Z : State) (a0 : Array Value) (hw : ∀ d ∈ tables_1, d.before a0 Z = true) (ws : List Jvm.Cond) (a1 : Addr) (p2 : Int32) (cz : Int32) (fv : Value) (b : Addr) (kb : ClassId) (z : Int32) (cs : List Int32) (j : Nat) (h0 : Heap) (n0 : Nat) (Z0 : n0 ≤ h0.size) (O0 : Old Z n0 h0) (SC : Sta Z Z.heap "java/lang/String" "COMPACT_STRINGS" "Z" (.int cz)) (hcz : ¬ cz = (0 : Int32)) (SF : Sta Z Z.heap "jdk/internal/util/Preconditions" "SIOOBE_FORMATTER" "Ljava/util/function/BiFunction;" fv) (hfv : fv.isRef = true) (SA : Sta Z Z.heap "java/lang/StringUTF16" "$assertionsDisabled" "Z" (.int (1 : Int32))) (SH : Sta Z Z.heap "java/lang/StringUTF16" "HI_BYTE_SHIFT" "I" (.int (0 : Int32))) (SL : Sta Z Z.heap "java/lang/StringUTF16" "LO_BYTE_SHIFT" "I" (.int (8 : Int32))) (E_a1 : Exa Z h0 a1 "java/lang/String") (FC_a1 : Fld Z h0 a1 "java/lang/String" "coder" "B" (.int (1 : Int32))) (FV_a1 : Fld Z h0 a1 "java/lang/String" "value" "[B" (.ref b)) (VB : Arv Z h0 b kb .byte (z <<< ((1 : Int32) &&& 31)) ((own_u16 cs).map Value.int) (.int (0 : Int32))) (hl : z.toInt = (cs.length : Nat)) (hcap : cs.length ≤ 3) (hch : (∀ t, 0 ≤ (cs.getD t (0 : Int32)).toInt ∧ (cs.getD t (0 : Int32)).toInt ≤ 65535)) (hj : p2.toInt = (j : Nat)) (hjl : j < cs.length) :
    own_Met l (⟨"java/lang/String", "charAt", "(I)C"⟩ : MethodName) jdk_42_method_56_code 2 (some .char) ws ({ frames := 5, cells := 0, slots := 0, locals := 90 } : Room) #[(.ref a1), (.int p2)] Z h0 (fun v h L => v = some (.int (cs.getD j (0 : Int32))) ∧ Fr n0 L ∧ h = h0) := by
  refine own_body (plainFor_of_name pn_0) (ef_11 a1 p2) ?_
  intro p e s m below meth c T0 X0 hx hby hml0 hret hlk hnm hown hZ e0
  have hml : c.maxLocals = 2 := hml0
  have N0 := Fr.nil n0
  refine own_step (fun _ k => XS.aloadN X0.here hx rfl (hb hby d11_0) rfl rfl k) ?_
  show own_Go _ _ _ _ T0 (mkF m 1 #[.val (.ref a1), .val (.int p2)] [(.ref a1)])
  refine own_callV X0 hx hZ (y := (⟨"java/lang/String", "isLatin1", "()Z"⟩ : MethodName)) (z := (⟨"java/lang/String", "isLatin1", "()Z"⟩ : MethodName)) hown (hw _ (List.mem_of_getElem? (i := 64) rfl)) (hw _ (List.mem_of_getElem? (i := 65) rfl)) (hw _ (List.mem_of_getElem? (i := 67) rfl)) (hw _ (List.mem_of_getElem? (i := 67) rfl)) (hw _ (List.mem_of_getElem? (i := 66) rfl)) (hw _ (List.mem_of_getElem? (i := 3) rfl)) (hw _ (List.mem_of_getElem? (i := 68) rfl)) (by decide) (rm12_u l Z a0 hw [] a1 cz h0 n0 Z0 O0 SC hcz FC_a1) e0 (b := a1) E_a1 0 (by decide) (by decide) (by decide) (by decide) (g := (mkF m 1 #[.val (.ref a1), .val (.int p2)] [(.ref a1)])) rfl (by rw [hml]; rfl) [] [] pd_3 rfl rfl rfl (by show 2 * 0 + _ ≤ _; exact Nat.le_of_eq rfl) (hb hby d11_1) ?_
  rintro v1 T1 L1 X1 ⟨rfl, Nq1, e1⟩
  have N1 := Fr.app N0 Nq1
  show own_Go _ _ _ _ T1 (mkF m 4 #[.val (.ref a1), .val (.int p2)] [(.int (0 : Int32))])
  refine own_step (fun _ k => XS.ifYes X1.here hx rfl (pc0 := 4) (pc' := 16) rfl (hb hby d11_4) rfl ((if0 _ _).trans (teq (by decide : (0 : Int32) = (0 : Int32))).1) (by decide) (by decide) k) ?_
  show own_Go _ _ _ _ T1 (mkF m 16 #[.val (.ref a1), .val (.int p2)] [])
  refine own_step (fun _ k => XS.aloadN X1.here hx rfl (hb hby d11_16) rfl rfl k) ?_
  show own_Go _ _ _ _ T1 (mkF m 17 #[.val (.ref a1), .val (.int p2)] [(.ref a1)])
  obtain ⟨T2, X2, e2, st2⟩ := getF X1 hx hZ hown (host := "") (Or.inl (hw _ (List.mem_of_getElem? (i := 21) rfl))) Via.refl e1 FV_a1 (g := (mkF m 17 #[.val (.ref a1), .val (.int p2)] [(.ref a1)])) rfl rfl (hb hby d11_17)
  refine own_step st2 ?_
  show own_Go _ _ _ _ T2 (mkF m 20 #[.val (.ref a1), .val (.int p2)] [(.ref b)])
  refine own_step (fun _ k => XS.iloadN X2.here hx rfl (hb hby d11_20) rfl k) ?_
  show own_Go _ _ _ _ T2 (mkF m 21 #[.val (.ref a1), .val (.int p2)] [(.int p2), (.ref b)])
  refine own_callS X2 hx hZ (y := (⟨"java/lang/StringUTF16", "charAt", "([BI)C"⟩ : MethodName)) hown (hw _ (List.mem_of_getElem? (i := 100) rfl)) (hw _ (List.mem_of_getElem? (i := 101) rfl)) (hw _ (List.mem_of_getElem? (i := 44) rfl)) (hw _ (List.mem_of_getElem? (i := 102) rfl)) (by decide) (rm21 l Z a0 hw [] b p2 fv kb z cs j h0 n0 Z0 O0 SF hfv SA SH SL VB hl hcap hch hj hjl) e2 0 (by decide) (by decide) (by decide) (by decide) (g := (mkF m 21 #[.val (.ref a1), .val (.int p2)] [(.int p2), (.ref b)])) rfl (by rw [hml]; rfl) [(.ref b), (.int p2)] [] pd_4 rfl rfl rfl (by show 2 * 0 + _ ≤ _; exact Nat.le_of_eq rfl) (hb hby d11_21) ?_
  rintro v3 T3 L3 X3 ⟨rfl, Nq3, e3⟩
  have N3 := Fr.app N1 Nq3
  show own_Go _ _ _ _ T3 (mkF m 24 #[.val (.ref a1), .val (.int p2)] [(.int (cs.getD j (0 : Int32)))])
  exact own_retN X3 hx (t := .char) hret (by simp) hlk (hb hby d11_24) (own_nc (hch j)) (own_N ⟨rfl, N3, e3⟩ (by decide) (by decide))
theorem rmLen (l : Launch) (Z : State) (a0 : Array Value) (hw : ∀ d ∈ tables_1, d.before a0 Z = true) (ws : List Jvm.Cond) (a1 : Addr) (cz : Int32) (z : Int32) (cs : List Int32) (h0 : Heap) (n0 : Nat) (Z0 : n0 ≤ h0.size) (O0 : Old Z n0 h0) (SC : Sta Z Z.heap "java/lang/String" "COMPACT_STRINGS" "Z" (.int cz)) (hcz : ¬ cz = (0 : Int32)) (H : own_Str Z h0 a1 z cs) :
    own_Met l (⟨"java/lang/String", "length", "()I"⟩ : MethodName) jdk_42_method_54_code 1 (some .int) ws ({ frames := 2, cells := 0, slots := 0, locals := 40 } : Room) #[(.ref a1)] Z h0 (fun v h L => v = some (.int z) ∧ Fr n0 L ∧ h = h0) := by
  obtain ⟨hl, hcap, hch, E, b, k, FV, ⟨FC, V, hlat⟩ | ⟨FC, V⟩⟩ := H
  · exact rm5 l Z a0 hw ws a1 cz b k z _ h0 n0 Z0 O0 SC hcz E FC FV V
  · exact rm5_u l Z a0 hw ws a1 cz b k z cs h0 n0 Z0 O0 SC hcz E FC FV V hl hcap
theorem rmChr (l : Launch) (Z : State) (a0 : Array Value) (hw : ∀ d ∈ tables_1, d.before a0 Z = true) (ws : List Jvm.Cond) (a1 : Addr) (p2 : Int32) (cz : Int32) (fv : Value) (z : Int32) (cs : List Int32) (j : Nat) (h0 : Heap) (n0 : Nat) (Z0 : n0 ≤ h0.size) (O0 : Old Z n0 h0) (SC : Sta Z Z.heap "java/lang/String" "COMPACT_STRINGS" "Z" (.int cz)) (hcz : ¬ cz = (0 : Int32)) (SF : Sta Z Z.heap "jdk/internal/util/Preconditions" "SIOOBE_FORMATTER" "Ljava/util/function/BiFunction;" fv) (hfv : fv.isRef = true) (SA : Sta Z Z.heap "java/lang/StringUTF16" "$assertionsDisabled" "Z" (.int (1 : Int32))) (SH : Sta Z Z.heap "java/lang/StringUTF16" "HI_BYTE_SHIFT" "I" (.int (0 : Int32))) (SL : Sta Z Z.heap "java/lang/StringUTF16" "LO_BYTE_SHIFT" "I" (.int (8 : Int32))) (H : own_Str Z h0 a1 z cs) (hj : p2.toInt = (j : Nat)) (hjl : j < cs.length) :
    own_Met l (⟨"java/lang/String", "charAt", "(I)C"⟩ : MethodName) jdk_42_method_56_code 2 (some .char) ws ({ frames := 5, cells := 0, slots := 0, locals := 90 } : Room) #[(.ref a1), (.int p2)] Z h0 (fun v h L => v = some (.int (cs.getD j (0 : Int32))) ∧ Fr n0 L ∧ h = h0) := by
  obtain ⟨hl, hcap, hch, E, b, k, FV, ⟨FC, V, hlat⟩ | ⟨FC, V⟩⟩ := H
  · have q := rm11 l Z a0 hw ws a1 p2 cz fv b k z _ h0 n0 Z0 O0 SC hcz SF hfv E FC FV V (own_nn hj) ((own_lt hj hl).mpr hjl)
    rw [own_clamp hj, own_mapg cs j hjl, own_l8 (hch j) (hlat j)] at q
    exact q
  · exact rm11_u l Z a0 hw ws a1 p2 cz fv b k z cs j h0 n0 Z0 O0 SC hcz SF hfv SA SH SL E FC FV V hl hcap hch hj hjl
theorem d18_0 : decode jdk_52_method_3_code 0 = .ok (.iload_n 0, 1) := by decide +kernel
theorem d18_1 : decode jdk_52_method_3_code 1 = .ok (.ifCond .ge 11, 3) := by decide +kernel
theorem d18_4 : decode jdk_52_method_3_code 4 = .ok (.new 17, 3) := by decide +kernel
theorem d18_7 : decode jdk_52_method_3_code 7 = .ok (.dup, 1) := by decide +kernel
theorem d18_8 : decode jdk_52_method_3_code 8 = .ok (.invokespecial 19, 3) := by decide +kernel
theorem d18_11 : decode jdk_52_method_3_code 11 = .ok (.athrow, 1) := by decide +kernel
theorem d18_12 : decode jdk_52_method_3_code 12 = .ok (.iload_n 0, 1) := by decide +kernel
theorem d18_13 : decode jdk_52_method_3_code 13 = .ok (.ldc 20, 2) := by decide +kernel
theorem d18_15 : decode jdk_52_method_3_code 15 = .ok (.if_icmp .lt 40, 3) := by decide +kernel
theorem d18_18 : decode jdk_52_method_3_code 18 = .ok (.new 21, 3) := by decide +kernel
theorem d18_21 : decode jdk_52_method_3_code 21 = .ok (.dup, 1) := by decide +kernel
theorem d18_22 : decode jdk_52_method_3_code 22 = .ok (.new 23, 3) := by decide +kernel
theorem d18_25 : decode jdk_52_method_3_code 25 = .ok (.dup, 1) := by decide +kernel
theorem d18_26 : decode jdk_52_method_3_code 26 = .ok (.invokespecial 25, 3) := by decide +kernel
theorem d18_29 : decode jdk_52_method_3_code 29 = .ok (.ldc 26, 2) := by decide +kernel
theorem d18_31 : decode jdk_52_method_3_code 31 = .ok (.invokevirtual 28, 3) := by decide +kernel
theorem d18_34 : decode jdk_52_method_3_code 34 = .ok (.iload_n 0, 1) := by decide +kernel
theorem d18_35 : decode jdk_52_method_3_code 35 = .ok (.invokevirtual 32, 3) := by decide +kernel
theorem d18_38 : decode jdk_52_method_3_code 38 = .ok (.ldc 35, 2) := by decide +kernel
theorem d18_40 : decode jdk_52_method_3_code 40 = .ok (.invokevirtual 28, 3) := by decide +kernel
theorem d18_43 : decode jdk_52_method_3_code 43 = .ok (.ldc 20, 2) := by decide +kernel
theorem d18_45 : decode jdk_52_method_3_code 45 = .ok (.invokevirtual 32, 3) := by decide +kernel
theorem d18_48 : decode jdk_52_method_3_code 48 = .ok (.invokevirtual 37, 3) := by decide +kernel
theorem d18_51 : decode jdk_52_method_3_code 51 = .ok (.invokespecial 41, 3) := by decide +kernel
theorem d18_54 : decode jdk_52_method_3_code 54 = .ok (.athrow, 1) := by decide +kernel
theorem d18_55 : decode jdk_52_method_3_code 55 = .ok (.iload_n 0, 1) := by decide +kernel
theorem d18_56 : decode jdk_52_method_3_code 56 = .ok (.iconst 1, 1) := by decide +kernel
theorem d18_57 : decode jdk_52_method_3_code 57 = .ok (.ishl, 1) := by decide +kernel
theorem d18_58 : decode jdk_52_method_3_code 58 = .ok (.ireturn, 1) := by decide +kernel
theorem ef_18 (p1 : Int32) (m : MethodId) : entryFrame m #[(.int p1)] 1 = mkF m 0 #[.val (.int p1)] [] := by first | (simp [entryFrame, mkF, argsToLocals, Value.category]; done) | rfl
set_option maxRecDepth 65536 in
set_option maxHeartbeats 40000000 in
theorem rm18 (l : Launch) (Z : State) (a0 : Array Value) (hw : ∀ d ∈ tables_1, d.before a0 Z = true) (ws : List Jvm.Cond) (p1 : Int32) (h0 : Heap) (n0 : Nat) (Z0 : n0 ≤ h0.size) (h1 : ¬ p1 < (0 : Int32)) (h2 : p1 < (1073741823 : Int32)) :
    own_Met l (⟨"java/lang/StringUTF16", "newBytesLength", "(I)I"⟩ : MethodName) jdk_52_method_3_code 1 (some .int) ws ({ frames := 0, cells := 0, slots := 0, locals := 0 } : Room) #[(.int p1)] Z h0 (fun v h L => v = some (.int (p1 <<< ((1 : Int32) &&& 31))) ∧ Fr n0 L ∧ h = h0) := by
  refine own_body (plainFor_of_name pn_3) (ef_18 p1) ?_
  intro p e s m below meth c T0 X0 hx hby hml0 hret hlk hnm hown hZ e0
  have hml : c.maxLocals = 1 := hml0
  have N0 := Fr.nil n0
  refine own_step (fun _ k => XS.iloadN X0.here hx rfl (hb hby d18_0) rfl k) ?_
  show own_Go _ _ _ _ T0 (mkF m 1 #[.val (.int p1)] [(.int p1)])
  refine own_step (fun _ k => XS.ifYes X0.here hx rfl (pc0 := 1) (pc' := 12) rfl (hb hby d18_1) rfl ((if0 _ _).trans (flt h1).2.1) (by decide) (by decide) k) ?_
  show own_Go _ _ _ _ T0 (mkF m 12 #[.val (.int p1)] [])
  refine own_step (fun _ k => XS.iloadN X0.here hx rfl (hb hby d18_12) rfl k) ?_
  show own_Go _ _ _ _ T0 (mkF m 13 #[.val (.int p1)] [(.int p1)])
  refine own_step (X0.ldcInt hx hown (mvT hZ (hw _ (List.mem_of_getElem? (i := 90) rfl))) (g := (mkF m 13 #[.val (.int p1)] [(.int p1)])) rfl (hb hby d18_13)) ?_
  show own_Go _ _ _ _ T0 (mkF m 15 #[.val (.int p1)] [(.int (1073741823 : Int32)), (.int p1)])
  refine own_step (fun _ k => XS.icmpYes X0.here hx rfl (pc0 := 15) (pc' := 55) rfl (hb hby d18_15) rfl (tlt h2).1 (by decide) (by decide) k) ?_
  show own_Go _ _ _ _ T0 (mkF m 55 #[.val (.int p1)] [])
  refine own_step (fun _ k => XS.iloadN X0.here hx rfl (hb hby d18_55) rfl k) ?_
  show own_Go _ _ _ _ T0 (mkF m 56 #[.val (.int p1)] [(.int p1)])
  refine own_step (fun _ k => XS.iconst X0.here hx rfl (hb hby d18_56) k) ?_
  show own_Go _ _ _ _ T0 (mkF m 57 #[.val (.int p1)] [(.int (1 : Int32)), (.int p1)])
  refine own_step (fun _ k => XS.ishl X0.here hx rfl (hb hby d18_57) rfl k) ?_
  show own_Go _ _ _ _ T0 (mkF m 58 #[.val (.int p1)] [(.int (p1 <<< ((1 : Int32) &&& 31)))])
  exact own_retI X0 hx hret hlk (hb hby d18_58) (own_N ⟨rfl, N0, e0⟩ (by decide) (by decide)) 
theorem d17_0 : decode jdk_52_method_2_code 0 = .ok (.iload_n 0, 1) := by decide +kernel
theorem d17_1 : decode jdk_52_method_2_code 1 = .ok (.invokestatic 11, 3) := by decide +kernel
theorem d17_4 : decode jdk_52_method_2_code 4 = .ok (.newarray .byte, 2) := by decide +kernel
theorem d17_6 : decode jdk_52_method_2_code 6 = .ok (.areturn, 1) := by decide +kernel
theorem ef_17 (p1 : Int32) (m : MethodId) : entryFrame m #[(.int p1)] 1 = mkF m 0 #[.val (.int p1)] [] := by first | (simp [entryFrame, mkF, argsToLocals, Value.category]; done) | rfl
theorem pd_8 : parseMethodDescriptor "(I)I" = some ⟨[.int], some .int⟩ := by decide +kernel
set_option maxRecDepth 65536 in
set_option maxHeartbeats 40000000 in
theorem rm17 (l : Launch) (Z : State) (a0 : Array Value) (hw : ∀ d ∈ tables_1, d.before a0 Z = true) (ws : List Jvm.Cond) (p1 : Int32) (m_ : Nat) (h0 : Heap) (n0 : Nat) (Z0 : n0 ≤ h0.size) (hm : p1.toInt = (m_ : Nat)) (hm3 : m_ ≤ 3) :
    own_Met l (⟨"java/lang/StringUTF16", "newBytesFor", "(I)[B"⟩ : MethodName) jdk_52_method_2_code 1 (some (.array .byte)) ws ({ frames := 1, cells := 1, slots := 6, locals := 12 } : Room) #[(.int p1)] Z h0 (fun v h L => ∃ b k, v = some (.ref b) ∧ Fr n0 L ∧ Keep h0 h [] ∧ n0 ≤ b ∧ h0.size ≤ b ∧ Arv Z h b k .byte (p1 <<< ((1 : Int32) &&& 31)) ((List.replicate (2 * m_) (0 : Int32)).map Value.int) (.int (0 : Int32))) := by
  refine own_body (plainFor_of_name pn_3) (ef_17 p1) ?_
  intro p e s m below meth c T0 X0 hx hby hml0 hret hlk hnm hown hZ e0
  have hml : c.maxLocals = 1 := hml0
  have N0 := Fr.nil n0
  have hz2 := own_shl1 hm (by omega)
  have hzc := own_clamp hz2
  refine own_step (fun _ k => XS.iloadN X0.here hx rfl (hb hby d17_0) rfl k) ?_
  show own_Go _ _ _ _ T0 (mkF m 1 #[.val (.int p1)] [(.int p1)])
  refine own_callS X0 hx hZ (y := (⟨"java/lang/StringUTF16", "newBytesLength", "(I)I"⟩ : MethodName)) hown (hw _ (List.mem_of_getElem? (i := 87) rfl)) (hw _ (List.mem_of_getElem? (i := 88) rfl)) (hw _ (List.mem_of_getElem? (i := 44) rfl)) (hw _ (List.mem_of_getElem? (i := 89) rfl)) (by decide) (rm18 l Z a0 hw [] p1  h0 n0 Z0 (own_nn hm) ((own_lt hm (k := 1073741823) (by decide)).mpr (by omega))) e0 0 (by decide) (by decide) (by decide) (by decide) (g := (mkF m 1 #[.val (.int p1)] [(.int p1)])) rfl (by rw [hml]; rfl) [(.int p1)] [] pd_8 rfl rfl rfl (by show 2 * 0 + _ ≤ _; exact Nat.le_of_eq rfl) (hb hby d17_1) ?_
  rintro v1 T1 L1 X1 ⟨rfl, Nq1, e1⟩
  have N1 := Fr.app N0 Nq1
  show own_Go _ _ _ _ T1 (mkF m 4 #[.val (.int p1)] [(.int (p1 <<< ((1 : Int32) &&& 31)))])
  obtain ⟨T2, h2, k2, b, g2, X2, e2, E2, V2, st2⟩ := own_newA X1 hx hZ (hw _ (List.mem_of_getElem? (i := 16) rfl)) e1 (g := (mkF m 4 #[.val (.int p1)] [(.int (p1 <<< ((1 : Int32) &&& 31)))])) rfl (hb hby d17_4) rfl (own_nn hz2) (cap := 6) (by rw [hzc]; omega) (by decide) (by decide) (by decide)
  have g_b : n0 ≤ b := Nat.le_trans Z0 (Nat.le_of_eq g2.symm)
  have sz_b : h0.size ≤ b := Nat.le_trans (Keep.refl h0 []).1 (Nat.le_of_eq g2.symm)
  refine own_step st2 ?_
  have Z2 := Nat.le_trans Z0 E2.1
  have KK2 := (Keep.refl h0 []).ext E2
  have VB : Arv Z h2 b k2 .byte (p1 <<< ((1 : Int32) &&& 31)) ((List.replicate (2 * m_) (0 : Int32)).map Value.int) (.int (0 : Int32)) := by
    refine Arv.pad V2 (fun i => ?_)
    rw [List.map_replicate]; show _ = (List.replicate 6 (Value.int 0)).getD i (.int 0)
    simp only [List.getD_eq_getElem?_getD, List.getElem?_replicate]; split <;> split <;> rfl
  show own_Go _ _ _ _ T2 (mkF m 6 #[.val (.int p1)] [(.ref b)])
  exact own_retA X2 hx hret rfl hlk rfl rfl (hb hby d17_6) (own_N (by rw [e2]; exact ⟨b, _, rfl, N1, KK2, g_b, sz_b, VB⟩) (by decide) (by decide)) 
theorem d16_0 : decode jdk_52_method_14_code 0 = .ok (.iload_n 2, 1) := by decide +kernel
theorem d16_1 : decode jdk_52_method_14_code 1 = .ok (.invokestatic 107, 3) := by decide +kernel
theorem d16_4 : decode jdk_52_method_14_code 4 = .ok (.astore_n 3, 1) := by decide +kernel
theorem d16_5 : decode jdk_52_method_14_code 5 = .ok (.iconst 0, 1) := by decide +kernel
theorem d16_6 : decode jdk_52_method_14_code 6 = .ok (.istore 4, 2) := by decide +kernel
theorem d16_8 : decode jdk_52_method_14_code 8 = .ok (.iload 4, 2) := by decide +kernel
theorem d16_10 : decode jdk_52_method_14_code 10 = .ok (.iload_n 2, 1) := by decide +kernel
theorem d16_11 : decode jdk_52_method_14_code 11 = .ok (.if_icmp .ge 21, 3) := by decide +kernel
theorem d16_14 : decode jdk_52_method_14_code 14 = .ok (.aload_n 3, 1) := by decide +kernel
theorem d16_15 : decode jdk_52_method_14_code 15 = .ok (.iload 4, 2) := by decide +kernel
theorem d16_17 : decode jdk_52_method_14_code 17 = .ok (.aload_n 0, 1) := by decide +kernel
theorem d16_18 : decode jdk_52_method_14_code 18 = .ok (.iload_n 1, 1) := by decide +kernel
theorem d16_19 : decode jdk_52_method_14_code 19 = .ok (.caload, 1) := by decide +kernel
theorem d16_20 : decode jdk_52_method_14_code 20 = .ok (.invokestatic 111, 3) := by decide +kernel
theorem d16_23 : decode jdk_52_method_14_code 23 = .ok (.iinc 1 1, 3) := by decide +kernel
theorem d16_26 : decode jdk_52_method_14_code 26 = .ok (.iinc 4 1, 3) := by decide +kernel
theorem d16_29 : decode jdk_52_method_14_code 29 = .ok (.goto (-21), 3) := by decide +kernel
theorem d16_32 : decode jdk_52_method_14_code 32 = .ok (.aload_n 3, 1) := by decide +kernel
theorem d16_33 : decode jdk_52_method_14_code 33 = .ok (.areturn, 1) := by decide +kernel
theorem ef_16 (a1 : Addr) (p2 : Int32) (z : Int32) (m : MethodId) : entryFrame m #[(.ref a1), (.int p2), (.int z)] 5 = mkF m 0 #[.val (.ref a1), .val (.int p2), .val (.int z), .unset, .unset] [] := by first | (simp [entryFrame, mkF, argsToLocals, Value.category]; done) | rfl
theorem pd_9 : parseMethodDescriptor "(I)[B" = some ⟨[.int], some (.array .byte)⟩ := by decide +kernel
theorem pd_10 : parseMethodDescriptor "([BII)V" = some ⟨[(.array .byte), .int, .int], none⟩ := by decide +kernel
set_option maxRecDepth 65536 in
set_option maxHeartbeats 40000000 in
theorem rm16 (l : Launch) (Z : State) (a0 : Array Value) (hw : ∀ d ∈ tables_1, d.before a0 Z = true) (ws : List Jvm.Cond) (a1 : Addr) (p2 : Int32) (z : Int32) (kc : ClassId) (cs : List Int32) (h0 : Heap) (n0 : Nat) (Z0 : n0 ≤ h0.size) (O0 : Old Z n0 h0) (SA : Sta Z Z.heap "java/lang/StringUTF16" "$assertionsDisabled" "Z" (.int (1 : Int32))) (SH : Sta Z Z.heap "java/lang/StringUTF16" "HI_BYTE_SHIFT" "I" (.int (0 : Int32))) (SL : Sta Z Z.heap "java/lang/StringUTF16" "LO_BYTE_SHIFT" "I" (.int (8 : Int32))) (VA : Arv Z h0 a1 kc .char z (cs.map Value.int) (.int (0 : Int32))) (hl : z.toInt = (cs.length : Nat)) (hcap : cs.length ≤ 3) (hch : (∀ t, 0 ≤ (cs.getD t (0 : Int32)).toInt ∧ (cs.getD t (0 : Int32)).toInt ≤ 65535)) (hp2 : p2.toInt = (0 : Nat)) :
    own_Met l (⟨"java/lang/StringUTF16", "toBytes", "([CII)[B"⟩ : MethodName) jdk_52_method_14_code 5 (some (.array .byte)) ws ({ frames := 2, cells := 1, slots := 6, locals := 24 } : Room) #[(.ref a1), (.int p2), (.int z)] Z h0 (fun v h L => ∃ b k, v = some (.ref b) ∧ Fr n0 L ∧ Keep h0 h [] ∧ n0 ≤ b ∧ h0.size ≤ b ∧ Arv Z h b k .byte (z <<< ((1 : Int32) &&& 31)) ((own_u16 cs).map Value.int) (.int (0 : Int32))) := by
  refine own_body (plainFor_of_name pn_3) (ef_16 a1 p2 z) ?_
  intro p e s m below meth c T0 X0 hx hby hml0 hret hlk hnm hown hZ e0
  have hml : c.maxLocals = 5 := hml0
  have N0 := Fr.nil n0
  have e_1 : (1 : Int32).toInt = (1 : Nat) := by decide
  have hz2 := own_shl1 hl (by omega)
  refine own_step (fun _ k => XS.iloadN X0.here hx rfl (hb hby d16_0) rfl k) ?_
  show own_Go _ _ _ _ T0 (mkF m 1 #[.val (.ref a1), .val (.int p2), .val (.int z), .unset, .unset] [(.int z)])
  refine own_callS X0 hx hZ (y := (⟨"java/lang/StringUTF16", "newBytesFor", "(I)[B"⟩ : MethodName)) hown (hw _ (List.mem_of_getElem? (i := 84) rfl)) (hw _ (List.mem_of_getElem? (i := 85) rfl)) (hw _ (List.mem_of_getElem? (i := 44) rfl)) (hw _ (List.mem_of_getElem? (i := 86) rfl)) (by decide) (rm17 l Z a0 hw [] z cs.length h0 n0 Z0 hl hcap) e0 0 (by decide) (by decide) (by decide) (by decide) (g := (mkF m 1 #[.val (.ref a1), .val (.int p2), .val (.int z), .unset, .unset] [(.int z)])) rfl (by rw [hml]; rfl) [(.int z)] [] pd_9 rfl rfl rfl (by show 2 * 0 + _ ≤ _; exact Nat.le_of_eq rfl) (hb hby d16_1) ?_
  rintro v1 T1 L1 X1 ⟨b, kb, rfl, Nq1, K1, g_b, sb1, V1⟩
  have N1 := Fr.app N0 Nq1
  show own_Go _ _ _ _ T1 (mkF m 4 #[.val (.ref a1), .val (.int p2), .val (.int z), .unset, .unset] [(.ref b)])
  have ne_a1_b : a1 ≠ b := Nat.ne_of_lt (Nat.lt_of_lt_of_le VA.lt sb1)
  have sz_b := sb1
  have Z1 := Nat.le_trans Z0 K1.1
  have KK1 := (Keep.refl h0 []).trans K1 all0
  refine own_step (fun _ k => XS.astoreN X1.here hx rfl (hb hby d16_4) rfl rfl (l' := #[.val (.ref a1), .val (.int p2), .val (.int z), .val (.ref b), .unset]) rfl k) ?_
  show own_Go _ _ _ _ T1 (mkF m 5 #[.val (.ref a1), .val (.int p2), .val (.int z), .val (.ref b), .unset] [])
  refine own_step (fun _ k => XS.iconst X1.here hx rfl (hb hby d16_5) k) ?_
  show own_Go _ _ _ _ T1 (mkF m 6 #[.val (.ref a1), .val (.int p2), .val (.int z), .val (.ref b), .unset] [(.int (0 : Int32))])
  refine own_step (fun _ k => XS.istore X1.here hx rfl (hb hby d16_6) rfl (l' := #[.val (.ref a1), .val (.int p2), .val (.int z), .val (.ref b), .val (.int (0 : Int32))]) rfl k) ?_
  show own_Go _ _ _ _ T1 (mkF m 8 #[.val (.ref a1), .val (.int p2), .val (.int z), .val (.ref b), .val (.int (0 : Int32))] [])
  have loop : ∀ (k j : Nat) (i1 i4 : Int32) (T : State) (hp : Heap) (locs : List Loc), Stand p l e ({ frames := 2, cells := 1, slots := 6, locals := 24 } : Room) s m #[(.ref a1), (.int p2), (.int z)] below meth c T locs (0 + 1) (0 + 6) → T.heap = hp → Fr n0 locs → Keep h0 hp [] → Arv Z hp a1 kc .char z (cs.map Value.int) (.int (0 : Int32)) → Arv Z hp b kb .byte (z <<< ((1 : Int32) &&& 31)) ((own_up cs j).map Value.int) (.int (0 : Int32)) → Old Z n0 hp → j + k = cs.length → i1.toInt = (j : Nat) → i4.toInt = (j : Nat) → own_Go p e below (own_EndN below s (fun v h L => ∃ b k, v = some (.ref b) ∧ Fr n0 L ∧ Keep h0 h [] ∧ n0 ≤ b ∧ h0.size ≤ b ∧ Arv Z h b k .byte (z <<< ((1 : Int32) &&& 31)) ((own_u16 cs).map Value.int) (.int (0 : Int32))) ({ frames := 2, cells := 1, slots := 6, locals := 24 } : Room).cells ({ frames := 2, cells := 1, slots := 6, locals := 24 } : Room).slots) T (mkF m 8 #[.val (.ref a1), .val (.int i1), .val (.int z), .val (.ref b), .val (.int i4)] []) := by
    intro k
    induction k with
    | zero =>
      intro j i1 i4 T hp locs X e' N' K' VA' V' O' hj h1 h4
      have hc : ¬ i4 < z := fun q => by have := (own_lt h4 hl).mp q; omega
      obtain rfl : j = cs.length := by omega
      have Zp := Nat.le_trans Z0 K'.1
      refine own_step (fun _ k => XS.iload X.here hx rfl (hb hby d16_8) rfl k) ?_
      show own_Go _ _ _ _ T (mkF m 10 #[.val (.ref a1), .val (.int i1), .val (.int z), .val (.ref b), .val (.int i4)] [(.int i4)])
      refine own_step (fun _ k => XS.iloadN X.here hx rfl (hb hby d16_10) rfl k) ?_
      show own_Go _ _ _ _ T (mkF m 11 #[.val (.ref a1), .val (.int i1), .val (.int z), .val (.ref b), .val (.int i4)] [(.int z), (.int i4)])
      refine own_step (fun _ k => XS.icmpYes X.here hx rfl (pc0 := 11) (pc' := 32) rfl (hb hby d16_11) rfl (flt hc).2.1 (by decide) (by decide) k) ?_
      show own_Go _ _ _ _ T (mkF m 32 #[.val (.ref a1), .val (.int i1), .val (.int z), .val (.ref b), .val (.int i4)] [])
      refine own_step (fun _ k => XS.aloadN X.here hx rfl (hb hby d16_32) rfl rfl k) ?_
      show own_Go _ _ _ _ T (mkF m 33 #[.val (.ref a1), .val (.int i1), .val (.int z), .val (.ref b), .val (.int i4)] [(.ref b)])
      exact own_retA X hx hret rfl hlk rfl rfl (hb hby d16_33) (own_N (by rw [e']; exact ⟨b, kb, rfl, N', K', g_b, sz_b, by rw [← own_upN]; exact V'⟩) (by decide) (by decide)) 
    | succ k ih =>
      intro j i1 i4 T hp locs X e' N' K' VA' V' O' hj h1 h4
      have hc : i4 < z := (own_lt h4 hl).mpr (by omega)
      have Zp := Nat.le_trans Z0 K'.1
      refine own_step (fun _ k => XS.iload X.here hx rfl (hb hby d16_8) rfl k) ?_
      show own_Go _ _ _ _ T (mkF m 10 #[.val (.ref a1), .val (.int i1), .val (.int z), .val (.ref b), .val (.int i4)] [(.int i4)])
      refine own_step (fun _ k => XS.iloadN X.here hx rfl (hb hby d16_10) rfl k) ?_
      show own_Go _ _ _ _ T (mkF m 11 #[.val (.ref a1), .val (.int i1), .val (.int z), .val (.ref b), .val (.int i4)] [(.int z), (.int i4)])
      refine own_step (fun _ k => XS.icmpNo X.here hx rfl (hb hby d16_11) rfl (tlt hc).2.1 k) ?_
      show own_Go _ _ _ _ T (mkF m 14 #[.val (.ref a1), .val (.int i1), .val (.int z), .val (.ref b), .val (.int i4)] [])
      refine own_step (fun _ k => XS.aloadN X.here hx rfl (hb hby d16_14) rfl rfl k) ?_
      show own_Go _ _ _ _ T (mkF m 15 #[.val (.ref a1), .val (.int i1), .val (.int z), .val (.ref b), .val (.int i4)] [(.ref b)])
      refine own_step (fun _ k => XS.iload X.here hx rfl (hb hby d16_15) rfl k) ?_
      show own_Go _ _ _ _ T (mkF m 17 #[.val (.ref a1), .val (.int i1), .val (.int z), .val (.ref b), .val (.int i4)] [(.int i4), (.ref b)])
      refine own_step (fun _ k => XS.aloadN X.here hx rfl (hb hby d16_17) rfl rfl k) ?_
      show own_Go _ _ _ _ T (mkF m 18 #[.val (.ref a1), .val (.int i1), .val (.int z), .val (.ref b), .val (.int i4)] [(.ref a1), (.int i4), (.ref b)])
      refine own_step (fun _ k => XS.iloadN X.here hx rfl (hb hby d16_18) rfl k) ?_
      show own_Go _ _ _ _ T (mkF m 19 #[.val (.ref a1), .val (.int i1), .val (.int z), .val (.ref b), .val (.int i4)] [(.int i1), (.ref a1), (.int i4), (.ref b)])
      refine own_step (own_ldC X hx hZ e' VA' (j := i1) (v := (.int (cs.getD j (0 : Int32)))) ⟨own_nn h1, (own_lt h1 hl).mpr (by omega)⟩ (by rw [own_clamp h1]; exact own_getI cs _ j) (g := (mkF m 19 #[.val (.ref a1), .val (.int i1), .val (.int z), .val (.ref b), .val (.int i4)] [(.int i1), (.ref a1), (.int i4), (.ref b)])) rfl rfl (hb hby d16_19)) ?_
      show own_Go _ _ _ _ T (mkF m 20 #[.val (.ref a1), .val (.int i1), .val (.int z), .val (.ref b), .val (.int i4)] [(.int (cs.getD j (0 : Int32))), (.int i4), (.ref b)])
      refine own_callS X hx hZ (y := (⟨"java/lang/StringUTF16", "putChar", "([BII)V"⟩ : MethodName)) hown (hw _ (List.mem_of_getElem? (i := 91) rfl)) (hw _ (List.mem_of_getElem? (i := 92) rfl)) (hw _ (List.mem_of_getElem? (i := 44) rfl)) (hw _ (List.mem_of_getElem? (i := 93) rfl)) (by decide) (rm19 l Z a0 hw [] b i4 (cs.getD j (0 : Int32)) kb (z <<< ((1 : Int32) &&& 31)) (own_up cs j) j hp n0 Zp O' SA SH SL V' h4 (by omega) (by rw [own_upl]; exact hz2) (by rw [own_upl]; omega) g_b) e' 0 (by decide) (by decide) (by decide) (by decide) (g := (mkF m 20 #[.val (.ref a1), .val (.int i1), .val (.int z), .val (.ref b), .val (.int i4)] [(.int (cs.getD j (0 : Int32))), (.int i4), (.ref b)])) rfl (by rw [hml]; rfl) [(.ref b), (.int i4), (.int (cs.getD j (0 : Int32)))] [] pd_10 rfl rfl rfl (by show 2 * 0 + _ ≤ _; exact Nat.le_of_eq rfl) (hb hby d16_20) ?_
      rintro v2 T2 L2 X2 ⟨rfl, Nq2, K2, V2⟩
      have N2 := Fr.app N' Nq2
      show own_Go _ _ _ _ T2 (mkF m 23 #[.val (.ref a1), .val (.int i1), .val (.int z), .val (.ref b), .val (.int i4)] [])
      have Z2 := Nat.le_trans Zp K2.1
      have KK2 := K'.trans K2 (allS (P := fun x => x ∈ [] ∨ h0.size ≤ x) (Or.inr sz_b) all0)
      rw [own_upS cs j (by omega)] at V2
      refine own_step (fun _ k => XS.iinc X2.here hx rfl (hb hby d16_23) rfl (l' := #[.val (.ref a1), .val (.int (i1 + (1 : Int32))), .val (.int z), .val (.ref b), .val (.int i4)]) rfl k) ?_
      show own_Go _ _ _ _ T2 (mkF m 26 #[.val (.ref a1), .val (.int (i1 + (1 : Int32))), .val (.int z), .val (.ref b), .val (.int i4)] [])
      refine own_step (fun _ k => XS.iinc X2.here hx rfl (hb hby d16_26) rfl (l' := #[.val (.ref a1), .val (.int (i1 + (1 : Int32))), .val (.int z), .val (.ref b), .val (.int (i4 + (1 : Int32)))]) rfl k) ?_
      show own_Go _ _ _ _ T2 (mkF m 29 #[.val (.ref a1), .val (.int (i1 + (1 : Int32))), .val (.int z), .val (.ref b), .val (.int (i4 + (1 : Int32)))] [])
      refine own_step (fun _ k => XS.goto X2.here hx rfl (pc0 := 29) (pc' := 8) rfl (hb hby d16_29) (by decide) (by decide) k) ?_
      show own_Go _ _ _ _ T2 (mkF m 8 #[.val (.ref a1), .val (.int (i1 + (1 : Int32))), .val (.int z), .val (.ref b), .val (.int (i4 + (1 : Int32)))] [])
      have Q3 := (VA'.keep K2 (ninS ne_a1_b nin0))
      have Q4 := (O'.keep K2 (allS g_b all0))
      exact ih (j + 1) _ _ T2 _ _ X2 rfl N2 KK2 Q3 V2 Q4 (by omega) (own_add h1 e_1 (by omega)) (own_add h4 e_1 (by omega))
  have Q5 := (VA.keep K1 nin0)
  have Q6 := (O0.keep K1 all0)
  exact loop cs.length 0 p2 (0 : Int32) T1 _ _ X1 rfl N1 KK1 Q5 (by rw [own_up0]; exact V1) Q6 (by omega) hp2 rfl
set_option maxRecDepth 65536 in
set_option maxHeartbeats 40000000 in
theorem rm8_u (l : Launch) (Z : State) (a0 : Array Value) (hw : ∀ d ∈ tables_1, d.before a0 Z = true) (ws : List Jvm.Cond) (a1 : Addr) (p2 : Int32) (a3 : Addr) (p4 : Int32) (p5 : Int32) (kc kb : ClassId) (z : Int32) (cs : List Int32) (t : Nat) (h0 : Heap) (n0 : Nat) (Z0 : n0 ≤ h0.size) (VA : Arv Z h0 a1 kc .char z (cs.map Value.int) (.int (0 : Int32))) (VB : Arv Z h0 a3 kb .byte z ((List.replicate cs.length (0 : Int32)).map Value.int) (.int (0 : Int32))) (hcs : z.toInt = (cs.length : Nat)) (hcap : cs.length ≤ 3) (htl : t < cs.length) (hle : ∀ i, i < t → ¬ (255 : Int32) < cs.getD i (0 : Int32)) (hgt : (255 : Int32) < cs.getD t (0 : Int32)) (hne : a1 ≠ a3) (hp5 : p5.toInt = (cs.length : Nat)) (hp2 : p2.toInt = (0 : Nat)) (hp4 : p4.toInt = (0 : Nat)) (g_a3 : n0 ≤ a3) :
    own_Met l (⟨"java/lang/StringUTF16", "compress", "([CI[BII)I"⟩ : MethodName) jdk_52_method_21_code 7 (some .int) ws ({ frames := 0, cells := 0, slots := 0, locals := 0 } : Room) #[(.ref a1), (.int p2), (.ref a3), (.int p4), (.int p5)] Z h0 (fun v h L => v = some (.int (Int32.ofInt (t : Int))) ∧ Fr n0 L ∧ Keep h0 h [a3]) := by
  refine own_body (plainFor_of_name pn_3) (ef_8 a1 p2 a3 p4 p5) ?_
  intro p e s m below meth c T0 X0 hx hby hml0 hret hlk hnm hown hZ e0
  have hml : c.maxLocals = 7 := hml0
  have N0 := Fr.nil n0
  have e_1 : (1 : Int32).toInt = (1 : Nat) := by decide
  refine own_step (fun _ k => XS.iconst X0.here hx rfl (hb hby d8_0) k) ?_
  show own_Go _ _ _ _ T0 (mkF m 1 #[.val (.ref a1), .val (.int p2), .val (.ref a3), .val (.int p4), .val (.int p5), .unset, .unset] [(.int (0 : Int32))])
  refine own_step (fun _ k => XS.istore X0.here hx rfl (hb hby d8_1) rfl (l' := #[.val (.ref a1), .val (.int p2), .val (.ref a3), .val (.int p4), .val (.int p5), .val (.int (0 : Int32)), .unset]) rfl k) ?_
  show own_Go _ _ _ _ T0 (mkF m 3 #[.val (.ref a1), .val (.int p2), .val (.ref a3), .val (.int p4), .val (.int p5), .val (.int (0 : Int32)), .unset] [])
  have loop : ∀ (k j : Nat) (i1 i3 i5 : Int32) (s6 : Slot) (T : State) (hp : Heap) (locs : List Loc) (us : List Value), Stand p l e ({ frames := 0, cells := 0, slots := 0, locals := 0 } : Room) s m #[(.ref a1), (.int p2), (.ref a3), (.int p4), (.int p5)] below meth c T locs 0 0 → T.heap = hp → Fr n0 locs → Keep h0 hp [a3] → Arv Z hp a3 kb .byte z us (.int (0 : Int32)) → us.length = cs.length → j + k = t → i1.toInt = (j : Nat) → i3.toInt = (j : Nat) → i5.toInt = (j : Nat) → (s6 = .unset ∨ ∃ w, s6 = .val w ∧ w.category = 1) → own_Go p e below (own_EndN below s (fun v h L => v = some (.int (Int32.ofInt (t : Int))) ∧ Fr n0 L ∧ Keep h0 h [a3]) ({ frames := 0, cells := 0, slots := 0, locals := 0 } : Room).cells ({ frames := 0, cells := 0, slots := 0, locals := 0 } : Room).slots) T (mkF m 3 #[.val (.ref a1), .val (.int i1), .val (.ref a3), .val (.int i3), .val (.int p5), .val (.int i5), s6] []) := by
    intro k
    induction k with
    | zero =>
      intro j i1 i3 i5 s6 T hp locs us X e' N' K' V' hul hj hi1 hi3 hi5 h6
      have hc : i5 < p5 := (own_lt hi5 hp5).mpr (by omega)
      obtain rfl : j = t := by omega
      have Zp := Nat.le_trans Z0 K'.1
      refine own_step (fun _ k => XS.iload X.here hx rfl (hb hby d8_3) rfl k) ?_
      show own_Go _ _ _ _ T (mkF m 5 #[.val (.ref a1), .val (.int i1), .val (.ref a3), .val (.int i3), .val (.int p5), .val (.int i5), s6] [(.int i5)])
      refine own_step (fun _ k => XS.iload X.here hx rfl (hb hby d8_5) rfl k) ?_
      show own_Go _ _ _ _ T (mkF m 7 #[.val (.ref a1), .val (.int i1), .val (.ref a3), .val (.int i3), .val (.int p5), .val (.int i5), s6] [(.int p5), (.int i5)])
      refine own_step (fun _ k => XS.icmpNo X.here hx rfl (hb hby d8_7) rfl (tlt hc).2.1 k) ?_
      show own_Go _ _ _ _ T (mkF m 10 #[.val (.ref a1), .val (.int i1), .val (.ref a3), .val (.int i3), .val (.int p5), .val (.int i5), s6] [])
      refine own_step (fun _ k => XS.aloadN X.here hx rfl (hb hby d8_10) rfl rfl k) ?_
      show own_Go _ _ _ _ T (mkF m 11 #[.val (.ref a1), .val (.int i1), .val (.ref a3), .val (.int i3), .val (.int p5), .val (.int i5), s6] [(.ref a1)])
      refine own_step (fun _ k => XS.iloadN X.here hx rfl (hb hby d8_11) rfl k) ?_
      show own_Go _ _ _ _ T (mkF m 12 #[.val (.ref a1), .val (.int i1), .val (.ref a3), .val (.int i3), .val (.int p5), .val (.int i5), s6] [(.int i1), (.ref a1)])
      have Q1 := (VA.keep K' (ninS hne nin0))
      refine own_step (own_ldC X hx hZ e' Q1 (j := i1) (v := (.int (cs.getD j (0 : Int32)))) ⟨own_nn hi1, (own_lt hi1 hcs).mpr (by omega)⟩ (by rw [own_clamp hi1]; exact own_getI cs _ j) (g := (mkF m 12 #[.val (.ref a1), .val (.int i1), .val (.ref a3), .val (.int i3), .val (.int p5), .val (.int i5), s6] [(.int i1), (.ref a1)])) rfl rfl (hb hby d8_12)) ?_
      show own_Go _ _ _ _ T (mkF m 13 #[.val (.ref a1), .val (.int i1), .val (.ref a3), .val (.int i3), .val (.int p5), .val (.int i5), s6] [(.int (cs.getD j (0 : Int32)))])
      -- general slot
      refine own_step (fun _ k => XS.istore X.here hx rfl (hb hby d8_13) rfl (l' := #[.val (.ref a1), .val (.int i1), .val (.ref a3), .val (.int i3), .val (.int p5), .val (.int i5), .val (.int (cs.getD j (0 : Int32)))]) (XS.store1 (o := s6) rfl h6 rfl) k) ?_
      show own_Go _ _ _ _ T (mkF m 15 #[.val (.ref a1), .val (.int i1), .val (.ref a3), .val (.int i3), .val (.int p5), .val (.int i5), .val (.int (cs.getD j (0 : Int32)))] [])
      refine own_step (fun _ k => XS.iload X.here hx rfl (hb hby d8_15) rfl k) ?_
      show own_Go _ _ _ _ T (mkF m 17 #[.val (.ref a1), .val (.int i1), .val (.ref a3), .val (.int i3), .val (.int p5), .val (.int i5), .val (.int (cs.getD j (0 : Int32)))] [(.int (cs.getD j (0 : Int32)))])
      refine own_step (fun _ k => XS.sipush X.here hx rfl (hb hby d8_17) k) ?_
      show own_Go _ _ _ _ T (mkF m 20 #[.val (.ref a1), .val (.int i1), .val (.ref a3), .val (.int i3), .val (.int p5), .val (.int i5), .val (.int (cs.getD j (0 : Int32)))] [(.int (255 : Int32)), (.int (cs.getD j (0 : Int32)))])
      refine own_step (fun _ k => XS.icmpNo X.here hx rfl (hb hby d8_20) rfl (tlt hgt).2.2.2 k) ?_
      show own_Go _ _ _ _ T (mkF m 23 #[.val (.ref a1), .val (.int i1), .val (.ref a3), .val (.int i3), .val (.int p5), .val (.int i5), .val (.int (cs.getD j (0 : Int32)))] [])
      refine own_step (fun _ k => XS.iload X.here hx rfl (hb hby d8_23) rfl k) ?_
      show own_Go _ _ _ _ T (mkF m 25 #[.val (.ref a1), .val (.int i1), .val (.ref a3), .val (.int i3), .val (.int p5), .val (.int i5), .val (.int (cs.getD j (0 : Int32)))] [(.int i5)])
      exact own_retI X hx hret hlk (hb hby d8_25) (own_N (by rw [e']; exact ⟨own_leafI (own_lit32 hi5).symm, N', K'⟩) (by decide) (by decide)) 
    | succ k ih =>
      intro j i1 i3 i5 s6 T hp locs us X e' N' K' V' hul hj hi1 hi3 hi5 h6
      have hc : i5 < p5 := (own_lt hi5 hp5).mpr (by omega)
      have Zp := Nat.le_trans Z0 K'.1
      refine own_step (fun _ k => XS.iload X.here hx rfl (hb hby d8_3) rfl k) ?_
      show own_Go _ _ _ _ T (mkF m 5 #[.val (.ref a1), .val (.int i1), .val (.ref a3), .val (.int i3), .val (.int p5), .val (.int i5), s6] [(.int i5)])
      refine own_step (fun _ k => XS.iload X.here hx rfl (hb hby d8_5) rfl k) ?_
      show own_Go _ _ _ _ T (mkF m 7 #[.val (.ref a1), .val (.int i1), .val (.ref a3), .val (.int i3), .val (.int p5), .val (.int i5), s6] [(.int p5), (.int i5)])
      refine own_step (fun _ k => XS.icmpNo X.here hx rfl (hb hby d8_7) rfl (tlt hc).2.1 k) ?_
      show own_Go _ _ _ _ T (mkF m 10 #[.val (.ref a1), .val (.int i1), .val (.ref a3), .val (.int i3), .val (.int p5), .val (.int i5), s6] [])
      refine own_step (fun _ k => XS.aloadN X.here hx rfl (hb hby d8_10) rfl rfl k) ?_
      show own_Go _ _ _ _ T (mkF m 11 #[.val (.ref a1), .val (.int i1), .val (.ref a3), .val (.int i3), .val (.int p5), .val (.int i5), s6] [(.ref a1)])
      refine own_step (fun _ k => XS.iloadN X.here hx rfl (hb hby d8_11) rfl k) ?_
      show own_Go _ _ _ _ T (mkF m 12 #[.val (.ref a1), .val (.int i1), .val (.ref a3), .val (.int i3), .val (.int p5), .val (.int i5), s6] [(.int i1), (.ref a1)])
      have Q2 := (VA.keep K' (ninS hne nin0))
      refine own_step (own_ldC X hx hZ e' Q2 (j := i1) (v := (.int (cs.getD j (0 : Int32)))) ⟨own_nn hi1, (own_lt hi1 hcs).mpr (by omega)⟩ (by rw [own_clamp hi1]; exact own_getI cs _ j) (g := (mkF m 12 #[.val (.ref a1), .val (.int i1), .val (.ref a3), .val (.int i3), .val (.int p5), .val (.int i5), s6] [(.int i1), (.ref a1)])) rfl rfl (hb hby d8_12)) ?_
      show own_Go _ _ _ _ T (mkF m 13 #[.val (.ref a1), .val (.int i1), .val (.ref a3), .val (.int i3), .val (.int p5), .val (.int i5), s6] [(.int (cs.getD j (0 : Int32)))])
      -- general slot
      refine own_step (fun _ k => XS.istore X.here hx rfl (hb hby d8_13) rfl (l' := #[.val (.ref a1), .val (.int i1), .val (.ref a3), .val (.int i3), .val (.int p5), .val (.int i5), .val (.int (cs.getD j (0 : Int32)))]) (XS.store1 (o := s6) rfl h6 rfl) k) ?_
      show own_Go _ _ _ _ T (mkF m 15 #[.val (.ref a1), .val (.int i1), .val (.ref a3), .val (.int i3), .val (.int p5), .val (.int i5), .val (.int (cs.getD j (0 : Int32)))] [])
      refine own_step (fun _ k => XS.iload X.here hx rfl (hb hby d8_15) rfl k) ?_
      show own_Go _ _ _ _ T (mkF m 17 #[.val (.ref a1), .val (.int i1), .val (.ref a3), .val (.int i3), .val (.int p5), .val (.int i5), .val (.int (cs.getD j (0 : Int32)))] [(.int (cs.getD j (0 : Int32)))])
      refine own_step (fun _ k => XS.sipush X.here hx rfl (hb hby d8_17) k) ?_
      show own_Go _ _ _ _ T (mkF m 20 #[.val (.ref a1), .val (.int i1), .val (.ref a3), .val (.int i3), .val (.int p5), .val (.int i5), .val (.int (cs.getD j (0 : Int32)))] [(.int (255 : Int32)), (.int (cs.getD j (0 : Int32)))])
      refine own_step (fun _ k => XS.icmpYes X.here hx rfl (pc0 := 20) (pc' := 26) rfl (hb hby d8_20) rfl (flt (hle j (by omega))).2.2.2 (by decide) (by decide) k) ?_
      show own_Go _ _ _ _ T (mkF m 26 #[.val (.ref a1), .val (.int i1), .val (.ref a3), .val (.int i3), .val (.int p5), .val (.int i5), .val (.int (cs.getD j (0 : Int32)))] [])
      refine own_step (fun _ k => XS.aloadN X.here hx rfl (hb hby d8_26) rfl rfl k) ?_
      show own_Go _ _ _ _ T (mkF m 27 #[.val (.ref a1), .val (.int i1), .val (.ref a3), .val (.int i3), .val (.int p5), .val (.int i5), .val (.int (cs.getD j (0 : Int32)))] [(.ref a3)])
      refine own_step (fun _ k => XS.iloadN X.here hx rfl (hb hby d8_27) rfl k) ?_
      show own_Go _ _ _ _ T (mkF m 28 #[.val (.ref a1), .val (.int i1), .val (.ref a3), .val (.int i3), .val (.int p5), .val (.int i5), .val (.int (cs.getD j (0 : Int32)))] [(.int i3), (.ref a3)])
      refine own_step (fun _ k => XS.iload X.here hx rfl (hb hby d8_28) rfl k) ?_
      show own_Go _ _ _ _ T (mkF m 30 #[.val (.ref a1), .val (.int i1), .val (.ref a3), .val (.int i3), .val (.int p5), .val (.int i5), .val (.int (cs.getD j (0 : Int32)))] [(.int (cs.getD j (0 : Int32))), (.int i3), (.ref a3)])
      refine own_step (fun _ k => XS.i2b X.here hx rfl (hb hby d8_30) rfl k) ?_
      show own_Go _ _ _ _ T (mkF m 31 #[.val (.ref a1), .val (.int i1), .val (.ref a3), .val (.int i3), .val (.int p5), .val (.int i5), .val (.int (cs.getD j (0 : Int32)))] [(.int ((cs.getD j (0 : Int32)).toInt8.toInt32)), (.int i3), (.ref a3)])
      obtain ⟨T3, h3, l3, X3, e3, W3, V3, st3⟩ := own_stB X hx hZ e' V' (j := i3) ⟨own_nn hi3, (own_lt hi3 hcs).mpr (by omega)⟩ j (own_clamp hi3) (by omega) (g := (mkF m 31 #[.val (.ref a1), .val (.int i1), .val (.ref a3), .val (.int i3), .val (.int p5), .val (.int i5), .val (.int (cs.getD j (0 : Int32)))] [(.int ((cs.getD j (0 : Int32)).toInt8.toInt32)), (.int i3), (.ref a3)])) rfl rfl (hb hby d8_31)
      refine own_step st3 ?_
      have N3 := Fr.snoc X3 N' g_a3
      have Z3 := Nat.le_trans Zp (Keep.of_wr W3).1
      have KK3 := K'.wr W3 (Or.inl (List.mem_of_getElem? (i := 0) rfl))
      rw [own_bb] at V3
      have V_a3_3 : Arv Z h3 a3 kb .byte z (us.set j (.int ((cs.getD j (0 : Int32)).toInt8.toInt32))) (.int (0 : Int32)) := V3
      show own_Go _ _ _ _ T3 (mkF m 32 #[.val (.ref a1), .val (.int i1), .val (.ref a3), .val (.int i3), .val (.int p5), .val (.int i5), .val (.int (cs.getD j (0 : Int32)))] [])
      refine own_step (fun _ k => XS.iinc X3.here hx rfl (hb hby d8_32) rfl (l' := #[.val (.ref a1), .val (.int (i1 + (1 : Int32))), .val (.ref a3), .val (.int i3), .val (.int p5), .val (.int i5), .val (.int (cs.getD j (0 : Int32)))]) rfl k) ?_
      show own_Go _ _ _ _ T3 (mkF m 35 #[.val (.ref a1), .val (.int (i1 + (1 : Int32))), .val (.ref a3), .val (.int i3), .val (.int p5), .val (.int i5), .val (.int (cs.getD j (0 : Int32)))] [])
      refine own_step (fun _ k => XS.iinc X3.here hx rfl (hb hby d8_35) rfl (l' := #[.val (.ref a1), .val (.int (i1 + (1 : Int32))), .val (.ref a3), .val (.int (i3 + (1 : Int32))), .val (.int p5), .val (.int i5), .val (.int (cs.getD j (0 : Int32)))]) rfl k) ?_
      show own_Go _ _ _ _ T3 (mkF m 38 #[.val (.ref a1), .val (.int (i1 + (1 : Int32))), .val (.ref a3), .val (.int (i3 + (1 : Int32))), .val (.int p5), .val (.int i5), .val (.int (cs.getD j (0 : Int32)))] [])
      refine own_step (fun _ k => XS.iinc X3.here hx rfl (hb hby d8_38) rfl (l' := #[.val (.ref a1), .val (.int (i1 + (1 : Int32))), .val (.ref a3), .val (.int (i3 + (1 : Int32))), .val (.int p5), .val (.int (i5 + (1 : Int32))), .val (.int (cs.getD j (0 : Int32)))]) rfl k) ?_
      show own_Go _ _ _ _ T3 (mkF m 41 #[.val (.ref a1), .val (.int (i1 + (1 : Int32))), .val (.ref a3), .val (.int (i3 + (1 : Int32))), .val (.int p5), .val (.int (i5 + (1 : Int32))), .val (.int (cs.getD j (0 : Int32)))] [])
      refine own_step (fun _ k => XS.goto X3.here hx rfl (pc0 := 41) (pc' := 3) rfl (hb hby d8_41) (by decide) (by decide) k) ?_
      show own_Go _ _ _ _ T3 (mkF m 3 #[.val (.ref a1), .val (.int (i1 + (1 : Int32))), .val (.ref a3), .val (.int (i3 + (1 : Int32))), .val (.int p5), .val (.int (i5 + (1 : Int32))), .val (.int (cs.getD j (0 : Int32)))] [])
      exact ih (j + 1) _ _ _ _ T3 _ _ _ X3 e3 N3 KK3 V_a3_3 (by rw [List.length_set]; exact hul) (by omega) (own_add hi1 e_1 (by omega)) (own_add hi3 e_1 (by omega)) (own_add hi5 e_1 (by omega)) (Or.inr ⟨_, rfl, rfl⟩)
  exact loop t 0 p2 p4 (0 : Int32) .unset T0 h0 [] _ X0 e0 N0 (Keep.refl h0 [a3]) VB (by rw [List.length_map, List.length_replicate]) (by omega) hp2 hp4 rfl (Or.inl rfl)
theorem pd_11 : parseMethodDescriptor "([CII)[B" = some ⟨[(.array .char), .int, .int], some (.array .byte)⟩ := by decide +kernel
set_option maxRecDepth 65536 in
set_option maxHeartbeats 40000000 in
theorem rm7_u (l : Launch) (Z : State) (a0 : Array Value) (hw : ∀ d ∈ tables_1, d.before a0 Z = true) (ws : List Jvm.Cond) (a1 : Addr) (p2 : Int32) (z : Int32) (kc : ClassId) (cs : List Int32) (t : Nat) (h0 : Heap) (n0 : Nat) (Z0 : n0 ≤ h0.size) (O0 : Old Z n0 h0) (SA : Sta Z Z.heap "java/lang/StringUTF16" "$assertionsDisabled" "Z" (.int (1 : Int32))) (SH : Sta Z Z.heap "java/lang/StringUTF16" "HI_BYTE_SHIFT" "I" (.int (0 : Int32))) (SL : Sta Z Z.heap "java/lang/StringUTF16" "LO_BYTE_SHIFT" "I" (.int (8 : Int32))) (VA : Arv Z h0 a1 kc .char z (cs.map Value.int) (.int (0 : Int32))) (hl : z.toInt = (cs.length : Nat)) (hcap : cs.length ≤ 3) (hch : (∀ t, 0 ≤ (cs.getD t (0 : Int32)).toInt ∧ (cs.getD t (0 : Int32)).toInt ≤ 65535)) (hp2 : p2.toInt = (0 : Nat)) (htl : t < cs.length) (hle : ∀ i, i < t → ¬ (255 : Int32) < cs.getD i (0 : Int32)) (hgt : (255 : Int32) < cs.getD t (0 : Int32)) :
    own_Met l (⟨"java/lang/StringUTF16", "compress", "([CII)[B"⟩ : MethodName) jdk_52_method_16_code 6 (some (.array .byte)) ws ({ frames := 3, cells := 2, slots := 9, locals := 40 } : Room) #[(.ref a1), (.int p2), (.int z)] Z h0 (fun v h L => ∃ b k, v = some (.ref b) ∧ Fr n0 L ∧ Keep h0 h [] ∧ n0 ≤ b ∧ h0.size ≤ b ∧ Arv Z h b k .byte (z <<< ((1 : Int32) &&& 31)) ((own_u16 cs).map Value.int) (.int (0 : Int32))) := by
  refine own_body (plainFor_of_name pn_3) (ef_7 a1 p2 z) ?_
  intro p e s m below meth c T0 X0 hx hby hml0 hret hlk hnm hown hZ e0
  have hml : c.maxLocals = 6 := hml0
  have N0 := Fr.nil n0
  refine own_step (fun _ k => XS.iloadN X0.here hx rfl (hb hby d7_0) rfl k) ?_
  show own_Go _ _ _ _ T0 (mkF m 1 #[.val (.ref a1), .val (.int p2), .val (.int z), .unset, .unset, .unset] [(.int z)])
  have hzc := own_clamp hl
  have hlit : (Int32.ofInt (t : Int)).toInt = (t : Nat) := by rw [Int32.toInt_ofInt]; have es : Int32.size = 4294967296 := rfl; rw [Int.bmod_eq_of_le (by omega) (by omega)]
  obtain ⟨T1, h1, k1, b, g1, X1, e1, E1, V1, st1⟩ := own_newA X0 hx hZ (hw _ (List.mem_of_getElem? (i := 16) rfl)) e0 (g := (mkF m 1 #[.val (.ref a1), .val (.int p2), .val (.int z), .unset, .unset, .unset] [(.int z)])) rfl (hb hby d7_1) rfl (own_nn hl) (cap := 3) (by rw [hzc]; exact hcap) (by decide) (by decide) (by decide)
  have ne_a1_b : a1 ≠ b := Nat.ne_of_lt (Nat.lt_of_lt_of_eq VA.lt g1.symm)
  have g_b : n0 ≤ b := Nat.le_trans Z0 (Nat.le_of_eq g1.symm)
  have sz_b : h0.size ≤ b := Nat.le_trans (Keep.refl h0 []).1 (Nat.le_of_eq g1.symm)
  refine own_step st1 ?_
  have Z1 := Nat.le_trans Z0 E1.1
  have KK1 := (Keep.refl h0 []).ext E1
  have VB : Arv Z h1 b k1 .byte z ((List.replicate cs.length (0 : Int32)).map Value.int) (.int (0 : Int32)) := by
    refine Arv.pad V1 (fun i => ?_)
    rw [List.map_replicate]; show _ = (List.replicate 3 (Value.int 0)).getD i (.int 0)
    simp only [List.getD_eq_getElem?_getD, List.getElem?_replicate]; split <;> split <;> rfl
  show own_Go _ _ _ _ T1 (mkF m 3 #[.val (.ref a1), .val (.int p2), .val (.int z), .unset, .unset, .unset] [(.ref b)])
  refine own_step (fun _ k => XS.astoreN X1.here hx rfl (hb hby d7_3) rfl rfl (l' := #[.val (.ref a1), .val (.int p2), .val (.int z), .val (.ref b), .unset, .unset]) rfl k) ?_
  show own_Go _ _ _ _ T1 (mkF m 4 #[.val (.ref a1), .val (.int p2), .val (.int z), .val (.ref b), .unset, .unset] [])
  refine own_step (fun _ k => XS.aloadN X1.here hx rfl (hb hby d7_4) rfl rfl k) ?_
  show own_Go _ _ _ _ T1 (mkF m 5 #[.val (.ref a1), .val (.int p2), .val (.int z), .val (.ref b), .unset, .unset] [(.ref a1)])
  refine own_step (fun _ k => XS.iloadN X1.here hx rfl (hb hby d7_5) rfl k) ?_
  show own_Go _ _ _ _ T1 (mkF m 6 #[.val (.ref a1), .val (.int p2), .val (.int z), .val (.ref b), .unset, .unset] [(.int p2), (.ref a1)])
  refine own_step (fun _ k => XS.aloadN X1.here hx rfl (hb hby d7_6) rfl rfl k) ?_
  show own_Go _ _ _ _ T1 (mkF m 7 #[.val (.ref a1), .val (.int p2), .val (.int z), .val (.ref b), .unset, .unset] [(.ref b), (.int p2), (.ref a1)])
  refine own_step (fun _ k => XS.iconst X1.here hx rfl (hb hby d7_7) k) ?_
  show own_Go _ _ _ _ T1 (mkF m 8 #[.val (.ref a1), .val (.int p2), .val (.int z), .val (.ref b), .unset, .unset] [(.int (0 : Int32)), (.ref b), (.int p2), (.ref a1)])
  refine own_step (fun _ k => XS.iloadN X1.here hx rfl (hb hby d7_8) rfl k) ?_
  show own_Go _ _ _ _ T1 (mkF m 9 #[.val (.ref a1), .val (.int p2), .val (.int z), .val (.ref b), .unset, .unset] [(.int z), (.int (0 : Int32)), (.ref b), (.int p2), (.ref a1)])
  have Q2 := (VA.ext E1)
  refine own_callS X1 hx hZ (y := (⟨"java/lang/StringUTF16", "compress", "([CI[BII)I"⟩ : MethodName)) hown (hw _ (List.mem_of_getElem? (i := 46) rfl)) (hw _ (List.mem_of_getElem? (i := 47) rfl)) (hw _ (List.mem_of_getElem? (i := 44) rfl)) (hw _ (List.mem_of_getElem? (i := 48) rfl)) (by decide) (rm8_u l Z a0 hw [] a1 p2 b (0 : Int32) z kc k1 z cs t h1 n0 Z1 Q2 VB hl hcap htl hle hgt ne_a1_b hl hp2 rfl g_b) e1 0 (by decide) (by decide) (by decide) (by decide) (g := (mkF m 9 #[.val (.ref a1), .val (.int p2), .val (.int z), .val (.ref b), .unset, .unset] [(.int z), (.int (0 : Int32)), (.ref b), (.int p2), (.ref a1)])) rfl (by rw [hml]; rfl) [(.ref a1), (.int p2), (.ref b), (.int (0 : Int32)), (.int z)] [] pd_5 rfl rfl rfl (by show 2 * 0 + _ ≤ _; exact Nat.le_of_eq rfl) (hb hby d7_9) ?_
  rintro v3 T3 L3 X3 ⟨rfl, Nq3, K3⟩
  have N3 := Fr.app N0 Nq3
  show own_Go _ _ _ _ T3 (mkF m 12 #[.val (.ref a1), .val (.int p2), .val (.int z), .val (.ref b), .unset, .unset] [(.int (Int32.ofInt (t : Int)))])
  have Z3 := Nat.le_trans Z1 K3.1
  have KK3 := KK1.trans K3 (allS (P := fun x => x ∈ [] ∨ h0.size ≤ x) (Or.inr sz_b) all0)
  refine own_step (fun _ k => XS.istore X3.here hx rfl (hb hby d7_12) rfl (l' := #[.val (.ref a1), .val (.int p2), .val (.int z), .val (.ref b), .val (.int (Int32.ofInt (t : Int))), .unset]) rfl k) ?_
  show own_Go _ _ _ _ T3 (mkF m 14 #[.val (.ref a1), .val (.int p2), .val (.int z), .val (.ref b), .val (.int (Int32.ofInt (t : Int))), .unset] [])
  refine own_step (fun _ k => XS.iload X3.here hx rfl (hb hby d7_14) rfl k) ?_
  show own_Go _ _ _ _ T3 (mkF m 16 #[.val (.ref a1), .val (.int p2), .val (.int z), .val (.ref b), .val (.int (Int32.ofInt (t : Int))), .unset] [(.int (Int32.ofInt (t : Int)))])
  refine own_step (fun _ k => XS.iloadN X3.here hx rfl (hb hby d7_16) rfl k) ?_
  show own_Go _ _ _ _ T3 (mkF m 17 #[.val (.ref a1), .val (.int p2), .val (.int z), .val (.ref b), .val (.int (Int32.ofInt (t : Int))), .unset] [(.int z), (.int (Int32.ofInt (t : Int)))])
  refine own_step (fun _ k => XS.icmpNo X3.here hx rfl (hb hby d7_17) rfl (feq (fun q => by rw [q] at hlit; omega)).1 k) ?_
  show own_Go _ _ _ _ T3 (mkF m 20 #[.val (.ref a1), .val (.int p2), .val (.int z), .val (.ref b), .val (.int (Int32.ofInt (t : Int))), .unset] [])
  refine own_step (fun _ k => XS.aloadN X3.here hx rfl (hb hby d7_20) rfl rfl k) ?_
  show own_Go _ _ _ _ T3 (mkF m 21 #[.val (.ref a1), .val (.int p2), .val (.int z), .val (.ref b), .val (.int (Int32.ofInt (t : Int))), .unset] [(.ref a1)])
  refine own_step (fun _ k => XS.iloadN X3.here hx rfl (hb hby d7_21) rfl k) ?_
  show own_Go _ _ _ _ T3 (mkF m 22 #[.val (.ref a1), .val (.int p2), .val (.int z), .val (.ref b), .val (.int (Int32.ofInt (t : Int))), .unset] [(.int p2), (.ref a1)])
  refine own_step (fun _ k => XS.iloadN X3.here hx rfl (hb hby d7_22) rfl k) ?_
  show own_Go _ _ _ _ T3 (mkF m 23 #[.val (.ref a1), .val (.int p2), .val (.int z), .val (.ref b), .val (.int (Int32.ofInt (t : Int))), .unset] [(.int z), (.int p2), (.ref a1)])
  have Q4 := ((O0.ext E1).keep K3 (allS g_b all0))
  have Q5 := (Q2.keep K3 (ninS ne_a1_b nin0))
  refine own_callS X3 hx hZ (y := (⟨"java/lang/StringUTF16", "toBytes", "([CII)[B"⟩ : MethodName)) hown (hw _ (List.mem_of_getElem? (i := 81) rfl)) (hw _ (List.mem_of_getElem? (i := 82) rfl)) (hw _ (List.mem_of_getElem? (i := 44) rfl)) (hw _ (List.mem_of_getElem? (i := 83) rfl)) (by decide) (rm16 l Z a0 hw [] a1 p2 z kc cs T3.heap n0 Z3 Q4 SA SH SL Q5 hl hcap hch hp2) rfl 0 (by decide) (by decide) (by decide) (by decide) (g := (mkF m 23 #[.val (.ref a1), .val (.int p2), .val (.int z), .val (.ref b), .val (.int (Int32.ofInt (t : Int))), .unset] [(.int z), (.int p2), (.ref a1)])) rfl (by rw [hml]; rfl) [(.ref a1), (.int p2), (.int z)] [] pd_11 rfl rfl rfl (by show 2 * 0 + _ ≤ _; exact Nat.le_of_eq rfl) (hb hby d7_23) ?_
  rintro v6 T6 L6 X6 ⟨bu, ku, rfl, Nq6, K6, g_bu, sb6, V6⟩
  have N6 := Fr.app N3 Nq6
  show own_Go _ _ _ _ T6 (mkF m 26 #[.val (.ref a1), .val (.int p2), .val (.int z), .val (.ref b), .val (.int (Int32.ofInt (t : Int))), .unset] [(.ref bu)])
  have sz_bu : h0.size ≤ bu := Nat.le_trans KK3.1 sb6
  have Z6 := Nat.le_trans Z3 K6.1
  have KK6 := KK3.trans K6 all0
  refine own_step (fun _ k => XS.astore X6.here hx rfl (hb hby d7_26) rfl rfl (l' := #[.val (.ref a1), .val (.int p2), .val (.int z), .val (.ref b), .val (.int (Int32.ofInt (t : Int))), .val (.ref bu)]) rfl k) ?_
  show own_Go _ _ _ _ T6 (mkF m 28 #[.val (.ref a1), .val (.int p2), .val (.int z), .val (.ref b), .val (.int (Int32.ofInt (t : Int))), .val (.ref bu)] [])
  refine own_step (fun _ k => XS.aload X6.here hx rfl (hb hby d7_28) rfl rfl k) ?_
  show own_Go _ _ _ _ T6 (mkF m 30 #[.val (.ref a1), .val (.int p2), .val (.int z), .val (.ref b), .val (.int (Int32.ofInt (t : Int))), .val (.ref bu)] [(.ref bu)])
  refine own_step (fun _ k => XS.iload X6.here hx rfl (hb hby d7_30) rfl k) ?_
  show own_Go _ _ _ _ T6 (mkF m 32 #[.val (.ref a1), .val (.int p2), .val (.int z), .val (.ref b), .val (.int (Int32.ofInt (t : Int))), .val (.ref bu)] [(.int (Int32.ofInt (t : Int))), (.ref bu)])
  have Q7 := (Q4.keep K6 all0)
  refine own_callS X6 hx hZ (y := (⟨"java/lang/StringUTF16", "getChar", "([BI)C"⟩ : MethodName)) hown (hw _ (List.mem_of_getElem? (i := 97) rfl)) (hw _ (List.mem_of_getElem? (i := 98) rfl)) (hw _ (List.mem_of_getElem? (i := 44) rfl)) (hw _ (List.mem_of_getElem? (i := 99) rfl)) (by decide) (rm20 l Z a0 hw [] bu (Int32.ofInt (t : Int)) ku z cs t T6.heap n0 Z6 Q7 SA SH SL V6 hl hcap hch hlit htl) rfl 0 (by decide) (by decide) (by decide) (by decide) (g := (mkF m 32 #[.val (.ref a1), .val (.int p2), .val (.int z), .val (.ref b), .val (.int (Int32.ofInt (t : Int))), .val (.ref bu)] [(.int (Int32.ofInt (t : Int))), (.ref bu)])) rfl (by rw [hml]; rfl) [(.ref bu), (.int (Int32.ofInt (t : Int)))] [] pd_4 rfl rfl rfl (by show 2 * 0 + _ ≤ _; exact Nat.le_of_eq rfl) (hb hby d7_32) ?_
  rintro v8 T8 L8 X8 ⟨rfl, Nq8, e8⟩
  have N8 := Fr.app N6 Nq8
  show own_Go _ _ _ _ T8 (mkF m 35 #[.val (.ref a1), .val (.int p2), .val (.int z), .val (.ref b), .val (.int (Int32.ofInt (t : Int))), .val (.ref bu)] [(.int (cs.getD t (0 : Int32)))])
  refine own_step (fun _ k => XS.sipush X8.here hx rfl (hb hby d7_35) k) ?_
  show own_Go _ _ _ _ T8 (mkF m 38 #[.val (.ref a1), .val (.int p2), .val (.int z), .val (.ref b), .val (.int (Int32.ofInt (t : Int))), .val (.ref bu)] [(.int (255 : Int32)), (.int (cs.getD t (0 : Int32)))])
  refine own_step (fun _ k => XS.icmpYes X8.here hx rfl (pc0 := 38) (pc' := 54) rfl (hb hby d7_38) rfl (tlt hgt).2.2.1 (by decide) (by decide) k) ?_
  show own_Go _ _ _ _ T8 (mkF m 54 #[.val (.ref a1), .val (.int p2), .val (.int z), .val (.ref b), .val (.int (Int32.ofInt (t : Int))), .val (.ref bu)] [])
  refine own_step (fun _ k => XS.aload X8.here hx rfl (hb hby d7_54) rfl rfl k) ?_
  show own_Go _ _ _ _ T8 (mkF m 56 #[.val (.ref a1), .val (.int p2), .val (.int z), .val (.ref b), .val (.int (Int32.ofInt (t : Int))), .val (.ref bu)] [(.ref bu)])
  exact own_retA X8 hx hret rfl hlk rfl rfl (hb hby d7_56) (own_N (by rw [e8]; exact ⟨bu, ku, rfl, N8, KK6, g_bu, sz_bu, V6⟩) (by decide) (by decide)) 
set_option maxRecDepth 65536 in
set_option maxHeartbeats 40000000 in
theorem rm9_u (l : Launch) (Z : State) (a0 : Array Value) (hw : ∀ d ∈ tables_1, d.before a0 Z = true) (ws : List Jvm.Cond) (a1 : Addr) (p2 : Int32) (kb : ClassId) (vs : List Value) (m_ : Nat) (h0 : Heap) (n0 : Nat) (Z0 : n0 ≤ h0.size) (VB : Arv Z h0 a1 kb .byte (p2 <<< ((1 : Int32) &&& 31)) vs (.int (0 : Int32))) (hm : p2.toInt = (m_ : Nat)) (hm0 : 0 < m_) (hm3 : m_ ≤ 3) :
    own_Met l (⟨"java/lang/StringUTF16", "coderFromArrayLen", "([BI)B"⟩ : MethodName) jdk_52_method_15_code 2 (some .byte) ws ({ frames := 0, cells := 0, slots := 0, locals := 0 } : Room) #[(.ref a1), (.int p2)] Z h0 (fun v h L => v = some (.int (1 : Int32)) ∧ Fr n0 L ∧ h = h0) := by
  refine own_body (plainFor_of_name pn_3) (ef_9 a1 p2) ?_
  intro p e s m below meth c T0 X0 hx hby hml0 hret hlk hnm hown hZ e0
  have hml : c.maxLocals = 2 := hml0
  have N0 := Fr.nil n0
  refine own_step (fun _ k => XS.iloadN X0.here hx rfl (hb hby d9_0) rfl k) ?_
  show own_Go _ _ _ _ T0 (mkF m 1 #[.val (.ref a1), .val (.int p2)] [(.int p2)])
  refine own_step (fun _ k => XS.aloadN X0.here hx rfl (hb hby d9_1) rfl rfl k) ?_
  show own_Go _ _ _ _ T0 (mkF m 2 #[.val (.ref a1), .val (.int p2)] [(.ref a1), (.int p2)])
  refine own_step (own_len X0 hx hZ e0 VB (g := (mkF m 2 #[.val (.ref a1), .val (.int p2)] [(.ref a1), (.int p2)])) rfl rfl (hb hby d9_2)) ?_
  show own_Go _ _ _ _ T0 (mkF m 3 #[.val (.ref a1), .val (.int p2)] [(.int (p2 <<< ((1 : Int32) &&& 31))), (.int p2)])
  refine own_step (fun _ k => XS.isub X0.here hx rfl (hb hby d9_3) rfl k) ?_
  show own_Go _ _ _ _ T0 (mkF m 4 #[.val (.ref a1), .val (.int p2)] [(.int (p2 - (p2 <<< ((1 : Int32) &&& 31))))])
  refine own_step (fun _ k => XS.bipush X0.here hx rfl (hb hby d9_4) k) ?_
  show own_Go _ _ _ _ T0 (mkF m 6 #[.val (.ref a1), .val (.int p2)] [(.int (31 : Int32)), (.int (p2 - (p2 <<< ((1 : Int32) &&& 31))))])
  refine own_step (fun _ k => XS.iushr X0.here hx rfl (hb hby d9_6) rfl k) ?_
  show own_Go _ _ _ _ T0 (mkF m 7 #[.val (.ref a1), .val (.int p2)] [(.int (((p2 - (p2 <<< ((1 : Int32) &&& 31))).toUInt32 >>> ((31 : Int32) &&& 31).toUInt32).toInt32))])
  refine own_step (fun _ k => XS.i2b X0.here hx rfl (hb hby d9_7) rfl k) ?_
  show own_Go _ _ _ _ T0 (mkF m 8 #[.val (.ref a1), .val (.int p2)] [(.int ((((p2 - (p2 <<< ((1 : Int32) &&& 31))).toUInt32 >>> ((31 : Int32) &&& 31).toUInt32).toInt32).toInt8.toInt32))])
  rw [own_cfl hm hm0 (by omega)]
  show own_Go _ _ _ _ T0 (mkF m 8 #[.val (.ref a1), .val (.int p2)] [(.int (1 : Int32))])
  exact own_retN X0 hx (t := .byte) hret (by simp) hlk (hb hby d9_8) rfl (own_N ⟨rfl, N0, e0⟩ (by decide) (by decide)) 
theorem d2_0 : decode jdk_42_method_149_code 0 = .ok (.aload_n 0, 1) := by decide +kernel
theorem d2_1 : decode jdk_42_method_149_code 1 = .ok (.invokespecial 1, 3) := by decide +kernel
theorem d2_4 : decode jdk_42_method_149_code 4 = .ok (.iload_n 3, 1) := by decide +kernel
theorem d2_5 : decode jdk_42_method_149_code 5 = .ok (.ifCond .ne 22, 3) := by decide +kernel
theorem d2_8 : decode jdk_42_method_149_code 8 = .ok (.aload_n 0, 1) := by decide +kernel
theorem d2_9 : decode jdk_42_method_149_code 9 = .ok (.ldc 7, 2) := by decide +kernel
theorem d2_11 : decode jdk_42_method_149_code 11 = .ok (.getfield 9, 3) := by decide +kernel
theorem d2_14 : decode jdk_42_method_149_code 14 = .ok (.putfield 9, 3) := by decide +kernel
theorem d2_17 : decode jdk_42_method_149_code 17 = .ok (.aload_n 0, 1) := by decide +kernel
theorem d2_18 : decode jdk_42_method_149_code 18 = .ok (.ldc 7, 2) := by decide +kernel
theorem d2_20 : decode jdk_42_method_149_code 20 = .ok (.getfield 15, 3) := by decide +kernel
theorem d2_23 : decode jdk_42_method_149_code 23 = .ok (.putfield 15, 3) := by decide +kernel
theorem d2_26 : decode jdk_42_method_149_code 26 = .ok (.return_, 1) := by decide +kernel
theorem d2_27 : decode jdk_42_method_149_code 27 = .ok (.getstatic 38, 3) := by decide +kernel
theorem d2_30 : decode jdk_42_method_149_code 30 = .ok (.ifCond .eq 28, 3) := by decide +kernel
theorem d2_33 : decode jdk_42_method_149_code 33 = .ok (.aload_n 1, 1) := by decide +kernel
theorem d2_34 : decode jdk_42_method_149_code 34 = .ok (.iload_n 2, 1) := by decide +kernel
theorem d2_35 : decode jdk_42_method_149_code 35 = .ok (.iload_n 3, 1) := by decide +kernel
theorem d2_36 : decode jdk_42_method_149_code 36 = .ok (.invokestatic 177, 3) := by decide +kernel
theorem d2_39 : decode jdk_42_method_149_code 39 = .ok (.astore 5, 2) := by decide +kernel
theorem d2_41 : decode jdk_42_method_149_code 41 = .ok (.aload_n 0, 1) := by decide +kernel
theorem d2_42 : decode jdk_42_method_149_code 42 = .ok (.aload 5, 2) := by decide +kernel
theorem d2_44 : decode jdk_42_method_149_code 44 = .ok (.iload_n 3, 1) := by decide +kernel
theorem d2_45 : decode jdk_42_method_149_code 45 = .ok (.invokestatic 47, 3) := by decide +kernel
theorem d2_48 : decode jdk_42_method_149_code 48 = .ok (.putfield 15, 3) := by decide +kernel
theorem d2_51 : decode jdk_42_method_149_code 51 = .ok (.aload_n 0, 1) := by decide +kernel
theorem d2_52 : decode jdk_42_method_149_code 52 = .ok (.aload 5, 2) := by decide +kernel
theorem d2_54 : decode jdk_42_method_149_code 54 = .ok (.putfield 9, 3) := by decide +kernel
theorem d2_57 : decode jdk_42_method_149_code 57 = .ok (.return_, 1) := by decide +kernel
theorem d2_58 : decode jdk_42_method_149_code 58 = .ok (.aload_n 0, 1) := by decide +kernel
theorem d2_59 : decode jdk_42_method_149_code 59 = .ok (.iconst 1, 1) := by decide +kernel
theorem d2_60 : decode jdk_42_method_149_code 60 = .ok (.putfield 15, 3) := by decide +kernel
theorem d2_63 : decode jdk_42_method_149_code 63 = .ok (.aload_n 0, 1) := by decide +kernel
theorem d2_64 : decode jdk_42_method_149_code 64 = .ok (.aload_n 1, 1) := by decide +kernel
theorem d2_65 : decode jdk_42_method_149_code 65 = .ok (.iload_n 2, 1) := by decide +kernel
theorem d2_66 : decode jdk_42_method_149_code 66 = .ok (.iload_n 3, 1) := by decide +kernel
theorem d2_67 : decode jdk_42_method_149_code 67 = .ok (.invokestatic 180, 3) := by decide +kernel
theorem d2_70 : decode jdk_42_method_149_code 70 = .ok (.putfield 9, 3) := by decide +kernel
theorem d2_73 : decode jdk_42_method_149_code 73 = .ok (.return_, 1) := by decide +kernel
theorem ef_2 (a1 : Addr) (a2 : Addr) (p3 : Int32) (z : Int32) (m : MethodId) : entryFrame m #[(.ref a1), (.ref a2), (.int p3), (.int z), .null] 6 = mkF m 0 #[.val (.ref a1), .val (.ref a2), .val (.int p3), .val (.int z), .val .null, .unset] [] := by first | (simp [entryFrame, mkF, argsToLocals, Value.category]; done) | rfl
theorem pd_12 : parseMethodDescriptor "([BI)B" = some ⟨[(.array .byte), .int], some .byte⟩ := by decide +kernel
set_option maxRecDepth 65536 in
set_option maxHeartbeats 40000000 in
theorem rm2 (l : Launch) (Z : State) (a0 : Array Value) (hw : ∀ d ∈ tables_1, d.before a0 Z = true) (ws : List Jvm.Cond) (a1 : Addr) (a2 : Addr) (p3 : Int32) (z : Int32) (kc : ClassId) (cz : Int32) (cs : List Int32) (h0 : Heap) (n0 : Nat) (Z0 : n0 ≤ h0.size) (hEL : EW Z a0 own_EL) (O0 : Old Z n0 h0) (SC : Sta Z Z.heap "java/lang/String" "COMPACT_STRINGS" "Z" (.int cz)) (hcz : ¬ cz = (0 : Int32)) (SA : Sta Z Z.heap "java/lang/StringUTF16" "$assertionsDisabled" "Z" (.int (1 : Int32))) (SH : Sta Z Z.heap "java/lang/StringUTF16" "HI_BYTE_SHIFT" "I" (.int (0 : Int32))) (SL : Sta Z Z.heap "java/lang/StringUTF16" "LO_BYTE_SHIFT" "I" (.int (8 : Int32))) (E_a1 : Exa Z h0 a1 "java/lang/String") (FC_a1 : Fld Z h0 a1 "java/lang/String" "coder" "B" (.int (0 : Int32))) (FV_a1 : Fld Z h0 a1 "java/lang/String" "value" "[B" .null) (VA : Arv Z h0 a2 kc .char z (cs.map Value.int) (.int (0 : Int32))) (hl : z.toInt = (cs.length : Nat)) (hcap : cs.length ≤ 3) (hch : (∀ t, 0 ≤ (cs.getD t (0 : Int32)).toInt ∧ (cs.getD t (0 : Int32)).toInt ≤ 65535)) (g_a1 : n0 ≤ a1) (hp3 : p3 = (0 : Int32)) :
    own_MetW l (⟨"java/lang/String", "<init>", "([CIILjava/lang/Void;)V"⟩ : MethodName) jdk_42_method_149_code 6 none ws ({ frames := 4, cells := 4, slots := 9, locals := 57 } : Room) #[(.ref a1), (.ref a2), (.int p3), (.int z), .null] Z own_EL h0 (fun v h L => v = none ∧ Fr n0 L ∧ Keep h0 h [a1] ∧ own_Str Z h a1 z cs) := by
  refine own_bodyW (plainFor_of_name pn_0) (ef_2 a1 a2 p3 z) ?_
  intro p e s m below meth c T0 X0 hx hby hml0 hret hlk hnm hown hZ e0 eS H0 hS0
  have C0 := CHr.refl H0
  have hml : c.maxLocals = 6 := hml0
  have N0 := Fr.nil n0
  have ne_a1_a2 : a1 ≠ a2 := Exa.neArv E_a1 VA (hw _ (List.mem_of_getElem? (i := 2) rfl))
  have Sf0 := own_safe (EL := own_EL) hZ.alike E_a1 FV_a1
  refine own_step (fun _ k => XS.aloadN X0.here hx rfl (hb hby d2_0) rfl rfl k) ?_
  show own_Go _ _ _ _ T0 (mkF m 1 #[.val (.ref a1), .val (.ref a2), .val (.int p3), .val (.int z), .val .null, .unset] [(.ref a1)])
  obtain ⟨T1, X1, e1, st1⟩ := initO X0 hx hZ hown (hw _ (List.mem_of_getElem? (i := 12) rfl)) (hw _ (List.mem_of_getElem? (i := 13) rfl)) (hw _ (List.mem_of_getElem? (i := 14) rfl)) e0 (g := (mkF m 1 #[.val (.ref a1), .val (.ref a2), .val (.int p3), .val (.int z), .val .null, .unset] [(.ref a1)])) rfl (by rw [hml]; rfl) rfl (hb hby d2_1) (by decide) (W := 0) (by show 2 * 0 + _ ≤ _; exact Nat.le_of_eq rfl) (by decide)
  refine own_step st1 ?_
  show own_Go _ _ _ _ T1 (mkF m 4 #[.val (.ref a1), .val (.ref a2), .val (.int p3), .val (.int z), .val .null, .unset] [])
  refine own_step (fun _ k => XS.iloadN X1.here hx rfl (hb hby d2_4) rfl k) ?_
  show own_Go _ _ _ _ T1 (mkF m 5 #[.val (.ref a1), .val (.ref a2), .val (.int p3), .val (.int z), .val .null, .unset] [(.int z)])
  by_cases hz0 : z = (0 : Int32)
  · refine own_step (fun _ k => XS.ifNo X1.here hx rfl (hb hby d2_5) rfl ((if0 _ _).trans (teq hz0).2) k) ?_
    show own_Go _ _ _ _ T1 (mkF m 8 #[.val (.ref a1), .val (.ref a2), .val (.int p3), .val (.int z), .val .null, .unset] [])
    have hnil : cs = [] := List.eq_nil_of_length_eq_zero (by rw [hz0] at hl; have e0 : (0 : Int32).toInt = 0 := rfl; omega)
    subst hnil
    refine own_step (fun _ k => XS.aloadN X1.here hx rfl (hb hby d2_8) rfl rfl k) ?_
    show own_Go _ _ _ _ T1 (mkF m 9 #[.val (.ref a1), .val (.ref a2), .val (.int p3), .val (.int z), .val .null, .unset] [(.ref a1)])
    obtain ⟨lit2, T2, h2, k12, lib2, kd2, X2, e2, E2, hS2, hk2, hZ, hown, EX2, FC2, FV2, V2, lt12, lt22, D2, Ld2, sf2, st2⟩ := ldcCH X1 hx hZ hown (hw _ (List.mem_of_getElem? (i := 15) rfl)) (own_wS hw) e1 hS0 (Nat.le_refl _) hEL (List.mem_of_getElem? (i := 0) rfl) C0.1 (vs := []) (z := (0 : Int32)) ⟨fun c hc => absurd hc (by simp), rfl⟩ (by decide) rfl (g := (mkF m 9 #[.val (.ref a1), .val (.ref a2), .val (.int p3), .val (.int z), .val .null, .unset] [(.ref a1)])) rfl (hb hby d2_9) (n := 0) (by simp) (by decide) (by decide) (by decide)
    refine own_step st2 ?_
    have Z2 := Nat.le_trans Z0 E2.1
    have KK2 := (Keep.refl h0 [a1]).ext E2
    have Sf_a1_2 := CHr.safe D2 E_a1.lt Sf0
    have C2 := C0.trans D2
    show own_Go _ _ _ _ T2 (mkF m 11 #[.val (.ref a1), .val (.ref a2), .val (.int p3), .val (.int z), .val .null, .unset] [(.ref lit2), (.ref a1)])
    obtain ⟨T3, X3, e3, st3⟩ := getF X2 hx hZ hown (host := "") (Or.inl (hw _ (List.mem_of_getElem? (i := 21) rfl))) Via.refl e2 FV2 (g := (mkF m 11 #[.val (.ref a1), .val (.ref a2), .val (.int p3), .val (.int z), .val .null, .unset] [(.ref lit2), (.ref a1)])) rfl rfl (hb hby d2_11)
    refine own_step st3 ?_
    show own_Go _ _ _ _ T3 (mkF m 14 #[.val (.ref a1), .val (.ref a2), .val (.int p3), .val (.int z), .val .null, .unset] [(.ref lib2), (.ref a1)])
    have Q4 := (FV_a1.ext E2)
    have Q5 := (E_a1.ext E2)
    obtain ⟨T6, h6, X6, e6, W6, st6⟩ := putF X3 hx hZ hown (host := "") (Or.inl (hw _ (List.mem_of_getElem? (i := 21) rfl))) Via.refl e3 Q4 Q5 (Or.inr ⟨(hw _ (List.mem_of_getElem? (i := 17) rfl)), rfl, hnm⟩) (hw _ (List.mem_of_getElem? (i := 2) rfl)) (ty := (.array .byte)) (by decide) rfl rfl (g := (mkF m 14 #[.val (.ref a1), .val (.ref a2), .val (.int p3), .val (.int z), .val .null, .unset] [(.ref lib2), (.ref a1)])) rfl rfl (hb hby d2_14)
    refine own_step st6 ?_
    have N6 := Fr.snoc X6 N0 g_a1
    have F6 := Q4.same W6
    have Dc6 := (CHr.wr W6 Sf_a1_2 C2.1)
    have Sf_a1_6 := CHr.safe Dc6 Q5.lt Sf_a1_2
    have C6 := C2.trans Dc6
    have hk6 := Nat.le_trans hk2 Dc6.2.1
    have Z6 := Nat.le_trans Z2 (Keep.of_wr W6).1
    have KK6 := KK2.wr W6 (Or.inl (List.mem_of_getElem? (i := 0) rfl))
    show own_Go _ _ _ _ T6 (mkF m 17 #[.val (.ref a1), .val (.ref a2), .val (.int p3), .val (.int z), .val .null, .unset] [])
    refine own_step (fun _ k => XS.aloadN X6.here hx rfl (hb hby d2_17) rfl rfl k) ?_
    show own_Go _ _ _ _ T6 (mkF m 18 #[.val (.ref a1), .val (.ref a2), .val (.int p3), .val (.int z), .val .null, .unset] [(.ref a1)])
    obtain ⟨lit7, T7, h7, k17, lib7, kd7, X7, e7, E7, hS7, hk7, hZ, hown, EX7, FC7, FV7, V7, lt17, lt27, D7, Ld7, sf7, st7⟩ := ldcCH X6 hx hZ hown (hw _ (List.mem_of_getElem? (i := 15) rfl)) (own_wS hw) e6 hS2 hk6 hEL (List.mem_of_getElem? (i := 0) rfl) C6.1 (vs := []) (z := (0 : Int32)) ⟨fun c hc => absurd hc (by simp), rfl⟩ (by decide) rfl (g := (mkF m 18 #[.val (.ref a1), .val (.ref a2), .val (.int p3), .val (.int z), .val .null, .unset] [(.ref a1)])) rfl (hb hby d2_18) (n := 0) (by simp) (by decide) (by decide) (by decide)
    refine own_step st7 ?_
    have Q8 := (Q5.wr W6)
    have Z7 := Nat.le_trans Z6 E7.1
    have KK7 := KK6.ext E7
    have Sf_a1_7 := CHr.safe D7 Q8.lt Sf_a1_6
    have C7 := C6.trans D7
    show own_Go _ _ _ _ T7 (mkF m 20 #[.val (.ref a1), .val (.ref a2), .val (.int p3), .val (.int z), .val .null, .unset] [(.ref lit7), (.ref a1)])
    obtain ⟨T9, X9, e9, st9⟩ := getF X7 hx hZ hown (host := "") (Or.inl (hw _ (List.mem_of_getElem? (i := 22) rfl))) Via.refl e7 FC7 (g := (mkF m 20 #[.val (.ref a1), .val (.ref a2), .val (.int p3), .val (.int z), .val .null, .unset] [(.ref lit7), (.ref a1)])) rfl rfl (hb hby d2_20)
    refine own_step st9 ?_
    show own_Go _ _ _ _ T9 (mkF m 23 #[.val (.ref a1), .val (.ref a2), .val (.int p3), .val (.int z), .val .null, .unset] [(.int (0 : Int32)), (.ref a1)])
    have Q10 := (((FC_a1.ext E2).other W6 (Or.inr (slot_ne (Or.inr (hw _ (List.mem_of_getElem? (i := 18) rfl))) (Or.inr (hw _ (List.mem_of_getElem? (i := 17) rfl))) (by decide) (t := .byte) (t' := (.array .byte)) (by decide) (by decide)))).ext E7)
    have Q11 := (Q8.ext E7)
    obtain ⟨T12, h12, X12, e12, W12, st12⟩ := putFN X9 hx hZ hown (hw _ (List.mem_of_getElem? (i := 22) rfl)) Via.refl e9 Q10 Q11 (Or.inr ⟨(hw _ (List.mem_of_getElem? (i := 18) rfl)), rfl, hnm⟩) (hw _ (List.mem_of_getElem? (i := 2) rfl)) (ty := .byte) (v' := (.int (0 : Int32))) (by decide) rfl (fits_nar_byte (0 : Int32)) (g := (mkF m 23 #[.val (.ref a1), .val (.ref a2), .val (.int p3), .val (.int z), .val .null, .unset] [(.int (0 : Int32)), (.ref a1)])) rfl rfl (hb hby d2_23)
    refine own_step st12 ?_
    have N12 := Fr.snoc X12 N6 g_a1
    have F12 := Q10.same W12
    have Dc12 := (CHr.wr W12 Sf_a1_7 C7.1)
    have Sf_a1_12 := CHr.safe Dc12 Q11.lt Sf_a1_7
    have C12 := C7.trans Dc12
    have hk12 := Nat.le_trans hk7 Dc12.2.1
    have Z12 := Nat.le_trans Z7 (Keep.of_wr W12).1
    have KK12 := KK7.wr W12 (Or.inl (List.mem_of_getElem? (i := 0) rfl))
    show own_Go _ _ _ _ T12 (mkF m 26 #[.val (.ref a1), .val (.ref a2), .val (.int p3), .val (.int z), .val .null, .unset] [])
    have Q13 := (Q11.wr W12)
    have Q14 := ((F6.ext E7).other W12 (Or.inr (slot_ne (Or.inr (hw _ (List.mem_of_getElem? (i := 17) rfl))) (Or.inr (hw _ (List.mem_of_getElem? (i := 18) rfl))) (by decide) (t := (.array .byte)) (t' := .byte) (by decide) (by decide))))
    have Q15 := (((V2.other W6 (Ne.symm (sf2 a1 Sf_a1_2).2)).ext E7).other W12 (Ne.symm (sf2 a1 Sf_a1_2).2))
    exact own_retV X12 hx hret hlk (hb hby d2_26) (own_W X12 hS7 hk12 e12 eS hZ hEL C12 (by rw [e12, hz0]; exact ⟨rfl, N12, KK12, rfl, hcap, hch, Q13, lib2, _, Q14, Or.inl ⟨F12, Q15, own_lat [] (fun c hc => by cases hc)⟩⟩) (by decide) (by decide)) 
  · refine own_step (fun _ k => XS.ifYes X1.here hx rfl (pc0 := 5) (pc' := 27) rfl (hb hby d2_5) rfl ((if0 _ _).trans (feq hz0).2) (by decide) (by decide) k) ?_
    show own_Go _ _ _ _ T1 (mkF m 27 #[.val (.ref a1), .val (.ref a2), .val (.int p3), .val (.int z), .val .null, .unset] [])
    rcases own_first cs with hlat | ⟨t, htl, hle, hgt⟩
    · have hcs := hl
      have hcap3 := hcap
      have hcap : cs.length ≤ 8 := by omega
      obtain ⟨T16, X16, e16, st16⟩ := getS2 X1 hx hZ hown (host := "") (Or.inl (hw _ (List.mem_of_getElem? (i := 41) rfl))) Via.refl e1 (SC.ext O0.2) (g := (mkF m 27 #[.val (.ref a1), .val (.ref a2), .val (.int p3), .val (.int z), .val .null, .unset] [])) rfl (hb hby d2_27)
      refine own_step st16 ?_
      show own_Go _ _ _ _ T16 (mkF m 30 #[.val (.ref a1), .val (.ref a2), .val (.int p3), .val (.int z), .val .null, .unset] [(.int cz)])
      refine own_step (fun _ k => XS.ifNo X16.here hx rfl (hb hby d2_30) rfl ((if0 _ _).trans (feq hcz).1) k) ?_
      show own_Go _ _ _ _ T16 (mkF m 33 #[.val (.ref a1), .val (.ref a2), .val (.int p3), .val (.int z), .val .null, .unset] [])
      refine own_step (fun _ k => XS.aloadN X16.here hx rfl (hb hby d2_33) rfl rfl k) ?_
      show own_Go _ _ _ _ T16 (mkF m 34 #[.val (.ref a1), .val (.ref a2), .val (.int p3), .val (.int z), .val .null, .unset] [(.ref a2)])
      refine own_step (fun _ k => XS.iloadN X16.here hx rfl (hb hby d2_34) rfl k) ?_
      show own_Go _ _ _ _ T16 (mkF m 35 #[.val (.ref a1), .val (.ref a2), .val (.int p3), .val (.int z), .val .null, .unset] [(.int p3), (.ref a2)])
      refine own_step (fun _ k => XS.iloadN X16.here hx rfl (hb hby d2_35) rfl k) ?_
      show own_Go _ _ _ _ T16 (mkF m 36 #[.val (.ref a1), .val (.ref a2), .val (.int p3), .val (.int z), .val .null, .unset] [(.int z), (.int p3), (.ref a2)])
      refine own_callS X16 hx hZ (y := (⟨"java/lang/StringUTF16", "compress", "([CII)[B"⟩ : MethodName)) hown (hw _ (List.mem_of_getElem? (i := 42) rfl)) (hw _ (List.mem_of_getElem? (i := 43) rfl)) (hw _ (List.mem_of_getElem? (i := 44) rfl)) (hw _ (List.mem_of_getElem? (i := 45) rfl)) (by decide) (rm7 l Z a0 hw [] a2 p3 z kc cs h0 n0 Z0 VA hcs hcap hlat (by rw [hp3]; rfl)) e16 0 (by decide) (by decide) (by decide) (by decide) (g := (mkF m 36 #[.val (.ref a1), .val (.ref a2), .val (.int p3), .val (.int z), .val .null, .unset] [(.int z), (.int p3), (.ref a2)])) rfl (by rw [hml]; rfl) [(.ref a2), (.int p3), (.int z)] [] pd_11 rfl rfl rfl (by show 2 * 0 + _ ≤ _; exact Nat.le_of_eq rfl) (hb hby d2_36) ?_
      rintro v17 T17 L17 X17 ⟨bv, kv, rfl, Nq17, K17, g_bv, sb17, V17⟩
      have N17 := Fr.app N0 Nq17
      show own_Go _ _ _ _ T17 (mkF m 39 #[.val (.ref a1), .val (.ref a2), .val (.int p3), .val (.int z), .val .null, .unset] [(.ref bv)])
      have ne_a1_bv : a1 ≠ bv := Nat.ne_of_lt (Nat.lt_of_lt_of_le E_a1.lt sb17)
      have Dc17 := (CHr.keep K17 sf0 C0.1)
      have Sf_a1_17 := CHr.safe Dc17 E_a1.lt Sf0
      have C17 := C0.trans Dc17
      have hk17 := Nat.le_trans (Nat.le_refl _) Dc17.2.1
      have Z17 := Nat.le_trans Z0 K17.1
      have KK17 := (Keep.refl h0 [a1]).trans K17 all0
      refine own_step (fun _ k => XS.astore X17.here hx rfl (hb hby d2_39) rfl rfl (l' := #[.val (.ref a1), .val (.ref a2), .val (.int p3), .val (.int z), .val .null, .val (.ref bv)]) rfl k) ?_
      show own_Go _ _ _ _ T17 (mkF m 41 #[.val (.ref a1), .val (.ref a2), .val (.int p3), .val (.int z), .val .null, .val (.ref bv)] [])
      refine own_step (fun _ k => XS.aloadN X17.here hx rfl (hb hby d2_41) rfl rfl k) ?_
      show own_Go _ _ _ _ T17 (mkF m 42 #[.val (.ref a1), .val (.ref a2), .val (.int p3), .val (.int z), .val .null, .val (.ref bv)] [(.ref a1)])
      refine own_step (fun _ k => XS.aload X17.here hx rfl (hb hby d2_42) rfl rfl k) ?_
      show own_Go _ _ _ _ T17 (mkF m 44 #[.val (.ref a1), .val (.ref a2), .val (.int p3), .val (.int z), .val .null, .val (.ref bv)] [(.ref bv), (.ref a1)])
      refine own_step (fun _ k => XS.iloadN X17.here hx rfl (hb hby d2_44) rfl k) ?_
      show own_Go _ _ _ _ T17 (mkF m 45 #[.val (.ref a1), .val (.ref a2), .val (.int p3), .val (.int z), .val .null, .val (.ref bv)] [(.int z), (.ref bv), (.ref a1)])
      refine own_callS X17 hx hZ (y := (⟨"java/lang/StringUTF16", "coderFromArrayLen", "([BI)B"⟩ : MethodName)) hown (hw _ (List.mem_of_getElem? (i := 49) rfl)) (hw _ (List.mem_of_getElem? (i := 50) rfl)) (hw _ (List.mem_of_getElem? (i := 44) rfl)) (hw _ (List.mem_of_getElem? (i := 51) rfl)) (by decide) (rm9 l Z a0 hw [] bv z kv _ T17.heap n0 Z17 V17) rfl 1 (by decide) (by decide) (by decide) (by decide) (g := (mkF m 45 #[.val (.ref a1), .val (.ref a2), .val (.int p3), .val (.int z), .val .null, .val (.ref bv)] [(.int z), (.ref bv), (.ref a1)])) rfl (by rw [hml]; rfl) [(.ref bv), (.int z)] [(.ref a1)] pd_12 rfl rfl rfl (by show 2 * 0 + _ ≤ _; exact Nat.le_of_eq rfl) (hb hby d2_45) ?_
      rintro v18 T18 L18 X18 ⟨rfl, Nq18, e18⟩
      have N18 := Fr.app N17 Nq18
      show own_Go _ _ _ _ T18 (mkF m 48 #[.val (.ref a1), .val (.ref a2), .val (.int p3), .val (.int z), .val .null, .val (.ref bv)] [(.int (0 : Int32)), (.ref a1)])
      have Q19 := (FC_a1.keep K17 nin0)
      have Q20 := (E_a1.keep K17)
      obtain ⟨T21, h21, X21, e21, W21, st21⟩ := putFN X18 hx hZ hown (hw _ (List.mem_of_getElem? (i := 22) rfl)) Via.refl e18 Q19 Q20 (Or.inr ⟨(hw _ (List.mem_of_getElem? (i := 18) rfl)), rfl, hnm⟩) (hw _ (List.mem_of_getElem? (i := 2) rfl)) (ty := .byte) (v' := (.int (0 : Int32))) (by decide) rfl (fits_nar_byte (0 : Int32)) (g := (mkF m 48 #[.val (.ref a1), .val (.ref a2), .val (.int p3), .val (.int z), .val .null, .val (.ref bv)] [(.int (0 : Int32)), (.ref a1)])) rfl rfl (hb hby d2_48)
      refine own_step st21 ?_
      have N21 := Fr.snoc X21 N18 g_a1
      have F21 := Q19.same W21
      have Dc21 := (CHr.wr W21 Sf_a1_17 C17.1)
      have Sf_a1_21 := CHr.safe Dc21 Q20.lt Sf_a1_17
      have C21 := C17.trans Dc21
      have hk21 := Nat.le_trans hk17 Dc21.2.1
      have Z21 := Nat.le_trans Z17 (Keep.of_wr W21).1
      have KK21 := KK17.wr W21 (Or.inl (List.mem_of_getElem? (i := 0) rfl))
      show own_Go _ _ _ _ T21 (mkF m 51 #[.val (.ref a1), .val (.ref a2), .val (.int p3), .val (.int z), .val .null, .val (.ref bv)] [])
      refine own_step (fun _ k => XS.aloadN X21.here hx rfl (hb hby d2_51) rfl rfl k) ?_
      show own_Go _ _ _ _ T21 (mkF m 52 #[.val (.ref a1), .val (.ref a2), .val (.int p3), .val (.int z), .val .null, .val (.ref bv)] [(.ref a1)])
      refine own_step (fun _ k => XS.aload X21.here hx rfl (hb hby d2_52) rfl rfl k) ?_
      show own_Go _ _ _ _ T21 (mkF m 54 #[.val (.ref a1), .val (.ref a2), .val (.int p3), .val (.int z), .val .null, .val (.ref bv)] [(.ref bv), (.ref a1)])
      have Q22 := ((FV_a1.keep K17 nin0).other W21 (Or.inr (slot_ne (Or.inr (hw _ (List.mem_of_getElem? (i := 17) rfl))) (Or.inr (hw _ (List.mem_of_getElem? (i := 18) rfl))) (by decide) (t := (.array .byte)) (t' := .byte) (by decide) (by decide))))
      have Q23 := (Q20.wr W21)
      obtain ⟨T24, h24, X24, e24, W24, st24⟩ := putF X21 hx hZ hown (host := "") (Or.inl (hw _ (List.mem_of_getElem? (i := 21) rfl))) Via.refl e21 Q22 Q23 (Or.inr ⟨(hw _ (List.mem_of_getElem? (i := 17) rfl)), rfl, hnm⟩) (hw _ (List.mem_of_getElem? (i := 2) rfl)) (ty := (.array .byte)) (by decide) rfl rfl (g := (mkF m 54 #[.val (.ref a1), .val (.ref a2), .val (.int p3), .val (.int z), .val .null, .val (.ref bv)] [(.ref bv), (.ref a1)])) rfl rfl (hb hby d2_54)
      refine own_step st24 ?_
      have N24 := Fr.snoc X24 N21 g_a1
      have F24 := Q22.same W24
      have Dc24 := (CHr.wr W24 Sf_a1_21 C21.1)
      have Sf_a1_24 := CHr.safe Dc24 Q23.lt Sf_a1_21
      have C24 := C21.trans Dc24
      have hk24 := Nat.le_trans hk21 Dc24.2.1
      have Z24 := Nat.le_trans Z21 (Keep.of_wr W24).1
      have KK24 := KK21.wr W24 (Or.inl (List.mem_of_getElem? (i := 0) rfl))
      show own_Go _ _ _ _ T24 (mkF m 57 #[.val (.ref a1), .val (.ref a2), .val (.int p3), .val (.int z), .val .null, .val (.ref bv)] [])
      have Q25 := (Q23.wr W24)
      have Q26 := (F21.other W24 (Or.inr (slot_ne (Or.inr (hw _ (List.mem_of_getElem? (i := 18) rfl))) (Or.inr (hw _ (List.mem_of_getElem? (i := 17) rfl))) (by decide) (t := .byte) (t' := (.array .byte)) (by decide) (by decide))))
      have Q27 := ((V17.other W21 (Ne.symm ne_a1_bv)).other W24 (Ne.symm ne_a1_bv))
      exact own_retV X24 hx hret hlk (hb hby d2_57) (own_W X24 hS0 hk24 e24 eS hZ hEL C24 (by rw [e24]; exact ⟨rfl, N24, KK24, hl, hcap3, hch, Q25, bv, kv, F24, Or.inl ⟨Q26, Q27, hlat⟩⟩) (by decide) (by decide)) 
    · skip
      obtain ⟨T28, X28, e28, st28⟩ := getS2 X1 hx hZ hown (host := "") (Or.inl (hw _ (List.mem_of_getElem? (i := 41) rfl))) Via.refl e1 (SC.ext O0.2) (g := (mkF m 27 #[.val (.ref a1), .val (.ref a2), .val (.int p3), .val (.int z), .val .null, .unset] [])) rfl (hb hby d2_27)
      refine own_step st28 ?_
      show own_Go _ _ _ _ T28 (mkF m 30 #[.val (.ref a1), .val (.ref a2), .val (.int p3), .val (.int z), .val .null, .unset] [(.int cz)])
      refine own_step (fun _ k => XS.ifNo X28.here hx rfl (hb hby d2_30) rfl ((if0 _ _).trans (feq hcz).1) k) ?_
      show own_Go _ _ _ _ T28 (mkF m 33 #[.val (.ref a1), .val (.ref a2), .val (.int p3), .val (.int z), .val .null, .unset] [])
      refine own_step (fun _ k => XS.aloadN X28.here hx rfl (hb hby d2_33) rfl rfl k) ?_
      show own_Go _ _ _ _ T28 (mkF m 34 #[.val (.ref a1), .val (.ref a2), .val (.int p3), .val (.int z), .val .null, .unset] [(.ref a2)])
      refine own_step (fun _ k => XS.iloadN X28.here hx rfl (hb hby d2_34) rfl k) ?_
      show own_Go _ _ _ _ T28 (mkF m 35 #[.val (.ref a1), .val (.ref a2), .val (.int p3), .val (.int z), .val .null, .unset] [(.int p3), (.ref a2)])
      refine own_step (fun _ k => XS.iloadN X28.here hx rfl (hb hby d2_35) rfl k) ?_
      show own_Go _ _ _ _ T28 (mkF m 36 #[.val (.ref a1), .val (.ref a2), .val (.int p3), .val (.int z), .val .null, .unset] [(.int z), (.int p3), (.ref a2)])
      refine own_callS X28 hx hZ (y := (⟨"java/lang/StringUTF16", "compress", "([CII)[B"⟩ : MethodName)) hown (hw _ (List.mem_of_getElem? (i := 42) rfl)) (hw _ (List.mem_of_getElem? (i := 43) rfl)) (hw _ (List.mem_of_getElem? (i := 44) rfl)) (hw _ (List.mem_of_getElem? (i := 45) rfl)) (by decide) (rm7_u l Z a0 hw [] a2 p3 z kc cs t h0 n0 Z0 O0 SA SH SL VA hl hcap hch (by rw [hp3]; rfl) htl hle hgt) e28 0 (by decide) (by decide) (by decide) (by decide) (g := (mkF m 36 #[.val (.ref a1), .val (.ref a2), .val (.int p3), .val (.int z), .val .null, .unset] [(.int z), (.int p3), (.ref a2)])) rfl (by rw [hml]; rfl) [(.ref a2), (.int p3), (.int z)] [] pd_11 rfl rfl rfl (by show 2 * 0 + _ ≤ _; exact Nat.le_of_eq rfl) (hb hby d2_36) ?_
      rintro v29 T29 L29 X29 ⟨bv, kv, rfl, Nq29, K29, g_bv, sb29, V29⟩
      have N29 := Fr.app N0 Nq29
      show own_Go _ _ _ _ T29 (mkF m 39 #[.val (.ref a1), .val (.ref a2), .val (.int p3), .val (.int z), .val .null, .unset] [(.ref bv)])
      have ne_a1_bv : a1 ≠ bv := Nat.ne_of_lt (Nat.lt_of_lt_of_le E_a1.lt sb29)
      have Dc29 := (CHr.keep K29 sf0 C0.1)
      have Sf_a1_29 := CHr.safe Dc29 E_a1.lt Sf0
      have C29 := C0.trans Dc29
      have hk29 := Nat.le_trans (Nat.le_refl _) Dc29.2.1
      have Z29 := Nat.le_trans Z0 K29.1
      have KK29 := (Keep.refl h0 [a1]).trans K29 all0
      refine own_step (fun _ k => XS.astore X29.here hx rfl (hb hby d2_39) rfl rfl (l' := #[.val (.ref a1), .val (.ref a2), .val (.int p3), .val (.int z), .val .null, .val (.ref bv)]) rfl k) ?_
      show own_Go _ _ _ _ T29 (mkF m 41 #[.val (.ref a1), .val (.ref a2), .val (.int p3), .val (.int z), .val .null, .val (.ref bv)] [])
      refine own_step (fun _ k => XS.aloadN X29.here hx rfl (hb hby d2_41) rfl rfl k) ?_
      show own_Go _ _ _ _ T29 (mkF m 42 #[.val (.ref a1), .val (.ref a2), .val (.int p3), .val (.int z), .val .null, .val (.ref bv)] [(.ref a1)])
      refine own_step (fun _ k => XS.aload X29.here hx rfl (hb hby d2_42) rfl rfl k) ?_
      show own_Go _ _ _ _ T29 (mkF m 44 #[.val (.ref a1), .val (.ref a2), .val (.int p3), .val (.int z), .val .null, .val (.ref bv)] [(.ref bv), (.ref a1)])
      refine own_step (fun _ k => XS.iloadN X29.here hx rfl (hb hby d2_44) rfl k) ?_
      show own_Go _ _ _ _ T29 (mkF m 45 #[.val (.ref a1), .val (.ref a2), .val (.int p3), .val (.int z), .val .null, .val (.ref bv)] [(.int z), (.ref bv), (.ref a1)])
      refine own_callS X29 hx hZ (y := (⟨"java/lang/StringUTF16", "coderFromArrayLen", "([BI)B"⟩ : MethodName)) hown (hw _ (List.mem_of_getElem? (i := 49) rfl)) (hw _ (List.mem_of_getElem? (i := 50) rfl)) (hw _ (List.mem_of_getElem? (i := 44) rfl)) (hw _ (List.mem_of_getElem? (i := 51) rfl)) (by decide) (rm9_u l Z a0 hw [] bv z kv _ cs.length T29.heap n0 Z29 V29 hl (by omega) hcap) rfl 1 (by decide) (by decide) (by decide) (by decide) (g := (mkF m 45 #[.val (.ref a1), .val (.ref a2), .val (.int p3), .val (.int z), .val .null, .val (.ref bv)] [(.int z), (.ref bv), (.ref a1)])) rfl (by rw [hml]; rfl) [(.ref bv), (.int z)] [(.ref a1)] pd_12 rfl rfl rfl (by show 2 * 0 + _ ≤ _; exact Nat.le_of_eq rfl) (hb hby d2_45) ?_
      rintro v30 T30 L30 X30 ⟨rfl, Nq30, e30⟩
      have N30 := Fr.app N29 Nq30
      show own_Go _ _ _ _ T30 (mkF m 48 #[.val (.ref a1), .val (.ref a2), .val (.int p3), .val (.int z), .val .null, .val (.ref bv)] [(.int (1 : Int32)), (.ref a1)])
      have Q31 := (FC_a1.keep K29 nin0)
      have Q32 := (E_a1.keep K29)
      obtain ⟨T33, h33, X33, e33, W33, st33⟩ := putFN X30 hx hZ hown (hw _ (List.mem_of_getElem? (i := 22) rfl)) Via.refl e30 Q31 Q32 (Or.inr ⟨(hw _ (List.mem_of_getElem? (i := 18) rfl)), rfl, hnm⟩) (hw _ (List.mem_of_getElem? (i := 2) rfl)) (ty := .byte) (v' := (.int (1 : Int32))) (by decide) rfl (fits_nar_byte (1 : Int32)) (g := (mkF m 48 #[.val (.ref a1), .val (.ref a2), .val (.int p3), .val (.int z), .val .null, .val (.ref bv)] [(.int (1 : Int32)), (.ref a1)])) rfl rfl (hb hby d2_48)
      refine own_step st33 ?_
      have N33 := Fr.snoc X33 N30 g_a1
      have F33 := Q31.same W33
      have Dc33 := (CHr.wr W33 Sf_a1_29 C29.1)
      have Sf_a1_33 := CHr.safe Dc33 Q32.lt Sf_a1_29
      have C33 := C29.trans Dc33
      have hk33 := Nat.le_trans hk29 Dc33.2.1
      have Z33 := Nat.le_trans Z29 (Keep.of_wr W33).1
      have KK33 := KK29.wr W33 (Or.inl (List.mem_of_getElem? (i := 0) rfl))
      show own_Go _ _ _ _ T33 (mkF m 51 #[.val (.ref a1), .val (.ref a2), .val (.int p3), .val (.int z), .val .null, .val (.ref bv)] [])
      refine own_step (fun _ k => XS.aloadN X33.here hx rfl (hb hby d2_51) rfl rfl k) ?_
      show own_Go _ _ _ _ T33 (mkF m 52 #[.val (.ref a1), .val (.ref a2), .val (.int p3), .val (.int z), .val .null, .val (.ref bv)] [(.ref a1)])
      refine own_step (fun _ k => XS.aload X33.here hx rfl (hb hby d2_52) rfl rfl k) ?_
      show own_Go _ _ _ _ T33 (mkF m 54 #[.val (.ref a1), .val (.ref a2), .val (.int p3), .val (.int z), .val .null, .val (.ref bv)] [(.ref bv), (.ref a1)])
      have Q34 := ((FV_a1.keep K29 nin0).other W33 (Or.inr (slot_ne (Or.inr (hw _ (List.mem_of_getElem? (i := 17) rfl))) (Or.inr (hw _ (List.mem_of_getElem? (i := 18) rfl))) (by decide) (t := (.array .byte)) (t' := .byte) (by decide) (by decide))))
      have Q35 := (Q32.wr W33)
      obtain ⟨T36, h36, X36, e36, W36, st36⟩ := putF X33 hx hZ hown (host := "") (Or.inl (hw _ (List.mem_of_getElem? (i := 21) rfl))) Via.refl e33 Q34 Q35 (Or.inr ⟨(hw _ (List.mem_of_getElem? (i := 17) rfl)), rfl, hnm⟩) (hw _ (List.mem_of_getElem? (i := 2) rfl)) (ty := (.array .byte)) (by decide) rfl rfl (g := (mkF m 54 #[.val (.ref a1), .val (.ref a2), .val (.int p3), .val (.int z), .val .null, .val (.ref bv)] [(.ref bv), (.ref a1)])) rfl rfl (hb hby d2_54)
      refine own_step st36 ?_
      have N36 := Fr.snoc X36 N33 g_a1
      have F36 := Q34.same W36
      have Dc36 := (CHr.wr W36 Sf_a1_33 C33.1)
      have Sf_a1_36 := CHr.safe Dc36 Q35.lt Sf_a1_33
      have C36 := C33.trans Dc36
      have hk36 := Nat.le_trans hk33 Dc36.2.1
      have Z36 := Nat.le_trans Z33 (Keep.of_wr W36).1
      have KK36 := KK33.wr W36 (Or.inl (List.mem_of_getElem? (i := 0) rfl))
      show own_Go _ _ _ _ T36 (mkF m 57 #[.val (.ref a1), .val (.ref a2), .val (.int p3), .val (.int z), .val .null, .val (.ref bv)] [])
      have Q37 := (Q35.wr W36)
      have Q38 := (F33.other W36 (Or.inr (slot_ne (Or.inr (hw _ (List.mem_of_getElem? (i := 18) rfl))) (Or.inr (hw _ (List.mem_of_getElem? (i := 17) rfl))) (by decide) (t := .byte) (t' := (.array .byte)) (by decide) (by decide))))
      have Q39 := ((V29.other W33 (Ne.symm ne_a1_bv)).other W36 (Ne.symm ne_a1_bv))
      exact own_retV X36 hx hret hlk (hb hby d2_57) (own_W X36 hS0 hk36 e36 eS hZ hEL C36 (by rw [e36]; exact ⟨rfl, N36, KK36, hl, hcap, hch, Q37, bv, kv, F36, Or.inr ⟨Q38, Q39⟩⟩) (by decide) (by decide)) 
theorem d1_0 : decode jdk_42_method_3_code 0 = .ok (.aload_n 0, 1) := by decide +kernel
theorem d1_1 : decode jdk_42_method_3_code 1 = .ok (.aload_n 1, 1) := by decide +kernel
theorem d1_2 : decode jdk_42_method_3_code 2 = .ok (.iconst 0, 1) := by decide +kernel
theorem d1_3 : decode jdk_42_method_3_code 3 = .ok (.aload_n 1, 1) := by decide +kernel
theorem d1_4 : decode jdk_42_method_3_code 4 = .ok (.arraylength, 1) := by decide +kernel
theorem d1_5 : decode jdk_42_method_3_code 5 = .ok (.aconst_null, 1) := by decide +kernel
theorem d1_6 : decode jdk_42_method_3_code 6 = .ok (.invokespecial 27, 3) := by decide +kernel
theorem d1_9 : decode jdk_42_method_3_code 9 = .ok (.return_, 1) := by decide +kernel
theorem ef_1 (a1 : Addr) (a2 : Addr) (m : MethodId) : entryFrame m #[(.ref a1), (.ref a2)] 2 = mkF m 0 #[.val (.ref a1), .val (.ref a2)] [] := by first | (simp [entryFrame, mkF, argsToLocals, Value.category]; done) | rfl
theorem pd_13 : parseMethodDescriptor "([CIILjava/lang/Void;)V" = some ⟨[(.array .char), .int, .int, (.object "java/lang/Void")], none⟩ := by decide +kernel
set_option maxRecDepth 65536 in
set_option maxHeartbeats 40000000 in
theorem rm1 (l : Launch) (Z : State) (a0 : Array Value) (hw : ∀ d ∈ tables_1, d.before a0 Z = true) (ws : List Jvm.Cond) (a1 : Addr) (a2 : Addr) (kc : ClassId) (cz : Int32) (z : Int32) (cs : List Int32) (h0 : Heap) (n0 : Nat) (Z0 : n0 ≤ h0.size) (hEL : EW Z a0 own_EL) (O0 : Old Z n0 h0) (SC : Sta Z Z.heap "java/lang/String" "COMPACT_STRINGS" "Z" (.int cz)) (hcz : ¬ cz = (0 : Int32)) (SA : Sta Z Z.heap "java/lang/StringUTF16" "$assertionsDisabled" "Z" (.int (1 : Int32))) (SH : Sta Z Z.heap "java/lang/StringUTF16" "HI_BYTE_SHIFT" "I" (.int (0 : Int32))) (SL : Sta Z Z.heap "java/lang/StringUTF16" "LO_BYTE_SHIFT" "I" (.int (8 : Int32))) (E_a1 : Exa Z h0 a1 "java/lang/String") (FC_a1 : Fld Z h0 a1 "java/lang/String" "coder" "B" (.int (0 : Int32))) (FV_a1 : Fld Z h0 a1 "java/lang/String" "value" "[B" .null) (VA : Arv Z h0 a2 kc .char z (cs.map Value.int) (.int (0 : Int32))) (hl : z.toInt = (cs.length : Nat)) (hcap : cs.length ≤ 3) (hch : (∀ t, 0 ≤ (cs.getD t (0 : Int32)).toInt ∧ (cs.getD t (0 : Int32)).toInt ≤ 65535)) (g_a1 : n0 ≤ a1) :
    own_MetW l (⟨"java/lang/String", "<init>", "([C)V"⟩ : MethodName) jdk_42_method_3_code 2 none ws ({ frames := 5, cells := 4, slots := 9, locals := 74 } : Room) #[(.ref a1), (.ref a2)] Z own_EL h0 (fun v h L => v = none ∧ Fr n0 L ∧ Keep h0 h [a1] ∧ own_Str Z h a1 z cs) := by
  refine own_bodyW (plainFor_of_name pn_0) (ef_1 a1 a2) ?_
  intro p e s m below meth c T0 X0 hx hby hml0 hret hlk hnm hown hZ e0 eS H0 hS0
  have C0 := CHr.refl H0
  have hml : c.maxLocals = 2 := hml0
  have N0 := Fr.nil n0
  have ne_a1_a2 : a1 ≠ a2 := Exa.neArv E_a1 VA (hw _ (List.mem_of_getElem? (i := 2) rfl))
  refine own_step (fun _ k => XS.aloadN X0.here hx rfl (hb hby d1_0) rfl rfl k) ?_
  show own_Go _ _ _ _ T0 (mkF m 1 #[.val (.ref a1), .val (.ref a2)] [(.ref a1)])
  refine own_step (fun _ k => XS.aloadN X0.here hx rfl (hb hby d1_1) rfl rfl k) ?_
  show own_Go _ _ _ _ T0 (mkF m 2 #[.val (.ref a1), .val (.ref a2)] [(.ref a2), (.ref a1)])
  refine own_step (fun _ k => XS.iconst X0.here hx rfl (hb hby d1_2) k) ?_
  show own_Go _ _ _ _ T0 (mkF m 3 #[.val (.ref a1), .val (.ref a2)] [(.int (0 : Int32)), (.ref a2), (.ref a1)])
  refine own_step (fun _ k => XS.aloadN X0.here hx rfl (hb hby d1_3) rfl rfl k) ?_
  show own_Go _ _ _ _ T0 (mkF m 4 #[.val (.ref a1), .val (.ref a2)] [(.ref a2), (.int (0 : Int32)), (.ref a2), (.ref a1)])
  refine own_step (own_len X0 hx hZ e0 VA (g := (mkF m 4 #[.val (.ref a1), .val (.ref a2)] [(.ref a2), (.int (0 : Int32)), (.ref a2), (.ref a1)])) rfl rfl (hb hby d1_4)) ?_
  show own_Go _ _ _ _ T0 (mkF m 5 #[.val (.ref a1), .val (.ref a2)] [(.int z), (.int (0 : Int32)), (.ref a2), (.ref a1)])
  refine own_step (fun _ k => XS.aconstNull X0.here hx rfl (hb hby d1_5) k) ?_
  show own_Go _ _ _ _ T0 (mkF m 6 #[.val (.ref a1), .val (.ref a2)] [.null, (.int z), (.int (0 : Int32)), (.ref a2), (.ref a1)])
  refine own_callCW X0 hx hZ (y := (⟨"java/lang/String", "<init>", "([CIILjava/lang/Void;)V"⟩ : MethodName)) rfl hown (hw _ (List.mem_of_getElem? (i := 8) rfl)) (hw _ (List.mem_of_getElem? (i := 9) rfl)) (hw _ (List.mem_of_getElem? (i := 3) rfl)) (hw _ (List.mem_of_getElem? (i := 11) rfl)) (by decide) (rm2 l Z a0 hw [] a1 a2 (0 : Int32) z kc cz cs h0 n0 Z0 hEL O0 SC hcz SA SH SL E_a1 FC_a1 FV_a1 VA hl hcap hch g_a1 rfl) e0 hEL C0.1 hS0 (Nat.le_refl _) (b := a1) 0 (by decide) (by decide) (by decide) (by decide) (g := (mkF m 6 #[.val (.ref a1), .val (.ref a2)] [.null, (.int z), (.int (0 : Int32)), (.ref a2), (.ref a1)])) rfl (by rw [hml]; rfl) [(.ref a2), (.int (0 : Int32)), (.int z), .null] [] pd_13 rfl rfl rfl (by show 2 * 0 + _ ≤ _; exact Nat.le_of_eq rfl) (hb hby d1_6) ?_
  rintro v1 T1 L1 X1 ⟨rfl, Nq1, K1, HS1⟩ D1 hS1 hZ hown
  have N1 := Fr.app N0 Nq1
  show own_Go _ _ _ _ T1 (mkF m 9 #[.val (.ref a1), .val (.ref a2)] [])
  have Dc1 := D1
  have C1 := C0.trans Dc1
  have Z1 := Nat.le_trans Z0 K1.1
  have KK1 := (Keep.refl h0 [a1]).trans K1 (allS (P := fun x => x ∈ [a1] ∨ h0.size ≤ x) (Or.inl (List.mem_of_getElem? (i := 0) rfl)) all0)
  exact own_retV X1 hx hret hlk (hb hby d1_9) (own_W X1 hS1 (Nat.le_refl _) rfl eS hZ hEL C1 (by exact ⟨rfl, N1, KK1, HS1⟩) (by decide) (by decide)) 
theorem d4_0 : decode prog_58_method_4_code 0 = .ok (.aload_n 0, 1) := by decide +kernel
theorem d4_1 : decode prog_58_method_4_code 1 = .ok (.invokeinterface 7 1, 5) := by decide +kernel
theorem d4_6 : decode prog_58_method_4_code 6 = .ok (.ifCond .ne 5, 3) := by decide +kernel
theorem d4_9 : decode prog_58_method_4_code 9 = .ok (.iconst 0, 1) := by decide +kernel
theorem d4_10 : decode prog_58_method_4_code 10 = .ok (.ireturn, 1) := by decide +kernel
theorem d4_11 : decode prog_58_method_4_code 11 = .ok (.iconst 0, 1) := by decide +kernel
theorem d4_12 : decode prog_58_method_4_code 12 = .ok (.istore_n 1, 1) := by decide +kernel
theorem d4_13 : decode prog_58_method_4_code 13 = .ok (.iload_n 1, 1) := by decide +kernel
theorem d4_14 : decode prog_58_method_4_code 14 = .ok (.aload_n 0, 1) := by decide +kernel
theorem d4_15 : decode prog_58_method_4_code 15 = .ok (.invokeinterface 7 1, 5) := by decide +kernel
theorem d4_20 : decode prog_58_method_4_code 20 = .ok (.if_icmp .ge 31, 3) := by decide +kernel
theorem d4_23 : decode prog_58_method_4_code 23 = .ok (.aload_n 0, 1) := by decide +kernel
theorem d4_24 : decode prog_58_method_4_code 24 = .ok (.iload_n 1, 1) := by decide +kernel
theorem d4_25 : decode prog_58_method_4_code 25 = .ok (.invokeinterface 19 2, 5) := by decide +kernel
theorem d4_30 : decode prog_58_method_4_code 30 = .ok (.istore_n 2, 1) := by decide +kernel
theorem d4_31 : decode prog_58_method_4_code 31 = .ok (.iload_n 2, 1) := by decide +kernel
theorem d4_32 : decode prog_58_method_4_code 32 = .ok (.bipush 32, 2) := by decide +kernel
theorem d4_34 : decode prog_58_method_4_code 34 = .ok (.if_icmp .le 9, 3) := by decide +kernel
theorem d4_37 : decode prog_58_method_4_code 37 = .ok (.iload_n 2, 1) := by decide +kernel
theorem d4_38 : decode prog_58_method_4_code 38 = .ok (.bipush 127, 2) := by decide +kernel
theorem d4_40 : decode prog_58_method_4_code 40 = .ok (.if_icmp .lt 5, 3) := by decide +kernel
theorem d4_43 : decode prog_58_method_4_code 43 = .ok (.iconst 0, 1) := by decide +kernel
theorem d4_44 : decode prog_58_method_4_code 44 = .ok (.ireturn, 1) := by decide +kernel
theorem d4_45 : decode prog_58_method_4_code 45 = .ok (.iinc 1 1, 3) := by decide +kernel
theorem d4_48 : decode prog_58_method_4_code 48 = .ok (.goto (-35), 3) := by decide +kernel
theorem d4_51 : decode prog_58_method_4_code 51 = .ok (.iconst 1, 1) := by decide +kernel
theorem d4_52 : decode prog_58_method_4_code 52 = .ok (.ireturn, 1) := by decide +kernel
theorem ef_4 (a1 : Addr) (m : MethodId) : entryFrame m #[(.ref a1)] 3 = mkF m 0 #[.val (.ref a1), .unset, .unset] [] := by first | (simp [entryFrame, mkF, argsToLocals, Value.category]; done) | rfl
theorem pd_14 : parseMethodDescriptor "()I" = some ⟨[], some .int⟩ := by decide +kernel
theorem pd_15 : parseMethodDescriptor "(I)C" = some ⟨[.int], some .char⟩ := by decide +kernel
theorem pn_5 : plainName "com/example/stoa/stoa/http/HttpSyntax" = true := by first | (simp [plainName, overriddenIn]; done) | decide +kernel
set_option maxRecDepth 65536 in
set_option maxHeartbeats 40000000 in
theorem rm4 (l : Launch) (Z : State) (a0 : Array Value) (hw : ∀ d ∈ tables_1, d.before a0 Z = true) (ws : List Jvm.Cond) (a1 : Addr) (cz : Int32) (fv : Value) (z : Int32) (cs : List Int32) (h0 : Heap) (n0 : Nat) (Z0 : n0 ≤ h0.size) (O0 : Old Z n0 h0) (SC : Sta Z Z.heap "java/lang/String" "COMPACT_STRINGS" "Z" (.int cz)) (hcz : ¬ cz = (0 : Int32)) (SF : Sta Z Z.heap "jdk/internal/util/Preconditions" "SIOOBE_FORMATTER" "Ljava/util/function/BiFunction;" fv) (hfv : fv.isRef = true) (SA : Sta Z Z.heap "java/lang/StringUTF16" "$assertionsDisabled" "Z" (.int (1 : Int32))) (SH : Sta Z Z.heap "java/lang/StringUTF16" "HI_BYTE_SHIFT" "I" (.int (0 : Int32))) (SL : Sta Z Z.heap "java/lang/StringUTF16" "LO_BYTE_SHIFT" "I" (.int (8 : Int32))) (H : own_Str Z h0 a1 z cs) :
    own_Met l (⟨"com/example/stoa/stoa/http/HttpSyntax", "isRequestTarget", "(Ljava/lang/CharSequence;)Z"⟩ : MethodName) prog_58_method_4_code 3 (some .boolean) ws ({ frames := 6, cells := 0, slots := 0, locals := 103 } : Room) #[(.ref a1)] Z h0 (fun v h L => v = some (.int (own_rt cs)) ∧ Fr n0 L ∧ h = h0) := by
  refine own_body (plainFor_of_name pn_5) (ef_4 a1) ?_
  intro p e s m below meth c T0 X0 hx hby hml0 hret hlk hnm hown hZ e0
  have hml : c.maxLocals = 3 := hml0
  have N0 := Fr.nil n0
  have HE := H.2.2.2.1
  have hl := H.1
  have hcap := H.2.1
  have e_1 : (1 : Int32).toInt = (1 : Nat) := by decide
  refine own_step (fun _ k => XS.aloadN X0.here hx rfl (hb hby d4_0) rfl rfl k) ?_
  show own_Go _ _ _ _ T0 (mkF m 1 #[.val (.ref a1), .unset, .unset] [(.ref a1)])
  refine own_callI X0 hx hZ (xi := (⟨"java/lang/CharSequence", "length", "()I"⟩ : MethodName)) (y := (⟨"java/lang/String", "length", "()I"⟩ : MethodName)) hown (hw _ (List.mem_of_getElem? (i := 27) rfl)) (hw _ (List.mem_of_getElem? (i := 28) rfl)) (hw _ (List.mem_of_getElem? (i := 29) rfl)) (hw _ (List.mem_of_getElem? (i := 30) rfl)) (hw _ (List.mem_of_getElem? (i := 31) rfl)) (hw _ (List.mem_of_getElem? (i := 32) rfl)) (hw _ (List.mem_of_getElem? (i := 33) rfl)) (hw _ (List.mem_of_getElem? (i := 34) rfl)) (hw _ (List.mem_of_getElem? (i := 3) rfl)) (hw _ (List.mem_of_getElem? (i := 35) rfl)) rfl (by decide) (rmLen l Z a0 hw [] a1 cz z cs h0 n0 Z0 O0 SC hcz H) e0 (b := a1) (C := "java/lang/String") HE 0 (by decide) (by decide) (by decide) (by decide) (g := (mkF m 1 #[.val (.ref a1), .unset, .unset] [(.ref a1)])) rfl (by rw [hml]; rfl) [] [] pd_14 rfl rfl rfl (by show 2 * 0 + _ ≤ _; exact Nat.le_of_eq rfl) (hb hby d4_1) ?_
  rintro v1 T1 L1 X1 ⟨rfl, Nq1, e1⟩
  have N1 := Fr.app N0 Nq1
  show own_Go _ _ _ _ T1 (mkF m 6 #[.val (.ref a1), .unset, .unset] [(.int z)])
  by_cases hz0 : z = (0 : Int32)
  · refine own_step (fun _ k => XS.ifNo X1.here hx rfl (hb hby d4_6) rfl ((if0 _ _).trans (teq hz0).2) k) ?_
    show own_Go _ _ _ _ T1 (mkF m 9 #[.val (.ref a1), .unset, .unset] [])
    have h0l : cs.length = 0 := by rw [hz0] at hl; have e0 : (0 : Int32).toInt = 0 := rfl; omega
    refine own_step (fun _ k => XS.iconst X1.here hx rfl (hb hby d4_9) k) ?_
    show own_Go _ _ _ _ T1 (mkF m 10 #[.val (.ref a1), .unset, .unset] [(.int (0 : Int32))])
    exact own_retN X1 hx (t := .boolean) hret (by simp) hlk (hb hby d4_10) rfl (own_N ⟨own_leafI (if_pos h0l), N1, e1⟩ (by decide) (by decide)) 
  · refine own_step (fun _ k => XS.ifYes X1.here hx rfl (pc0 := 6) (pc' := 11) rfl (hb hby d4_6) rfl ((if0 _ _).trans (feq hz0).2) (by decide) (by decide) k) ?_
    show own_Go _ _ _ _ T1 (mkF m 11 #[.val (.ref a1), .unset, .unset] [])
    have hn0 : ¬ cs.length = 0 := fun q => hz0 (Int32.toInt_inj.mp (by rw [hl, q]; rfl))
    refine own_step (fun _ k => XS.iconst X1.here hx rfl (hb hby d4_11) k) ?_
    show own_Go _ _ _ _ T1 (mkF m 12 #[.val (.ref a1), .unset, .unset] [(.int (0 : Int32))])
    refine own_step (fun _ k => XS.istoreN X1.here hx rfl (hb hby d4_12) rfl (l' := #[.val (.ref a1), .val (.int (0 : Int32)), .unset]) rfl k) ?_
    show own_Go _ _ _ _ T1 (mkF m 13 #[.val (.ref a1), .val (.int (0 : Int32)), .unset] [])
    have loop : ∀ (k j : Nat) (i : Int32) (s2 : Slot) (T : State) (locs : List Loc), Stand p l e ({ frames := 6, cells := 0, slots := 0, locals := 103 } : Room) s m #[(.ref a1)] below meth c T locs 0 0 → T.heap = h0 → Fr n0 locs → j + k = cs.length → i.toInt = (j : Nat) → own_all cs = own_all (cs.drop j) → (s2 = .unset ∨ ∃ w, s2 = .val w ∧ w.category = 1) → own_Go p e below (own_EndN below s (fun v h L => v = some (.int (own_rt cs)) ∧ Fr n0 L ∧ h = h0) ({ frames := 6, cells := 0, slots := 0, locals := 103 } : Room).cells ({ frames := 6, cells := 0, slots := 0, locals := 103 } : Room).slots) T (mkF m 13 #[.val (.ref a1), .val (.int i), s2] []) := by
      intro k
      induction k with
      | zero =>
        intro j i s2 T locs X e' N' hj hi ht h6
        have hc : ¬ i < z := fun q => by have := (own_lt hi hl).mp q; omega
        have hd : own_all cs = (1 : Int32) := by rw [ht, List.drop_eq_nil_of_le (by omega)]; rfl
        refine own_step (fun _ k => XS.iloadN X.here hx rfl (hb hby d4_13) rfl k) ?_
        show own_Go _ _ _ _ T (mkF m 14 #[.val (.ref a1), .val (.int i), s2] [(.int i)])
        refine own_step (fun _ k => XS.aloadN X.here hx rfl (hb hby d4_14) rfl rfl k) ?_
        show own_Go _ _ _ _ T (mkF m 15 #[.val (.ref a1), .val (.int i), s2] [(.ref a1), (.int i)])
        refine own_callI X hx hZ (xi := (⟨"java/lang/CharSequence", "length", "()I"⟩ : MethodName)) (y := (⟨"java/lang/String", "length", "()I"⟩ : MethodName)) hown (hw _ (List.mem_of_getElem? (i := 27) rfl)) (hw _ (List.mem_of_getElem? (i := 28) rfl)) (hw _ (List.mem_of_getElem? (i := 29) rfl)) (hw _ (List.mem_of_getElem? (i := 30) rfl)) (hw _ (List.mem_of_getElem? (i := 31) rfl)) (hw _ (List.mem_of_getElem? (i := 32) rfl)) (hw _ (List.mem_of_getElem? (i := 33) rfl)) (hw _ (List.mem_of_getElem? (i := 34) rfl)) (hw _ (List.mem_of_getElem? (i := 3) rfl)) (hw _ (List.mem_of_getElem? (i := 35) rfl)) rfl (by decide) (rmLen l Z a0 hw [] a1 cz z cs h0 n0 Z0 O0 SC hcz H) e' (b := a1) (C := "java/lang/String") HE 1 (by decide) (by decide) (by decide) (by decide) (g := (mkF m 15 #[.val (.ref a1), .val (.int i), s2] [(.ref a1), (.int i)])) rfl (by rw [hml]; rfl) [] [(.int i)] pd_14 rfl rfl rfl (by show 2 * 0 + _ ≤ _; exact Nat.le_of_eq rfl) (hb hby d4_15) ?_
        rintro v2 T2 L2 X2 ⟨rfl, Nq2, e2⟩
        have N2 := Fr.app N' Nq2
        show own_Go _ _ _ _ T2 (mkF m 20 #[.val (.ref a1), .val (.int i), s2] [(.int z), (.int i)])
        refine own_step (fun _ k => XS.icmpYes X2.here hx rfl (pc0 := 20) (pc' := 51) rfl (hb hby d4_20) rfl (flt hc).2.1 (by decide) (by decide) k) ?_
        show own_Go _ _ _ _ T2 (mkF m 51 #[.val (.ref a1), .val (.int i), s2] [])
        refine own_step (fun _ k => XS.iconst X2.here hx rfl (hb hby d4_51) k) ?_
        show own_Go _ _ _ _ T2 (mkF m 52 #[.val (.ref a1), .val (.int i), s2] [(.int (1 : Int32))])
        exact own_retN X2 hx (t := .boolean) hret (by simp) hlk (hb hby d4_52) rfl (own_N ⟨own_leafI ((if_neg hn0).trans hd), N2, e2⟩ (by decide) (by decide)) 
      | succ k ih =>
        intro j i s2 T locs X e' N' hj hi ht h6
        have hjl : j < cs.length := by omega
        have hc : i < z := (own_lt hi hl).mpr (by omega)
        rw [own_allS cs j hjl] at ht
        refine own_step (fun _ k => XS.iloadN X.here hx rfl (hb hby d4_13) rfl k) ?_
        show own_Go _ _ _ _ T (mkF m 14 #[.val (.ref a1), .val (.int i), s2] [(.int i)])
        refine own_step (fun _ k => XS.aloadN X.here hx rfl (hb hby d4_14) rfl rfl k) ?_
        show own_Go _ _ _ _ T (mkF m 15 #[.val (.ref a1), .val (.int i), s2] [(.ref a1), (.int i)])
        refine own_callI X hx hZ (xi := (⟨"java/lang/CharSequence", "length", "()I"⟩ : MethodName)) (y := (⟨"java/lang/String", "length", "()I"⟩ : MethodName)) hown (hw _ (List.mem_of_getElem? (i := 27) rfl)) (hw _ (List.mem_of_getElem? (i := 28) rfl)) (hw _ (List.mem_of_getElem? (i := 29) rfl)) (hw _ (List.mem_of_getElem? (i := 30) rfl)) (hw _ (List.mem_of_getElem? (i := 31) rfl)) (hw _ (List.mem_of_getElem? (i := 32) rfl)) (hw _ (List.mem_of_getElem? (i := 33) rfl)) (hw _ (List.mem_of_getElem? (i := 34) rfl)) (hw _ (List.mem_of_getElem? (i := 3) rfl)) (hw _ (List.mem_of_getElem? (i := 35) rfl)) rfl (by decide) (rmLen l Z a0 hw [] a1 cz z cs h0 n0 Z0 O0 SC hcz H) e' (b := a1) (C := "java/lang/String") HE 1 (by decide) (by decide) (by decide) (by decide) (g := (mkF m 15 #[.val (.ref a1), .val (.int i), s2] [(.ref a1), (.int i)])) rfl (by rw [hml]; rfl) [] [(.int i)] pd_14 rfl rfl rfl (by show 2 * 0 + _ ≤ _; exact Nat.le_of_eq rfl) (hb hby d4_15) ?_
        rintro v3 T3 L3 X3 ⟨rfl, Nq3, e3⟩
        have N3 := Fr.app N' Nq3
        show own_Go _ _ _ _ T3 (mkF m 20 #[.val (.ref a1), .val (.int i), s2] [(.int z), (.int i)])
        refine own_step (fun _ k => XS.icmpNo X3.here hx rfl (hb hby d4_20) rfl (tlt hc).2.1 k) ?_
        show own_Go _ _ _ _ T3 (mkF m 23 #[.val (.ref a1), .val (.int i), s2] [])
        refine own_step (fun _ k => XS.aloadN X3.here hx rfl (hb hby d4_23) rfl rfl k) ?_
        show own_Go _ _ _ _ T3 (mkF m 24 #[.val (.ref a1), .val (.int i), s2] [(.ref a1)])
        refine own_step (fun _ k => XS.iloadN X3.here hx rfl (hb hby d4_24) rfl k) ?_
        show own_Go _ _ _ _ T3 (mkF m 25 #[.val (.ref a1), .val (.int i), s2] [(.int i), (.ref a1)])
        refine own_callI X3 hx hZ (xi := (⟨"java/lang/CharSequence", "charAt", "(I)C"⟩ : MethodName)) (y := (⟨"java/lang/String", "charAt", "(I)C"⟩ : MethodName)) hown (hw _ (List.mem_of_getElem? (i := 56) rfl)) (hw _ (List.mem_of_getElem? (i := 57) rfl)) (hw _ (List.mem_of_getElem? (i := 58) rfl)) (hw _ (List.mem_of_getElem? (i := 59) rfl)) (hw _ (List.mem_of_getElem? (i := 60) rfl)) (hw _ (List.mem_of_getElem? (i := 61) rfl)) (hw _ (List.mem_of_getElem? (i := 62) rfl)) (hw _ (List.mem_of_getElem? (i := 34) rfl)) (hw _ (List.mem_of_getElem? (i := 3) rfl)) (hw _ (List.mem_of_getElem? (i := 63) rfl)) rfl (by decide) (rmChr l Z a0 hw [] a1 i cz fv z cs j h0 n0 Z0 O0 SC hcz SF hfv SA SH SL H hi hjl) e3 (b := a1) (C := "java/lang/String") HE 0 (by decide) (by decide) (by decide) (by decide) (g := (mkF m 25 #[.val (.ref a1), .val (.int i), s2] [(.int i), (.ref a1)])) rfl (by rw [hml]; rfl) [(.int i)] [] pd_15 rfl rfl rfl (by show 2 * 0 + _ ≤ _; exact Nat.le_of_eq rfl) (hb hby d4_25) ?_
        rintro v4 T4 L4 X4 ⟨rfl, Nq4, e4⟩
        have N4 := Fr.app N3 Nq4
        show own_Go _ _ _ _ T4 (mkF m 30 #[.val (.ref a1), .val (.int i), s2] [(.int (cs.getD j (0 : Int32)))])
        -- general slot
        refine own_step (fun _ k => XS.istoreN X4.here hx rfl (hb hby d4_30) rfl (l' := #[.val (.ref a1), .val (.int i), .val (.int (cs.getD j (0 : Int32)))]) (XS.store1 (o := s2) rfl h6 rfl) k) ?_
        show own_Go _ _ _ _ T4 (mkF m 31 #[.val (.ref a1), .val (.int i), .val (.int (cs.getD j (0 : Int32)))] [])
        refine own_step (fun _ k => XS.iloadN X4.here hx rfl (hb hby d4_31) rfl k) ?_
        show own_Go _ _ _ _ T4 (mkF m 32 #[.val (.ref a1), .val (.int i), .val (.int (cs.getD j (0 : Int32)))] [(.int (cs.getD j (0 : Int32)))])
        refine own_step (fun _ k => XS.bipush X4.here hx rfl (hb hby d4_32) k) ?_
        show own_Go _ _ _ _ T4 (mkF m 34 #[.val (.ref a1), .val (.int i), .val (.int (cs.getD j (0 : Int32)))] [(.int (32 : Int32)), (.int (cs.getD j (0 : Int32)))])
        by_cases hA : (32 : Int32) < (cs.getD j (0 : Int32))
        · refine own_step (fun _ k => XS.icmpNo X4.here hx rfl (hb hby d4_34) rfl (tlt hA).2.2.2 k) ?_
          show own_Go _ _ _ _ T4 (mkF m 37 #[.val (.ref a1), .val (.int i), .val (.int (cs.getD j (0 : Int32)))] [])
          refine own_step (fun _ k => XS.iloadN X4.here hx rfl (hb hby d4_37) rfl k) ?_
          show own_Go _ _ _ _ T4 (mkF m 38 #[.val (.ref a1), .val (.int i), .val (.int (cs.getD j (0 : Int32)))] [(.int (cs.getD j (0 : Int32)))])
          refine own_step (fun _ k => XS.bipush X4.here hx rfl (hb hby d4_38) k) ?_
          show own_Go _ _ _ _ T4 (mkF m 40 #[.val (.ref a1), .val (.int i), .val (.int (cs.getD j (0 : Int32)))] [(.int (127 : Int32)), (.int (cs.getD j (0 : Int32)))])
          by_cases hB : (cs.getD j (0 : Int32)) < (127 : Int32)
          · refine own_step (fun _ k => XS.icmpYes X4.here hx rfl (pc0 := 40) (pc' := 45) rfl (hb hby d4_40) rfl (tlt hB).1 (by decide) (by decide) k) ?_
            show own_Go _ _ _ _ T4 (mkF m 45 #[.val (.ref a1), .val (.int i), .val (.int (cs.getD j (0 : Int32)))] [])
            refine own_step (fun _ k => XS.iinc X4.here hx rfl (hb hby d4_45) rfl (l' := #[.val (.ref a1), .val (.int (i + (1 : Int32))), .val (.int (cs.getD j (0 : Int32)))]) rfl k) ?_
            show own_Go _ _ _ _ T4 (mkF m 48 #[.val (.ref a1), .val (.int (i + (1 : Int32))), .val (.int (cs.getD j (0 : Int32)))] [])
            refine own_step (fun _ k => XS.goto X4.here hx rfl (pc0 := 48) (pc' := 13) rfl (hb hby d4_48) (by decide) (by decide) k) ?_
            show own_Go _ _ _ _ T4 (mkF m 13 #[.val (.ref a1), .val (.int (i + (1 : Int32))), .val (.int (cs.getD j (0 : Int32)))] [])
            rw [if_pos hA, if_pos hB] at ht
            exact ih (j + 1) _ _ T4 _ (X4) e4 N4 (by omega) (own_add hi e_1 (by omega)) ht (Or.inr ⟨_, rfl, rfl⟩)
          · refine own_step (fun _ k => XS.icmpNo X4.here hx rfl (hb hby d4_40) rfl (flt hB).1 k) ?_
            show own_Go _ _ _ _ T4 (mkF m 43 #[.val (.ref a1), .val (.int i), .val (.int (cs.getD j (0 : Int32)))] [])
            rw [if_pos hA, if_neg hB] at ht
            refine own_step (fun _ k => XS.iconst X4.here hx rfl (hb hby d4_43) k) ?_
            show own_Go _ _ _ _ T4 (mkF m 44 #[.val (.ref a1), .val (.int i), .val (.int (cs.getD j (0 : Int32)))] [(.int (0 : Int32))])
            exact own_retN X4 hx (t := .boolean) hret (by simp) hlk (hb hby d4_44) rfl (own_N ⟨own_leafI ((if_neg hn0).trans ht), N4, e4⟩ (by decide) (by decide)) 
        · refine own_step (fun _ k => XS.icmpYes X4.here hx rfl (pc0 := 34) (pc' := 43) rfl (hb hby d4_34) rfl (flt hA).2.2.2 (by decide) (by decide) k) ?_
          show own_Go _ _ _ _ T4 (mkF m 43 #[.val (.ref a1), .val (.int i), .val (.int (cs.getD j (0 : Int32)))] [])
          rw [if_neg hA] at ht
          refine own_step (fun _ k => XS.iconst X4.here hx rfl (hb hby d4_43) k) ?_
          show own_Go _ _ _ _ T4 (mkF m 44 #[.val (.ref a1), .val (.int i), .val (.int (cs.getD j (0 : Int32)))] [(.int (0 : Int32))])
          exact own_retN X4 hx (t := .boolean) hret (by simp) hlk (hb hby d4_44) rfl (own_N ⟨own_leafI ((if_neg hn0).trans ht), N4, e4⟩ (by decide) (by decide)) 
    exact loop cs.length 0 (0 : Int32) .unset T1 _ X1 e1 N1 (by omega) rfl (by rw [List.drop_zero]) (Or.inl rfl)
theorem own_chb (cs : List Int32) (h : ∀ c ∈ cs, 0 ≤ c.toInt ∧ c.toInt ≤ 65535) : (∀ t, 0 ≤ (cs.getD t (0 : Int32)).toInt ∧ (cs.getD t (0 : Int32)).toInt ≤ 65535) := by
  induction cs with
  | nil => intro t; have e : ([] : List Int32).getD t (0 : Int32) = 0 := by simp
           rw [e]; decide
  | cons y r ih => intro t; cases t with
    | zero => exact h y (List.mem_cons_self ..)
    | succ t => exact ih (fun c hc => h c (List.mem_cons_of_mem _ hc)) t
theorem ef_0 (p1 : Int32) (p2 : Int32) (p3 : Int32) (p4 : Int32) (m : MethodId) : entryFrame m #[(.int p1), (.int p2), (.int p3), (.int p4)] maxLocals = mkF m 0 #[.val (.int p1), .val (.int p2), .val (.int p3), .val (.int p4), .unset, .unset, .unset, .unset, .unset, .unset] [] := by first | (simp [entryFrame, mkF, argsToLocals, Value.category, maxLocals]; done) | rfl
theorem pd_16 : parseMethodDescriptor "([C)V" = some ⟨[(.array .char)], none⟩ := by decide +kernel
theorem pd_17 : parseMethodDescriptor "(Ljava/lang/CharSequence;)Z" = some ⟨[(.object "java/lang/CharSequence")], some .boolean⟩ := by decide +kernel
theorem pd_18 : parseMethodDescriptor "(C)Z" = some ⟨[.char], some .boolean⟩ := by decide +kernel
set_option maxRecDepth 65536 in
set_option maxHeartbeats 40000000 in
theorem rm0 (l : Launch) (Z : State) (a0 : Array Value) (hw : ∀ d ∈ tables_1, d.before a0 Z = true) (ws : List Jvm.Cond) (p1 : Int32) (p2 : Int32) (p3 : Int32) (p4 : Int32) (cz : Int32) (fv : Value) (h0 : Heap) (n0 : Nat) (Z0 : n0 ≤ h0.size) (hEL : EW Z a0 own_EL) (O0 : Old Z n0 h0) (SC : Sta Z Z.heap "java/lang/String" "COMPACT_STRINGS" "Z" (.int cz)) (hcz : ¬ cz = (0 : Int32)) (SF : Sta Z Z.heap "jdk/internal/util/Preconditions" "SIOOBE_FORMATTER" "Ljava/util/function/BiFunction;" fv) (hfv : fv.isRef = true) (SA : Sta Z Z.heap "java/lang/StringUTF16" "$assertionsDisabled" "Z" (.int (1 : Int32))) (SH : Sta Z Z.heap "java/lang/StringUTF16" "HI_BYTE_SHIFT" "I" (.int (0 : Int32))) (SL : Sta Z Z.heap "java/lang/StringUTF16" "LO_BYTE_SHIFT" "I" (.int (8 : Int32))) :
    own_MetW l x code maxLocals ret ws room_1 #[(.int p1), (.int p2), (.int p3), (.int p4)] Z own_EL h0 (fun v h L => v = some (.int (1 : Int32)) ∧ Fr n0 L) := by
  refine own_bodyW (plainFor_of_name pn_4) (ef_0 p1 p2 p3 p4) ?_
  intro p e s m below meth c T0 X0 hx hby hml0 hret hlk hnm hown hZ e0 eS H0 hS0
  have C0 := CHr.refl H0
  have hml : c.maxLocals = 10 := hml0
  have N0 := Fr.nil n0
  rcases own_four p1 with hq | hq | hq | hq
  · refine own_step (fun _ k => XS.iloadN X0.here hx rfl (hb hby at_0) rfl k) ?_
    show own_Go _ _ _ _ T0 (mkF m 1 #[.val (.int p1), .val (.int p2), .val (.int p3), .val (.int p4), .unset, .unset, .unset, .unset, .unset, .unset] [(.int p1)])
    refine own_step (fun _ k => XS.iconst X0.here hx rfl (hb hby at_1) k) ?_
    show own_Go _ _ _ _ T0 (mkF m 2 #[.val (.int p1), .val (.int p2), .val (.int p3), .val (.int p4), .unset, .unset, .unset, .unset, .unset, .unset] [(.int (3 : Int32)), (.int p1)])
    refine own_step (fun _ k => XS.iand X0.here hx rfl (hb hby at_2) rfl k) ?_
    show own_Go _ _ _ _ T0 (mkF m 3 #[.val (.int p1), .val (.int p2), .val (.int p3), .val (.int p4), .unset, .unset, .unset, .unset, .unset, .unset] [(.int (p1 &&& (3 : Int32)))])
    rw [hq]
    show own_Go _ _ _ _ T0 (mkF m 3 #[.val (.int p1), .val (.int p2), .val (.int p3), .val (.int p4), .unset, .unset, .unset, .unset, .unset, .unset] [(.int (0 : Int32))])
    refine own_step (fun _ k => XS.istore X0.here hx rfl (hb hby at_3) rfl (l' := #[.val (.int p1), .val (.int p2), .val (.int p3), .val (.int p4), .val (.int (0 : Int32)), .unset, .unset, .unset, .unset, .unset]) rfl k) ?_
    show own_Go _ _ _ _ T0 (mkF m 5 #[.val (.int p1), .val (.int p2), .val (.int p3), .val (.int p4), .val (.int (0 : Int32)), .unset, .unset, .unset, .unset, .unset] [])
    refine own_step (fun _ k => XS.iloadN X0.here hx rfl (hb hby at_5) rfl k) ?_
    show own_Go _ _ _ _ T0 (mkF m 6 #[.val (.int p1), .val (.int p2), .val (.int p3), .val (.int p4), .val (.int (0 : Int32)), .unset, .unset, .unset, .unset, .unset] [(.int p2)])
    refine own_step (X0.ldcInt hx hown (mvT hZ (hw _ (List.mem_of_getElem? (i := 0) rfl))) (g := (mkF m 6 #[.val (.int p1), .val (.int p2), .val (.int p3), .val (.int p4), .val (.int (0 : Int32)), .unset, .unset, .unset, .unset, .unset] [(.int p2)])) rfl (hb hby at_6)) ?_
    show own_Go _ _ _ _ T0 (mkF m 8 #[.val (.int p1), .val (.int p2), .val (.int p3), .val (.int p4), .val (.int (0 : Int32)), .unset, .unset, .unset, .unset, .unset] [(.int (65535 : Int32)), (.int p2)])
    refine own_step (fun _ k => XS.iand X0.here hx rfl (hb hby at_8) rfl k) ?_
    show own_Go _ _ _ _ T0 (mkF m 9 #[.val (.int p1), .val (.int p2), .val (.int p3), .val (.int p4), .val (.int (0 : Int32)), .unset, .unset, .unset, .unset, .unset] [(.int (p2 &&& (65535 : Int32)))])
    refine own_step (fun _ k => XS.i2c X0.here hx rfl (hb hby at_9) rfl k) ?_
    show own_Go _ _ _ _ T0 (mkF m 10 #[.val (.int p1), .val (.int p2), .val (.int p3), .val (.int p4), .val (.int (0 : Int32)), .unset, .unset, .unset, .unset, .unset] [(.int ((p2 &&& (65535 : Int32)).toUInt32.toUInt16.toUInt32.toInt32))])
    obtain ⟨c1, ec1⟩ : ∃ y, y = ((p2 &&& (65535 : Int32)).toUInt32.toUInt16.toUInt32.toInt32) := ⟨_, rfl⟩
    rw [← ec1]
    have bc1 : 0 ≤ c1.toInt ∧ c1.toInt ≤ 65535 := by have q := c_i2c (p2 &&& (65535 : Int32)); rw [← ec1] at q; omega
    show own_Go _ _ _ _ T0 (mkF m 10 #[.val (.int p1), .val (.int p2), .val (.int p3), .val (.int p4), .val (.int (0 : Int32)), .unset, .unset, .unset, .unset, .unset] [(.int c1)])
    refine own_step (fun _ k => XS.istore X0.here hx rfl (hb hby at_10) rfl (l' := #[.val (.int p1), .val (.int p2), .val (.int p3), .val (.int p4), .val (.int (0 : Int32)), .val (.int c1), .unset, .unset, .unset, .unset]) rfl k) ?_
    show own_Go _ _ _ _ T0 (mkF m 12 #[.val (.int p1), .val (.int p2), .val (.int p3), .val (.int p4), .val (.int (0 : Int32)), .val (.int c1), .unset, .unset, .unset, .unset] [])
    refine own_step (fun _ k => XS.iloadN X0.here hx rfl (hb hby at_12) rfl k) ?_
    show own_Go _ _ _ _ T0 (mkF m 13 #[.val (.int p1), .val (.int p2), .val (.int p3), .val (.int p4), .val (.int (0 : Int32)), .val (.int c1), .unset, .unset, .unset, .unset] [(.int p3)])
    refine own_step (X0.ldcInt hx hown (mvT hZ (hw _ (List.mem_of_getElem? (i := 0) rfl))) (g := (mkF m 13 #[.val (.int p1), .val (.int p2), .val (.int p3), .val (.int p4), .val (.int (0 : Int32)), .val (.int c1), .unset, .unset, .unset, .unset] [(.int p3)])) rfl (hb hby at_13)) ?_
    show own_Go _ _ _ _ T0 (mkF m 15 #[.val (.int p1), .val (.int p2), .val (.int p3), .val (.int p4), .val (.int (0 : Int32)), .val (.int c1), .unset, .unset, .unset, .unset] [(.int (65535 : Int32)), (.int p3)])
    refine own_step (fun _ k => XS.iand X0.here hx rfl (hb hby at_15) rfl k) ?_
    show own_Go _ _ _ _ T0 (mkF m 16 #[.val (.int p1), .val (.int p2), .val (.int p3), .val (.int p4), .val (.int (0 : Int32)), .val (.int c1), .unset, .unset, .unset, .unset] [(.int (p3 &&& (65535 : Int32)))])
    refine own_step (fun _ k => XS.i2c X0.here hx rfl (hb hby at_16) rfl k) ?_
    show own_Go _ _ _ _ T0 (mkF m 17 #[.val (.int p1), .val (.int p2), .val (.int p3), .val (.int p4), .val (.int (0 : Int32)), .val (.int c1), .unset, .unset, .unset, .unset] [(.int ((p3 &&& (65535 : Int32)).toUInt32.toUInt16.toUInt32.toInt32))])
    obtain ⟨c2, ec2⟩ : ∃ y, y = ((p3 &&& (65535 : Int32)).toUInt32.toUInt16.toUInt32.toInt32) := ⟨_, rfl⟩
    rw [← ec2]
    have bc2 : 0 ≤ c2.toInt ∧ c2.toInt ≤ 65535 := by have q := c_i2c (p3 &&& (65535 : Int32)); rw [← ec2] at q; omega
    show own_Go _ _ _ _ T0 (mkF m 17 #[.val (.int p1), .val (.int p2), .val (.int p3), .val (.int p4), .val (.int (0 : Int32)), .val (.int c1), .unset, .unset, .unset, .unset] [(.int c2)])
    refine own_step (fun _ k => XS.istore X0.here hx rfl (hb hby at_17) rfl (l' := #[.val (.int p1), .val (.int p2), .val (.int p3), .val (.int p4), .val (.int (0 : Int32)), .val (.int c1), .val (.int c2), .unset, .unset, .unset]) rfl k) ?_
    show own_Go _ _ _ _ T0 (mkF m 19 #[.val (.int p1), .val (.int p2), .val (.int p3), .val (.int p4), .val (.int (0 : Int32)), .val (.int c1), .val (.int c2), .unset, .unset, .unset] [])
    refine own_step (fun _ k => XS.iloadN X0.here hx rfl (hb hby at_19) rfl k) ?_
    show own_Go _ _ _ _ T0 (mkF m 20 #[.val (.int p1), .val (.int p2), .val (.int p3), .val (.int p4), .val (.int (0 : Int32)), .val (.int c1), .val (.int c2), .unset, .unset, .unset] [(.int p4)])
    refine own_step (X0.ldcInt hx hown (mvT hZ (hw _ (List.mem_of_getElem? (i := 0) rfl))) (g := (mkF m 20 #[.val (.int p1), .val (.int p2), .val (.int p3), .val (.int p4), .val (.int (0 : Int32)), .val (.int c1), .val (.int c2), .unset, .unset, .unset] [(.int p4)])) rfl (hb hby at_20)) ?_
    show own_Go _ _ _ _ T0 (mkF m 22 #[.val (.int p1), .val (.int p2), .val (.int p3), .val (.int p4), .val (.int (0 : Int32)), .val (.int c1), .val (.int c2), .unset, .unset, .unset] [(.int (65535 : Int32)), (.int p4)])
    refine own_step (fun _ k => XS.iand X0.here hx rfl (hb hby at_22) rfl k) ?_
    show own_Go _ _ _ _ T0 (mkF m 23 #[.val (.int p1), .val (.int p2), .val (.int p3), .val (.int p4), .val (.int (0 : Int32)), .val (.int c1), .val (.int c2), .unset, .unset, .unset] [(.int (p4 &&& (65535 : Int32)))])
    refine own_step (fun _ k => XS.i2c X0.here hx rfl (hb hby at_23) rfl k) ?_
    show own_Go _ _ _ _ T0 (mkF m 24 #[.val (.int p1), .val (.int p2), .val (.int p3), .val (.int p4), .val (.int (0 : Int32)), .val (.int c1), .val (.int c2), .unset, .unset, .unset] [(.int ((p4 &&& (65535 : Int32)).toUInt32.toUInt16.toUInt32.toInt32))])
    obtain ⟨c3, ec3⟩ : ∃ y, y = ((p4 &&& (65535 : Int32)).toUInt32.toUInt16.toUInt32.toInt32) := ⟨_, rfl⟩
    rw [← ec3]
    have bc3 : 0 ≤ c3.toInt ∧ c3.toInt ≤ 65535 := by have q := c_i2c (p4 &&& (65535 : Int32)); rw [← ec3] at q; omega
    show own_Go _ _ _ _ T0 (mkF m 24 #[.val (.int p1), .val (.int p2), .val (.int p3), .val (.int p4), .val (.int (0 : Int32)), .val (.int c1), .val (.int c2), .unset, .unset, .unset] [(.int c3)])
    refine own_step (fun _ k => XS.istore X0.here hx rfl (hb hby at_24) rfl (l' := #[.val (.int p1), .val (.int p2), .val (.int p3), .val (.int p4), .val (.int (0 : Int32)), .val (.int c1), .val (.int c2), .val (.int c3), .unset, .unset]) rfl k) ?_
    show own_Go _ _ _ _ T0 (mkF m 26 #[.val (.int p1), .val (.int p2), .val (.int p3), .val (.int p4), .val (.int (0 : Int32)), .val (.int c1), .val (.int c2), .val (.int c3), .unset, .unset] [])
    refine own_step (fun _ k => XS.iload X0.here hx rfl (hb hby at_26) rfl k) ?_
    show own_Go _ _ _ _ T0 (mkF m 28 #[.val (.int p1), .val (.int p2), .val (.int p3), .val (.int p4), .val (.int (0 : Int32)), .val (.int c1), .val (.int c2), .val (.int c3), .unset, .unset] [(.int (0 : Int32))])
    refine own_step (fun _ k => XS.ifNo X0.here hx rfl (hb hby at_28) rfl ((if0 _ _).trans (teq (by decide : (0 : Int32) = (0 : Int32))).2) k) ?_
    show own_Go _ _ _ _ T0 (mkF m 31 #[.val (.int p1), .val (.int p2), .val (.int p3), .val (.int p4), .val (.int (0 : Int32)), .val (.int c1), .val (.int c2), .val (.int c3), .unset, .unset] [])
    obtain ⟨T1, h1, X1, e1, E1, A1, D1, -, st1⟩ := newO X0 hx hZ hown (hw _ (List.mem_of_getElem? (i := 1) rfl)) (hw _ (List.mem_of_getElem? (i := 2) rfl)) (hw _ (List.mem_of_getElem? (i := 3) rfl)) e0 (g := (mkF m 31 #[.val (.int p1), .val (.int p2), .val (.int p3), .val (.int p4), .val (.int (0 : Int32)), .val (.int c1), .val (.int c2), .val (.int c3), .unset, .unset] [])) rfl (hb hby at_31) (by decide) (by decide)
    obtain ⟨so, g1⟩ : ∃ z, z = h0.size := ⟨_, rfl⟩
    rw [← g1] at A1 D1 st1
    have g_so : n0 ≤ so := Nat.le_trans Z0 (Nat.le_of_eq g1.symm)
    refine own_step st1 ?_
    have Dc1 := (CHr.ext E1 C0.1)
    have C1 := C0.trans Dc1
    have hk1 := Nat.le_trans (Nat.le_refl _) Dc1.2.1
    have Z1 := Nat.le_trans Z0 E1.1
    have F_value_so : Fld Z h1 so "java/lang/String" "value" "[B" .null := D1 (Or.inr (hw _ (List.mem_of_getElem? (i := 17) rfl))) (ty := (.array .byte)) (by decide)
    have F_coder_so : Fld Z h1 so "java/lang/String" "coder" "B" (.int (0 : Int32)) := D1 (Or.inr (hw _ (List.mem_of_getElem? (i := 18) rfl))) (ty := .byte) (by decide)
    show own_Go _ _ _ _ T1 (mkF m 34 #[.val (.int p1), .val (.int p2), .val (.int p3), .val (.int p4), .val (.int (0 : Int32)), .val (.int c1), .val (.int c2), .val (.int c3), .unset, .unset] [(.ref so)])
    refine own_step (fun _ k => XS.dup X1.here hx rfl (hb hby at_34) rfl rfl k) ?_
    show own_Go _ _ _ _ T1 (mkF m 35 #[.val (.int p1), .val (.int p2), .val (.int p3), .val (.int p4), .val (.int (0 : Int32)), .val (.int c1), .val (.int c2), .val (.int c3), .unset, .unset] [(.ref so), (.ref so)])
    refine own_step (fun _ k => XS.iconst X1.here hx rfl (hb hby at_35) k) ?_
    show own_Go _ _ _ _ T1 (mkF m 36 #[.val (.int p1), .val (.int p2), .val (.int p3), .val (.int p4), .val (.int (0 : Int32)), .val (.int c1), .val (.int c2), .val (.int c3), .unset, .unset] [(.int (0 : Int32)), (.ref so), (.ref so)])
    obtain ⟨T2, h2, k2, ca, g2, X2, e2, E2, V2, st2⟩ := own_newA X1 hx hZ (hw _ (List.mem_of_getElem? (i := 4) rfl)) e1 (g := (mkF m 36 #[.val (.int p1), .val (.int p2), .val (.int p3), .val (.int p4), .val (.int (0 : Int32)), .val (.int c1), .val (.int c2), .val (.int c3), .unset, .unset] [(.int (0 : Int32)), (.ref so), (.ref so)])) rfl (hb hby at_36) rfl (by decide) (cap := 0) (by decide) (by decide) (by decide) (by decide)
    have ne_so_ca : so ≠ ca := Nat.ne_of_lt (Nat.lt_of_lt_of_eq A1.lt g2.symm)
    have g_ca : n0 ≤ ca := Nat.le_trans Z1 (Nat.le_of_eq g2.symm)
    refine own_step st2 ?_
    have Dc2 := (CHr.ext E2 C1.1)
    have C2 := C1.trans Dc2
    have hk2 := Nat.le_trans hk1 Dc2.2.1
    have Z2 := Nat.le_trans Z1 E2.1
    have V_ca : Arv Z h2 ca k2 .char (0 : Int32) [] (.int (0 : Int32)) := V2
    show own_Go _ _ _ _ T2 (mkF m 38 #[.val (.int p1), .val (.int p2), .val (.int p3), .val (.int p4), .val (.int (0 : Int32)), .val (.int c1), .val (.int c2), .val (.int c3), .unset, .unset] [(.ref ca), (.ref so), (.ref so)])
    have Q3 := ((O0.ext E1).ext E2)
    have Q4 := (A1.ext E2)
    have Q5 := (F_coder_so.ext E2)
    have Q6 := (F_value_so.ext E2)
    refine own_callCW X2 hx hZ (y := (⟨"java/lang/String", "<init>", "([C)V"⟩ : MethodName)) rfl hown (hw _ (List.mem_of_getElem? (i := 5) rfl)) (hw _ (List.mem_of_getElem? (i := 6) rfl)) (hw _ (List.mem_of_getElem? (i := 3) rfl)) (hw _ (List.mem_of_getElem? (i := 7) rfl)) (by decide) (rm1 l Z a0 hw [] so ca k2 cz (0 : Int32) ([] : List Int32) h2 n0 Z2 hEL Q3 SC hcz SA SH SL Q4 Q5 Q6 V_ca rfl (Nat.le_of_ble_eq_true rfl) (own_chb _ (fun c hc => by cases hc)) g_so) e2 hEL C2.1 hS0 hk2 (b := so) 1 (by decide) (by decide) (by decide) (by decide) (g := (mkF m 38 #[.val (.int p1), .val (.int p2), .val (.int p3), .val (.int p4), .val (.int (0 : Int32)), .val (.int c1), .val (.int c2), .val (.int c3), .unset, .unset] [(.ref ca), (.ref so), (.ref so)])) rfl (by rw [hml]; rfl) [(.ref ca)] [(.ref so)] pd_16 rfl rfl rfl (by show 2 * 0 + _ ≤ _; exact Nat.le_of_eq rfl) (hb hby at_38) ?_
    rintro v7 T7 L7 X7 ⟨rfl, Nq7, K7, HS7⟩ D7 hS7 hZ hown
    have N7 := Fr.app N0 Nq7
    show own_Go _ _ _ _ T7 (mkF m 41 #[.val (.int p1), .val (.int p2), .val (.int p3), .val (.int p4), .val (.int (0 : Int32)), .val (.int c1), .val (.int c2), .val (.int c3), .unset, .unset] [(.ref so)])
    have Dc7 := D7
    have C7 := C2.trans Dc7
    have Z7 := Nat.le_trans Z2 K7.1
    refine own_step (fun _ k => XS.astore X7.here hx rfl (hb hby at_41) rfl rfl (l' := #[.val (.int p1), .val (.int p2), .val (.int p3), .val (.int p4), .val (.int (0 : Int32)), .val (.int c1), .val (.int c2), .val (.int c3), .val (.ref so), .unset]) rfl k) ?_
    show own_Go _ _ _ _ T7 (mkF m 43 #[.val (.int p1), .val (.int p2), .val (.int p3), .val (.int p4), .val (.int (0 : Int32)), .val (.int c1), .val (.int c2), .val (.int c3), .val (.ref so), .unset] [])
    refine own_step (fun _ k => XS.goto X7.here hx rfl (pc0 := 43) (pc' := 130) rfl (hb hby at_43) (by decide) (by decide) k) ?_
    show own_Go _ _ _ _ T7 (mkF m 130 #[.val (.int p1), .val (.int p2), .val (.int p3), .val (.int p4), .val (.int (0 : Int32)), .val (.int c1), .val (.int c2), .val (.int c3), .val (.ref so), .unset] [])
    refine own_step (fun _ k => XS.iload X7.here hx rfl (hb hby at_130) rfl k) ?_
    show own_Go _ _ _ _ T7 (mkF m 132 #[.val (.int p1), .val (.int p2), .val (.int p3), .val (.int p4), .val (.int (0 : Int32)), .val (.int c1), .val (.int c2), .val (.int c3), .val (.ref so), .unset] [(.int (0 : Int32))])
    refine own_step (fun _ k => XS.ifYes X7.here hx rfl (pc0 := 132) (pc' := 175) rfl (hb hby at_132) rfl ((if0 _ _).trans (flt (by decide : ¬ ((0 : Int32) < (0 : Int32)))).2.2.2) (by decide) (by decide) k) ?_
    show own_Go _ _ _ _ T7 (mkF m 175 #[.val (.int p1), .val (.int p2), .val (.int p3), .val (.int p4), .val (.int (0 : Int32)), .val (.int c1), .val (.int c2), .val (.int c3), .val (.ref so), .unset] [])
    refine own_step (fun _ k => XS.iconst X7.here hx rfl (hb hby at_175) k) ?_
    show own_Go _ _ _ _ T7 (mkF m 176 #[.val (.int p1), .val (.int p2), .val (.int p3), .val (.int p4), .val (.int (0 : Int32)), .val (.int c1), .val (.int c2), .val (.int c3), .val (.ref so), .unset] [(.int (0 : Int32))])
    refine own_step (fun _ k => XS.istore X7.here hx rfl (hb hby at_176) rfl (l' := #[.val (.int p1), .val (.int p2), .val (.int p3), .val (.int p4), .val (.int (0 : Int32)), .val (.int c1), .val (.int c2), .val (.int c3), .val (.ref so), .val (.int (0 : Int32))]) rfl k) ?_
    show own_Go _ _ _ _ T7 (mkF m 178 #[.val (.int p1), .val (.int p2), .val (.int p3), .val (.int p4), .val (.int (0 : Int32)), .val (.int c1), .val (.int c2), .val (.int c3), .val (.ref so), .val (.int (0 : Int32))] [])
    refine own_step (fun _ k => XS.aload X7.here hx rfl (hb hby at_178) rfl rfl k) ?_
    show own_Go _ _ _ _ T7 (mkF m 180 #[.val (.int p1), .val (.int p2), .val (.int p3), .val (.int p4), .val (.int (0 : Int32)), .val (.int c1), .val (.int c2), .val (.int c3), .val (.ref so), .val (.int (0 : Int32))] [(.ref so)])
    have Q8 := (Q3.keep K7 (allS g_so all0))
    refine own_callS X7 hx hZ (y := (⟨"com/example/stoa/stoa/http/HttpSyntax", "isRequestTarget", "(Ljava/lang/CharSequence;)Z"⟩ : MethodName)) hown (hw _ (List.mem_of_getElem? (i := 23) rfl)) (hw _ (List.mem_of_getElem? (i := 24) rfl)) (hw _ (List.mem_of_getElem? (i := 25) rfl)) (hw _ (List.mem_of_getElem? (i := 26) rfl)) (by decide) (rm4 l Z a0 hw [] so cz fv (0 : Int32) ([] : List Int32) T7.heap n0 Z7 Q8 SC hcz SF hfv SA SH SL HS7) rfl 0 (by decide) (by decide) (by decide) (by decide) (g := (mkF m 180 #[.val (.int p1), .val (.int p2), .val (.int p3), .val (.int p4), .val (.int (0 : Int32)), .val (.int c1), .val (.int c2), .val (.int c3), .val (.ref so), .val (.int (0 : Int32))] [(.ref so)])) rfl (by rw [hml]; rfl) [(.ref so)] [] pd_17 rfl rfl rfl (by show 2 * 0 + _ ≤ _; exact Nat.le_of_eq rfl) (hb hby at_180) ?_
    rintro v9 T9 L9 X9 ⟨rfl, Nq9, e9⟩
    have N9 := Fr.app N7 Nq9
    show own_Go _ _ _ _ T9 (mkF m 183 #[.val (.int p1), .val (.int p2), .val (.int p3), .val (.int p4), .val (.int (0 : Int32)), .val (.int c1), .val (.int c2), .val (.int c3), .val (.ref so), .val (.int (0 : Int32))] [(.int (own_rt ([] : List Int32)))])
    refine own_step (fun _ k => XS.iload X9.here hx rfl (hb hby at_183) rfl k) ?_
    show own_Go _ _ _ _ T9 (mkF m 185 #[.val (.int p1), .val (.int p2), .val (.int p3), .val (.int p4), .val (.int (0 : Int32)), .val (.int c1), .val (.int c2), .val (.int c3), .val (.ref so), .val (.int (0 : Int32))] [(.int (0 : Int32)), (.int (own_rt ([] : List Int32)))])
    refine own_step (fun _ k => XS.icmpNo X9.here hx rfl (hb hby at_185) rfl (teq rfl).2 k) ?_
    show own_Go _ _ _ _ T9 (mkF m 188 #[.val (.int p1), .val (.int p2), .val (.int p3), .val (.int p4), .val (.int (0 : Int32)), .val (.int c1), .val (.int c2), .val (.int c3), .val (.ref so), .val (.int (0 : Int32))] [])
    refine own_step (fun _ k => XS.iconst X9.here hx rfl (hb hby at_188) k) ?_
    show own_Go _ _ _ _ T9 (mkF m 189 #[.val (.int p1), .val (.int p2), .val (.int p3), .val (.int p4), .val (.int (0 : Int32)), .val (.int c1), .val (.int c2), .val (.int c3), .val (.ref so), .val (.int (0 : Int32))] [(.int (1 : Int32))])
    refine own_step (fun _ k => XS.goto X9.here hx rfl (pc0 := 189) (pc' := 193) rfl (hb hby at_189) (by decide) (by decide) k) ?_
    show own_Go _ _ _ _ T9 (mkF m 193 #[.val (.int p1), .val (.int p2), .val (.int p3), .val (.int p4), .val (.int (0 : Int32)), .val (.int c1), .val (.int c2), .val (.int c3), .val (.ref so), .val (.int (0 : Int32))] [(.int (1 : Int32))])
    exact own_retN X9 hx (t := .boolean) hret (by simp) hlk (hb hby at_193) rfl (own_W X9 hS7 (Nat.le_refl _) e9 eS hZ hEL C7 ⟨rfl, N9⟩ (by decide) (by decide)) 
  · refine own_step (fun _ k => XS.iloadN X0.here hx rfl (hb hby at_0) rfl k) ?_
    show own_Go _ _ _ _ T0 (mkF m 1 #[.val (.int p1), .val (.int p2), .val (.int p3), .val (.int p4), .unset, .unset, .unset, .unset, .unset, .unset] [(.int p1)])
    refine own_step (fun _ k => XS.iconst X0.here hx rfl (hb hby at_1) k) ?_
    show own_Go _ _ _ _ T0 (mkF m 2 #[.val (.int p1), .val (.int p2), .val (.int p3), .val (.int p4), .unset, .unset, .unset, .unset, .unset, .unset] [(.int (3 : Int32)), (.int p1)])
    refine own_step (fun _ k => XS.iand X0.here hx rfl (hb hby at_2) rfl k) ?_
    show own_Go _ _ _ _ T0 (mkF m 3 #[.val (.int p1), .val (.int p2), .val (.int p3), .val (.int p4), .unset, .unset, .unset, .unset, .unset, .unset] [(.int (p1 &&& (3 : Int32)))])
    rw [hq]
    show own_Go _ _ _ _ T0 (mkF m 3 #[.val (.int p1), .val (.int p2), .val (.int p3), .val (.int p4), .unset, .unset, .unset, .unset, .unset, .unset] [(.int (1 : Int32))])
    refine own_step (fun _ k => XS.istore X0.here hx rfl (hb hby at_3) rfl (l' := #[.val (.int p1), .val (.int p2), .val (.int p3), .val (.int p4), .val (.int (1 : Int32)), .unset, .unset, .unset, .unset, .unset]) rfl k) ?_
    show own_Go _ _ _ _ T0 (mkF m 5 #[.val (.int p1), .val (.int p2), .val (.int p3), .val (.int p4), .val (.int (1 : Int32)), .unset, .unset, .unset, .unset, .unset] [])
    refine own_step (fun _ k => XS.iloadN X0.here hx rfl (hb hby at_5) rfl k) ?_
    show own_Go _ _ _ _ T0 (mkF m 6 #[.val (.int p1), .val (.int p2), .val (.int p3), .val (.int p4), .val (.int (1 : Int32)), .unset, .unset, .unset, .unset, .unset] [(.int p2)])
    refine own_step (X0.ldcInt hx hown (mvT hZ (hw _ (List.mem_of_getElem? (i := 0) rfl))) (g := (mkF m 6 #[.val (.int p1), .val (.int p2), .val (.int p3), .val (.int p4), .val (.int (1 : Int32)), .unset, .unset, .unset, .unset, .unset] [(.int p2)])) rfl (hb hby at_6)) ?_
    show own_Go _ _ _ _ T0 (mkF m 8 #[.val (.int p1), .val (.int p2), .val (.int p3), .val (.int p4), .val (.int (1 : Int32)), .unset, .unset, .unset, .unset, .unset] [(.int (65535 : Int32)), (.int p2)])
    refine own_step (fun _ k => XS.iand X0.here hx rfl (hb hby at_8) rfl k) ?_
    show own_Go _ _ _ _ T0 (mkF m 9 #[.val (.int p1), .val (.int p2), .val (.int p3), .val (.int p4), .val (.int (1 : Int32)), .unset, .unset, .unset, .unset, .unset] [(.int (p2 &&& (65535 : Int32)))])
    refine own_step (fun _ k => XS.i2c X0.here hx rfl (hb hby at_9) rfl k) ?_
    show own_Go _ _ _ _ T0 (mkF m 10 #[.val (.int p1), .val (.int p2), .val (.int p3), .val (.int p4), .val (.int (1 : Int32)), .unset, .unset, .unset, .unset, .unset] [(.int ((p2 &&& (65535 : Int32)).toUInt32.toUInt16.toUInt32.toInt32))])
    obtain ⟨c1, ec1⟩ : ∃ y, y = ((p2 &&& (65535 : Int32)).toUInt32.toUInt16.toUInt32.toInt32) := ⟨_, rfl⟩
    rw [← ec1]
    have bc1 : 0 ≤ c1.toInt ∧ c1.toInt ≤ 65535 := by have q := c_i2c (p2 &&& (65535 : Int32)); rw [← ec1] at q; omega
    show own_Go _ _ _ _ T0 (mkF m 10 #[.val (.int p1), .val (.int p2), .val (.int p3), .val (.int p4), .val (.int (1 : Int32)), .unset, .unset, .unset, .unset, .unset] [(.int c1)])
    refine own_step (fun _ k => XS.istore X0.here hx rfl (hb hby at_10) rfl (l' := #[.val (.int p1), .val (.int p2), .val (.int p3), .val (.int p4), .val (.int (1 : Int32)), .val (.int c1), .unset, .unset, .unset, .unset]) rfl k) ?_
    show own_Go _ _ _ _ T0 (mkF m 12 #[.val (.int p1), .val (.int p2), .val (.int p3), .val (.int p4), .val (.int (1 : Int32)), .val (.int c1), .unset, .unset, .unset, .unset] [])
    refine own_step (fun _ k => XS.iloadN X0.here hx rfl (hb hby at_12) rfl k) ?_
    show own_Go _ _ _ _ T0 (mkF m 13 #[.val (.int p1), .val (.int p2), .val (.int p3), .val (.int p4), .val (.int (1 : Int32)), .val (.int c1), .unset, .unset, .unset, .unset] [(.int p3)])
    refine own_step (X0.ldcInt hx hown (mvT hZ (hw _ (List.mem_of_getElem? (i := 0) rfl))) (g := (mkF m 13 #[.val (.int p1), .val (.int p2), .val (.int p3), .val (.int p4), .val (.int (1 : Int32)), .val (.int c1), .unset, .unset, .unset, .unset] [(.int p3)])) rfl (hb hby at_13)) ?_
    show own_Go _ _ _ _ T0 (mkF m 15 #[.val (.int p1), .val (.int p2), .val (.int p3), .val (.int p4), .val (.int (1 : Int32)), .val (.int c1), .unset, .unset, .unset, .unset] [(.int (65535 : Int32)), (.int p3)])
    refine own_step (fun _ k => XS.iand X0.here hx rfl (hb hby at_15) rfl k) ?_
    show own_Go _ _ _ _ T0 (mkF m 16 #[.val (.int p1), .val (.int p2), .val (.int p3), .val (.int p4), .val (.int (1 : Int32)), .val (.int c1), .unset, .unset, .unset, .unset] [(.int (p3 &&& (65535 : Int32)))])
    refine own_step (fun _ k => XS.i2c X0.here hx rfl (hb hby at_16) rfl k) ?_
    show own_Go _ _ _ _ T0 (mkF m 17 #[.val (.int p1), .val (.int p2), .val (.int p3), .val (.int p4), .val (.int (1 : Int32)), .val (.int c1), .unset, .unset, .unset, .unset] [(.int ((p3 &&& (65535 : Int32)).toUInt32.toUInt16.toUInt32.toInt32))])
    obtain ⟨c2, ec2⟩ : ∃ y, y = ((p3 &&& (65535 : Int32)).toUInt32.toUInt16.toUInt32.toInt32) := ⟨_, rfl⟩
    rw [← ec2]
    have bc2 : 0 ≤ c2.toInt ∧ c2.toInt ≤ 65535 := by have q := c_i2c (p3 &&& (65535 : Int32)); rw [← ec2] at q; omega
    show own_Go _ _ _ _ T0 (mkF m 17 #[.val (.int p1), .val (.int p2), .val (.int p3), .val (.int p4), .val (.int (1 : Int32)), .val (.int c1), .unset, .unset, .unset, .unset] [(.int c2)])
    refine own_step (fun _ k => XS.istore X0.here hx rfl (hb hby at_17) rfl (l' := #[.val (.int p1), .val (.int p2), .val (.int p3), .val (.int p4), .val (.int (1 : Int32)), .val (.int c1), .val (.int c2), .unset, .unset, .unset]) rfl k) ?_
    show own_Go _ _ _ _ T0 (mkF m 19 #[.val (.int p1), .val (.int p2), .val (.int p3), .val (.int p4), .val (.int (1 : Int32)), .val (.int c1), .val (.int c2), .unset, .unset, .unset] [])
    refine own_step (fun _ k => XS.iloadN X0.here hx rfl (hb hby at_19) rfl k) ?_
    show own_Go _ _ _ _ T0 (mkF m 20 #[.val (.int p1), .val (.int p2), .val (.int p3), .val (.int p4), .val (.int (1 : Int32)), .val (.int c1), .val (.int c2), .unset, .unset, .unset] [(.int p4)])
    refine own_step (X0.ldcInt hx hown (mvT hZ (hw _ (List.mem_of_getElem? (i := 0) rfl))) (g := (mkF m 20 #[.val (.int p1), .val (.int p2), .val (.int p3), .val (.int p4), .val (.int (1 : Int32)), .val (.int c1), .val (.int c2), .unset, .unset, .unset] [(.int p4)])) rfl (hb hby at_20)) ?_
    show own_Go _ _ _ _ T0 (mkF m 22 #[.val (.int p1), .val (.int p2), .val (.int p3), .val (.int p4), .val (.int (1 : Int32)), .val (.int c1), .val (.int c2), .unset, .unset, .unset] [(.int (65535 : Int32)), (.int p4)])
    refine own_step (fun _ k => XS.iand X0.here hx rfl (hb hby at_22) rfl k) ?_
    show own_Go _ _ _ _ T0 (mkF m 23 #[.val (.int p1), .val (.int p2), .val (.int p3), .val (.int p4), .val (.int (1 : Int32)), .val (.int c1), .val (.int c2), .unset, .unset, .unset] [(.int (p4 &&& (65535 : Int32)))])
    refine own_step (fun _ k => XS.i2c X0.here hx rfl (hb hby at_23) rfl k) ?_
    show own_Go _ _ _ _ T0 (mkF m 24 #[.val (.int p1), .val (.int p2), .val (.int p3), .val (.int p4), .val (.int (1 : Int32)), .val (.int c1), .val (.int c2), .unset, .unset, .unset] [(.int ((p4 &&& (65535 : Int32)).toUInt32.toUInt16.toUInt32.toInt32))])
    obtain ⟨c3, ec3⟩ : ∃ y, y = ((p4 &&& (65535 : Int32)).toUInt32.toUInt16.toUInt32.toInt32) := ⟨_, rfl⟩
    rw [← ec3]
    have bc3 : 0 ≤ c3.toInt ∧ c3.toInt ≤ 65535 := by have q := c_i2c (p4 &&& (65535 : Int32)); rw [← ec3] at q; omega
    show own_Go _ _ _ _ T0 (mkF m 24 #[.val (.int p1), .val (.int p2), .val (.int p3), .val (.int p4), .val (.int (1 : Int32)), .val (.int c1), .val (.int c2), .unset, .unset, .unset] [(.int c3)])
    refine own_step (fun _ k => XS.istore X0.here hx rfl (hb hby at_24) rfl (l' := #[.val (.int p1), .val (.int p2), .val (.int p3), .val (.int p4), .val (.int (1 : Int32)), .val (.int c1), .val (.int c2), .val (.int c3), .unset, .unset]) rfl k) ?_
    show own_Go _ _ _ _ T0 (mkF m 26 #[.val (.int p1), .val (.int p2), .val (.int p3), .val (.int p4), .val (.int (1 : Int32)), .val (.int c1), .val (.int c2), .val (.int c3), .unset, .unset] [])
    refine own_step (fun _ k => XS.iload X0.here hx rfl (hb hby at_26) rfl k) ?_
    show own_Go _ _ _ _ T0 (mkF m 28 #[.val (.int p1), .val (.int p2), .val (.int p3), .val (.int p4), .val (.int (1 : Int32)), .val (.int c1), .val (.int c2), .val (.int c3), .unset, .unset] [(.int (1 : Int32))])
    refine own_step (fun _ k => XS.ifYes X0.here hx rfl (pc0 := 28) (pc' := 46) rfl (hb hby at_28) rfl ((if0 _ _).trans (feq (by decide : ¬ ((1 : Int32) = (0 : Int32)))).2) (by decide) (by decide) k) ?_
    show own_Go _ _ _ _ T0 (mkF m 46 #[.val (.int p1), .val (.int p2), .val (.int p3), .val (.int p4), .val (.int (1 : Int32)), .val (.int c1), .val (.int c2), .val (.int c3), .unset, .unset] [])
    refine own_step (fun _ k => XS.iload X0.here hx rfl (hb hby at_46) rfl k) ?_
    show own_Go _ _ _ _ T0 (mkF m 48 #[.val (.int p1), .val (.int p2), .val (.int p3), .val (.int p4), .val (.int (1 : Int32)), .val (.int c1), .val (.int c2), .val (.int c3), .unset, .unset] [(.int (1 : Int32))])
    refine own_step (fun _ k => XS.iconst X0.here hx rfl (hb hby at_48) k) ?_
    show own_Go _ _ _ _ T0 (mkF m 49 #[.val (.int p1), .val (.int p2), .val (.int p3), .val (.int p4), .val (.int (1 : Int32)), .val (.int c1), .val (.int c2), .val (.int c3), .unset, .unset] [(.int (1 : Int32)), (.int (1 : Int32))])
    refine own_step (fun _ k => XS.icmpNo X0.here hx rfl (hb hby at_49) rfl (teq (by decide : (1 : Int32) = (1 : Int32))).2 k) ?_
    show own_Go _ _ _ _ T0 (mkF m 52 #[.val (.int p1), .val (.int p2), .val (.int p3), .val (.int p4), .val (.int (1 : Int32)), .val (.int c1), .val (.int c2), .val (.int c3), .unset, .unset] [])
    obtain ⟨T10, h10, X10, e10, E10, A10, D10, -, st10⟩ := newO X0 hx hZ hown (hw _ (List.mem_of_getElem? (i := 1) rfl)) (hw _ (List.mem_of_getElem? (i := 2) rfl)) (hw _ (List.mem_of_getElem? (i := 3) rfl)) e0 (g := (mkF m 52 #[.val (.int p1), .val (.int p2), .val (.int p3), .val (.int p4), .val (.int (1 : Int32)), .val (.int c1), .val (.int c2), .val (.int c3), .unset, .unset] [])) rfl (hb hby at_52) (by decide) (by decide)
    obtain ⟨so, g10⟩ : ∃ z, z = h0.size := ⟨_, rfl⟩
    rw [← g10] at A10 D10 st10
    have g_so : n0 ≤ so := Nat.le_trans Z0 (Nat.le_of_eq g10.symm)
    refine own_step st10 ?_
    have Dc10 := (CHr.ext E10 C0.1)
    have C10 := C0.trans Dc10
    have hk10 := Nat.le_trans (Nat.le_refl _) Dc10.2.1
    have Z10 := Nat.le_trans Z0 E10.1
    have F_value_so : Fld Z h10 so "java/lang/String" "value" "[B" .null := D10 (Or.inr (hw _ (List.mem_of_getElem? (i := 17) rfl))) (ty := (.array .byte)) (by decide)
    have F_coder_so : Fld Z h10 so "java/lang/String" "coder" "B" (.int (0 : Int32)) := D10 (Or.inr (hw _ (List.mem_of_getElem? (i := 18) rfl))) (ty := .byte) (by decide)
    show own_Go _ _ _ _ T10 (mkF m 55 #[.val (.int p1), .val (.int p2), .val (.int p3), .val (.int p4), .val (.int (1 : Int32)), .val (.int c1), .val (.int c2), .val (.int c3), .unset, .unset] [(.ref so)])
    refine own_step (fun _ k => XS.dup X10.here hx rfl (hb hby at_55) rfl rfl k) ?_
    show own_Go _ _ _ _ T10 (mkF m 56 #[.val (.int p1), .val (.int p2), .val (.int p3), .val (.int p4), .val (.int (1 : Int32)), .val (.int c1), .val (.int c2), .val (.int c3), .unset, .unset] [(.ref so), (.ref so)])
    refine own_step (fun _ k => XS.iconst X10.here hx rfl (hb hby at_56) k) ?_
    show own_Go _ _ _ _ T10 (mkF m 57 #[.val (.int p1), .val (.int p2), .val (.int p3), .val (.int p4), .val (.int (1 : Int32)), .val (.int c1), .val (.int c2), .val (.int c3), .unset, .unset] [(.int (1 : Int32)), (.ref so), (.ref so)])
    obtain ⟨T11, h11, k11, ca, g11, X11, e11, E11, V11, st11⟩ := own_newA X10 hx hZ (hw _ (List.mem_of_getElem? (i := 4) rfl)) e10 (g := (mkF m 57 #[.val (.int p1), .val (.int p2), .val (.int p3), .val (.int p4), .val (.int (1 : Int32)), .val (.int c1), .val (.int c2), .val (.int c3), .unset, .unset] [(.int (1 : Int32)), (.ref so), (.ref so)])) rfl (hb hby at_57) rfl (by decide) (cap := 1) (by decide) (by decide) (by decide) (by decide)
    have ne_so_ca : so ≠ ca := Nat.ne_of_lt (Nat.lt_of_lt_of_eq A10.lt g11.symm)
    have g_ca : n0 ≤ ca := Nat.le_trans Z10 (Nat.le_of_eq g11.symm)
    refine own_step st11 ?_
    have Dc11 := (CHr.ext E11 C10.1)
    have C11 := C10.trans Dc11
    have hk11 := Nat.le_trans hk10 Dc11.2.1
    have Z11 := Nat.le_trans Z10 E11.1
    have V_ca : Arv Z h11 ca k11 .char (1 : Int32) [(.int (0 : Int32))] (.int (0 : Int32)) := V11
    show own_Go _ _ _ _ T11 (mkF m 59 #[.val (.int p1), .val (.int p2), .val (.int p3), .val (.int p4), .val (.int (1 : Int32)), .val (.int c1), .val (.int c2), .val (.int c3), .unset, .unset] [(.ref ca), (.ref so), (.ref so)])
    refine own_step (fun _ k => XS.dup X11.here hx rfl (hb hby at_59) rfl rfl k) ?_
    show own_Go _ _ _ _ T11 (mkF m 60 #[.val (.int p1), .val (.int p2), .val (.int p3), .val (.int p4), .val (.int (1 : Int32)), .val (.int c1), .val (.int c2), .val (.int c3), .unset, .unset] [(.ref ca), (.ref ca), (.ref so), (.ref so)])
    refine own_step (fun _ k => XS.iconst X11.here hx rfl (hb hby at_60) k) ?_
    show own_Go _ _ _ _ T11 (mkF m 61 #[.val (.int p1), .val (.int p2), .val (.int p3), .val (.int p4), .val (.int (1 : Int32)), .val (.int c1), .val (.int c2), .val (.int c3), .unset, .unset] [(.int (0 : Int32)), (.ref ca), (.ref ca), (.ref so), (.ref so)])
    refine own_step (fun _ k => XS.iload X11.here hx rfl (hb hby at_61) rfl k) ?_
    show own_Go _ _ _ _ T11 (mkF m 63 #[.val (.int p1), .val (.int p2), .val (.int p3), .val (.int p4), .val (.int (1 : Int32)), .val (.int c1), .val (.int c2), .val (.int c3), .unset, .unset] [(.int c1), (.int (0 : Int32)), (.ref ca), (.ref ca), (.ref so), (.ref so)])
    obtain ⟨T12, h12, l12, X12, e12, W12, V12, st12⟩ := own_stC X11 hx hZ e11 V_ca (j := (0 : Int32)) ⟨by decide, by decide⟩ 0 rfl (Nat.le_of_ble_eq_true rfl) (g := (mkF m 63 #[.val (.int p1), .val (.int p2), .val (.int p3), .val (.int p4), .val (.int (1 : Int32)), .val (.int c1), .val (.int c2), .val (.int c3), .unset, .unset] [(.int c1), (.int (0 : Int32)), (.ref ca), (.ref ca), (.ref so), (.ref so)])) rfl rfl (hb hby at_63)
    refine own_step st12 ?_
    have N12 := Fr.snoc X12 N0 g_ca
    have Dc12 := (CHr.wr W12 (Safe.arv (EL := own_EL) hZ.alike V_ca (by decide)) C11.1)
    have C12 := C11.trans Dc12
    have hk12 := Nat.le_trans hk11 Dc12.2.1
    have Z12 := Nat.le_trans Z11 (Keep.of_wr W12).1
    rw [own_nc bc1] at V12
    have V_ca_12 : Arv Z h12 ca k11 .char (1 : Int32) [(.int c1)] (.int (0 : Int32)) := V12
    show own_Go _ _ _ _ T12 (mkF m 64 #[.val (.int p1), .val (.int p2), .val (.int p3), .val (.int p4), .val (.int (1 : Int32)), .val (.int c1), .val (.int c2), .val (.int c3), .unset, .unset] [(.ref ca), (.ref so), (.ref so)])
    have Q13 := (((O0.ext E10).ext E11).wr W12 g_ca)
    have Q14 := ((A10.ext E11).wr W12)
    have Q15 := ((F_coder_so.ext E11).other W12 (Or.inl ne_so_ca))
    have Q16 := ((F_value_so.ext E11).other W12 (Or.inl ne_so_ca))
    refine own_callCW X12 hx hZ (y := (⟨"java/lang/String", "<init>", "([C)V"⟩ : MethodName)) rfl hown (hw _ (List.mem_of_getElem? (i := 5) rfl)) (hw _ (List.mem_of_getElem? (i := 6) rfl)) (hw _ (List.mem_of_getElem? (i := 3) rfl)) (hw _ (List.mem_of_getElem? (i := 7) rfl)) (by decide) (rm1 l Z a0 hw [] so ca k11 cz (1 : Int32) ([c1] : List Int32) h12 n0 Z12 hEL Q13 SC hcz SA SH SL Q14 Q15 Q16 V_ca_12 rfl (Nat.le_of_ble_eq_true rfl) (own_chb _ (by intro c hc; simp only [List.mem_cons, List.not_mem_nil, or_false] at hc; rcases hc with rfl; exact bc1)) g_so) e12 hEL C12.1 hS0 hk12 (b := so) 1 (by decide) (by decide) (by decide) (by decide) (g := (mkF m 64 #[.val (.int p1), .val (.int p2), .val (.int p3), .val (.int p4), .val (.int (1 : Int32)), .val (.int c1), .val (.int c2), .val (.int c3), .unset, .unset] [(.ref ca), (.ref so), (.ref so)])) rfl (by rw [hml]; rfl) [(.ref ca)] [(.ref so)] pd_16 rfl rfl rfl (by show 2 * 0 + _ ≤ _; exact Nat.le_of_eq rfl) (hb hby at_64) ?_
    rintro v17 T17 L17 X17 ⟨rfl, Nq17, K17, HS17⟩ D17 hS17 hZ hown
    have N17 := Fr.app N12 Nq17
    show own_Go _ _ _ _ T17 (mkF m 67 #[.val (.int p1), .val (.int p2), .val (.int p3), .val (.int p4), .val (.int (1 : Int32)), .val (.int c1), .val (.int c2), .val (.int c3), .unset, .unset] [(.ref so)])
    have Dc17 := D17
    have C17 := C12.trans Dc17
    have Z17 := Nat.le_trans Z12 K17.1
    refine own_step (fun _ k => XS.astore X17.here hx rfl (hb hby at_67) rfl rfl (l' := #[.val (.int p1), .val (.int p2), .val (.int p3), .val (.int p4), .val (.int (1 : Int32)), .val (.int c1), .val (.int c2), .val (.int c3), .val (.ref so), .unset]) rfl k) ?_
    show own_Go _ _ _ _ T17 (mkF m 69 #[.val (.int p1), .val (.int p2), .val (.int p3), .val (.int p4), .val (.int (1 : Int32)), .val (.int c1), .val (.int c2), .val (.int c3), .val (.ref so), .unset] [])
    refine own_step (fun _ k => XS.goto X17.here hx rfl (pc0 := 69) (pc' := 130) rfl (hb hby at_69) (by decide) (by decide) k) ?_
    show own_Go _ _ _ _ T17 (mkF m 130 #[.val (.int p1), .val (.int p2), .val (.int p3), .val (.int p4), .val (.int (1 : Int32)), .val (.int c1), .val (.int c2), .val (.int c3), .val (.ref so), .unset] [])
    refine own_step (fun _ k => XS.iload X17.here hx rfl (hb hby at_130) rfl k) ?_
    show own_Go _ _ _ _ T17 (mkF m 132 #[.val (.int p1), .val (.int p2), .val (.int p3), .val (.int p4), .val (.int (1 : Int32)), .val (.int c1), .val (.int c2), .val (.int c3), .val (.ref so), .unset] [(.int (1 : Int32))])
    refine own_step (fun _ k => XS.ifNo X17.here hx rfl (hb hby at_132) rfl ((if0 _ _).trans (tlt (by decide : (0 : Int32) < (1 : Int32))).2.2.2) k) ?_
    show own_Go _ _ _ _ T17 (mkF m 135 #[.val (.int p1), .val (.int p2), .val (.int p3), .val (.int p4), .val (.int (1 : Int32)), .val (.int c1), .val (.int c2), .val (.int c3), .val (.ref so), .unset] [])
    refine own_step (fun _ k => XS.iload X17.here hx rfl (hb hby at_135) rfl k) ?_
    show own_Go _ _ _ _ T17 (mkF m 137 #[.val (.int p1), .val (.int p2), .val (.int p3), .val (.int p4), .val (.int (1 : Int32)), .val (.int c1), .val (.int c2), .val (.int c3), .val (.ref so), .unset] [(.int c1)])
    refine own_callS X17 hx hZ (y := (⟨"com/example/stoa/stoa/http/HttpSyntaxIsRequestTargetPinLaw", "visible", "(C)Z"⟩ : MethodName)) hown (hw _ (List.mem_of_getElem? (i := 52) rfl)) (hw _ (List.mem_of_getElem? (i := 53) rfl)) (hw _ (List.mem_of_getElem? (i := 54) rfl)) (hw _ (List.mem_of_getElem? (i := 55) rfl)) (by decide) (rm10 l Z a0 hw [] c1 T17.heap n0 Z17) rfl 0 (by decide) (by decide) (by decide) (by decide) (g := (mkF m 137 #[.val (.int p1), .val (.int p2), .val (.int p3), .val (.int p4), .val (.int (1 : Int32)), .val (.int c1), .val (.int c2), .val (.int c3), .val (.ref so), .unset] [(.int c1)])) rfl (by rw [hml]; rfl) [(.int c1)] [] pd_18 rfl rfl rfl (by show 2 * 0 + _ ≤ _; exact Nat.le_of_eq rfl) (hb hby at_137) ?_
    rintro v18 T18 L18 X18 ⟨rfl, Nq18, e18⟩
    have N18 := Fr.app N17 Nq18
    show own_Go _ _ _ _ T18 (mkF m 140 #[.val (.int p1), .val (.int p2), .val (.int p3), .val (.int p4), .val (.int (1 : Int32)), .val (.int c1), .val (.int c2), .val (.int c3), .val (.ref so), .unset] [(.int (own_vis c1))])
    by_cases hc19 : (own_vis c1) = (0 : Int32)
    · refine own_step (fun _ k => XS.ifYes X18.here hx rfl (pc0 := 140) (pc' := 175) rfl (hb hby at_140) rfl ((if0 _ _).trans (teq hc19).1) (by decide) (by decide) k) ?_
      show own_Go _ _ _ _ T18 (mkF m 175 #[.val (.int p1), .val (.int p2), .val (.int p3), .val (.int p4), .val (.int (1 : Int32)), .val (.int c1), .val (.int c2), .val (.int c3), .val (.ref so), .unset] [])
      refine own_step (fun _ k => XS.iconst X18.here hx rfl (hb hby at_175) k) ?_
      show own_Go _ _ _ _ T18 (mkF m 176 #[.val (.int p1), .val (.int p2), .val (.int p3), .val (.int p4), .val (.int (1 : Int32)), .val (.int c1), .val (.int c2), .val (.int c3), .val (.ref so), .unset] [(.int (0 : Int32))])
      refine own_step (fun _ k => XS.istore X18.here hx rfl (hb hby at_176) rfl (l' := #[.val (.int p1), .val (.int p2), .val (.int p3), .val (.int p4), .val (.int (1 : Int32)), .val (.int c1), .val (.int c2), .val (.int c3), .val (.ref so), .val (.int (0 : Int32))]) rfl k) ?_
      show own_Go _ _ _ _ T18 (mkF m 178 #[.val (.int p1), .val (.int p2), .val (.int p3), .val (.int p4), .val (.int (1 : Int32)), .val (.int c1), .val (.int c2), .val (.int c3), .val (.ref so), .val (.int (0 : Int32))] [])
      refine own_step (fun _ k => XS.aload X18.here hx rfl (hb hby at_178) rfl rfl k) ?_
      show own_Go _ _ _ _ T18 (mkF m 180 #[.val (.int p1), .val (.int p2), .val (.int p3), .val (.int p4), .val (.int (1 : Int32)), .val (.int c1), .val (.int c2), .val (.int c3), .val (.ref so), .val (.int (0 : Int32))] [(.ref so)])
      have Q20 := (Q13.keep K17 (allS g_so all0))
      refine own_callS X18 hx hZ (y := (⟨"com/example/stoa/stoa/http/HttpSyntax", "isRequestTarget", "(Ljava/lang/CharSequence;)Z"⟩ : MethodName)) hown (hw _ (List.mem_of_getElem? (i := 23) rfl)) (hw _ (List.mem_of_getElem? (i := 24) rfl)) (hw _ (List.mem_of_getElem? (i := 25) rfl)) (hw _ (List.mem_of_getElem? (i := 26) rfl)) (by decide) (rm4 l Z a0 hw [] so cz fv (1 : Int32) ([c1] : List Int32) T17.heap n0 Z17 Q20 SC hcz SF hfv SA SH SL HS17) e18 0 (by decide) (by decide) (by decide) (by decide) (g := (mkF m 180 #[.val (.int p1), .val (.int p2), .val (.int p3), .val (.int p4), .val (.int (1 : Int32)), .val (.int c1), .val (.int c2), .val (.int c3), .val (.ref so), .val (.int (0 : Int32))] [(.ref so)])) rfl (by rw [hml]; rfl) [(.ref so)] [] pd_17 rfl rfl rfl (by show 2 * 0 + _ ≤ _; exact Nat.le_of_eq rfl) (hb hby at_180) ?_
      rintro v21 T21 L21 X21 ⟨rfl, Nq21, e21⟩
      have N21 := Fr.app N18 Nq21
      show own_Go _ _ _ _ T21 (mkF m 183 #[.val (.int p1), .val (.int p2), .val (.int p3), .val (.int p4), .val (.int (1 : Int32)), .val (.int c1), .val (.int c2), .val (.int c3), .val (.ref so), .val (.int (0 : Int32))] [(.int (own_rt ([c1] : List Int32)))])
      refine own_step (fun _ k => XS.iload X21.here hx rfl (hb hby at_183) rfl k) ?_
      show own_Go _ _ _ _ T21 (mkF m 185 #[.val (.int p1), .val (.int p2), .val (.int p3), .val (.int p4), .val (.int (1 : Int32)), .val (.int c1), .val (.int c2), .val (.int c3), .val (.ref so), .val (.int (0 : Int32))] [(.int (0 : Int32)), (.int (own_rt ([c1] : List Int32)))])
      refine own_step (fun _ k => XS.icmpNo X21.here hx rfl (hb hby at_185) rfl (teq ((own_rt1 c1).trans (if_pos hc19))).2 k) ?_
      show own_Go _ _ _ _ T21 (mkF m 188 #[.val (.int p1), .val (.int p2), .val (.int p3), .val (.int p4), .val (.int (1 : Int32)), .val (.int c1), .val (.int c2), .val (.int c3), .val (.ref so), .val (.int (0 : Int32))] [])
      refine own_step (fun _ k => XS.iconst X21.here hx rfl (hb hby at_188) k) ?_
      show own_Go _ _ _ _ T21 (mkF m 189 #[.val (.int p1), .val (.int p2), .val (.int p3), .val (.int p4), .val (.int (1 : Int32)), .val (.int c1), .val (.int c2), .val (.int c3), .val (.ref so), .val (.int (0 : Int32))] [(.int (1 : Int32))])
      refine own_step (fun _ k => XS.goto X21.here hx rfl (pc0 := 189) (pc' := 193) rfl (hb hby at_189) (by decide) (by decide) k) ?_
      show own_Go _ _ _ _ T21 (mkF m 193 #[.val (.int p1), .val (.int p2), .val (.int p3), .val (.int p4), .val (.int (1 : Int32)), .val (.int c1), .val (.int c2), .val (.int c3), .val (.ref so), .val (.int (0 : Int32))] [(.int (1 : Int32))])
      exact own_retN X21 hx (t := .boolean) hret (by simp) hlk (hb hby at_193) rfl (own_W X21 hS17 (Nat.le_refl _) e21 eS hZ hEL C17 ⟨rfl, N21⟩ (by decide) (by decide)) 
    · refine own_step (fun _ k => XS.ifNo X18.here hx rfl (hb hby at_140) rfl ((if0 _ _).trans (feq hc19).1) k) ?_
      show own_Go _ _ _ _ T18 (mkF m 143 #[.val (.int p1), .val (.int p2), .val (.int p3), .val (.int p4), .val (.int (1 : Int32)), .val (.int c1), .val (.int c2), .val (.int c3), .val (.ref so), .unset] [])
      refine own_step (fun _ k => XS.iload X18.here hx rfl (hb hby at_143) rfl k) ?_
      show own_Go _ _ _ _ T18 (mkF m 145 #[.val (.int p1), .val (.int p2), .val (.int p3), .val (.int p4), .val (.int (1 : Int32)), .val (.int c1), .val (.int c2), .val (.int c3), .val (.ref so), .unset] [(.int (1 : Int32))])
      refine own_step (fun _ k => XS.iconst X18.here hx rfl (hb hby at_145) k) ?_
      show own_Go _ _ _ _ T18 (mkF m 146 #[.val (.int p1), .val (.int p2), .val (.int p3), .val (.int p4), .val (.int (1 : Int32)), .val (.int c1), .val (.int c2), .val (.int c3), .val (.ref so), .unset] [(.int (2 : Int32)), (.int (1 : Int32))])
      refine own_step (fun _ k => XS.icmpYes X18.here hx rfl (pc0 := 146) (pc' := 157) rfl (hb hby at_146) rfl (tlt (by decide : (1 : Int32) < (2 : Int32))).1 (by decide) (by decide) k) ?_
      show own_Go _ _ _ _ T18 (mkF m 157 #[.val (.int p1), .val (.int p2), .val (.int p3), .val (.int p4), .val (.int (1 : Int32)), .val (.int c1), .val (.int c2), .val (.int c3), .val (.ref so), .unset] [])
      refine own_step (fun _ k => XS.iload X18.here hx rfl (hb hby at_157) rfl k) ?_
      show own_Go _ _ _ _ T18 (mkF m 159 #[.val (.int p1), .val (.int p2), .val (.int p3), .val (.int p4), .val (.int (1 : Int32)), .val (.int c1), .val (.int c2), .val (.int c3), .val (.ref so), .unset] [(.int (1 : Int32))])
      refine own_step (fun _ k => XS.iconst X18.here hx rfl (hb hby at_159) k) ?_
      show own_Go _ _ _ _ T18 (mkF m 160 #[.val (.int p1), .val (.int p2), .val (.int p3), .val (.int p4), .val (.int (1 : Int32)), .val (.int c1), .val (.int c2), .val (.int c3), .val (.ref so), .unset] [(.int (3 : Int32)), (.int (1 : Int32))])
      refine own_step (fun _ k => XS.icmpYes X18.here hx rfl (pc0 := 160) (pc' := 171) rfl (hb hby at_160) rfl (tlt (by decide : (1 : Int32) < (3 : Int32))).1 (by decide) (by decide) k) ?_
      show own_Go _ _ _ _ T18 (mkF m 171 #[.val (.int p1), .val (.int p2), .val (.int p3), .val (.int p4), .val (.int (1 : Int32)), .val (.int c1), .val (.int c2), .val (.int c3), .val (.ref so), .unset] [])
      refine own_step (fun _ k => XS.iconst X18.here hx rfl (hb hby at_171) k) ?_
      show own_Go _ _ _ _ T18 (mkF m 172 #[.val (.int p1), .val (.int p2), .val (.int p3), .val (.int p4), .val (.int (1 : Int32)), .val (.int c1), .val (.int c2), .val (.int c3), .val (.ref so), .unset] [(.int (1 : Int32))])
      refine own_step (fun _ k => XS.goto X18.here hx rfl (pc0 := 172) (pc' := 176) rfl (hb hby at_172) (by decide) (by decide) k) ?_
      show own_Go _ _ _ _ T18 (mkF m 176 #[.val (.int p1), .val (.int p2), .val (.int p3), .val (.int p4), .val (.int (1 : Int32)), .val (.int c1), .val (.int c2), .val (.int c3), .val (.ref so), .unset] [(.int (1 : Int32))])
      refine own_step (fun _ k => XS.istore X18.here hx rfl (hb hby at_176) rfl (l' := #[.val (.int p1), .val (.int p2), .val (.int p3), .val (.int p4), .val (.int (1 : Int32)), .val (.int c1), .val (.int c2), .val (.int c3), .val (.ref so), .val (.int (1 : Int32))]) rfl k) ?_
      show own_Go _ _ _ _ T18 (mkF m 178 #[.val (.int p1), .val (.int p2), .val (.int p3), .val (.int p4), .val (.int (1 : Int32)), .val (.int c1), .val (.int c2), .val (.int c3), .val (.ref so), .val (.int (1 : Int32))] [])
      refine own_step (fun _ k => XS.aload X18.here hx rfl (hb hby at_178) rfl rfl k) ?_
      show own_Go _ _ _ _ T18 (mkF m 180 #[.val (.int p1), .val (.int p2), .val (.int p3), .val (.int p4), .val (.int (1 : Int32)), .val (.int c1), .val (.int c2), .val (.int c3), .val (.ref so), .val (.int (1 : Int32))] [(.ref so)])
      have Q22 := (Q13.keep K17 (allS g_so all0))
      refine own_callS X18 hx hZ (y := (⟨"com/example/stoa/stoa/http/HttpSyntax", "isRequestTarget", "(Ljava/lang/CharSequence;)Z"⟩ : MethodName)) hown (hw _ (List.mem_of_getElem? (i := 23) rfl)) (hw _ (List.mem_of_getElem? (i := 24) rfl)) (hw _ (List.mem_of_getElem? (i := 25) rfl)) (hw _ (List.mem_of_getElem? (i := 26) rfl)) (by decide) (rm4 l Z a0 hw [] so cz fv (1 : Int32) ([c1] : List Int32) T17.heap n0 Z17 Q22 SC hcz SF hfv SA SH SL HS17) e18 0 (by decide) (by decide) (by decide) (by decide) (g := (mkF m 180 #[.val (.int p1), .val (.int p2), .val (.int p3), .val (.int p4), .val (.int (1 : Int32)), .val (.int c1), .val (.int c2), .val (.int c3), .val (.ref so), .val (.int (1 : Int32))] [(.ref so)])) rfl (by rw [hml]; rfl) [(.ref so)] [] pd_17 rfl rfl rfl (by show 2 * 0 + _ ≤ _; exact Nat.le_of_eq rfl) (hb hby at_180) ?_
      rintro v23 T23 L23 X23 ⟨rfl, Nq23, e23⟩
      have N23 := Fr.app N18 Nq23
      show own_Go _ _ _ _ T23 (mkF m 183 #[.val (.int p1), .val (.int p2), .val (.int p3), .val (.int p4), .val (.int (1 : Int32)), .val (.int c1), .val (.int c2), .val (.int c3), .val (.ref so), .val (.int (1 : Int32))] [(.int (own_rt ([c1] : List Int32)))])
      refine own_step (fun _ k => XS.iload X23.here hx rfl (hb hby at_183) rfl k) ?_
      show own_Go _ _ _ _ T23 (mkF m 185 #[.val (.int p1), .val (.int p2), .val (.int p3), .val (.int p4), .val (.int (1 : Int32)), .val (.int c1), .val (.int c2), .val (.int c3), .val (.ref so), .val (.int (1 : Int32))] [(.int (1 : Int32)), (.int (own_rt ([c1] : List Int32)))])
      refine own_step (fun _ k => XS.icmpNo X23.here hx rfl (hb hby at_185) rfl (teq ((own_rt1 c1).trans (if_neg hc19))).2 k) ?_
      show own_Go _ _ _ _ T23 (mkF m 188 #[.val (.int p1), .val (.int p2), .val (.int p3), .val (.int p4), .val (.int (1 : Int32)), .val (.int c1), .val (.int c2), .val (.int c3), .val (.ref so), .val (.int (1 : Int32))] [])
      refine own_step (fun _ k => XS.iconst X23.here hx rfl (hb hby at_188) k) ?_
      show own_Go _ _ _ _ T23 (mkF m 189 #[.val (.int p1), .val (.int p2), .val (.int p3), .val (.int p4), .val (.int (1 : Int32)), .val (.int c1), .val (.int c2), .val (.int c3), .val (.ref so), .val (.int (1 : Int32))] [(.int (1 : Int32))])
      refine own_step (fun _ k => XS.goto X23.here hx rfl (pc0 := 189) (pc' := 193) rfl (hb hby at_189) (by decide) (by decide) k) ?_
      show own_Go _ _ _ _ T23 (mkF m 193 #[.val (.int p1), .val (.int p2), .val (.int p3), .val (.int p4), .val (.int (1 : Int32)), .val (.int c1), .val (.int c2), .val (.int c3), .val (.ref so), .val (.int (1 : Int32))] [(.int (1 : Int32))])
      exact own_retN X23 hx (t := .boolean) hret (by simp) hlk (hb hby at_193) rfl (own_W X23 hS17 (Nat.le_refl _) e23 eS hZ hEL C17 ⟨rfl, N23⟩ (by decide) (by decide)) 
  · refine own_step (fun _ k => XS.iloadN X0.here hx rfl (hb hby at_0) rfl k) ?_
    show own_Go _ _ _ _ T0 (mkF m 1 #[.val (.int p1), .val (.int p2), .val (.int p3), .val (.int p4), .unset, .unset, .unset, .unset, .unset, .unset] [(.int p1)])
    refine own_step (fun _ k => XS.iconst X0.here hx rfl (hb hby at_1) k) ?_
    show own_Go _ _ _ _ T0 (mkF m 2 #[.val (.int p1), .val (.int p2), .val (.int p3), .val (.int p4), .unset, .unset, .unset, .unset, .unset, .unset] [(.int (3 : Int32)), (.int p1)])
    refine own_step (fun _ k => XS.iand X0.here hx rfl (hb hby at_2) rfl k) ?_
    show own_Go _ _ _ _ T0 (mkF m 3 #[.val (.int p1), .val (.int p2), .val (.int p3), .val (.int p4), .unset, .unset, .unset, .unset, .unset, .unset] [(.int (p1 &&& (3 : Int32)))])
    rw [hq]
    show own_Go _ _ _ _ T0 (mkF m 3 #[.val (.int p1), .val (.int p2), .val (.int p3), .val (.int p4), .unset, .unset, .unset, .unset, .unset, .unset] [(.int (2 : Int32))])
    refine own_step (fun _ k => XS.istore X0.here hx rfl (hb hby at_3) rfl (l' := #[.val (.int p1), .val (.int p2), .val (.int p3), .val (.int p4), .val (.int (2 : Int32)), .unset, .unset, .unset, .unset, .unset]) rfl k) ?_
    show own_Go _ _ _ _ T0 (mkF m 5 #[.val (.int p1), .val (.int p2), .val (.int p3), .val (.int p4), .val (.int (2 : Int32)), .unset, .unset, .unset, .unset, .unset] [])
    refine own_step (fun _ k => XS.iloadN X0.here hx rfl (hb hby at_5) rfl k) ?_
    show own_Go _ _ _ _ T0 (mkF m 6 #[.val (.int p1), .val (.int p2), .val (.int p3), .val (.int p4), .val (.int (2 : Int32)), .unset, .unset, .unset, .unset, .unset] [(.int p2)])
    refine own_step (X0.ldcInt hx hown (mvT hZ (hw _ (List.mem_of_getElem? (i := 0) rfl))) (g := (mkF m 6 #[.val (.int p1), .val (.int p2), .val (.int p3), .val (.int p4), .val (.int (2 : Int32)), .unset, .unset, .unset, .unset, .unset] [(.int p2)])) rfl (hb hby at_6)) ?_
    show own_Go _ _ _ _ T0 (mkF m 8 #[.val (.int p1), .val (.int p2), .val (.int p3), .val (.int p4), .val (.int (2 : Int32)), .unset, .unset, .unset, .unset, .unset] [(.int (65535 : Int32)), (.int p2)])
    refine own_step (fun _ k => XS.iand X0.here hx rfl (hb hby at_8) rfl k) ?_
    show own_Go _ _ _ _ T0 (mkF m 9 #[.val (.int p1), .val (.int p2), .val (.int p3), .val (.int p4), .val (.int (2 : Int32)), .unset, .unset, .unset, .unset, .unset] [(.int (p2 &&& (65535 : Int32)))])
    refine own_step (fun _ k => XS.i2c X0.here hx rfl (hb hby at_9) rfl k) ?_
    show own_Go _ _ _ _ T0 (mkF m 10 #[.val (.int p1), .val (.int p2), .val (.int p3), .val (.int p4), .val (.int (2 : Int32)), .unset, .unset, .unset, .unset, .unset] [(.int ((p2 &&& (65535 : Int32)).toUInt32.toUInt16.toUInt32.toInt32))])
    obtain ⟨c1, ec1⟩ : ∃ y, y = ((p2 &&& (65535 : Int32)).toUInt32.toUInt16.toUInt32.toInt32) := ⟨_, rfl⟩
    rw [← ec1]
    have bc1 : 0 ≤ c1.toInt ∧ c1.toInt ≤ 65535 := by have q := c_i2c (p2 &&& (65535 : Int32)); rw [← ec1] at q; omega
    show own_Go _ _ _ _ T0 (mkF m 10 #[.val (.int p1), .val (.int p2), .val (.int p3), .val (.int p4), .val (.int (2 : Int32)), .unset, .unset, .unset, .unset, .unset] [(.int c1)])
    refine own_step (fun _ k => XS.istore X0.here hx rfl (hb hby at_10) rfl (l' := #[.val (.int p1), .val (.int p2), .val (.int p3), .val (.int p4), .val (.int (2 : Int32)), .val (.int c1), .unset, .unset, .unset, .unset]) rfl k) ?_
    show own_Go _ _ _ _ T0 (mkF m 12 #[.val (.int p1), .val (.int p2), .val (.int p3), .val (.int p4), .val (.int (2 : Int32)), .val (.int c1), .unset, .unset, .unset, .unset] [])
    refine own_step (fun _ k => XS.iloadN X0.here hx rfl (hb hby at_12) rfl k) ?_
    show own_Go _ _ _ _ T0 (mkF m 13 #[.val (.int p1), .val (.int p2), .val (.int p3), .val (.int p4), .val (.int (2 : Int32)), .val (.int c1), .unset, .unset, .unset, .unset] [(.int p3)])
    refine own_step (X0.ldcInt hx hown (mvT hZ (hw _ (List.mem_of_getElem? (i := 0) rfl))) (g := (mkF m 13 #[.val (.int p1), .val (.int p2), .val (.int p3), .val (.int p4), .val (.int (2 : Int32)), .val (.int c1), .unset, .unset, .unset, .unset] [(.int p3)])) rfl (hb hby at_13)) ?_
    show own_Go _ _ _ _ T0 (mkF m 15 #[.val (.int p1), .val (.int p2), .val (.int p3), .val (.int p4), .val (.int (2 : Int32)), .val (.int c1), .unset, .unset, .unset, .unset] [(.int (65535 : Int32)), (.int p3)])
    refine own_step (fun _ k => XS.iand X0.here hx rfl (hb hby at_15) rfl k) ?_
    show own_Go _ _ _ _ T0 (mkF m 16 #[.val (.int p1), .val (.int p2), .val (.int p3), .val (.int p4), .val (.int (2 : Int32)), .val (.int c1), .unset, .unset, .unset, .unset] [(.int (p3 &&& (65535 : Int32)))])
    refine own_step (fun _ k => XS.i2c X0.here hx rfl (hb hby at_16) rfl k) ?_
    show own_Go _ _ _ _ T0 (mkF m 17 #[.val (.int p1), .val (.int p2), .val (.int p3), .val (.int p4), .val (.int (2 : Int32)), .val (.int c1), .unset, .unset, .unset, .unset] [(.int ((p3 &&& (65535 : Int32)).toUInt32.toUInt16.toUInt32.toInt32))])
    obtain ⟨c2, ec2⟩ : ∃ y, y = ((p3 &&& (65535 : Int32)).toUInt32.toUInt16.toUInt32.toInt32) := ⟨_, rfl⟩
    rw [← ec2]
    have bc2 : 0 ≤ c2.toInt ∧ c2.toInt ≤ 65535 := by have q := c_i2c (p3 &&& (65535 : Int32)); rw [← ec2] at q; omega
    show own_Go _ _ _ _ T0 (mkF m 17 #[.val (.int p1), .val (.int p2), .val (.int p3), .val (.int p4), .val (.int (2 : Int32)), .val (.int c1), .unset, .unset, .unset, .unset] [(.int c2)])
    refine own_step (fun _ k => XS.istore X0.here hx rfl (hb hby at_17) rfl (l' := #[.val (.int p1), .val (.int p2), .val (.int p3), .val (.int p4), .val (.int (2 : Int32)), .val (.int c1), .val (.int c2), .unset, .unset, .unset]) rfl k) ?_
    show own_Go _ _ _ _ T0 (mkF m 19 #[.val (.int p1), .val (.int p2), .val (.int p3), .val (.int p4), .val (.int (2 : Int32)), .val (.int c1), .val (.int c2), .unset, .unset, .unset] [])
    refine own_step (fun _ k => XS.iloadN X0.here hx rfl (hb hby at_19) rfl k) ?_
    show own_Go _ _ _ _ T0 (mkF m 20 #[.val (.int p1), .val (.int p2), .val (.int p3), .val (.int p4), .val (.int (2 : Int32)), .val (.int c1), .val (.int c2), .unset, .unset, .unset] [(.int p4)])
    refine own_step (X0.ldcInt hx hown (mvT hZ (hw _ (List.mem_of_getElem? (i := 0) rfl))) (g := (mkF m 20 #[.val (.int p1), .val (.int p2), .val (.int p3), .val (.int p4), .val (.int (2 : Int32)), .val (.int c1), .val (.int c2), .unset, .unset, .unset] [(.int p4)])) rfl (hb hby at_20)) ?_
    show own_Go _ _ _ _ T0 (mkF m 22 #[.val (.int p1), .val (.int p2), .val (.int p3), .val (.int p4), .val (.int (2 : Int32)), .val (.int c1), .val (.int c2), .unset, .unset, .unset] [(.int (65535 : Int32)), (.int p4)])
    refine own_step (fun _ k => XS.iand X0.here hx rfl (hb hby at_22) rfl k) ?_
    show own_Go _ _ _ _ T0 (mkF m 23 #[.val (.int p1), .val (.int p2), .val (.int p3), .val (.int p4), .val (.int (2 : Int32)), .val (.int c1), .val (.int c2), .unset, .unset, .unset] [(.int (p4 &&& (65535 : Int32)))])
    refine own_step (fun _ k => XS.i2c X0.here hx rfl (hb hby at_23) rfl k) ?_
    show own_Go _ _ _ _ T0 (mkF m 24 #[.val (.int p1), .val (.int p2), .val (.int p3), .val (.int p4), .val (.int (2 : Int32)), .val (.int c1), .val (.int c2), .unset, .unset, .unset] [(.int ((p4 &&& (65535 : Int32)).toUInt32.toUInt16.toUInt32.toInt32))])
    obtain ⟨c3, ec3⟩ : ∃ y, y = ((p4 &&& (65535 : Int32)).toUInt32.toUInt16.toUInt32.toInt32) := ⟨_, rfl⟩
    rw [← ec3]
    have bc3 : 0 ≤ c3.toInt ∧ c3.toInt ≤ 65535 := by have q := c_i2c (p4 &&& (65535 : Int32)); rw [← ec3] at q; omega
    show own_Go _ _ _ _ T0 (mkF m 24 #[.val (.int p1), .val (.int p2), .val (.int p3), .val (.int p4), .val (.int (2 : Int32)), .val (.int c1), .val (.int c2), .unset, .unset, .unset] [(.int c3)])
    refine own_step (fun _ k => XS.istore X0.here hx rfl (hb hby at_24) rfl (l' := #[.val (.int p1), .val (.int p2), .val (.int p3), .val (.int p4), .val (.int (2 : Int32)), .val (.int c1), .val (.int c2), .val (.int c3), .unset, .unset]) rfl k) ?_
    show own_Go _ _ _ _ T0 (mkF m 26 #[.val (.int p1), .val (.int p2), .val (.int p3), .val (.int p4), .val (.int (2 : Int32)), .val (.int c1), .val (.int c2), .val (.int c3), .unset, .unset] [])
    refine own_step (fun _ k => XS.iload X0.here hx rfl (hb hby at_26) rfl k) ?_
    show own_Go _ _ _ _ T0 (mkF m 28 #[.val (.int p1), .val (.int p2), .val (.int p3), .val (.int p4), .val (.int (2 : Int32)), .val (.int c1), .val (.int c2), .val (.int c3), .unset, .unset] [(.int (2 : Int32))])
    refine own_step (fun _ k => XS.ifYes X0.here hx rfl (pc0 := 28) (pc' := 46) rfl (hb hby at_28) rfl ((if0 _ _).trans (feq (by decide : ¬ ((2 : Int32) = (0 : Int32)))).2) (by decide) (by decide) k) ?_
    show own_Go _ _ _ _ T0 (mkF m 46 #[.val (.int p1), .val (.int p2), .val (.int p3), .val (.int p4), .val (.int (2 : Int32)), .val (.int c1), .val (.int c2), .val (.int c3), .unset, .unset] [])
    refine own_step (fun _ k => XS.iload X0.here hx rfl (hb hby at_46) rfl k) ?_
    show own_Go _ _ _ _ T0 (mkF m 48 #[.val (.int p1), .val (.int p2), .val (.int p3), .val (.int p4), .val (.int (2 : Int32)), .val (.int c1), .val (.int c2), .val (.int c3), .unset, .unset] [(.int (2 : Int32))])
    refine own_step (fun _ k => XS.iconst X0.here hx rfl (hb hby at_48) k) ?_
    show own_Go _ _ _ _ T0 (mkF m 49 #[.val (.int p1), .val (.int p2), .val (.int p3), .val (.int p4), .val (.int (2 : Int32)), .val (.int c1), .val (.int c2), .val (.int c3), .unset, .unset] [(.int (1 : Int32)), (.int (2 : Int32))])
    refine own_step (fun _ k => XS.icmpYes X0.here hx rfl (pc0 := 49) (pc' := 72) rfl (hb hby at_49) rfl (feq (by decide : ¬ ((2 : Int32) = (1 : Int32)))).2 (by decide) (by decide) k) ?_
    show own_Go _ _ _ _ T0 (mkF m 72 #[.val (.int p1), .val (.int p2), .val (.int p3), .val (.int p4), .val (.int (2 : Int32)), .val (.int c1), .val (.int c2), .val (.int c3), .unset, .unset] [])
    refine own_step (fun _ k => XS.iload X0.here hx rfl (hb hby at_72) rfl k) ?_
    show own_Go _ _ _ _ T0 (mkF m 74 #[.val (.int p1), .val (.int p2), .val (.int p3), .val (.int p4), .val (.int (2 : Int32)), .val (.int c1), .val (.int c2), .val (.int c3), .unset, .unset] [(.int (2 : Int32))])
    refine own_step (fun _ k => XS.iconst X0.here hx rfl (hb hby at_74) k) ?_
    show own_Go _ _ _ _ T0 (mkF m 75 #[.val (.int p1), .val (.int p2), .val (.int p3), .val (.int p4), .val (.int (2 : Int32)), .val (.int c1), .val (.int c2), .val (.int c3), .unset, .unset] [(.int (2 : Int32)), (.int (2 : Int32))])
    refine own_step (fun _ k => XS.icmpNo X0.here hx rfl (hb hby at_75) rfl (teq (by decide : (2 : Int32) = (2 : Int32))).2 k) ?_
    show own_Go _ _ _ _ T0 (mkF m 78 #[.val (.int p1), .val (.int p2), .val (.int p3), .val (.int p4), .val (.int (2 : Int32)), .val (.int c1), .val (.int c2), .val (.int c3), .unset, .unset] [])
    obtain ⟨T24, h24, X24, e24, E24, A24, D24, -, st24⟩ := newO X0 hx hZ hown (hw _ (List.mem_of_getElem? (i := 1) rfl)) (hw _ (List.mem_of_getElem? (i := 2) rfl)) (hw _ (List.mem_of_getElem? (i := 3) rfl)) e0 (g := (mkF m 78 #[.val (.int p1), .val (.int p2), .val (.int p3), .val (.int p4), .val (.int (2 : Int32)), .val (.int c1), .val (.int c2), .val (.int c3), .unset, .unset] [])) rfl (hb hby at_78) (by decide) (by decide)
    obtain ⟨so, g24⟩ : ∃ z, z = h0.size := ⟨_, rfl⟩
    rw [← g24] at A24 D24 st24
    have g_so : n0 ≤ so := Nat.le_trans Z0 (Nat.le_of_eq g24.symm)
    refine own_step st24 ?_
    have Dc24 := (CHr.ext E24 C0.1)
    have C24 := C0.trans Dc24
    have hk24 := Nat.le_trans (Nat.le_refl _) Dc24.2.1
    have Z24 := Nat.le_trans Z0 E24.1
    have F_value_so : Fld Z h24 so "java/lang/String" "value" "[B" .null := D24 (Or.inr (hw _ (List.mem_of_getElem? (i := 17) rfl))) (ty := (.array .byte)) (by decide)
    have F_coder_so : Fld Z h24 so "java/lang/String" "coder" "B" (.int (0 : Int32)) := D24 (Or.inr (hw _ (List.mem_of_getElem? (i := 18) rfl))) (ty := .byte) (by decide)
    show own_Go _ _ _ _ T24 (mkF m 81 #[.val (.int p1), .val (.int p2), .val (.int p3), .val (.int p4), .val (.int (2 : Int32)), .val (.int c1), .val (.int c2), .val (.int c3), .unset, .unset] [(.ref so)])
    refine own_step (fun _ k => XS.dup X24.here hx rfl (hb hby at_81) rfl rfl k) ?_
    show own_Go _ _ _ _ T24 (mkF m 82 #[.val (.int p1), .val (.int p2), .val (.int p3), .val (.int p4), .val (.int (2 : Int32)), .val (.int c1), .val (.int c2), .val (.int c3), .unset, .unset] [(.ref so), (.ref so)])
    refine own_step (fun _ k => XS.iconst X24.here hx rfl (hb hby at_82) k) ?_
    show own_Go _ _ _ _ T24 (mkF m 83 #[.val (.int p1), .val (.int p2), .val (.int p3), .val (.int p4), .val (.int (2 : Int32)), .val (.int c1), .val (.int c2), .val (.int c3), .unset, .unset] [(.int (2 : Int32)), (.ref so), (.ref so)])
    obtain ⟨T25, h25, k25, ca, g25, X25, e25, E25, V25, st25⟩ := own_newA X24 hx hZ (hw _ (List.mem_of_getElem? (i := 4) rfl)) e24 (g := (mkF m 83 #[.val (.int p1), .val (.int p2), .val (.int p3), .val (.int p4), .val (.int (2 : Int32)), .val (.int c1), .val (.int c2), .val (.int c3), .unset, .unset] [(.int (2 : Int32)), (.ref so), (.ref so)])) rfl (hb hby at_83) rfl (by decide) (cap := 2) (by decide) (by decide) (by decide) (by decide)
    have ne_so_ca : so ≠ ca := Nat.ne_of_lt (Nat.lt_of_lt_of_eq A24.lt g25.symm)
    have g_ca : n0 ≤ ca := Nat.le_trans Z24 (Nat.le_of_eq g25.symm)
    refine own_step st25 ?_
    have Dc25 := (CHr.ext E25 C24.1)
    have C25 := C24.trans Dc25
    have hk25 := Nat.le_trans hk24 Dc25.2.1
    have Z25 := Nat.le_trans Z24 E25.1
    have V_ca : Arv Z h25 ca k25 .char (2 : Int32) [(.int (0 : Int32)), (.int (0 : Int32))] (.int (0 : Int32)) := V25
    show own_Go _ _ _ _ T25 (mkF m 85 #[.val (.int p1), .val (.int p2), .val (.int p3), .val (.int p4), .val (.int (2 : Int32)), .val (.int c1), .val (.int c2), .val (.int c3), .unset, .unset] [(.ref ca), (.ref so), (.ref so)])
    refine own_step (fun _ k => XS.dup X25.here hx rfl (hb hby at_85) rfl rfl k) ?_
    show own_Go _ _ _ _ T25 (mkF m 86 #[.val (.int p1), .val (.int p2), .val (.int p3), .val (.int p4), .val (.int (2 : Int32)), .val (.int c1), .val (.int c2), .val (.int c3), .unset, .unset] [(.ref ca), (.ref ca), (.ref so), (.ref so)])
    refine own_step (fun _ k => XS.iconst X25.here hx rfl (hb hby at_86) k) ?_
    show own_Go _ _ _ _ T25 (mkF m 87 #[.val (.int p1), .val (.int p2), .val (.int p3), .val (.int p4), .val (.int (2 : Int32)), .val (.int c1), .val (.int c2), .val (.int c3), .unset, .unset] [(.int (0 : Int32)), (.ref ca), (.ref ca), (.ref so), (.ref so)])
    refine own_step (fun _ k => XS.iload X25.here hx rfl (hb hby at_87) rfl k) ?_
    show own_Go _ _ _ _ T25 (mkF m 89 #[.val (.int p1), .val (.int p2), .val (.int p3), .val (.int p4), .val (.int (2 : Int32)), .val (.int c1), .val (.int c2), .val (.int c3), .unset, .unset] [(.int c1), (.int (0 : Int32)), (.ref ca), (.ref ca), (.ref so), (.ref so)])
    obtain ⟨T26, h26, l26, X26, e26, W26, V26, st26⟩ := own_stC X25 hx hZ e25 V_ca (j := (0 : Int32)) ⟨by decide, by decide⟩ 0 rfl (Nat.le_of_ble_eq_true rfl) (g := (mkF m 89 #[.val (.int p1), .val (.int p2), .val (.int p3), .val (.int p4), .val (.int (2 : Int32)), .val (.int c1), .val (.int c2), .val (.int c3), .unset, .unset] [(.int c1), (.int (0 : Int32)), (.ref ca), (.ref ca), (.ref so), (.ref so)])) rfl rfl (hb hby at_89)
    refine own_step st26 ?_
    have N26 := Fr.snoc X26 N0 g_ca
    have Dc26 := (CHr.wr W26 (Safe.arv (EL := own_EL) hZ.alike V_ca (by decide)) C25.1)
    have C26 := C25.trans Dc26
    have hk26 := Nat.le_trans hk25 Dc26.2.1
    have Z26 := Nat.le_trans Z25 (Keep.of_wr W26).1
    rw [own_nc bc1] at V26
    have V_ca_26 : Arv Z h26 ca k25 .char (2 : Int32) [(.int c1), (.int (0 : Int32))] (.int (0 : Int32)) := V26
    show own_Go _ _ _ _ T26 (mkF m 90 #[.val (.int p1), .val (.int p2), .val (.int p3), .val (.int p4), .val (.int (2 : Int32)), .val (.int c1), .val (.int c2), .val (.int c3), .unset, .unset] [(.ref ca), (.ref so), (.ref so)])
    refine own_step (fun _ k => XS.dup X26.here hx rfl (hb hby at_90) rfl rfl k) ?_
    show own_Go _ _ _ _ T26 (mkF m 91 #[.val (.int p1), .val (.int p2), .val (.int p3), .val (.int p4), .val (.int (2 : Int32)), .val (.int c1), .val (.int c2), .val (.int c3), .unset, .unset] [(.ref ca), (.ref ca), (.ref so), (.ref so)])
    refine own_step (fun _ k => XS.iconst X26.here hx rfl (hb hby at_91) k) ?_
    show own_Go _ _ _ _ T26 (mkF m 92 #[.val (.int p1), .val (.int p2), .val (.int p3), .val (.int p4), .val (.int (2 : Int32)), .val (.int c1), .val (.int c2), .val (.int c3), .unset, .unset] [(.int (1 : Int32)), (.ref ca), (.ref ca), (.ref so), (.ref so)])
    refine own_step (fun _ k => XS.iload X26.here hx rfl (hb hby at_92) rfl k) ?_
    show own_Go _ _ _ _ T26 (mkF m 94 #[.val (.int p1), .val (.int p2), .val (.int p3), .val (.int p4), .val (.int (2 : Int32)), .val (.int c1), .val (.int c2), .val (.int c3), .unset, .unset] [(.int c2), (.int (1 : Int32)), (.ref ca), (.ref ca), (.ref so), (.ref so)])
    obtain ⟨T27, h27, l27, X27, e27, W27, V27, st27⟩ := own_stC X26 hx hZ e26 V_ca_26 (j := (1 : Int32)) ⟨by decide, by decide⟩ 1 rfl (Nat.le_of_ble_eq_true rfl) (g := (mkF m 94 #[.val (.int p1), .val (.int p2), .val (.int p3), .val (.int p4), .val (.int (2 : Int32)), .val (.int c1), .val (.int c2), .val (.int c3), .unset, .unset] [(.int c2), (.int (1 : Int32)), (.ref ca), (.ref ca), (.ref so), (.ref so)])) rfl rfl (hb hby at_94)
    refine own_step st27 ?_
    have N27 := Fr.snoc X27 N26 g_ca
    have Dc27 := (CHr.wr W27 (Safe.arv (EL := own_EL) hZ.alike V_ca_26 (by decide)) C26.1)
    have C27 := C26.trans Dc27
    have hk27 := Nat.le_trans hk26 Dc27.2.1
    have Z27 := Nat.le_trans Z26 (Keep.of_wr W27).1
    rw [own_nc bc2] at V27
    have V_ca_27 : Arv Z h27 ca k25 .char (2 : Int32) [(.int c1), (.int c2)] (.int (0 : Int32)) := V27
    show own_Go _ _ _ _ T27 (mkF m 95 #[.val (.int p1), .val (.int p2), .val (.int p3), .val (.int p4), .val (.int (2 : Int32)), .val (.int c1), .val (.int c2), .val (.int c3), .unset, .unset] [(.ref ca), (.ref so), (.ref so)])
    have Q28 := ((((O0.ext E24).ext E25).wr W26 g_ca).wr W27 g_ca)
    have Q29 := (((A24.ext E25).wr W26).wr W27)
    have Q30 := (((F_coder_so.ext E25).other W26 (Or.inl ne_so_ca)).other W27 (Or.inl ne_so_ca))
    have Q31 := (((F_value_so.ext E25).other W26 (Or.inl ne_so_ca)).other W27 (Or.inl ne_so_ca))
    refine own_callCW X27 hx hZ (y := (⟨"java/lang/String", "<init>", "([C)V"⟩ : MethodName)) rfl hown (hw _ (List.mem_of_getElem? (i := 5) rfl)) (hw _ (List.mem_of_getElem? (i := 6) rfl)) (hw _ (List.mem_of_getElem? (i := 3) rfl)) (hw _ (List.mem_of_getElem? (i := 7) rfl)) (by decide) (rm1 l Z a0 hw [] so ca k25 cz (2 : Int32) ([c1, c2] : List Int32) h27 n0 Z27 hEL Q28 SC hcz SA SH SL Q29 Q30 Q31 V_ca_27 rfl (Nat.le_of_ble_eq_true rfl) (own_chb _ (by intro c hc; simp only [List.mem_cons, List.not_mem_nil, or_false] at hc; rcases hc with rfl | rfl; exact bc1; exact bc2)) g_so) e27 hEL C27.1 hS0 hk27 (b := so) 1 (by decide) (by decide) (by decide) (by decide) (g := (mkF m 95 #[.val (.int p1), .val (.int p2), .val (.int p3), .val (.int p4), .val (.int (2 : Int32)), .val (.int c1), .val (.int c2), .val (.int c3), .unset, .unset] [(.ref ca), (.ref so), (.ref so)])) rfl (by rw [hml]; rfl) [(.ref ca)] [(.ref so)] pd_16 rfl rfl rfl (by show 2 * 0 + _ ≤ _; exact Nat.le_of_eq rfl) (hb hby at_95) ?_
    rintro v32 T32 L32 X32 ⟨rfl, Nq32, K32, HS32⟩ D32 hS32 hZ hown
    have N32 := Fr.app N27 Nq32
    show own_Go _ _ _ _ T32 (mkF m 98 #[.val (.int p1), .val (.int p2), .val (.int p3), .val (.int p4), .val (.int (2 : Int32)), .val (.int c1), .val (.int c2), .val (.int c3), .unset, .unset] [(.ref so)])
    have Dc32 := D32
    have C32 := C27.trans Dc32
    have Z32 := Nat.le_trans Z27 K32.1
    refine own_step (fun _ k => XS.astore X32.here hx rfl (hb hby at_98) rfl rfl (l' := #[.val (.int p1), .val (.int p2), .val (.int p3), .val (.int p4), .val (.int (2 : Int32)), .val (.int c1), .val (.int c2), .val (.int c3), .val (.ref so), .unset]) rfl k) ?_
    show own_Go _ _ _ _ T32 (mkF m 100 #[.val (.int p1), .val (.int p2), .val (.int p3), .val (.int p4), .val (.int (2 : Int32)), .val (.int c1), .val (.int c2), .val (.int c3), .val (.ref so), .unset] [])
    refine own_step (fun _ k => XS.goto X32.here hx rfl (pc0 := 100) (pc' := 130) rfl (hb hby at_100) (by decide) (by decide) k) ?_
    show own_Go _ _ _ _ T32 (mkF m 130 #[.val (.int p1), .val (.int p2), .val (.int p3), .val (.int p4), .val (.int (2 : Int32)), .val (.int c1), .val (.int c2), .val (.int c3), .val (.ref so), .unset] [])
    refine own_step (fun _ k => XS.iload X32.here hx rfl (hb hby at_130) rfl k) ?_
    show own_Go _ _ _ _ T32 (mkF m 132 #[.val (.int p1), .val (.int p2), .val (.int p3), .val (.int p4), .val (.int (2 : Int32)), .val (.int c1), .val (.int c2), .val (.int c3), .val (.ref so), .unset] [(.int (2 : Int32))])
    refine own_step (fun _ k => XS.ifNo X32.here hx rfl (hb hby at_132) rfl ((if0 _ _).trans (tlt (by decide : (0 : Int32) < (2 : Int32))).2.2.2) k) ?_
    show own_Go _ _ _ _ T32 (mkF m 135 #[.val (.int p1), .val (.int p2), .val (.int p3), .val (.int p4), .val (.int (2 : Int32)), .val (.int c1), .val (.int c2), .val (.int c3), .val (.ref so), .unset] [])
    refine own_step (fun _ k => XS.iload X32.here hx rfl (hb hby at_135) rfl k) ?_
    show own_Go _ _ _ _ T32 (mkF m 137 #[.val (.int p1), .val (.int p2), .val (.int p3), .val (.int p4), .val (.int (2 : Int32)), .val (.int c1), .val (.int c2), .val (.int c3), .val (.ref so), .unset] [(.int c1)])
    refine own_callS X32 hx hZ (y := (⟨"com/example/stoa/stoa/http/HttpSyntaxIsRequestTargetPinLaw", "visible", "(C)Z"⟩ : MethodName)) hown (hw _ (List.mem_of_getElem? (i := 52) rfl)) (hw _ (List.mem_of_getElem? (i := 53) rfl)) (hw _ (List.mem_of_getElem? (i := 54) rfl)) (hw _ (List.mem_of_getElem? (i := 55) rfl)) (by decide) (rm10 l Z a0 hw [] c1 T32.heap n0 Z32) rfl 0 (by decide) (by decide) (by decide) (by decide) (g := (mkF m 137 #[.val (.int p1), .val (.int p2), .val (.int p3), .val (.int p4), .val (.int (2 : Int32)), .val (.int c1), .val (.int c2), .val (.int c3), .val (.ref so), .unset] [(.int c1)])) rfl (by rw [hml]; rfl) [(.int c1)] [] pd_18 rfl rfl rfl (by show 2 * 0 + _ ≤ _; exact Nat.le_of_eq rfl) (hb hby at_137) ?_
    rintro v33 T33 L33 X33 ⟨rfl, Nq33, e33⟩
    have N33 := Fr.app N32 Nq33
    show own_Go _ _ _ _ T33 (mkF m 140 #[.val (.int p1), .val (.int p2), .val (.int p3), .val (.int p4), .val (.int (2 : Int32)), .val (.int c1), .val (.int c2), .val (.int c3), .val (.ref so), .unset] [(.int (own_vis c1))])
    by_cases hc34 : (own_vis c1) = (0 : Int32)
    · refine own_step (fun _ k => XS.ifYes X33.here hx rfl (pc0 := 140) (pc' := 175) rfl (hb hby at_140) rfl ((if0 _ _).trans (teq hc34).1) (by decide) (by decide) k) ?_
      show own_Go _ _ _ _ T33 (mkF m 175 #[.val (.int p1), .val (.int p2), .val (.int p3), .val (.int p4), .val (.int (2 : Int32)), .val (.int c1), .val (.int c2), .val (.int c3), .val (.ref so), .unset] [])
      refine own_step (fun _ k => XS.iconst X33.here hx rfl (hb hby at_175) k) ?_
      show own_Go _ _ _ _ T33 (mkF m 176 #[.val (.int p1), .val (.int p2), .val (.int p3), .val (.int p4), .val (.int (2 : Int32)), .val (.int c1), .val (.int c2), .val (.int c3), .val (.ref so), .unset] [(.int (0 : Int32))])
      refine own_step (fun _ k => XS.istore X33.here hx rfl (hb hby at_176) rfl (l' := #[.val (.int p1), .val (.int p2), .val (.int p3), .val (.int p4), .val (.int (2 : Int32)), .val (.int c1), .val (.int c2), .val (.int c3), .val (.ref so), .val (.int (0 : Int32))]) rfl k) ?_
      show own_Go _ _ _ _ T33 (mkF m 178 #[.val (.int p1), .val (.int p2), .val (.int p3), .val (.int p4), .val (.int (2 : Int32)), .val (.int c1), .val (.int c2), .val (.int c3), .val (.ref so), .val (.int (0 : Int32))] [])
      refine own_step (fun _ k => XS.aload X33.here hx rfl (hb hby at_178) rfl rfl k) ?_
      show own_Go _ _ _ _ T33 (mkF m 180 #[.val (.int p1), .val (.int p2), .val (.int p3), .val (.int p4), .val (.int (2 : Int32)), .val (.int c1), .val (.int c2), .val (.int c3), .val (.ref so), .val (.int (0 : Int32))] [(.ref so)])
      have Q35 := (Q28.keep K32 (allS g_so all0))
      refine own_callS X33 hx hZ (y := (⟨"com/example/stoa/stoa/http/HttpSyntax", "isRequestTarget", "(Ljava/lang/CharSequence;)Z"⟩ : MethodName)) hown (hw _ (List.mem_of_getElem? (i := 23) rfl)) (hw _ (List.mem_of_getElem? (i := 24) rfl)) (hw _ (List.mem_of_getElem? (i := 25) rfl)) (hw _ (List.mem_of_getElem? (i := 26) rfl)) (by decide) (rm4 l Z a0 hw [] so cz fv (2 : Int32) ([c1, c2] : List Int32) T32.heap n0 Z32 Q35 SC hcz SF hfv SA SH SL HS32) e33 0 (by decide) (by decide) (by decide) (by decide) (g := (mkF m 180 #[.val (.int p1), .val (.int p2), .val (.int p3), .val (.int p4), .val (.int (2 : Int32)), .val (.int c1), .val (.int c2), .val (.int c3), .val (.ref so), .val (.int (0 : Int32))] [(.ref so)])) rfl (by rw [hml]; rfl) [(.ref so)] [] pd_17 rfl rfl rfl (by show 2 * 0 + _ ≤ _; exact Nat.le_of_eq rfl) (hb hby at_180) ?_
      rintro v36 T36 L36 X36 ⟨rfl, Nq36, e36⟩
      have N36 := Fr.app N33 Nq36
      show own_Go _ _ _ _ T36 (mkF m 183 #[.val (.int p1), .val (.int p2), .val (.int p3), .val (.int p4), .val (.int (2 : Int32)), .val (.int c1), .val (.int c2), .val (.int c3), .val (.ref so), .val (.int (0 : Int32))] [(.int (own_rt ([c1, c2] : List Int32)))])
      refine own_step (fun _ k => XS.iload X36.here hx rfl (hb hby at_183) rfl k) ?_
      show own_Go _ _ _ _ T36 (mkF m 185 #[.val (.int p1), .val (.int p2), .val (.int p3), .val (.int p4), .val (.int (2 : Int32)), .val (.int c1), .val (.int c2), .val (.int c3), .val (.ref so), .val (.int (0 : Int32))] [(.int (0 : Int32)), (.int (own_rt ([c1, c2] : List Int32)))])
      refine own_step (fun _ k => XS.icmpNo X36.here hx rfl (hb hby at_185) rfl (teq ((own_rt2 c1 c2).trans (if_pos hc34))).2 k) ?_
      show own_Go _ _ _ _ T36 (mkF m 188 #[.val (.int p1), .val (.int p2), .val (.int p3), .val (.int p4), .val (.int (2 : Int32)), .val (.int c1), .val (.int c2), .val (.int c3), .val (.ref so), .val (.int (0 : Int32))] [])
      refine own_step (fun _ k => XS.iconst X36.here hx rfl (hb hby at_188) k) ?_
      show own_Go _ _ _ _ T36 (mkF m 189 #[.val (.int p1), .val (.int p2), .val (.int p3), .val (.int p4), .val (.int (2 : Int32)), .val (.int c1), .val (.int c2), .val (.int c3), .val (.ref so), .val (.int (0 : Int32))] [(.int (1 : Int32))])
      refine own_step (fun _ k => XS.goto X36.here hx rfl (pc0 := 189) (pc' := 193) rfl (hb hby at_189) (by decide) (by decide) k) ?_
      show own_Go _ _ _ _ T36 (mkF m 193 #[.val (.int p1), .val (.int p2), .val (.int p3), .val (.int p4), .val (.int (2 : Int32)), .val (.int c1), .val (.int c2), .val (.int c3), .val (.ref so), .val (.int (0 : Int32))] [(.int (1 : Int32))])
      exact own_retN X36 hx (t := .boolean) hret (by simp) hlk (hb hby at_193) rfl (own_W X36 hS32 (Nat.le_refl _) e36 eS hZ hEL C32 ⟨rfl, N36⟩ (by decide) (by decide)) 
    · refine own_step (fun _ k => XS.ifNo X33.here hx rfl (hb hby at_140) rfl ((if0 _ _).trans (feq hc34).1) k) ?_
      show own_Go _ _ _ _ T33 (mkF m 143 #[.val (.int p1), .val (.int p2), .val (.int p3), .val (.int p4), .val (.int (2 : Int32)), .val (.int c1), .val (.int c2), .val (.int c3), .val (.ref so), .unset] [])
      refine own_step (fun _ k => XS.iload X33.here hx rfl (hb hby at_143) rfl k) ?_
      show own_Go _ _ _ _ T33 (mkF m 145 #[.val (.int p1), .val (.int p2), .val (.int p3), .val (.int p4), .val (.int (2 : Int32)), .val (.int c1), .val (.int c2), .val (.int c3), .val (.ref so), .unset] [(.int (2 : Int32))])
      refine own_step (fun _ k => XS.iconst X33.here hx rfl (hb hby at_145) k) ?_
      show own_Go _ _ _ _ T33 (mkF m 146 #[.val (.int p1), .val (.int p2), .val (.int p3), .val (.int p4), .val (.int (2 : Int32)), .val (.int c1), .val (.int c2), .val (.int c3), .val (.ref so), .unset] [(.int (2 : Int32)), (.int (2 : Int32))])
      refine own_step (fun _ k => XS.icmpNo X33.here hx rfl (hb hby at_146) rfl (flt (by decide : ¬ ((2 : Int32) < (2 : Int32)))).1 k) ?_
      show own_Go _ _ _ _ T33 (mkF m 149 #[.val (.int p1), .val (.int p2), .val (.int p3), .val (.int p4), .val (.int (2 : Int32)), .val (.int c1), .val (.int c2), .val (.int c3), .val (.ref so), .unset] [])
      refine own_step (fun _ k => XS.iload X33.here hx rfl (hb hby at_149) rfl k) ?_
      show own_Go _ _ _ _ T33 (mkF m 151 #[.val (.int p1), .val (.int p2), .val (.int p3), .val (.int p4), .val (.int (2 : Int32)), .val (.int c1), .val (.int c2), .val (.int c3), .val (.ref so), .unset] [(.int c2)])
      refine own_callS X33 hx hZ (y := (⟨"com/example/stoa/stoa/http/HttpSyntaxIsRequestTargetPinLaw", "visible", "(C)Z"⟩ : MethodName)) hown (hw _ (List.mem_of_getElem? (i := 52) rfl)) (hw _ (List.mem_of_getElem? (i := 53) rfl)) (hw _ (List.mem_of_getElem? (i := 54) rfl)) (hw _ (List.mem_of_getElem? (i := 55) rfl)) (by decide) (rm10 l Z a0 hw [] c2 T32.heap n0 Z32) e33 0 (by decide) (by decide) (by decide) (by decide) (g := (mkF m 151 #[.val (.int p1), .val (.int p2), .val (.int p3), .val (.int p4), .val (.int (2 : Int32)), .val (.int c1), .val (.int c2), .val (.int c3), .val (.ref so), .unset] [(.int c2)])) rfl (by rw [hml]; rfl) [(.int c2)] [] pd_18 rfl rfl rfl (by show 2 * 0 + _ ≤ _; exact Nat.le_of_eq rfl) (hb hby at_151) ?_
      rintro v37 T37 L37 X37 ⟨rfl, Nq37, e37⟩
      have N37 := Fr.app N33 Nq37
      show own_Go _ _ _ _ T37 (mkF m 154 #[.val (.int p1), .val (.int p2), .val (.int p3), .val (.int p4), .val (.int (2 : Int32)), .val (.int c1), .val (.int c2), .val (.int c3), .val (.ref so), .unset] [(.int (own_vis c2))])
      by_cases hc38 : (own_vis c2) = (0 : Int32)
      · refine own_step (fun _ k => XS.ifYes X37.here hx rfl (pc0 := 154) (pc' := 175) rfl (hb hby at_154) rfl ((if0 _ _).trans (teq hc38).1) (by decide) (by decide) k) ?_
        show own_Go _ _ _ _ T37 (mkF m 175 #[.val (.int p1), .val (.int p2), .val (.int p3), .val (.int p4), .val (.int (2 : Int32)), .val (.int c1), .val (.int c2), .val (.int c3), .val (.ref so), .unset] [])
        refine own_step (fun _ k => XS.iconst X37.here hx rfl (hb hby at_175) k) ?_
        show own_Go _ _ _ _ T37 (mkF m 176 #[.val (.int p1), .val (.int p2), .val (.int p3), .val (.int p4), .val (.int (2 : Int32)), .val (.int c1), .val (.int c2), .val (.int c3), .val (.ref so), .unset] [(.int (0 : Int32))])
        refine own_step (fun _ k => XS.istore X37.here hx rfl (hb hby at_176) rfl (l' := #[.val (.int p1), .val (.int p2), .val (.int p3), .val (.int p4), .val (.int (2 : Int32)), .val (.int c1), .val (.int c2), .val (.int c3), .val (.ref so), .val (.int (0 : Int32))]) rfl k) ?_
        show own_Go _ _ _ _ T37 (mkF m 178 #[.val (.int p1), .val (.int p2), .val (.int p3), .val (.int p4), .val (.int (2 : Int32)), .val (.int c1), .val (.int c2), .val (.int c3), .val (.ref so), .val (.int (0 : Int32))] [])
        refine own_step (fun _ k => XS.aload X37.here hx rfl (hb hby at_178) rfl rfl k) ?_
        show own_Go _ _ _ _ T37 (mkF m 180 #[.val (.int p1), .val (.int p2), .val (.int p3), .val (.int p4), .val (.int (2 : Int32)), .val (.int c1), .val (.int c2), .val (.int c3), .val (.ref so), .val (.int (0 : Int32))] [(.ref so)])
        have Q39 := (Q28.keep K32 (allS g_so all0))
        refine own_callS X37 hx hZ (y := (⟨"com/example/stoa/stoa/http/HttpSyntax", "isRequestTarget", "(Ljava/lang/CharSequence;)Z"⟩ : MethodName)) hown (hw _ (List.mem_of_getElem? (i := 23) rfl)) (hw _ (List.mem_of_getElem? (i := 24) rfl)) (hw _ (List.mem_of_getElem? (i := 25) rfl)) (hw _ (List.mem_of_getElem? (i := 26) rfl)) (by decide) (rm4 l Z a0 hw [] so cz fv (2 : Int32) ([c1, c2] : List Int32) T32.heap n0 Z32 Q39 SC hcz SF hfv SA SH SL HS32) e37 0 (by decide) (by decide) (by decide) (by decide) (g := (mkF m 180 #[.val (.int p1), .val (.int p2), .val (.int p3), .val (.int p4), .val (.int (2 : Int32)), .val (.int c1), .val (.int c2), .val (.int c3), .val (.ref so), .val (.int (0 : Int32))] [(.ref so)])) rfl (by rw [hml]; rfl) [(.ref so)] [] pd_17 rfl rfl rfl (by show 2 * 0 + _ ≤ _; exact Nat.le_of_eq rfl) (hb hby at_180) ?_
        rintro v40 T40 L40 X40 ⟨rfl, Nq40, e40⟩
        have N40 := Fr.app N37 Nq40
        show own_Go _ _ _ _ T40 (mkF m 183 #[.val (.int p1), .val (.int p2), .val (.int p3), .val (.int p4), .val (.int (2 : Int32)), .val (.int c1), .val (.int c2), .val (.int c3), .val (.ref so), .val (.int (0 : Int32))] [(.int (own_rt ([c1, c2] : List Int32)))])
        refine own_step (fun _ k => XS.iload X40.here hx rfl (hb hby at_183) rfl k) ?_
        show own_Go _ _ _ _ T40 (mkF m 185 #[.val (.int p1), .val (.int p2), .val (.int p3), .val (.int p4), .val (.int (2 : Int32)), .val (.int c1), .val (.int c2), .val (.int c3), .val (.ref so), .val (.int (0 : Int32))] [(.int (0 : Int32)), (.int (own_rt ([c1, c2] : List Int32)))])
        refine own_step (fun _ k => XS.icmpNo X40.here hx rfl (hb hby at_185) rfl (teq ((own_rt2 c1 c2).trans ((if_neg hc34).trans (if_pos hc38)))).2 k) ?_
        show own_Go _ _ _ _ T40 (mkF m 188 #[.val (.int p1), .val (.int p2), .val (.int p3), .val (.int p4), .val (.int (2 : Int32)), .val (.int c1), .val (.int c2), .val (.int c3), .val (.ref so), .val (.int (0 : Int32))] [])
        refine own_step (fun _ k => XS.iconst X40.here hx rfl (hb hby at_188) k) ?_
        show own_Go _ _ _ _ T40 (mkF m 189 #[.val (.int p1), .val (.int p2), .val (.int p3), .val (.int p4), .val (.int (2 : Int32)), .val (.int c1), .val (.int c2), .val (.int c3), .val (.ref so), .val (.int (0 : Int32))] [(.int (1 : Int32))])
        refine own_step (fun _ k => XS.goto X40.here hx rfl (pc0 := 189) (pc' := 193) rfl (hb hby at_189) (by decide) (by decide) k) ?_
        show own_Go _ _ _ _ T40 (mkF m 193 #[.val (.int p1), .val (.int p2), .val (.int p3), .val (.int p4), .val (.int (2 : Int32)), .val (.int c1), .val (.int c2), .val (.int c3), .val (.ref so), .val (.int (0 : Int32))] [(.int (1 : Int32))])
        exact own_retN X40 hx (t := .boolean) hret (by simp) hlk (hb hby at_193) rfl (own_W X40 hS32 (Nat.le_refl _) e40 eS hZ hEL C32 ⟨rfl, N40⟩ (by decide) (by decide)) 
      · refine own_step (fun _ k => XS.ifNo X37.here hx rfl (hb hby at_154) rfl ((if0 _ _).trans (feq hc38).1) k) ?_
        show own_Go _ _ _ _ T37 (mkF m 157 #[.val (.int p1), .val (.int p2), .val (.int p3), .val (.int p4), .val (.int (2 : Int32)), .val (.int c1), .val (.int c2), .val (.int c3), .val (.ref so), .unset] [])
        refine own_step (fun _ k => XS.iload X37.here hx rfl (hb hby at_157) rfl k) ?_
        show own_Go _ _ _ _ T37 (mkF m 159 #[.val (.int p1), .val (.int p2), .val (.int p3), .val (.int p4), .val (.int (2 : Int32)), .val (.int c1), .val (.int c2), .val (.int c3), .val (.ref so), .unset] [(.int (2 : Int32))])
        refine own_step (fun _ k => XS.iconst X37.here hx rfl (hb hby at_159) k) ?_
        show own_Go _ _ _ _ T37 (mkF m 160 #[.val (.int p1), .val (.int p2), .val (.int p3), .val (.int p4), .val (.int (2 : Int32)), .val (.int c1), .val (.int c2), .val (.int c3), .val (.ref so), .unset] [(.int (3 : Int32)), (.int (2 : Int32))])
        refine own_step (fun _ k => XS.icmpYes X37.here hx rfl (pc0 := 160) (pc' := 171) rfl (hb hby at_160) rfl (tlt (by decide : (2 : Int32) < (3 : Int32))).1 (by decide) (by decide) k) ?_
        show own_Go _ _ _ _ T37 (mkF m 171 #[.val (.int p1), .val (.int p2), .val (.int p3), .val (.int p4), .val (.int (2 : Int32)), .val (.int c1), .val (.int c2), .val (.int c3), .val (.ref so), .unset] [])
        refine own_step (fun _ k => XS.iconst X37.here hx rfl (hb hby at_171) k) ?_
        show own_Go _ _ _ _ T37 (mkF m 172 #[.val (.int p1), .val (.int p2), .val (.int p3), .val (.int p4), .val (.int (2 : Int32)), .val (.int c1), .val (.int c2), .val (.int c3), .val (.ref so), .unset] [(.int (1 : Int32))])
        refine own_step (fun _ k => XS.goto X37.here hx rfl (pc0 := 172) (pc' := 176) rfl (hb hby at_172) (by decide) (by decide) k) ?_
        show own_Go _ _ _ _ T37 (mkF m 176 #[.val (.int p1), .val (.int p2), .val (.int p3), .val (.int p4), .val (.int (2 : Int32)), .val (.int c1), .val (.int c2), .val (.int c3), .val (.ref so), .unset] [(.int (1 : Int32))])
        refine own_step (fun _ k => XS.istore X37.here hx rfl (hb hby at_176) rfl (l' := #[.val (.int p1), .val (.int p2), .val (.int p3), .val (.int p4), .val (.int (2 : Int32)), .val (.int c1), .val (.int c2), .val (.int c3), .val (.ref so), .val (.int (1 : Int32))]) rfl k) ?_
        show own_Go _ _ _ _ T37 (mkF m 178 #[.val (.int p1), .val (.int p2), .val (.int p3), .val (.int p4), .val (.int (2 : Int32)), .val (.int c1), .val (.int c2), .val (.int c3), .val (.ref so), .val (.int (1 : Int32))] [])
        refine own_step (fun _ k => XS.aload X37.here hx rfl (hb hby at_178) rfl rfl k) ?_
        show own_Go _ _ _ _ T37 (mkF m 180 #[.val (.int p1), .val (.int p2), .val (.int p3), .val (.int p4), .val (.int (2 : Int32)), .val (.int c1), .val (.int c2), .val (.int c3), .val (.ref so), .val (.int (1 : Int32))] [(.ref so)])
        have Q41 := (Q28.keep K32 (allS g_so all0))
        refine own_callS X37 hx hZ (y := (⟨"com/example/stoa/stoa/http/HttpSyntax", "isRequestTarget", "(Ljava/lang/CharSequence;)Z"⟩ : MethodName)) hown (hw _ (List.mem_of_getElem? (i := 23) rfl)) (hw _ (List.mem_of_getElem? (i := 24) rfl)) (hw _ (List.mem_of_getElem? (i := 25) rfl)) (hw _ (List.mem_of_getElem? (i := 26) rfl)) (by decide) (rm4 l Z a0 hw [] so cz fv (2 : Int32) ([c1, c2] : List Int32) T32.heap n0 Z32 Q41 SC hcz SF hfv SA SH SL HS32) e37 0 (by decide) (by decide) (by decide) (by decide) (g := (mkF m 180 #[.val (.int p1), .val (.int p2), .val (.int p3), .val (.int p4), .val (.int (2 : Int32)), .val (.int c1), .val (.int c2), .val (.int c3), .val (.ref so), .val (.int (1 : Int32))] [(.ref so)])) rfl (by rw [hml]; rfl) [(.ref so)] [] pd_17 rfl rfl rfl (by show 2 * 0 + _ ≤ _; exact Nat.le_of_eq rfl) (hb hby at_180) ?_
        rintro v42 T42 L42 X42 ⟨rfl, Nq42, e42⟩
        have N42 := Fr.app N37 Nq42
        show own_Go _ _ _ _ T42 (mkF m 183 #[.val (.int p1), .val (.int p2), .val (.int p3), .val (.int p4), .val (.int (2 : Int32)), .val (.int c1), .val (.int c2), .val (.int c3), .val (.ref so), .val (.int (1 : Int32))] [(.int (own_rt ([c1, c2] : List Int32)))])
        refine own_step (fun _ k => XS.iload X42.here hx rfl (hb hby at_183) rfl k) ?_
        show own_Go _ _ _ _ T42 (mkF m 185 #[.val (.int p1), .val (.int p2), .val (.int p3), .val (.int p4), .val (.int (2 : Int32)), .val (.int c1), .val (.int c2), .val (.int c3), .val (.ref so), .val (.int (1 : Int32))] [(.int (1 : Int32)), (.int (own_rt ([c1, c2] : List Int32)))])
        refine own_step (fun _ k => XS.icmpNo X42.here hx rfl (hb hby at_185) rfl (teq ((own_rt2 c1 c2).trans ((if_neg hc34).trans (if_neg hc38)))).2 k) ?_
        show own_Go _ _ _ _ T42 (mkF m 188 #[.val (.int p1), .val (.int p2), .val (.int p3), .val (.int p4), .val (.int (2 : Int32)), .val (.int c1), .val (.int c2), .val (.int c3), .val (.ref so), .val (.int (1 : Int32))] [])
        refine own_step (fun _ k => XS.iconst X42.here hx rfl (hb hby at_188) k) ?_
        show own_Go _ _ _ _ T42 (mkF m 189 #[.val (.int p1), .val (.int p2), .val (.int p3), .val (.int p4), .val (.int (2 : Int32)), .val (.int c1), .val (.int c2), .val (.int c3), .val (.ref so), .val (.int (1 : Int32))] [(.int (1 : Int32))])
        refine own_step (fun _ k => XS.goto X42.here hx rfl (pc0 := 189) (pc' := 193) rfl (hb hby at_189) (by decide) (by decide) k) ?_
        show own_Go _ _ _ _ T42 (mkF m 193 #[.val (.int p1), .val (.int p2), .val (.int p3), .val (.int p4), .val (.int (2 : Int32)), .val (.int c1), .val (.int c2), .val (.int c3), .val (.ref so), .val (.int (1 : Int32))] [(.int (1 : Int32))])
        exact own_retN X42 hx (t := .boolean) hret (by simp) hlk (hb hby at_193) rfl (own_W X42 hS32 (Nat.le_refl _) e42 eS hZ hEL C32 ⟨rfl, N42⟩ (by decide) (by decide)) 
  · refine own_step (fun _ k => XS.iloadN X0.here hx rfl (hb hby at_0) rfl k) ?_
    show own_Go _ _ _ _ T0 (mkF m 1 #[.val (.int p1), .val (.int p2), .val (.int p3), .val (.int p4), .unset, .unset, .unset, .unset, .unset, .unset] [(.int p1)])
    refine own_step (fun _ k => XS.iconst X0.here hx rfl (hb hby at_1) k) ?_
    show own_Go _ _ _ _ T0 (mkF m 2 #[.val (.int p1), .val (.int p2), .val (.int p3), .val (.int p4), .unset, .unset, .unset, .unset, .unset, .unset] [(.int (3 : Int32)), (.int p1)])
    refine own_step (fun _ k => XS.iand X0.here hx rfl (hb hby at_2) rfl k) ?_
    show own_Go _ _ _ _ T0 (mkF m 3 #[.val (.int p1), .val (.int p2), .val (.int p3), .val (.int p4), .unset, .unset, .unset, .unset, .unset, .unset] [(.int (p1 &&& (3 : Int32)))])
    rw [hq]
    show own_Go _ _ _ _ T0 (mkF m 3 #[.val (.int p1), .val (.int p2), .val (.int p3), .val (.int p4), .unset, .unset, .unset, .unset, .unset, .unset] [(.int (3 : Int32))])
    refine own_step (fun _ k => XS.istore X0.here hx rfl (hb hby at_3) rfl (l' := #[.val (.int p1), .val (.int p2), .val (.int p3), .val (.int p4), .val (.int (3 : Int32)), .unset, .unset, .unset, .unset, .unset]) rfl k) ?_
    show own_Go _ _ _ _ T0 (mkF m 5 #[.val (.int p1), .val (.int p2), .val (.int p3), .val (.int p4), .val (.int (3 : Int32)), .unset, .unset, .unset, .unset, .unset] [])
    refine own_step (fun _ k => XS.iloadN X0.here hx rfl (hb hby at_5) rfl k) ?_
    show own_Go _ _ _ _ T0 (mkF m 6 #[.val (.int p1), .val (.int p2), .val (.int p3), .val (.int p4), .val (.int (3 : Int32)), .unset, .unset, .unset, .unset, .unset] [(.int p2)])
    refine own_step (X0.ldcInt hx hown (mvT hZ (hw _ (List.mem_of_getElem? (i := 0) rfl))) (g := (mkF m 6 #[.val (.int p1), .val (.int p2), .val (.int p3), .val (.int p4), .val (.int (3 : Int32)), .unset, .unset, .unset, .unset, .unset] [(.int p2)])) rfl (hb hby at_6)) ?_
    show own_Go _ _ _ _ T0 (mkF m 8 #[.val (.int p1), .val (.int p2), .val (.int p3), .val (.int p4), .val (.int (3 : Int32)), .unset, .unset, .unset, .unset, .unset] [(.int (65535 : Int32)), (.int p2)])
    refine own_step (fun _ k => XS.iand X0.here hx rfl (hb hby at_8) rfl k) ?_
    show own_Go _ _ _ _ T0 (mkF m 9 #[.val (.int p1), .val (.int p2), .val (.int p3), .val (.int p4), .val (.int (3 : Int32)), .unset, .unset, .unset, .unset, .unset] [(.int (p2 &&& (65535 : Int32)))])
    refine own_step (fun _ k => XS.i2c X0.here hx rfl (hb hby at_9) rfl k) ?_
    show own_Go _ _ _ _ T0 (mkF m 10 #[.val (.int p1), .val (.int p2), .val (.int p3), .val (.int p4), .val (.int (3 : Int32)), .unset, .unset, .unset, .unset, .unset] [(.int ((p2 &&& (65535 : Int32)).toUInt32.toUInt16.toUInt32.toInt32))])
    obtain ⟨c1, ec1⟩ : ∃ y, y = ((p2 &&& (65535 : Int32)).toUInt32.toUInt16.toUInt32.toInt32) := ⟨_, rfl⟩
    rw [← ec1]
    have bc1 : 0 ≤ c1.toInt ∧ c1.toInt ≤ 65535 := by have q := c_i2c (p2 &&& (65535 : Int32)); rw [← ec1] at q; omega
    show own_Go _ _ _ _ T0 (mkF m 10 #[.val (.int p1), .val (.int p2), .val (.int p3), .val (.int p4), .val (.int (3 : Int32)), .unset, .unset, .unset, .unset, .unset] [(.int c1)])
    refine own_step (fun _ k => XS.istore X0.here hx rfl (hb hby at_10) rfl (l' := #[.val (.int p1), .val (.int p2), .val (.int p3), .val (.int p4), .val (.int (3 : Int32)), .val (.int c1), .unset, .unset, .unset, .unset]) rfl k) ?_
    show own_Go _ _ _ _ T0 (mkF m 12 #[.val (.int p1), .val (.int p2), .val (.int p3), .val (.int p4), .val (.int (3 : Int32)), .val (.int c1), .unset, .unset, .unset, .unset] [])
    refine own_step (fun _ k => XS.iloadN X0.here hx rfl (hb hby at_12) rfl k) ?_
    show own_Go _ _ _ _ T0 (mkF m 13 #[.val (.int p1), .val (.int p2), .val (.int p3), .val (.int p4), .val (.int (3 : Int32)), .val (.int c1), .unset, .unset, .unset, .unset] [(.int p3)])
    refine own_step (X0.ldcInt hx hown (mvT hZ (hw _ (List.mem_of_getElem? (i := 0) rfl))) (g := (mkF m 13 #[.val (.int p1), .val (.int p2), .val (.int p3), .val (.int p4), .val (.int (3 : Int32)), .val (.int c1), .unset, .unset, .unset, .unset] [(.int p3)])) rfl (hb hby at_13)) ?_
    show own_Go _ _ _ _ T0 (mkF m 15 #[.val (.int p1), .val (.int p2), .val (.int p3), .val (.int p4), .val (.int (3 : Int32)), .val (.int c1), .unset, .unset, .unset, .unset] [(.int (65535 : Int32)), (.int p3)])
    refine own_step (fun _ k => XS.iand X0.here hx rfl (hb hby at_15) rfl k) ?_
    show own_Go _ _ _ _ T0 (mkF m 16 #[.val (.int p1), .val (.int p2), .val (.int p3), .val (.int p4), .val (.int (3 : Int32)), .val (.int c1), .unset, .unset, .unset, .unset] [(.int (p3 &&& (65535 : Int32)))])
    refine own_step (fun _ k => XS.i2c X0.here hx rfl (hb hby at_16) rfl k) ?_
    show own_Go _ _ _ _ T0 (mkF m 17 #[.val (.int p1), .val (.int p2), .val (.int p3), .val (.int p4), .val (.int (3 : Int32)), .val (.int c1), .unset, .unset, .unset, .unset] [(.int ((p3 &&& (65535 : Int32)).toUInt32.toUInt16.toUInt32.toInt32))])
    obtain ⟨c2, ec2⟩ : ∃ y, y = ((p3 &&& (65535 : Int32)).toUInt32.toUInt16.toUInt32.toInt32) := ⟨_, rfl⟩
    rw [← ec2]
    have bc2 : 0 ≤ c2.toInt ∧ c2.toInt ≤ 65535 := by have q := c_i2c (p3 &&& (65535 : Int32)); rw [← ec2] at q; omega
    show own_Go _ _ _ _ T0 (mkF m 17 #[.val (.int p1), .val (.int p2), .val (.int p3), .val (.int p4), .val (.int (3 : Int32)), .val (.int c1), .unset, .unset, .unset, .unset] [(.int c2)])
    refine own_step (fun _ k => XS.istore X0.here hx rfl (hb hby at_17) rfl (l' := #[.val (.int p1), .val (.int p2), .val (.int p3), .val (.int p4), .val (.int (3 : Int32)), .val (.int c1), .val (.int c2), .unset, .unset, .unset]) rfl k) ?_
    show own_Go _ _ _ _ T0 (mkF m 19 #[.val (.int p1), .val (.int p2), .val (.int p3), .val (.int p4), .val (.int (3 : Int32)), .val (.int c1), .val (.int c2), .unset, .unset, .unset] [])
    refine own_step (fun _ k => XS.iloadN X0.here hx rfl (hb hby at_19) rfl k) ?_
    show own_Go _ _ _ _ T0 (mkF m 20 #[.val (.int p1), .val (.int p2), .val (.int p3), .val (.int p4), .val (.int (3 : Int32)), .val (.int c1), .val (.int c2), .unset, .unset, .unset] [(.int p4)])
    refine own_step (X0.ldcInt hx hown (mvT hZ (hw _ (List.mem_of_getElem? (i := 0) rfl))) (g := (mkF m 20 #[.val (.int p1), .val (.int p2), .val (.int p3), .val (.int p4), .val (.int (3 : Int32)), .val (.int c1), .val (.int c2), .unset, .unset, .unset] [(.int p4)])) rfl (hb hby at_20)) ?_
    show own_Go _ _ _ _ T0 (mkF m 22 #[.val (.int p1), .val (.int p2), .val (.int p3), .val (.int p4), .val (.int (3 : Int32)), .val (.int c1), .val (.int c2), .unset, .unset, .unset] [(.int (65535 : Int32)), (.int p4)])
    refine own_step (fun _ k => XS.iand X0.here hx rfl (hb hby at_22) rfl k) ?_
    show own_Go _ _ _ _ T0 (mkF m 23 #[.val (.int p1), .val (.int p2), .val (.int p3), .val (.int p4), .val (.int (3 : Int32)), .val (.int c1), .val (.int c2), .unset, .unset, .unset] [(.int (p4 &&& (65535 : Int32)))])
    refine own_step (fun _ k => XS.i2c X0.here hx rfl (hb hby at_23) rfl k) ?_
    show own_Go _ _ _ _ T0 (mkF m 24 #[.val (.int p1), .val (.int p2), .val (.int p3), .val (.int p4), .val (.int (3 : Int32)), .val (.int c1), .val (.int c2), .unset, .unset, .unset] [(.int ((p4 &&& (65535 : Int32)).toUInt32.toUInt16.toUInt32.toInt32))])
    obtain ⟨c3, ec3⟩ : ∃ y, y = ((p4 &&& (65535 : Int32)).toUInt32.toUInt16.toUInt32.toInt32) := ⟨_, rfl⟩
    rw [← ec3]
    have bc3 : 0 ≤ c3.toInt ∧ c3.toInt ≤ 65535 := by have q := c_i2c (p4 &&& (65535 : Int32)); rw [← ec3] at q; omega
    show own_Go _ _ _ _ T0 (mkF m 24 #[.val (.int p1), .val (.int p2), .val (.int p3), .val (.int p4), .val (.int (3 : Int32)), .val (.int c1), .val (.int c2), .unset, .unset, .unset] [(.int c3)])
    refine own_step (fun _ k => XS.istore X0.here hx rfl (hb hby at_24) rfl (l' := #[.val (.int p1), .val (.int p2), .val (.int p3), .val (.int p4), .val (.int (3 : Int32)), .val (.int c1), .val (.int c2), .val (.int c3), .unset, .unset]) rfl k) ?_
    show own_Go _ _ _ _ T0 (mkF m 26 #[.val (.int p1), .val (.int p2), .val (.int p3), .val (.int p4), .val (.int (3 : Int32)), .val (.int c1), .val (.int c2), .val (.int c3), .unset, .unset] [])
    refine own_step (fun _ k => XS.iload X0.here hx rfl (hb hby at_26) rfl k) ?_
    show own_Go _ _ _ _ T0 (mkF m 28 #[.val (.int p1), .val (.int p2), .val (.int p3), .val (.int p4), .val (.int (3 : Int32)), .val (.int c1), .val (.int c2), .val (.int c3), .unset, .unset] [(.int (3 : Int32))])
    refine own_step (fun _ k => XS.ifYes X0.here hx rfl (pc0 := 28) (pc' := 46) rfl (hb hby at_28) rfl ((if0 _ _).trans (feq (by decide : ¬ ((3 : Int32) = (0 : Int32)))).2) (by decide) (by decide) k) ?_
    show own_Go _ _ _ _ T0 (mkF m 46 #[.val (.int p1), .val (.int p2), .val (.int p3), .val (.int p4), .val (.int (3 : Int32)), .val (.int c1), .val (.int c2), .val (.int c3), .unset, .unset] [])
    refine own_step (fun _ k => XS.iload X0.here hx rfl (hb hby at_46) rfl k) ?_
    show own_Go _ _ _ _ T0 (mkF m 48 #[.val (.int p1), .val (.int p2), .val (.int p3), .val (.int p4), .val (.int (3 : Int32)), .val (.int c1), .val (.int c2), .val (.int c3), .unset, .unset] [(.int (3 : Int32))])
    refine own_step (fun _ k => XS.iconst X0.here hx rfl (hb hby at_48) k) ?_
    show own_Go _ _ _ _ T0 (mkF m 49 #[.val (.int p1), .val (.int p2), .val (.int p3), .val (.int p4), .val (.int (3 : Int32)), .val (.int c1), .val (.int c2), .val (.int c3), .unset, .unset] [(.int (1 : Int32)), (.int (3 : Int32))])
    refine own_step (fun _ k => XS.icmpYes X0.here hx rfl (pc0 := 49) (pc' := 72) rfl (hb hby at_49) rfl (feq (by decide : ¬ ((3 : Int32) = (1 : Int32)))).2 (by decide) (by decide) k) ?_
    show own_Go _ _ _ _ T0 (mkF m 72 #[.val (.int p1), .val (.int p2), .val (.int p3), .val (.int p4), .val (.int (3 : Int32)), .val (.int c1), .val (.int c2), .val (.int c3), .unset, .unset] [])
    refine own_step (fun _ k => XS.iload X0.here hx rfl (hb hby at_72) rfl k) ?_
    show own_Go _ _ _ _ T0 (mkF m 74 #[.val (.int p1), .val (.int p2), .val (.int p3), .val (.int p4), .val (.int (3 : Int32)), .val (.int c1), .val (.int c2), .val (.int c3), .unset, .unset] [(.int (3 : Int32))])
    refine own_step (fun _ k => XS.iconst X0.here hx rfl (hb hby at_74) k) ?_
    show own_Go _ _ _ _ T0 (mkF m 75 #[.val (.int p1), .val (.int p2), .val (.int p3), .val (.int p4), .val (.int (3 : Int32)), .val (.int c1), .val (.int c2), .val (.int c3), .unset, .unset] [(.int (2 : Int32)), (.int (3 : Int32))])
    refine own_step (fun _ k => XS.icmpYes X0.here hx rfl (pc0 := 75) (pc' := 103) rfl (hb hby at_75) rfl (feq (by decide : ¬ ((3 : Int32) = (2 : Int32)))).2 (by decide) (by decide) k) ?_
    show own_Go _ _ _ _ T0 (mkF m 103 #[.val (.int p1), .val (.int p2), .val (.int p3), .val (.int p4), .val (.int (3 : Int32)), .val (.int c1), .val (.int c2), .val (.int c3), .unset, .unset] [])
    obtain ⟨T43, h43, X43, e43, E43, A43, D43, -, st43⟩ := newO X0 hx hZ hown (hw _ (List.mem_of_getElem? (i := 1) rfl)) (hw _ (List.mem_of_getElem? (i := 2) rfl)) (hw _ (List.mem_of_getElem? (i := 3) rfl)) e0 (g := (mkF m 103 #[.val (.int p1), .val (.int p2), .val (.int p3), .val (.int p4), .val (.int (3 : Int32)), .val (.int c1), .val (.int c2), .val (.int c3), .unset, .unset] [])) rfl (hb hby at_103) (by decide) (by decide)
    obtain ⟨so, g43⟩ : ∃ z, z = h0.size := ⟨_, rfl⟩
    rw [← g43] at A43 D43 st43
    have g_so : n0 ≤ so := Nat.le_trans Z0 (Nat.le_of_eq g43.symm)
    refine own_step st43 ?_
    have Dc43 := (CHr.ext E43 C0.1)
    have C43 := C0.trans Dc43
    have hk43 := Nat.le_trans (Nat.le_refl _) Dc43.2.1
    have Z43 := Nat.le_trans Z0 E43.1
    have F_value_so : Fld Z h43 so "java/lang/String" "value" "[B" .null := D43 (Or.inr (hw _ (List.mem_of_getElem? (i := 17) rfl))) (ty := (.array .byte)) (by decide)
    have F_coder_so : Fld Z h43 so "java/lang/String" "coder" "B" (.int (0 : Int32)) := D43 (Or.inr (hw _ (List.mem_of_getElem? (i := 18) rfl))) (ty := .byte) (by decide)
    show own_Go _ _ _ _ T43 (mkF m 106 #[.val (.int p1), .val (.int p2), .val (.int p3), .val (.int p4), .val (.int (3 : Int32)), .val (.int c1), .val (.int c2), .val (.int c3), .unset, .unset] [(.ref so)])
    refine own_step (fun _ k => XS.dup X43.here hx rfl (hb hby at_106) rfl rfl k) ?_
    show own_Go _ _ _ _ T43 (mkF m 107 #[.val (.int p1), .val (.int p2), .val (.int p3), .val (.int p4), .val (.int (3 : Int32)), .val (.int c1), .val (.int c2), .val (.int c3), .unset, .unset] [(.ref so), (.ref so)])
    refine own_step (fun _ k => XS.iconst X43.here hx rfl (hb hby at_107) k) ?_
    show own_Go _ _ _ _ T43 (mkF m 108 #[.val (.int p1), .val (.int p2), .val (.int p3), .val (.int p4), .val (.int (3 : Int32)), .val (.int c1), .val (.int c2), .val (.int c3), .unset, .unset] [(.int (3 : Int32)), (.ref so), (.ref so)])
    obtain ⟨T44, h44, k44, ca, g44, X44, e44, E44, V44, st44⟩ := own_newA X43 hx hZ (hw _ (List.mem_of_getElem? (i := 4) rfl)) e43 (g := (mkF m 108 #[.val (.int p1), .val (.int p2), .val (.int p3), .val (.int p4), .val (.int (3 : Int32)), .val (.int c1), .val (.int c2), .val (.int c3), .unset, .unset] [(.int (3 : Int32)), (.ref so), (.ref so)])) rfl (hb hby at_108) rfl (by decide) (cap := 3) (by decide) (by decide) (by decide) (by decide)
    have ne_so_ca : so ≠ ca := Nat.ne_of_lt (Nat.lt_of_lt_of_eq A43.lt g44.symm)
    have g_ca : n0 ≤ ca := Nat.le_trans Z43 (Nat.le_of_eq g44.symm)
    refine own_step st44 ?_
    have Dc44 := (CHr.ext E44 C43.1)
    have C44 := C43.trans Dc44
    have hk44 := Nat.le_trans hk43 Dc44.2.1
    have Z44 := Nat.le_trans Z43 E44.1
    have V_ca : Arv Z h44 ca k44 .char (3 : Int32) [(.int (0 : Int32)), (.int (0 : Int32)), (.int (0 : Int32))] (.int (0 : Int32)) := V44
    show own_Go _ _ _ _ T44 (mkF m 110 #[.val (.int p1), .val (.int p2), .val (.int p3), .val (.int p4), .val (.int (3 : Int32)), .val (.int c1), .val (.int c2), .val (.int c3), .unset, .unset] [(.ref ca), (.ref so), (.ref so)])
    refine own_step (fun _ k => XS.dup X44.here hx rfl (hb hby at_110) rfl rfl k) ?_
    show own_Go _ _ _ _ T44 (mkF m 111 #[.val (.int p1), .val (.int p2), .val (.int p3), .val (.int p4), .val (.int (3 : Int32)), .val (.int c1), .val (.int c2), .val (.int c3), .unset, .unset] [(.ref ca), (.ref ca), (.ref so), (.ref so)])
    refine own_step (fun _ k => XS.iconst X44.here hx rfl (hb hby at_111) k) ?_
    show own_Go _ _ _ _ T44 (mkF m 112 #[.val (.int p1), .val (.int p2), .val (.int p3), .val (.int p4), .val (.int (3 : Int32)), .val (.int c1), .val (.int c2), .val (.int c3), .unset, .unset] [(.int (0 : Int32)), (.ref ca), (.ref ca), (.ref so), (.ref so)])
    refine own_step (fun _ k => XS.iload X44.here hx rfl (hb hby at_112) rfl k) ?_
    show own_Go _ _ _ _ T44 (mkF m 114 #[.val (.int p1), .val (.int p2), .val (.int p3), .val (.int p4), .val (.int (3 : Int32)), .val (.int c1), .val (.int c2), .val (.int c3), .unset, .unset] [(.int c1), (.int (0 : Int32)), (.ref ca), (.ref ca), (.ref so), (.ref so)])
    obtain ⟨T45, h45, l45, X45, e45, W45, V45, st45⟩ := own_stC X44 hx hZ e44 V_ca (j := (0 : Int32)) ⟨by decide, by decide⟩ 0 rfl (Nat.le_of_ble_eq_true rfl) (g := (mkF m 114 #[.val (.int p1), .val (.int p2), .val (.int p3), .val (.int p4), .val (.int (3 : Int32)), .val (.int c1), .val (.int c2), .val (.int c3), .unset, .unset] [(.int c1), (.int (0 : Int32)), (.ref ca), (.ref ca), (.ref so), (.ref so)])) rfl rfl (hb hby at_114)
    refine own_step st45 ?_
    have N45 := Fr.snoc X45 N0 g_ca
    have Dc45 := (CHr.wr W45 (Safe.arv (EL := own_EL) hZ.alike V_ca (by decide)) C44.1)
    have C45 := C44.trans Dc45
    have hk45 := Nat.le_trans hk44 Dc45.2.1
    have Z45 := Nat.le_trans Z44 (Keep.of_wr W45).1
    rw [own_nc bc1] at V45
    have V_ca_45 : Arv Z h45 ca k44 .char (3 : Int32) [(.int c1), (.int (0 : Int32)), (.int (0 : Int32))] (.int (0 : Int32)) := V45
    show own_Go _ _ _ _ T45 (mkF m 115 #[.val (.int p1), .val (.int p2), .val (.int p3), .val (.int p4), .val (.int (3 : Int32)), .val (.int c1), .val (.int c2), .val (.int c3), .unset, .unset] [(.ref ca), (.ref so), (.ref so)])
    refine own_step (fun _ k => XS.dup X45.here hx rfl (hb hby at_115) rfl rfl k) ?_
    show own_Go _ _ _ _ T45 (mkF m 116 #[.val (.int p1), .val (.int p2), .val (.int p3), .val (.int p4), .val (.int (3 : Int32)), .val (.int c1), .val (.int c2), .val (.int c3), .unset, .unset] [(.ref ca), (.ref ca), (.ref so), (.ref so)])
    refine own_step (fun _ k => XS.iconst X45.here hx rfl (hb hby at_116) k) ?_
    show own_Go _ _ _ _ T45 (mkF m 117 #[.val (.int p1), .val (.int p2), .val (.int p3), .val (.int p4), .val (.int (3 : Int32)), .val (.int c1), .val (.int c2), .val (.int c3), .unset, .unset] [(.int (1 : Int32)), (.ref ca), (.ref ca), (.ref so), (.ref so)])
    refine own_step (fun _ k => XS.iload X45.here hx rfl (hb hby at_117) rfl k) ?_
    show own_Go _ _ _ _ T45 (mkF m 119 #[.val (.int p1), .val (.int p2), .val (.int p3), .val (.int p4), .val (.int (3 : Int32)), .val (.int c1), .val (.int c2), .val (.int c3), .unset, .unset] [(.int c2), (.int (1 : Int32)), (.ref ca), (.ref ca), (.ref so), (.ref so)])
    obtain ⟨T46, h46, l46, X46, e46, W46, V46, st46⟩ := own_stC X45 hx hZ e45 V_ca_45 (j := (1 : Int32)) ⟨by decide, by decide⟩ 1 rfl (Nat.le_of_ble_eq_true rfl) (g := (mkF m 119 #[.val (.int p1), .val (.int p2), .val (.int p3), .val (.int p4), .val (.int (3 : Int32)), .val (.int c1), .val (.int c2), .val (.int c3), .unset, .unset] [(.int c2), (.int (1 : Int32)), (.ref ca), (.ref ca), (.ref so), (.ref so)])) rfl rfl (hb hby at_119)
    refine own_step st46 ?_
    have N46 := Fr.snoc X46 N45 g_ca
    have Dc46 := (CHr.wr W46 (Safe.arv (EL := own_EL) hZ.alike V_ca_45 (by decide)) C45.1)
    have C46 := C45.trans Dc46
    have hk46 := Nat.le_trans hk45 Dc46.2.1
    have Z46 := Nat.le_trans Z45 (Keep.of_wr W46).1
    rw [own_nc bc2] at V46
    have V_ca_46 : Arv Z h46 ca k44 .char (3 : Int32) [(.int c1), (.int c2), (.int (0 : Int32))] (.int (0 : Int32)) := V46
    show own_Go _ _ _ _ T46 (mkF m 120 #[.val (.int p1), .val (.int p2), .val (.int p3), .val (.int p4), .val (.int (3 : Int32)), .val (.int c1), .val (.int c2), .val (.int c3), .unset, .unset] [(.ref ca), (.ref so), (.ref so)])
    refine own_step (fun _ k => XS.dup X46.here hx rfl (hb hby at_120) rfl rfl k) ?_
    show own_Go _ _ _ _ T46 (mkF m 121 #[.val (.int p1), .val (.int p2), .val (.int p3), .val (.int p4), .val (.int (3 : Int32)), .val (.int c1), .val (.int c2), .val (.int c3), .unset, .unset] [(.ref ca), (.ref ca), (.ref so), (.ref so)])
    refine own_step (fun _ k => XS.iconst X46.here hx rfl (hb hby at_121) k) ?_
    show own_Go _ _ _ _ T46 (mkF m 122 #[.val (.int p1), .val (.int p2), .val (.int p3), .val (.int p4), .val (.int (3 : Int32)), .val (.int c1), .val (.int c2), .val (.int c3), .unset, .unset] [(.int (2 : Int32)), (.ref ca), (.ref ca), (.ref so), (.ref so)])
    refine own_step (fun _ k => XS.iload X46.here hx rfl (hb hby at_122) rfl k) ?_
    show own_Go _ _ _ _ T46 (mkF m 124 #[.val (.int p1), .val (.int p2), .val (.int p3), .val (.int p4), .val (.int (3 : Int32)), .val (.int c1), .val (.int c2), .val (.int c3), .unset, .unset] [(.int c3), (.int (2 : Int32)), (.ref ca), (.ref ca), (.ref so), (.ref so)])
    obtain ⟨T47, h47, l47, X47, e47, W47, V47, st47⟩ := own_stC X46 hx hZ e46 V_ca_46 (j := (2 : Int32)) ⟨by decide, by decide⟩ 2 rfl (Nat.le_of_ble_eq_true rfl) (g := (mkF m 124 #[.val (.int p1), .val (.int p2), .val (.int p3), .val (.int p4), .val (.int (3 : Int32)), .val (.int c1), .val (.int c2), .val (.int c3), .unset, .unset] [(.int c3), (.int (2 : Int32)), (.ref ca), (.ref ca), (.ref so), (.ref so)])) rfl rfl (hb hby at_124)
    refine own_step st47 ?_
    have N47 := Fr.snoc X47 N46 g_ca
    have Dc47 := (CHr.wr W47 (Safe.arv (EL := own_EL) hZ.alike V_ca_46 (by decide)) C46.1)
    have C47 := C46.trans Dc47
    have hk47 := Nat.le_trans hk46 Dc47.2.1
    have Z47 := Nat.le_trans Z46 (Keep.of_wr W47).1
    rw [own_nc bc3] at V47
    have V_ca_47 : Arv Z h47 ca k44 .char (3 : Int32) [(.int c1), (.int c2), (.int c3)] (.int (0 : Int32)) := V47
    show own_Go _ _ _ _ T47 (mkF m 125 #[.val (.int p1), .val (.int p2), .val (.int p3), .val (.int p4), .val (.int (3 : Int32)), .val (.int c1), .val (.int c2), .val (.int c3), .unset, .unset] [(.ref ca), (.ref so), (.ref so)])
    have Q48 := (((((O0.ext E43).ext E44).wr W45 g_ca).wr W46 g_ca).wr W47 g_ca)
    have Q49 := ((((A43.ext E44).wr W45).wr W46).wr W47)
    have Q50 := ((((F_coder_so.ext E44).other W45 (Or.inl ne_so_ca)).other W46 (Or.inl ne_so_ca)).other W47 (Or.inl ne_so_ca))
    have Q51 := ((((F_value_so.ext E44).other W45 (Or.inl ne_so_ca)).other W46 (Or.inl ne_so_ca)).other W47 (Or.inl ne_so_ca))
    refine own_callCW X47 hx hZ (y := (⟨"java/lang/String", "<init>", "([C)V"⟩ : MethodName)) rfl hown (hw _ (List.mem_of_getElem? (i := 5) rfl)) (hw _ (List.mem_of_getElem? (i := 6) rfl)) (hw _ (List.mem_of_getElem? (i := 3) rfl)) (hw _ (List.mem_of_getElem? (i := 7) rfl)) (by decide) (rm1 l Z a0 hw [] so ca k44 cz (3 : Int32) ([c1, c2, c3] : List Int32) h47 n0 Z47 hEL Q48 SC hcz SA SH SL Q49 Q50 Q51 V_ca_47 rfl (Nat.le_of_ble_eq_true rfl) (own_chb _ (by intro c hc; simp only [List.mem_cons, List.not_mem_nil, or_false] at hc; rcases hc with rfl | rfl | rfl; exact bc1; exact bc2; exact bc3)) g_so) e47 hEL C47.1 hS0 hk47 (b := so) 1 (by decide) (by decide) (by decide) (by decide) (g := (mkF m 125 #[.val (.int p1), .val (.int p2), .val (.int p3), .val (.int p4), .val (.int (3 : Int32)), .val (.int c1), .val (.int c2), .val (.int c3), .unset, .unset] [(.ref ca), (.ref so), (.ref so)])) rfl (by rw [hml]; rfl) [(.ref ca)] [(.ref so)] pd_16 rfl rfl rfl (by show 2 * 0 + _ ≤ _; exact Nat.le_of_eq rfl) (hb hby at_125) ?_
    rintro v52 T52 L52 X52 ⟨rfl, Nq52, K52, HS52⟩ D52 hS52 hZ hown
    have N52 := Fr.app N47 Nq52
    show own_Go _ _ _ _ T52 (mkF m 128 #[.val (.int p1), .val (.int p2), .val (.int p3), .val (.int p4), .val (.int (3 : Int32)), .val (.int c1), .val (.int c2), .val (.int c3), .unset, .unset] [(.ref so)])
    have Dc52 := D52
    have C52 := C47.trans Dc52
    have Z52 := Nat.le_trans Z47 K52.1
    refine own_step (fun _ k => XS.astore X52.here hx rfl (hb hby at_128) rfl rfl (l' := #[.val (.int p1), .val (.int p2), .val (.int p3), .val (.int p4), .val (.int (3 : Int32)), .val (.int c1), .val (.int c2), .val (.int c3), .val (.ref so), .unset]) rfl k) ?_
    show own_Go _ _ _ _ T52 (mkF m 130 #[.val (.int p1), .val (.int p2), .val (.int p3), .val (.int p4), .val (.int (3 : Int32)), .val (.int c1), .val (.int c2), .val (.int c3), .val (.ref so), .unset] [])
    refine own_step (fun _ k => XS.iload X52.here hx rfl (hb hby at_130) rfl k) ?_
    show own_Go _ _ _ _ T52 (mkF m 132 #[.val (.int p1), .val (.int p2), .val (.int p3), .val (.int p4), .val (.int (3 : Int32)), .val (.int c1), .val (.int c2), .val (.int c3), .val (.ref so), .unset] [(.int (3 : Int32))])
    refine own_step (fun _ k => XS.ifNo X52.here hx rfl (hb hby at_132) rfl ((if0 _ _).trans (tlt (by decide : (0 : Int32) < (3 : Int32))).2.2.2) k) ?_
    show own_Go _ _ _ _ T52 (mkF m 135 #[.val (.int p1), .val (.int p2), .val (.int p3), .val (.int p4), .val (.int (3 : Int32)), .val (.int c1), .val (.int c2), .val (.int c3), .val (.ref so), .unset] [])
    refine own_step (fun _ k => XS.iload X52.here hx rfl (hb hby at_135) rfl k) ?_
    show own_Go _ _ _ _ T52 (mkF m 137 #[.val (.int p1), .val (.int p2), .val (.int p3), .val (.int p4), .val (.int (3 : Int32)), .val (.int c1), .val (.int c2), .val (.int c3), .val (.ref so), .unset] [(.int c1)])
    refine own_callS X52 hx hZ (y := (⟨"com/example/stoa/stoa/http/HttpSyntaxIsRequestTargetPinLaw", "visible", "(C)Z"⟩ : MethodName)) hown (hw _ (List.mem_of_getElem? (i := 52) rfl)) (hw _ (List.mem_of_getElem? (i := 53) rfl)) (hw _ (List.mem_of_getElem? (i := 54) rfl)) (hw _ (List.mem_of_getElem? (i := 55) rfl)) (by decide) (rm10 l Z a0 hw [] c1 T52.heap n0 Z52) rfl 0 (by decide) (by decide) (by decide) (by decide) (g := (mkF m 137 #[.val (.int p1), .val (.int p2), .val (.int p3), .val (.int p4), .val (.int (3 : Int32)), .val (.int c1), .val (.int c2), .val (.int c3), .val (.ref so), .unset] [(.int c1)])) rfl (by rw [hml]; rfl) [(.int c1)] [] pd_18 rfl rfl rfl (by show 2 * 0 + _ ≤ _; exact Nat.le_of_eq rfl) (hb hby at_137) ?_
    rintro v53 T53 L53 X53 ⟨rfl, Nq53, e53⟩
    have N53 := Fr.app N52 Nq53
    show own_Go _ _ _ _ T53 (mkF m 140 #[.val (.int p1), .val (.int p2), .val (.int p3), .val (.int p4), .val (.int (3 : Int32)), .val (.int c1), .val (.int c2), .val (.int c3), .val (.ref so), .unset] [(.int (own_vis c1))])
    by_cases hc54 : (own_vis c1) = (0 : Int32)
    · refine own_step (fun _ k => XS.ifYes X53.here hx rfl (pc0 := 140) (pc' := 175) rfl (hb hby at_140) rfl ((if0 _ _).trans (teq hc54).1) (by decide) (by decide) k) ?_
      show own_Go _ _ _ _ T53 (mkF m 175 #[.val (.int p1), .val (.int p2), .val (.int p3), .val (.int p4), .val (.int (3 : Int32)), .val (.int c1), .val (.int c2), .val (.int c3), .val (.ref so), .unset] [])
      refine own_step (fun _ k => XS.iconst X53.here hx rfl (hb hby at_175) k) ?_
      show own_Go _ _ _ _ T53 (mkF m 176 #[.val (.int p1), .val (.int p2), .val (.int p3), .val (.int p4), .val (.int (3 : Int32)), .val (.int c1), .val (.int c2), .val (.int c3), .val (.ref so), .unset] [(.int (0 : Int32))])
      refine own_step (fun _ k => XS.istore X53.here hx rfl (hb hby at_176) rfl (l' := #[.val (.int p1), .val (.int p2), .val (.int p3), .val (.int p4), .val (.int (3 : Int32)), .val (.int c1), .val (.int c2), .val (.int c3), .val (.ref so), .val (.int (0 : Int32))]) rfl k) ?_
      show own_Go _ _ _ _ T53 (mkF m 178 #[.val (.int p1), .val (.int p2), .val (.int p3), .val (.int p4), .val (.int (3 : Int32)), .val (.int c1), .val (.int c2), .val (.int c3), .val (.ref so), .val (.int (0 : Int32))] [])
      refine own_step (fun _ k => XS.aload X53.here hx rfl (hb hby at_178) rfl rfl k) ?_
      show own_Go _ _ _ _ T53 (mkF m 180 #[.val (.int p1), .val (.int p2), .val (.int p3), .val (.int p4), .val (.int (3 : Int32)), .val (.int c1), .val (.int c2), .val (.int c3), .val (.ref so), .val (.int (0 : Int32))] [(.ref so)])
      have Q55 := (Q48.keep K52 (allS g_so all0))
      refine own_callS X53 hx hZ (y := (⟨"com/example/stoa/stoa/http/HttpSyntax", "isRequestTarget", "(Ljava/lang/CharSequence;)Z"⟩ : MethodName)) hown (hw _ (List.mem_of_getElem? (i := 23) rfl)) (hw _ (List.mem_of_getElem? (i := 24) rfl)) (hw _ (List.mem_of_getElem? (i := 25) rfl)) (hw _ (List.mem_of_getElem? (i := 26) rfl)) (by decide) (rm4 l Z a0 hw [] so cz fv (3 : Int32) ([c1, c2, c3] : List Int32) T52.heap n0 Z52 Q55 SC hcz SF hfv SA SH SL HS52) e53 0 (by decide) (by decide) (by decide) (by decide) (g := (mkF m 180 #[.val (.int p1), .val (.int p2), .val (.int p3), .val (.int p4), .val (.int (3 : Int32)), .val (.int c1), .val (.int c2), .val (.int c3), .val (.ref so), .val (.int (0 : Int32))] [(.ref so)])) rfl (by rw [hml]; rfl) [(.ref so)] [] pd_17 rfl rfl rfl (by show 2 * 0 + _ ≤ _; exact Nat.le_of_eq rfl) (hb hby at_180) ?_
      rintro v56 T56 L56 X56 ⟨rfl, Nq56, e56⟩
      have N56 := Fr.app N53 Nq56
      show own_Go _ _ _ _ T56 (mkF m 183 #[.val (.int p1), .val (.int p2), .val (.int p3), .val (.int p4), .val (.int (3 : Int32)), .val (.int c1), .val (.int c2), .val (.int c3), .val (.ref so), .val (.int (0 : Int32))] [(.int (own_rt ([c1, c2, c3] : List Int32)))])
      refine own_step (fun _ k => XS.iload X56.here hx rfl (hb hby at_183) rfl k) ?_
      show own_Go _ _ _ _ T56 (mkF m 185 #[.val (.int p1), .val (.int p2), .val (.int p3), .val (.int p4), .val (.int (3 : Int32)), .val (.int c1), .val (.int c2), .val (.int c3), .val (.ref so), .val (.int (0 : Int32))] [(.int (0 : Int32)), (.int (own_rt ([c1, c2, c3] : List Int32)))])
      refine own_step (fun _ k => XS.icmpNo X56.here hx rfl (hb hby at_185) rfl (teq ((own_rt3 c1 c2 c3).trans (if_pos hc54))).2 k) ?_
      show own_Go _ _ _ _ T56 (mkF m 188 #[.val (.int p1), .val (.int p2), .val (.int p3), .val (.int p4), .val (.int (3 : Int32)), .val (.int c1), .val (.int c2), .val (.int c3), .val (.ref so), .val (.int (0 : Int32))] [])
      refine own_step (fun _ k => XS.iconst X56.here hx rfl (hb hby at_188) k) ?_
      show own_Go _ _ _ _ T56 (mkF m 189 #[.val (.int p1), .val (.int p2), .val (.int p3), .val (.int p4), .val (.int (3 : Int32)), .val (.int c1), .val (.int c2), .val (.int c3), .val (.ref so), .val (.int (0 : Int32))] [(.int (1 : Int32))])
      refine own_step (fun _ k => XS.goto X56.here hx rfl (pc0 := 189) (pc' := 193) rfl (hb hby at_189) (by decide) (by decide) k) ?_
      show own_Go _ _ _ _ T56 (mkF m 193 #[.val (.int p1), .val (.int p2), .val (.int p3), .val (.int p4), .val (.int (3 : Int32)), .val (.int c1), .val (.int c2), .val (.int c3), .val (.ref so), .val (.int (0 : Int32))] [(.int (1 : Int32))])
      exact own_retN X56 hx (t := .boolean) hret (by simp) hlk (hb hby at_193) rfl (own_W X56 hS52 (Nat.le_refl _) e56 eS hZ hEL C52 ⟨rfl, N56⟩ (by decide) (by decide)) 
    · refine own_step (fun _ k => XS.ifNo X53.here hx rfl (hb hby at_140) rfl ((if0 _ _).trans (feq hc54).1) k) ?_
      show own_Go _ _ _ _ T53 (mkF m 143 #[.val (.int p1), .val (.int p2), .val (.int p3), .val (.int p4), .val (.int (3 : Int32)), .val (.int c1), .val (.int c2), .val (.int c3), .val (.ref so), .unset] [])
      refine own_step (fun _ k => XS.iload X53.here hx rfl (hb hby at_143) rfl k) ?_
      show own_Go _ _ _ _ T53 (mkF m 145 #[.val (.int p1), .val (.int p2), .val (.int p3), .val (.int p4), .val (.int (3 : Int32)), .val (.int c1), .val (.int c2), .val (.int c3), .val (.ref so), .unset] [(.int (3 : Int32))])
      refine own_step (fun _ k => XS.iconst X53.here hx rfl (hb hby at_145) k) ?_
      show own_Go _ _ _ _ T53 (mkF m 146 #[.val (.int p1), .val (.int p2), .val (.int p3), .val (.int p4), .val (.int (3 : Int32)), .val (.int c1), .val (.int c2), .val (.int c3), .val (.ref so), .unset] [(.int (2 : Int32)), (.int (3 : Int32))])
      refine own_step (fun _ k => XS.icmpNo X53.here hx rfl (hb hby at_146) rfl (flt (by decide : ¬ ((3 : Int32) < (2 : Int32)))).1 k) ?_
      show own_Go _ _ _ _ T53 (mkF m 149 #[.val (.int p1), .val (.int p2), .val (.int p3), .val (.int p4), .val (.int (3 : Int32)), .val (.int c1), .val (.int c2), .val (.int c3), .val (.ref so), .unset] [])
      refine own_step (fun _ k => XS.iload X53.here hx rfl (hb hby at_149) rfl k) ?_
      show own_Go _ _ _ _ T53 (mkF m 151 #[.val (.int p1), .val (.int p2), .val (.int p3), .val (.int p4), .val (.int (3 : Int32)), .val (.int c1), .val (.int c2), .val (.int c3), .val (.ref so), .unset] [(.int c2)])
      refine own_callS X53 hx hZ (y := (⟨"com/example/stoa/stoa/http/HttpSyntaxIsRequestTargetPinLaw", "visible", "(C)Z"⟩ : MethodName)) hown (hw _ (List.mem_of_getElem? (i := 52) rfl)) (hw _ (List.mem_of_getElem? (i := 53) rfl)) (hw _ (List.mem_of_getElem? (i := 54) rfl)) (hw _ (List.mem_of_getElem? (i := 55) rfl)) (by decide) (rm10 l Z a0 hw [] c2 T52.heap n0 Z52) e53 0 (by decide) (by decide) (by decide) (by decide) (g := (mkF m 151 #[.val (.int p1), .val (.int p2), .val (.int p3), .val (.int p4), .val (.int (3 : Int32)), .val (.int c1), .val (.int c2), .val (.int c3), .val (.ref so), .unset] [(.int c2)])) rfl (by rw [hml]; rfl) [(.int c2)] [] pd_18 rfl rfl rfl (by show 2 * 0 + _ ≤ _; exact Nat.le_of_eq rfl) (hb hby at_151) ?_
      rintro v57 T57 L57 X57 ⟨rfl, Nq57, e57⟩
      have N57 := Fr.app N53 Nq57
      show own_Go _ _ _ _ T57 (mkF m 154 #[.val (.int p1), .val (.int p2), .val (.int p3), .val (.int p4), .val (.int (3 : Int32)), .val (.int c1), .val (.int c2), .val (.int c3), .val (.ref so), .unset] [(.int (own_vis c2))])
      by_cases hc58 : (own_vis c2) = (0 : Int32)
      · refine own_step (fun _ k => XS.ifYes X57.here hx rfl (pc0 := 154) (pc' := 175) rfl (hb hby at_154) rfl ((if0 _ _).trans (teq hc58).1) (by decide) (by decide) k) ?_
        show own_Go _ _ _ _ T57 (mkF m 175 #[.val (.int p1), .val (.int p2), .val (.int p3), .val (.int p4), .val (.int (3 : Int32)), .val (.int c1), .val (.int c2), .val (.int c3), .val (.ref so), .unset] [])
        refine own_step (fun _ k => XS.iconst X57.here hx rfl (hb hby at_175) k) ?_
        show own_Go _ _ _ _ T57 (mkF m 176 #[.val (.int p1), .val (.int p2), .val (.int p3), .val (.int p4), .val (.int (3 : Int32)), .val (.int c1), .val (.int c2), .val (.int c3), .val (.ref so), .unset] [(.int (0 : Int32))])
        refine own_step (fun _ k => XS.istore X57.here hx rfl (hb hby at_176) rfl (l' := #[.val (.int p1), .val (.int p2), .val (.int p3), .val (.int p4), .val (.int (3 : Int32)), .val (.int c1), .val (.int c2), .val (.int c3), .val (.ref so), .val (.int (0 : Int32))]) rfl k) ?_
        show own_Go _ _ _ _ T57 (mkF m 178 #[.val (.int p1), .val (.int p2), .val (.int p3), .val (.int p4), .val (.int (3 : Int32)), .val (.int c1), .val (.int c2), .val (.int c3), .val (.ref so), .val (.int (0 : Int32))] [])
        refine own_step (fun _ k => XS.aload X57.here hx rfl (hb hby at_178) rfl rfl k) ?_
        show own_Go _ _ _ _ T57 (mkF m 180 #[.val (.int p1), .val (.int p2), .val (.int p3), .val (.int p4), .val (.int (3 : Int32)), .val (.int c1), .val (.int c2), .val (.int c3), .val (.ref so), .val (.int (0 : Int32))] [(.ref so)])
        have Q59 := (Q48.keep K52 (allS g_so all0))
        refine own_callS X57 hx hZ (y := (⟨"com/example/stoa/stoa/http/HttpSyntax", "isRequestTarget", "(Ljava/lang/CharSequence;)Z"⟩ : MethodName)) hown (hw _ (List.mem_of_getElem? (i := 23) rfl)) (hw _ (List.mem_of_getElem? (i := 24) rfl)) (hw _ (List.mem_of_getElem? (i := 25) rfl)) (hw _ (List.mem_of_getElem? (i := 26) rfl)) (by decide) (rm4 l Z a0 hw [] so cz fv (3 : Int32) ([c1, c2, c3] : List Int32) T52.heap n0 Z52 Q59 SC hcz SF hfv SA SH SL HS52) e57 0 (by decide) (by decide) (by decide) (by decide) (g := (mkF m 180 #[.val (.int p1), .val (.int p2), .val (.int p3), .val (.int p4), .val (.int (3 : Int32)), .val (.int c1), .val (.int c2), .val (.int c3), .val (.ref so), .val (.int (0 : Int32))] [(.ref so)])) rfl (by rw [hml]; rfl) [(.ref so)] [] pd_17 rfl rfl rfl (by show 2 * 0 + _ ≤ _; exact Nat.le_of_eq rfl) (hb hby at_180) ?_
        rintro v60 T60 L60 X60 ⟨rfl, Nq60, e60⟩
        have N60 := Fr.app N57 Nq60
        show own_Go _ _ _ _ T60 (mkF m 183 #[.val (.int p1), .val (.int p2), .val (.int p3), .val (.int p4), .val (.int (3 : Int32)), .val (.int c1), .val (.int c2), .val (.int c3), .val (.ref so), .val (.int (0 : Int32))] [(.int (own_rt ([c1, c2, c3] : List Int32)))])
        refine own_step (fun _ k => XS.iload X60.here hx rfl (hb hby at_183) rfl k) ?_
        show own_Go _ _ _ _ T60 (mkF m 185 #[.val (.int p1), .val (.int p2), .val (.int p3), .val (.int p4), .val (.int (3 : Int32)), .val (.int c1), .val (.int c2), .val (.int c3), .val (.ref so), .val (.int (0 : Int32))] [(.int (0 : Int32)), (.int (own_rt ([c1, c2, c3] : List Int32)))])
        refine own_step (fun _ k => XS.icmpNo X60.here hx rfl (hb hby at_185) rfl (teq ((own_rt3 c1 c2 c3).trans ((if_neg hc54).trans (if_pos hc58)))).2 k) ?_
        show own_Go _ _ _ _ T60 (mkF m 188 #[.val (.int p1), .val (.int p2), .val (.int p3), .val (.int p4), .val (.int (3 : Int32)), .val (.int c1), .val (.int c2), .val (.int c3), .val (.ref so), .val (.int (0 : Int32))] [])
        refine own_step (fun _ k => XS.iconst X60.here hx rfl (hb hby at_188) k) ?_
        show own_Go _ _ _ _ T60 (mkF m 189 #[.val (.int p1), .val (.int p2), .val (.int p3), .val (.int p4), .val (.int (3 : Int32)), .val (.int c1), .val (.int c2), .val (.int c3), .val (.ref so), .val (.int (0 : Int32))] [(.int (1 : Int32))])
        refine own_step (fun _ k => XS.goto X60.here hx rfl (pc0 := 189) (pc' := 193) rfl (hb hby at_189) (by decide) (by decide) k) ?_
        show own_Go _ _ _ _ T60 (mkF m 193 #[.val (.int p1), .val (.int p2), .val (.int p3), .val (.int p4), .val (.int (3 : Int32)), .val (.int c1), .val (.int c2), .val (.int c3), .val (.ref so), .val (.int (0 : Int32))] [(.int (1 : Int32))])
        exact own_retN X60 hx (t := .boolean) hret (by simp) hlk (hb hby at_193) rfl (own_W X60 hS52 (Nat.le_refl _) e60 eS hZ hEL C52 ⟨rfl, N60⟩ (by decide) (by decide)) 
      · refine own_step (fun _ k => XS.ifNo X57.here hx rfl (hb hby at_154) rfl ((if0 _ _).trans (feq hc58).1) k) ?_
        show own_Go _ _ _ _ T57 (mkF m 157 #[.val (.int p1), .val (.int p2), .val (.int p3), .val (.int p4), .val (.int (3 : Int32)), .val (.int c1), .val (.int c2), .val (.int c3), .val (.ref so), .unset] [])
        refine own_step (fun _ k => XS.iload X57.here hx rfl (hb hby at_157) rfl k) ?_
        show own_Go _ _ _ _ T57 (mkF m 159 #[.val (.int p1), .val (.int p2), .val (.int p3), .val (.int p4), .val (.int (3 : Int32)), .val (.int c1), .val (.int c2), .val (.int c3), .val (.ref so), .unset] [(.int (3 : Int32))])
        refine own_step (fun _ k => XS.iconst X57.here hx rfl (hb hby at_159) k) ?_
        show own_Go _ _ _ _ T57 (mkF m 160 #[.val (.int p1), .val (.int p2), .val (.int p3), .val (.int p4), .val (.int (3 : Int32)), .val (.int c1), .val (.int c2), .val (.int c3), .val (.ref so), .unset] [(.int (3 : Int32)), (.int (3 : Int32))])
        refine own_step (fun _ k => XS.icmpNo X57.here hx rfl (hb hby at_160) rfl (flt (by decide : ¬ ((3 : Int32) < (3 : Int32)))).1 k) ?_
        show own_Go _ _ _ _ T57 (mkF m 163 #[.val (.int p1), .val (.int p2), .val (.int p3), .val (.int p4), .val (.int (3 : Int32)), .val (.int c1), .val (.int c2), .val (.int c3), .val (.ref so), .unset] [])
        refine own_step (fun _ k => XS.iload X57.here hx rfl (hb hby at_163) rfl k) ?_
        show own_Go _ _ _ _ T57 (mkF m 165 #[.val (.int p1), .val (.int p2), .val (.int p3), .val (.int p4), .val (.int (3 : Int32)), .val (.int c1), .val (.int c2), .val (.int c3), .val (.ref so), .unset] [(.int c3)])
        refine own_callS X57 hx hZ (y := (⟨"com/example/stoa/stoa/http/HttpSyntaxIsRequestTargetPinLaw", "visible", "(C)Z"⟩ : MethodName)) hown (hw _ (List.mem_of_getElem? (i := 52) rfl)) (hw _ (List.mem_of_getElem? (i := 53) rfl)) (hw _ (List.mem_of_getElem? (i := 54) rfl)) (hw _ (List.mem_of_getElem? (i := 55) rfl)) (by decide) (rm10 l Z a0 hw [] c3 T52.heap n0 Z52) e57 0 (by decide) (by decide) (by decide) (by decide) (g := (mkF m 165 #[.val (.int p1), .val (.int p2), .val (.int p3), .val (.int p4), .val (.int (3 : Int32)), .val (.int c1), .val (.int c2), .val (.int c3), .val (.ref so), .unset] [(.int c3)])) rfl (by rw [hml]; rfl) [(.int c3)] [] pd_18 rfl rfl rfl (by show 2 * 0 + _ ≤ _; exact Nat.le_of_eq rfl) (hb hby at_165) ?_
        rintro v61 T61 L61 X61 ⟨rfl, Nq61, e61⟩
        have N61 := Fr.app N57 Nq61
        show own_Go _ _ _ _ T61 (mkF m 168 #[.val (.int p1), .val (.int p2), .val (.int p3), .val (.int p4), .val (.int (3 : Int32)), .val (.int c1), .val (.int c2), .val (.int c3), .val (.ref so), .unset] [(.int (own_vis c3))])
        by_cases hc62 : (own_vis c3) = (0 : Int32)
        · refine own_step (fun _ k => XS.ifYes X61.here hx rfl (pc0 := 168) (pc' := 175) rfl (hb hby at_168) rfl ((if0 _ _).trans (teq hc62).1) (by decide) (by decide) k) ?_
          show own_Go _ _ _ _ T61 (mkF m 175 #[.val (.int p1), .val (.int p2), .val (.int p3), .val (.int p4), .val (.int (3 : Int32)), .val (.int c1), .val (.int c2), .val (.int c3), .val (.ref so), .unset] [])
          refine own_step (fun _ k => XS.iconst X61.here hx rfl (hb hby at_175) k) ?_
          show own_Go _ _ _ _ T61 (mkF m 176 #[.val (.int p1), .val (.int p2), .val (.int p3), .val (.int p4), .val (.int (3 : Int32)), .val (.int c1), .val (.int c2), .val (.int c3), .val (.ref so), .unset] [(.int (0 : Int32))])
          refine own_step (fun _ k => XS.istore X61.here hx rfl (hb hby at_176) rfl (l' := #[.val (.int p1), .val (.int p2), .val (.int p3), .val (.int p4), .val (.int (3 : Int32)), .val (.int c1), .val (.int c2), .val (.int c3), .val (.ref so), .val (.int (0 : Int32))]) rfl k) ?_
          show own_Go _ _ _ _ T61 (mkF m 178 #[.val (.int p1), .val (.int p2), .val (.int p3), .val (.int p4), .val (.int (3 : Int32)), .val (.int c1), .val (.int c2), .val (.int c3), .val (.ref so), .val (.int (0 : Int32))] [])
          refine own_step (fun _ k => XS.aload X61.here hx rfl (hb hby at_178) rfl rfl k) ?_
          show own_Go _ _ _ _ T61 (mkF m 180 #[.val (.int p1), .val (.int p2), .val (.int p3), .val (.int p4), .val (.int (3 : Int32)), .val (.int c1), .val (.int c2), .val (.int c3), .val (.ref so), .val (.int (0 : Int32))] [(.ref so)])
          have Q63 := (Q48.keep K52 (allS g_so all0))
          refine own_callS X61 hx hZ (y := (⟨"com/example/stoa/stoa/http/HttpSyntax", "isRequestTarget", "(Ljava/lang/CharSequence;)Z"⟩ : MethodName)) hown (hw _ (List.mem_of_getElem? (i := 23) rfl)) (hw _ (List.mem_of_getElem? (i := 24) rfl)) (hw _ (List.mem_of_getElem? (i := 25) rfl)) (hw _ (List.mem_of_getElem? (i := 26) rfl)) (by decide) (rm4 l Z a0 hw [] so cz fv (3 : Int32) ([c1, c2, c3] : List Int32) T52.heap n0 Z52 Q63 SC hcz SF hfv SA SH SL HS52) e61 0 (by decide) (by decide) (by decide) (by decide) (g := (mkF m 180 #[.val (.int p1), .val (.int p2), .val (.int p3), .val (.int p4), .val (.int (3 : Int32)), .val (.int c1), .val (.int c2), .val (.int c3), .val (.ref so), .val (.int (0 : Int32))] [(.ref so)])) rfl (by rw [hml]; rfl) [(.ref so)] [] pd_17 rfl rfl rfl (by show 2 * 0 + _ ≤ _; exact Nat.le_of_eq rfl) (hb hby at_180) ?_
          rintro v64 T64 L64 X64 ⟨rfl, Nq64, e64⟩
          have N64 := Fr.app N61 Nq64
          show own_Go _ _ _ _ T64 (mkF m 183 #[.val (.int p1), .val (.int p2), .val (.int p3), .val (.int p4), .val (.int (3 : Int32)), .val (.int c1), .val (.int c2), .val (.int c3), .val (.ref so), .val (.int (0 : Int32))] [(.int (own_rt ([c1, c2, c3] : List Int32)))])
          refine own_step (fun _ k => XS.iload X64.here hx rfl (hb hby at_183) rfl k) ?_
          show own_Go _ _ _ _ T64 (mkF m 185 #[.val (.int p1), .val (.int p2), .val (.int p3), .val (.int p4), .val (.int (3 : Int32)), .val (.int c1), .val (.int c2), .val (.int c3), .val (.ref so), .val (.int (0 : Int32))] [(.int (0 : Int32)), (.int (own_rt ([c1, c2, c3] : List Int32)))])
          refine own_step (fun _ k => XS.icmpNo X64.here hx rfl (hb hby at_185) rfl (teq ((own_rt3 c1 c2 c3).trans ((if_neg hc54).trans ((if_neg hc58).trans (if_pos hc62))))).2 k) ?_
          show own_Go _ _ _ _ T64 (mkF m 188 #[.val (.int p1), .val (.int p2), .val (.int p3), .val (.int p4), .val (.int (3 : Int32)), .val (.int c1), .val (.int c2), .val (.int c3), .val (.ref so), .val (.int (0 : Int32))] [])
          refine own_step (fun _ k => XS.iconst X64.here hx rfl (hb hby at_188) k) ?_
          show own_Go _ _ _ _ T64 (mkF m 189 #[.val (.int p1), .val (.int p2), .val (.int p3), .val (.int p4), .val (.int (3 : Int32)), .val (.int c1), .val (.int c2), .val (.int c3), .val (.ref so), .val (.int (0 : Int32))] [(.int (1 : Int32))])
          refine own_step (fun _ k => XS.goto X64.here hx rfl (pc0 := 189) (pc' := 193) rfl (hb hby at_189) (by decide) (by decide) k) ?_
          show own_Go _ _ _ _ T64 (mkF m 193 #[.val (.int p1), .val (.int p2), .val (.int p3), .val (.int p4), .val (.int (3 : Int32)), .val (.int c1), .val (.int c2), .val (.int c3), .val (.ref so), .val (.int (0 : Int32))] [(.int (1 : Int32))])
          exact own_retN X64 hx (t := .boolean) hret (by simp) hlk (hb hby at_193) rfl (own_W X64 hS52 (Nat.le_refl _) e64 eS hZ hEL C52 ⟨rfl, N64⟩ (by decide) (by decide)) 
        · refine own_step (fun _ k => XS.ifNo X61.here hx rfl (hb hby at_168) rfl ((if0 _ _).trans (feq hc62).1) k) ?_
          show own_Go _ _ _ _ T61 (mkF m 171 #[.val (.int p1), .val (.int p2), .val (.int p3), .val (.int p4), .val (.int (3 : Int32)), .val (.int c1), .val (.int c2), .val (.int c3), .val (.ref so), .unset] [])
          refine own_step (fun _ k => XS.iconst X61.here hx rfl (hb hby at_171) k) ?_
          show own_Go _ _ _ _ T61 (mkF m 172 #[.val (.int p1), .val (.int p2), .val (.int p3), .val (.int p4), .val (.int (3 : Int32)), .val (.int c1), .val (.int c2), .val (.int c3), .val (.ref so), .unset] [(.int (1 : Int32))])
          refine own_step (fun _ k => XS.goto X61.here hx rfl (pc0 := 172) (pc' := 176) rfl (hb hby at_172) (by decide) (by decide) k) ?_
          show own_Go _ _ _ _ T61 (mkF m 176 #[.val (.int p1), .val (.int p2), .val (.int p3), .val (.int p4), .val (.int (3 : Int32)), .val (.int c1), .val (.int c2), .val (.int c3), .val (.ref so), .unset] [(.int (1 : Int32))])
          refine own_step (fun _ k => XS.istore X61.here hx rfl (hb hby at_176) rfl (l' := #[.val (.int p1), .val (.int p2), .val (.int p3), .val (.int p4), .val (.int (3 : Int32)), .val (.int c1), .val (.int c2), .val (.int c3), .val (.ref so), .val (.int (1 : Int32))]) rfl k) ?_
          show own_Go _ _ _ _ T61 (mkF m 178 #[.val (.int p1), .val (.int p2), .val (.int p3), .val (.int p4), .val (.int (3 : Int32)), .val (.int c1), .val (.int c2), .val (.int c3), .val (.ref so), .val (.int (1 : Int32))] [])
          refine own_step (fun _ k => XS.aload X61.here hx rfl (hb hby at_178) rfl rfl k) ?_
          show own_Go _ _ _ _ T61 (mkF m 180 #[.val (.int p1), .val (.int p2), .val (.int p3), .val (.int p4), .val (.int (3 : Int32)), .val (.int c1), .val (.int c2), .val (.int c3), .val (.ref so), .val (.int (1 : Int32))] [(.ref so)])
          have Q65 := (Q48.keep K52 (allS g_so all0))
          refine own_callS X61 hx hZ (y := (⟨"com/example/stoa/stoa/http/HttpSyntax", "isRequestTarget", "(Ljava/lang/CharSequence;)Z"⟩ : MethodName)) hown (hw _ (List.mem_of_getElem? (i := 23) rfl)) (hw _ (List.mem_of_getElem? (i := 24) rfl)) (hw _ (List.mem_of_getElem? (i := 25) rfl)) (hw _ (List.mem_of_getElem? (i := 26) rfl)) (by decide) (rm4 l Z a0 hw [] so cz fv (3 : Int32) ([c1, c2, c3] : List Int32) T52.heap n0 Z52 Q65 SC hcz SF hfv SA SH SL HS52) e61 0 (by decide) (by decide) (by decide) (by decide) (g := (mkF m 180 #[.val (.int p1), .val (.int p2), .val (.int p3), .val (.int p4), .val (.int (3 : Int32)), .val (.int c1), .val (.int c2), .val (.int c3), .val (.ref so), .val (.int (1 : Int32))] [(.ref so)])) rfl (by rw [hml]; rfl) [(.ref so)] [] pd_17 rfl rfl rfl (by show 2 * 0 + _ ≤ _; exact Nat.le_of_eq rfl) (hb hby at_180) ?_
          rintro v66 T66 L66 X66 ⟨rfl, Nq66, e66⟩
          have N66 := Fr.app N61 Nq66
          show own_Go _ _ _ _ T66 (mkF m 183 #[.val (.int p1), .val (.int p2), .val (.int p3), .val (.int p4), .val (.int (3 : Int32)), .val (.int c1), .val (.int c2), .val (.int c3), .val (.ref so), .val (.int (1 : Int32))] [(.int (own_rt ([c1, c2, c3] : List Int32)))])
          refine own_step (fun _ k => XS.iload X66.here hx rfl (hb hby at_183) rfl k) ?_
          show own_Go _ _ _ _ T66 (mkF m 185 #[.val (.int p1), .val (.int p2), .val (.int p3), .val (.int p4), .val (.int (3 : Int32)), .val (.int c1), .val (.int c2), .val (.int c3), .val (.ref so), .val (.int (1 : Int32))] [(.int (1 : Int32)), (.int (own_rt ([c1, c2, c3] : List Int32)))])
          refine own_step (fun _ k => XS.icmpNo X66.here hx rfl (hb hby at_185) rfl (teq ((own_rt3 c1 c2 c3).trans ((if_neg hc54).trans ((if_neg hc58).trans (if_neg hc62))))).2 k) ?_
          show own_Go _ _ _ _ T66 (mkF m 188 #[.val (.int p1), .val (.int p2), .val (.int p3), .val (.int p4), .val (.int (3 : Int32)), .val (.int c1), .val (.int c2), .val (.int c3), .val (.ref so), .val (.int (1 : Int32))] [])
          refine own_step (fun _ k => XS.iconst X66.here hx rfl (hb hby at_188) k) ?_
          show own_Go _ _ _ _ T66 (mkF m 189 #[.val (.int p1), .val (.int p2), .val (.int p3), .val (.int p4), .val (.int (3 : Int32)), .val (.int c1), .val (.int c2), .val (.int c3), .val (.ref so), .val (.int (1 : Int32))] [(.int (1 : Int32))])
          refine own_step (fun _ k => XS.goto X66.here hx rfl (pc0 := 189) (pc' := 193) rfl (hb hby at_189) (by decide) (by decide) k) ?_
          show own_Go _ _ _ _ T66 (mkF m 193 #[.val (.int p1), .val (.int p2), .val (.int p3), .val (.int p4), .val (.int (3 : Int32)), .val (.int c1), .val (.int c2), .val (.int c3), .val (.ref so), .val (.int (1 : Int32))] [(.int (1 : Int32))])
          exact own_retN X66 hx (t := .boolean) hret (by simp) hlk (hb hby at_193) rfl (own_W X66 hS52 (Nat.le_refl _) e66 eS hZ hEL C52 ⟨rfl, N66⟩ (by decide) (by decide)) 
set_option maxRecDepth 65536 in
set_option maxHeartbeats 40000000 in
theorem comes_1 {Post : Tables → Env → Array Value → State → Outcome → State → Prop} (hpost : ∀ tb e args s v u, (limb_1_1.after args s (.returned v) u = true ∧ limb_1_2.after args s (.returned v) u = true ∧ True) → ReturnedEndW s (.returned v) u (Jvm.fieldLocs frame_1_writes args s ++ Jvm.arrayLocs frame_1_arrays args s ++ Jvm.staticLocs frame_1_statics s) 24 1152 → Post tb e args s (.returned v) u) :
    ArmFor flags0 classFile x code maxLocals ret World_1 tables_1 room_1 Calls_1 rest_1 Pre_1 Post := by
  intro l hfl _ _ p e ha hc hk s m args below hf hA hF happ hP
  obtain ⟨hcalls, hrest, hpre⟩ := hP
  obtain ⟨-, -, -, hnamed, -, -, -, hat⟩ := (Spec.applies_iff hf).mp happ
  obtain ⟨hg, hn⟩ := and_e (Cond.before_iff.mp (show (Jvm.Cond.and given_1 narrow_1).before args s = true from hpre))
  obtain ⟨gc, g0⟩ := and_e hg
  obtain ⟨h0, g1⟩ := and_e g0
  obtain ⟨h1, g2⟩ := and_e g1
  obtain ⟨h2, g3⟩ := and_e g2
  have h3 := g3
  obtain ⟨w0, w1, w2, w3, rfl⟩ : ∃ w0 w1 w2 w3 : Value, args = #[w0, w1, w2, w3] := by
    have hs : args.size = 4 := by simpa [Cond.value, given_1] using gc
    obtain ⟨L⟩ := args
    match L, hs with
    | [w0, w1, w2, w3], _ => exact ⟨w0, w1, w2, w3, rfl⟩
  have hw := fun d (hd : d ∈ tables_1) => atoms_spec (ws := Jvm.Cond.code x code maxLocals ret :: tables_1) hat d (List.mem_cons_of_mem _ hd)
  have hfit : Fit s := fun {y c} hc i hi => by
    obtain ⟨ha, rfl⟩ := Array.getElem?_eq_some_iff.mp hc
    have q := List.all_eq_true.mp ((Array.all_eq_true_iff_forall_mem.mp hF) _ (Array.getElem_mem ha)) i (List.mem_range.mpr hi)
    simpa [Array.getElem?_eq_getElem hi] using q
  obtain ⟨hsets, hown0⟩ := atoms_of _ (rest_1_c_eq ▸ (show rest_1_c.before _ s = true from hrest))
  have hr0 := Cond.before_iff.mp hown0
  obtain ⟨i0, ei0⟩ := is_v h0
  obtain rfl : w0 = (.int i0) := Option.some.inj ei0
  obtain ⟨i1, ei1⟩ := is_v h1
  obtain rfl : w1 = (.int i1) := Option.some.inj ei1
  obtain ⟨i2, ei2⟩ := is_v h2
  obtain rfl : w2 = (.int i2) := Option.some.inj ei2
  obtain ⟨i3, ei3⟩ := is_v h3
  obtain rfl : w3 = (.int i3) := Option.some.inj ei3
  obtain ⟨cz, ecz⟩ := is_v (Cond.before_iff.mp (hsets _ (List.mem_of_getElem? (i := 1) rfl)))
  have SC := Sta.start ecz (Or.inl (hsets _ (List.mem_of_getElem? (i := 0) rfl)))
  have hcz : ¬ (cz = (0 : Int32)) := gotF (Cond.eq_ints ecz (Term.int_eval (0))) (not_v (Cond.before_iff.mp (hsets _ (List.mem_of_getElem? (i := 2) rfl))))
  obtain ⟨fv, efv, hfv⟩ := isR_v (Cond.before_iff.mp (hsets _ (List.mem_of_getElem? (i := 8) rfl)))
  have SF := Sta.start efv (Or.inl (hsets _ (List.mem_of_getElem? (i := 7) rfl)))
  have hEL : EW s _ own_EL := (EW.cons (hw _ (List.mem_of_getElem? (i := 15) rfl)) (fun c hc => absurd hc (by simp)) EW.nil)
  have hCH : CHv s own_EL s.vm s.heap := CHv.start hEL (fun p hp => hcalls.1 p hp) (hsets _ (List.mem_of_getElem? (i := 2) rfl)) (hw _ (List.mem_of_getElem? (i := 16) rfl)) (hw _ (List.mem_of_getElem? (i := 2) rfl))
  have SA := Sta.start (own_eqI (Cond.before_iff.mp (hsets _ (List.mem_of_getElem? (i := 12) rfl)))) (Or.inl (hsets _ (List.mem_of_getElem? (i := 11) rfl)))
  have SH := Sta.start (own_eqI (Cond.before_iff.mp (hsets _ (List.mem_of_getElem? (i := 15) rfl)))) (Or.inl (hsets _ (List.mem_of_getElem? (i := 14) rfl)))
  have SL := Sta.start (own_eqI (Cond.before_iff.mp (hsets _ (List.mem_of_getElem? (i := 18) rfl)))) (Or.inl (hsets _ (List.mem_of_getElem? (i := 17) rfl)))
  obtain ⟨n, o, h1, h2, h3, _, L, rfl, ⟨rfl, N⟩, -, hq⟩ := rm0 l s _ hw tables_1 i0 i1 i2 i3 cz fv s.heap s.heap.size (Nat.le_refl _) hEL (Old.start s) SC hcz SF hfv SA SH SL p e ha hc hk s m _ below hf ((Spec.applies_iff_loose hf).mp happ).1 ⟨rfl, State.Warmed39.refl s, rfl, hCH⟩ trivial
  refine ⟨n, _, h1, h2, h3, hpost _ _ _ _ _ _ ⟨Cond.after_iff.mpr rfl, Cond.after_iff.mpr (eq_i res_at (Term.int_eval (1)) rfl), trivial⟩ ⟨hq.1, hq.2.1, hq.2.2.1, (hq.2.2.2.sift fun y hy => Or.inr (N y hy)).mono (by decide) (by decide)⟩⟩
theorem main_1_1 : Claimed_1_1 := comes_1 fun _ _ _ _ _ _ h hF => ⟨h.1, hF⟩
theorem main_1_2 : Claimed_1_2 := comes_1 fun _ _ _ _ _ _ h hF => ⟨h.2.1, hF⟩
end Jvm.Pilot.@@N@@
namespace Jvm.Pilot.@@N@@
open Jvm Jvm.ClassFile Sem Op Lib Jvm.Free Jvm.Stand Jvm.Pilot.@@N@@.Jvm.D
/-! MADE BY PROGRAM (witnessworld.py) out of the Statement's table words and the real class files: 20 classes; the members and pool entries that the words name. The judged class is class 1, her method 2. -/
namespace start1
open Jvm.ClassFile
def u (s : String) : CpInfo := .utf8 (stringToUtf16 s)
/-- a pool by its gaps: so many unusable entries, then the entry; so many at the end -/
def gap : Nat → List CpInfo → List CpInfo
  | 0, r => r
  | n + 1, r => .unusable :: gap n r
def poolList (es : List (Nat × CpInfo)) (last : Nat) : List CpInfo := es.foldr (fun e r => gap e.1 (e.2 :: r)) (gap last [])
def pool (es : List (Nat × CpInfo)) (last : Nat) : Array CpInfo := ⟨poolList es last⟩
def fileOf (pool : Array CpInfo) (this : Nat) (attrs : Array Attribute := #[]) (ms : Array MethodInfo := #[]) (fl : Nat := 33) (sup : Nat := 0) (ifs : Array Nat := #[]) (fds : Array FieldInfo := #[]) : ClassFile where
  minorVersion := 0
  majorVersion := 65
  constantPool := pool
  accessFlags := fl
  thisClass := this
  superClass := sup
  interfaces := ifs
  fields := fds
  methods := ms
  attributes := attrs
def plain (name : String) (sup : Option ClassId) : Class where
  name := name
  kind := .ordinary
  loader := none
  accessFlags := 33
  super := sup
  interfaces := #[]
  cf := none
  fields := #[]
  methods := #[]
  instanceTypes := #[]
  staticTypes := #[]
  resolved := #[]
  callSites := []
  init := .initialized
  statics := none
  mirror := none

def pool0 : Array CpInfo := pool [(5, u "<init>"), (0, u "()V"), (1, .class_ 10), (1, u "java/lang/Object")] 113

def k0c0 : Code := { maxStack := 0, maxLocals := 1, code := object_method_1_code, exceptionTable := #[], attributes := #[] }
def k0m0 : Method := { name := "<init>", desc := "()V", sig := { parameters := [], returnType := none }, accessFlags := 1, code := some k0c0 }
/-- java/lang/Object -/
def k0 : Class := { plain "java/lang/Object" none with
  accessFlags := 33
  interfaces := #[]
  cf := some (fileOf pool0 8 #[] #[{ accessFlags := 1, nameIndex := 5, descriptorIndex := 6, attributes := #[] }] 33 0 #[] #[])
  fields := #[]
  methods := #[k0m0]
  instanceTypes := #[]
  staticTypes := #[]
  resolved := Array.replicate 124 none
  statics := none }

def pool1 : Array CpInfo := pool [(2, .class_ 4), (1, u "java/lang/Object"), (0, u "<init>"), (0, u "()V"), (0, .integer 65535), (0, .class_ 9), (0, u "java/lang/String"), (0, .methodref 8 11), (0, .nameAndType 5 12), (0, u "([C)V"), (0, .methodref 14 15), (0, .class_ 16), (0, .nameAndType 17 18), (0, u "com/example/stoa/stoa/http/HttpSyntaxIsRequestTargetPinLaw"), (0, u "visible"), (0, u "(C)Z"), (0, .methodref 20 21), (0, .class_ 22), (0, .nameAndType 23 24), (0, u "com/example/stoa/stoa/http/HttpSyntax"), (0, u "isRequestTarget"), (0, u "(Ljava/lang/CharSequence;)Z"), (3, u "law"), (0, u "(IIII)Z")] 2

def k1m0 : Method := { name := "<init>", desc := "()V", sig := { parameters := [], returnType := none }, accessFlags := 1, code := none }
def k1c1 : Code := { maxStack := 2, maxLocals := 1, code := method_2_code, exceptionTable := #[], attributes := #[] }
def k1m1 : Method := { name := "visible", desc := "(C)Z", sig := { parameters := [.char], returnType := some .boolean }, accessFlags := 10, code := some k1c1 }
def k1c2 : Code := { maxStack := 6, maxLocals := 10, code := code, exceptionTable := #[], attributes := #[] }
def k1m2 : Method := { name := "law", desc := "(IIII)Z", sig := { parameters := [.int, .int, .int, .int], returnType := some .boolean }, accessFlags := 9, code := some k1c2 }
/-- com/example/stoa/stoa/http/HttpSyntaxIsRequestTargetPinLaw -/
def k1 : Class := { plain "com/example/stoa/stoa/http/HttpSyntaxIsRequestTargetPinLaw" (some 0) with
  accessFlags := 49
  interfaces := #[]
  cf := some (fileOf pool1 14 #[] #[{ accessFlags := 1, nameIndex := 5, descriptorIndex := 6, attributes := #[] }, { accessFlags := 10, nameIndex := 17, descriptorIndex := 18, attributes := #[] }, { accessFlags := 9, nameIndex := 28, descriptorIndex := 29, attributes := #[] }] 49 2 #[] #[])
  fields := #[]
  methods := #[k1m0, k1m1, k1m2]
  instanceTypes := #[]
  staticTypes := #[]
  resolved := Array.replicate 32 none
  statics := none }

def pool2 : Array CpInfo := pool [(1, .class_ 2), (0, u "java/io/Serializable"), (0, .class_ 4), (0, u "java/lang/Object")] 2

/-- java/io/Serializable -/
def k2 : Class := { plain "java/io/Serializable" (some 0) with
  accessFlags := 1537
  interfaces := #[]
  cf := some (fileOf pool2 1 #[] #[] 1537 3 #[] #[])
  fields := #[]
  methods := #[]
  instanceTypes := #[]
  staticTypes := #[]
  resolved := Array.replicate 7 none
  statics := none }

def pool3 : Array CpInfo := pool [(1, .class_ 2), (0, u "java/lang/Comparable"), (0, .class_ 4), (0, u "java/lang/Object")] 7

/-- java/lang/Comparable -/
def k3 : Class := { plain "java/lang/Comparable" (some 0) with
  accessFlags := 1537
  interfaces := #[]
  cf := some (fileOf pool3 1 #[] #[] 1537 3 #[] #[])
  fields := #[]
  methods := #[]
  instanceTypes := #[]
  staticTypes := #[]
  resolved := Array.replicate 12 none
  statics := none }

def pool4 : Array CpInfo := pool [(2, .class_ 4), (1, u "java/lang/CharSequence"), (0, u "length"), (0, u "()I"), (38, u "charAt"), (0, u "(I)C"), (0, .class_ 48), (0, u "java/lang/CharSequence$1CodePointIterator"), (10, .class_ 60), (0, u "java/lang/CharSequence$1CharIterator"), (5, .class_ 67), (0, u "java/lang/Object")] 63

def k4m0 : Method := { name := "length", desc := "()I", sig := { parameters := [], returnType := some .int }, accessFlags := 1025, code := none }
def k4m1 : Method := { name := "charAt", desc := "(I)C", sig := { parameters := [.int], returnType := some .char }, accessFlags := 1025, code := none }
/-- java/lang/CharSequence -/
def k4 : Class := { plain "java/lang/CharSequence" (some 0) with
  accessFlags := 1537
  interfaces := #[]
  cf := some (fileOf pool4 2 #[.nestMembers #[47, 59]] #[{ accessFlags := 1025, nameIndex := 5, descriptorIndex := 6, attributes := #[] }, { accessFlags := 1025, nameIndex := 45, descriptorIndex := 46, attributes := #[] }] 1537 66 #[] #[])
  fields := #[]
  methods := #[k4m0, k4m1]
  instanceTypes := #[]
  staticTypes := #[]
  resolved := Array.replicate 131 none
  statics := none }

def pool5 : Array CpInfo := pool [(1, .class_ 2), (0, u "java/lang/constant/Constable"), (0, .class_ 4), (0, u "java/lang/Object")] 6

/-- java/lang/constant/Constable -/
def k5 : Class := { plain "java/lang/constant/Constable" (some 0) with
  accessFlags := 1537
  interfaces := #[]
  cf := some (fileOf pool5 1 #[] #[] 1537 3 #[] #[])
  fields := #[]
  methods := #[]
  instanceTypes := #[]
  staticTypes := #[]
  resolved := Array.replicate 11 none
  statics := none }

def pool6 : Array CpInfo := pool [(1, .class_ 2), (0, u "java/lang/constant/ConstantDesc"), (0, .class_ 4), (0, u "java/lang/Object")] 32

/-- java/lang/constant/ConstantDesc -/
def k6 : Class := { plain "java/lang/constant/ConstantDesc" (some 0) with
  accessFlags := 1537
  interfaces := #[]
  cf := some (fileOf pool6 1 #[] #[] 1537 3 #[] #[])
  fields := #[]
  methods := #[]
  instanceTypes := #[]
  staticTypes := #[]
  resolved := Array.replicate 37 none
  statics := none }

def pool7 : Array CpInfo := pool [(1, .methodref 2 3), (0, .class_ 4), (0, .nameAndType 5 6), (0, u "java/lang/Object"), (0, u "<init>"), (0, u "()V"), (0, .string 8), (0, u ""), (0, .fieldref 10 11), (0, .class_ 12), (0, .nameAndType 13 14), (0, u "java/lang/String"), (0, u "value"), (0, u "[B"), (0, .fieldref 10 16), (0, .nameAndType 17 18), (0, u "coder"), (0, u "B"), (2, u "hash"), (0, u "I"), (2, u "hashIsZero"), (0, u "Z"), (0, .methodref 10 28), (0, .nameAndType 5 29), (0, u "([CIILjava/lang/Void;)V"), (8, .fieldref 10 39), (0, .nameAndType 40 26), (0, u "COMPACT_STRINGS"), (1, .class_ 44), (1, u "java/lang/StringUTF16"), (0, u "compress"), (1, .methodref 42 48), (0, .nameAndType 49 50), (0, u "coderFromArrayLen"), (0, u "([BI)B"), (56, .class_ 109), (1, u "java/lang/StringLatin1"), (32, u "()Z"), (34, .methodref 42 178), (0, .nameAndType 45 179), (0, u "([CII)[B"), (154, u "()I"), (0, .methodref 10 336), (0, .nameAndType 17 337), (0, u "()B"), (25, u "([BI)C"), (27, u "(II)V"), (35, u "(I)C"), (64, .methodref 10 493), (0, .nameAndType 494 142), (0, u "isLatin1"), (0, .methodref 107 496), (0, .nameAndType 497 363), (0, u "charAt"), (0, .methodref 42 496), (2, u "checkIndex"), (5, u "length"), (67, .class_ 576), (0, u "java/lang/CharSequence"), (22, u "CASE_INSENSITIVE_ORDER"), (0, u "Ljava/util/Comparator;"), (409, u "([C)V"), (42, .fieldref 1054 1055), (0, .class_ 1056), (0, .nameAndType 1057 1058), (0, u "jdk/internal/util/Preconditions"), (0, u "SIOOBE_FORMATTER"), (0, u "Ljava/util/function/BiFunction;"), (0, .methodref 1054 1060), (0, .nameAndType 501 1061), (0, u "(IILjava/util/function/BiFunction;)I"), (39, u "serialPersistentFields"), (0, u "[Ljava/io/ObjectStreamField;"), (0, .class_ 1104), (0, u "java/lang/String$CaseInsensitiveComparator"), (1, .class_ 1107), (0, u "java/io/Serializable"), (0, .class_ 1109), (0, u "java/lang/Comparable"), (0, .class_ 1111), (0, u "java/lang/constant/Constable"), (0, .class_ 1113), (0, u "java/lang/constant/ConstantDesc"), (2, u "serialVersionUID"), (0, u "J"), (3, u "REPL"), (0, u "C"), (2, u "LATIN1"), (1, u "UTF16")] 323

def k7m0 : Method := { name := "<init>", desc := "()V", sig := { parameters := [], returnType := none }, accessFlags := 1, code := none }
def k7c1 : Code := { maxStack := 5, maxLocals := 2, code := jdk_42_method_3_code, exceptionTable := #[], attributes := #[] }
def k7m1 : Method := { name := "<init>", desc := "([C)V", sig := { parameters := [(.array .char)], returnType := none }, accessFlags := 1, code := some k7c1 }
def k7c2 : Code := { maxStack := 2, maxLocals := 1, code := jdk_42_method_54_code, exceptionTable := #[], attributes := #[] }
def k7m2 : Method := { name := "length", desc := "()I", sig := { parameters := [], returnType := some .int }, accessFlags := 1, code := some k7c2 }
def k7c3 : Code := { maxStack := 2, maxLocals := 2, code := jdk_42_method_56_code, exceptionTable := #[], attributes := #[] }
def k7m3 : Method := { name := "charAt", desc := "(I)C", sig := { parameters := [.int], returnType := some .char }, accessFlags := 1, code := some k7c3 }
def k7c4 : Code := { maxStack := 4, maxLocals := 6, code := jdk_42_method_149_code, exceptionTable := #[], attributes := #[] }
def k7m4 : Method := { name := "<init>", desc := "([CIILjava/lang/Void;)V", sig := { parameters := [(.array .char), .int, .int, (.object "java/lang/Void")], returnType := none }, accessFlags := 2, code := some k7c4 }
def k7c5 : Code := { maxStack := 1, maxLocals := 1, code := jdk_42_method_152_code, exceptionTable := #[], attributes := #[] }
def k7m5 : Method := { name := "coder", desc := "()B", sig := { parameters := [], returnType := some .byte }, accessFlags := 0, code := some k7c5 }
def k7c6 : Code := { maxStack := 1, maxLocals := 1, code := jdk_42_method_154_code, exceptionTable := #[], attributes := #[] }
def k7m6 : Method := { name := "isLatin1", desc := "()Z", sig := { parameters := [], returnType := some .boolean }, accessFlags := 0, code := some k7c6 }
def k7c7 : Code := { maxStack := 3, maxLocals := 2, code := jdk_42_method_155_code, exceptionTable := #[], attributes := #[] }
def k7m7 : Method := { name := "checkIndex", desc := "(II)V", sig := { parameters := [.int, .int], returnType := none }, accessFlags := 8, code := some k7c7 }
/-- java/lang/String -/
def k7 : Class := { plain "java/lang/String" (some 0) with
  accessFlags := 49
  interfaces := #[2, 3, 4, 5, 6]
  cf := some (fileOf pool7 10 #[.nestMembers #[1103]] #[{ accessFlags := 1, nameIndex := 5, descriptorIndex := 6, attributes := #[] }, { accessFlags := 1, nameIndex := 5, descriptorIndex := 1010, attributes := #[] }, { accessFlags := 1, nameIndex := 507, descriptorIndex := 334, attributes := #[] }, { accessFlags := 1, nameIndex := 497, descriptorIndex := 427, attributes := #[] }, { accessFlags := 2, nameIndex := 5, descriptorIndex := 29, attributes := #[] }, { accessFlags := 0, nameIndex := 17, descriptorIndex := 337, attributes := #[] }, { accessFlags := 0, nameIndex := 494, descriptorIndex := 142, attributes := #[] }, { accessFlags := 8, nameIndex := 501, descriptorIndex := 391, attributes := #[] }] 49 2 #[1106, 1108, 575, 1110, 1112] #[{ accessFlags := 18, nameIndex := 13, descriptorIndex := 14, attributes := #[] }, { accessFlags := 18, nameIndex := 17, descriptorIndex := 18, attributes := #[] }, { accessFlags := 2, nameIndex := 21, descriptorIndex := 22, attributes := #[] }, { accessFlags := 2, nameIndex := 25, descriptorIndex := 26, attributes := #[] }, { accessFlags := 26, nameIndex := 1116, descriptorIndex := 1117, attributes := #[] }, { accessFlags := 24, nameIndex := 40, descriptorIndex := 26, attributes := #[] }, { accessFlags := 26, nameIndex := 1101, descriptorIndex := 1102, attributes := #[] }, { accessFlags := 26, nameIndex := 1121, descriptorIndex := 1122, attributes := #[] }, { accessFlags := 25, nameIndex := 599, descriptorIndex := 600, attributes := #[] }, { accessFlags := 24, nameIndex := 1125, descriptorIndex := 18, attributes := #[] }, { accessFlags := 24, nameIndex := 1127, descriptorIndex := 18, attributes := #[] }])
  fields := #[{ name := "value", type := (.array .byte), accessFlags := 18, slot := 0, constantValue := 0 }, { name := "coder", type := .byte, accessFlags := 18, slot := 1, constantValue := 0 }, { name := "hash", type := .int, accessFlags := 2, slot := 2, constantValue := 0 }, { name := "hashIsZero", type := .boolean, accessFlags := 2, slot := 3, constantValue := 0 }, { name := "serialVersionUID", type := .long, accessFlags := 26, slot := 0, constantValue := 0 }, { name := "COMPACT_STRINGS", type := .boolean, accessFlags := 24, slot := 1, constantValue := 0 }, { name := "serialPersistentFields", type := (.array (.object "java/io/ObjectStreamField")), accessFlags := 26, slot := 2, constantValue := 0 }, { name := "REPL", type := .char, accessFlags := 26, slot := 3, constantValue := 0 }, { name := "CASE_INSENSITIVE_ORDER", type := (.object "java/util/Comparator"), accessFlags := 25, slot := 4, constantValue := 0 }, { name := "LATIN1", type := .byte, accessFlags := 24, slot := 5, constantValue := 0 }, { name := "UTF16", type := .byte, accessFlags := 24, slot := 6, constantValue := 0 }]
  methods := #[k7m0, k7m1, k7m2, k7m3, k7m4, k7m5, k7m6, k7m7]
  instanceTypes := #[(.array .byte), .byte, .int, .boolean]
  staticTypes := #[.long, .boolean, (.array (.object "java/io/ObjectStreamField")), .char, (.object "java/util/Comparator"), .byte, .byte]
  resolved := Array.replicate 1451 none
  statics := some 0 }

def pool8 : Array CpInfo := pool [(2, .class_ 4), (1, u "java/lang/Object"), (0, u "<init>"), (0, u "()V"), (0, .interfaceMethodref 8 9), (0, .class_ 10), (0, .nameAndType 11 12), (0, u "java/lang/CharSequence"), (0, u "length"), (0, u "()I"), (1, .class_ 16), (1, u "com/example/stoa/stoa/http/HttpSyntax"), (2, .interfaceMethodref 8 20), (0, .nameAndType 21 22), (0, u "charAt"), (0, u "(I)C"), (142, u "(Ljava/lang/CharSequence;)Z"), (19, u "isRequestTarget")] 29

def k8m0 : Method := { name := "<init>", desc := "()V", sig := { parameters := [], returnType := none }, accessFlags := 2, code := none }
def k8c1 : Code := { maxStack := 2, maxLocals := 3, code := prog_58_method_4_code, exceptionTable := #[], attributes := #[] }
def k8m1 : Method := { name := "isRequestTarget", desc := "(Ljava/lang/CharSequence;)Z", sig := { parameters := [(.object "java/lang/CharSequence")], returnType := some .boolean }, accessFlags := 9, code := some k8c1 }
/-- com/example/stoa/stoa/http/HttpSyntax -/
def k8 : Class := { plain "com/example/stoa/stoa/http/HttpSyntax" (some 0) with
  accessFlags := 49
  interfaces := #[]
  cf := some (fileOf pool8 14 #[] #[{ accessFlags := 2, nameIndex := 5, descriptorIndex := 6, attributes := #[] }, { accessFlags := 9, nameIndex := 185, descriptorIndex := 165, attributes := #[] }] 49 2 #[] #[])
  fields := #[]
  methods := #[k8m0, k8m1]
  instanceTypes := #[]
  staticTypes := #[]
  resolved := Array.replicate 215 none
  statics := none }

def pool9 : Array CpInfo := pool [(3, .class_ 4), (0, u "java/lang/String"), (1, .class_ 8), (1, u "java/lang/Object"), (0, u "<init>"), (0, u "()V"), (0, .methodref 12 13), (0, .class_ 14), (0, .nameAndType 15 16), (0, u "java/lang/StringUTF16"), (0, u "newBytesLength"), (0, u "(I)I"), (3, .integer 1073741823), (23, .fieldref 12 45), (0, .nameAndType 46 47), (0, u "$assertionsDisabled"), (0, u "Z"), (0, .methodref 12 49), (0, .nameAndType 50 51), (0, u "length"), (0, u "([B)I"), (7, .fieldref 12 60), (0, .nameAndType 61 62), (0, u "HI_BYTE_SHIFT"), (0, u "I"), (0, .fieldref 12 64), (0, .nameAndType 65 62), (0, u "LO_BYTE_SHIFT"), (1, .methodref 12 68), (0, .nameAndType 69 70), (0, u "checkIndex"), (0, u "(I[B)V"), (0, .methodref 12 72), (0, .nameAndType 73 74), (0, u "getChar"), (0, u "([BI)C"), (32, .methodref 12 108), (0, .nameAndType 109 110), (0, u "newBytesFor"), (0, u "(I)[B"), (0, .methodref 12 112), (0, .nameAndType 113 114), (0, u "putChar"), (0, u "([BII)V"), (0, .methodref 12 116), (0, .nameAndType 117 118), (0, u "compress"), (0, u "([CI[BII)I"), (0, .methodref 12 120), (0, .nameAndType 121 122), (0, u "toBytes"), (0, u "([CII)[B"), (138, u "coderFromArrayLen"), (0, u "([BI)B"), (106, .class_ 371), (1, u "java/lang/StringUTF16$LinesSpliterator"), (20, u "charAt"), (21, .methodref 3 415), (0, .nameAndType 69 416), (0, u "(II)V"), (13, u "MAX_LENGTH"), (196, .class_ 628), (0, u "java/lang/StringUTF16$CodePointsSpliterator"), (0, .class_ 630), (0, u "java/lang/StringUTF16$CharsSpliterator")] 4

def k9m0 : Method := { name := "<init>", desc := "()V", sig := { parameters := [], returnType := none }, accessFlags := 0, code := none }
def k9c1 : Code := { maxStack := 1, maxLocals := 1, code := jdk_52_method_2_code, exceptionTable := #[], attributes := #[] }
def k9m1 : Method := { name := "newBytesFor", desc := "(I)[B", sig := { parameters := [.int], returnType := some (.array .byte) }, accessFlags := 9, code := some k9c1 }
def k9c2 : Code := { maxStack := 4, maxLocals := 1, code := jdk_52_method_3_code, exceptionTable := #[], attributes := #[] }
def k9m2 : Method := { name := "newBytesLength", desc := "(I)I", sig := { parameters := [.int], returnType := some .int }, accessFlags := 9, code := some k9c2 }
def k9c3 : Code := { maxStack := 4, maxLocals := 3, code := jdk_52_method_4_code, exceptionTable := #[], attributes := #[] }
def k9m3 : Method := { name := "putChar", desc := "([BII)V", sig := { parameters := [(.array .byte), .int, .int], returnType := none }, accessFlags := 8, code := some k9c3 }
def k9c4 : Code := { maxStack := 3, maxLocals := 2, code := jdk_52_method_5_code, exceptionTable := #[], attributes := #[] }
def k9m4 : Method := { name := "getChar", desc := "([BI)C", sig := { parameters := [(.array .byte), .int], returnType := some .char }, accessFlags := 8, code := some k9c4 }
def k9c5 : Code := { maxStack := 2, maxLocals := 1, code := jdk_52_method_6_code, exceptionTable := #[], attributes := #[] }
def k9m5 : Method := { name := "length", desc := "([B)I", sig := { parameters := [(.array .byte)], returnType := some .int }, accessFlags := 9, code := some k9c5 }
def k9c6 : Code := { maxStack := 4, maxLocals := 5, code := jdk_52_method_14_code, exceptionTable := #[], attributes := #[] }
def k9m6 : Method := { name := "toBytes", desc := "([CII)[B", sig := { parameters := [(.array .char), .int, .int], returnType := some (.array .byte) }, accessFlags := 9, code := some k9c6 }
def k9c7 : Code := { maxStack := 2, maxLocals := 2, code := jdk_52_method_15_code, exceptionTable := #[], attributes := #[] }
def k9m7 : Method := { name := "coderFromArrayLen", desc := "([BI)B", sig := { parameters := [(.array .byte), .int], returnType := some .byte }, accessFlags := 8, code := some k9c7 }
def k9c8 : Code := { maxStack := 5, maxLocals := 6, code := jdk_52_method_16_code, exceptionTable := #[], attributes := #[] }
def k9m8 : Method := { name := "compress", desc := "([CII)[B", sig := { parameters := [(.array .char), .int, .int], returnType := some (.array .byte) }, accessFlags := 9, code := some k9c8 }
def k9c9 : Code := { maxStack := 3, maxLocals := 7, code := jdk_52_method_21_code, exceptionTable := #[], attributes := #[] }
def k9m9 : Method := { name := "compress", desc := "([CI[BII)I", sig := { parameters := [(.array .char), .int, (.array .byte), .int, .int], returnType := some .int }, accessFlags := 9, code := some k9c9 }
def k9c10 : Code := { maxStack := 2, maxLocals := 2, code := jdk_52_method_83_code, exceptionTable := #[], attributes := #[] }
def k9m10 : Method := { name := "charAt", desc := "([BI)C", sig := { parameters := [(.array .byte), .int], returnType := some .char }, accessFlags := 9, code := some k9c10 }
def k9c11 : Code := { maxStack := 2, maxLocals := 2, code := jdk_52_method_91_code, exceptionTable := #[], attributes := #[] }
def k9m11 : Method := { name := "checkIndex", desc := "(I[B)V", sig := { parameters := [.int, (.array .byte)], returnType := none }, accessFlags := 9, code := some k9c11 }
/-- java/lang/StringUTF16 -/
def k9 : Class := { plain "java/lang/StringUTF16" (some 0) with
  accessFlags := 48
  interfaces := #[]
  cf := some (fileOf pool9 12 #[.nestMembers #[627, 629, 369]] #[{ accessFlags := 0, nameIndex := 9, descriptorIndex := 10, attributes := #[] }, { accessFlags := 9, nameIndex := 109, descriptorIndex := 110, attributes := #[] }, { accessFlags := 9, nameIndex := 15, descriptorIndex := 16, attributes := #[] }, { accessFlags := 8, nameIndex := 113, descriptorIndex := 114, attributes := #[] }, { accessFlags := 8, nameIndex := 73, descriptorIndex := 74, attributes := #[] }, { accessFlags := 9, nameIndex := 50, descriptorIndex := 51, attributes := #[] }, { accessFlags := 9, nameIndex := 121, descriptorIndex := 122, attributes := #[] }, { accessFlags := 8, nameIndex := 261, descriptorIndex := 262, attributes := #[] }, { accessFlags := 9, nameIndex := 117, descriptorIndex := 122, attributes := #[] }, { accessFlags := 9, nameIndex := 117, descriptorIndex := 118, attributes := #[] }, { accessFlags := 9, nameIndex := 392, descriptorIndex := 74, attributes := #[] }, { accessFlags := 9, nameIndex := 69, descriptorIndex := 70, attributes := #[] }] 48 6 #[] #[{ accessFlags := 26, nameIndex := 61, descriptorIndex := 62, attributes := #[] }, { accessFlags := 26, nameIndex := 65, descriptorIndex := 62, attributes := #[] }, { accessFlags := 24, nameIndex := 430, descriptorIndex := 62, attributes := #[] }, { accessFlags := 4120, nameIndex := 46, descriptorIndex := 47, attributes := #[] }])
  fields := #[{ name := "HI_BYTE_SHIFT", type := .int, accessFlags := 26, slot := 0, constantValue := 0 }, { name := "LO_BYTE_SHIFT", type := .int, accessFlags := 26, slot := 1, constantValue := 0 }, { name := "MAX_LENGTH", type := .int, accessFlags := 24, slot := 2, constantValue := 0 }, { name := "$assertionsDisabled", type := .boolean, accessFlags := 4120, slot := 3, constantValue := 0 }]
  methods := #[k9m0, k9m1, k9m2, k9m3, k9m4, k9m5, k9m6, k9m7, k9m8, k9m9, k9m10, k9m11]
  instanceTypes := #[]
  staticTypes := #[.int, .int, .int, .boolean]
  resolved := Array.replicate 635 none
  statics := some 1 }

def pool10 : Array CpInfo := pool [(1, .class_ 2), (0, u "java/lang/String"), (1, .class_ 6), (1, u "java/lang/Object"), (0, u "<init>"), (0, u "()V"), (0, .methodref 1 10), (0, .nameAndType 11 12), (0, u "checkIndex"), (0, u "(II)V"), (1, .class_ 16), (1, u "java/lang/StringLatin1"), (36, u "([BI)C"), (67, u "$assertionsDisabled"), (0, u "Z"), (98, .class_ 223), (1, u "java/lang/StringLatin1$LinesSpliterator"), (28, u "charAt"), (137, .class_ 391), (0, u "java/lang/StringLatin1$CharsSpliterator")] 3

def k10m0 : Method := { name := "<init>", desc := "()V", sig := { parameters := [], returnType := none }, accessFlags := 0, code := none }
def k10c1 : Code := { maxStack := 2, maxLocals := 2, code := jdk_43_method_2_code, exceptionTable := #[], attributes := #[] }
def k10m1 : Method := { name := "charAt", desc := "([BI)C", sig := { parameters := [(.array .byte), .int], returnType := some .char }, accessFlags := 9, code := some k10c1 }
/-- java/lang/StringLatin1 -/
def k10 : Class := { plain "java/lang/StringLatin1" (some 0) with
  accessFlags := 48
  interfaces := #[]
  cf := some (fileOf pool10 14 #[.nestMembers #[390, 221]] #[{ accessFlags := 0, nameIndex := 7, descriptorIndex := 8, attributes := #[] }, { accessFlags := 9, nameIndex := 252, descriptorIndex := 53, attributes := #[] }] 48 4 #[] #[{ accessFlags := 4120, nameIndex := 121, descriptorIndex := 122, attributes := #[] }])
  fields := #[{ name := "$assertionsDisabled", type := .boolean, accessFlags := 4120, slot := 0, constantValue := 0 }]
  methods := #[k10m0, k10m1]
  instanceTypes := #[]
  staticTypes := #[.boolean]
  resolved := Array.replicate 395 none
  statics := none }

def pool11 : Array CpInfo := pool [(2, .class_ 4), (1, u "java/lang/Object"), (0, u "<init>"), (0, u "()V"), (17, .class_ 26), (1, u "jdk/internal/util/Preconditions"), (6, u "checkIndex"), (21, .class_ 56), (0, u "jdk/internal/util/Preconditions$4"), (57, .class_ 115), (0, u "jdk/internal/util/Preconditions$1"), (7, u "SIOOBE_FORMATTER"), (0, u "Ljava/util/function/BiFunction;"), (0, .class_ 126), (0, u "jdk/internal/util/Preconditions$2"), (3, u "AIOOBE_FORMATTER"), (0, .class_ 132), (0, u "jdk/internal/util/Preconditions$3"), (3, u "IOOBE_FORMATTER"), (41, u "(IILjava/util/function/BiFunction;)I")] 15

def k11m0 : Method := { name := "<init>", desc := "()V", sig := { parameters := [], returnType := none }, accessFlags := 1, code := none }
def k11c1 : Code := { maxStack := 3, maxLocals := 3, code := jdk_41_method_11_code, exceptionTable := #[], attributes := #[] }
def k11m1 : Method := { name := "checkIndex", desc := "(IILjava/util/function/BiFunction;)I", sig := { parameters := [.int, .int, (.object "java/util/function/BiFunction")], returnType := some .int }, accessFlags := 9, code := some k11c1 }
/-- jdk/internal/util/Preconditions -/
def k11 : Class := { plain "jdk/internal/util/Preconditions" (some 0) with
  accessFlags := 33
  interfaces := #[]
  cf := some (fileOf pool11 24 #[.nestMembers #[55, 131, 125, 114]] #[{ accessFlags := 1, nameIndex := 5, descriptorIndex := 6, attributes := #[] }, { accessFlags := 9, nameIndex := 33, descriptorIndex := 178, attributes := #[] }] 33 2 #[] #[{ accessFlags := 25, nameIndex := 123, descriptorIndex := 124, attributes := #[] }, { accessFlags := 25, nameIndex := 130, descriptorIndex := 124, attributes := #[] }, { accessFlags := 25, nameIndex := 136, descriptorIndex := 124, attributes := #[] }])
  fields := #[{ name := "SIOOBE_FORMATTER", type := (.object "java/util/function/BiFunction"), accessFlags := 25, slot := 0, constantValue := 0 }, { name := "AIOOBE_FORMATTER", type := (.object "java/util/function/BiFunction"), accessFlags := 25, slot := 1, constantValue := 0 }, { name := "IOOBE_FORMATTER", type := (.object "java/util/function/BiFunction"), accessFlags := 25, slot := 2, constantValue := 0 }]
  methods := #[k11m0, k11m1]
  instanceTypes := #[]
  staticTypes := #[(.object "java/util/function/BiFunction"), (.object "java/util/function/BiFunction"), (.object "java/util/function/BiFunction")]
  resolved := Array.replicate 194 none
  statics := some 2 }

def pool12 : Array CpInfo := pool [(9, u "<init>"), (6, .class_ 18), (1, u "java/lang/Object"), (0, u "()V"), (1, .class_ 23), (1, u "jdk/internal/util/ArraysSupport"), (0, u "LOG2_ARRAY_LONG_INDEX_SCALE"), (0, u "I"), (2, u "U"), (0, u "Ljdk/internal/misc/Unsafe;"), (8, u "BIG_ENDIAN"), (0, u "Z"), (8, u "LOG2_BYTE_BIT_SIZE"), (4, u "LOG2_ARRAY_INT_INDEX_SCALE"), (54, u "JLA"), (0, u "Ljdk/internal/access/JavaLangAccess;"), (11, u "LOG2_ARRAY_BOOLEAN_INDEX_SCALE"), (9, u "LOG2_ARRAY_BYTE_INDEX_SCALE"), (5, u "LOG2_ARRAY_CHAR_INDEX_SCALE"), (5, u "LOG2_ARRAY_SHORT_INDEX_SCALE"), (18, u "LOG2_ARRAY_FLOAT_INDEX_SCALE"), (24, u "LOG2_ARRAY_DOUBLE_INDEX_SCALE"), (89, u "T_BOOLEAN"), (2, u "T_CHAR"), (1, u "T_FLOAT"), (1, u "T_DOUBLE"), (1, u "T_BYTE"), (1, u "T_SHORT"), (1, u "T_INT"), (1, u "T_LONG"), (1, u "SOFT_MAX_ARRAY_LENGTH")] 83

def k12m0 : Method := { name := "<init>", desc := "()V", sig := { parameters := [], returnType := none }, accessFlags := 2, code := none }
/-- jdk/internal/util/ArraysSupport -/
def k12 : Class := { plain "jdk/internal/util/ArraysSupport" (some 0) with
  accessFlags := 33
  interfaces := #[]
  cf := some (fileOf pool12 21 #[] #[{ accessFlags := 2, nameIndex := 9, descriptorIndex := 19, attributes := #[] }] 33 16 #[] #[{ accessFlags := 24, nameIndex := 28, descriptorIndex := 29, attributes := #[] }, { accessFlags := 26, nameIndex := 38, descriptorIndex := 39, attributes := #[] }, { accessFlags := 25, nameIndex := 121, descriptorIndex := 25, attributes := #[] }, { accessFlags := 25, nameIndex := 131, descriptorIndex := 25, attributes := #[] }, { accessFlags := 25, nameIndex := 137, descriptorIndex := 25, attributes := #[] }, { accessFlags := 25, nameIndex := 143, descriptorIndex := 25, attributes := #[] }, { accessFlags := 25, nameIndex := 53, descriptorIndex := 25, attributes := #[] }, { accessFlags := 25, nameIndex := 24, descriptorIndex := 25, attributes := #[] }, { accessFlags := 25, nameIndex := 162, descriptorIndex := 25, attributes := #[] }, { accessFlags := 25, nameIndex := 187, descriptorIndex := 25, attributes := #[] }, { accessFlags := 26, nameIndex := 48, descriptorIndex := 25, attributes := #[] }, { accessFlags := 25, nameIndex := 277, descriptorIndex := 25, attributes := #[] }, { accessFlags := 25, nameIndex := 280, descriptorIndex := 25, attributes := #[] }, { accessFlags := 25, nameIndex := 282, descriptorIndex := 25, attributes := #[] }, { accessFlags := 25, nameIndex := 284, descriptorIndex := 25, attributes := #[] }, { accessFlags := 25, nameIndex := 286, descriptorIndex := 25, attributes := #[] }, { accessFlags := 25, nameIndex := 288, descriptorIndex := 25, attributes := #[] }, { accessFlags := 25, nameIndex := 290, descriptorIndex := 25, attributes := #[] }, { accessFlags := 25, nameIndex := 292, descriptorIndex := 25, attributes := #[] }, { accessFlags := 26, nameIndex := 108, descriptorIndex := 109, attributes := #[] }, { accessFlags := 25, nameIndex := 294, descriptorIndex := 25, attributes := #[] }])
  fields := #[{ name := "U", type := (.object "jdk/internal/misc/Unsafe"), accessFlags := 24, slot := 0, constantValue := 0 }, { name := "BIG_ENDIAN", type := .boolean, accessFlags := 26, slot := 1, constantValue := 0 }, { name := "LOG2_ARRAY_BOOLEAN_INDEX_SCALE", type := .int, accessFlags := 25, slot := 2, constantValue := 0 }, { name := "LOG2_ARRAY_BYTE_INDEX_SCALE", type := .int, accessFlags := 25, slot := 3, constantValue := 0 }, { name := "LOG2_ARRAY_CHAR_INDEX_SCALE", type := .int, accessFlags := 25, slot := 4, constantValue := 0 }, { name := "LOG2_ARRAY_SHORT_INDEX_SCALE", type := .int, accessFlags := 25, slot := 5, constantValue := 0 }, { name := "LOG2_ARRAY_INT_INDEX_SCALE", type := .int, accessFlags := 25, slot := 6, constantValue := 0 }, { name := "LOG2_ARRAY_LONG_INDEX_SCALE", type := .int, accessFlags := 25, slot := 7, constantValue := 0 }, { name := "LOG2_ARRAY_FLOAT_INDEX_SCALE", type := .int, accessFlags := 25, slot := 8, constantValue := 0 }, { name := "LOG2_ARRAY_DOUBLE_INDEX_SCALE", type := .int, accessFlags := 25, slot := 9, constantValue := 0 }, { name := "LOG2_BYTE_BIT_SIZE", type := .int, accessFlags := 26, slot := 10, constantValue := 0 }, { name := "T_BOOLEAN", type := .int, accessFlags := 25, slot := 11, constantValue := 0 }, { name := "T_CHAR", type := .int, accessFlags := 25, slot := 12, constantValue := 0 }, { name := "T_FLOAT", type := .int, accessFlags := 25, slot := 13, constantValue := 0 }, { name := "T_DOUBLE", type := .int, accessFlags := 25, slot := 14, constantValue := 0 }, { name := "T_BYTE", type := .int, accessFlags := 25, slot := 15, constantValue := 0 }, { name := "T_SHORT", type := .int, accessFlags := 25, slot := 16, constantValue := 0 }, { name := "T_INT", type := .int, accessFlags := 25, slot := 17, constantValue := 0 }, { name := "T_LONG", type := .int, accessFlags := 25, slot := 18, constantValue := 0 }, { name := "JLA", type := (.object "jdk/internal/access/JavaLangAccess"), accessFlags := 26, slot := 19, constantValue := 0 }, { name := "SOFT_MAX_ARRAY_LENGTH", type := .int, accessFlags := 25, slot := 20, constantValue := 0 }]
  methods := #[k12m0]
  instanceTypes := #[]
  staticTypes := #[(.object "jdk/internal/misc/Unsafe"), .boolean, .int, .int, .int, .int, .int, .int, .int, .int, .int, .int, .int, .int, .int, .int, .int, .int, .int, (.object "jdk/internal/access/JavaLangAccess"), .int]
  resolved := Array.replicate 378 none
  statics := none }

def pool13 : Array CpInfo := pool [(1, u "java/lang/Cloneable"), (0, .class_ 1), (0, u "java/lang/Object"), (0, .class_ 3)] 3

/-- java/lang/Cloneable -/
def k13 : Class := { plain "java/lang/Cloneable" (some 0) with
  accessFlags := 1537
  interfaces := #[]
  cf := some (fileOf pool13 2 #[] #[] 1537 4 #[] #[])
  fields := #[]
  methods := #[]
  instanceTypes := #[]
  staticTypes := #[]
  resolved := Array.replicate 8 none
  statics := none }

/-- the primitive byte -/
def k14 : Class := { plain "byte" none with kind := .primitive 'B', accessFlags := 0x411 }
/-- [B -/
def k15 : Class := { plain "[B" (some 0) with kind := .array 14 .byte, interfaces := #[13, 2], accessFlags := 1041 }

/-- the primitive char -/
def k16 : Class := { plain "char" none with kind := .primitive 'C', accessFlags := 0x411 }
/-- [C -/
def k17 : Class := { plain "[C" (some 0) with kind := .array 16 .char, interfaces := #[13, 2], accessFlags := 1041 }

/-- the primitive int -/
def k18 : Class := { plain "int" none with kind := .primitive 'I', accessFlags := 0x411 }
/-- [I -/
def k19 : Class := { plain "[I" (some 0) with kind := .array 18 .int, interfaces := #[13, 2], accessFlags := 1041 }

def heap : Heap := #[{ cls := 7, slots := #[.long 0, .int 1, .null, .int 0, .null, .int 0, .int 0], vm := .statics 7 },
  { cls := 9, slots := #[.int 0, .int 8, .int 0, .int 1], vm := .statics 9 },
  { cls := 11, slots := #[.null, .null, .null], vm := .statics 11 }]
def classes : Array Class := #[k0, k1, k2, k3, k4, k5, k6, k7, k8, k9, k10, k11, k12, k13, k14, k15, k16, k17, k18, k19]
def interned : List (Array UInt16 × Addr) := []
def slotsUsed : Nat := 14
def theMethod : MethodId := ⟨1, 2⟩
def args0 : Array Value := #[.int 65, .int 3, .int 3, .int 3]
def aboutOver (below : List Frame) : State where
  vm := { classes := classes, interned := interned.toArray }
  heap := heap
  slotsUsed := slotsUsed
  threads := #[{ frames := .invoking theMethod args0 :: below }]
def below0 : List Frame := [.native { method := ⟨0, 0⟩, args := #[] }]
def about1 : State := aboutOver below0
def p0 : Program := .bare "" "" ""
def e0 : Env := launch0.env 0 0 0
theorem w_frames : about1.frames = Frame.invoking theMethod args0 :: below0 := rfl
set_option maxRecDepth 65536 in
theorem w_args : argsFit about1.vm theMethod args0 = true := by decide +kernel
set_option maxRecDepth 65536 in
theorem w_heap : heapFits about1 = true := by decide +kernel
set_option maxRecDepth 65536 in
theorem w_runnable : about1.curStatus? = some .runnable := by decide +kernel
set_option maxRecDepth 65536 in
theorem w_alone : about1.alone = true := by decide +kernel
set_option maxRecDepth 65536 in
theorem w_named : about1.methodNamed? x = some theMethod := by decide +kernel
set_option maxRecDepth 65536 in
theorem w_hears : about1.hears theMethod below0 = true := by decide +kernel
set_option maxRecDepth 65536 in
theorem w_ripe : about1.ripe theMethod args0 below0 = true := by decide +kernel
theorem w_running : about1.status = .running := rfl
set_option maxRecDepth 65536 in
theorem w_room : about1.hasRoom e0.platform room_1 = true :=
  launch0.hasRoom_least _ room_1 (by decide +kernel) (by decide +kernel) (by decide +kernel) (by decide +kernel) (by decide +kernel) (by decide +kernel)
theorem allAtoms_all (ts : List Jvm.Cond) (a : Array Jvm.Value) (st : Jvm.State) : (allAtoms ts).before a st = ts.all (fun c => c.before a st) := by
  induction ts with
  | nil => rfl
  | cons c t ih =>
    show (Jvm.Cond.and c (allAtoms t)).before a st = _
    rw [Jvm.Cond.before_and, ih, List.all_cons]
def words1 : List Jvm.Cond := Jvm.Cond.code x code maxLocals ret :: tables_1
/-- a 'code' word, met by the world's own term for the bytes: nothing is compared byte by byte -/
theorem code_word {y : MethodName} {bytes : ByteArray} {mx : Nat} {rt : Option FieldType} {a : Array Value} {s : State} {m : MethodId} {meth : Method} {c : Code} (h1 : s.methodNamed? y = some m) (h2 : s.vm.method? m = some meth) (h3 : meth.code = some c) (h4 : c.code = bytes)
    (h5 : (c.maxLocals == mx && c.exceptionTable.isEmpty && decide (c.maxStack ≤ mostOperands) && decide (meth.sig.returnType = rt) && !meth.locks && decide (parseMethodDescriptor y.desc = some meth.sig)) = true) : (Jvm.Cond.code y bytes mx rt).before a s = true := by
  simp only [Bool.and_eq_true, beq_iff_eq, Bool.not_eq_true', decide_eq_true_eq] at h5
  obtain ⟨⟨⟨⟨⟨g1, g2⟩, g3⟩, g4⟩, g5⟩, g6⟩ := h5
  simp [Cond.before, Cond.holds, Cond.value, h1, h2, h3, h4, g1, g2, g3, g4, g5, g6]
def isCode : Jvm.Cond → Bool
  | .code _ _ _ _ => true
  | _ => false
theorem all_split {L : List Jvm.Cond} {P : Jvm.Cond → Bool} (h1 : L.all (fun c => isCode c || P c) = true) (h2 : ∀ c ∈ L.filter isCode, P c = true) : L.all P = true := by
  refine List.all_eq_true.mpr fun c hc => ?_
  have h := List.all_eq_true.mp h1 c hc
  rcases Bool.eq_false_or_eq_true (isCode c) with hi | hi
  · exact h2 c (List.mem_filter.mpr ⟨hc, hi⟩)
  · simpa [hi] using h
set_option maxRecDepth 65536 in
theorem w_c0 : (Jvm.Cond.code x code maxLocals ret).before args0 about1 = true := code_word (m := ⟨1, 2⟩) (meth := k1m2) (c := k1c2) (by decide +kernel) rfl rfl rfl (by decide +kernel)
set_option maxRecDepth 65536 in
theorem w_c1 : (Jvm.Cond.code ({ cls := "java/lang/String", name := "<init>", desc := "([C)V" } : Jvm.MethodName) jdk_42_method_3_code (2 : Nat) (Option.none : Option Jvm.ClassFile.FieldType)).before args0 about1 = true := code_word (m := ⟨7, 1⟩) (meth := k7m1) (c := k7c1) (by decide +kernel) rfl rfl rfl (by decide +kernel)
set_option maxRecDepth 65536 in
theorem w_c2 : (Jvm.Cond.code ({ cls := "java/lang/String", name := "<init>", desc := "([CIILjava/lang/Void;)V" } : Jvm.MethodName) jdk_42_method_149_code (6 : Nat) (Option.none : Option Jvm.ClassFile.FieldType)).before args0 about1 = true := code_word (m := ⟨7, 4⟩) (meth := k7m4) (c := k7c4) (by decide +kernel) rfl rfl rfl (by decide +kernel)
set_option maxRecDepth 65536 in
theorem w_c3 : (Jvm.Cond.code ({ cls := "java/lang/Object", name := "<init>", desc := "()V" } : Jvm.MethodName) object_method_1_code (1 : Nat) (Option.none : Option Jvm.ClassFile.FieldType)).before args0 about1 = true := code_word (m := ⟨0, 0⟩) (meth := k0m0) (c := k0c0) (by decide +kernel) rfl rfl rfl (by decide +kernel)
set_option maxRecDepth 65536 in
theorem w_c4 : (Jvm.Cond.code ({ cls := "com/example/stoa/stoa/http/HttpSyntax", name := "isRequestTarget", desc := "(Ljava/lang/CharSequence;)Z" } : Jvm.MethodName) prog_58_method_4_code (3 : Nat) (Option.some Jvm.ClassFile.FieldType.boolean)).before args0 about1 = true := code_word (m := ⟨8, 1⟩) (meth := k8m1) (c := k8c1) (by decide +kernel) rfl rfl rfl (by decide +kernel)
set_option maxRecDepth 65536 in
theorem w_c5 : (Jvm.Cond.code ({ cls := "java/lang/String", name := "length", desc := "()I" } : Jvm.MethodName) jdk_42_method_54_code (1 : Nat) (Option.some Jvm.ClassFile.FieldType.int)).before args0 about1 = true := code_word (m := ⟨7, 2⟩) (meth := k7m2) (c := k7c2) (by decide +kernel) rfl rfl rfl (by decide +kernel)
set_option maxRecDepth 65536 in
theorem w_c6 : (Jvm.Cond.code ({ cls := "java/lang/String", name := "coder", desc := "()B" } : Jvm.MethodName) jdk_42_method_152_code (1 : Nat) (Option.some Jvm.ClassFile.FieldType.byte)).before args0 about1 = true := code_word (m := ⟨7, 5⟩) (meth := k7m5) (c := k7c5) (by decide +kernel) rfl rfl rfl (by decide +kernel)
set_option maxRecDepth 65536 in
theorem w_c7 : (Jvm.Cond.code ({ cls := "java/lang/StringUTF16", name := "compress", desc := "([CII)[B" } : Jvm.MethodName) jdk_52_method_16_code (6 : Nat) (Option.some (Jvm.ClassFile.FieldType.array Jvm.ClassFile.FieldType.byte))).before args0 about1 = true := code_word (m := ⟨9, 8⟩) (meth := k9m8) (c := k9c8) (by decide +kernel) rfl rfl rfl (by decide +kernel)
set_option maxRecDepth 65536 in
theorem w_c8 : (Jvm.Cond.code ({ cls := "java/lang/StringUTF16", name := "compress", desc := "([CI[BII)I" } : Jvm.MethodName) jdk_52_method_21_code (7 : Nat) (Option.some Jvm.ClassFile.FieldType.int)).before args0 about1 = true := code_word (m := ⟨9, 9⟩) (meth := k9m9) (c := k9c9) (by decide +kernel) rfl rfl rfl (by decide +kernel)
set_option maxRecDepth 65536 in
theorem w_c9 : (Jvm.Cond.code ({ cls := "java/lang/StringUTF16", name := "coderFromArrayLen", desc := "([BI)B" } : Jvm.MethodName) jdk_52_method_15_code (2 : Nat) (Option.some Jvm.ClassFile.FieldType.byte)).before args0 about1 = true := code_word (m := ⟨9, 7⟩) (meth := k9m7) (c := k9c7) (by decide +kernel) rfl rfl rfl (by decide +kernel)
set_option maxRecDepth 65536 in
theorem w_c10 : (Jvm.Cond.code ({ cls := "com/example/stoa/stoa/http/HttpSyntaxIsRequestTargetPinLaw", name := "visible", desc := "(C)Z" } : Jvm.MethodName) method_2_code (1 : Nat) (Option.some Jvm.ClassFile.FieldType.boolean)).before args0 about1 = true := code_word (m := ⟨1, 1⟩) (meth := k1m1) (c := k1c1) (by decide +kernel) rfl rfl rfl (by decide +kernel)
set_option maxRecDepth 65536 in
theorem w_c11 : (Jvm.Cond.code ({ cls := "java/lang/String", name := "charAt", desc := "(I)C" } : Jvm.MethodName) jdk_42_method_56_code (2 : Nat) (Option.some Jvm.ClassFile.FieldType.char)).before args0 about1 = true := code_word (m := ⟨7, 3⟩) (meth := k7m3) (c := k7c3) (by decide +kernel) rfl rfl rfl (by decide +kernel)
set_option maxRecDepth 65536 in
theorem w_c12 : (Jvm.Cond.code ({ cls := "java/lang/String", name := "isLatin1", desc := "()Z" } : Jvm.MethodName) jdk_42_method_154_code (1 : Nat) (Option.some Jvm.ClassFile.FieldType.boolean)).before args0 about1 = true := code_word (m := ⟨7, 6⟩) (meth := k7m6) (c := k7c6) (by decide +kernel) rfl rfl rfl (by decide +kernel)
set_option maxRecDepth 65536 in
theorem w_c13 : (Jvm.Cond.code ({ cls := "java/lang/StringLatin1", name := "charAt", desc := "([BI)C" } : Jvm.MethodName) jdk_43_method_2_code (2 : Nat) (Option.some Jvm.ClassFile.FieldType.char)).before args0 about1 = true := code_word (m := ⟨10, 1⟩) (meth := k10m1) (c := k10c1) (by decide +kernel) rfl rfl rfl (by decide +kernel)
set_option maxRecDepth 65536 in
theorem w_c14 : (Jvm.Cond.code ({ cls := "java/lang/String", name := "checkIndex", desc := "(II)V" } : Jvm.MethodName) jdk_42_method_155_code (2 : Nat) (Option.none : Option Jvm.ClassFile.FieldType)).before args0 about1 = true := code_word (m := ⟨7, 7⟩) (meth := k7m7) (c := k7c7) (by decide +kernel) rfl rfl rfl (by decide +kernel)
set_option maxRecDepth 65536 in
theorem w_c15 : (Jvm.Cond.code ({ cls := "jdk/internal/util/Preconditions", name := "checkIndex", desc := "(IILjava/util/function/BiFunction;)I" } : Jvm.MethodName) jdk_41_method_11_code (3 : Nat) (Option.some Jvm.ClassFile.FieldType.int)).before args0 about1 = true := code_word (m := ⟨11, 1⟩) (meth := k11m1) (c := k11c1) (by decide +kernel) rfl rfl rfl (by decide +kernel)
set_option maxRecDepth 65536 in
theorem w_c16 : (Jvm.Cond.code ({ cls := "java/lang/StringUTF16", name := "toBytes", desc := "([CII)[B" } : Jvm.MethodName) jdk_52_method_14_code (5 : Nat) (Option.some (Jvm.ClassFile.FieldType.array Jvm.ClassFile.FieldType.byte))).before args0 about1 = true := code_word (m := ⟨9, 6⟩) (meth := k9m6) (c := k9c6) (by decide +kernel) rfl rfl rfl (by decide +kernel)
set_option maxRecDepth 65536 in
theorem w_c17 : (Jvm.Cond.code ({ cls := "java/lang/StringUTF16", name := "newBytesFor", desc := "(I)[B" } : Jvm.MethodName) jdk_52_method_2_code (1 : Nat) (Option.some (Jvm.ClassFile.FieldType.array Jvm.ClassFile.FieldType.byte))).before args0 about1 = true := code_word (m := ⟨9, 1⟩) (meth := k9m1) (c := k9c1) (by decide +kernel) rfl rfl rfl (by decide +kernel)
set_option maxRecDepth 65536 in
theorem w_c18 : (Jvm.Cond.code ({ cls := "java/lang/StringUTF16", name := "newBytesLength", desc := "(I)I" } : Jvm.MethodName) jdk_52_method_3_code (1 : Nat) (Option.some Jvm.ClassFile.FieldType.int)).before args0 about1 = true := code_word (m := ⟨9, 2⟩) (meth := k9m2) (c := k9c2) (by decide +kernel) rfl rfl rfl (by decide +kernel)
set_option maxRecDepth 65536 in
theorem w_c19 : (Jvm.Cond.code ({ cls := "java/lang/StringUTF16", name := "putChar", desc := "([BII)V" } : Jvm.MethodName) jdk_52_method_4_code (3 : Nat) (Option.none : Option Jvm.ClassFile.FieldType)).before args0 about1 = true := code_word (m := ⟨9, 3⟩) (meth := k9m3) (c := k9c3) (by decide +kernel) rfl rfl rfl (by decide +kernel)
set_option maxRecDepth 65536 in
theorem w_c20 : (Jvm.Cond.code ({ cls := "java/lang/StringUTF16", name := "getChar", desc := "([BI)C" } : Jvm.MethodName) jdk_52_method_5_code (2 : Nat) (Option.some Jvm.ClassFile.FieldType.char)).before args0 about1 = true := code_word (m := ⟨9, 4⟩) (meth := k9m4) (c := k9c4) (by decide +kernel) rfl rfl rfl (by decide +kernel)
set_option maxRecDepth 65536 in
theorem w_c21 : (Jvm.Cond.code ({ cls := "java/lang/StringUTF16", name := "charAt", desc := "([BI)C" } : Jvm.MethodName) jdk_52_method_83_code (2 : Nat) (Option.some Jvm.ClassFile.FieldType.char)).before args0 about1 = true := code_word (m := ⟨9, 10⟩) (meth := k9m10) (c := k9c10) (by decide +kernel) rfl rfl rfl (by decide +kernel)
set_option maxRecDepth 65536 in
theorem w_c22 : (Jvm.Cond.code ({ cls := "java/lang/StringUTF16", name := "checkIndex", desc := "(I[B)V" } : Jvm.MethodName) jdk_52_method_91_code (2 : Nat) (Option.none : Option Jvm.ClassFile.FieldType)).before args0 about1 = true := code_word (m := ⟨9, 11⟩) (meth := k9m11) (c := k9c11) (by decide +kernel) rfl rfl rfl (by decide +kernel)
set_option maxRecDepth 65536 in
theorem w_c23 : (Jvm.Cond.code ({ cls := "java/lang/StringUTF16", name := "length", desc := "([B)I" } : Jvm.MethodName) jdk_52_method_6_code (1 : Nat) (Option.some Jvm.ClassFile.FieldType.int)).before args0 about1 = true := code_word (m := ⟨9, 5⟩) (meth := k9m5) (c := k9c5) (by decide +kernel) rfl rfl rfl (by decide +kernel)
def codes1 : List Jvm.Cond := [Jvm.Cond.code x code maxLocals ret, Jvm.Cond.code ({ cls := "java/lang/String", name := "<init>", desc := "([C)V" } : Jvm.MethodName) jdk_42_method_3_code (2 : Nat) (Option.none : Option Jvm.ClassFile.FieldType), Jvm.Cond.code ({ cls := "java/lang/String", name := "<init>", desc := "([CIILjava/lang/Void;)V" } : Jvm.MethodName) jdk_42_method_149_code (6 : Nat) (Option.none : Option Jvm.ClassFile.FieldType), Jvm.Cond.code ({ cls := "java/lang/Object", name := "<init>", desc := "()V" } : Jvm.MethodName) object_method_1_code (1 : Nat) (Option.none : Option Jvm.ClassFile.FieldType), Jvm.Cond.code ({ cls := "com/example/stoa/stoa/http/HttpSyntax", name := "isRequestTarget", desc := "(Ljava/lang/CharSequence;)Z" } : Jvm.MethodName) prog_58_method_4_code (3 : Nat) (Option.some Jvm.ClassFile.FieldType.boolean), Jvm.Cond.code ({ cls := "java/lang/String", name := "length", desc := "()I" } : Jvm.MethodName) jdk_42_method_54_code (1 : Nat) (Option.some Jvm.ClassFile.FieldType.int), Jvm.Cond.code ({ cls := "java/lang/String", name := "coder", desc := "()B" } : Jvm.MethodName) jdk_42_method_152_code (1 : Nat) (Option.some Jvm.ClassFile.FieldType.byte), Jvm.Cond.code ({ cls := "java/lang/StringUTF16", name := "compress", desc := "([CII)[B" } : Jvm.MethodName) jdk_52_method_16_code (6 : Nat) (Option.some (Jvm.ClassFile.FieldType.array Jvm.ClassFile.FieldType.byte)), Jvm.Cond.code ({ cls := "java/lang/StringUTF16", name := "compress", desc := "([CI[BII)I" } : Jvm.MethodName) jdk_52_method_21_code (7 : Nat) (Option.some Jvm.ClassFile.FieldType.int), Jvm.Cond.code ({ cls := "java/lang/StringUTF16", name := "coderFromArrayLen", desc := "([BI)B" } : Jvm.MethodName) jdk_52_method_15_code (2 : Nat) (Option.some Jvm.ClassFile.FieldType.byte), Jvm.Cond.code ({ cls := "com/example/stoa/stoa/http/HttpSyntaxIsRequestTargetPinLaw", name := "visible", desc := "(C)Z" } : Jvm.MethodName) method_2_code (1 : Nat) (Option.some Jvm.ClassFile.FieldType.boolean), Jvm.Cond.code ({ cls := "java/lang/String", name := "charAt", desc := "(I)C" } : Jvm.MethodName) jdk_42_method_56_code (2 : Nat) (Option.some Jvm.ClassFile.FieldType.char), Jvm.Cond.code ({ cls := "java/lang/String", name := "isLatin1", desc := "()Z" } : Jvm.MethodName) jdk_42_method_154_code (1 : Nat) (Option.some Jvm.ClassFile.FieldType.boolean), Jvm.Cond.code ({ cls := "java/lang/StringLatin1", name := "charAt", desc := "([BI)C" } : Jvm.MethodName) jdk_43_method_2_code (2 : Nat) (Option.some Jvm.ClassFile.FieldType.char), Jvm.Cond.code ({ cls := "java/lang/String", name := "checkIndex", desc := "(II)V" } : Jvm.MethodName) jdk_42_method_155_code (2 : Nat) (Option.none : Option Jvm.ClassFile.FieldType), Jvm.Cond.code ({ cls := "jdk/internal/util/Preconditions", name := "checkIndex", desc := "(IILjava/util/function/BiFunction;)I" } : Jvm.MethodName) jdk_41_method_11_code (3 : Nat) (Option.some Jvm.ClassFile.FieldType.int), Jvm.Cond.code ({ cls := "java/lang/StringUTF16", name := "toBytes", desc := "([CII)[B" } : Jvm.MethodName) jdk_52_method_14_code (5 : Nat) (Option.some (Jvm.ClassFile.FieldType.array Jvm.ClassFile.FieldType.byte)), Jvm.Cond.code ({ cls := "java/lang/StringUTF16", name := "newBytesFor", desc := "(I)[B" } : Jvm.MethodName) jdk_52_method_2_code (1 : Nat) (Option.some (Jvm.ClassFile.FieldType.array Jvm.ClassFile.FieldType.byte)), Jvm.Cond.code ({ cls := "java/lang/StringUTF16", name := "newBytesLength", desc := "(I)I" } : Jvm.MethodName) jdk_52_method_3_code (1 : Nat) (Option.some Jvm.ClassFile.FieldType.int), Jvm.Cond.code ({ cls := "java/lang/StringUTF16", name := "putChar", desc := "([BII)V" } : Jvm.MethodName) jdk_52_method_4_code (3 : Nat) (Option.none : Option Jvm.ClassFile.FieldType), Jvm.Cond.code ({ cls := "java/lang/StringUTF16", name := "getChar", desc := "([BI)C" } : Jvm.MethodName) jdk_52_method_5_code (2 : Nat) (Option.some Jvm.ClassFile.FieldType.char), Jvm.Cond.code ({ cls := "java/lang/StringUTF16", name := "charAt", desc := "([BI)C" } : Jvm.MethodName) jdk_52_method_83_code (2 : Nat) (Option.some Jvm.ClassFile.FieldType.char), Jvm.Cond.code ({ cls := "java/lang/StringUTF16", name := "checkIndex", desc := "(I[B)V" } : Jvm.MethodName) jdk_52_method_91_code (2 : Nat) (Option.none : Option Jvm.ClassFile.FieldType), Jvm.Cond.code ({ cls := "java/lang/StringUTF16", name := "length", desc := "([B)I" } : Jvm.MethodName) jdk_52_method_6_code (1 : Nat) (Option.some Jvm.ClassFile.FieldType.int)]
set_option maxRecDepth 65536 in
theorem codes_eq : words1.filter isCode = codes1 := rfl
theorem w_codes : ∀ c ∈ words1.filter isCode, c.before args0 about1 = true := by
  rw [codes_eq]
  intro c hc
  simp only [codes1, List.mem_cons, List.not_mem_nil, or_false] at hc
  rcases hc with rfl | rfl | rfl | rfl | rfl | rfl | rfl | rfl | rfl | rfl | rfl | rfl | rfl | rfl | rfl | rfl | rfl | rfl | rfl | rfl | rfl | rfl | rfl | rfl
  · exact w_c0
  · exact w_c1
  · exact w_c2
  · exact w_c3
  · exact w_c4
  · exact w_c5
  · exact w_c6
  · exact w_c7
  · exact w_c8
  · exact w_c9
  · exact w_c10
  · exact w_c11
  · exact w_c12
  · exact w_c13
  · exact w_c14
  · exact w_c15
  · exact w_c16
  · exact w_c17
  · exact w_c18
  · exact w_c19
  · exact w_c20
  · exact w_c21
  · exact w_c22
  · exact w_c23
set_option maxRecDepth 65536 in
theorem w_t1 : (words1.take 24).all (fun c => isCode c || c.before args0 about1) = true := by decide +kernel
set_option maxRecDepth 65536 in
theorem w_t2 : ((words1.drop 24).take 24).all (fun c => isCode c || c.before args0 about1) = true := by decide +kernel
set_option maxRecDepth 65536 in
theorem w_t3 : (((words1.drop 24).drop 24).take 24).all (fun c => isCode c || c.before args0 about1) = true := by decide +kernel
set_option maxRecDepth 65536 in
theorem w_t4 : ((((words1.drop 24).drop 24).drop 24).take 24).all (fun c => isCode c || c.before args0 about1) = true := by decide +kernel
set_option maxRecDepth 65536 in
theorem w_t5 : ((((words1.drop 24).drop 24).drop 24).drop 24).all (fun c => isCode c || c.before args0 about1) = true := by decide +kernel
theorem w_tables : (allAtoms (Jvm.Cond.code x code maxLocals ret :: tables_1)).before args0 about1 = true := by
  rw [allAtoms_all]
  show words1.all (fun c => c.before args0 about1) = true
  refine all_split ?_ w_codes
  rw [← List.take_append_drop 24 words1, List.all_append, w_t1, ← List.take_append_drop 24 (words1.drop 24), List.all_append, w_t2, ← List.take_append_drop 24 ((words1.drop 24).drop 24), List.all_append, w_t3, ← List.take_append_drop 24 (((words1.drop 24).drop 24).drop 24), List.all_append, w_t4, w_t5]
  rfl
set_option maxRecDepth 65536 in
theorem w_rest : rest_1_c.before args0 about1 = true := by decide +kernel
set_option maxRecDepth 65536 in
theorem w_case : (Jvm.Cond.and given_1 narrow_1).before args0 about1 = true := by decide +kernel
set_option maxRecDepth 65536 in
theorem w_consts : constsHeld consts_1 about1 := Jvm.Lit.constsHeldB_iff.mp (by decide +kernel)
theorem w_applies : (headSpec (Jvm.Cond.code x code maxLocals ret :: tables_1) room_1).applies x e0.platform about1 = true :=
  (Spec.applies_iff w_frames).mpr ⟨w_running, w_runnable, w_alone, w_named, w_hears, w_ripe, w_room, w_tables⟩
theorem atStart : AtStart classFile x code maxLocals ret World_1 tables_1 room_1 Calls_1 rest_1 Pre_1 launch0 p0 e0 about1 theMethod args0 below0 :=
  ⟨lists_1, trivial, launch0.admits_env _ _ _, launch0.least_env, fairChoices_fair.cas, fairChoices_fair.clock, w_frames, w_args, w_heap, w_applies, ⟨w_consts, trivial⟩, w_rest, w_case⟩
end start1
theorem witness_1 : WitnessClaimed_1 := ⟨start1.p0, start1.e0, start1.about1, start1.theMethod, start1.args0, start1.below0, start1.atStart⟩
end Jvm.Pilot.@@N@@
