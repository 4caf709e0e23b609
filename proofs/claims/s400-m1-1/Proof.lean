import JvmDerived
import JvmDerived.Pilot.@@N@@Statement
import JvmDerived.Pilot.@@N@@Code
set_option linter.unusedVariables false
set_option linter.unusedSimpArgs false
namespace Jvm.RoadKit
open Sem ClassFile Op Lib Jvm.Stand Jvm.Free Jvm.LawKit
section Own
variable {p : Program} {l : Launch} {e : Env} {R : Room} {s : State} {m : MethodId} {args : Array Value} {below : List Frame} {meth : Method} {c : Code} {T : State} {locs : List Loc} {cells slots : Nat} {Z : State} {a0 : Array Value} {h : Heap}
/-- from T, with g on top, this invocation comes to its return and Q holds of what it leaves -/
def own_Ends (p : Program) (e : Env) (below : List Frame) (s : State) (Q : Option Value → Heap → List Loc → Prop) (k n : Nat) (T : State) (g : JFrame) : Prop :=
  ∃ s₂ o, Steps p.tables e below (T.setTop g) s₂ ∧ s₂.status = .running ∧ Ended s₂ below o ∧ ∃ v L, o = .returned v ∧ Q v s₂.heap L ∧ FrameEnd s o s₂ L k n
theorem own_step {Q : Option Value → Heap → List Loc → Prop} {k n : Nat} {T' : State} {g g' : JFrame} (h : ∀ t, Steps p.tables e below (T'.setTop g') t → Steps p.tables e below (T.setTop g) t) (H : own_Ends p e below s Q k n T' g') : own_Ends p e below s Q k n T g := by
  obtain ⟨s₂, o, h1, r⟩ := H
  exact ⟨s₂, o, h _ h1, r⟩
theorem own_ret (X : Stand p l e R s m args below meth c T locs cells slots) {v : Option Value} (hv : meth.sig.returnType = none → v = none) (hlk : meth.locks = false) {g : JFrame} {Q : Option Value → Heap → List Loc → Prop} {k n : Nat}
    (st : ∀ fs, (∀ (f : JFrame) (acts : List Action), f.method = m → f.locked = none → f.entered = [] → (doReturn e (T.setTop f) acts v).1 = T.setFrames fs) → Steps p.tables e below (T.setTop g) (T.setFrames fs))
    (hQ : Q v T.heap locs) (hk : cells ≤ k) (hn : slots ≤ n) : own_Ends p e below s Q k n T g := by
  obtain ⟨fs, hr, hrun, hended, hW, hsame⟩ := X.leave (v := v) hv hlk
  exact ⟨_, _, st fs hr, hrun, hended, v, locs, rfl, hQ, ⟨_, rfl⟩, hW, hsame.mono hk hn⟩
theorem own_retI (X : Stand p l e R s m args below meth c T locs cells slots) (hx : p.tables.exec = Jvm.exec) (hret : meth.sig.returnType = some .int) (hlk : meth.locks = false) {pc : Nat} {Ls : Array Slot} {z : Int32} {rest : List Value} (hd : decode c.code pc = .ok (.ireturn, 1)) {Q : Option Value → Heap → List Loc → Prop} {k n : Nat}
    (hQ : Q (some (.int z)) T.heap locs) (hk : cells ≤ k) (hn : slots ≤ n) : own_Ends p e below s Q k n T (mkF m pc Ls (.int z :: rest)) :=
  own_ret X (fun q => by rw [hret] at q; cases q) hlk (fun fs hr => retOut X hx hret rfl (Or.inl ⟨rfl, Or.inl rfl, z, rfl⟩) hd hr) hQ hk hn
theorem own_retN (X : Stand p l e R s m args below meth c T locs cells slots) (hx : p.tables.exec = Jvm.exec) {t : FieldType} (hret : meth.sig.returnType = some t) (ht : t = .boolean ∨ t = .byte ∨ t = .char ∨ t = .short) (hlk : meth.locks = false) {pc : Nat} {Ls : Array Slot} {z v : Int32} {rest : List Value} (hd : decode c.code pc = .ok (.ireturn, 1)) {Q : Option Value → Heap → List Loc → Prop} {k n : Nat}
    (hv : nar t z = v) (hQ : Q (some (.int v)) T.heap locs) (hk : cells ≤ k) (hn : slots ≤ n) : own_Ends p e below s Q k n T (mkF m pc Ls (.int z :: rest)) :=
  own_ret X (v := some (.int v)) (fun q => by rw [hret] at q; cases q) hlk (fun fs hr => retN X hx hret ht hd (by rw [hv]; exact hr)) hQ hk hn
theorem own_retL (X : Stand p l e R s m args below meth c T locs cells slots) (hx : p.tables.exec = Jvm.exec) (hret : meth.sig.returnType = some .long) (hlk : meth.locks = false) {pc : Nat} {Ls : Array Slot} {z : Int64} {rest : List Value} (hd : decode c.code pc = .ok (.lreturn, 1)) {Q : Option Value → Heap → List Loc → Prop} {k n : Nat}
    (hQ : Q (some (.long z)) T.heap locs) (hk : cells ≤ k) (hn : slots ≤ n) : own_Ends p e below s Q k n T (mkF m pc Ls (.long z :: rest)) :=
  own_ret X (fun q => by rw [hret] at q; cases q) hlk (fun fs hr => retOut X hx hret rfl (Or.inr (Or.inl ⟨rfl, rfl, z, rfl⟩)) hd hr) hQ hk hn
theorem own_retA (X : Stand p l e R s m args below meth c T locs cells slots) (hx : p.tables.exec = Jvm.exec) {t : FieldType} (hret : meth.sig.returnType = some t) (ht : t.isReference = true) (hlk : meth.locks = false) {pc : Nat} {Ls : Array Slot} {z : Value} {rest : List Value} (hz : z.isRef = true) (hn0 : narrow t z = z) (hd : decode c.code pc = .ok (.areturn, 1)) {Q : Option Value → Heap → List Loc → Prop} {k n : Nat}
    (hQ : Q (some z) T.heap locs) (hk : cells ≤ k) (hn : slots ≤ n) : own_Ends p e below s Q k n T (mkF m pc Ls (z :: rest)) :=
  own_ret X (fun q => by rw [hret] at q; cases q) hlk (fun fs hr => retOut X hx hret hn0 (Or.inr (Or.inr (Or.inr (Or.inr ⟨rfl, ht, hz⟩)))) hd hr) hQ hk hn
theorem own_retV (X : Stand p l e R s m args below meth c T locs cells slots) (hx : p.tables.exec = Jvm.exec) (hret : meth.sig.returnType = none) (hlk : meth.locks = false) {pc : Nat} {Ls : Array Slot} (hd : decode c.code pc = .ok (.return_, 1)) {Q : Option Value → Heap → List Loc → Prop} {k n : Nat}
    (hQ : Q none T.heap locs) (hk : cells ≤ k) (hn : slots ≤ n) : own_Ends p e below s Q k n T (mkF m pc Ls []) :=
  own_ret X (fun _ => rfl) hlk (fun fs hr => X.returnOut hx hret hd hr) hQ hk hn
/-- a contract: called with as' over the heap h0, the method comes back and Q holds -/
def own_Met (l : Launch) (y : MethodName) (bytes : ByteArray) (maxL : Nat) (ret : Option FieldType) (ws : List Jvm.Cond) (rm : Room) (as' : Array Value) (Z : State) (h0 : Heap) (Q : Option Value → Heap → List Loc → Prop) : Prop :=
  MetFree l y (head1 (Jvm.Cond.code y bytes maxL ret :: ws) rm) (fun a U => a = as' ∧ Z.Warmed39 U.vm ∧ U.heap = h0) (fun _ _ _ _ _ => True) (fun _ U o U' => ∃ v L, o = .returned v ∧ Q v U'.heap L ∧ FrameEnd U o U' L rm.cells rm.slots)
theorem own_body {y : MethodName} {bytes : ByteArray} {maxL : Nat} {ret : Option FieldType} {ws : List Jvm.Cond} {rm : Room} {as' : Array Value} {h0 : Heap} {Q : Option Value → Heap → List Loc → Prop} (hy : plainFor y = true) {g0 : MethodId → JFrame} (ef : ∀ m, entryFrame m as' maxL = g0 m)
    (body : ∀ (p : Program) (e : Env) (s : State) (m : MethodId) (below : List Frame) (meth : Method) (c : Code) (T : State), Stand p l e rm s m as' below meth c T [] 0 0 → p.tables.exec = Jvm.exec → c.code = bytes → c.maxLocals = maxL → meth.sig.returnType = ret → meth.locks = false → meth.name = y.name → s.vm.findClass y.cls = some m.cls → Z.Warmed39 s.vm → T.heap = h0 → own_Ends p e below s Q rm.cells rm.slots T (g0 m)) :
    own_Met l y bytes maxL ret ws rm as' Z h0 Q := by
  refine MetFree.of_bodySF hy hisR ?_
  intro p e s m args below meth c s₁ Bd hml hP hK
  obtain ⟨ha, hZ, hh⟩ := hP
  subst ha
  have q := body p e s m below meth c s₁ (Stand.of_body Bd) Bd.exec Bd.bytes hml Bd.returns Bd.notSynchronized (name_of_methodNamed Bd.named Bd.method).1 (findClass_of_methodNamed Bd.named) hZ (by rw [← hh, Bd.state]; rfl)
  rw [← ef m] at q
  exact q
theorem own_callS (X : Stand p l e R s m args below meth c T locs cells slots) (hx : p.tables.exec = Jvm.exec) (hZ : Z.Warmed39 s.vm) {own : String} {index : Nat} {y : MethodName} {bytes : ByteArray} {maxL : Nat} {ret : Option FieldType}
    (hown : s.vm.findClass own = some m.cls) (wl : (Jvm.Cond.methodLink own index y).before a0 Z = true) (wst : (Jvm.Cond.static y).before a0 Z = true) (wi : (Jvm.Cond.initialized y.cls).before a0 Z = true) (wc : (Jvm.Cond.code y bytes maxL ret).before a0 Z = true)
    (hy : y.cls ≠ "java/lang/invoke/MethodHandle" ∧ y.cls ≠ "java/lang/invoke/VarHandle") {rm : Room} {as' : Array Value} {Qc : Option Value → Heap → List Loc → Prop} (hM : own_Met l y bytes maxL ret [] rm as' Z h Qc) (eT : T.heap = h) (W : Nat)
    (hf : rm.frames + 1 ≤ R.frames) (hlo : W + (maxL + 11) + rm.locals ≤ R.locals) (hcl : cells + rm.cells ≤ R.cells) (hsl : slots + rm.slots ≤ R.slots)
    {g : JFrame} (hg : g.method = m) (hsize : g.locals.size = c.maxLocals) (argsL rest : List Value) {ps : List FieldType} {r : Option FieldType} (hpd : parseMethodDescriptor y.desc = some ⟨ps, r⟩) (hlen : argsL.length = ps.length) (has : argsL.toArray = as')
    (hstack : g.stack = argsL.reverse ++ rest) (hW : 2 * g.monitorRoom + (rest.map fun v => v.category).sum ≤ W) (hdg : decode c.code g.pc = .ok (.invokestatic index, 3)) {Q : Option Value → Heap → List Loc → Prop} {k n : Nat}
    (cont : ∀ v T' L, Stand p l e R s m args below meth c T' (locs ++ L) (cells + rm.cells) (slots + rm.slots) → Qc v T'.heap L → own_Ends p e below s Q k n T' { g with pc := g.pc + 3, stack := v.toList ++ rest }) : own_Ends p e below s Q k n T g := by
  obtain ⟨v, _, ⟨T2, L2, k2, n2⟩, -, X2, ⟨Lc, hQ, l2, y2, z2⟩, st⟩ := Jvm.LawKit.callS X hx (y := y) hown (mvT hZ wl) (mvT hZ wst) (mvT hZ wi) (mvT hZ wc) hy (backOf (W := W) hM hZ wc wi hf hlo) hg hsize (argsL := argsL) (rest := rest) (lenOf hpd hlen) hstack hW hdg (fun _ _ => ⟨has, eT, hcl, hsl⟩)
  dsimp only [Pt.U, Pt.locs, Pt.cells, Pt.slots] at X2 l2 y2 z2 st hQ
  subst l2 y2 z2
  exact own_step st (cont v T2 Lc X2 hQ)
theorem own_callV (X : Stand p l e R s m args below meth c T locs cells slots) (hx : p.tables.exec = Jvm.exec) (hZ : Z.Warmed39 s.vm) {own C : String} {index : Nat} {y z : MethodName} {bytes : ByteArray} {maxL : Nat} {ret : Option FieldType}
    (hown : s.vm.findClass own = some m.cls) (wl : (Jvm.Cond.methodLink own index y).before a0 Z = true) (wd : (Jvm.Cond.declares y).before a0 Z = true) (wf : (Jvm.Cond.selects y.cls y y).before a0 Z = true) (ws : (Jvm.Cond.selects C y z).before a0 Z = true) (wm : (Jvm.Cond.instanceMethod z).before a0 Z = true) (wi : (Jvm.Cond.initialized z.cls).before a0 Z = true) (wc : (Jvm.Cond.code z bytes maxL ret).before a0 Z = true)
    (hy : y.cls ≠ "java/lang/invoke/MethodHandle" ∧ y.cls ≠ "java/lang/invoke/VarHandle") {rm : Room} {as' : Array Value} {Qc : Option Value → Heap → List Loc → Prop} (hM : own_Met l z bytes maxL ret [] rm as' Z h Qc) (eT : T.heap = h) {b : Addr} (hE : Exa Z h b C) (W : Nat)
    (hf : rm.frames + 1 ≤ R.frames) (hlo : W + (maxL + 11) + rm.locals ≤ R.locals) (hcl : cells + rm.cells ≤ R.cells) (hsl : slots + rm.slots ≤ R.slots)
    {g : JFrame} (hg : g.method = m) (hsize : g.locals.size = c.maxLocals) (argsL rest : List Value) {ps : List FieldType} {r : Option FieldType} (hpd : parseMethodDescriptor y.desc = some ⟨ps, r⟩) (hlen : argsL.length = ps.length) (has : (Value.ref b :: argsL).toArray = as')
    (hstack : g.stack = argsL.reverse ++ .ref b :: rest) (hW : 2 * g.monitorRoom + (rest.map fun v => v.category).sum ≤ W) (hdg : decode c.code g.pc = .ok (.invokevirtual index, 3)) {Q : Option Value → Heap → List Loc → Prop} {k n : Nat}
    (cont : ∀ v T' L, Stand p l e R s m args below meth c T' (locs ++ L) (cells + rm.cells) (slots + rm.slots) → Qc v T'.heap L → own_Ends p e below s Q k n T' { g with pc := g.pc + 3, stack := v.toList ++ rest }) : own_Ends p e below s Q k n T g := by
  obtain ⟨cq, kq, q1, q2, q3⟩ := isOf hZ eT hE
  obtain ⟨v, _, ⟨T2, L2, k2, n2⟩, -, X2, ⟨Lc, hQ, l2, y2, z2⟩, st⟩ := X.virtualBack hx (y := y) (z := z) hown (mvT hZ wl) (mvT hZ wd) (notFace_of_selects (args := #[]) (mvT hZ wf)) (mvT hZ ws) (mvT hZ wm) hy (backOf (W := W) hM hZ wc wi hf hlo) q1 q3 hg hsize (Steps.refl _) (argsL := argsL) (rest := rest) (lenOf hpd hlen) hstack hW hdg (fun _ _ => ⟨has, eT, hcl, hsl⟩)
  dsimp only [Pt.U, Pt.locs, Pt.cells, Pt.slots] at X2 l2 y2 z2 st hQ
  subst l2 y2 z2
  exact own_step (fun _ k => st.trans k) (cont v T2 Lc X2 hQ)
theorem own_callC (X : Stand p l e R s m args below meth c T locs cells slots) (hx : p.tables.exec = Jvm.exec) (hZ : Z.Warmed39 s.vm) {own : String} {index : Nat} {y : MethodName} {bytes : ByteArray} {maxL : Nat} (hy1 : y.name = "<init>")
    (hown : s.vm.findClass own = some m.cls) (wl : (Jvm.Cond.methodLink own index y).before a0 Z = true) (wm : (Jvm.Cond.instanceMethod y).before a0 Z = true) (wi : (Jvm.Cond.initialized y.cls).before a0 Z = true) (wc : (Jvm.Cond.code y bytes maxL none).before a0 Z = true)
    (hy : y.cls ≠ "java/lang/invoke/MethodHandle" ∧ y.cls ≠ "java/lang/invoke/VarHandle") {rm : Room} {as' : Array Value} {Qc : Option Value → Heap → List Loc → Prop} (hM : own_Met l y bytes maxL none [] rm as' Z h Qc) (eT : T.heap = h) {b : Addr} (W : Nat)
    (hf : rm.frames + 1 ≤ R.frames) (hlo : W + (maxL + 11) + rm.locals ≤ R.locals) (hcl : cells + rm.cells ≤ R.cells) (hsl : slots + rm.slots ≤ R.slots)
    {g : JFrame} (hg : g.method = m) (hsize : g.locals.size = c.maxLocals) (argsL rest : List Value) {ps : List FieldType} {r : Option FieldType} (hpd : parseMethodDescriptor y.desc = some ⟨ps, r⟩) (hlen : argsL.length = ps.length) (has : (Value.ref b :: argsL).toArray = as')
    (hstack : g.stack = argsL.reverse ++ .ref b :: rest) (hW : 2 * g.monitorRoom + (rest.map fun v => v.category).sum ≤ W) (hdg : decode c.code g.pc = .ok (.invokespecial index, 3)) {Q : Option Value → Heap → List Loc → Prop} {k n : Nat}
    (cont : ∀ v T' L, Stand p l e R s m args below meth c T' (locs ++ L) (cells + rm.cells) (slots + rm.slots) → Qc v T'.heap L → own_Ends p e below s Q k n T' { g with pc := g.pc + 3, stack := v.toList ++ rest }) : own_Ends p e below s Q k n T g := by
  obtain ⟨v, _, ⟨T2, L2, k2, n2⟩, -, X2, ⟨Lc, hQ, l2, y2, z2⟩, st⟩ := X.specialBack hx (y := y) hy1 hown (mvT hZ wl) (mvT hZ wm) (mvT hZ wc) hy (backOf (W := W) hM hZ wc wi hf hlo) hg hsize (Steps.refl _) (a := b) (argsL := argsL) (rest := rest) (lenOf hpd hlen) hstack hW hdg (fun _ _ => ⟨has, eT, hcl, hsl⟩)
  dsimp only [Pt.U, Pt.locs, Pt.cells, Pt.slots] at X2 l2 y2 z2 st hQ
  subst l2 y2 z2
  exact own_step (fun _ k => st.trans k) (cont v T2 Lc X2 hQ)
/-! arrays by their lists -/
variable {a b : Addr} {kA : ClassId} {ty : FieldType} {z : Int32} {vs : List Value} {dv : Value}
theorem own_newA (X : Stand p l e R s m args below meth c T locs cells slots) (hx : p.tables.exec = Jvm.exec) (hZ : Z.Warmed39 s.vm) {aty : ArrayType} (w : (Jvm.Cond.arrayClass (newarray.typeOf aty)).before a0 Z = true) (eT : T.heap = h) {g : JFrame} (hg : g.method = m) (hd : decode c.code g.pc = .ok (.newarray aty, 2)) {n : Int32} {rest : List Value} (hs : g.stack = .int n :: rest)
    (hn : ¬ n < 0) {cap : Nat} (hcap : n.toNatClampNeg ≤ cap) (hb : cap * 8 ≤ 536870912) (hc : cells + 1 ≤ R.cells) (hl : slots + cap ≤ R.slots) :
    ∃ T' h' cA b, b = h.size ∧ Stand p l e R s m args below meth c T' locs (cells + 1) (slots + cap) ∧ T'.heap = h' ∧ Ext h h' ∧ Arv Z h' b cA (newarray.typeOf aty) n (List.replicate cap (defaultValue (newarray.typeOf aty))) (defaultValue (newarray.typeOf aty)) ∧
      ∀ target, Steps p.tables e below (T'.setTop { g with pc := g.pc + 2, stack := .ref b :: rest }) target → Steps p.tables e below (T.setTop g) target := by
  obtain ⟨T', h', cA, X', e', E, A, st⟩ := newP X hx hZ w eT hg hd hs hn hcap hb hc hl
  exact ⟨T', h', cA, _, rfl, X', e', E, (Arv.new A hn).pad (pad_rep [] _ cap), st⟩
theorem own_stB (X : Stand p l e R s m args below meth c T locs cells slots) (hx : p.tables.exec = Jvm.exec) (hZ : Z.Warmed39 s.vm) (eT : T.heap = h) (V : Arv Z h a kA .byte z vs dv) {j x : Int32} (hj : ¬ j < 0 ∧ j < z) (i : Nat) (hi : j.toNatClampNeg = i) (hl : i < vs.length) {g : JFrame} (hg : g.method = m) {rest : List Value} (hs : g.stack = .int x :: .int j :: .ref a :: rest) (hd : decode c.code g.pc = .ok (.bastore, 1)) :
    ∃ T' h' L, Stand p l e R s m args below meth c T' (locs ++ [⟨a, L⟩]) cells slots ∧ T'.heap = h' ∧ Wr h h' a L (.int x.toInt8.toInt32) ∧ Arv Z h' a kA .byte z (vs.set i (.int x.toInt8.toInt32)) dv ∧ ∀ target, Steps p.tables e below (T'.setTop { g with pc := g.pc + 1, stack := rest }) target → Steps p.tables e below (T.setTop g) target := by
  obtain ⟨cl, Ar, q, S, N, H, G⟩ := V
  obtain ⟨T', h', X', e', W, st⟩ := stB X hx hZ eT Ar (inb_of S hj) hg hs hd
  exact ⟨T', h', _, X', e', W, Arv.set Ar q S N H G (fits_nar_byte _) W i hi hl, st⟩
theorem own_stZ (X : Stand p l e R s m args below meth c T locs cells slots) (hx : p.tables.exec = Jvm.exec) (hZ : Z.Warmed39 s.vm) (eT : T.heap = h) (V : Arv Z h a kA .boolean z vs dv) {j x : Int32} (hj : ¬ j < 0 ∧ j < z) (i : Nat) (hi : j.toNatClampNeg = i) (hl : i < vs.length) {g : JFrame} (hg : g.method = m) {rest : List Value} (hs : g.stack = .int x :: .int j :: .ref a :: rest) (hd : decode c.code g.pc = .ok (.bastore, 1)) :
    ∃ T' h' L, Stand p l e R s m args below meth c T' (locs ++ [⟨a, L⟩]) cells slots ∧ T'.heap = h' ∧ Wr h h' a L (.int (nar .boolean x)) ∧ Arv Z h' a kA .boolean z (vs.set i (.int (nar .boolean x))) dv ∧ ∀ target, Steps p.tables e below (T'.setTop { g with pc := g.pc + 1, stack := rest }) target → Steps p.tables e below (T.setTop g) target := by
  obtain ⟨cl, Ar, q, S, N, H, G⟩ := V
  obtain ⟨T', h', X', e', W, st⟩ := stZ X hx hZ eT Ar (inb_of S hj) hg hs hd
  exact ⟨T', h', _, X', e', W, Arv.set Ar q S N H G (fits_nar_bool _) W i hi hl, st⟩
theorem own_stC (X : Stand p l e R s m args below meth c T locs cells slots) (hx : p.tables.exec = Jvm.exec) (hZ : Z.Warmed39 s.vm) (eT : T.heap = h) (V : Arv Z h a kA .char z vs dv) {j x : Int32} (hj : ¬ j < 0 ∧ j < z) (i : Nat) (hi : j.toNatClampNeg = i) (hl : i < vs.length) {g : JFrame} (hg : g.method = m) {rest : List Value} (hs : g.stack = .int x :: .int j :: .ref a :: rest) (hd : decode c.code g.pc = .ok (.castore, 1)) :
    ∃ T' h' L, Stand p l e R s m args below meth c T' (locs ++ [⟨a, L⟩]) cells slots ∧ T'.heap = h' ∧ Wr h h' a L (.int (nar .char x)) ∧ Arv Z h' a kA .char z (vs.set i (.int (nar .char x))) dv ∧ ∀ target, Steps p.tables e below (T'.setTop { g with pc := g.pc + 1, stack := rest }) target → Steps p.tables e below (T.setTop g) target := by
  obtain ⟨cl, Ar, q, S, N, H, G⟩ := V
  obtain ⟨T', h', X', e', W, st⟩ := stC X hx hZ eT Ar (inb_of S hj) hg hs hd
  exact ⟨T', h', _, X', e', W, Arv.set Ar q S N H G (fits_nar_char _) W i hi hl, st⟩
theorem own_stI (X : Stand p l e R s m args below meth c T locs cells slots) (hx : p.tables.exec = Jvm.exec) (hZ : Z.Warmed39 s.vm) (eT : T.heap = h) (V : Arv Z h a kA .int z vs dv) {j x : Int32} (hj : ¬ j < 0 ∧ j < z) (i : Nat) (hi : j.toNatClampNeg = i) (hl : i < vs.length) {g : JFrame} (hg : g.method = m) {rest : List Value} (hs : g.stack = .int x :: .int j :: .ref a :: rest) (hd : decode c.code g.pc = .ok (.iastore, 1)) :
    ∃ T' h' L, Stand p l e R s m args below meth c T' (locs ++ [⟨a, L⟩]) cells slots ∧ T'.heap = h' ∧ Wr h h' a L (.int x) ∧ Arv Z h' a kA .int z (vs.set i (.int x)) dv ∧ ∀ target, Steps p.tables e below (T'.setTop { g with pc := g.pc + 1, stack := rest }) target → Steps p.tables e below (T.setTop g) target := by
  obtain ⟨cl, Ar, q, S, N, H, G⟩ := V
  obtain ⟨T', h', X', e', W, st⟩ := stI X hx hZ eT Ar (inb_of S hj) hg hs hd
  exact ⟨T', h', _, X', e', W, Arv.set Ar q S N H G rfl W i hi hl, st⟩
theorem own_stJ (X : Stand p l e R s m args below meth c T locs cells slots) (hx : p.tables.exec = Jvm.exec) (hZ : Z.Warmed39 s.vm) (eT : T.heap = h) (V : Arv Z h a kA .long z vs dv) {j : Int32} {x : Int64} (hj : ¬ j < 0 ∧ j < z) (i : Nat) (hi : j.toNatClampNeg = i) (hl : i < vs.length) {g : JFrame} (hg : g.method = m) {rest : List Value} (hs : g.stack = .long x :: .int j :: .ref a :: rest) (hd : decode c.code g.pc = .ok (.lastore, 1)) :
    ∃ T' h' L, Stand p l e R s m args below meth c T' (locs ++ [⟨a, L⟩]) cells slots ∧ T'.heap = h' ∧ Wr h h' a L (.long x) ∧ Arv Z h' a kA .long z (vs.set i (.long x)) dv ∧ ∀ target, Steps p.tables e below (T'.setTop { g with pc := g.pc + 1, stack := rest }) target → Steps p.tables e below (T.setTop g) target := by
  obtain ⟨cl, Ar, q, S, N, H, G⟩ := V
  obtain ⟨T', h', X', e', W, st⟩ := stJ X hx hZ eT Ar (inb_of S hj) hg hs hd
  exact ⟨T', h', _, X', e', W, Arv.set Ar q S N H G rfl W i hi hl, st⟩
theorem own_ldB (X : Stand p l e R s m args below meth c T locs cells slots) (hx : p.tables.exec = Jvm.exec) (hZ : Z.Warmed39 s.vm) (eT : T.heap = h) (V : Arv Z h a kA .byte z vs dv) {j : Int32} {v : Value} (hj : ¬ j < 0 ∧ j < z) (hv : vs.getD j.toNatClampNeg dv = v) {g : JFrame} (hg : g.method = m) {rest : List Value} (hs : g.stack = .int j :: .ref a :: rest) (hd : decode c.code g.pc = .ok (.baload, 1)) :
    ∀ t, Steps p.tables e below (T.setTop { g with pc := g.pc + 1, stack := v :: rest }) t → Steps p.tables e below (T.setTop g) t := by
  obtain ⟨cl, Ar, q, S, N, H, G⟩ := V
  exact fun t k => X.baloadBytes hx (by rw [eT]; exact Ar.1) (State.isArrayOf_alike hZ.alike Ar.2.1) Ar.2.2 (inb_of S hj) (Has.at H (inb_of S hj) hv) hg hs hd _ k
theorem own_ldZ (X : Stand p l e R s m args below meth c T locs cells slots) (hx : p.tables.exec = Jvm.exec) (hZ : Z.Warmed39 s.vm) (eT : T.heap = h) (V : Arv Z h a kA .boolean z vs dv) {j : Int32} {v : Value} (hj : ¬ j < 0 ∧ j < z) (hv : vs.getD j.toNatClampNeg dv = v) {g : JFrame} (hg : g.method = m) {rest : List Value} (hs : g.stack = .int j :: .ref a :: rest) (hd : decode c.code g.pc = .ok (.baload, 1)) :
    ∀ t, Steps p.tables e below (T.setTop { g with pc := g.pc + 1, stack := v :: rest }) t → Steps p.tables e below (T.setTop g) t := by
  obtain ⟨cl, Ar, q, S, N, H, G⟩ := V
  exact fun t k => X.baloadBooleans hx (by rw [eT]; exact Ar.1) (State.isArrayOf_alike hZ.alike Ar.2.1) Ar.2.2 (inb_of S hj) (Has.at H (inb_of S hj) hv) hg hs hd _ k
theorem own_ldC (X : Stand p l e R s m args below meth c T locs cells slots) (hx : p.tables.exec = Jvm.exec) (hZ : Z.Warmed39 s.vm) (eT : T.heap = h) (V : Arv Z h a kA .char z vs dv) {j : Int32} {v : Value} (hj : ¬ j < 0 ∧ j < z) (hv : vs.getD j.toNatClampNeg dv = v) {g : JFrame} (hg : g.method = m) {rest : List Value} (hs : g.stack = .int j :: .ref a :: rest) (hd : decode c.code g.pc = .ok (.caload, 1)) :
    ∀ t, Steps p.tables e below (T.setTop { g with pc := g.pc + 1, stack := v :: rest }) t → Steps p.tables e below (T.setTop g) t := by
  obtain ⟨cl, Ar, q, S, N, H, G⟩ := V
  exact fun t k => X.caload hx (by rw [eT]; exact Ar.1) (State.isArrayOf_alike hZ.alike Ar.2.1) Ar.2.2 (inb_of S hj) (Has.at H (inb_of S hj) hv) hg hs hd _ k
theorem own_ldI (X : Stand p l e R s m args below meth c T locs cells slots) (hx : p.tables.exec = Jvm.exec) (hZ : Z.Warmed39 s.vm) (eT : T.heap = h) (V : Arv Z h a kA .int z vs dv) {j : Int32} {v : Value} (hj : ¬ j < 0 ∧ j < z) (hv : vs.getD j.toNatClampNeg dv = v) {g : JFrame} (hg : g.method = m) {rest : List Value} (hs : g.stack = .int j :: .ref a :: rest) (hd : decode c.code g.pc = .ok (.iaload, 1)) :
    ∀ t, Steps p.tables e below (T.setTop { g with pc := g.pc + 1, stack := v :: rest }) t → Steps p.tables e below (T.setTop g) t := by
  obtain ⟨cl, Ar, q, S, N, H, G⟩ := V
  exact fun t k => X.iaload hx (by rw [eT]; exact Ar.1) (State.isArrayOf_alike hZ.alike Ar.2.1) Ar.2.2 (inb_of S hj) (Has.at H (inb_of S hj) hv) hg hs hd _ k
theorem own_ldJ (X : Stand p l e R s m args below meth c T locs cells slots) (hx : p.tables.exec = Jvm.exec) (hZ : Z.Warmed39 s.vm) (eT : T.heap = h) (V : Arv Z h a kA .long z vs dv) {j : Int32} {v : Value} (hj : ¬ j < 0 ∧ j < z) (hv : vs.getD j.toNatClampNeg dv = v) {g : JFrame} (hg : g.method = m) {rest : List Value} (hs : g.stack = .int j :: .ref a :: rest) (hd : decode c.code g.pc = .ok (.laload, 1)) :
    ∀ t, Steps p.tables e below (T.setTop { g with pc := g.pc + 1, stack := v :: rest }) t → Steps p.tables e below (T.setTop g) t := by
  obtain ⟨cl, Ar, q, S, N, H, G⟩ := V
  exact fun t k => X.laload hx (by rw [eT]; exact Ar.1) (State.isArrayOf_alike hZ.alike Ar.2.1) Ar.2.2 (inb_of S hj) (Has.at H (inb_of S hj) hv) hg hs hd _ k
theorem own_ldA (X : Stand p l e R s m args below meth c T locs cells slots) (hx : p.tables.exec = Jvm.exec) (hZ : Z.Warmed39 s.vm) (eT : T.heap = h) (V : Arv Z h a kA ty z vs dv) (hty : ty.isReference = true) {j : Int32} {v : Value} (hj : ¬ j < 0 ∧ j < z) (hv : vs.getD j.toNatClampNeg dv = v) {g : JFrame} (hg : g.method = m) {rest : List Value} (hs : g.stack = .int j :: .ref a :: rest) (hd : decode c.code g.pc = .ok (.aaload, 1)) :
    ∀ t, Steps p.tables e below (T.setTop { g with pc := g.pc + 1, stack := v :: rest }) t → Steps p.tables e below (T.setTop g) t := by
  obtain ⟨cl, Ar, q, S, N, H, G⟩ := V
  exact fun t k => X.aaload hx (by rw [eT]; exact Ar.1) (State.isArrayOf_alike hZ.alike Ar.2.1) hty Ar.2.2 (inb_of S hj) (Has.at H (inb_of S hj) hv) hg hs hd _ k
theorem own_len (X : Stand p l e R s m args below meth c T locs cells slots) (hx : p.tables.exec = Jvm.exec) (hZ : Z.Warmed39 s.vm) (eT : T.heap = h) (V : Arv Z h a kA ty z vs dv) {g : JFrame} (hg : g.method = m) {rest : List Value} (hs : g.stack = .ref a :: rest) (hd : decode c.code g.pc = .ok (.arraylength, 1)) :
    ∀ t, Steps p.tables e below (T.setTop { g with pc := g.pc + 1, stack := .int z :: rest }) t → Steps p.tables e below (T.setTop g) t := by
  obtain ⟨cl, Ar, q, S, N, H, G⟩ := V
  refine fun t k => X.arraylength hx (by rw [eT]; exact Ar.1) (State.isArrayOf_alike hZ.alike Ar.2.1) hg hs hd _ ?_
  rw [len_of S N]; exact k
theorem own_newR (X : Stand p l e R s m args below meth c T locs cells slots) (hx : p.tables.exec = Jvm.exec) (hZ : Z.Warmed39 s.vm) {own C : String} {index : Nat} (hown : s.vm.findClass own = some m.cls) (w1 : (Jvm.Cond.classLink own index C).before a0 Z = true) (w2 : (Jvm.Cond.arrayOver (.object C)).before a0 Z = true)
    (eT : T.heap = h) {g : JFrame} (hg : g.method = m) (hd : decode c.code g.pc = .ok (.anewarray index, 3)) {n : Int32} {rest : List Value} (hs : g.stack = .int n :: rest) (hn : ¬ n < 0) {cap : Nat} (hcap : n.toNatClampNeg ≤ cap) (hb : cap * 8 ≤ 536870912) (hc : cells + 1 ≤ R.cells) (hl : slots + cap ≤ R.slots) :
    ∃ T' h' cA b, b = h.size ∧ Stand p l e R s m args below meth c T' locs (cells + 1) (slots + cap) ∧ T'.heap = h' ∧ Ext h h' ∧ Arv Z h' b cA (.object C) n (List.replicate cap .null) .null ∧ Ovr Z cA C ∧
      ∀ target, Steps p.tables e below (T'.setTop { g with pc := g.pc + 3, stack := .ref b :: rest }) target → Steps p.tables e below (T.setTop g) target := by
  obtain ⟨T', h', cA, X', e', E, A, O, st⟩ := newR X hx hZ hown w1 w2 eT hg hd hs hn hcap hb hc hl
  exact ⟨T', h', cA, _, rfl, X', e', E, (Arv.new A hn).pad (pad_rep [] _ cap), O, st⟩
theorem own_stA (X : Stand p l e R s m args below meth c T locs cells slots) (hx : p.tables.exec = Jvm.exec) (hZ : Z.Warmed39 s.vm) (eT : T.heap = h) {C : String} {y : Addr} (V : Arv Z h a kA (.object C) z vs dv) (O : Ovr Z kA C) (I : Ins Z h y C true) {j : Int32} (hj : ¬ j < 0 ∧ j < z) (i : Nat) (hi : j.toNatClampNeg = i) (hl : i < vs.length) {g : JFrame} (hg : g.method = m) {rest : List Value} (hs : g.stack = .ref y :: .int j :: .ref a :: rest) (hd : decode c.code g.pc = .ok (.aastore, 1)) :
    ∃ T' h' L, Stand p l e R s m args below meth c T' (locs ++ [⟨a, L⟩]) cells slots ∧ T'.heap = h' ∧ Wr h h' a L (.ref y) ∧ Arv Z h' a kA (.object C) z (vs.set i (.ref y)) dv ∧ ∀ target, Steps p.tables e below (T'.setTop { g with pc := g.pc + 1, stack := rest }) target → Steps p.tables e below (T.setTop g) target := by
  obtain ⟨cl, Ar, q, S, N, H, G⟩ := V
  obtain ⟨T', h', X', e', W, st⟩ := stR X hx hZ eT Ar (inb_of S hj) rfl (Sto.ofV Ar q O I) hg hs hd
  exact ⟨T', h', _, X', e', W, Arv.set Ar q S N H G rfl W i hi hl, st⟩
/-! what the case's words say of statics -/
theorem own_eqI {t : Term} {n : Int32} {args : Array Value} {s : State} (q : (Jvm.Cond.eq t (.int n)).value args s none s [] = some true) : t.eval args s none [] s = some (.int n) := by
  cases ht : t.eval args s none [] s with
  | none => simp [Jvm.Cond.value, ht] at q
  | some v => cases v <;> simp [Jvm.Cond.value, ht, Term.eval, Value.isRef] at q ⊢ <;> exact q
theorem own_eqJ {t : Term} {n : Int64} {args : Array Value} {s : State} (q : (Jvm.Cond.eq t (.long n)).value args s none s [] = some true) : t.eval args s none [] s = some (.long n) := by
  cases ht : t.eval args s none [] s with
  | none => simp [Jvm.Cond.value, ht] at q
  | some v => cases v <;> simp [Jvm.Cond.value, ht, Term.eval, Value.isRef] at q ⊢ <;> exact q
theorem own_eqR {t u : Term} {x : Addr} {args : Array Value} {s : State} (hu : u.eval args s none [] s = some (.ref x)) (q : (Jvm.Cond.eq t u).value args s none s [] = some true) : t.eval args s none [] s = some (.ref x) := by
  cases ht : t.eval args s none [] s with
  | none => simp [Jvm.Cond.value, ht] at q
  | some v => cases v <;> simp [Jvm.Cond.value, ht, hu, Value.isRef] at q ⊢ <;> exact q
theorem own_lenT {t : Term} {a : Addr} {cl : Cell} {ty : FieldType} {z : Int32} {args : Array Value} {s : State} (ht : t.eval args s none [] s = some (.ref a)) (A : Arr s s.heap a cl ty) (q : (Term.length t).eval args s none [] s = some (.int z)) : cl.slots.size < 2 ^ 31 ∧ cl.slots.size.toInt32 = z := by
  have ha : s.arrayAt? a = some cl := Arr.fin (Vm.Alike.refl _) A
  by_cases hl : cl.slots.size < 2 ^ 31
  · rw [len_f ht ha hl] at q; cases q; exact ⟨hl, rfl⟩
  · simp [Term.eval, ht, ha, hl] at q
end Own
end Jvm.RoadKit
namespace Jvm.Pilot.@@N@@
open Jvm Jvm.ClassFile Sem Op Lib Jvm.Free Jvm.Stand Jvm.LawKit Jvm.RoadKit Bundle Jvm.Pilot.@@N@@.Jvm.D
theorem own_leafI {x y : Int32} (q : y = x) : some (Value.int x) = some (.int y) := by rw [q]
theorem own_leafJ {x y : Int64} (q : y = x) : some (Value.long x) = some (.long y) := by rw [q]
theorem own_leafV {x y : Value} (q : y = x) : some x = some y := by rw [q]
def own_kind (p : Int32) (x0 x1 x2 : Addr) : Value := if p = (1 : Int32) then .ref x0 else if p = (2 : Int32) then .ref x1 else if p = (3 : Int32) then .ref x2 else .null
theorem own_isr (p : Int32) (x0 x1 x2 : Addr) : (own_kind p x0 x1 x2).isRef = true := by
  unfold own_kind; repeat' split
  all_goals rfl
theorem own_cat (p : Int32) (x0 x1 x2 : Addr) : (own_kind p x0 x1 x2).category = 1 := by
  unfold own_kind; repeat' split
  all_goals rfl
theorem d2_0 : decode prog_20_method_1_code 0 = .ok (.getstatic 13, 3) := by decide +kernel
theorem d2_3 : decode prog_20_method_1_code 3 = .ok (.invokevirtual 17, 3) := by decide +kernel
theorem d2_6 : decode prog_20_method_1_code 6 = .ok (.checkcast 18, 3) := by decide +kernel
theorem d2_9 : decode prog_20_method_1_code 9 = .ok (.areturn, 1) := by decide +kernel
theorem ef_2  (m : MethodId) : entryFrame m #[] 0 = mkF m 0 #[] [] := by first | (simp [entryFrame, mkF, argsToLocals, Value.category]; done) | rfl
theorem pn_0 : plainName "com/example/wirelane/wirelane/broker/EventKind" = true := by first | (simp [plainName, overriddenIn]; done) | decide +kernel
set_option maxRecDepth 65536 in
set_option maxHeartbeats 40000000 in
theorem rm2 (l : Launch) (Z : State) (a0 : Array Value) (hw : ∀ d ∈ tables_1, d.before a0 Z = true) (ws : List Jvm.Cond) (va : Addr) (kv : ClassId) (x0 x1 x2 : Addr) (h0 : Heap) (n0 : Nat) (Z0 : n0 ≤ h0.size) (O0 : Old Z n0 h0) (SV : Sta Z Z.heap "com/example/wirelane/wirelane/broker/EventKind" "$VALUES" "[Lcom/example/wirelane/wirelane/broker/EventKind;" (.ref va)) (VV : Arv Z Z.heap va kv (.object "com/example/wirelane/wirelane/broker/EventKind") (3 : Int32) [(.ref x0), (.ref x1), (.ref x2)] .null) (EV : Exa Z Z.heap va "[Lcom/example/wirelane/wirelane/broker/EventKind;") :
    own_Met l (⟨"com/example/wirelane/wirelane/broker/EventKind", "values", "()[Lcom/example/wirelane/wirelane/broker/EventKind;"⟩ : MethodName) prog_20_method_1_code 0 (some (.array (.object "com/example/wirelane/wirelane/broker/EventKind"))) ws ({ frames := 1, cells := 1, slots := 3, locals := 14 } : Room) #[] Z h0 (fun v h L => ∃ b, v = some (.ref b) ∧ Fr n0 L ∧ Ext h0 h ∧ n0 ≤ b ∧ Arv Z h b kv (.object "com/example/wirelane/wirelane/broker/EventKind") (3 : Int32) [(.ref x0), (.ref x1), (.ref x2)] .null) := by
  refine own_body (plainFor_of_name pn_0) (ef_2 ) ?_
  intro p e s m below meth c T0 X0 hx hby hml0 hret hlk hnm hown hZ e0
  have hml : c.maxLocals = 0 := hml0
  have N0 := Fr.nil n0
  obtain ⟨T1, X1, e1, st1⟩ := getS2 X0 hx hZ hown (host := "") (Or.inl (hw _ (List.mem_of_getElem? (i := 7) rfl))) Via.refl e0 (SV.ext O0.2) (g := (mkF m 0 #[] [])) rfl (hb hby d2_0)
  refine own_step st1 ?_
  show own_Ends _ _ _ _ _ _ _ T1 (mkF m 3 #[] [(.ref va)])
  obtain ⟨T2, h2, X2, e2, E2, V2, A2, st2⟩ := cloneH X1 hx hZ hown (hw _ (List.mem_of_getElem? (i := 9) rfl)) (hw _ (List.mem_of_getElem? (i := 10) rfl)) (hw _ (List.mem_of_getElem? (i := 14) rfl)) (hw _ (List.mem_of_getElem? (i := 12) rfl)) (hw _ (List.mem_of_getElem? (i := 13) rfl)) (hw _ (List.mem_of_getElem? (i := 15) rfl)) e1 (hs := []) (vs := [(.ref x0), (.ref x1), (.ref x2)]) (dv := .null) (VV.ext O0.2) (EV.ext O0.2) (g := (mkF m 3 #[] [(.ref va)])) rfl (by rw [hml]; rfl) rfl (hb hby d2_3) (by decide) (W := 0) (cap := 3) (by show 2 * 0 + _ ≤ _; exact Nat.le_of_eq rfl) (by decide) (by decide) (by decide) (by decide)
  obtain ⟨b, g2⟩ : ∃ z, z = h0.size := ⟨_, rfl⟩
  rw [← g2] at V2 A2 st2
  have g_b : n0 ≤ b := Nat.le_trans Z0 (Nat.le_of_eq g2.symm)
  refine own_step st2 ?_
  show own_Ends _ _ _ _ _ _ _ T2 (mkF m 6 #[] [(.ref b)])
  obtain ⟨T3, X3, e3, st3⟩ := castY X2 hx hZ hown (hw _ (List.mem_of_getElem? (i := 20) rfl)) e2 (Ins.self A2) (g := (mkF m 6 #[] [(.ref b)])) rfl rfl (hb hby d2_6)
  refine own_step st3 ?_
  show own_Ends _ _ _ _ _ _ _ T3 (mkF m 9 #[] [(.ref b)])
  exact own_retA X3 hx hret rfl hlk rfl rfl (hb hby d2_9) (by rw [e3]; exact ⟨b, rfl, N0, E2, g_b, V2⟩) (by decide) (by decide)
theorem d1_0 : decode prog_20_method_6_code 0 = .ok (.aconst_null, 1) := by decide +kernel
theorem d1_1 : decode prog_20_method_6_code 1 = .ok (.astore_n 1, 1) := by decide +kernel
theorem d1_2 : decode prog_20_method_6_code 2 = .ok (.invokestatic 40, 3) := by decide +kernel
theorem d1_5 : decode prog_20_method_6_code 5 = .ok (.astore_n 2, 1) := by decide +kernel
theorem d1_6 : decode prog_20_method_6_code 6 = .ok (.aload_n 2, 1) := by decide +kernel
theorem d1_7 : decode prog_20_method_6_code 7 = .ok (.arraylength, 1) := by decide +kernel
theorem d1_8 : decode prog_20_method_6_code 8 = .ok (.istore_n 3, 1) := by decide +kernel
theorem d1_9 : decode prog_20_method_6_code 9 = .ok (.iconst 0, 1) := by decide +kernel
theorem d1_10 : decode prog_20_method_6_code 10 = .ok (.istore 4, 2) := by decide +kernel
theorem d1_12 : decode prog_20_method_6_code 12 = .ok (.iload 4, 2) := by decide +kernel
theorem d1_14 : decode prog_20_method_6_code 14 = .ok (.iload_n 3, 1) := by decide +kernel
theorem d1_15 : decode prog_20_method_6_code 15 = .ok (.if_icmp .ge 27, 3) := by decide +kernel
theorem d1_18 : decode prog_20_method_6_code 18 = .ok (.aload_n 2, 1) := by decide +kernel
theorem d1_19 : decode prog_20_method_6_code 19 = .ok (.iload 4, 2) := by decide +kernel
theorem d1_21 : decode prog_20_method_6_code 21 = .ok (.aaload, 1) := by decide +kernel
theorem d1_22 : decode prog_20_method_6_code 22 = .ok (.astore 5, 2) := by decide +kernel
theorem d1_24 : decode prog_20_method_6_code 24 = .ok (.aload 5, 2) := by decide +kernel
theorem d1_26 : decode prog_20_method_6_code 26 = .ok (.getfield 32, 3) := by decide +kernel
theorem d1_29 : decode prog_20_method_6_code 29 = .ok (.iload_n 0, 1) := by decide +kernel
theorem d1_30 : decode prog_20_method_6_code 30 = .ok (.if_icmp .ne 6, 3) := by decide +kernel
theorem d1_33 : decode prog_20_method_6_code 33 = .ok (.aload 5, 2) := by decide +kernel
theorem d1_35 : decode prog_20_method_6_code 35 = .ok (.astore_n 1, 1) := by decide +kernel
theorem d1_36 : decode prog_20_method_6_code 36 = .ok (.iinc 4 1, 3) := by decide +kernel
theorem d1_39 : decode prog_20_method_6_code 39 = .ok (.goto (-27), 3) := by decide +kernel
theorem d1_42 : decode prog_20_method_6_code 42 = .ok (.aload_n 1, 1) := by decide +kernel
theorem d1_43 : decode prog_20_method_6_code 43 = .ok (.areturn, 1) := by decide +kernel
theorem ef_1 (p1 : Int32) (m : MethodId) : entryFrame m #[(.int p1)] 6 = mkF m 0 #[.val (.int p1), .unset, .unset, .unset, .unset, .unset] [] := by first | (simp [entryFrame, mkF, argsToLocals, Value.category]; done) | rfl
theorem pd_0 : parseMethodDescriptor "()[Lcom/example/wirelane/wirelane/broker/EventKind;" = some ⟨[], some (.array (.object "com/example/wirelane/wirelane/broker/EventKind"))⟩ := by decide +kernel
set_option maxRecDepth 65536 in
set_option maxHeartbeats 40000000 in
theorem rm1 (l : Launch) (Z : State) (a0 : Array Value) (hw : ∀ d ∈ tables_1, d.before a0 Z = true) (ws : List Jvm.Cond) (p1 : Int32) (va : Addr) (kv : ClassId) (x0 x1 x2 : Addr) (h0 : Heap) (n0 : Nat) (Z0 : n0 ≤ h0.size) (O0 : Old Z n0 h0) (SV : Sta Z Z.heap "com/example/wirelane/wirelane/broker/EventKind" "$VALUES" "[Lcom/example/wirelane/wirelane/broker/EventKind;" (.ref va)) (VV : Arv Z Z.heap va kv (.object "com/example/wirelane/wirelane/broker/EventKind") (3 : Int32) [(.ref x0), (.ref x1), (.ref x2)] .null) (EV : Exa Z Z.heap va "[Lcom/example/wirelane/wirelane/broker/EventKind;") (F0 : Fld Z Z.heap x0 "com/example/wirelane/wirelane/broker/EventKind" "code" "I" (.int (1 : Int32))) (F1 : Fld Z Z.heap x1 "com/example/wirelane/wirelane/broker/EventKind" "code" "I" (.int (2 : Int32))) (F2 : Fld Z Z.heap x2 "com/example/wirelane/wirelane/broker/EventKind" "code" "I" (.int (3 : Int32))) :
    own_Met l (⟨"com/example/wirelane/wirelane/broker/EventKind", "forCode", "(I)Lcom/example/wirelane/wirelane/broker/EventKind;"⟩ : MethodName) prog_20_method_6_code 6 (some (.object "com/example/wirelane/wirelane/broker/EventKind")) ws ({ frames := 2, cells := 1, slots := 3, locals := 25 } : Room) #[(.int p1)] Z h0 (fun v h L => v = some (own_kind p1 x0 x1 x2) ∧ Fr n0 L ∧ Ext h0 h) := by
  refine own_body (plainFor_of_name pn_0) (ef_1 p1) ?_
  intro p e s m below meth c T0 X0 hx hby hml0 hret hlk hnm hown hZ e0
  have hml : c.maxLocals = 6 := hml0
  have N0 := Fr.nil n0
  refine own_step (fun _ k => XS.aconstNull X0.here hx rfl (hb hby d1_0) k) ?_
  show own_Ends _ _ _ _ _ _ _ T0 (mkF m 1 #[.val (.int p1), .unset, .unset, .unset, .unset, .unset] [.null])
  refine own_step (fun _ k => XS.astoreN X0.here hx rfl (hb hby d1_1) rfl rfl (l' := #[.val (.int p1), .val .null, .unset, .unset, .unset, .unset]) rfl k) ?_
  show own_Ends _ _ _ _ _ _ _ T0 (mkF m 2 #[.val (.int p1), .val .null, .unset, .unset, .unset, .unset] [])
  refine own_callS X0 hx hZ (y := (⟨"com/example/wirelane/wirelane/broker/EventKind", "values", "()[Lcom/example/wirelane/wirelane/broker/EventKind;"⟩ : MethodName)) hown (hw _ (List.mem_of_getElem? (i := 4) rfl)) (hw _ (List.mem_of_getElem? (i := 5) rfl)) (hw _ (List.mem_of_getElem? (i := 2) rfl)) (hw _ (List.mem_of_getElem? (i := 6) rfl)) (by decide) (rm2 l Z a0 hw []  va kv x0 x1 x2 h0 n0 Z0 O0 SV VV EV) e0 0 (by decide) (by decide) (by decide) (by decide) (g := (mkF m 2 #[.val (.int p1), .val .null, .unset, .unset, .unset, .unset] [])) rfl (by rw [hml]; rfl) [] [] pd_0 rfl rfl rfl (by show 2 * 0 + _ ≤ _; exact Nat.le_of_eq rfl) (hb hby d1_2) ?_
  rintro v1 T1 L1 X1 ⟨b1, rfl, Nq1, E1, g_b1, V1⟩
  have N1 := Fr.app N0 Nq1
  show own_Ends _ _ _ _ _ _ _ T1 (mkF m 5 #[.val (.int p1), .val .null, .unset, .unset, .unset, .unset] [(.ref b1)])
  have Z1 := Nat.le_trans Z0 E1.1
  refine own_step (fun _ k => XS.astoreN X1.here hx rfl (hb hby d1_5) rfl rfl (l' := #[.val (.int p1), .val .null, .val (.ref b1), .unset, .unset, .unset]) rfl k) ?_
  show own_Ends _ _ _ _ _ _ _ T1 (mkF m 6 #[.val (.int p1), .val .null, .val (.ref b1), .unset, .unset, .unset] [])
  refine own_step (fun _ k => XS.aloadN X1.here hx rfl (hb hby d1_6) rfl rfl k) ?_
  show own_Ends _ _ _ _ _ _ _ T1 (mkF m 7 #[.val (.int p1), .val .null, .val (.ref b1), .unset, .unset, .unset] [(.ref b1)])
  refine own_step (own_len X1 hx hZ rfl V1 (g := (mkF m 7 #[.val (.int p1), .val .null, .val (.ref b1), .unset, .unset, .unset] [(.ref b1)])) rfl rfl (hb hby d1_7)) ?_
  show own_Ends _ _ _ _ _ _ _ T1 (mkF m 8 #[.val (.int p1), .val .null, .val (.ref b1), .unset, .unset, .unset] [(.int (3 : Int32))])
  refine own_step (fun _ k => XS.istoreN X1.here hx rfl (hb hby d1_8) rfl (l' := #[.val (.int p1), .val .null, .val (.ref b1), .val (.int (3 : Int32)), .unset, .unset]) rfl k) ?_
  show own_Ends _ _ _ _ _ _ _ T1 (mkF m 9 #[.val (.int p1), .val .null, .val (.ref b1), .val (.int (3 : Int32)), .unset, .unset] [])
  refine own_step (fun _ k => XS.iconst X1.here hx rfl (hb hby d1_9) k) ?_
  show own_Ends _ _ _ _ _ _ _ T1 (mkF m 10 #[.val (.int p1), .val .null, .val (.ref b1), .val (.int (3 : Int32)), .unset, .unset] [(.int (0 : Int32))])
  refine own_step (fun _ k => XS.istore X1.here hx rfl (hb hby d1_10) rfl (l' := #[.val (.int p1), .val .null, .val (.ref b1), .val (.int (3 : Int32)), .val (.int (0 : Int32)), .unset]) rfl k) ?_
  show own_Ends _ _ _ _ _ _ _ T1 (mkF m 12 #[.val (.int p1), .val .null, .val (.ref b1), .val (.int (3 : Int32)), .val (.int (0 : Int32)), .unset] [])
  refine own_step (fun _ k => XS.iload X1.here hx rfl (hb hby d1_12) rfl k) ?_
  show own_Ends _ _ _ _ _ _ _ T1 (mkF m 14 #[.val (.int p1), .val .null, .val (.ref b1), .val (.int (3 : Int32)), .val (.int (0 : Int32)), .unset] [(.int (0 : Int32))])
  refine own_step (fun _ k => XS.iloadN X1.here hx rfl (hb hby d1_14) rfl k) ?_
  show own_Ends _ _ _ _ _ _ _ T1 (mkF m 15 #[.val (.int p1), .val .null, .val (.ref b1), .val (.int (3 : Int32)), .val (.int (0 : Int32)), .unset] [(.int (3 : Int32)), (.int (0 : Int32))])
  refine own_step (fun _ k => XS.icmpNo X1.here hx rfl (hb hby d1_15) rfl (tlt (by decide : (0 : Int32) < (3 : Int32))).2.1 k) ?_
  show own_Ends _ _ _ _ _ _ _ T1 (mkF m 18 #[.val (.int p1), .val .null, .val (.ref b1), .val (.int (3 : Int32)), .val (.int (0 : Int32)), .unset] [])
  refine own_step (fun _ k => XS.aloadN X1.here hx rfl (hb hby d1_18) rfl rfl k) ?_
  show own_Ends _ _ _ _ _ _ _ T1 (mkF m 19 #[.val (.int p1), .val .null, .val (.ref b1), .val (.int (3 : Int32)), .val (.int (0 : Int32)), .unset] [(.ref b1)])
  refine own_step (fun _ k => XS.iload X1.here hx rfl (hb hby d1_19) rfl k) ?_
  show own_Ends _ _ _ _ _ _ _ T1 (mkF m 21 #[.val (.int p1), .val .null, .val (.ref b1), .val (.int (3 : Int32)), .val (.int (0 : Int32)), .unset] [(.int (0 : Int32)), (.ref b1)])
  refine own_step (own_ldA X1 hx hZ rfl V1 rfl (j := (0 : Int32)) (v := (.ref x0)) ⟨by decide, by decide⟩ rfl (g := (mkF m 21 #[.val (.int p1), .val .null, .val (.ref b1), .val (.int (3 : Int32)), .val (.int (0 : Int32)), .unset] [(.int (0 : Int32)), (.ref b1)])) rfl rfl (hb hby d1_21)) ?_
  show own_Ends _ _ _ _ _ _ _ T1 (mkF m 22 #[.val (.int p1), .val .null, .val (.ref b1), .val (.int (3 : Int32)), .val (.int (0 : Int32)), .unset] [(.ref x0)])
  refine own_step (fun _ k => XS.astore X1.here hx rfl (hb hby d1_22) rfl rfl (l' := #[.val (.int p1), .val .null, .val (.ref b1), .val (.int (3 : Int32)), .val (.int (0 : Int32)), .val (.ref x0)]) rfl k) ?_
  show own_Ends _ _ _ _ _ _ _ T1 (mkF m 24 #[.val (.int p1), .val .null, .val (.ref b1), .val (.int (3 : Int32)), .val (.int (0 : Int32)), .val (.ref x0)] [])
  refine own_step (fun _ k => XS.aload X1.here hx rfl (hb hby d1_24) rfl rfl k) ?_
  show own_Ends _ _ _ _ _ _ _ T1 (mkF m 26 #[.val (.int p1), .val .null, .val (.ref b1), .val (.int (3 : Int32)), .val (.int (0 : Int32)), .val (.ref x0)] [(.ref x0)])
  have Q2 := (O0.ext E1)
  obtain ⟨T3, X3, e3, st3⟩ := getF X1 hx hZ hown (host := "") (Or.inl (hw _ (List.mem_of_getElem? (i := 22) rfl))) Via.refl rfl (F0.ext Q2.2) (g := (mkF m 26 #[.val (.int p1), .val .null, .val (.ref b1), .val (.int (3 : Int32)), .val (.int (0 : Int32)), .val (.ref x0)] [(.ref x0)])) rfl rfl (hb hby d1_26)
  refine own_step st3 ?_
  show own_Ends _ _ _ _ _ _ _ T3 (mkF m 29 #[.val (.int p1), .val .null, .val (.ref b1), .val (.int (3 : Int32)), .val (.int (0 : Int32)), .val (.ref x0)] [(.int (1 : Int32))])
  refine own_step (fun _ k => XS.iloadN X3.here hx rfl (hb hby d1_29) rfl k) ?_
  show own_Ends _ _ _ _ _ _ _ T3 (mkF m 30 #[.val (.int p1), .val .null, .val (.ref b1), .val (.int (3 : Int32)), .val (.int (0 : Int32)), .val (.ref x0)] [(.int p1), (.int (1 : Int32))])
  by_cases hc4 : (1 : Int32) = p1
  · refine own_step (fun _ k => XS.icmpNo X3.here hx rfl (hb hby d1_30) rfl (teq hc4).2 k) ?_
    show own_Ends _ _ _ _ _ _ _ T3 (mkF m 33 #[.val (.int p1), .val .null, .val (.ref b1), .val (.int (3 : Int32)), .val (.int (0 : Int32)), .val (.ref x0)] [])
    refine own_step (fun _ k => XS.aload X3.here hx rfl (hb hby d1_33) rfl rfl k) ?_
    show own_Ends _ _ _ _ _ _ _ T3 (mkF m 35 #[.val (.int p1), .val .null, .val (.ref b1), .val (.int (3 : Int32)), .val (.int (0 : Int32)), .val (.ref x0)] [(.ref x0)])
    refine own_step (fun _ k => XS.astoreN X3.here hx rfl (hb hby d1_35) rfl rfl (l' := #[.val (.int p1), .val (.ref x0), .val (.ref b1), .val (.int (3 : Int32)), .val (.int (0 : Int32)), .val (.ref x0)]) rfl k) ?_
    show own_Ends _ _ _ _ _ _ _ T3 (mkF m 36 #[.val (.int p1), .val (.ref x0), .val (.ref b1), .val (.int (3 : Int32)), .val (.int (0 : Int32)), .val (.ref x0)] [])
    refine own_step (fun _ k => XS.iinc X3.here hx rfl (hb hby d1_36) rfl (l' := #[.val (.int p1), .val (.ref x0), .val (.ref b1), .val (.int (3 : Int32)), .val (.int (1 : Int32)), .val (.ref x0)]) rfl k) ?_
    show own_Ends _ _ _ _ _ _ _ T3 (mkF m 39 #[.val (.int p1), .val (.ref x0), .val (.ref b1), .val (.int (3 : Int32)), .val (.int (1 : Int32)), .val (.ref x0)] [])
    refine own_step (fun _ k => XS.goto X3.here hx rfl (pc0 := 39) (pc' := 12) rfl (hb hby d1_39) (by decide) (by decide) k) ?_
    show own_Ends _ _ _ _ _ _ _ T3 (mkF m 12 #[.val (.int p1), .val (.ref x0), .val (.ref b1), .val (.int (3 : Int32)), .val (.int (1 : Int32)), .val (.ref x0)] [])
    refine own_step (fun _ k => XS.iload X3.here hx rfl (hb hby d1_12) rfl k) ?_
    show own_Ends _ _ _ _ _ _ _ T3 (mkF m 14 #[.val (.int p1), .val (.ref x0), .val (.ref b1), .val (.int (3 : Int32)), .val (.int (1 : Int32)), .val (.ref x0)] [(.int (1 : Int32))])
    refine own_step (fun _ k => XS.iloadN X3.here hx rfl (hb hby d1_14) rfl k) ?_
    show own_Ends _ _ _ _ _ _ _ T3 (mkF m 15 #[.val (.int p1), .val (.ref x0), .val (.ref b1), .val (.int (3 : Int32)), .val (.int (1 : Int32)), .val (.ref x0)] [(.int (3 : Int32)), (.int (1 : Int32))])
    refine own_step (fun _ k => XS.icmpNo X3.here hx rfl (hb hby d1_15) rfl (tlt (by decide : (1 : Int32) < (3 : Int32))).2.1 k) ?_
    show own_Ends _ _ _ _ _ _ _ T3 (mkF m 18 #[.val (.int p1), .val (.ref x0), .val (.ref b1), .val (.int (3 : Int32)), .val (.int (1 : Int32)), .val (.ref x0)] [])
    refine own_step (fun _ k => XS.aloadN X3.here hx rfl (hb hby d1_18) rfl rfl k) ?_
    show own_Ends _ _ _ _ _ _ _ T3 (mkF m 19 #[.val (.int p1), .val (.ref x0), .val (.ref b1), .val (.int (3 : Int32)), .val (.int (1 : Int32)), .val (.ref x0)] [(.ref b1)])
    refine own_step (fun _ k => XS.iload X3.here hx rfl (hb hby d1_19) rfl k) ?_
    show own_Ends _ _ _ _ _ _ _ T3 (mkF m 21 #[.val (.int p1), .val (.ref x0), .val (.ref b1), .val (.int (3 : Int32)), .val (.int (1 : Int32)), .val (.ref x0)] [(.int (1 : Int32)), (.ref b1)])
    refine own_step (own_ldA X3 hx hZ e3 V1 rfl (j := (1 : Int32)) (v := (.ref x1)) ⟨by decide, by decide⟩ rfl (g := (mkF m 21 #[.val (.int p1), .val (.ref x0), .val (.ref b1), .val (.int (3 : Int32)), .val (.int (1 : Int32)), .val (.ref x0)] [(.int (1 : Int32)), (.ref b1)])) rfl rfl (hb hby d1_21)) ?_
    show own_Ends _ _ _ _ _ _ _ T3 (mkF m 22 #[.val (.int p1), .val (.ref x0), .val (.ref b1), .val (.int (3 : Int32)), .val (.int (1 : Int32)), .val (.ref x0)] [(.ref x1)])
    refine own_step (fun _ k => XS.astore X3.here hx rfl (hb hby d1_22) rfl rfl (l' := #[.val (.int p1), .val (.ref x0), .val (.ref b1), .val (.int (3 : Int32)), .val (.int (1 : Int32)), .val (.ref x1)]) rfl k) ?_
    show own_Ends _ _ _ _ _ _ _ T3 (mkF m 24 #[.val (.int p1), .val (.ref x0), .val (.ref b1), .val (.int (3 : Int32)), .val (.int (1 : Int32)), .val (.ref x1)] [])
    refine own_step (fun _ k => XS.aload X3.here hx rfl (hb hby d1_24) rfl rfl k) ?_
    show own_Ends _ _ _ _ _ _ _ T3 (mkF m 26 #[.val (.int p1), .val (.ref x0), .val (.ref b1), .val (.int (3 : Int32)), .val (.int (1 : Int32)), .val (.ref x1)] [(.ref x1)])
    obtain ⟨T5, X5, e5, st5⟩ := getF X3 hx hZ hown (host := "") (Or.inl (hw _ (List.mem_of_getElem? (i := 22) rfl))) Via.refl e3 (F1.ext Q2.2) (g := (mkF m 26 #[.val (.int p1), .val (.ref x0), .val (.ref b1), .val (.int (3 : Int32)), .val (.int (1 : Int32)), .val (.ref x1)] [(.ref x1)])) rfl rfl (hb hby d1_26)
    refine own_step st5 ?_
    show own_Ends _ _ _ _ _ _ _ T5 (mkF m 29 #[.val (.int p1), .val (.ref x0), .val (.ref b1), .val (.int (3 : Int32)), .val (.int (1 : Int32)), .val (.ref x1)] [(.int (2 : Int32))])
    refine own_step (fun _ k => XS.iloadN X5.here hx rfl (hb hby d1_29) rfl k) ?_
    show own_Ends _ _ _ _ _ _ _ T5 (mkF m 30 #[.val (.int p1), .val (.ref x0), .val (.ref b1), .val (.int (3 : Int32)), .val (.int (1 : Int32)), .val (.ref x1)] [(.int p1), (.int (2 : Int32))])
    refine own_step (fun _ k => XS.icmpYes X5.here hx rfl (pc0 := 30) (pc' := 36) rfl (hb hby d1_30) rfl (feq (fun q => absurd (hc4.trans q.symm) (by decide))).2 (by decide) (by decide) k) ?_
    show own_Ends _ _ _ _ _ _ _ T5 (mkF m 36 #[.val (.int p1), .val (.ref x0), .val (.ref b1), .val (.int (3 : Int32)), .val (.int (1 : Int32)), .val (.ref x1)] [])
    refine own_step (fun _ k => XS.iinc X5.here hx rfl (hb hby d1_36) rfl (l' := #[.val (.int p1), .val (.ref x0), .val (.ref b1), .val (.int (3 : Int32)), .val (.int (2 : Int32)), .val (.ref x1)]) rfl k) ?_
    show own_Ends _ _ _ _ _ _ _ T5 (mkF m 39 #[.val (.int p1), .val (.ref x0), .val (.ref b1), .val (.int (3 : Int32)), .val (.int (2 : Int32)), .val (.ref x1)] [])
    refine own_step (fun _ k => XS.goto X5.here hx rfl (pc0 := 39) (pc' := 12) rfl (hb hby d1_39) (by decide) (by decide) k) ?_
    show own_Ends _ _ _ _ _ _ _ T5 (mkF m 12 #[.val (.int p1), .val (.ref x0), .val (.ref b1), .val (.int (3 : Int32)), .val (.int (2 : Int32)), .val (.ref x1)] [])
    refine own_step (fun _ k => XS.iload X5.here hx rfl (hb hby d1_12) rfl k) ?_
    show own_Ends _ _ _ _ _ _ _ T5 (mkF m 14 #[.val (.int p1), .val (.ref x0), .val (.ref b1), .val (.int (3 : Int32)), .val (.int (2 : Int32)), .val (.ref x1)] [(.int (2 : Int32))])
    refine own_step (fun _ k => XS.iloadN X5.here hx rfl (hb hby d1_14) rfl k) ?_
    show own_Ends _ _ _ _ _ _ _ T5 (mkF m 15 #[.val (.int p1), .val (.ref x0), .val (.ref b1), .val (.int (3 : Int32)), .val (.int (2 : Int32)), .val (.ref x1)] [(.int (3 : Int32)), (.int (2 : Int32))])
    refine own_step (fun _ k => XS.icmpNo X5.here hx rfl (hb hby d1_15) rfl (tlt (by decide : (2 : Int32) < (3 : Int32))).2.1 k) ?_
    show own_Ends _ _ _ _ _ _ _ T5 (mkF m 18 #[.val (.int p1), .val (.ref x0), .val (.ref b1), .val (.int (3 : Int32)), .val (.int (2 : Int32)), .val (.ref x1)] [])
    refine own_step (fun _ k => XS.aloadN X5.here hx rfl (hb hby d1_18) rfl rfl k) ?_
    show own_Ends _ _ _ _ _ _ _ T5 (mkF m 19 #[.val (.int p1), .val (.ref x0), .val (.ref b1), .val (.int (3 : Int32)), .val (.int (2 : Int32)), .val (.ref x1)] [(.ref b1)])
    refine own_step (fun _ k => XS.iload X5.here hx rfl (hb hby d1_19) rfl k) ?_
    show own_Ends _ _ _ _ _ _ _ T5 (mkF m 21 #[.val (.int p1), .val (.ref x0), .val (.ref b1), .val (.int (3 : Int32)), .val (.int (2 : Int32)), .val (.ref x1)] [(.int (2 : Int32)), (.ref b1)])
    refine own_step (own_ldA X5 hx hZ e5 V1 rfl (j := (2 : Int32)) (v := (.ref x2)) ⟨by decide, by decide⟩ rfl (g := (mkF m 21 #[.val (.int p1), .val (.ref x0), .val (.ref b1), .val (.int (3 : Int32)), .val (.int (2 : Int32)), .val (.ref x1)] [(.int (2 : Int32)), (.ref b1)])) rfl rfl (hb hby d1_21)) ?_
    show own_Ends _ _ _ _ _ _ _ T5 (mkF m 22 #[.val (.int p1), .val (.ref x0), .val (.ref b1), .val (.int (3 : Int32)), .val (.int (2 : Int32)), .val (.ref x1)] [(.ref x2)])
    refine own_step (fun _ k => XS.astore X5.here hx rfl (hb hby d1_22) rfl rfl (l' := #[.val (.int p1), .val (.ref x0), .val (.ref b1), .val (.int (3 : Int32)), .val (.int (2 : Int32)), .val (.ref x2)]) rfl k) ?_
    show own_Ends _ _ _ _ _ _ _ T5 (mkF m 24 #[.val (.int p1), .val (.ref x0), .val (.ref b1), .val (.int (3 : Int32)), .val (.int (2 : Int32)), .val (.ref x2)] [])
    refine own_step (fun _ k => XS.aload X5.here hx rfl (hb hby d1_24) rfl rfl k) ?_
    show own_Ends _ _ _ _ _ _ _ T5 (mkF m 26 #[.val (.int p1), .val (.ref x0), .val (.ref b1), .val (.int (3 : Int32)), .val (.int (2 : Int32)), .val (.ref x2)] [(.ref x2)])
    obtain ⟨T6, X6, e6, st6⟩ := getF X5 hx hZ hown (host := "") (Or.inl (hw _ (List.mem_of_getElem? (i := 22) rfl))) Via.refl e5 (F2.ext Q2.2) (g := (mkF m 26 #[.val (.int p1), .val (.ref x0), .val (.ref b1), .val (.int (3 : Int32)), .val (.int (2 : Int32)), .val (.ref x2)] [(.ref x2)])) rfl rfl (hb hby d1_26)
    refine own_step st6 ?_
    show own_Ends _ _ _ _ _ _ _ T6 (mkF m 29 #[.val (.int p1), .val (.ref x0), .val (.ref b1), .val (.int (3 : Int32)), .val (.int (2 : Int32)), .val (.ref x2)] [(.int (3 : Int32))])
    refine own_step (fun _ k => XS.iloadN X6.here hx rfl (hb hby d1_29) rfl k) ?_
    show own_Ends _ _ _ _ _ _ _ T6 (mkF m 30 #[.val (.int p1), .val (.ref x0), .val (.ref b1), .val (.int (3 : Int32)), .val (.int (2 : Int32)), .val (.ref x2)] [(.int p1), (.int (3 : Int32))])
    refine own_step (fun _ k => XS.icmpYes X6.here hx rfl (pc0 := 30) (pc' := 36) rfl (hb hby d1_30) rfl (feq (fun q => absurd (hc4.trans q.symm) (by decide))).2 (by decide) (by decide) k) ?_
    show own_Ends _ _ _ _ _ _ _ T6 (mkF m 36 #[.val (.int p1), .val (.ref x0), .val (.ref b1), .val (.int (3 : Int32)), .val (.int (2 : Int32)), .val (.ref x2)] [])
    refine own_step (fun _ k => XS.iinc X6.here hx rfl (hb hby d1_36) rfl (l' := #[.val (.int p1), .val (.ref x0), .val (.ref b1), .val (.int (3 : Int32)), .val (.int (3 : Int32)), .val (.ref x2)]) rfl k) ?_
    show own_Ends _ _ _ _ _ _ _ T6 (mkF m 39 #[.val (.int p1), .val (.ref x0), .val (.ref b1), .val (.int (3 : Int32)), .val (.int (3 : Int32)), .val (.ref x2)] [])
    refine own_step (fun _ k => XS.goto X6.here hx rfl (pc0 := 39) (pc' := 12) rfl (hb hby d1_39) (by decide) (by decide) k) ?_
    show own_Ends _ _ _ _ _ _ _ T6 (mkF m 12 #[.val (.int p1), .val (.ref x0), .val (.ref b1), .val (.int (3 : Int32)), .val (.int (3 : Int32)), .val (.ref x2)] [])
    refine own_step (fun _ k => XS.iload X6.here hx rfl (hb hby d1_12) rfl k) ?_
    show own_Ends _ _ _ _ _ _ _ T6 (mkF m 14 #[.val (.int p1), .val (.ref x0), .val (.ref b1), .val (.int (3 : Int32)), .val (.int (3 : Int32)), .val (.ref x2)] [(.int (3 : Int32))])
    refine own_step (fun _ k => XS.iloadN X6.here hx rfl (hb hby d1_14) rfl k) ?_
    show own_Ends _ _ _ _ _ _ _ T6 (mkF m 15 #[.val (.int p1), .val (.ref x0), .val (.ref b1), .val (.int (3 : Int32)), .val (.int (3 : Int32)), .val (.ref x2)] [(.int (3 : Int32)), (.int (3 : Int32))])
    refine own_step (fun _ k => XS.icmpYes X6.here hx rfl (pc0 := 15) (pc' := 42) rfl (hb hby d1_15) rfl (flt (by decide : ¬ ((3 : Int32) < (3 : Int32)))).2.1 (by decide) (by decide) k) ?_
    show own_Ends _ _ _ _ _ _ _ T6 (mkF m 42 #[.val (.int p1), .val (.ref x0), .val (.ref b1), .val (.int (3 : Int32)), .val (.int (3 : Int32)), .val (.ref x2)] [])
    refine own_step (fun _ k => XS.aloadN X6.here hx rfl (hb hby d1_42) rfl rfl k) ?_
    show own_Ends _ _ _ _ _ _ _ T6 (mkF m 43 #[.val (.int p1), .val (.ref x0), .val (.ref b1), .val (.int (3 : Int32)), .val (.int (3 : Int32)), .val (.ref x2)] [(.ref x0)])
    exact own_retA X6 hx hret rfl hlk rfl rfl (hb hby d1_43) (by rw [e6]; exact ⟨own_leafV (if_pos hc4.symm), N1, E1⟩) (by decide) (by decide)
  · refine own_step (fun _ k => XS.icmpYes X3.here hx rfl (pc0 := 30) (pc' := 36) rfl (hb hby d1_30) rfl (feq hc4).2 (by decide) (by decide) k) ?_
    show own_Ends _ _ _ _ _ _ _ T3 (mkF m 36 #[.val (.int p1), .val .null, .val (.ref b1), .val (.int (3 : Int32)), .val (.int (0 : Int32)), .val (.ref x0)] [])
    refine own_step (fun _ k => XS.iinc X3.here hx rfl (hb hby d1_36) rfl (l' := #[.val (.int p1), .val .null, .val (.ref b1), .val (.int (3 : Int32)), .val (.int (1 : Int32)), .val (.ref x0)]) rfl k) ?_
    show own_Ends _ _ _ _ _ _ _ T3 (mkF m 39 #[.val (.int p1), .val .null, .val (.ref b1), .val (.int (3 : Int32)), .val (.int (1 : Int32)), .val (.ref x0)] [])
    refine own_step (fun _ k => XS.goto X3.here hx rfl (pc0 := 39) (pc' := 12) rfl (hb hby d1_39) (by decide) (by decide) k) ?_
    show own_Ends _ _ _ _ _ _ _ T3 (mkF m 12 #[.val (.int p1), .val .null, .val (.ref b1), .val (.int (3 : Int32)), .val (.int (1 : Int32)), .val (.ref x0)] [])
    refine own_step (fun _ k => XS.iload X3.here hx rfl (hb hby d1_12) rfl k) ?_
    show own_Ends _ _ _ _ _ _ _ T3 (mkF m 14 #[.val (.int p1), .val .null, .val (.ref b1), .val (.int (3 : Int32)), .val (.int (1 : Int32)), .val (.ref x0)] [(.int (1 : Int32))])
    refine own_step (fun _ k => XS.iloadN X3.here hx rfl (hb hby d1_14) rfl k) ?_
    show own_Ends _ _ _ _ _ _ _ T3 (mkF m 15 #[.val (.int p1), .val .null, .val (.ref b1), .val (.int (3 : Int32)), .val (.int (1 : Int32)), .val (.ref x0)] [(.int (3 : Int32)), (.int (1 : Int32))])
    refine own_step (fun _ k => XS.icmpNo X3.here hx rfl (hb hby d1_15) rfl (tlt (by decide : (1 : Int32) < (3 : Int32))).2.1 k) ?_
    show own_Ends _ _ _ _ _ _ _ T3 (mkF m 18 #[.val (.int p1), .val .null, .val (.ref b1), .val (.int (3 : Int32)), .val (.int (1 : Int32)), .val (.ref x0)] [])
    refine own_step (fun _ k => XS.aloadN X3.here hx rfl (hb hby d1_18) rfl rfl k) ?_
    show own_Ends _ _ _ _ _ _ _ T3 (mkF m 19 #[.val (.int p1), .val .null, .val (.ref b1), .val (.int (3 : Int32)), .val (.int (1 : Int32)), .val (.ref x0)] [(.ref b1)])
    refine own_step (fun _ k => XS.iload X3.here hx rfl (hb hby d1_19) rfl k) ?_
    show own_Ends _ _ _ _ _ _ _ T3 (mkF m 21 #[.val (.int p1), .val .null, .val (.ref b1), .val (.int (3 : Int32)), .val (.int (1 : Int32)), .val (.ref x0)] [(.int (1 : Int32)), (.ref b1)])
    refine own_step (own_ldA X3 hx hZ e3 V1 rfl (j := (1 : Int32)) (v := (.ref x1)) ⟨by decide, by decide⟩ rfl (g := (mkF m 21 #[.val (.int p1), .val .null, .val (.ref b1), .val (.int (3 : Int32)), .val (.int (1 : Int32)), .val (.ref x0)] [(.int (1 : Int32)), (.ref b1)])) rfl rfl (hb hby d1_21)) ?_
    show own_Ends _ _ _ _ _ _ _ T3 (mkF m 22 #[.val (.int p1), .val .null, .val (.ref b1), .val (.int (3 : Int32)), .val (.int (1 : Int32)), .val (.ref x0)] [(.ref x1)])
    refine own_step (fun _ k => XS.astore X3.here hx rfl (hb hby d1_22) rfl rfl (l' := #[.val (.int p1), .val .null, .val (.ref b1), .val (.int (3 : Int32)), .val (.int (1 : Int32)), .val (.ref x1)]) rfl k) ?_
    show own_Ends _ _ _ _ _ _ _ T3 (mkF m 24 #[.val (.int p1), .val .null, .val (.ref b1), .val (.int (3 : Int32)), .val (.int (1 : Int32)), .val (.ref x1)] [])
    refine own_step (fun _ k => XS.aload X3.here hx rfl (hb hby d1_24) rfl rfl k) ?_
    show own_Ends _ _ _ _ _ _ _ T3 (mkF m 26 #[.val (.int p1), .val .null, .val (.ref b1), .val (.int (3 : Int32)), .val (.int (1 : Int32)), .val (.ref x1)] [(.ref x1)])
    obtain ⟨T7, X7, e7, st7⟩ := getF X3 hx hZ hown (host := "") (Or.inl (hw _ (List.mem_of_getElem? (i := 22) rfl))) Via.refl e3 (F1.ext Q2.2) (g := (mkF m 26 #[.val (.int p1), .val .null, .val (.ref b1), .val (.int (3 : Int32)), .val (.int (1 : Int32)), .val (.ref x1)] [(.ref x1)])) rfl rfl (hb hby d1_26)
    refine own_step st7 ?_
    show own_Ends _ _ _ _ _ _ _ T7 (mkF m 29 #[.val (.int p1), .val .null, .val (.ref b1), .val (.int (3 : Int32)), .val (.int (1 : Int32)), .val (.ref x1)] [(.int (2 : Int32))])
    refine own_step (fun _ k => XS.iloadN X7.here hx rfl (hb hby d1_29) rfl k) ?_
    show own_Ends _ _ _ _ _ _ _ T7 (mkF m 30 #[.val (.int p1), .val .null, .val (.ref b1), .val (.int (3 : Int32)), .val (.int (1 : Int32)), .val (.ref x1)] [(.int p1), (.int (2 : Int32))])
    by_cases hc8 : (2 : Int32) = p1
    · refine own_step (fun _ k => XS.icmpNo X7.here hx rfl (hb hby d1_30) rfl (teq hc8).2 k) ?_
      show own_Ends _ _ _ _ _ _ _ T7 (mkF m 33 #[.val (.int p1), .val .null, .val (.ref b1), .val (.int (3 : Int32)), .val (.int (1 : Int32)), .val (.ref x1)] [])
      refine own_step (fun _ k => XS.aload X7.here hx rfl (hb hby d1_33) rfl rfl k) ?_
      show own_Ends _ _ _ _ _ _ _ T7 (mkF m 35 #[.val (.int p1), .val .null, .val (.ref b1), .val (.int (3 : Int32)), .val (.int (1 : Int32)), .val (.ref x1)] [(.ref x1)])
      refine own_step (fun _ k => XS.astoreN X7.here hx rfl (hb hby d1_35) rfl rfl (l' := #[.val (.int p1), .val (.ref x1), .val (.ref b1), .val (.int (3 : Int32)), .val (.int (1 : Int32)), .val (.ref x1)]) rfl k) ?_
      show own_Ends _ _ _ _ _ _ _ T7 (mkF m 36 #[.val (.int p1), .val (.ref x1), .val (.ref b1), .val (.int (3 : Int32)), .val (.int (1 : Int32)), .val (.ref x1)] [])
      refine own_step (fun _ k => XS.iinc X7.here hx rfl (hb hby d1_36) rfl (l' := #[.val (.int p1), .val (.ref x1), .val (.ref b1), .val (.int (3 : Int32)), .val (.int (2 : Int32)), .val (.ref x1)]) rfl k) ?_
      show own_Ends _ _ _ _ _ _ _ T7 (mkF m 39 #[.val (.int p1), .val (.ref x1), .val (.ref b1), .val (.int (3 : Int32)), .val (.int (2 : Int32)), .val (.ref x1)] [])
      refine own_step (fun _ k => XS.goto X7.here hx rfl (pc0 := 39) (pc' := 12) rfl (hb hby d1_39) (by decide) (by decide) k) ?_
      show own_Ends _ _ _ _ _ _ _ T7 (mkF m 12 #[.val (.int p1), .val (.ref x1), .val (.ref b1), .val (.int (3 : Int32)), .val (.int (2 : Int32)), .val (.ref x1)] [])
      refine own_step (fun _ k => XS.iload X7.here hx rfl (hb hby d1_12) rfl k) ?_
      show own_Ends _ _ _ _ _ _ _ T7 (mkF m 14 #[.val (.int p1), .val (.ref x1), .val (.ref b1), .val (.int (3 : Int32)), .val (.int (2 : Int32)), .val (.ref x1)] [(.int (2 : Int32))])
      refine own_step (fun _ k => XS.iloadN X7.here hx rfl (hb hby d1_14) rfl k) ?_
      show own_Ends _ _ _ _ _ _ _ T7 (mkF m 15 #[.val (.int p1), .val (.ref x1), .val (.ref b1), .val (.int (3 : Int32)), .val (.int (2 : Int32)), .val (.ref x1)] [(.int (3 : Int32)), (.int (2 : Int32))])
      refine own_step (fun _ k => XS.icmpNo X7.here hx rfl (hb hby d1_15) rfl (tlt (by decide : (2 : Int32) < (3 : Int32))).2.1 k) ?_
      show own_Ends _ _ _ _ _ _ _ T7 (mkF m 18 #[.val (.int p1), .val (.ref x1), .val (.ref b1), .val (.int (3 : Int32)), .val (.int (2 : Int32)), .val (.ref x1)] [])
      refine own_step (fun _ k => XS.aloadN X7.here hx rfl (hb hby d1_18) rfl rfl k) ?_
      show own_Ends _ _ _ _ _ _ _ T7 (mkF m 19 #[.val (.int p1), .val (.ref x1), .val (.ref b1), .val (.int (3 : Int32)), .val (.int (2 : Int32)), .val (.ref x1)] [(.ref b1)])
      refine own_step (fun _ k => XS.iload X7.here hx rfl (hb hby d1_19) rfl k) ?_
      show own_Ends _ _ _ _ _ _ _ T7 (mkF m 21 #[.val (.int p1), .val (.ref x1), .val (.ref b1), .val (.int (3 : Int32)), .val (.int (2 : Int32)), .val (.ref x1)] [(.int (2 : Int32)), (.ref b1)])
      refine own_step (own_ldA X7 hx hZ e7 V1 rfl (j := (2 : Int32)) (v := (.ref x2)) ⟨by decide, by decide⟩ rfl (g := (mkF m 21 #[.val (.int p1), .val (.ref x1), .val (.ref b1), .val (.int (3 : Int32)), .val (.int (2 : Int32)), .val (.ref x1)] [(.int (2 : Int32)), (.ref b1)])) rfl rfl (hb hby d1_21)) ?_
      show own_Ends _ _ _ _ _ _ _ T7 (mkF m 22 #[.val (.int p1), .val (.ref x1), .val (.ref b1), .val (.int (3 : Int32)), .val (.int (2 : Int32)), .val (.ref x1)] [(.ref x2)])
      refine own_step (fun _ k => XS.astore X7.here hx rfl (hb hby d1_22) rfl rfl (l' := #[.val (.int p1), .val (.ref x1), .val (.ref b1), .val (.int (3 : Int32)), .val (.int (2 : Int32)), .val (.ref x2)]) rfl k) ?_
      show own_Ends _ _ _ _ _ _ _ T7 (mkF m 24 #[.val (.int p1), .val (.ref x1), .val (.ref b1), .val (.int (3 : Int32)), .val (.int (2 : Int32)), .val (.ref x2)] [])
      refine own_step (fun _ k => XS.aload X7.here hx rfl (hb hby d1_24) rfl rfl k) ?_
      show own_Ends _ _ _ _ _ _ _ T7 (mkF m 26 #[.val (.int p1), .val (.ref x1), .val (.ref b1), .val (.int (3 : Int32)), .val (.int (2 : Int32)), .val (.ref x2)] [(.ref x2)])
      obtain ⟨T9, X9, e9, st9⟩ := getF X7 hx hZ hown (host := "") (Or.inl (hw _ (List.mem_of_getElem? (i := 22) rfl))) Via.refl e7 (F2.ext Q2.2) (g := (mkF m 26 #[.val (.int p1), .val (.ref x1), .val (.ref b1), .val (.int (3 : Int32)), .val (.int (2 : Int32)), .val (.ref x2)] [(.ref x2)])) rfl rfl (hb hby d1_26)
      refine own_step st9 ?_
      show own_Ends _ _ _ _ _ _ _ T9 (mkF m 29 #[.val (.int p1), .val (.ref x1), .val (.ref b1), .val (.int (3 : Int32)), .val (.int (2 : Int32)), .val (.ref x2)] [(.int (3 : Int32))])
      refine own_step (fun _ k => XS.iloadN X9.here hx rfl (hb hby d1_29) rfl k) ?_
      show own_Ends _ _ _ _ _ _ _ T9 (mkF m 30 #[.val (.int p1), .val (.ref x1), .val (.ref b1), .val (.int (3 : Int32)), .val (.int (2 : Int32)), .val (.ref x2)] [(.int p1), (.int (3 : Int32))])
      refine own_step (fun _ k => XS.icmpYes X9.here hx rfl (pc0 := 30) (pc' := 36) rfl (hb hby d1_30) rfl (feq (fun q => absurd (hc8.trans q.symm) (by decide))).2 (by decide) (by decide) k) ?_
      show own_Ends _ _ _ _ _ _ _ T9 (mkF m 36 #[.val (.int p1), .val (.ref x1), .val (.ref b1), .val (.int (3 : Int32)), .val (.int (2 : Int32)), .val (.ref x2)] [])
      refine own_step (fun _ k => XS.iinc X9.here hx rfl (hb hby d1_36) rfl (l' := #[.val (.int p1), .val (.ref x1), .val (.ref b1), .val (.int (3 : Int32)), .val (.int (3 : Int32)), .val (.ref x2)]) rfl k) ?_
      show own_Ends _ _ _ _ _ _ _ T9 (mkF m 39 #[.val (.int p1), .val (.ref x1), .val (.ref b1), .val (.int (3 : Int32)), .val (.int (3 : Int32)), .val (.ref x2)] [])
      refine own_step (fun _ k => XS.goto X9.here hx rfl (pc0 := 39) (pc' := 12) rfl (hb hby d1_39) (by decide) (by decide) k) ?_
      show own_Ends _ _ _ _ _ _ _ T9 (mkF m 12 #[.val (.int p1), .val (.ref x1), .val (.ref b1), .val (.int (3 : Int32)), .val (.int (3 : Int32)), .val (.ref x2)] [])
      refine own_step (fun _ k => XS.iload X9.here hx rfl (hb hby d1_12) rfl k) ?_
      show own_Ends _ _ _ _ _ _ _ T9 (mkF m 14 #[.val (.int p1), .val (.ref x1), .val (.ref b1), .val (.int (3 : Int32)), .val (.int (3 : Int32)), .val (.ref x2)] [(.int (3 : Int32))])
      refine own_step (fun _ k => XS.iloadN X9.here hx rfl (hb hby d1_14) rfl k) ?_
      show own_Ends _ _ _ _ _ _ _ T9 (mkF m 15 #[.val (.int p1), .val (.ref x1), .val (.ref b1), .val (.int (3 : Int32)), .val (.int (3 : Int32)), .val (.ref x2)] [(.int (3 : Int32)), (.int (3 : Int32))])
      refine own_step (fun _ k => XS.icmpYes X9.here hx rfl (pc0 := 15) (pc' := 42) rfl (hb hby d1_15) rfl (flt (by decide : ¬ ((3 : Int32) < (3 : Int32)))).2.1 (by decide) (by decide) k) ?_
      show own_Ends _ _ _ _ _ _ _ T9 (mkF m 42 #[.val (.int p1), .val (.ref x1), .val (.ref b1), .val (.int (3 : Int32)), .val (.int (3 : Int32)), .val (.ref x2)] [])
      refine own_step (fun _ k => XS.aloadN X9.here hx rfl (hb hby d1_42) rfl rfl k) ?_
      show own_Ends _ _ _ _ _ _ _ T9 (mkF m 43 #[.val (.int p1), .val (.ref x1), .val (.ref b1), .val (.int (3 : Int32)), .val (.int (3 : Int32)), .val (.ref x2)] [(.ref x1)])
      exact own_retA X9 hx hret rfl hlk rfl rfl (hb hby d1_43) (by rw [e9]; exact ⟨own_leafV ((if_neg fun q => hc4 q.symm).trans (if_pos hc8.symm)), N1, E1⟩) (by decide) (by decide)
    · refine own_step (fun _ k => XS.icmpYes X7.here hx rfl (pc0 := 30) (pc' := 36) rfl (hb hby d1_30) rfl (feq hc8).2 (by decide) (by decide) k) ?_
      show own_Ends _ _ _ _ _ _ _ T7 (mkF m 36 #[.val (.int p1), .val .null, .val (.ref b1), .val (.int (3 : Int32)), .val (.int (1 : Int32)), .val (.ref x1)] [])
      refine own_step (fun _ k => XS.iinc X7.here hx rfl (hb hby d1_36) rfl (l' := #[.val (.int p1), .val .null, .val (.ref b1), .val (.int (3 : Int32)), .val (.int (2 : Int32)), .val (.ref x1)]) rfl k) ?_
      show own_Ends _ _ _ _ _ _ _ T7 (mkF m 39 #[.val (.int p1), .val .null, .val (.ref b1), .val (.int (3 : Int32)), .val (.int (2 : Int32)), .val (.ref x1)] [])
      refine own_step (fun _ k => XS.goto X7.here hx rfl (pc0 := 39) (pc' := 12) rfl (hb hby d1_39) (by decide) (by decide) k) ?_
      show own_Ends _ _ _ _ _ _ _ T7 (mkF m 12 #[.val (.int p1), .val .null, .val (.ref b1), .val (.int (3 : Int32)), .val (.int (2 : Int32)), .val (.ref x1)] [])
      refine own_step (fun _ k => XS.iload X7.here hx rfl (hb hby d1_12) rfl k) ?_
      show own_Ends _ _ _ _ _ _ _ T7 (mkF m 14 #[.val (.int p1), .val .null, .val (.ref b1), .val (.int (3 : Int32)), .val (.int (2 : Int32)), .val (.ref x1)] [(.int (2 : Int32))])
      refine own_step (fun _ k => XS.iloadN X7.here hx rfl (hb hby d1_14) rfl k) ?_
      show own_Ends _ _ _ _ _ _ _ T7 (mkF m 15 #[.val (.int p1), .val .null, .val (.ref b1), .val (.int (3 : Int32)), .val (.int (2 : Int32)), .val (.ref x1)] [(.int (3 : Int32)), (.int (2 : Int32))])
      refine own_step (fun _ k => XS.icmpNo X7.here hx rfl (hb hby d1_15) rfl (tlt (by decide : (2 : Int32) < (3 : Int32))).2.1 k) ?_
      show own_Ends _ _ _ _ _ _ _ T7 (mkF m 18 #[.val (.int p1), .val .null, .val (.ref b1), .val (.int (3 : Int32)), .val (.int (2 : Int32)), .val (.ref x1)] [])
      refine own_step (fun _ k => XS.aloadN X7.here hx rfl (hb hby d1_18) rfl rfl k) ?_
      show own_Ends _ _ _ _ _ _ _ T7 (mkF m 19 #[.val (.int p1), .val .null, .val (.ref b1), .val (.int (3 : Int32)), .val (.int (2 : Int32)), .val (.ref x1)] [(.ref b1)])
      refine own_step (fun _ k => XS.iload X7.here hx rfl (hb hby d1_19) rfl k) ?_
      show own_Ends _ _ _ _ _ _ _ T7 (mkF m 21 #[.val (.int p1), .val .null, .val (.ref b1), .val (.int (3 : Int32)), .val (.int (2 : Int32)), .val (.ref x1)] [(.int (2 : Int32)), (.ref b1)])
      refine own_step (own_ldA X7 hx hZ e7 V1 rfl (j := (2 : Int32)) (v := (.ref x2)) ⟨by decide, by decide⟩ rfl (g := (mkF m 21 #[.val (.int p1), .val .null, .val (.ref b1), .val (.int (3 : Int32)), .val (.int (2 : Int32)), .val (.ref x1)] [(.int (2 : Int32)), (.ref b1)])) rfl rfl (hb hby d1_21)) ?_
      show own_Ends _ _ _ _ _ _ _ T7 (mkF m 22 #[.val (.int p1), .val .null, .val (.ref b1), .val (.int (3 : Int32)), .val (.int (2 : Int32)), .val (.ref x1)] [(.ref x2)])
      refine own_step (fun _ k => XS.astore X7.here hx rfl (hb hby d1_22) rfl rfl (l' := #[.val (.int p1), .val .null, .val (.ref b1), .val (.int (3 : Int32)), .val (.int (2 : Int32)), .val (.ref x2)]) rfl k) ?_
      show own_Ends _ _ _ _ _ _ _ T7 (mkF m 24 #[.val (.int p1), .val .null, .val (.ref b1), .val (.int (3 : Int32)), .val (.int (2 : Int32)), .val (.ref x2)] [])
      refine own_step (fun _ k => XS.aload X7.here hx rfl (hb hby d1_24) rfl rfl k) ?_
      show own_Ends _ _ _ _ _ _ _ T7 (mkF m 26 #[.val (.int p1), .val .null, .val (.ref b1), .val (.int (3 : Int32)), .val (.int (2 : Int32)), .val (.ref x2)] [(.ref x2)])
      obtain ⟨T10, X10, e10, st10⟩ := getF X7 hx hZ hown (host := "") (Or.inl (hw _ (List.mem_of_getElem? (i := 22) rfl))) Via.refl e7 (F2.ext Q2.2) (g := (mkF m 26 #[.val (.int p1), .val .null, .val (.ref b1), .val (.int (3 : Int32)), .val (.int (2 : Int32)), .val (.ref x2)] [(.ref x2)])) rfl rfl (hb hby d1_26)
      refine own_step st10 ?_
      show own_Ends _ _ _ _ _ _ _ T10 (mkF m 29 #[.val (.int p1), .val .null, .val (.ref b1), .val (.int (3 : Int32)), .val (.int (2 : Int32)), .val (.ref x2)] [(.int (3 : Int32))])
      refine own_step (fun _ k => XS.iloadN X10.here hx rfl (hb hby d1_29) rfl k) ?_
      show own_Ends _ _ _ _ _ _ _ T10 (mkF m 30 #[.val (.int p1), .val .null, .val (.ref b1), .val (.int (3 : Int32)), .val (.int (2 : Int32)), .val (.ref x2)] [(.int p1), (.int (3 : Int32))])
      by_cases hc11 : (3 : Int32) = p1
      · refine own_step (fun _ k => XS.icmpNo X10.here hx rfl (hb hby d1_30) rfl (teq hc11).2 k) ?_
        show own_Ends _ _ _ _ _ _ _ T10 (mkF m 33 #[.val (.int p1), .val .null, .val (.ref b1), .val (.int (3 : Int32)), .val (.int (2 : Int32)), .val (.ref x2)] [])
        refine own_step (fun _ k => XS.aload X10.here hx rfl (hb hby d1_33) rfl rfl k) ?_
        show own_Ends _ _ _ _ _ _ _ T10 (mkF m 35 #[.val (.int p1), .val .null, .val (.ref b1), .val (.int (3 : Int32)), .val (.int (2 : Int32)), .val (.ref x2)] [(.ref x2)])
        refine own_step (fun _ k => XS.astoreN X10.here hx rfl (hb hby d1_35) rfl rfl (l' := #[.val (.int p1), .val (.ref x2), .val (.ref b1), .val (.int (3 : Int32)), .val (.int (2 : Int32)), .val (.ref x2)]) rfl k) ?_
        show own_Ends _ _ _ _ _ _ _ T10 (mkF m 36 #[.val (.int p1), .val (.ref x2), .val (.ref b1), .val (.int (3 : Int32)), .val (.int (2 : Int32)), .val (.ref x2)] [])
        refine own_step (fun _ k => XS.iinc X10.here hx rfl (hb hby d1_36) rfl (l' := #[.val (.int p1), .val (.ref x2), .val (.ref b1), .val (.int (3 : Int32)), .val (.int (3 : Int32)), .val (.ref x2)]) rfl k) ?_
        show own_Ends _ _ _ _ _ _ _ T10 (mkF m 39 #[.val (.int p1), .val (.ref x2), .val (.ref b1), .val (.int (3 : Int32)), .val (.int (3 : Int32)), .val (.ref x2)] [])
        refine own_step (fun _ k => XS.goto X10.here hx rfl (pc0 := 39) (pc' := 12) rfl (hb hby d1_39) (by decide) (by decide) k) ?_
        show own_Ends _ _ _ _ _ _ _ T10 (mkF m 12 #[.val (.int p1), .val (.ref x2), .val (.ref b1), .val (.int (3 : Int32)), .val (.int (3 : Int32)), .val (.ref x2)] [])
        refine own_step (fun _ k => XS.iload X10.here hx rfl (hb hby d1_12) rfl k) ?_
        show own_Ends _ _ _ _ _ _ _ T10 (mkF m 14 #[.val (.int p1), .val (.ref x2), .val (.ref b1), .val (.int (3 : Int32)), .val (.int (3 : Int32)), .val (.ref x2)] [(.int (3 : Int32))])
        refine own_step (fun _ k => XS.iloadN X10.here hx rfl (hb hby d1_14) rfl k) ?_
        show own_Ends _ _ _ _ _ _ _ T10 (mkF m 15 #[.val (.int p1), .val (.ref x2), .val (.ref b1), .val (.int (3 : Int32)), .val (.int (3 : Int32)), .val (.ref x2)] [(.int (3 : Int32)), (.int (3 : Int32))])
        refine own_step (fun _ k => XS.icmpYes X10.here hx rfl (pc0 := 15) (pc' := 42) rfl (hb hby d1_15) rfl (flt (by decide : ¬ ((3 : Int32) < (3 : Int32)))).2.1 (by decide) (by decide) k) ?_
        show own_Ends _ _ _ _ _ _ _ T10 (mkF m 42 #[.val (.int p1), .val (.ref x2), .val (.ref b1), .val (.int (3 : Int32)), .val (.int (3 : Int32)), .val (.ref x2)] [])
        refine own_step (fun _ k => XS.aloadN X10.here hx rfl (hb hby d1_42) rfl rfl k) ?_
        show own_Ends _ _ _ _ _ _ _ T10 (mkF m 43 #[.val (.int p1), .val (.ref x2), .val (.ref b1), .val (.int (3 : Int32)), .val (.int (3 : Int32)), .val (.ref x2)] [(.ref x2)])
        exact own_retA X10 hx hret rfl hlk rfl rfl (hb hby d1_43) (by rw [e10]; exact ⟨own_leafV ((if_neg fun q => hc4 q.symm).trans ((if_neg fun q => hc8 q.symm).trans (if_pos hc11.symm))), N1, E1⟩) (by decide) (by decide)
      · refine own_step (fun _ k => XS.icmpYes X10.here hx rfl (pc0 := 30) (pc' := 36) rfl (hb hby d1_30) rfl (feq hc11).2 (by decide) (by decide) k) ?_
        show own_Ends _ _ _ _ _ _ _ T10 (mkF m 36 #[.val (.int p1), .val .null, .val (.ref b1), .val (.int (3 : Int32)), .val (.int (2 : Int32)), .val (.ref x2)] [])
        refine own_step (fun _ k => XS.iinc X10.here hx rfl (hb hby d1_36) rfl (l' := #[.val (.int p1), .val .null, .val (.ref b1), .val (.int (3 : Int32)), .val (.int (3 : Int32)), .val (.ref x2)]) rfl k) ?_
        show own_Ends _ _ _ _ _ _ _ T10 (mkF m 39 #[.val (.int p1), .val .null, .val (.ref b1), .val (.int (3 : Int32)), .val (.int (3 : Int32)), .val (.ref x2)] [])
        refine own_step (fun _ k => XS.goto X10.here hx rfl (pc0 := 39) (pc' := 12) rfl (hb hby d1_39) (by decide) (by decide) k) ?_
        show own_Ends _ _ _ _ _ _ _ T10 (mkF m 12 #[.val (.int p1), .val .null, .val (.ref b1), .val (.int (3 : Int32)), .val (.int (3 : Int32)), .val (.ref x2)] [])
        refine own_step (fun _ k => XS.iload X10.here hx rfl (hb hby d1_12) rfl k) ?_
        show own_Ends _ _ _ _ _ _ _ T10 (mkF m 14 #[.val (.int p1), .val .null, .val (.ref b1), .val (.int (3 : Int32)), .val (.int (3 : Int32)), .val (.ref x2)] [(.int (3 : Int32))])
        refine own_step (fun _ k => XS.iloadN X10.here hx rfl (hb hby d1_14) rfl k) ?_
        show own_Ends _ _ _ _ _ _ _ T10 (mkF m 15 #[.val (.int p1), .val .null, .val (.ref b1), .val (.int (3 : Int32)), .val (.int (3 : Int32)), .val (.ref x2)] [(.int (3 : Int32)), (.int (3 : Int32))])
        refine own_step (fun _ k => XS.icmpYes X10.here hx rfl (pc0 := 15) (pc' := 42) rfl (hb hby d1_15) rfl (flt (by decide : ¬ ((3 : Int32) < (3 : Int32)))).2.1 (by decide) (by decide) k) ?_
        show own_Ends _ _ _ _ _ _ _ T10 (mkF m 42 #[.val (.int p1), .val .null, .val (.ref b1), .val (.int (3 : Int32)), .val (.int (3 : Int32)), .val (.ref x2)] [])
        refine own_step (fun _ k => XS.aloadN X10.here hx rfl (hb hby d1_42) rfl rfl k) ?_
        show own_Ends _ _ _ _ _ _ _ T10 (mkF m 43 #[.val (.int p1), .val .null, .val (.ref b1), .val (.int (3 : Int32)), .val (.int (3 : Int32)), .val (.ref x2)] [.null])
        exact own_retA X10 hx hret rfl hlk rfl rfl (hb hby d1_43) (by rw [e10]; exact ⟨own_leafV ((if_neg fun q => hc4 q.symm).trans ((if_neg fun q => hc8 q.symm).trans (if_neg fun q => hc11 q.symm))), N1, E1⟩) (by decide) (by decide)
theorem d3_0 : decode method_2_code 0 = .ok (.iload_n 0, 1) := by decide +kernel
theorem d3_1 : decode method_2_code 1 = .ok (.iconst 1, 1) := by decide +kernel
theorem d3_2 : decode method_2_code 2 = .ok (.if_icmp .ne 7, 3) := by decide +kernel
theorem d3_5 : decode method_2_code 5 = .ok (.getstatic 7, 3) := by decide +kernel
theorem d3_8 : decode method_2_code 8 = .ok (.areturn, 1) := by decide +kernel
theorem d3_9 : decode method_2_code 9 = .ok (.iload_n 0, 1) := by decide +kernel
theorem d3_10 : decode method_2_code 10 = .ok (.iconst 2, 1) := by decide +kernel
theorem d3_11 : decode method_2_code 11 = .ok (.if_icmp .ne 7, 3) := by decide +kernel
theorem d3_14 : decode method_2_code 14 = .ok (.getstatic 13, 3) := by decide +kernel
theorem d3_17 : decode method_2_code 17 = .ok (.areturn, 1) := by decide +kernel
theorem d3_18 : decode method_2_code 18 = .ok (.iload_n 0, 1) := by decide +kernel
theorem d3_19 : decode method_2_code 19 = .ok (.iconst 3, 1) := by decide +kernel
theorem d3_20 : decode method_2_code 20 = .ok (.if_icmp .ne 7, 3) := by decide +kernel
theorem d3_23 : decode method_2_code 23 = .ok (.getstatic 16, 3) := by decide +kernel
theorem d3_26 : decode method_2_code 26 = .ok (.areturn, 1) := by decide +kernel
theorem d3_27 : decode method_2_code 27 = .ok (.aconst_null, 1) := by decide +kernel
theorem d3_28 : decode method_2_code 28 = .ok (.areturn, 1) := by decide +kernel
theorem ef_3 (p1 : Int32) (m : MethodId) : entryFrame m #[(.int p1)] 1 = mkF m 0 #[.val (.int p1)] [] := by first | (simp [entryFrame, mkF, argsToLocals, Value.category]; done) | rfl
theorem pn_1 : plainName "com/example/wirelane/wirelane/broker/EventKindForCodePinLaw" = true := by first | (simp [plainName, overriddenIn]; done) | decide +kernel
set_option maxRecDepth 65536 in
set_option maxHeartbeats 40000000 in
theorem rm3 (l : Launch) (Z : State) (a0 : Array Value) (hw : ∀ d ∈ tables_1, d.before a0 Z = true) (ws : List Jvm.Cond) (p1 : Int32) (x0 x1 x2 : Addr) (h0 : Heap) (n0 : Nat) (Z0 : n0 ≤ h0.size) (O0 : Old Z n0 h0) (S0 : Sta Z Z.heap "com/example/wirelane/wirelane/broker/EventKind" "SNAPSHOT" "Lcom/example/wirelane/wirelane/broker/EventKind;" (.ref x0)) (S1 : Sta Z Z.heap "com/example/wirelane/wirelane/broker/EventKind" "END_OF_SNAPSHOT" "Lcom/example/wirelane/wirelane/broker/EventKind;" (.ref x1)) (S2 : Sta Z Z.heap "com/example/wirelane/wirelane/broker/EventKind" "UPDATE" "Lcom/example/wirelane/wirelane/broker/EventKind;" (.ref x2)) :
    own_Met l (⟨"com/example/wirelane/wirelane/broker/EventKindForCodePinLaw", "expected", "(I)Lcom/example/wirelane/wirelane/broker/EventKind;"⟩ : MethodName) method_2_code 1 (some (.object "com/example/wirelane/wirelane/broker/EventKind")) ws ({ frames := 0, cells := 0, slots := 0, locals := 0 } : Room) #[(.int p1)] Z h0 (fun v h L => v = some (own_kind p1 x0 x1 x2) ∧ Fr n0 L ∧ h = h0) := by
  refine own_body (plainFor_of_name pn_1) (ef_3 p1) ?_
  intro p e s m below meth c T0 X0 hx hby hml0 hret hlk hnm hown hZ e0
  have hml : c.maxLocals = 1 := hml0
  have N0 := Fr.nil n0
  refine own_step (fun _ k => XS.iloadN X0.here hx rfl (hb hby d3_0) rfl k) ?_
  show own_Ends _ _ _ _ _ _ _ T0 (mkF m 1 #[.val (.int p1)] [(.int p1)])
  refine own_step (fun _ k => XS.iconst X0.here hx rfl (hb hby d3_1) k) ?_
  show own_Ends _ _ _ _ _ _ _ T0 (mkF m 2 #[.val (.int p1)] [(.int (1 : Int32)), (.int p1)])
  by_cases hc1 : p1 = (1 : Int32)
  · refine own_step (fun _ k => XS.icmpNo X0.here hx rfl (hb hby d3_2) rfl (teq hc1).2 k) ?_
    show own_Ends _ _ _ _ _ _ _ T0 (mkF m 5 #[.val (.int p1)] [])
    obtain ⟨T2, X2, e2, st2⟩ := getS2 X0 hx hZ hown (host := "") (Or.inl (hw _ (List.mem_of_getElem? (i := 29) rfl))) Via.refl e0 (S0.ext O0.2) (g := (mkF m 5 #[.val (.int p1)] [])) rfl (hb hby d3_5)
    refine own_step st2 ?_
    show own_Ends _ _ _ _ _ _ _ T2 (mkF m 8 #[.val (.int p1)] [(.ref x0)])
    exact own_retA X2 hx hret rfl hlk rfl rfl (hb hby d3_8) ⟨own_leafV (if_pos hc1), N0, e2⟩ (by decide) (by decide)
  · refine own_step (fun _ k => XS.icmpYes X0.here hx rfl (pc0 := 2) (pc' := 9) rfl (hb hby d3_2) rfl (feq hc1).2 (by decide) (by decide) k) ?_
    show own_Ends _ _ _ _ _ _ _ T0 (mkF m 9 #[.val (.int p1)] [])
    refine own_step (fun _ k => XS.iloadN X0.here hx rfl (hb hby d3_9) rfl k) ?_
    show own_Ends _ _ _ _ _ _ _ T0 (mkF m 10 #[.val (.int p1)] [(.int p1)])
    refine own_step (fun _ k => XS.iconst X0.here hx rfl (hb hby d3_10) k) ?_
    show own_Ends _ _ _ _ _ _ _ T0 (mkF m 11 #[.val (.int p1)] [(.int (2 : Int32)), (.int p1)])
    by_cases hc3 : p1 = (2 : Int32)
    · refine own_step (fun _ k => XS.icmpNo X0.here hx rfl (hb hby d3_11) rfl (teq hc3).2 k) ?_
      show own_Ends _ _ _ _ _ _ _ T0 (mkF m 14 #[.val (.int p1)] [])
      obtain ⟨T4, X4, e4, st4⟩ := getS2 X0 hx hZ hown (host := "") (Or.inl (hw _ (List.mem_of_getElem? (i := 30) rfl))) Via.refl e0 (S1.ext O0.2) (g := (mkF m 14 #[.val (.int p1)] [])) rfl (hb hby d3_14)
      refine own_step st4 ?_
      show own_Ends _ _ _ _ _ _ _ T4 (mkF m 17 #[.val (.int p1)] [(.ref x1)])
      exact own_retA X4 hx hret rfl hlk rfl rfl (hb hby d3_17) ⟨own_leafV ((if_neg hc1).trans (if_pos hc3)), N0, e4⟩ (by decide) (by decide)
    · refine own_step (fun _ k => XS.icmpYes X0.here hx rfl (pc0 := 11) (pc' := 18) rfl (hb hby d3_11) rfl (feq hc3).2 (by decide) (by decide) k) ?_
      show own_Ends _ _ _ _ _ _ _ T0 (mkF m 18 #[.val (.int p1)] [])
      refine own_step (fun _ k => XS.iloadN X0.here hx rfl (hb hby d3_18) rfl k) ?_
      show own_Ends _ _ _ _ _ _ _ T0 (mkF m 19 #[.val (.int p1)] [(.int p1)])
      refine own_step (fun _ k => XS.iconst X0.here hx rfl (hb hby d3_19) k) ?_
      show own_Ends _ _ _ _ _ _ _ T0 (mkF m 20 #[.val (.int p1)] [(.int (3 : Int32)), (.int p1)])
      by_cases hc5 : p1 = (3 : Int32)
      · refine own_step (fun _ k => XS.icmpNo X0.here hx rfl (hb hby d3_20) rfl (teq hc5).2 k) ?_
        show own_Ends _ _ _ _ _ _ _ T0 (mkF m 23 #[.val (.int p1)] [])
        obtain ⟨T6, X6, e6, st6⟩ := getS2 X0 hx hZ hown (host := "") (Or.inl (hw _ (List.mem_of_getElem? (i := 28) rfl))) Via.refl e0 (S2.ext O0.2) (g := (mkF m 23 #[.val (.int p1)] [])) rfl (hb hby d3_23)
        refine own_step st6 ?_
        show own_Ends _ _ _ _ _ _ _ T6 (mkF m 26 #[.val (.int p1)] [(.ref x2)])
        exact own_retA X6 hx hret rfl hlk rfl rfl (hb hby d3_26) ⟨own_leafV ((if_neg hc1).trans ((if_neg hc3).trans (if_pos hc5))), N0, e6⟩ (by decide) (by decide)
      · refine own_step (fun _ k => XS.icmpYes X0.here hx rfl (pc0 := 20) (pc' := 27) rfl (hb hby d3_20) rfl (feq hc5).2 (by decide) (by decide) k) ?_
        show own_Ends _ _ _ _ _ _ _ T0 (mkF m 27 #[.val (.int p1)] [])
        refine own_step (fun _ k => XS.aconstNull X0.here hx rfl (hb hby d3_27) k) ?_
        show own_Ends _ _ _ _ _ _ _ T0 (mkF m 28 #[.val (.int p1)] [.null])
        exact own_retA X0 hx hret rfl hlk rfl rfl (hb hby d3_28) ⟨own_leafV ((if_neg hc1).trans ((if_neg hc3).trans (if_neg hc5))), N0, e0⟩ (by decide) (by decide)
theorem ef_0 (p1 : Int32) (p2 : Int32) (m : MethodId) : entryFrame m #[(.int p1), (.int p2)] maxLocals = mkF m 0 #[.val (.int p1), .val (.int p2), .unset, .unset] [] := by first | (simp [entryFrame, mkF, argsToLocals, Value.category, maxLocals]; done) | rfl
theorem pd_1 : parseMethodDescriptor "(I)Lcom/example/wirelane/wirelane/broker/EventKind;" = some ⟨[.int], some (.object "com/example/wirelane/wirelane/broker/EventKind")⟩ := by decide +kernel
set_option maxRecDepth 65536 in
set_option maxHeartbeats 40000000 in
theorem rm0 (l : Launch) (Z : State) (a0 : Array Value) (hw : ∀ d ∈ tables_1, d.before a0 Z = true) (ws : List Jvm.Cond) (p1 : Int32) (p2 : Int32) (va : Addr) (kv : ClassId) (x0 x1 x2 : Addr) (h0 : Heap) (n0 : Nat) (Z0 : n0 ≤ h0.size) (O0 : Old Z n0 h0) (SV : Sta Z Z.heap "com/example/wirelane/wirelane/broker/EventKind" "$VALUES" "[Lcom/example/wirelane/wirelane/broker/EventKind;" (.ref va)) (VV : Arv Z Z.heap va kv (.object "com/example/wirelane/wirelane/broker/EventKind") (3 : Int32) [(.ref x0), (.ref x1), (.ref x2)] .null) (EV : Exa Z Z.heap va "[Lcom/example/wirelane/wirelane/broker/EventKind;") (F0 : Fld Z Z.heap x0 "com/example/wirelane/wirelane/broker/EventKind" "code" "I" (.int (1 : Int32))) (F1 : Fld Z Z.heap x1 "com/example/wirelane/wirelane/broker/EventKind" "code" "I" (.int (2 : Int32))) (F2 : Fld Z Z.heap x2 "com/example/wirelane/wirelane/broker/EventKind" "code" "I" (.int (3 : Int32))) (S0 : Sta Z Z.heap "com/example/wirelane/wirelane/broker/EventKind" "SNAPSHOT" "Lcom/example/wirelane/wirelane/broker/EventKind;" (.ref x0)) (S1 : Sta Z Z.heap "com/example/wirelane/wirelane/broker/EventKind" "END_OF_SNAPSHOT" "Lcom/example/wirelane/wirelane/broker/EventKind;" (.ref x1)) (S2 : Sta Z Z.heap "com/example/wirelane/wirelane/broker/EventKind" "UPDATE" "Lcom/example/wirelane/wirelane/broker/EventKind;" (.ref x2)) :
    own_Met l x code maxLocals ret ws room_1 #[(.int p1), (.int p2)] Z h0 (fun v h L => v = some (.int (1 : Int32)) ∧ Fr n0 L) := by
  refine own_body (plainFor_of_name pn_1) (ef_0 p1 p2) ?_
  intro p e s m below meth c T0 X0 hx hby hml0 hret hlk hnm hown hZ e0
  have hml : c.maxLocals = 4 := hml0
  have N0 := Fr.nil n0
  refine own_step (fun _ k => XS.iloadN X0.here hx rfl (hb hby at_0) rfl k) ?_
  show own_Ends _ _ _ _ _ _ _ T0 (mkF m 1 #[.val (.int p1), .val (.int p2), .unset, .unset] [(.int p2)])
  refine own_step (fun _ k => XS.iconst X0.here hx rfl (hb hby at_1) k) ?_
  show own_Ends _ _ _ _ _ _ _ T0 (mkF m 2 #[.val (.int p1), .val (.int p2), .unset, .unset] [(.int (1 : Int32)), (.int p2)])
  refine own_step (fun _ k => XS.iand X0.here hx rfl (hb hby at_2) rfl k) ?_
  show own_Ends _ _ _ _ _ _ _ T0 (mkF m 3 #[.val (.int p1), .val (.int p2), .unset, .unset] [(.int (p2 &&& (1 : Int32)))])
  by_cases hc1 : (p2 &&& (1 : Int32)) = (0 : Int32)
  · refine own_step (fun _ k => XS.ifYes X0.here hx rfl (pc0 := 3) (pc' := 10) rfl (hb hby at_3) rfl ((if0 _ _).trans (teq hc1).1) (by decide) (by decide) k) ?_
    show own_Ends _ _ _ _ _ _ _ T0 (mkF m 10 #[.val (.int p1), .val (.int p2), .unset, .unset] [])
    refine own_step (fun _ k => XS.iconst X0.here hx rfl (hb hby at_10) k) ?_
    show own_Ends _ _ _ _ _ _ _ T0 (mkF m 11 #[.val (.int p1), .val (.int p2), .unset, .unset] [(.int (0 : Int32))])
    refine own_step (fun _ k => XS.istoreN X0.here hx rfl (hb hby at_11) rfl (l' := #[.val (.int p1), .val (.int p2), .val (.int (0 : Int32)), .unset]) rfl k) ?_
    show own_Ends _ _ _ _ _ _ _ T0 (mkF m 12 #[.val (.int p1), .val (.int p2), .val (.int (0 : Int32)), .unset] [])
    refine own_step (fun _ k => XS.iloadN X0.here hx rfl (hb hby at_12) rfl k) ?_
    show own_Ends _ _ _ _ _ _ _ T0 (mkF m 13 #[.val (.int p1), .val (.int p2), .val (.int (0 : Int32)), .unset] [(.int (0 : Int32))])
    refine own_step (fun _ k => XS.ifYes X0.here hx rfl (pc0 := 13) (pc' := 20) rfl (hb hby at_13) rfl ((if0 _ _).trans (teq (by decide : (0 : Int32) = (0 : Int32))).1) (by decide) (by decide) k) ?_
    show own_Ends _ _ _ _ _ _ _ T0 (mkF m 20 #[.val (.int p1), .val (.int p2), .val (.int (0 : Int32)), .unset] [])
    refine own_step (fun _ k => XS.iloadN X0.here hx rfl (hb hby at_20) rfl k) ?_
    show own_Ends _ _ _ _ _ _ _ T0 (mkF m 21 #[.val (.int p1), .val (.int p2), .val (.int (0 : Int32)), .unset] [(.int p2)])
    refine own_step (fun _ k => XS.iconst X0.here hx rfl (hb hby at_21) k) ?_
    show own_Ends _ _ _ _ _ _ _ T0 (mkF m 22 #[.val (.int p1), .val (.int p2), .val (.int (0 : Int32)), .unset] [(.int (1 : Int32)), (.int p2)])
    refine own_step (fun _ k => XS.ishr X0.here hx rfl (hb hby at_22) rfl k) ?_
    show own_Ends _ _ _ _ _ _ _ T0 (mkF m 23 #[.val (.int p1), .val (.int p2), .val (.int (0 : Int32)), .unset] [(.int (p2 >>> ((1 : Int32) &&& 31)))])
    refine own_step (fun _ k => XS.bipush X0.here hx rfl (hb hby at_23) k) ?_
    show own_Ends _ _ _ _ _ _ _ T0 (mkF m 25 #[.val (.int p1), .val (.int p2), .val (.int (0 : Int32)), .unset] [(.int (7 : Int32)), (.int (p2 >>> ((1 : Int32) &&& 31)))])
    refine own_step (fun _ k => XS.iand X0.here hx rfl (hb hby at_25) rfl k) ?_
    show own_Ends _ _ _ _ _ _ _ T0 (mkF m 26 #[.val (.int p1), .val (.int p2), .val (.int (0 : Int32)), .unset] [(.int ((p2 >>> ((1 : Int32) &&& 31)) &&& (7 : Int32)))])
    refine own_step (fun _ k => XS.iconst X0.here hx rfl (hb hby at_26) k) ?_
    show own_Ends _ _ _ _ _ _ _ T0 (mkF m 27 #[.val (.int p1), .val (.int p2), .val (.int (0 : Int32)), .unset] [(.int (2 : Int32)), (.int ((p2 >>> ((1 : Int32) &&& 31)) &&& (7 : Int32)))])
    refine own_step (fun _ k => XS.isub X0.here hx rfl (hb hby at_27) rfl k) ?_
    show own_Ends _ _ _ _ _ _ _ T0 (mkF m 28 #[.val (.int p1), .val (.int p2), .val (.int (0 : Int32)), .unset] [(.int (((p2 >>> ((1 : Int32) &&& 31)) &&& (7 : Int32)) - (2 : Int32)))])
    refine own_step (fun _ k => XS.istoreN X0.here hx rfl (hb hby at_28) rfl (l' := #[.val (.int p1), .val (.int p2), .val (.int (0 : Int32)), .val (.int (((p2 >>> ((1 : Int32) &&& 31)) &&& (7 : Int32)) - (2 : Int32)))]) rfl k) ?_
    show own_Ends _ _ _ _ _ _ _ T0 (mkF m 29 #[.val (.int p1), .val (.int p2), .val (.int (0 : Int32)), .val (.int (((p2 >>> ((1 : Int32) &&& 31)) &&& (7 : Int32)) - (2 : Int32)))] [])
    refine own_step (fun _ k => XS.iloadN X0.here hx rfl (hb hby at_29) rfl k) ?_
    show own_Ends _ _ _ _ _ _ _ T0 (mkF m 30 #[.val (.int p1), .val (.int p2), .val (.int (0 : Int32)), .val (.int (((p2 >>> ((1 : Int32) &&& 31)) &&& (7 : Int32)) - (2 : Int32)))] [(.int (((p2 >>> ((1 : Int32) &&& 31)) &&& (7 : Int32)) - (2 : Int32)))])
    refine own_callS X0 hx hZ (y := (⟨"com/example/wirelane/wirelane/broker/EventKind", "forCode", "(I)Lcom/example/wirelane/wirelane/broker/EventKind;"⟩ : MethodName)) hown (hw _ (List.mem_of_getElem? (i := 0) rfl)) (hw _ (List.mem_of_getElem? (i := 1) rfl)) (hw _ (List.mem_of_getElem? (i := 2) rfl)) (hw _ (List.mem_of_getElem? (i := 3) rfl)) (by decide) (rm1 l Z a0 hw [] (((p2 >>> ((1 : Int32) &&& 31)) &&& (7 : Int32)) - (2 : Int32)) va kv x0 x1 x2 h0 n0 Z0 O0 SV VV EV F0 F1 F2) e0 0 (by decide) (by decide) (by decide) (by decide) (g := (mkF m 30 #[.val (.int p1), .val (.int p2), .val (.int (0 : Int32)), .val (.int (((p2 >>> ((1 : Int32) &&& 31)) &&& (7 : Int32)) - (2 : Int32)))] [(.int (((p2 >>> ((1 : Int32) &&& 31)) &&& (7 : Int32)) - (2 : Int32)))])) rfl (by rw [hml]; rfl) [(.int (((p2 >>> ((1 : Int32) &&& 31)) &&& (7 : Int32)) - (2 : Int32)))] [] pd_1 rfl rfl rfl (by show 2 * 0 + _ ≤ _; exact Nat.le_of_eq rfl) (hb hby at_30) ?_
    rintro v2 T2 L2 X2 ⟨rfl, Nq2, E2⟩
    have N2 := Fr.app N0 Nq2
    show own_Ends _ _ _ _ _ _ _ T2 (mkF m 33 #[.val (.int p1), .val (.int p2), .val (.int (0 : Int32)), .val (.int (((p2 >>> ((1 : Int32) &&& 31)) &&& (7 : Int32)) - (2 : Int32)))] [(own_kind (((p2 >>> ((1 : Int32) &&& 31)) &&& (7 : Int32)) - (2 : Int32)) x0 x1 x2)])
    have Z2 := Nat.le_trans Z0 E2.1
    refine own_step (fun _ k => XS.iloadN X2.here hx rfl (hb hby at_33) rfl k) ?_
    show own_Ends _ _ _ _ _ _ _ T2 (mkF m 34 #[.val (.int p1), .val (.int p2), .val (.int (0 : Int32)), .val (.int (((p2 >>> ((1 : Int32) &&& 31)) &&& (7 : Int32)) - (2 : Int32)))] [(.int (((p2 >>> ((1 : Int32) &&& 31)) &&& (7 : Int32)) - (2 : Int32))), (own_kind (((p2 >>> ((1 : Int32) &&& 31)) &&& (7 : Int32)) - (2 : Int32)) x0 x1 x2)])
    have Q3 := (O0.ext E2)
    refine own_callS X2 hx hZ (y := (⟨"com/example/wirelane/wirelane/broker/EventKindForCodePinLaw", "expected", "(I)Lcom/example/wirelane/wirelane/broker/EventKind;"⟩ : MethodName)) hown (hw _ (List.mem_of_getElem? (i := 24) rfl)) (hw _ (List.mem_of_getElem? (i := 25) rfl)) (hw _ (List.mem_of_getElem? (i := 26) rfl)) (hw _ (List.mem_of_getElem? (i := 27) rfl)) (by decide) (rm3 l Z a0 hw [] (((p2 >>> ((1 : Int32) &&& 31)) &&& (7 : Int32)) - (2 : Int32)) x0 x1 x2 T2.heap n0 Z2 Q3 S0 S1 S2) rfl 1 (by decide) (by decide) (by decide) (by decide) (g := (mkF m 34 #[.val (.int p1), .val (.int p2), .val (.int (0 : Int32)), .val (.int (((p2 >>> ((1 : Int32) &&& 31)) &&& (7 : Int32)) - (2 : Int32)))] [(.int (((p2 >>> ((1 : Int32) &&& 31)) &&& (7 : Int32)) - (2 : Int32))), (own_kind (((p2 >>> ((1 : Int32) &&& 31)) &&& (7 : Int32)) - (2 : Int32)) x0 x1 x2)])) rfl (by rw [hml]; rfl) [(.int (((p2 >>> ((1 : Int32) &&& 31)) &&& (7 : Int32)) - (2 : Int32)))] [(own_kind (((p2 >>> ((1 : Int32) &&& 31)) &&& (7 : Int32)) - (2 : Int32)) x0 x1 x2)] pd_1 rfl rfl rfl (by show 2 * 0 + ((own_kind (((p2 >>> ((1 : Int32) &&& 31)) &&& (7 : Int32)) - (2 : Int32)) x0 x1 x2).category + 0) ≤ 1; rw [own_cat]; decide) (hb hby at_34) ?_
    rintro v4 T4 L4 X4 ⟨rfl, Nq4, e4⟩
    have N4 := Fr.app N2 Nq4
    show own_Ends _ _ _ _ _ _ _ T4 (mkF m 37 #[.val (.int p1), .val (.int p2), .val (.int (0 : Int32)), .val (.int (((p2 >>> ((1 : Int32) &&& 31)) &&& (7 : Int32)) - (2 : Int32)))] [(own_kind (((p2 >>> ((1 : Int32) &&& 31)) &&& (7 : Int32)) - (2 : Int32)) x0 x1 x2), (own_kind (((p2 >>> ((1 : Int32) &&& 31)) &&& (7 : Int32)) - (2 : Int32)) x0 x1 x2)])
    refine own_step (fun _ k => Jvm.RoadKit.acmp (g := (mkF m 37 #[.val (.int p1), .val (.int p2), .val (.int (0 : Int32)), .val (.int (((p2 >>> ((1 : Int32) &&& 31)) &&& (7 : Int32)) - (2 : Int32)))] [(own_kind (((p2 >>> ((1 : Int32) &&& 31)) &&& (7 : Int32)) - (2 : Int32)) x0 x1 x2), (own_kind (((p2 >>> ((1 : Int32) &&& 31)) &&& (7 : Int32)) - (2 : Int32)) x0 x1 x2)])) X4 hx rfl (own_isr (((p2 >>> ((1 : Int32) &&& 31)) &&& (7 : Int32)) - (2 : Int32)) x0 x1 x2) (own_isr (((p2 >>> ((1 : Int32) &&& 31)) &&& (7 : Int32)) - (2 : Int32)) x0 x1 x2) (pc0 := 37) (pc' := 40) (same := true) rfl (hb hby at_37) rfl (decide_eq_true rfl) (by decide) (by decide) k) ?_
    show own_Ends _ _ _ _ _ _ _ T4 (mkF m 40 #[.val (.int p1), .val (.int p2), .val (.int (0 : Int32)), .val (.int (((p2 >>> ((1 : Int32) &&& 31)) &&& (7 : Int32)) - (2 : Int32)))] [])
    refine own_step (fun _ k => XS.iconst X4.here hx rfl (hb hby at_40) k) ?_
    show own_Ends _ _ _ _ _ _ _ T4 (mkF m 41 #[.val (.int p1), .val (.int p2), .val (.int (0 : Int32)), .val (.int (((p2 >>> ((1 : Int32) &&& 31)) &&& (7 : Int32)) - (2 : Int32)))] [(.int (1 : Int32))])
    refine own_step (fun _ k => XS.goto X4.here hx rfl (pc0 := 41) (pc' := 45) rfl (hb hby at_41) (by decide) (by decide) k) ?_
    show own_Ends _ _ _ _ _ _ _ T4 (mkF m 45 #[.val (.int p1), .val (.int p2), .val (.int (0 : Int32)), .val (.int (((p2 >>> ((1 : Int32) &&& 31)) &&& (7 : Int32)) - (2 : Int32)))] [(.int (1 : Int32))])
    exact own_retN X4 hx (t := .boolean) hret (by simp) hlk (hb hby at_45) rfl ⟨rfl, N4⟩ (by decide) (by decide)
  · refine own_step (fun _ k => XS.ifNo X0.here hx rfl (hb hby at_3) rfl ((if0 _ _).trans (feq hc1).1) k) ?_
    show own_Ends _ _ _ _ _ _ _ T0 (mkF m 6 #[.val (.int p1), .val (.int p2), .unset, .unset] [])
    refine own_step (fun _ k => XS.iconst X0.here hx rfl (hb hby at_6) k) ?_
    show own_Ends _ _ _ _ _ _ _ T0 (mkF m 7 #[.val (.int p1), .val (.int p2), .unset, .unset] [(.int (1 : Int32))])
    refine own_step (fun _ k => XS.goto X0.here hx rfl (pc0 := 7) (pc' := 11) rfl (hb hby at_7) (by decide) (by decide) k) ?_
    show own_Ends _ _ _ _ _ _ _ T0 (mkF m 11 #[.val (.int p1), .val (.int p2), .unset, .unset] [(.int (1 : Int32))])
    refine own_step (fun _ k => XS.istoreN X0.here hx rfl (hb hby at_11) rfl (l' := #[.val (.int p1), .val (.int p2), .val (.int (1 : Int32)), .unset]) rfl k) ?_
    show own_Ends _ _ _ _ _ _ _ T0 (mkF m 12 #[.val (.int p1), .val (.int p2), .val (.int (1 : Int32)), .unset] [])
    refine own_step (fun _ k => XS.iloadN X0.here hx rfl (hb hby at_12) rfl k) ?_
    show own_Ends _ _ _ _ _ _ _ T0 (mkF m 13 #[.val (.int p1), .val (.int p2), .val (.int (1 : Int32)), .unset] [(.int (1 : Int32))])
    refine own_step (fun _ k => XS.ifNo X0.here hx rfl (hb hby at_13) rfl ((if0 _ _).trans (feq (by decide : ¬ ((1 : Int32) = (0 : Int32)))).1) k) ?_
    show own_Ends _ _ _ _ _ _ _ T0 (mkF m 16 #[.val (.int p1), .val (.int p2), .val (.int (1 : Int32)), .unset] [])
    refine own_step (fun _ k => XS.iloadN X0.here hx rfl (hb hby at_16) rfl k) ?_
    show own_Ends _ _ _ _ _ _ _ T0 (mkF m 17 #[.val (.int p1), .val (.int p2), .val (.int (1 : Int32)), .unset] [(.int p1)])
    refine own_step (fun _ k => XS.goto X0.here hx rfl (pc0 := 17) (pc' := 28) rfl (hb hby at_17) (by decide) (by decide) k) ?_
    show own_Ends _ _ _ _ _ _ _ T0 (mkF m 28 #[.val (.int p1), .val (.int p2), .val (.int (1 : Int32)), .unset] [(.int p1)])
    refine own_step (fun _ k => XS.istoreN X0.here hx rfl (hb hby at_28) rfl (l' := #[.val (.int p1), .val (.int p2), .val (.int (1 : Int32)), .val (.int p1)]) rfl k) ?_
    show own_Ends _ _ _ _ _ _ _ T0 (mkF m 29 #[.val (.int p1), .val (.int p2), .val (.int (1 : Int32)), .val (.int p1)] [])
    refine own_step (fun _ k => XS.iloadN X0.here hx rfl (hb hby at_29) rfl k) ?_
    show own_Ends _ _ _ _ _ _ _ T0 (mkF m 30 #[.val (.int p1), .val (.int p2), .val (.int (1 : Int32)), .val (.int p1)] [(.int p1)])
    refine own_callS X0 hx hZ (y := (⟨"com/example/wirelane/wirelane/broker/EventKind", "forCode", "(I)Lcom/example/wirelane/wirelane/broker/EventKind;"⟩ : MethodName)) hown (hw _ (List.mem_of_getElem? (i := 0) rfl)) (hw _ (List.mem_of_getElem? (i := 1) rfl)) (hw _ (List.mem_of_getElem? (i := 2) rfl)) (hw _ (List.mem_of_getElem? (i := 3) rfl)) (by decide) (rm1 l Z a0 hw [] p1 va kv x0 x1 x2 h0 n0 Z0 O0 SV VV EV F0 F1 F2) e0 0 (by decide) (by decide) (by decide) (by decide) (g := (mkF m 30 #[.val (.int p1), .val (.int p2), .val (.int (1 : Int32)), .val (.int p1)] [(.int p1)])) rfl (by rw [hml]; rfl) [(.int p1)] [] pd_1 rfl rfl rfl (by show 2 * 0 + _ ≤ _; exact Nat.le_of_eq rfl) (hb hby at_30) ?_
    rintro v5 T5 L5 X5 ⟨rfl, Nq5, E5⟩
    have N5 := Fr.app N0 Nq5
    show own_Ends _ _ _ _ _ _ _ T5 (mkF m 33 #[.val (.int p1), .val (.int p2), .val (.int (1 : Int32)), .val (.int p1)] [(own_kind p1 x0 x1 x2)])
    have Z5 := Nat.le_trans Z0 E5.1
    refine own_step (fun _ k => XS.iloadN X5.here hx rfl (hb hby at_33) rfl k) ?_
    show own_Ends _ _ _ _ _ _ _ T5 (mkF m 34 #[.val (.int p1), .val (.int p2), .val (.int (1 : Int32)), .val (.int p1)] [(.int p1), (own_kind p1 x0 x1 x2)])
    have Q6 := (O0.ext E5)
    refine own_callS X5 hx hZ (y := (⟨"com/example/wirelane/wirelane/broker/EventKindForCodePinLaw", "expected", "(I)Lcom/example/wirelane/wirelane/broker/EventKind;"⟩ : MethodName)) hown (hw _ (List.mem_of_getElem? (i := 24) rfl)) (hw _ (List.mem_of_getElem? (i := 25) rfl)) (hw _ (List.mem_of_getElem? (i := 26) rfl)) (hw _ (List.mem_of_getElem? (i := 27) rfl)) (by decide) (rm3 l Z a0 hw [] p1 x0 x1 x2 T5.heap n0 Z5 Q6 S0 S1 S2) rfl 1 (by decide) (by decide) (by decide) (by decide) (g := (mkF m 34 #[.val (.int p1), .val (.int p2), .val (.int (1 : Int32)), .val (.int p1)] [(.int p1), (own_kind p1 x0 x1 x2)])) rfl (by rw [hml]; rfl) [(.int p1)] [(own_kind p1 x0 x1 x2)] pd_1 rfl rfl rfl (by show 2 * 0 + ((own_kind p1 x0 x1 x2).category + 0) ≤ 1; rw [own_cat]; decide) (hb hby at_34) ?_
    rintro v7 T7 L7 X7 ⟨rfl, Nq7, e7⟩
    have N7 := Fr.app N5 Nq7
    show own_Ends _ _ _ _ _ _ _ T7 (mkF m 37 #[.val (.int p1), .val (.int p2), .val (.int (1 : Int32)), .val (.int p1)] [(own_kind p1 x0 x1 x2), (own_kind p1 x0 x1 x2)])
    refine own_step (fun _ k => Jvm.RoadKit.acmp (g := (mkF m 37 #[.val (.int p1), .val (.int p2), .val (.int (1 : Int32)), .val (.int p1)] [(own_kind p1 x0 x1 x2), (own_kind p1 x0 x1 x2)])) X7 hx rfl (own_isr p1 x0 x1 x2) (own_isr p1 x0 x1 x2) (pc0 := 37) (pc' := 40) (same := true) rfl (hb hby at_37) rfl (decide_eq_true rfl) (by decide) (by decide) k) ?_
    show own_Ends _ _ _ _ _ _ _ T7 (mkF m 40 #[.val (.int p1), .val (.int p2), .val (.int (1 : Int32)), .val (.int p1)] [])
    refine own_step (fun _ k => XS.iconst X7.here hx rfl (hb hby at_40) k) ?_
    show own_Ends _ _ _ _ _ _ _ T7 (mkF m 41 #[.val (.int p1), .val (.int p2), .val (.int (1 : Int32)), .val (.int p1)] [(.int (1 : Int32))])
    refine own_step (fun _ k => XS.goto X7.here hx rfl (pc0 := 41) (pc' := 45) rfl (hb hby at_41) (by decide) (by decide) k) ?_
    show own_Ends _ _ _ _ _ _ _ T7 (mkF m 45 #[.val (.int p1), .val (.int p2), .val (.int (1 : Int32)), .val (.int p1)] [(.int (1 : Int32))])
    exact own_retN X7 hx (t := .boolean) hret (by simp) hlk (hb hby at_45) rfl ⟨rfl, N7⟩ (by decide) (by decide)
set_option maxRecDepth 65536 in
set_option maxHeartbeats 40000000 in
theorem comes_1 {Post : Tables → Env → Array Value → State → Outcome → State → Prop} (hpost : ∀ tb e args s v u, (limb_1_1.after args s (.returned v) u = true ∧ limb_1_2.after args s (.returned v) u = true ∧ True) → FrameEnd s (.returned v) u (Jvm.fieldLocs frame_1_writes args s ++ Jvm.arrayLocs frame_1_arrays args s ++ Jvm.staticLocs frame_1_statics s) 16 128 → Post tb e args s (.returned v) u) :
    ArmFor flags0 classFile x code maxLocals ret World_1 tables_1 room_1 Calls_1 rest_1 Pre_1 Post := by
  intro l hfl _ _ p e ha hc hk s m args below hf hA hF happ hP
  obtain ⟨hcalls, hrest, hpre⟩ := hP
  obtain ⟨-, -, -, hnamed, -, -, -, hat⟩ := (Spec.applies_iff hf).mp happ
  obtain ⟨hg, hn⟩ := and_e (Cond.before_iff.mp (show (Jvm.Cond.and given_1 narrow_1).before args s = true from hpre))
  obtain ⟨gc, g0⟩ := and_e hg
  obtain ⟨h0, g1⟩ := and_e g0
  have h1 := g1
  obtain ⟨w0, w1, rfl⟩ : ∃ w0 w1 : Value, args = #[w0, w1] := by
    have hs : args.size = 2 := by simpa [Cond.value, given_1] using gc
    obtain ⟨L⟩ := args
    match L, hs with
    | [w0, w1], _ => exact ⟨w0, w1, rfl⟩
  have hw := fun d (hd : d ∈ tables_1) => atoms_spec (ws := Jvm.Cond.code x code maxLocals ret :: tables_1) hat d (List.mem_cons_of_mem _ hd)
  have hfit : Fit s := fun {y c} hc i hi => by
    obtain ⟨ha, rfl⟩ := Array.getElem?_eq_some_iff.mp hc
    have q := List.all_eq_true.mp ((Array.all_eq_true_iff_forall_mem.mp hF) _ (Array.getElem_mem ha)) i (List.mem_range.mpr hi)
    simpa [Array.getElem?_eq_getElem hi] using q
  obtain ⟨i0, ei0⟩ := is_v h0
  obtain rfl : w0 = (.int i0) := Option.some.inj ei0
  obtain ⟨i1, ei1⟩ := is_v h1
  obtain rfl : w1 = (.int i1) := Option.some.inj ei1
  obtain ⟨y0, z0⟩ := and_e hn
  obtain ⟨y1, z1⟩ := and_e z0
  obtain ⟨y2, z2⟩ := and_e z1
  obtain ⟨y3, z3⟩ := and_e z2
  obtain ⟨y4, z4⟩ := and_e z3
  obtain ⟨y5, z5⟩ := and_e z4
  obtain ⟨y6, z6⟩ := and_e z5
  obtain ⟨y7, z7⟩ := and_e z6
  obtain ⟨y8, z8⟩ := and_e z7
  obtain ⟨y9, z9⟩ := and_e z8
  obtain ⟨y10, z10⟩ := and_e z9
  have y11 := z10
  obtain ⟨va, ev⟩ := arr_v y0
  obtain ⟨cl, AV⟩ := Arr.start ev y0
  have EV := Exa.start ev y1
  obtain ⟨hl1, hl2⟩ := own_lenT ev AV (own_eqI y2)
  have SV := Sta.start ev (Or.inl (hw _ (List.mem_of_getElem? (i := 19) rfl)))
  obtain ⟨x0, ex0⟩ := exa_v y3
  have S0 := Sta.start ex0 (Or.inr ⟨hw _ (List.mem_of_getElem? (i := 2) rfl), hw _ (List.mem_of_getElem? (i := 16) rfl)⟩)
  have el0 := (elem_in (own_eqR ex0 y4) ev rfl AV.1).2
  have F0 := Fld.start ((fld_at ex0).symm.trans (own_eqI y9))
  obtain ⟨x1, ex1⟩ := exa_v y5
  have S1 := Sta.start ex1 (Or.inr ⟨hw _ (List.mem_of_getElem? (i := 2) rfl), hw _ (List.mem_of_getElem? (i := 17) rfl)⟩)
  have el1 := (elem_in (own_eqR ex1 y6) ev rfl AV.1).2
  have F1 := Fld.start ((fld_at ex1).symm.trans (own_eqI y10))
  obtain ⟨x2, ex2⟩ := exa_v y7
  have S2 := Sta.start ex2 (Or.inr ⟨hw _ (List.mem_of_getElem? (i := 2) rfl), hw _ (List.mem_of_getElem? (i := 18) rfl)⟩)
  have el2 := (elem_in (own_eqR ex2 y8) ev rfl AV.1).2
  have F2 := Fld.start ((fld_at ex2).symm.trans (own_eqI y11))
  have VV := Arv.start (vs := [(.ref x0), (.ref x1), (.ref x2)]) (dv := .null) hfit AV hl1 hl2 (by decide) rfl ⟨el0, el1, el2, trivial⟩
  obtain ⟨n, o, h1, h2, h3, _, L, rfl, ⟨rfl, N⟩, hq⟩ := rm0 l s _ hw tables_1 i0 i1 va _ x0 x1 x2 s.heap s.heap.size (Nat.le_refl _) (Old.start s) SV VV EV F0 F1 F2 S0 S1 S2 p e ha hc hk s m _ below hf ((Spec.applies_iff_loose hf).mp happ).1 ⟨rfl, State.Warmed39.refl s, rfl⟩ trivial
  refine ⟨n, _, h1, h2, h3, hpost _ _ _ _ _ _ ⟨Cond.after_iff.mpr rfl, Cond.after_iff.mpr (eq_i res_at (Term.int_eval (1)) rfl), trivial⟩ ⟨hq.1, hq.2.1, (hq.2.2.sift fun y hy => Or.inr (N y hy)).mono (by decide) (by decide)⟩⟩
theorem main_1_1 : Claimed_1_1 := comes_1 fun _ _ _ _ _ _ h hF => ⟨h.1, hF⟩
theorem main_1_2 : Claimed_1_2 := comes_1 fun _ _ _ _ _ _ h hF => ⟨h.2.1, hF⟩
end Jvm.Pilot.@@N@@
namespace Jvm.Pilot.@@N@@
open Jvm Jvm.ClassFile Sem Op Lib Jvm.Free Jvm.Stand Jvm.Pilot.@@N@@.Jvm.D
/-! MADE BY PROGRAM (witnessworld.py) out of the Statement's table words and the real class files: 13 classes; the members and pool entries that the words name. The judged class is class 1, her method 2. -/
namespace start1
open Jvm.ClassFile
def u (s : String) : CpInfo := .utf8 (stringToUtf16 s)
/-- a pool by its gaps: so many unusable entries, then the entry; so many at the end -/
def gap : Nat → List CpInfo → List CpInfo
  | 0, r => r
  | n + 1, r => .unusable :: gap n r
def poolList (es : List (Nat × CpInfo)) (last : Nat) : List CpInfo := es.foldr (fun e r => gap e.1 (e.2 :: r)) (gap last [])
def pool (es : List (Nat × CpInfo)) (last : Nat) : Array CpInfo := ⟨poolList es last⟩
def fileOf (pool : Array CpInfo) (this : Nat) (attrs : Array Attribute := #[]) (ms : Array MethodInfo := #[]) (fl : Nat := 33) (sup : Nat := 0) (ifs : Array Nat := #[]) (fds : Array FieldInfo := #[]) : ClassFile where
  minorVersion := 0
  majorVersion := 65
  constantPool := pool
  accessFlags := fl
  thisClass := this
  superClass := sup
  interfaces := ifs
  fields := fds
  methods := ms
  attributes := attrs
def plain (name : String) (sup : Option ClassId) : Class where
  name := name
  kind := .ordinary
  loader := none
  accessFlags := 33
  super := sup
  interfaces := #[]
  cf := none
  fields := #[]
  methods := #[]
  instanceTypes := #[]
  staticTypes := #[]
  resolved := #[]
  callSites := []
  init := .initialized
  statics := none
  mirror := none

def pool0 : Array CpInfo := pool [(5, u "<init>"), (0, u "()V"), (1, .class_ 10), (1, u "java/lang/Object"), (85, u "clone"), (0, u "()Ljava/lang/Object;")] 26

def k0m0 : Method := { name := "<init>", desc := "()V", sig := { parameters := [], returnType := none }, accessFlags := 1, code := none }
def k0m1 : Method := { name := "clone", desc := "()Ljava/lang/Object;", sig := { parameters := [], returnType := some (.object "java/lang/Object") }, accessFlags := 260, code := none }
/-- java/lang/Object -/
def k0 : Class := { plain "java/lang/Object" none with
  accessFlags := 33
  interfaces := #[]
  cf := some (fileOf pool0 8 #[] #[{ accessFlags := 1, nameIndex := 5, descriptorIndex := 6, attributes := #[] }, { accessFlags := 260, nameIndex := 96, descriptorIndex := 97, attributes := #[] }] 33 0 #[] #[])
  fields := #[]
  methods := #[k0m0, k0m1]
  instanceTypes := #[]
  staticTypes := #[]
  resolved := Array.replicate 124 none
  statics := none }

def pool1 : Array CpInfo := pool [(2, .class_ 4), (1, u "java/lang/Object"), (0, u "<init>"), (0, u "()V"), (0, .fieldref 8 9), (0, .class_ 10), (0, .nameAndType 11 12), (0, u "com/example/wirelane/wirelane/broker/EventKind"), (0, u "SNAPSHOT"), (0, u "Lcom/example/wirelane/wirelane/broker/EventKind;"), (0, .fieldref 8 14), (0, .nameAndType 15 12), (0, u "END_OF_SNAPSHOT"), (0, .fieldref 8 17), (0, .nameAndType 18 12), (0, u "UPDATE"), (0, .methodref 8 20), (0, .nameAndType 21 22), (0, u "forCode"), (0, u "(I)Lcom/example/wirelane/wirelane/broker/EventKind;"), (0, .methodref 24 25), (0, .class_ 26), (0, .nameAndType 27 22), (0, u "com/example/wirelane/wirelane/broker/EventKindForCodePinLaw"), (0, u "expected"), (3, u "law"), (0, u "(II)Z")] 2

def k1m0 : Method := { name := "<init>", desc := "()V", sig := { parameters := [], returnType := none }, accessFlags := 2, code := none }
def k1c1 : Code := { maxStack := 2, maxLocals := 1, code := method_2_code, exceptionTable := #[], attributes := #[] }
def k1m1 : Method := { name := "expected", desc := "(I)Lcom/example/wirelane/wirelane/broker/EventKind;", sig := { parameters := [.int], returnType := some (.object "com/example/wirelane/wirelane/broker/EventKind") }, accessFlags := 10, code := some k1c1 }
def k1c2 : Code := { maxStack := 2, maxLocals := 4, code := code, exceptionTable := #[], attributes := #[] }
def k1m2 : Method := { name := "law", desc := "(II)Z", sig := { parameters := [.int, .int], returnType := some .boolean }, accessFlags := 9, code := some k1c2 }
/-- com/example/wirelane/wirelane/broker/EventKindForCodePinLaw -/
def k1 : Class := { plain "com/example/wirelane/wirelane/broker/EventKindForCodePinLaw" (some 0) with
  accessFlags := 49
  interfaces := #[]
  cf := some (fileOf pool1 24 #[] #[{ accessFlags := 2, nameIndex := 5, descriptorIndex := 6, attributes := #[] }, { accessFlags := 10, nameIndex := 27, descriptorIndex := 22, attributes := #[] }, { accessFlags := 9, nameIndex := 31, descriptorIndex := 32, attributes := #[] }] 49 2 #[] #[])
  fields := #[]
  methods := #[k1m0, k1m1, k1m2]
  instanceTypes := #[]
  staticTypes := #[]
  resolved := Array.replicate 35 none
  statics := none }

def pool2 : Array CpInfo := pool [(1, .class_ 2), (0, u "java/lang/constant/Constable"), (0, .class_ 4), (0, u "java/lang/Object")] 6

/-- java/lang/constant/Constable -/
def k2 : Class := { plain "java/lang/constant/Constable" (some 0) with
  accessFlags := 1537
  interfaces := #[]
  cf := some (fileOf pool2 1 #[] #[] 1537 3 #[] #[])
  fields := #[]
  methods := #[]
  instanceTypes := #[]
  staticTypes := #[]
  resolved := Array.replicate 11 none
  statics := none }

def pool3 : Array CpInfo := pool [(1, .class_ 2), (0, u "java/lang/Comparable"), (0, .class_ 4), (0, u "java/lang/Object")] 7

/-- java/lang/Comparable -/
def k3 : Class := { plain "java/lang/Comparable" (some 0) with
  accessFlags := 1537
  interfaces := #[]
  cf := some (fileOf pool3 1 #[] #[] 1537 3 #[] #[])
  fields := #[]
  methods := #[]
  instanceTypes := #[]
  staticTypes := #[]
  resolved := Array.replicate 12 none
  statics := none }

def pool4 : Array CpInfo := pool [(1, .class_ 2), (0, u "java/io/Serializable"), (0, .class_ 4), (0, u "java/lang/Object")] 2

/-- java/io/Serializable -/
def k4 : Class := { plain "java/io/Serializable" (some 0) with
  accessFlags := 1537
  interfaces := #[]
  cf := some (fileOf pool4 1 #[] #[] 1537 3 #[] #[])
  fields := #[]
  methods := #[]
  instanceTypes := #[]
  staticTypes := #[]
  resolved := Array.replicate 7 none
  statics := none }

def pool5 : Array CpInfo := pool [(2, .class_ 4), (1, u "java/lang/Enum"), (0, u "name"), (0, u "Ljava/lang/String;"), (2, u "ordinal"), (0, u "I"), (1, .class_ 14), (1, u "java/lang/Object"), (4, u "hash"), (86, .class_ 108), (1, u "java/lang/Enum$EnumDesc"), (2, .class_ 112), (0, u "java/lang/constant/Constable"), (0, .class_ 114), (0, u "java/lang/Comparable"), (0, .class_ 116), (0, u "java/io/Serializable")] 87

/-- java/lang/Enum -/
def k5 : Class := { plain "java/lang/Enum" (some 0) with
  accessFlags := 1057
  interfaces := #[2, 3, 4]
  cf := some (fileOf pool5 2 #[.nestMembers #[106]] #[] 1057 12 #[111, 113, 115] #[{ accessFlags := 18, nameIndex := 5, descriptorIndex := 6, attributes := #[] }, { accessFlags := 18, nameIndex := 9, descriptorIndex := 10, attributes := #[] }, { accessFlags := 2, nameIndex := 19, descriptorIndex := 10, attributes := #[] }])
  fields := #[{ name := "name", type := (.object "java/lang/String"), accessFlags := 18, slot := 0, constantValue := 0 }, { name := "ordinal", type := .int, accessFlags := 18, slot := 1, constantValue := 0 }, { name := "hash", type := .int, accessFlags := 2, slot := 2, constantValue := 0 }]
  methods := #[]
  instanceTypes := #[(.object "java/lang/String"), .int, .int]
  staticTypes := #[]
  resolved := Array.replicate 204 none
  statics := none }

def pool6 : Array CpInfo := pool [(1, .class_ 2), (0, u "com/example/wirelane/wirelane/broker/EventKind"), (2, u "SNAPSHOT"), (0, u "Lcom/example/wirelane/wirelane/broker/EventKind;"), (2, u "END_OF_SNAPSHOT"), (2, u "UPDATE"), (0, .fieldref 1 14), (0, .nameAndType 15 16), (0, u "$VALUES"), (0, u "[Lcom/example/wirelane/wirelane/broker/EventKind;"), (0, .methodref 18 19), (0, .class_ 16), (0, .nameAndType 20 21), (0, u "clone"), (0, u "()Ljava/lang/Object;"), (1, .class_ 25), (1, u "java/lang/Enum"), (6, .fieldref 1 33), (0, .nameAndType 34 35), (0, u "code"), (0, u "I"), (2, u "label"), (0, u "Ljava/lang/String;"), (0, .methodref 1 41), (0, .nameAndType 42 43), (0, u "values"), (0, u "()[Lcom/example/wirelane/wirelane/broker/EventKind;"), (23, u "forCode"), (0, u "(I)Lcom/example/wirelane/wirelane/broker/EventKind;")] 6

def k6c0 : Code := { maxStack := 1, maxLocals := 0, code := prog_20_method_1_code, exceptionTable := #[], attributes := #[] }
def k6m0 : Method := { name := "values", desc := "()[Lcom/example/wirelane/wirelane/broker/EventKind;", sig := { parameters := [], returnType := some (.array (.object "com/example/wirelane/wirelane/broker/EventKind")) }, accessFlags := 9, code := some k6c0 }
def k6c1 : Code := { maxStack := 2, maxLocals := 6, code := prog_20_method_6_code, exceptionTable := #[], attributes := #[] }
def k6m1 : Method := { name := "forCode", desc := "(I)Lcom/example/wirelane/wirelane/broker/EventKind;", sig := { parameters := [.int], returnType := some (.object "com/example/wirelane/wirelane/broker/EventKind") }, accessFlags := 9, code := some k6c1 }
/-- com/example/wirelane/wirelane/broker/EventKind -/
def k6 : Class := { plain "com/example/wirelane/wirelane/broker/EventKind" (some 5) with
  accessFlags := 16433
  interfaces := #[]
  cf := some (fileOf pool6 1 #[] #[{ accessFlags := 9, nameIndex := 42, descriptorIndex := 43, attributes := #[] }, { accessFlags := 9, nameIndex := 67, descriptorIndex := 68, attributes := #[] }] 16433 23 #[] #[{ accessFlags := 16409, nameIndex := 5, descriptorIndex := 6, attributes := #[] }, { accessFlags := 16409, nameIndex := 9, descriptorIndex := 6, attributes := #[] }, { accessFlags := 16409, nameIndex := 12, descriptorIndex := 6, attributes := #[] }, { accessFlags := 18, nameIndex := 34, descriptorIndex := 35, attributes := #[] }, { accessFlags := 18, nameIndex := 38, descriptorIndex := 39, attributes := #[] }, { accessFlags := 4122, nameIndex := 15, descriptorIndex := 16, attributes := #[] }])
  fields := #[{ name := "SNAPSHOT", type := (.object "com/example/wirelane/wirelane/broker/EventKind"), accessFlags := 16409, slot := 0, constantValue := 0 }, { name := "END_OF_SNAPSHOT", type := (.object "com/example/wirelane/wirelane/broker/EventKind"), accessFlags := 16409, slot := 1, constantValue := 0 }, { name := "UPDATE", type := (.object "com/example/wirelane/wirelane/broker/EventKind"), accessFlags := 16409, slot := 2, constantValue := 0 }, { name := "code", type := .int, accessFlags := 18, slot := 3, constantValue := 0 }, { name := "label", type := (.object "java/lang/String"), accessFlags := 18, slot := 4, constantValue := 0 }, { name := "$VALUES", type := (.array (.object "com/example/wirelane/wirelane/broker/EventKind")), accessFlags := 4122, slot := 3, constantValue := 0 }]
  methods := #[k6m0, k6m1]
  instanceTypes := #[(.object "java/lang/String"), .int, .int, .int, (.object "java/lang/String")]
  staticTypes := #[(.object "com/example/wirelane/wirelane/broker/EventKind"), (.object "com/example/wirelane/wirelane/broker/EventKind"), (.object "com/example/wirelane/wirelane/broker/EventKind"), (.array (.object "com/example/wirelane/wirelane/broker/EventKind"))]
  resolved := Array.replicate 75 none
  statics := some 0 }

def pool7 : Array CpInfo := pool [(1, .class_ 2), (0, u "java/lang/Cloneable"), (0, .class_ 4), (0, u "java/lang/Object")] 2

/-- java/lang/Cloneable -/
def k7 : Class := { plain "java/lang/Cloneable" (some 0) with
  accessFlags := 1537
  interfaces := #[]
  cf := some (fileOf pool7 1 #[] #[] 1537 3 #[] #[])
  fields := #[]
  methods := #[]
  instanceTypes := #[]
  staticTypes := #[]
  resolved := Array.replicate 7 none
  statics := none }

/-- the primitive byte -/
def k8 : Class := { plain "byte" none with kind := .primitive 'B', accessFlags := 0x411 }
/-- [B -/
def k9 : Class := { plain "[B" (some 0) with kind := .array 8 .byte, interfaces := #[7, 4], accessFlags := 1041 }

/-- the primitive int -/
def k10 : Class := { plain "int" none with kind := .primitive 'I', accessFlags := 0x411 }
/-- [I -/
def k11 : Class := { plain "[I" (some 0) with kind := .array 10 .int, interfaces := #[7, 4], accessFlags := 1041 }

/-- [Lcom/example/wirelane/wirelane/broker/EventKind; -/
def k12 : Class := { plain "[Lcom/example/wirelane/wirelane/broker/EventKind;" (some 0) with kind := .array 6 (.object "com/example/wirelane/wirelane/broker/EventKind"), interfaces := #[7, 4], accessFlags := 1041 }

def heap : Heap := #[{ cls := 6, slots := #[.ref 2, .ref 3, .ref 4, .ref 1], vm := .statics 6 },
  { cls := 12, slots := #[.ref 2, .ref 3, .ref 4], vm := .none },
  { cls := 6, slots := #[.null, .int 0, .int 0, .int 1, .null], vm := .none },
  { cls := 6, slots := #[.null, .int 1, .int 0, .int 2, .null], vm := .none },
  { cls := 6, slots := #[.null, .int 2, .int 0, .int 3, .null], vm := .none }]
def classes : Array Class := #[k0, k1, k2, k3, k4, k5, k6, k7, k8, k9, k10, k11, k12]
def interned : List (Array UInt16 × Addr) := []
def slotsUsed : Nat := 22
def theMethod : MethodId := ⟨1, 2⟩
def args0 : Array Value := #[.int 65, .int 3]
def aboutOver (below : List Frame) : State where
  vm := { classes := classes, interned := interned.toArray }
  heap := heap
  slotsUsed := slotsUsed
  threads := #[{ frames := .invoking theMethod args0 :: below }]
def below0 : List Frame := [.native { method := ⟨0, 0⟩, args := #[] }]
def about1 : State := aboutOver below0
def p0 : Program := .bare "" "" ""
def e0 : Env := launch0.env 0 0 0
theorem w_frames : about1.frames = Frame.invoking theMethod args0 :: below0 := rfl
set_option maxRecDepth 65536 in
theorem w_args : argsFit about1.vm theMethod args0 = true := by decide +kernel
set_option maxRecDepth 65536 in
theorem w_heap : heapFits about1 = true := by decide +kernel
set_option maxRecDepth 65536 in
theorem w_runnable : about1.curStatus? = some .runnable := by decide +kernel
set_option maxRecDepth 65536 in
theorem w_alone : about1.alone = true := by decide +kernel
set_option maxRecDepth 65536 in
theorem w_named : about1.methodNamed? x = some theMethod := by decide +kernel
set_option maxRecDepth 65536 in
theorem w_hears : about1.hears theMethod below0 = true := by decide +kernel
set_option maxRecDepth 65536 in
theorem w_ripe : about1.ripe theMethod args0 below0 = true := by decide +kernel
theorem w_running : about1.status = .running := rfl
set_option maxRecDepth 65536 in
theorem w_room : about1.hasRoom e0.platform room_1 = true :=
  launch0.hasRoom_least _ room_1 (by decide +kernel) (by decide +kernel) (by decide +kernel) (by decide +kernel) (by decide +kernel) (by decide +kernel)
theorem allAtoms_all (ts : List Jvm.Cond) (a : Array Jvm.Value) (st : Jvm.State) : (allAtoms ts).before a st = ts.all (fun c => c.before a st) := by
  induction ts with
  | nil => rfl
  | cons c t ih =>
    show (Jvm.Cond.and c (allAtoms t)).before a st = _
    rw [Jvm.Cond.before_and, ih, List.all_cons]
def words1 : List Jvm.Cond := Jvm.Cond.code x code maxLocals ret :: tables_1
/-- a 'code' word, met by the world's own term for the bytes: nothing is compared byte by byte -/
theorem code_word {y : MethodName} {bytes : ByteArray} {mx : Nat} {rt : Option FieldType} {a : Array Value} {s : State} {m : MethodId} {meth : Method} {c : Code} (h1 : s.methodNamed? y = some m) (h2 : s.vm.method? m = some meth) (h3 : meth.code = some c) (h4 : c.code = bytes)
    (h5 : (c.maxLocals == mx && c.exceptionTable.isEmpty && decide (c.maxStack ≤ mostOperands) && decide (meth.sig.returnType = rt) && !meth.locks && decide (parseMethodDescriptor y.desc = some meth.sig)) = true) : (Jvm.Cond.code y bytes mx rt).before a s = true := by
  simp only [Bool.and_eq_true, beq_iff_eq, Bool.not_eq_true', decide_eq_true_eq] at h5
  obtain ⟨⟨⟨⟨⟨g1, g2⟩, g3⟩, g4⟩, g5⟩, g6⟩ := h5
  simp [Cond.before, Cond.holds, Cond.value, h1, h2, h3, h4, g1, g2, g3, g4, g5, g6]
def isCode : Jvm.Cond → Bool
  | .code _ _ _ _ => true
  | _ => false
theorem all_split {L : List Jvm.Cond} {P : Jvm.Cond → Bool} (h1 : L.all (fun c => isCode c || P c) = true) (h2 : ∀ c ∈ L.filter isCode, P c = true) : L.all P = true := by
  refine List.all_eq_true.mpr fun c hc => ?_
  have h := List.all_eq_true.mp h1 c hc
  rcases Bool.eq_false_or_eq_true (isCode c) with hi | hi
  · exact h2 c (List.mem_filter.mpr ⟨hc, hi⟩)
  · simpa [hi] using h
set_option maxRecDepth 65536 in
theorem w_c0 : (Jvm.Cond.code x code maxLocals ret).before args0 about1 = true := code_word (m := ⟨1, 2⟩) (meth := k1m2) (c := k1c2) (by decide +kernel) rfl rfl rfl (by decide +kernel)
set_option maxRecDepth 65536 in
theorem w_c1 : (Jvm.Cond.code ({ cls := "com/example/wirelane/wirelane/broker/EventKind", name := "forCode", desc := "(I)Lcom/example/wirelane/wirelane/broker/EventKind;" } : Jvm.MethodName) prog_20_method_6_code (6 : Nat) (Option.some (Jvm.ClassFile.FieldType.object "com/example/wirelane/wirelane/broker/EventKind"))).before args0 about1 = true := code_word (m := ⟨6, 1⟩) (meth := k6m1) (c := k6c1) (by decide +kernel) rfl rfl rfl (by decide +kernel)
set_option maxRecDepth 65536 in
theorem w_c2 : (Jvm.Cond.code ({ cls := "com/example/wirelane/wirelane/broker/EventKind", name := "values", desc := "()[Lcom/example/wirelane/wirelane/broker/EventKind;" } : Jvm.MethodName) prog_20_method_1_code (0 : Nat) (Option.some (Jvm.ClassFile.FieldType.array (Jvm.ClassFile.FieldType.object "com/example/wirelane/wirelane/broker/EventKind")))).before args0 about1 = true := code_word (m := ⟨6, 0⟩) (meth := k6m0) (c := k6c0) (by decide +kernel) rfl rfl rfl (by decide +kernel)
set_option maxRecDepth 65536 in
theorem w_c3 : (Jvm.Cond.code ({ cls := "com/example/wirelane/wirelane/broker/EventKindForCodePinLaw", name := "expected", desc := "(I)Lcom/example/wirelane/wirelane/broker/EventKind;" } : Jvm.MethodName) method_2_code (1 : Nat) (Option.some (Jvm.ClassFile.FieldType.object "com/example/wirelane/wirelane/broker/EventKind"))).before args0 about1 = true := code_word (m := ⟨1, 1⟩) (meth := k1m1) (c := k1c1) (by decide +kernel) rfl rfl rfl (by decide +kernel)
def codes1 : List Jvm.Cond := [Jvm.Cond.code x code maxLocals ret, Jvm.Cond.code ({ cls := "com/example/wirelane/wirelane/broker/EventKind", name := "forCode", desc := "(I)Lcom/example/wirelane/wirelane/broker/EventKind;" } : Jvm.MethodName) prog_20_method_6_code (6 : Nat) (Option.some (Jvm.ClassFile.FieldType.object "com/example/wirelane/wirelane/broker/EventKind")), Jvm.Cond.code ({ cls := "com/example/wirelane/wirelane/broker/EventKind", name := "values", desc := "()[Lcom/example/wirelane/wirelane/broker/EventKind;" } : Jvm.MethodName) prog_20_method_1_code (0 : Nat) (Option.some (Jvm.ClassFile.FieldType.array (Jvm.ClassFile.FieldType.object "com/example/wirelane/wirelane/broker/EventKind"))), Jvm.Cond.code ({ cls := "com/example/wirelane/wirelane/broker/EventKindForCodePinLaw", name := "expected", desc := "(I)Lcom/example/wirelane/wirelane/broker/EventKind;" } : Jvm.MethodName) method_2_code (1 : Nat) (Option.some (Jvm.ClassFile.FieldType.object "com/example/wirelane/wirelane/broker/EventKind"))]
set_option maxRecDepth 65536 in
theorem codes_eq : words1.filter isCode = codes1 := rfl
theorem w_codes : ∀ c ∈ words1.filter isCode, c.before args0 about1 = true := by
  rw [codes_eq]
  intro c hc
  simp only [codes1, List.mem_cons, List.not_mem_nil, or_false] at hc
  rcases hc with rfl | rfl | rfl | rfl
  · exact w_c0
  · exact w_c1
  · exact w_c2
  · exact w_c3
set_option maxRecDepth 65536 in
theorem w_t1 : (words1.take 24).all (fun c => isCode c || c.before args0 about1) = true := by decide +kernel
set_option maxRecDepth 65536 in
theorem w_t2 : (words1.drop 24).all (fun c => isCode c || c.before args0 about1) = true := by decide +kernel
theorem w_tables : (allAtoms (Jvm.Cond.code x code maxLocals ret :: tables_1)).before args0 about1 = true := by
  rw [allAtoms_all]
  show words1.all (fun c => c.before args0 about1) = true
  refine all_split ?_ w_codes
  rw [← List.take_append_drop 24 words1, List.all_append, w_t1, w_t2]
  rfl
set_option maxRecDepth 65536 in
theorem w_case : (Jvm.Cond.and given_1 narrow_1).before args0 about1 = true := by decide +kernel
theorem w_applies : (headSpec (Jvm.Cond.code x code maxLocals ret :: tables_1) room_1).applies x e0.platform about1 = true :=
  (Spec.applies_iff w_frames).mpr ⟨w_running, w_runnable, w_alone, w_named, w_hears, w_ripe, w_room, w_tables⟩
theorem atStart : AtStart classFile x code maxLocals ret World_1 tables_1 room_1 Calls_1 rest_1 Pre_1 launch0 p0 e0 about1 theMethod args0 below0 :=
  ⟨lists_1, trivial, launch0.admits_env _ _ _, launch0.least_env, fairChoices_fair.cas, fairChoices_fair.clock, w_frames, w_args, w_heap, w_applies, trivial, trivial, w_case⟩
end start1
theorem witness_1 : WitnessClaimed_1 := ⟨start1.p0, start1.e0, start1.about1, start1.theMethod, start1.args0, start1.below0, start1.atStart⟩
end Jvm.Pilot.@@N@@
