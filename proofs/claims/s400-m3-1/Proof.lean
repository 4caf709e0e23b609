import JvmDerived
import JvmDerived.Pilot.@@N@@Statement
import JvmDerived.Pilot.@@N@@Code
set_option linter.unusedVariables false
set_option linter.unusedSimpArgs false
namespace Jvm.RoadKit
open Sem ClassFile Op Lib Jvm.Stand Jvm.Free Jvm.LawKit
section Own
variable {p : Program} {l : Launch} {e : Env} {R : Room} {s : State} {m : MethodId} {args : Array Value} {below : List Frame} {meth : Method} {c : Code} {T : State} {locs : List Loc} {cells slots : Nat} {Z : State} {a0 : Array Value} {h : Heap}
/-- from T, with g on top, this invocation comes to its return and Q holds of what it leaves -/
def own_Ends (p : Program) (e : Env) (below : List Frame) (s : State) (Q : Option Value → Heap → List Loc → Prop) (k n : Nat) (T : State) (g : JFrame) : Prop :=
  ∃ s₂ o, Steps p.tables e below (T.setTop g) s₂ ∧ s₂.status = .running ∧ Ended s₂ below o ∧ ∃ v L, o = .returned v ∧ Q v s₂.heap L ∧ FrameEnd s o s₂ L k n
theorem own_step {Q : Option Value → Heap → List Loc → Prop} {k n : Nat} {T' : State} {g g' : JFrame} (h : ∀ t, Steps p.tables e below (T'.setTop g') t → Steps p.tables e below (T.setTop g) t) (H : own_Ends p e below s Q k n T' g') : own_Ends p e below s Q k n T g := by
  obtain ⟨s₂, o, h1, r⟩ := H
  exact ⟨s₂, o, h _ h1, r⟩
theorem own_ret (X : Stand p l e R s m args below meth c T locs cells slots) {v : Option Value} (hv : meth.sig.returnType = none → v = none) (hlk : meth.locks = false) {g : JFrame} {Q : Option Value → Heap → List Loc → Prop} {k n : Nat}
    (st : ∀ fs, (∀ (f : JFrame) (acts : List Action), f.method = m → f.locked = none → f.entered = [] → (doReturn e (T.setTop f) acts v).1 = T.setFrames fs) → Steps p.tables e below (T.setTop g) (T.setFrames fs))
    (hQ : Q v T.heap locs) (hk : cells ≤ k) (hn : slots ≤ n) : own_Ends p e below s Q k n T g := by
  obtain ⟨fs, hr, hrun, hended, hW, hsame⟩ := X.leave (v := v) hv hlk
  exact ⟨_, _, st fs hr, hrun, hended, v, locs, rfl, hQ, ⟨_, rfl⟩, hW, hsame.mono hk hn⟩
theorem own_retI (X : Stand p l e R s m args below meth c T locs cells slots) (hx : p.tables.exec = Jvm.exec) (hret : meth.sig.returnType = some .int) (hlk : meth.locks = false) {pc : Nat} {Ls : Array Slot} {z : Int32} {rest : List Value} (hd : decode c.code pc = .ok (.ireturn, 1)) {Q : Option Value → Heap → List Loc → Prop} {k n : Nat}
    (hQ : Q (some (.int z)) T.heap locs) (hk : cells ≤ k) (hn : slots ≤ n) : own_Ends p e below s Q k n T (mkF m pc Ls (.int z :: rest)) :=
  own_ret X (fun q => by rw [hret] at q; cases q) hlk (fun fs hr => retOut X hx hret rfl (Or.inl ⟨rfl, Or.inl rfl, z, rfl⟩) hd hr) hQ hk hn
theorem own_retN (X : Stand p l e R s m args below meth c T locs cells slots) (hx : p.tables.exec = Jvm.exec) {t : FieldType} (hret : meth.sig.returnType = some t) (ht : t = .boolean ∨ t = .byte ∨ t = .char ∨ t = .short) (hlk : meth.locks = false) {pc : Nat} {Ls : Array Slot} {z v : Int32} {rest : List Value} (hd : decode c.code pc = .ok (.ireturn, 1)) {Q : Option Value → Heap → List Loc → Prop} {k n : Nat}
    (hv : nar t z = v) (hQ : Q (some (.int v)) T.heap locs) (hk : cells ≤ k) (hn : slots ≤ n) : own_Ends p e below s Q k n T (mkF m pc Ls (.int z :: rest)) :=
  own_ret X (v := some (.int v)) (fun q => by rw [hret] at q; cases q) hlk (fun fs hr => retN X hx hret ht hd (by rw [hv]; exact hr)) hQ hk hn
theorem own_retL (X : Stand p l e R s m args below meth c T locs cells slots) (hx : p.tables.exec = Jvm.exec) (hret : meth.sig.returnType = some .long) (hlk : meth.locks = false) {pc : Nat} {Ls : Array Slot} {z : Int64} {rest : List Value} (hd : decode c.code pc = .ok (.lreturn, 1)) {Q : Option Value → Heap → List Loc → Prop} {k n : Nat}
    (hQ : Q (some (.long z)) T.heap locs) (hk : cells ≤ k) (hn : slots ≤ n) : own_Ends p e below s Q k n T (mkF m pc Ls (.long z :: rest)) :=
  own_ret X (fun q => by rw [hret] at q; cases q) hlk (fun fs hr => retOut X hx hret rfl (Or.inr (Or.inl ⟨rfl, rfl, z, rfl⟩)) hd hr) hQ hk hn
theorem own_retA (X : Stand p l e R s m args below meth c T locs cells slots) (hx : p.tables.exec = Jvm.exec) {t : FieldType} (hret : meth.sig.returnType = some t) (ht : t.isReference = true) (hlk : meth.locks = false) {pc : Nat} {Ls : Array Slot} {z : Value} {rest : List Value} (hz : z.isRef = true) (hn0 : narrow t z = z) (hd : decode c.code pc = .ok (.areturn, 1)) {Q : Option Value → Heap → List Loc → Prop} {k n : Nat}
    (hQ : Q (some z) T.heap locs) (hk : cells ≤ k) (hn : slots ≤ n) : own_Ends p e below s Q k n T (mkF m pc Ls (z :: rest)) :=
  own_ret X (fun q => by rw [hret] at q; cases q) hlk (fun fs hr => retOut X hx hret hn0 (Or.inr (Or.inr (Or.inr (Or.inr ⟨rfl, ht, hz⟩)))) hd hr) hQ hk hn
theorem own_retV (X : Stand p l e R s m args below meth c T locs cells slots) (hx : p.tables.exec = Jvm.exec) (hret : meth.sig.returnType = none) (hlk : meth.locks = false) {pc : Nat} {Ls : Array Slot} (hd : decode c.code pc = .ok (.return_, 1)) {Q : Option Value → Heap → List Loc → Prop} {k n : Nat}
    (hQ : Q none T.heap locs) (hk : cells ≤ k) (hn : slots ≤ n) : own_Ends p e below s Q k n T (mkF m pc Ls []) :=
  own_ret X (fun _ => rfl) hlk (fun fs hr => X.returnOut hx hret hd hr) hQ hk hn
/-- a contract: called with as' over the heap h0, the method comes back and Q holds -/
def own_Met (l : Launch) (y : MethodName) (bytes : ByteArray) (maxL : Nat) (ret : Option FieldType) (ws : List Jvm.Cond) (rm : Room) (as' : Array Value) (Z : State) (h0 : Heap) (Q : Option Value → Heap → List Loc → Prop) : Prop :=
  MetFree l y (head1 (Jvm.Cond.code y bytes maxL ret :: ws) rm) (fun a U => a = as' ∧ Z.Warmed39 U.vm ∧ U.heap = h0) (fun _ _ _ _ _ => True) (fun _ U o U' => ∃ v L, o = .returned v ∧ Q v U'.heap L ∧ FrameEnd U o U' L rm.cells rm.slots)
theorem own_body {y : MethodName} {bytes : ByteArray} {maxL : Nat} {ret : Option FieldType} {ws : List Jvm.Cond} {rm : Room} {as' : Array Value} {h0 : Heap} {Q : Option Value → Heap → List Loc → Prop} (hy : plainFor y = true) {g0 : MethodId → JFrame} (ef : ∀ m, entryFrame m as' maxL = g0 m)
    (body : ∀ (p : Program) (e : Env) (s : State) (m : MethodId) (below : List Frame) (meth : Method) (c : Code) (T : State), Stand p l e rm s m as' below meth c T [] 0 0 → p.tables.exec = Jvm.exec → c.code = bytes → c.maxLocals = maxL → meth.sig.returnType = ret → meth.locks = false → meth.name = y.name → s.vm.findClass y.cls = some m.cls → Z.Warmed39 s.vm → T.heap = h0 → own_Ends p e below s Q rm.cells rm.slots T (g0 m)) :
    own_Met l y bytes maxL ret ws rm as' Z h0 Q := by
  refine MetFree.of_bodySF hy hisR ?_
  intro p e s m args below meth c s₁ Bd hml hP hK
  obtain ⟨ha, hZ, hh⟩ := hP
  subst ha
  have q := body p e s m below meth c s₁ (Stand.of_body Bd) Bd.exec Bd.bytes hml Bd.returns Bd.notSynchronized (name_of_methodNamed Bd.named Bd.method).1 (findClass_of_methodNamed Bd.named) hZ (by rw [← hh, Bd.state]; rfl)
  rw [← ef m] at q
  exact q
theorem own_callS (X : Stand p l e R s m args below meth c T locs cells slots) (hx : p.tables.exec = Jvm.exec) (hZ : Z.Warmed39 s.vm) {own : String} {index : Nat} {y : MethodName} {bytes : ByteArray} {maxL : Nat} {ret : Option FieldType}
    (hown : s.vm.findClass own = some m.cls) (wl : (Jvm.Cond.methodLink own index y).before a0 Z = true) (wst : (Jvm.Cond.static y).before a0 Z = true) (wi : (Jvm.Cond.initialized y.cls).before a0 Z = true) (wc : (Jvm.Cond.code y bytes maxL ret).before a0 Z = true)
    (hy : y.cls ≠ "java/lang/invoke/MethodHandle" ∧ y.cls ≠ "java/lang/invoke/VarHandle") {rm : Room} {as' : Array Value} {Qc : Option Value → Heap → List Loc → Prop} (hM : own_Met l y bytes maxL ret [] rm as' Z h Qc) (eT : T.heap = h) (W : Nat)
    (hf : rm.frames + 1 ≤ R.frames) (hlo : W + (maxL + 11) + rm.locals ≤ R.locals) (hcl : cells + rm.cells ≤ R.cells) (hsl : slots + rm.slots ≤ R.slots)
    {g : JFrame} (hg : g.method = m) (hsize : g.locals.size = c.maxLocals) (argsL rest : List Value) {ps : List FieldType} {r : Option FieldType} (hpd : parseMethodDescriptor y.desc = some ⟨ps, r⟩) (hlen : argsL.length = ps.length) (has : argsL.toArray = as')
    (hstack : g.stack = argsL.reverse ++ rest) (hW : 2 * g.monitorRoom + (rest.map fun v => v.category).sum ≤ W) (hdg : decode c.code g.pc = .ok (.invokestatic index, 3)) {Q : Option Value → Heap → List Loc → Prop} {k n : Nat}
    (cont : ∀ v T' L, Stand p l e R s m args below meth c T' (locs ++ L) (cells + rm.cells) (slots + rm.slots) → Qc v T'.heap L → own_Ends p e below s Q k n T' { g with pc := g.pc + 3, stack := v.toList ++ rest }) : own_Ends p e below s Q k n T g := by
  obtain ⟨v, _, ⟨T2, L2, k2, n2⟩, -, X2, ⟨Lc, hQ, l2, y2, z2⟩, st⟩ := Jvm.LawKit.callS X hx (y := y) hown (mvT hZ wl) (mvT hZ wst) (mvT hZ wi) (mvT hZ wc) hy (backOf (W := W) hM hZ wc wi hf hlo) hg hsize (argsL := argsL) (rest := rest) (lenOf hpd hlen) hstack hW hdg (fun _ _ => ⟨has, eT, hcl, hsl⟩)
  dsimp only [Pt.U, Pt.locs, Pt.cells, Pt.slots] at X2 l2 y2 z2 st hQ
  subst l2 y2 z2
  exact own_step st (cont v T2 Lc X2 hQ)
theorem own_callV (X : Stand p l e R s m args below meth c T locs cells slots) (hx : p.tables.exec = Jvm.exec) (hZ : Z.Warmed39 s.vm) {own C : String} {index : Nat} {y z : MethodName} {bytes : ByteArray} {maxL : Nat} {ret : Option FieldType}
    (hown : s.vm.findClass own = some m.cls) (wl : (Jvm.Cond.methodLink own index y).before a0 Z = true) (wd : (Jvm.Cond.declares y).before a0 Z = true) (wf : (Jvm.Cond.selects y.cls y y).before a0 Z = true) (ws : (Jvm.Cond.selects C y z).before a0 Z = true) (wm : (Jvm.Cond.instanceMethod z).before a0 Z = true) (wi : (Jvm.Cond.initialized z.cls).before a0 Z = true) (wc : (Jvm.Cond.code z bytes maxL ret).before a0 Z = true)
    (hy : y.cls ≠ "java/lang/invoke/MethodHandle" ∧ y.cls ≠ "java/lang/invoke/VarHandle") {rm : Room} {as' : Array Value} {Qc : Option Value → Heap → List Loc → Prop} (hM : own_Met l z bytes maxL ret [] rm as' Z h Qc) (eT : T.heap = h) {b : Addr} (hE : Exa Z h b C) (W : Nat)
    (hf : rm.frames + 1 ≤ R.frames) (hlo : W + (maxL + 11) + rm.locals ≤ R.locals) (hcl : cells + rm.cells ≤ R.cells) (hsl : slots + rm.slots ≤ R.slots)
    {g : JFrame} (hg : g.method = m) (hsize : g.locals.size = c.maxLocals) (argsL rest : List Value) {ps : List FieldType} {r : Option FieldType} (hpd : parseMethodDescriptor y.desc = some ⟨ps, r⟩) (hlen : argsL.length = ps.length) (has : (Value.ref b :: argsL).toArray = as')
    (hstack : g.stack = argsL.reverse ++ .ref b :: rest) (hW : 2 * g.monitorRoom + (rest.map fun v => v.category).sum ≤ W) (hdg : decode c.code g.pc = .ok (.invokevirtual index, 3)) {Q : Option Value → Heap → List Loc → Prop} {k n : Nat}
    (cont : ∀ v T' L, Stand p l e R s m args below meth c T' (locs ++ L) (cells + rm.cells) (slots + rm.slots) → Qc v T'.heap L → own_Ends p e below s Q k n T' { g with pc := g.pc + 3, stack := v.toList ++ rest }) : own_Ends p e below s Q k n T g := by
  obtain ⟨cq, kq, q1, q2, q3⟩ := isOf hZ eT hE
  obtain ⟨v, _, ⟨T2, L2, k2, n2⟩, -, X2, ⟨Lc, hQ, l2, y2, z2⟩, st⟩ := X.virtualBack hx (y := y) (z := z) hown (mvT hZ wl) (mvT hZ wd) (notFace_of_selects (args := #[]) (mvT hZ wf)) (mvT hZ ws) (mvT hZ wm) hy (backOf (W := W) hM hZ wc wi hf hlo) q1 q3 hg hsize (Steps.refl _) (argsL := argsL) (rest := rest) (lenOf hpd hlen) hstack hW hdg (fun _ _ => ⟨has, eT, hcl, hsl⟩)
  dsimp only [Pt.U, Pt.locs, Pt.cells, Pt.slots] at X2 l2 y2 z2 st hQ
  subst l2 y2 z2
  exact own_step (fun _ k => st.trans k) (cont v T2 Lc X2 hQ)
theorem own_callC (X : Stand p l e R s m args below meth c T locs cells slots) (hx : p.tables.exec = Jvm.exec) (hZ : Z.Warmed39 s.vm) {own : String} {index : Nat} {y : MethodName} {bytes : ByteArray} {maxL : Nat} (hy1 : y.name = "<init>")
    (hown : s.vm.findClass own = some m.cls) (wl : (Jvm.Cond.methodLink own index y).before a0 Z = true) (wm : (Jvm.Cond.instanceMethod y).before a0 Z = true) (wi : (Jvm.Cond.initialized y.cls).before a0 Z = true) (wc : (Jvm.Cond.code y bytes maxL none).before a0 Z = true)
    (hy : y.cls ≠ "java/lang/invoke/MethodHandle" ∧ y.cls ≠ "java/lang/invoke/VarHandle") {rm : Room} {as' : Array Value} {Qc : Option Value → Heap → List Loc → Prop} (hM : own_Met l y bytes maxL none [] rm as' Z h Qc) (eT : T.heap = h) {b : Addr} (W : Nat)
    (hf : rm.frames + 1 ≤ R.frames) (hlo : W + (maxL + 11) + rm.locals ≤ R.locals) (hcl : cells + rm.cells ≤ R.cells) (hsl : slots + rm.slots ≤ R.slots)
    {g : JFrame} (hg : g.method = m) (hsize : g.locals.size = c.maxLocals) (argsL rest : List Value) {ps : List FieldType} {r : Option FieldType} (hpd : parseMethodDescriptor y.desc = some ⟨ps, r⟩) (hlen : argsL.length = ps.length) (has : (Value.ref b :: argsL).toArray = as')
    (hstack : g.stack = argsL.reverse ++ .ref b :: rest) (hW : 2 * g.monitorRoom + (rest.map fun v => v.category).sum ≤ W) (hdg : decode c.code g.pc = .ok (.invokespecial index, 3)) {Q : Option Value → Heap → List Loc → Prop} {k n : Nat}
    (cont : ∀ v T' L, Stand p l e R s m args below meth c T' (locs ++ L) (cells + rm.cells) (slots + rm.slots) → Qc v T'.heap L → own_Ends p e below s Q k n T' { g with pc := g.pc + 3, stack := v.toList ++ rest }) : own_Ends p e below s Q k n T g := by
  obtain ⟨v, _, ⟨T2, L2, k2, n2⟩, -, X2, ⟨Lc, hQ, l2, y2, z2⟩, st⟩ := X.specialBack hx (y := y) hy1 hown (mvT hZ wl) (mvT hZ wm) (mvT hZ wc) hy (backOf (W := W) hM hZ wc wi hf hlo) hg hsize (Steps.refl _) (a := b) (argsL := argsL) (rest := rest) (lenOf hpd hlen) hstack hW hdg (fun _ _ => ⟨has, eT, hcl, hsl⟩)
  dsimp only [Pt.U, Pt.locs, Pt.cells, Pt.slots] at X2 l2 y2 z2 st hQ
  subst l2 y2 z2
  exact own_step (fun _ k => st.trans k) (cont v T2 Lc X2 hQ)
/-! arrays by their lists -/
variable {a b : Addr} {kA : ClassId} {ty : FieldType} {z : Int32} {vs : List Value} {dv : Value}
theorem own_newA (X : Stand p l e R s m args below meth c T locs cells slots) (hx : p.tables.exec = Jvm.exec) (hZ : Z.Warmed39 s.vm) {aty : ArrayType} (w : (Jvm.Cond.arrayClass (newarray.typeOf aty)).before a0 Z = true) (eT : T.heap = h) {g : JFrame} (hg : g.method = m) (hd : decode c.code g.pc = .ok (.newarray aty, 2)) {n : Int32} {rest : List Value} (hs : g.stack = .int n :: rest)
    (hn : ¬ n < 0) {cap : Nat} (hcap : n.toNatClampNeg ≤ cap) (hb : cap * 8 ≤ 536870912) (hc : cells + 1 ≤ R.cells) (hl : slots + cap ≤ R.slots) :
    ∃ T' h' cA b, b = h.size ∧ Stand p l e R s m args below meth c T' locs (cells + 1) (slots + cap) ∧ T'.heap = h' ∧ Ext h h' ∧ Arv Z h' b cA (newarray.typeOf aty) n (List.replicate cap (defaultValue (newarray.typeOf aty))) (defaultValue (newarray.typeOf aty)) ∧
      ∀ target, Steps p.tables e below (T'.setTop { g with pc := g.pc + 2, stack := .ref b :: rest }) target → Steps p.tables e below (T.setTop g) target := by
  obtain ⟨T', h', cA, X', e', E, A, st⟩ := newP X hx hZ w eT hg hd hs hn hcap hb hc hl
  exact ⟨T', h', cA, _, rfl, X', e', E, (Arv.new A hn).pad (pad_rep [] _ cap), st⟩
theorem own_stB (X : Stand p l e R s m args below meth c T locs cells slots) (hx : p.tables.exec = Jvm.exec) (hZ : Z.Warmed39 s.vm) (eT : T.heap = h) (V : Arv Z h a kA .byte z vs dv) {j x : Int32} (hj : ¬ j < 0 ∧ j < z) (i : Nat) (hi : j.toNatClampNeg = i) (hl : i < vs.length) {g : JFrame} (hg : g.method = m) {rest : List Value} (hs : g.stack = .int x :: .int j :: .ref a :: rest) (hd : decode c.code g.pc = .ok (.bastore, 1)) :
    ∃ T' h' L, Stand p l e R s m args below meth c T' (locs ++ [⟨a, L⟩]) cells slots ∧ T'.heap = h' ∧ Wr h h' a L (.int x.toInt8.toInt32) ∧ Arv Z h' a kA .byte z (vs.set i (.int x.toInt8.toInt32)) dv ∧ ∀ target, Steps p.tables e below (T'.setTop { g with pc := g.pc + 1, stack := rest }) target → Steps p.tables e below (T.setTop g) target := by
  obtain ⟨cl, Ar, q, S, N, H, G⟩ := V
  obtain ⟨T', h', X', e', W, st⟩ := stB X hx hZ eT Ar (inb_of S hj) hg hs hd
  exact ⟨T', h', _, X', e', W, Arv.set Ar q S N H G (fits_nar_byte _) W i hi hl, st⟩
theorem own_stZ (X : Stand p l e R s m args below meth c T locs cells slots) (hx : p.tables.exec = Jvm.exec) (hZ : Z.Warmed39 s.vm) (eT : T.heap = h) (V : Arv Z h a kA .boolean z vs dv) {j x : Int32} (hj : ¬ j < 0 ∧ j < z) (i : Nat) (hi : j.toNatClampNeg = i) (hl : i < vs.length) {g : JFrame} (hg : g.method = m) {rest : List Value} (hs : g.stack = .int x :: .int j :: .ref a :: rest) (hd : decode c.code g.pc = .ok (.bastore, 1)) :
    ∃ T' h' L, Stand p l e R s m args below meth c T' (locs ++ [⟨a, L⟩]) cells slots ∧ T'.heap = h' ∧ Wr h h' a L (.int (nar .boolean x)) ∧ Arv Z h' a kA .boolean z (vs.set i (.int (nar .boolean x))) dv ∧ ∀ target, Steps p.tables e below (T'.setTop { g with pc := g.pc + 1, stack := rest }) target → Steps p.tables e below (T.setTop g) target := by
  obtain ⟨cl, Ar, q, S, N, H, G⟩ := V
  obtain ⟨T', h', X', e', W, st⟩ := stZ X hx hZ eT Ar (inb_of S hj) hg hs hd
  exact ⟨T', h', _, X', e', W, Arv.set Ar q S N H G (fits_nar_bool _) W i hi hl, st⟩
theorem own_stC (X : Stand p l e R s m args below meth c T locs cells slots) (hx : p.tables.exec = Jvm.exec) (hZ : Z.Warmed39 s.vm) (eT : T.heap = h) (V : Arv Z h a kA .char z vs dv) {j x : Int32} (hj : ¬ j < 0 ∧ j < z) (i : Nat) (hi : j.toNatClampNeg = i) (hl : i < vs.length) {g : JFrame} (hg : g.method = m) {rest : List Value} (hs : g.stack = .int x :: .int j :: .ref a :: rest) (hd : decode c.code g.pc = .ok (.castore, 1)) :
    ∃ T' h' L, Stand p l e R s m args below meth c T' (locs ++ [⟨a, L⟩]) cells slots ∧ T'.heap = h' ∧ Wr h h' a L (.int (nar .char x)) ∧ Arv Z h' a kA .char z (vs.set i (.int (nar .char x))) dv ∧ ∀ target, Steps p.tables e below (T'.setTop { g with pc := g.pc + 1, stack := rest }) target → Steps p.tables e below (T.setTop g) target := by
  obtain ⟨cl, Ar, q, S, N, H, G⟩ := V
  obtain ⟨T', h', X', e', W, st⟩ := stC X hx hZ eT Ar (inb_of S hj) hg hs hd
  exact ⟨T', h', _, X', e', W, Arv.set Ar q S N H G (fits_nar_char _) W i hi hl, st⟩
theorem own_stI (X : Stand p l e R s m args below meth c T locs cells slots) (hx : p.tables.exec = Jvm.exec) (hZ : Z.Warmed39 s.vm) (eT : T.heap = h) (V : Arv Z h a kA .int z vs dv) {j x : Int32} (hj : ¬ j < 0 ∧ j < z) (i : Nat) (hi : j.toNatClampNeg = i) (hl : i < vs.length) {g : JFrame} (hg : g.method = m) {rest : List Value} (hs : g.stack = .int x :: .int j :: .ref a :: rest) (hd : decode c.code g.pc = .ok (.iastore, 1)) :
    ∃ T' h' L, Stand p l e R s m args below meth c T' (locs ++ [⟨a, L⟩]) cells slots ∧ T'.heap = h' ∧ Wr h h' a L (.int x) ∧ Arv Z h' a kA .int z (vs.set i (.int x)) dv ∧ ∀ target, Steps p.tables e below (T'.setTop { g with pc := g.pc + 1, stack := rest }) target → Steps p.tables e below (T.setTop g) target := by
  obtain ⟨cl, Ar, q, S, N, H, G⟩ := V
  obtain ⟨T', h', X', e', W, st⟩ := stI X hx hZ eT Ar (inb_of S hj) hg hs hd
  exact ⟨T', h', _, X', e', W, Arv.set Ar q S N H G rfl W i hi hl, st⟩
theorem own_stJ (X : Stand p l e R s m args below meth c T locs cells slots) (hx : p.tables.exec = Jvm.exec) (hZ : Z.Warmed39 s.vm) (eT : T.heap = h) (V : Arv Z h a kA .long z vs dv) {j : Int32} {x : Int64} (hj : ¬ j < 0 ∧ j < z) (i : Nat) (hi : j.toNatClampNeg = i) (hl : i < vs.length) {g : JFrame} (hg : g.method = m) {rest : List Value} (hs : g.stack = .long x :: .int j :: .ref a :: rest) (hd : decode c.code g.pc = .ok (.lastore, 1)) :
    ∃ T' h' L, Stand p l e R s m args below meth c T' (locs ++ [⟨a, L⟩]) cells slots ∧ T'.heap = h' ∧ Wr h h' a L (.long x) ∧ Arv Z h' a kA .long z (vs.set i (.long x)) dv ∧ ∀ target, Steps p.tables e below (T'.setTop { g with pc := g.pc + 1, stack := rest }) target → Steps p.tables e below (T.setTop g) target := by
  obtain ⟨cl, Ar, q, S, N, H, G⟩ := V
  obtain ⟨T', h', X', e', W, st⟩ := stJ X hx hZ eT Ar (inb_of S hj) hg hs hd
  exact ⟨T', h', _, X', e', W, Arv.set Ar q S N H G rfl W i hi hl, st⟩
theorem own_ldB (X : Stand p l e R s m args below meth c T locs cells slots) (hx : p.tables.exec = Jvm.exec) (hZ : Z.Warmed39 s.vm) (eT : T.heap = h) (V : Arv Z h a kA .byte z vs dv) {j : Int32} {v : Value} (hj : ¬ j < 0 ∧ j < z) (hv : vs.getD j.toNatClampNeg dv = v) {g : JFrame} (hg : g.method = m) {rest : List Value} (hs : g.stack = .int j :: .ref a :: rest) (hd : decode c.code g.pc = .ok (.baload, 1)) :
    ∀ t, Steps p.tables e below (T.setTop { g with pc := g.pc + 1, stack := v :: rest }) t → Steps p.tables e below (T.setTop g) t := by
  obtain ⟨cl, Ar, q, S, N, H, G⟩ := V
  exact fun t k => X.baloadBytes hx (by rw [eT]; exact Ar.1) (State.isArrayOf_alike hZ.alike Ar.2.1) Ar.2.2 (inb_of S hj) (Has.at H (inb_of S hj) hv) hg hs hd _ k
theorem own_ldZ (X : Stand p l e R s m args below meth c T locs cells slots) (hx : p.tables.exec = Jvm.exec) (hZ : Z.Warmed39 s.vm) (eT : T.heap = h) (V : Arv Z h a kA .boolean z vs dv) {j : Int32} {v : Value} (hj : ¬ j < 0 ∧ j < z) (hv : vs.getD j.toNatClampNeg dv = v) {g : JFrame} (hg : g.method = m) {rest : List Value} (hs : g.stack = .int j :: .ref a :: rest) (hd : decode c.code g.pc = .ok (.baload, 1)) :
    ∀ t, Steps p.tables e below (T.setTop { g with pc := g.pc + 1, stack := v :: rest }) t → Steps p.tables e below (T.setTop g) t := by
  obtain ⟨cl, Ar, q, S, N, H, G⟩ := V
  exact fun t k => X.baloadBooleans hx (by rw [eT]; exact Ar.1) (State.isArrayOf_alike hZ.alike Ar.2.1) Ar.2.2 (inb_of S hj) (Has.at H (inb_of S hj) hv) hg hs hd _ k
theorem own_ldC (X : Stand p l e R s m args below meth c T locs cells slots) (hx : p.tables.exec = Jvm.exec) (hZ : Z.Warmed39 s.vm) (eT : T.heap = h) (V : Arv Z h a kA .char z vs dv) {j : Int32} {v : Value} (hj : ¬ j < 0 ∧ j < z) (hv : vs.getD j.toNatClampNeg dv = v) {g : JFrame} (hg : g.method = m) {rest : List Value} (hs : g.stack = .int j :: .ref a :: rest) (hd : decode c.code g.pc = .ok (.caload, 1)) :
    ∀ t, Steps p.tables e below (T.setTop { g with pc := g.pc + 1, stack := v :: rest }) t → Steps p.tables e below (T.setTop g) t := by
  obtain ⟨cl, Ar, q, S, N, H, G⟩ := V
  exact fun t k => X.caload hx (by rw [eT]; exact Ar.1) (State.isArrayOf_alike hZ.alike Ar.2.1) Ar.2.2 (inb_of S hj) (Has.at H (inb_of S hj) hv) hg hs hd _ k
theorem own_ldI (X : Stand p l e R s m args below meth c T locs cells slots) (hx : p.tables.exec = Jvm.exec) (hZ : Z.Warmed39 s.vm) (eT : T.heap = h) (V : Arv Z h a kA .int z vs dv) {j : Int32} {v : Value} (hj : ¬ j < 0 ∧ j < z) (hv : vs.getD j.toNatClampNeg dv = v) {g : JFrame} (hg : g.method = m) {rest : List Value} (hs : g.stack = .int j :: .ref a :: rest) (hd : decode c.code g.pc = .ok (.iaload, 1)) :
    ∀ t, Steps p.tables e below (T.setTop { g with pc := g.pc + 1, stack := v :: rest }) t → Steps p.tables e below (T.setTop g) t := by
  obtain ⟨cl, Ar, q, S, N, H, G⟩ := V
  exact fun t k => X.iaload hx (by rw [eT]; exact Ar.1) (State.isArrayOf_alike hZ.alike Ar.2.1) Ar.2.2 (inb_of S hj) (Has.at H (inb_of S hj) hv) hg hs hd _ k
theorem own_ldJ (X : Stand p l e R s m args below meth c T locs cells slots) (hx : p.tables.exec = Jvm.exec) (hZ : Z.Warmed39 s.vm) (eT : T.heap = h) (V : Arv Z h a kA .long z vs dv) {j : Int32} {v : Value} (hj : ¬ j < 0 ∧ j < z) (hv : vs.getD j.toNatClampNeg dv = v) {g : JFrame} (hg : g.method = m) {rest : List Value} (hs : g.stack = .int j :: .ref a :: rest) (hd : decode c.code g.pc = .ok (.laload, 1)) :
    ∀ t, Steps p.tables e below (T.setTop { g with pc := g.pc + 1, stack := v :: rest }) t → Steps p.tables e below (T.setTop g) t := by
  obtain ⟨cl, Ar, q, S, N, H, G⟩ := V
  exact fun t k => X.laload hx (by rw [eT]; exact Ar.1) (State.isArrayOf_alike hZ.alike Ar.2.1) Ar.2.2 (inb_of S hj) (Has.at H (inb_of S hj) hv) hg hs hd _ k
theorem own_ldA (X : Stand p l e R s m args below meth c T locs cells slots) (hx : p.tables.exec = Jvm.exec) (hZ : Z.Warmed39 s.vm) (eT : T.heap = h) (V : Arv Z h a kA ty z vs dv) (hty : ty.isReference = true) {j : Int32} {v : Value} (hj : ¬ j < 0 ∧ j < z) (hv : vs.getD j.toNatClampNeg dv = v) {g : JFrame} (hg : g.method = m) {rest : List Value} (hs : g.stack = .int j :: .ref a :: rest) (hd : decode c.code g.pc = .ok (.aaload, 1)) :
    ∀ t, Steps p.tables e below (T.setTop { g with pc := g.pc + 1, stack := v :: rest }) t → Steps p.tables e below (T.setTop g) t := by
  obtain ⟨cl, Ar, q, S, N, H, G⟩ := V
  exact fun t k => X.aaload hx (by rw [eT]; exact Ar.1) (State.isArrayOf_alike hZ.alike Ar.2.1) hty Ar.2.2 (inb_of S hj) (Has.at H (inb_of S hj) hv) hg hs hd _ k
theorem own_len (X : Stand p l e R s m args below meth c T locs cells slots) (hx : p.tables.exec = Jvm.exec) (hZ : Z.Warmed39 s.vm) (eT : T.heap = h) (V : Arv Z h a kA ty z vs dv) {g : JFrame} (hg : g.method = m) {rest : List Value} (hs : g.stack = .ref a :: rest) (hd : decode c.code g.pc = .ok (.arraylength, 1)) :
    ∀ t, Steps p.tables e below (T.setTop { g with pc := g.pc + 1, stack := .int z :: rest }) t → Steps p.tables e below (T.setTop g) t := by
  obtain ⟨cl, Ar, q, S, N, H, G⟩ := V
  refine fun t k => X.arraylength hx (by rw [eT]; exact Ar.1) (State.isArrayOf_alike hZ.alike Ar.2.1) hg hs hd _ ?_
  rw [len_of S N]; exact k
theorem own_newR (X : Stand p l e R s m args below meth c T locs cells slots) (hx : p.tables.exec = Jvm.exec) (hZ : Z.Warmed39 s.vm) {own C : String} {index : Nat} (hown : s.vm.findClass own = some m.cls) (w1 : (Jvm.Cond.classLink own index C).before a0 Z = true) (w2 : (Jvm.Cond.arrayOver (.object C)).before a0 Z = true)
    (eT : T.heap = h) {g : JFrame} (hg : g.method = m) (hd : decode c.code g.pc = .ok (.anewarray index, 3)) {n : Int32} {rest : List Value} (hs : g.stack = .int n :: rest) (hn : ¬ n < 0) {cap : Nat} (hcap : n.toNatClampNeg ≤ cap) (hb : cap * 8 ≤ 536870912) (hc : cells + 1 ≤ R.cells) (hl : slots + cap ≤ R.slots) :
    ∃ T' h' cA b, b = h.size ∧ Stand p l e R s m args below meth c T' locs (cells + 1) (slots + cap) ∧ T'.heap = h' ∧ Ext h h' ∧ Arv Z h' b cA (.object C) n (List.replicate cap .null) .null ∧ Ovr Z cA C ∧
      ∀ target, Steps p.tables e below (T'.setTop { g with pc := g.pc + 3, stack := .ref b :: rest }) target → Steps p.tables e below (T.setTop g) target := by
  obtain ⟨T', h', cA, X', e', E, A, O, st⟩ := newR X hx hZ hown w1 w2 eT hg hd hs hn hcap hb hc hl
  exact ⟨T', h', cA, _, rfl, X', e', E, (Arv.new A hn).pad (pad_rep [] _ cap), O, st⟩
theorem own_stA (X : Stand p l e R s m args below meth c T locs cells slots) (hx : p.tables.exec = Jvm.exec) (hZ : Z.Warmed39 s.vm) (eT : T.heap = h) {C : String} {y : Addr} (V : Arv Z h a kA (.object C) z vs dv) (O : Ovr Z kA C) (I : Ins Z h y C true) {j : Int32} (hj : ¬ j < 0 ∧ j < z) (i : Nat) (hi : j.toNatClampNeg = i) (hl : i < vs.length) {g : JFrame} (hg : g.method = m) {rest : List Value} (hs : g.stack = .ref y :: .int j :: .ref a :: rest) (hd : decode c.code g.pc = .ok (.aastore, 1)) :
    ∃ T' h' L, Stand p l e R s m args below meth c T' (locs ++ [⟨a, L⟩]) cells slots ∧ T'.heap = h' ∧ Wr h h' a L (.ref y) ∧ Arv Z h' a kA (.object C) z (vs.set i (.ref y)) dv ∧ ∀ target, Steps p.tables e below (T'.setTop { g with pc := g.pc + 1, stack := rest }) target → Steps p.tables e below (T.setTop g) target := by
  obtain ⟨cl, Ar, q, S, N, H, G⟩ := V
  obtain ⟨T', h', X', e', W, st⟩ := stR X hx hZ eT Ar (inb_of S hj) rfl (Sto.ofV Ar q O I) hg hs hd
  exact ⟨T', h', _, X', e', W, Arv.set Ar q S N H G rfl W i hi hl, st⟩
/-! what the case's words say of statics -/
theorem own_eqI {t : Term} {n : Int32} {args : Array Value} {s : State} (q : (Jvm.Cond.eq t (.int n)).value args s none s [] = some true) : t.eval args s none [] s = some (.int n) := by
  cases ht : t.eval args s none [] s with
  | none => simp [Jvm.Cond.value, ht] at q
  | some v => cases v <;> simp [Jvm.Cond.value, ht, Term.eval, Value.isRef] at q ⊢ <;> exact q
theorem own_eqJ {t : Term} {n : Int64} {args : Array Value} {s : State} (q : (Jvm.Cond.eq t (.long n)).value args s none s [] = some true) : t.eval args s none [] s = some (.long n) := by
  cases ht : t.eval args s none [] s with
  | none => simp [Jvm.Cond.value, ht] at q
  | some v => cases v <;> simp [Jvm.Cond.value, ht, Term.eval, Value.isRef] at q ⊢ <;> exact q
theorem own_eqR {t u : Term} {x : Addr} {args : Array Value} {s : State} (hu : u.eval args s none [] s = some (.ref x)) (q : (Jvm.Cond.eq t u).value args s none s [] = some true) : t.eval args s none [] s = some (.ref x) := by
  cases ht : t.eval args s none [] s with
  | none => simp [Jvm.Cond.value, ht] at q
  | some v => cases v <;> simp [Jvm.Cond.value, ht, hu, Value.isRef] at q ⊢ <;> exact q
theorem own_lenT {t : Term} {a : Addr} {cl : Cell} {ty : FieldType} {z : Int32} {args : Array Value} {s : State} (ht : t.eval args s none [] s = some (.ref a)) (A : Arr s s.heap a cl ty) (q : (Term.length t).eval args s none [] s = some (.int z)) : cl.slots.size < 2 ^ 31 ∧ cl.slots.size.toInt32 = z := by
  have ha : s.arrayAt? a = some cl := Arr.fin (Vm.Alike.refl _) A
  by_cases hl : cl.slots.size < 2 ^ 31
  · rw [len_f ht ha hl] at q; cases q; exact ⟨hl, rfl⟩
  · simp [Term.eval, ht, ha, hl] at q
end Own
end Jvm.RoadKit
namespace Jvm.Pilot.@@N@@
open Jvm Jvm.ClassFile Sem Op Lib Jvm.Free Jvm.Stand Jvm.LawKit Jvm.RoadKit Bundle Jvm.Pilot.@@N@@.Jvm.D
theorem own_leafI {x y : Int32} (q : y = x) : some (Value.int x) = some (.int y) := by rw [q]
theorem own_leafJ {x y : Int64} (q : y = x) : some (Value.long x) = some (.long y) := by rw [q]
theorem d2_0 : decode jdk_29_method_70_code 0 = .ok (.lload_n 0, 1) := by decide +kernel
theorem d2_1 : decode jdk_29_method_70_code 1 = .ok (.lload_n 2, 1) := by decide +kernel
theorem d2_2 : decode jdk_29_method_70_code 2 = .ok (.lcmp, 1) := by decide +kernel
theorem d2_3 : decode jdk_29_method_70_code 3 = .ok (.ifCond .gt 7, 3) := by decide +kernel
theorem d2_6 : decode jdk_29_method_70_code 6 = .ok (.lload_n 0, 1) := by decide +kernel
theorem d2_7 : decode jdk_29_method_70_code 7 = .ok (.goto 4, 3) := by decide +kernel
theorem d2_10 : decode jdk_29_method_70_code 10 = .ok (.lload_n 2, 1) := by decide +kernel
theorem d2_11 : decode jdk_29_method_70_code 11 = .ok (.lreturn, 1) := by decide +kernel
theorem ef_2 (q1 : Int64) (q2 : Int64) (m : MethodId) : entryFrame m #[(.long q1), (.long q2)] 4 = mkF m 0 #[.val (.long q1), .second, .val (.long q2), .second] [] := by first | (simp [entryFrame, mkF, argsToLocals, Value.category]; done) | rfl
def own_f2 (q1 : Int64) (q2 : Int64) : Int64 := (if q2 < q1 then q2 else q1)
set_option maxRecDepth 65536 in
set_option maxHeartbeats 40000000 in
theorem rm2 (l : Launch) (Z : State) (a0 : Array Value) (hw : ∀ d ∈ tables_1, d.before a0 Z = true) (ws : List Jvm.Cond) (q1 : Int64) (q2 : Int64) (h0 : Heap) (n0 : Nat) (Z0 : n0 ≤ h0.size) :
    own_Met l (⟨"java/lang/Math", "min", "(JJ)J"⟩ : MethodName) jdk_29_method_70_code 4 (some .long) ws ({ frames := 0, cells := 0, slots := 0, locals := 0 } : Room) #[(.long q1), (.long q2)] Z h0 (fun v h L => v = some (.long (own_f2 q1 q2)) ∧ Fr n0 L ∧ h = h0) := by
  refine own_body (Jvm.Free.JP.mathPlain rfl (by decide +kernel)) (ef_2 q1 q2) ?_
  intro p e s m below meth c T0 X0 hx hby hml0 hret hlk hnm hown hZ e0
  have hml : c.maxLocals = 4 := hml0
  have N0 := Fr.nil n0
  refine own_step (fun _ k => XS.lloadN X0.here hx rfl (hb hby d2_0) rfl k) ?_
  show own_Ends _ _ _ _ _ _ _ T0 (mkF m 1 #[.val (.long q1), .second, .val (.long q2), .second] [(.long q1)])
  refine own_step (fun _ k => XS.lloadN X0.here hx rfl (hb hby d2_1) rfl k) ?_
  show own_Ends _ _ _ _ _ _ _ T0 (mkF m 2 #[.val (.long q1), .second, .val (.long q2), .second] [(.long q2), (.long q1)])
  refine own_step (fun _ k => XS.lcmp X0.here hx rfl (hb hby d2_2) rfl k) ?_
  show own_Ends _ _ _ _ _ _ _ T0 (mkF m 3 #[.val (.long q1), .second, .val (.long q2), .second] [(.int (lcmpW q1 q2))])
  by_cases hc1 : q2 < q1
  · refine own_step (fun _ k => XS.ifYes X0.here hx rfl (pc0 := 3) (pc' := 10) rfl (hb hby d2_3) rfl ((if0 _ _).trans (tlt ((lw_gt q1 q2).mpr hc1)).2.2.1) (by decide) (by decide) k) ?_
    show own_Ends _ _ _ _ _ _ _ T0 (mkF m 10 #[.val (.long q1), .second, .val (.long q2), .second] [])
    refine own_step (fun _ k => XS.lloadN X0.here hx rfl (hb hby d2_10) rfl k) ?_
    show own_Ends _ _ _ _ _ _ _ T0 (mkF m 11 #[.val (.long q1), .second, .val (.long q2), .second] [(.long q2)])
    exact own_retL X0 hx hret hlk (hb hby d2_11) ⟨own_leafJ (if_pos hc1), N0, e0⟩ (by decide) (by decide)
  · refine own_step (fun _ k => XS.ifNo X0.here hx rfl (hb hby d2_3) rfl ((if0 _ _).trans (flt (fun q => hc1 ((lw_gt q1 q2).mp q))).2.2.1) k) ?_
    show own_Ends _ _ _ _ _ _ _ T0 (mkF m 6 #[.val (.long q1), .second, .val (.long q2), .second] [])
    refine own_step (fun _ k => XS.lloadN X0.here hx rfl (hb hby d2_6) rfl k) ?_
    show own_Ends _ _ _ _ _ _ _ T0 (mkF m 7 #[.val (.long q1), .second, .val (.long q2), .second] [(.long q1)])
    refine own_step (fun _ k => XS.goto X0.here hx rfl (pc0 := 7) (pc' := 11) rfl (hb hby d2_7) (by decide) (by decide) k) ?_
    show own_Ends _ _ _ _ _ _ _ T0 (mkF m 11 #[.val (.long q1), .second, .val (.long q2), .second] [(.long q1)])
    exact own_retL X0 hx hret hlk (hb hby d2_11) ⟨own_leafJ (if_neg hc1), N0, e0⟩ (by decide) (by decide)
theorem d1_0 : decode prog_5_method_3_code 0 = .ok (.ldc2_w 20, 3) := by decide +kernel
theorem d1_3 : decode prog_5_method_3_code 3 = .ok (.iload_n 0, 1) := by decide +kernel
theorem d1_4 : decode prog_5_method_3_code 4 = .ok (.i2l, 1) := by decide +kernel
theorem d1_5 : decode prog_5_method_3_code 5 = .ok (.iload_n 1, 1) := by decide +kernel
theorem d1_6 : decode prog_5_method_3_code 6 = .ok (.i2l, 1) := by decide +kernel
theorem d1_7 : decode prog_5_method_3_code 7 = .ok (.ladd, 1) := by decide +kernel
theorem d1_8 : decode prog_5_method_3_code 8 = .ok (.invokestatic 22, 3) := by decide +kernel
theorem d1_11 : decode prog_5_method_3_code 11 = .ok (.l2i, 1) := by decide +kernel
theorem d1_12 : decode prog_5_method_3_code 12 = .ok (.ireturn, 1) := by decide +kernel
theorem ef_1 (p1 : Int32) (p2 : Int32) (m : MethodId) : entryFrame m #[(.int p1), (.int p2)] 2 = mkF m 0 #[.val (.int p1), .val (.int p2)] [] := by first | (simp [entryFrame, mkF, argsToLocals, Value.category]; done) | rfl
theorem pd_0 : parseMethodDescriptor "(JJ)J" = some ⟨[.long, .long], some .long⟩ := by decide +kernel
def own_f1 (p1 : Int32) (p2 : Int32) : Int32 := ((own_f2 (2147483647 : Int64) ((p1.toInt64) + (p2.toInt64))).toInt32)
theorem pn_0 : plainName "com/example/wirelane/wirelane/Credit" = true := by first | (simp [plainName, overriddenIn]; done) | decide +kernel
set_option maxRecDepth 65536 in
set_option maxHeartbeats 40000000 in
theorem rm1 (l : Launch) (Z : State) (a0 : Array Value) (hw : ∀ d ∈ tables_1, d.before a0 Z = true) (ws : List Jvm.Cond) (p1 : Int32) (p2 : Int32) (h0 : Heap) (n0 : Nat) (Z0 : n0 ≤ h0.size) :
    own_Met l (⟨"com/example/wirelane/wirelane/Credit", "add", "(II)I"⟩ : MethodName) prog_5_method_3_code 2 (some .int) ws ({ frames := 1, cells := 0, slots := 0, locals := 15 } : Room) #[(.int p1), (.int p2)] Z h0 (fun v h L => v = some (.int (own_f1 p1 p2)) ∧ Fr n0 L ∧ h = h0) := by
  refine own_body (plainFor_of_name pn_0) (ef_1 p1 p2) ?_
  intro p e s m below meth c T0 X0 hx hby hml0 hret hlk hnm hown hZ e0
  have hml : c.maxLocals = 2 := hml0
  have N0 := Fr.nil n0
  refine own_step (X0.ldc2Long hx hown (mvT hZ (hw _ (List.mem_of_getElem? (i := 5) rfl))) (g := (mkF m 0 #[.val (.int p1), .val (.int p2)] [])) rfl (hb hby d1_0)) ?_
  show own_Ends _ _ _ _ _ _ _ T0 (mkF m 3 #[.val (.int p1), .val (.int p2)] [(.long (2147483647 : Int64))])
  refine own_step (fun _ k => XS.iloadN X0.here hx rfl (hb hby d1_3) rfl k) ?_
  show own_Ends _ _ _ _ _ _ _ T0 (mkF m 4 #[.val (.int p1), .val (.int p2)] [(.int p1), (.long (2147483647 : Int64))])
  refine own_step (fun _ k => XS.i2l X0.here hx rfl (hb hby d1_4) rfl k) ?_
  show own_Ends _ _ _ _ _ _ _ T0 (mkF m 5 #[.val (.int p1), .val (.int p2)] [(.long (p1.toInt64)), (.long (2147483647 : Int64))])
  refine own_step (fun _ k => XS.iloadN X0.here hx rfl (hb hby d1_5) rfl k) ?_
  show own_Ends _ _ _ _ _ _ _ T0 (mkF m 6 #[.val (.int p1), .val (.int p2)] [(.int p2), (.long (p1.toInt64)), (.long (2147483647 : Int64))])
  refine own_step (fun _ k => XS.i2l X0.here hx rfl (hb hby d1_6) rfl k) ?_
  show own_Ends _ _ _ _ _ _ _ T0 (mkF m 7 #[.val (.int p1), .val (.int p2)] [(.long (p2.toInt64)), (.long (p1.toInt64)), (.long (2147483647 : Int64))])
  refine own_step (fun _ k => XS.ladd X0.here hx rfl (hb hby d1_7) rfl k) ?_
  show own_Ends _ _ _ _ _ _ _ T0 (mkF m 8 #[.val (.int p1), .val (.int p2)] [(.long ((p1.toInt64) + (p2.toInt64))), (.long (2147483647 : Int64))])
  refine own_callS X0 hx hZ (y := (⟨"java/lang/Math", "min", "(JJ)J"⟩ : MethodName)) hown (hw _ (List.mem_of_getElem? (i := 6) rfl)) (hw _ (List.mem_of_getElem? (i := 7) rfl)) (hw _ (List.mem_of_getElem? (i := 8) rfl)) (hw _ (List.mem_of_getElem? (i := 9) rfl)) (by decide) (rm2 l Z a0 hw [] (2147483647 : Int64) ((p1.toInt64) + (p2.toInt64)) h0 n0 Z0) e0 0 (by decide) (by decide) (by decide) (by decide) (g := (mkF m 8 #[.val (.int p1), .val (.int p2)] [(.long ((p1.toInt64) + (p2.toInt64))), (.long (2147483647 : Int64))])) rfl (by rw [hml]; rfl) [(.long (2147483647 : Int64)), (.long ((p1.toInt64) + (p2.toInt64)))] [] pd_0 rfl rfl rfl (by show 2 * 0 + _ ≤ _; exact Nat.le_of_eq rfl) (hb hby d1_8) ?_
  rintro v1 T1 L1 X1 ⟨rfl, Nq1, e1⟩
  have N1 := Fr.app N0 Nq1
  show own_Ends _ _ _ _ _ _ _ T1 (mkF m 11 #[.val (.int p1), .val (.int p2)] [(.long (own_f2 (2147483647 : Int64) ((p1.toInt64) + (p2.toInt64))))])
  refine own_step (fun _ k => XS.l2i X1.here hx rfl (hb hby d1_11) rfl k) ?_
  show own_Ends _ _ _ _ _ _ _ T1 (mkF m 12 #[.val (.int p1), .val (.int p2)] [(.int ((own_f2 (2147483647 : Int64) ((p1.toInt64) + (p2.toInt64))).toInt32))])
  exact own_retI X1 hx hret hlk (hb hby d1_12) ⟨own_leafI rfl, N1, e1⟩ (by decide) (by decide)
theorem ef_0 (p1 : Int32) (p2 : Int32) (p3 : Int32) (m : MethodId) : entryFrame m #[(.int p1), (.int p2), (.int p3)] maxLocals = mkF m 0 #[.val (.int p1), .val (.int p2), .val (.int p3), .unset, .unset, .unset, .unset, .unset, .unset] [] := by first | (simp [entryFrame, mkF, argsToLocals, Value.category, maxLocals]; done) | rfl
theorem pd_1 : parseMethodDescriptor "(II)I" = some ⟨[.int, .int], some .int⟩ := by decide +kernel
def own_f0 (p1 : Int32) (p2 : Int32) (p3 : Int32) : Int32 := (if (p3 &&& (1 : Int32)) = (0 : Int32) then (if ((2147483647 : Int32) - (p2 &&& (2147483647 : Int32))) < p1 then (if (own_f1 (p2 &&& (2147483647 : Int32)) p1) = (2147483647 : Int32) then (1 : Int32) else (0 : Int32)) else (if (own_f1 (p2 &&& (2147483647 : Int32)) p1) = (p1 + (p2 &&& (2147483647 : Int32))) then (1 : Int32) else (0 : Int32))) else (if ((2147483647 : Int32) - (p2 &&& (2147483647 : Int32))) < p1 then (if (own_f1 p1 (p2 &&& (2147483647 : Int32))) = (2147483647 : Int32) then (1 : Int32) else (0 : Int32)) else (if (own_f1 p1 (p2 &&& (2147483647 : Int32))) = (p1 + (p2 &&& (2147483647 : Int32))) then (1 : Int32) else (0 : Int32))))
theorem pn_1 : plainName "com/example/wirelane/wirelane/CreditAddPinLaw" = true := by first | (simp [plainName, overriddenIn]; done) | decide +kernel
set_option maxRecDepth 65536 in
set_option maxHeartbeats 40000000 in
theorem rm0 (l : Launch) (Z : State) (a0 : Array Value) (hw : ∀ d ∈ tables_1, d.before a0 Z = true) (ws : List Jvm.Cond) (p1 : Int32) (p2 : Int32) (p3 : Int32) (h0 : Heap) (n0 : Nat) (Z0 : n0 ≤ h0.size) :
    own_Met l x code maxLocals ret ws room_1 #[(.int p1), (.int p2), (.int p3)] Z h0 (fun v h L => v = some (.int (own_f0 p1 p2 p3)) ∧ Fr n0 L) := by
  refine own_body (plainFor_of_name pn_1) (ef_0 p1 p2 p3) ?_
  intro p e s m below meth c T0 X0 hx hby hml0 hret hlk hnm hown hZ e0
  have hml : c.maxLocals = 9 := hml0
  have N0 := Fr.nil n0
  refine own_step (fun _ k => XS.iloadN X0.here hx rfl (hb hby at_0) rfl k) ?_
  show own_Ends _ _ _ _ _ _ _ T0 (mkF m 1 #[.val (.int p1), .val (.int p2), .val (.int p3), .unset, .unset, .unset, .unset, .unset, .unset] [(.int p2)])
  refine own_step (X0.ldcInt hx hown (mvT hZ (hw _ (List.mem_of_getElem? (i := 0) rfl))) (g := (mkF m 1 #[.val (.int p1), .val (.int p2), .val (.int p3), .unset, .unset, .unset, .unset, .unset, .unset] [(.int p2)])) rfl (hb hby at_1)) ?_
  show own_Ends _ _ _ _ _ _ _ T0 (mkF m 3 #[.val (.int p1), .val (.int p2), .val (.int p3), .unset, .unset, .unset, .unset, .unset, .unset] [(.int (2147483647 : Int32)), (.int p2)])
  refine own_step (fun _ k => XS.iand X0.here hx rfl (hb hby at_3) rfl k) ?_
  show own_Ends _ _ _ _ _ _ _ T0 (mkF m 4 #[.val (.int p1), .val (.int p2), .val (.int p3), .unset, .unset, .unset, .unset, .unset, .unset] [(.int (p2 &&& (2147483647 : Int32)))])
  refine own_step (fun _ k => XS.istoreN X0.here hx rfl (hb hby at_4) rfl (l' := #[.val (.int p1), .val (.int p2), .val (.int p3), .val (.int (p2 &&& (2147483647 : Int32))), .unset, .unset, .unset, .unset, .unset]) rfl k) ?_
  show own_Ends _ _ _ _ _ _ _ T0 (mkF m 5 #[.val (.int p1), .val (.int p2), .val (.int p3), .val (.int (p2 &&& (2147483647 : Int32))), .unset, .unset, .unset, .unset, .unset] [])
  refine own_step (fun _ k => XS.iloadN X0.here hx rfl (hb hby at_5) rfl k) ?_
  show own_Ends _ _ _ _ _ _ _ T0 (mkF m 6 #[.val (.int p1), .val (.int p2), .val (.int p3), .val (.int (p2 &&& (2147483647 : Int32))), .unset, .unset, .unset, .unset, .unset] [(.int p3)])
  refine own_step (fun _ k => XS.iconst X0.here hx rfl (hb hby at_6) k) ?_
  show own_Ends _ _ _ _ _ _ _ T0 (mkF m 7 #[.val (.int p1), .val (.int p2), .val (.int p3), .val (.int (p2 &&& (2147483647 : Int32))), .unset, .unset, .unset, .unset, .unset] [(.int (1 : Int32)), (.int p3)])
  refine own_step (fun _ k => XS.iand X0.here hx rfl (hb hby at_7) rfl k) ?_
  show own_Ends _ _ _ _ _ _ _ T0 (mkF m 8 #[.val (.int p1), .val (.int p2), .val (.int p3), .val (.int (p2 &&& (2147483647 : Int32))), .unset, .unset, .unset, .unset, .unset] [(.int (p3 &&& (1 : Int32)))])
  by_cases hc1 : (p3 &&& (1 : Int32)) = (0 : Int32)
  · refine own_step (fun _ k => XS.ifYes X0.here hx rfl (pc0 := 8) (pc' := 15) rfl (hb hby at_8) rfl ((if0 _ _).trans (teq hc1).1) (by decide) (by decide) k) ?_
    show own_Ends _ _ _ _ _ _ _ T0 (mkF m 15 #[.val (.int p1), .val (.int p2), .val (.int p3), .val (.int (p2 &&& (2147483647 : Int32))), .unset, .unset, .unset, .unset, .unset] [])
    refine own_step (fun _ k => XS.iconst X0.here hx rfl (hb hby at_15) k) ?_
    show own_Ends _ _ _ _ _ _ _ T0 (mkF m 16 #[.val (.int p1), .val (.int p2), .val (.int p3), .val (.int (p2 &&& (2147483647 : Int32))), .unset, .unset, .unset, .unset, .unset] [(.int (0 : Int32))])
    refine own_step (fun _ k => XS.istore X0.here hx rfl (hb hby at_16) rfl (l' := #[.val (.int p1), .val (.int p2), .val (.int p3), .val (.int (p2 &&& (2147483647 : Int32))), .val (.int (0 : Int32)), .unset, .unset, .unset, .unset]) rfl k) ?_
    show own_Ends _ _ _ _ _ _ _ T0 (mkF m 18 #[.val (.int p1), .val (.int p2), .val (.int p3), .val (.int (p2 &&& (2147483647 : Int32))), .val (.int (0 : Int32)), .unset, .unset, .unset, .unset] [])
    refine own_step (fun _ k => XS.iload X0.here hx rfl (hb hby at_18) rfl k) ?_
    show own_Ends _ _ _ _ _ _ _ T0 (mkF m 20 #[.val (.int p1), .val (.int p2), .val (.int p3), .val (.int (p2 &&& (2147483647 : Int32))), .val (.int (0 : Int32)), .unset, .unset, .unset, .unset] [(.int (0 : Int32))])
    refine own_step (fun _ k => XS.ifYes X0.here hx rfl (pc0 := 20) (pc' := 32) rfl (hb hby at_20) rfl ((if0 _ _).trans (teq (by decide : (0 : Int32) = (0 : Int32))).1) (by decide) (by decide) k) ?_
    show own_Ends _ _ _ _ _ _ _ T0 (mkF m 32 #[.val (.int p1), .val (.int p2), .val (.int p3), .val (.int (p2 &&& (2147483647 : Int32))), .val (.int (0 : Int32)), .unset, .unset, .unset, .unset] [])
    refine own_step (fun _ k => XS.iloadN X0.here hx rfl (hb hby at_32) rfl k) ?_
    show own_Ends _ _ _ _ _ _ _ T0 (mkF m 33 #[.val (.int p1), .val (.int p2), .val (.int p3), .val (.int (p2 &&& (2147483647 : Int32))), .val (.int (0 : Int32)), .unset, .unset, .unset, .unset] [(.int (p2 &&& (2147483647 : Int32)))])
    refine own_step (fun _ k => XS.istore X0.here hx rfl (hb hby at_33) rfl (l' := #[.val (.int p1), .val (.int p2), .val (.int p3), .val (.int (p2 &&& (2147483647 : Int32))), .val (.int (0 : Int32)), .val (.int (p2 &&& (2147483647 : Int32))), .unset, .unset, .unset]) rfl k) ?_
    show own_Ends _ _ _ _ _ _ _ T0 (mkF m 35 #[.val (.int p1), .val (.int p2), .val (.int p3), .val (.int (p2 &&& (2147483647 : Int32))), .val (.int (0 : Int32)), .val (.int (p2 &&& (2147483647 : Int32))), .unset, .unset, .unset] [])
    refine own_step (fun _ k => XS.iloadN X0.here hx rfl (hb hby at_35) rfl k) ?_
    show own_Ends _ _ _ _ _ _ _ T0 (mkF m 36 #[.val (.int p1), .val (.int p2), .val (.int p3), .val (.int (p2 &&& (2147483647 : Int32))), .val (.int (0 : Int32)), .val (.int (p2 &&& (2147483647 : Int32))), .unset, .unset, .unset] [(.int p1)])
    refine own_step (fun _ k => XS.istore X0.here hx rfl (hb hby at_36) rfl (l' := #[.val (.int p1), .val (.int p2), .val (.int p3), .val (.int (p2 &&& (2147483647 : Int32))), .val (.int (0 : Int32)), .val (.int (p2 &&& (2147483647 : Int32))), .val (.int p1), .unset, .unset]) rfl k) ?_
    show own_Ends _ _ _ _ _ _ _ T0 (mkF m 38 #[.val (.int p1), .val (.int p2), .val (.int p3), .val (.int (p2 &&& (2147483647 : Int32))), .val (.int (0 : Int32)), .val (.int (p2 &&& (2147483647 : Int32))), .val (.int p1), .unset, .unset] [])
    refine own_step (fun _ k => XS.iloadN X0.here hx rfl (hb hby at_38) rfl k) ?_
    show own_Ends _ _ _ _ _ _ _ T0 (mkF m 39 #[.val (.int p1), .val (.int p2), .val (.int p3), .val (.int (p2 &&& (2147483647 : Int32))), .val (.int (0 : Int32)), .val (.int (p2 &&& (2147483647 : Int32))), .val (.int p1), .unset, .unset] [(.int p1)])
    refine own_step (X0.ldcInt hx hown (mvT hZ (hw _ (List.mem_of_getElem? (i := 0) rfl))) (g := (mkF m 39 #[.val (.int p1), .val (.int p2), .val (.int p3), .val (.int (p2 &&& (2147483647 : Int32))), .val (.int (0 : Int32)), .val (.int (p2 &&& (2147483647 : Int32))), .val (.int p1), .unset, .unset] [(.int p1)])) rfl (hb hby at_39)) ?_
    show own_Ends _ _ _ _ _ _ _ T0 (mkF m 41 #[.val (.int p1), .val (.int p2), .val (.int p3), .val (.int (p2 &&& (2147483647 : Int32))), .val (.int (0 : Int32)), .val (.int (p2 &&& (2147483647 : Int32))), .val (.int p1), .unset, .unset] [(.int (2147483647 : Int32)), (.int p1)])
    refine own_step (fun _ k => XS.iloadN X0.here hx rfl (hb hby at_41) rfl k) ?_
    show own_Ends _ _ _ _ _ _ _ T0 (mkF m 42 #[.val (.int p1), .val (.int p2), .val (.int p3), .val (.int (p2 &&& (2147483647 : Int32))), .val (.int (0 : Int32)), .val (.int (p2 &&& (2147483647 : Int32))), .val (.int p1), .unset, .unset] [(.int (p2 &&& (2147483647 : Int32))), (.int (2147483647 : Int32)), (.int p1)])
    refine own_step (fun _ k => XS.isub X0.here hx rfl (hb hby at_42) rfl k) ?_
    show own_Ends _ _ _ _ _ _ _ T0 (mkF m 43 #[.val (.int p1), .val (.int p2), .val (.int p3), .val (.int (p2 &&& (2147483647 : Int32))), .val (.int (0 : Int32)), .val (.int (p2 &&& (2147483647 : Int32))), .val (.int p1), .unset, .unset] [(.int ((2147483647 : Int32) - (p2 &&& (2147483647 : Int32)))), (.int p1)])
    by_cases hc2 : ((2147483647 : Int32) - (p2 &&& (2147483647 : Int32))) < p1
    · refine own_step (fun _ k => XS.icmpNo X0.here hx rfl (hb hby at_43) rfl (tlt hc2).2.2.2 k) ?_
      show own_Ends _ _ _ _ _ _ _ T0 (mkF m 46 #[.val (.int p1), .val (.int p2), .val (.int p3), .val (.int (p2 &&& (2147483647 : Int32))), .val (.int (0 : Int32)), .val (.int (p2 &&& (2147483647 : Int32))), .val (.int p1), .unset, .unset] [])
      refine own_step (X0.ldcInt hx hown (mvT hZ (hw _ (List.mem_of_getElem? (i := 0) rfl))) (g := (mkF m 46 #[.val (.int p1), .val (.int p2), .val (.int p3), .val (.int (p2 &&& (2147483647 : Int32))), .val (.int (0 : Int32)), .val (.int (p2 &&& (2147483647 : Int32))), .val (.int p1), .unset, .unset] [])) rfl (hb hby at_46)) ?_
      show own_Ends _ _ _ _ _ _ _ T0 (mkF m 48 #[.val (.int p1), .val (.int p2), .val (.int p3), .val (.int (p2 &&& (2147483647 : Int32))), .val (.int (0 : Int32)), .val (.int (p2 &&& (2147483647 : Int32))), .val (.int p1), .unset, .unset] [(.int (2147483647 : Int32))])
      refine own_step (fun _ k => XS.istore X0.here hx rfl (hb hby at_48) rfl (l' := #[.val (.int p1), .val (.int p2), .val (.int p3), .val (.int (p2 &&& (2147483647 : Int32))), .val (.int (0 : Int32)), .val (.int (p2 &&& (2147483647 : Int32))), .val (.int p1), .val (.int (2147483647 : Int32)), .unset]) rfl k) ?_
      show own_Ends _ _ _ _ _ _ _ T0 (mkF m 50 #[.val (.int p1), .val (.int p2), .val (.int p3), .val (.int (p2 &&& (2147483647 : Int32))), .val (.int (0 : Int32)), .val (.int (p2 &&& (2147483647 : Int32))), .val (.int p1), .val (.int (2147483647 : Int32)), .unset] [])
      refine own_step (fun _ k => XS.goto X0.here hx rfl (pc0 := 50) (pc' := 58) rfl (hb hby at_50) (by decide) (by decide) k) ?_
      show own_Ends _ _ _ _ _ _ _ T0 (mkF m 58 #[.val (.int p1), .val (.int p2), .val (.int p3), .val (.int (p2 &&& (2147483647 : Int32))), .val (.int (0 : Int32)), .val (.int (p2 &&& (2147483647 : Int32))), .val (.int p1), .val (.int (2147483647 : Int32)), .unset] [])
      refine own_step (fun _ k => XS.iload X0.here hx rfl (hb hby at_58) rfl k) ?_
      show own_Ends _ _ _ _ _ _ _ T0 (mkF m 60 #[.val (.int p1), .val (.int p2), .val (.int p3), .val (.int (p2 &&& (2147483647 : Int32))), .val (.int (0 : Int32)), .val (.int (p2 &&& (2147483647 : Int32))), .val (.int p1), .val (.int (2147483647 : Int32)), .unset] [(.int (p2 &&& (2147483647 : Int32)))])
      refine own_step (fun _ k => XS.iload X0.here hx rfl (hb hby at_60) rfl k) ?_
      show own_Ends _ _ _ _ _ _ _ T0 (mkF m 62 #[.val (.int p1), .val (.int p2), .val (.int p3), .val (.int (p2 &&& (2147483647 : Int32))), .val (.int (0 : Int32)), .val (.int (p2 &&& (2147483647 : Int32))), .val (.int p1), .val (.int (2147483647 : Int32)), .unset] [(.int p1), (.int (p2 &&& (2147483647 : Int32)))])
      refine own_callS X0 hx hZ (y := (⟨"com/example/wirelane/wirelane/Credit", "add", "(II)I"⟩ : MethodName)) hown (hw _ (List.mem_of_getElem? (i := 1) rfl)) (hw _ (List.mem_of_getElem? (i := 2) rfl)) (hw _ (List.mem_of_getElem? (i := 3) rfl)) (hw _ (List.mem_of_getElem? (i := 4) rfl)) (by decide) (rm1 l Z a0 hw [] (p2 &&& (2147483647 : Int32)) p1 h0 n0 Z0) e0 0 (by decide) (by decide) (by decide) (by decide) (g := (mkF m 62 #[.val (.int p1), .val (.int p2), .val (.int p3), .val (.int (p2 &&& (2147483647 : Int32))), .val (.int (0 : Int32)), .val (.int (p2 &&& (2147483647 : Int32))), .val (.int p1), .val (.int (2147483647 : Int32)), .unset] [(.int p1), (.int (p2 &&& (2147483647 : Int32)))])) rfl (by rw [hml]; rfl) [(.int (p2 &&& (2147483647 : Int32))), (.int p1)] [] pd_1 rfl rfl rfl (by show 2 * 0 + _ ≤ _; exact Nat.le_of_eq rfl) (hb hby at_62) ?_
      rintro v3 T3 L3 X3 ⟨rfl, Nq3, e3⟩
      have N3 := Fr.app N0 Nq3
      show own_Ends _ _ _ _ _ _ _ T3 (mkF m 65 #[.val (.int p1), .val (.int p2), .val (.int p3), .val (.int (p2 &&& (2147483647 : Int32))), .val (.int (0 : Int32)), .val (.int (p2 &&& (2147483647 : Int32))), .val (.int p1), .val (.int (2147483647 : Int32)), .unset] [(.int (own_f1 (p2 &&& (2147483647 : Int32)) p1))])
      refine own_step (fun _ k => XS.istore X3.here hx rfl (hb hby at_65) rfl (l' := #[.val (.int p1), .val (.int p2), .val (.int p3), .val (.int (p2 &&& (2147483647 : Int32))), .val (.int (0 : Int32)), .val (.int (p2 &&& (2147483647 : Int32))), .val (.int p1), .val (.int (2147483647 : Int32)), .val (.int (own_f1 (p2 &&& (2147483647 : Int32)) p1))]) rfl k) ?_
      show own_Ends _ _ _ _ _ _ _ T3 (mkF m 67 #[.val (.int p1), .val (.int p2), .val (.int p3), .val (.int (p2 &&& (2147483647 : Int32))), .val (.int (0 : Int32)), .val (.int (p2 &&& (2147483647 : Int32))), .val (.int p1), .val (.int (2147483647 : Int32)), .val (.int (own_f1 (p2 &&& (2147483647 : Int32)) p1))] [])
      refine own_step (fun _ k => XS.iload X3.here hx rfl (hb hby at_67) rfl k) ?_
      show own_Ends _ _ _ _ _ _ _ T3 (mkF m 69 #[.val (.int p1), .val (.int p2), .val (.int p3), .val (.int (p2 &&& (2147483647 : Int32))), .val (.int (0 : Int32)), .val (.int (p2 &&& (2147483647 : Int32))), .val (.int p1), .val (.int (2147483647 : Int32)), .val (.int (own_f1 (p2 &&& (2147483647 : Int32)) p1))] [(.int (own_f1 (p2 &&& (2147483647 : Int32)) p1))])
      refine own_step (fun _ k => XS.iload X3.here hx rfl (hb hby at_69) rfl k) ?_
      show own_Ends _ _ _ _ _ _ _ T3 (mkF m 71 #[.val (.int p1), .val (.int p2), .val (.int p3), .val (.int (p2 &&& (2147483647 : Int32))), .val (.int (0 : Int32)), .val (.int (p2 &&& (2147483647 : Int32))), .val (.int p1), .val (.int (2147483647 : Int32)), .val (.int (own_f1 (p2 &&& (2147483647 : Int32)) p1))] [(.int (2147483647 : Int32)), (.int (own_f1 (p2 &&& (2147483647 : Int32)) p1))])
      by_cases hc4 : (own_f1 (p2 &&& (2147483647 : Int32)) p1) = (2147483647 : Int32)
      · refine own_step (fun _ k => XS.icmpNo X3.here hx rfl (hb hby at_71) rfl (teq hc4).2 k) ?_
        show own_Ends _ _ _ _ _ _ _ T3 (mkF m 74 #[.val (.int p1), .val (.int p2), .val (.int p3), .val (.int (p2 &&& (2147483647 : Int32))), .val (.int (0 : Int32)), .val (.int (p2 &&& (2147483647 : Int32))), .val (.int p1), .val (.int (2147483647 : Int32)), .val (.int (own_f1 (p2 &&& (2147483647 : Int32)) p1))] [])
        refine own_step (fun _ k => XS.iconst X3.here hx rfl (hb hby at_74) k) ?_
        show own_Ends _ _ _ _ _ _ _ T3 (mkF m 75 #[.val (.int p1), .val (.int p2), .val (.int p3), .val (.int (p2 &&& (2147483647 : Int32))), .val (.int (0 : Int32)), .val (.int (p2 &&& (2147483647 : Int32))), .val (.int p1), .val (.int (2147483647 : Int32)), .val (.int (own_f1 (p2 &&& (2147483647 : Int32)) p1))] [(.int (1 : Int32))])
        refine own_step (fun _ k => XS.goto X3.here hx rfl (pc0 := 75) (pc' := 79) rfl (hb hby at_75) (by decide) (by decide) k) ?_
        show own_Ends _ _ _ _ _ _ _ T3 (mkF m 79 #[.val (.int p1), .val (.int p2), .val (.int p3), .val (.int (p2 &&& (2147483647 : Int32))), .val (.int (0 : Int32)), .val (.int (p2 &&& (2147483647 : Int32))), .val (.int p1), .val (.int (2147483647 : Int32)), .val (.int (own_f1 (p2 &&& (2147483647 : Int32)) p1))] [(.int (1 : Int32))])
        exact own_retN X3 hx (t := .boolean) hret (by simp) hlk (hb hby at_79) rfl ⟨own_leafI ((if_pos hc1).trans ((if_pos hc2).trans (if_pos hc4))), N3⟩ (by decide) (by decide)
      · refine own_step (fun _ k => XS.icmpYes X3.here hx rfl (pc0 := 71) (pc' := 78) rfl (hb hby at_71) rfl (feq hc4).2 (by decide) (by decide) k) ?_
        show own_Ends _ _ _ _ _ _ _ T3 (mkF m 78 #[.val (.int p1), .val (.int p2), .val (.int p3), .val (.int (p2 &&& (2147483647 : Int32))), .val (.int (0 : Int32)), .val (.int (p2 &&& (2147483647 : Int32))), .val (.int p1), .val (.int (2147483647 : Int32)), .val (.int (own_f1 (p2 &&& (2147483647 : Int32)) p1))] [])
        refine own_step (fun _ k => XS.iconst X3.here hx rfl (hb hby at_78) k) ?_
        show own_Ends _ _ _ _ _ _ _ T3 (mkF m 79 #[.val (.int p1), .val (.int p2), .val (.int p3), .val (.int (p2 &&& (2147483647 : Int32))), .val (.int (0 : Int32)), .val (.int (p2 &&& (2147483647 : Int32))), .val (.int p1), .val (.int (2147483647 : Int32)), .val (.int (own_f1 (p2 &&& (2147483647 : Int32)) p1))] [(.int (0 : Int32))])
        exact own_retN X3 hx (t := .boolean) hret (by simp) hlk (hb hby at_79) rfl ⟨own_leafI ((if_pos hc1).trans ((if_pos hc2).trans (if_neg hc4))), N3⟩ (by decide) (by decide)
    · refine own_step (fun _ k => XS.icmpYes X0.here hx rfl (pc0 := 43) (pc' := 53) rfl (hb hby at_43) rfl (flt hc2).2.2.2 (by decide) (by decide) k) ?_
      show own_Ends _ _ _ _ _ _ _ T0 (mkF m 53 #[.val (.int p1), .val (.int p2), .val (.int p3), .val (.int (p2 &&& (2147483647 : Int32))), .val (.int (0 : Int32)), .val (.int (p2 &&& (2147483647 : Int32))), .val (.int p1), .unset, .unset] [])
      refine own_step (fun _ k => XS.iloadN X0.here hx rfl (hb hby at_53) rfl k) ?_
      show own_Ends _ _ _ _ _ _ _ T0 (mkF m 54 #[.val (.int p1), .val (.int p2), .val (.int p3), .val (.int (p2 &&& (2147483647 : Int32))), .val (.int (0 : Int32)), .val (.int (p2 &&& (2147483647 : Int32))), .val (.int p1), .unset, .unset] [(.int p1)])
      refine own_step (fun _ k => XS.iloadN X0.here hx rfl (hb hby at_54) rfl k) ?_
      show own_Ends _ _ _ _ _ _ _ T0 (mkF m 55 #[.val (.int p1), .val (.int p2), .val (.int p3), .val (.int (p2 &&& (2147483647 : Int32))), .val (.int (0 : Int32)), .val (.int (p2 &&& (2147483647 : Int32))), .val (.int p1), .unset, .unset] [(.int (p2 &&& (2147483647 : Int32))), (.int p1)])
      refine own_step (fun _ k => XS.iadd X0.here hx rfl (hb hby at_55) rfl k) ?_
      show own_Ends _ _ _ _ _ _ _ T0 (mkF m 56 #[.val (.int p1), .val (.int p2), .val (.int p3), .val (.int (p2 &&& (2147483647 : Int32))), .val (.int (0 : Int32)), .val (.int (p2 &&& (2147483647 : Int32))), .val (.int p1), .unset, .unset] [(.int (p1 + (p2 &&& (2147483647 : Int32))))])
      refine own_step (fun _ k => XS.istore X0.here hx rfl (hb hby at_56) rfl (l' := #[.val (.int p1), .val (.int p2), .val (.int p3), .val (.int (p2 &&& (2147483647 : Int32))), .val (.int (0 : Int32)), .val (.int (p2 &&& (2147483647 : Int32))), .val (.int p1), .val (.int (p1 + (p2 &&& (2147483647 : Int32)))), .unset]) rfl k) ?_
      show own_Ends _ _ _ _ _ _ _ T0 (mkF m 58 #[.val (.int p1), .val (.int p2), .val (.int p3), .val (.int (p2 &&& (2147483647 : Int32))), .val (.int (0 : Int32)), .val (.int (p2 &&& (2147483647 : Int32))), .val (.int p1), .val (.int (p1 + (p2 &&& (2147483647 : Int32)))), .unset] [])
      refine own_step (fun _ k => XS.iload X0.here hx rfl (hb hby at_58) rfl k) ?_
      show own_Ends _ _ _ _ _ _ _ T0 (mkF m 60 #[.val (.int p1), .val (.int p2), .val (.int p3), .val (.int (p2 &&& (2147483647 : Int32))), .val (.int (0 : Int32)), .val (.int (p2 &&& (2147483647 : Int32))), .val (.int p1), .val (.int (p1 + (p2 &&& (2147483647 : Int32)))), .unset] [(.int (p2 &&& (2147483647 : Int32)))])
      refine own_step (fun _ k => XS.iload X0.here hx rfl (hb hby at_60) rfl k) ?_
      show own_Ends _ _ _ _ _ _ _ T0 (mkF m 62 #[.val (.int p1), .val (.int p2), .val (.int p3), .val (.int (p2 &&& (2147483647 : Int32))), .val (.int (0 : Int32)), .val (.int (p2 &&& (2147483647 : Int32))), .val (.int p1), .val (.int (p1 + (p2 &&& (2147483647 : Int32)))), .unset] [(.int p1), (.int (p2 &&& (2147483647 : Int32)))])
      refine own_callS X0 hx hZ (y := (⟨"com/example/wirelane/wirelane/Credit", "add", "(II)I"⟩ : MethodName)) hown (hw _ (List.mem_of_getElem? (i := 1) rfl)) (hw _ (List.mem_of_getElem? (i := 2) rfl)) (hw _ (List.mem_of_getElem? (i := 3) rfl)) (hw _ (List.mem_of_getElem? (i := 4) rfl)) (by decide) (rm1 l Z a0 hw [] (p2 &&& (2147483647 : Int32)) p1 h0 n0 Z0) e0 0 (by decide) (by decide) (by decide) (by decide) (g := (mkF m 62 #[.val (.int p1), .val (.int p2), .val (.int p3), .val (.int (p2 &&& (2147483647 : Int32))), .val (.int (0 : Int32)), .val (.int (p2 &&& (2147483647 : Int32))), .val (.int p1), .val (.int (p1 + (p2 &&& (2147483647 : Int32)))), .unset] [(.int p1), (.int (p2 &&& (2147483647 : Int32)))])) rfl (by rw [hml]; rfl) [(.int (p2 &&& (2147483647 : Int32))), (.int p1)] [] pd_1 rfl rfl rfl (by show 2 * 0 + _ ≤ _; exact Nat.le_of_eq rfl) (hb hby at_62) ?_
      rintro v5 T5 L5 X5 ⟨rfl, Nq5, e5⟩
      have N5 := Fr.app N0 Nq5
      show own_Ends _ _ _ _ _ _ _ T5 (mkF m 65 #[.val (.int p1), .val (.int p2), .val (.int p3), .val (.int (p2 &&& (2147483647 : Int32))), .val (.int (0 : Int32)), .val (.int (p2 &&& (2147483647 : Int32))), .val (.int p1), .val (.int (p1 + (p2 &&& (2147483647 : Int32)))), .unset] [(.int (own_f1 (p2 &&& (2147483647 : Int32)) p1))])
      refine own_step (fun _ k => XS.istore X5.here hx rfl (hb hby at_65) rfl (l' := #[.val (.int p1), .val (.int p2), .val (.int p3), .val (.int (p2 &&& (2147483647 : Int32))), .val (.int (0 : Int32)), .val (.int (p2 &&& (2147483647 : Int32))), .val (.int p1), .val (.int (p1 + (p2 &&& (2147483647 : Int32)))), .val (.int (own_f1 (p2 &&& (2147483647 : Int32)) p1))]) rfl k) ?_
      show own_Ends _ _ _ _ _ _ _ T5 (mkF m 67 #[.val (.int p1), .val (.int p2), .val (.int p3), .val (.int (p2 &&& (2147483647 : Int32))), .val (.int (0 : Int32)), .val (.int (p2 &&& (2147483647 : Int32))), .val (.int p1), .val (.int (p1 + (p2 &&& (2147483647 : Int32)))), .val (.int (own_f1 (p2 &&& (2147483647 : Int32)) p1))] [])
      refine own_step (fun _ k => XS.iload X5.here hx rfl (hb hby at_67) rfl k) ?_
      show own_Ends _ _ _ _ _ _ _ T5 (mkF m 69 #[.val (.int p1), .val (.int p2), .val (.int p3), .val (.int (p2 &&& (2147483647 : Int32))), .val (.int (0 : Int32)), .val (.int (p2 &&& (2147483647 : Int32))), .val (.int p1), .val (.int (p1 + (p2 &&& (2147483647 : Int32)))), .val (.int (own_f1 (p2 &&& (2147483647 : Int32)) p1))] [(.int (own_f1 (p2 &&& (2147483647 : Int32)) p1))])
      refine own_step (fun _ k => XS.iload X5.here hx rfl (hb hby at_69) rfl k) ?_
      show own_Ends _ _ _ _ _ _ _ T5 (mkF m 71 #[.val (.int p1), .val (.int p2), .val (.int p3), .val (.int (p2 &&& (2147483647 : Int32))), .val (.int (0 : Int32)), .val (.int (p2 &&& (2147483647 : Int32))), .val (.int p1), .val (.int (p1 + (p2 &&& (2147483647 : Int32)))), .val (.int (own_f1 (p2 &&& (2147483647 : Int32)) p1))] [(.int (p1 + (p2 &&& (2147483647 : Int32)))), (.int (own_f1 (p2 &&& (2147483647 : Int32)) p1))])
      by_cases hc6 : (own_f1 (p2 &&& (2147483647 : Int32)) p1) = (p1 + (p2 &&& (2147483647 : Int32)))
      · refine own_step (fun _ k => XS.icmpNo X5.here hx rfl (hb hby at_71) rfl (teq hc6).2 k) ?_
        show own_Ends _ _ _ _ _ _ _ T5 (mkF m 74 #[.val (.int p1), .val (.int p2), .val (.int p3), .val (.int (p2 &&& (2147483647 : Int32))), .val (.int (0 : Int32)), .val (.int (p2 &&& (2147483647 : Int32))), .val (.int p1), .val (.int (p1 + (p2 &&& (2147483647 : Int32)))), .val (.int (own_f1 (p2 &&& (2147483647 : Int32)) p1))] [])
        refine own_step (fun _ k => XS.iconst X5.here hx rfl (hb hby at_74) k) ?_
        show own_Ends _ _ _ _ _ _ _ T5 (mkF m 75 #[.val (.int p1), .val (.int p2), .val (.int p3), .val (.int (p2 &&& (2147483647 : Int32))), .val (.int (0 : Int32)), .val (.int (p2 &&& (2147483647 : Int32))), .val (.int p1), .val (.int (p1 + (p2 &&& (2147483647 : Int32)))), .val (.int (own_f1 (p2 &&& (2147483647 : Int32)) p1))] [(.int (1 : Int32))])
        refine own_step (fun _ k => XS.goto X5.here hx rfl (pc0 := 75) (pc' := 79) rfl (hb hby at_75) (by decide) (by decide) k) ?_
        show own_Ends _ _ _ _ _ _ _ T5 (mkF m 79 #[.val (.int p1), .val (.int p2), .val (.int p3), .val (.int (p2 &&& (2147483647 : Int32))), .val (.int (0 : Int32)), .val (.int (p2 &&& (2147483647 : Int32))), .val (.int p1), .val (.int (p1 + (p2 &&& (2147483647 : Int32)))), .val (.int (own_f1 (p2 &&& (2147483647 : Int32)) p1))] [(.int (1 : Int32))])
        exact own_retN X5 hx (t := .boolean) hret (by simp) hlk (hb hby at_79) rfl ⟨own_leafI ((if_pos hc1).trans ((if_neg hc2).trans (if_pos hc6))), N5⟩ (by decide) (by decide)
      · refine own_step (fun _ k => XS.icmpYes X5.here hx rfl (pc0 := 71) (pc' := 78) rfl (hb hby at_71) rfl (feq hc6).2 (by decide) (by decide) k) ?_
        show own_Ends _ _ _ _ _ _ _ T5 (mkF m 78 #[.val (.int p1), .val (.int p2), .val (.int p3), .val (.int (p2 &&& (2147483647 : Int32))), .val (.int (0 : Int32)), .val (.int (p2 &&& (2147483647 : Int32))), .val (.int p1), .val (.int (p1 + (p2 &&& (2147483647 : Int32)))), .val (.int (own_f1 (p2 &&& (2147483647 : Int32)) p1))] [])
        refine own_step (fun _ k => XS.iconst X5.here hx rfl (hb hby at_78) k) ?_
        show own_Ends _ _ _ _ _ _ _ T5 (mkF m 79 #[.val (.int p1), .val (.int p2), .val (.int p3), .val (.int (p2 &&& (2147483647 : Int32))), .val (.int (0 : Int32)), .val (.int (p2 &&& (2147483647 : Int32))), .val (.int p1), .val (.int (p1 + (p2 &&& (2147483647 : Int32)))), .val (.int (own_f1 (p2 &&& (2147483647 : Int32)) p1))] [(.int (0 : Int32))])
        exact own_retN X5 hx (t := .boolean) hret (by simp) hlk (hb hby at_79) rfl ⟨own_leafI ((if_pos hc1).trans ((if_neg hc2).trans (if_neg hc6))), N5⟩ (by decide) (by decide)
  · refine own_step (fun _ k => XS.ifNo X0.here hx rfl (hb hby at_8) rfl ((if0 _ _).trans (feq hc1).1) k) ?_
    show own_Ends _ _ _ _ _ _ _ T0 (mkF m 11 #[.val (.int p1), .val (.int p2), .val (.int p3), .val (.int (p2 &&& (2147483647 : Int32))), .unset, .unset, .unset, .unset, .unset] [])
    refine own_step (fun _ k => XS.iconst X0.here hx rfl (hb hby at_11) k) ?_
    show own_Ends _ _ _ _ _ _ _ T0 (mkF m 12 #[.val (.int p1), .val (.int p2), .val (.int p3), .val (.int (p2 &&& (2147483647 : Int32))), .unset, .unset, .unset, .unset, .unset] [(.int (1 : Int32))])
    refine own_step (fun _ k => XS.goto X0.here hx rfl (pc0 := 12) (pc' := 16) rfl (hb hby at_12) (by decide) (by decide) k) ?_
    show own_Ends _ _ _ _ _ _ _ T0 (mkF m 16 #[.val (.int p1), .val (.int p2), .val (.int p3), .val (.int (p2 &&& (2147483647 : Int32))), .unset, .unset, .unset, .unset, .unset] [(.int (1 : Int32))])
    refine own_step (fun _ k => XS.istore X0.here hx rfl (hb hby at_16) rfl (l' := #[.val (.int p1), .val (.int p2), .val (.int p3), .val (.int (p2 &&& (2147483647 : Int32))), .val (.int (1 : Int32)), .unset, .unset, .unset, .unset]) rfl k) ?_
    show own_Ends _ _ _ _ _ _ _ T0 (mkF m 18 #[.val (.int p1), .val (.int p2), .val (.int p3), .val (.int (p2 &&& (2147483647 : Int32))), .val (.int (1 : Int32)), .unset, .unset, .unset, .unset] [])
    refine own_step (fun _ k => XS.iload X0.here hx rfl (hb hby at_18) rfl k) ?_
    show own_Ends _ _ _ _ _ _ _ T0 (mkF m 20 #[.val (.int p1), .val (.int p2), .val (.int p3), .val (.int (p2 &&& (2147483647 : Int32))), .val (.int (1 : Int32)), .unset, .unset, .unset, .unset] [(.int (1 : Int32))])
    refine own_step (fun _ k => XS.ifNo X0.here hx rfl (hb hby at_20) rfl ((if0 _ _).trans (feq (by decide : ¬ ((1 : Int32) = (0 : Int32)))).1) k) ?_
    show own_Ends _ _ _ _ _ _ _ T0 (mkF m 23 #[.val (.int p1), .val (.int p2), .val (.int p3), .val (.int (p2 &&& (2147483647 : Int32))), .val (.int (1 : Int32)), .unset, .unset, .unset, .unset] [])
    refine own_step (fun _ k => XS.iloadN X0.here hx rfl (hb hby at_23) rfl k) ?_
    show own_Ends _ _ _ _ _ _ _ T0 (mkF m 24 #[.val (.int p1), .val (.int p2), .val (.int p3), .val (.int (p2 &&& (2147483647 : Int32))), .val (.int (1 : Int32)), .unset, .unset, .unset, .unset] [(.int p1)])
    refine own_step (fun _ k => XS.istore X0.here hx rfl (hb hby at_24) rfl (l' := #[.val (.int p1), .val (.int p2), .val (.int p3), .val (.int (p2 &&& (2147483647 : Int32))), .val (.int (1 : Int32)), .val (.int p1), .unset, .unset, .unset]) rfl k) ?_
    show own_Ends _ _ _ _ _ _ _ T0 (mkF m 26 #[.val (.int p1), .val (.int p2), .val (.int p3), .val (.int (p2 &&& (2147483647 : Int32))), .val (.int (1 : Int32)), .val (.int p1), .unset, .unset, .unset] [])
    refine own_step (fun _ k => XS.iloadN X0.here hx rfl (hb hby at_26) rfl k) ?_
    show own_Ends _ _ _ _ _ _ _ T0 (mkF m 27 #[.val (.int p1), .val (.int p2), .val (.int p3), .val (.int (p2 &&& (2147483647 : Int32))), .val (.int (1 : Int32)), .val (.int p1), .unset, .unset, .unset] [(.int (p2 &&& (2147483647 : Int32)))])
    refine own_step (fun _ k => XS.istore X0.here hx rfl (hb hby at_27) rfl (l' := #[.val (.int p1), .val (.int p2), .val (.int p3), .val (.int (p2 &&& (2147483647 : Int32))), .val (.int (1 : Int32)), .val (.int p1), .val (.int (p2 &&& (2147483647 : Int32))), .unset, .unset]) rfl k) ?_
    show own_Ends _ _ _ _ _ _ _ T0 (mkF m 29 #[.val (.int p1), .val (.int p2), .val (.int p3), .val (.int (p2 &&& (2147483647 : Int32))), .val (.int (1 : Int32)), .val (.int p1), .val (.int (p2 &&& (2147483647 : Int32))), .unset, .unset] [])
    refine own_step (fun _ k => XS.goto X0.here hx rfl (pc0 := 29) (pc' := 38) rfl (hb hby at_29) (by decide) (by decide) k) ?_
    show own_Ends _ _ _ _ _ _ _ T0 (mkF m 38 #[.val (.int p1), .val (.int p2), .val (.int p3), .val (.int (p2 &&& (2147483647 : Int32))), .val (.int (1 : Int32)), .val (.int p1), .val (.int (p2 &&& (2147483647 : Int32))), .unset, .unset] [])
    refine own_step (fun _ k => XS.iloadN X0.here hx rfl (hb hby at_38) rfl k) ?_
    show own_Ends _ _ _ _ _ _ _ T0 (mkF m 39 #[.val (.int p1), .val (.int p2), .val (.int p3), .val (.int (p2 &&& (2147483647 : Int32))), .val (.int (1 : Int32)), .val (.int p1), .val (.int (p2 &&& (2147483647 : Int32))), .unset, .unset] [(.int p1)])
    refine own_step (X0.ldcInt hx hown (mvT hZ (hw _ (List.mem_of_getElem? (i := 0) rfl))) (g := (mkF m 39 #[.val (.int p1), .val (.int p2), .val (.int p3), .val (.int (p2 &&& (2147483647 : Int32))), .val (.int (1 : Int32)), .val (.int p1), .val (.int (p2 &&& (2147483647 : Int32))), .unset, .unset] [(.int p1)])) rfl (hb hby at_39)) ?_
    show own_Ends _ _ _ _ _ _ _ T0 (mkF m 41 #[.val (.int p1), .val (.int p2), .val (.int p3), .val (.int (p2 &&& (2147483647 : Int32))), .val (.int (1 : Int32)), .val (.int p1), .val (.int (p2 &&& (2147483647 : Int32))), .unset, .unset] [(.int (2147483647 : Int32)), (.int p1)])
    refine own_step (fun _ k => XS.iloadN X0.here hx rfl (hb hby at_41) rfl k) ?_
    show own_Ends _ _ _ _ _ _ _ T0 (mkF m 42 #[.val (.int p1), .val (.int p2), .val (.int p3), .val (.int (p2 &&& (2147483647 : Int32))), .val (.int (1 : Int32)), .val (.int p1), .val (.int (p2 &&& (2147483647 : Int32))), .unset, .unset] [(.int (p2 &&& (2147483647 : Int32))), (.int (2147483647 : Int32)), (.int p1)])
    refine own_step (fun _ k => XS.isub X0.here hx rfl (hb hby at_42) rfl k) ?_
    show own_Ends _ _ _ _ _ _ _ T0 (mkF m 43 #[.val (.int p1), .val (.int p2), .val (.int p3), .val (.int (p2 &&& (2147483647 : Int32))), .val (.int (1 : Int32)), .val (.int p1), .val (.int (p2 &&& (2147483647 : Int32))), .unset, .unset] [(.int ((2147483647 : Int32) - (p2 &&& (2147483647 : Int32)))), (.int p1)])
    by_cases hc7 : ((2147483647 : Int32) - (p2 &&& (2147483647 : Int32))) < p1
    · refine own_step (fun _ k => XS.icmpNo X0.here hx rfl (hb hby at_43) rfl (tlt hc7).2.2.2 k) ?_
      show own_Ends _ _ _ _ _ _ _ T0 (mkF m 46 #[.val (.int p1), .val (.int p2), .val (.int p3), .val (.int (p2 &&& (2147483647 : Int32))), .val (.int (1 : Int32)), .val (.int p1), .val (.int (p2 &&& (2147483647 : Int32))), .unset, .unset] [])
      refine own_step (X0.ldcInt hx hown (mvT hZ (hw _ (List.mem_of_getElem? (i := 0) rfl))) (g := (mkF m 46 #[.val (.int p1), .val (.int p2), .val (.int p3), .val (.int (p2 &&& (2147483647 : Int32))), .val (.int (1 : Int32)), .val (.int p1), .val (.int (p2 &&& (2147483647 : Int32))), .unset, .unset] [])) rfl (hb hby at_46)) ?_
      show own_Ends _ _ _ _ _ _ _ T0 (mkF m 48 #[.val (.int p1), .val (.int p2), .val (.int p3), .val (.int (p2 &&& (2147483647 : Int32))), .val (.int (1 : Int32)), .val (.int p1), .val (.int (p2 &&& (2147483647 : Int32))), .unset, .unset] [(.int (2147483647 : Int32))])
      refine own_step (fun _ k => XS.istore X0.here hx rfl (hb hby at_48) rfl (l' := #[.val (.int p1), .val (.int p2), .val (.int p3), .val (.int (p2 &&& (2147483647 : Int32))), .val (.int (1 : Int32)), .val (.int p1), .val (.int (p2 &&& (2147483647 : Int32))), .val (.int (2147483647 : Int32)), .unset]) rfl k) ?_
      show own_Ends _ _ _ _ _ _ _ T0 (mkF m 50 #[.val (.int p1), .val (.int p2), .val (.int p3), .val (.int (p2 &&& (2147483647 : Int32))), .val (.int (1 : Int32)), .val (.int p1), .val (.int (p2 &&& (2147483647 : Int32))), .val (.int (2147483647 : Int32)), .unset] [])
      refine own_step (fun _ k => XS.goto X0.here hx rfl (pc0 := 50) (pc' := 58) rfl (hb hby at_50) (by decide) (by decide) k) ?_
      show own_Ends _ _ _ _ _ _ _ T0 (mkF m 58 #[.val (.int p1), .val (.int p2), .val (.int p3), .val (.int (p2 &&& (2147483647 : Int32))), .val (.int (1 : Int32)), .val (.int p1), .val (.int (p2 &&& (2147483647 : Int32))), .val (.int (2147483647 : Int32)), .unset] [])
      refine own_step (fun _ k => XS.iload X0.here hx rfl (hb hby at_58) rfl k) ?_
      show own_Ends _ _ _ _ _ _ _ T0 (mkF m 60 #[.val (.int p1), .val (.int p2), .val (.int p3), .val (.int (p2 &&& (2147483647 : Int32))), .val (.int (1 : Int32)), .val (.int p1), .val (.int (p2 &&& (2147483647 : Int32))), .val (.int (2147483647 : Int32)), .unset] [(.int p1)])
      refine own_step (fun _ k => XS.iload X0.here hx rfl (hb hby at_60) rfl k) ?_
      show own_Ends _ _ _ _ _ _ _ T0 (mkF m 62 #[.val (.int p1), .val (.int p2), .val (.int p3), .val (.int (p2 &&& (2147483647 : Int32))), .val (.int (1 : Int32)), .val (.int p1), .val (.int (p2 &&& (2147483647 : Int32))), .val (.int (2147483647 : Int32)), .unset] [(.int (p2 &&& (2147483647 : Int32))), (.int p1)])
      refine own_callS X0 hx hZ (y := (⟨"com/example/wirelane/wirelane/Credit", "add", "(II)I"⟩ : MethodName)) hown (hw _ (List.mem_of_getElem? (i := 1) rfl)) (hw _ (List.mem_of_getElem? (i := 2) rfl)) (hw _ (List.mem_of_getElem? (i := 3) rfl)) (hw _ (List.mem_of_getElem? (i := 4) rfl)) (by decide) (rm1 l Z a0 hw [] p1 (p2 &&& (2147483647 : Int32)) h0 n0 Z0) e0 0 (by decide) (by decide) (by decide) (by decide) (g := (mkF m 62 #[.val (.int p1), .val (.int p2), .val (.int p3), .val (.int (p2 &&& (2147483647 : Int32))), .val (.int (1 : Int32)), .val (.int p1), .val (.int (p2 &&& (2147483647 : Int32))), .val (.int (2147483647 : Int32)), .unset] [(.int (p2 &&& (2147483647 : Int32))), (.int p1)])) rfl (by rw [hml]; rfl) [(.int p1), (.int (p2 &&& (2147483647 : Int32)))] [] pd_1 rfl rfl rfl (by show 2 * 0 + _ ≤ _; exact Nat.le_of_eq rfl) (hb hby at_62) ?_
      rintro v8 T8 L8 X8 ⟨rfl, Nq8, e8⟩
      have N8 := Fr.app N0 Nq8
      show own_Ends _ _ _ _ _ _ _ T8 (mkF m 65 #[.val (.int p1), .val (.int p2), .val (.int p3), .val (.int (p2 &&& (2147483647 : Int32))), .val (.int (1 : Int32)), .val (.int p1), .val (.int (p2 &&& (2147483647 : Int32))), .val (.int (2147483647 : Int32)), .unset] [(.int (own_f1 p1 (p2 &&& (2147483647 : Int32))))])
      refine own_step (fun _ k => XS.istore X8.here hx rfl (hb hby at_65) rfl (l' := #[.val (.int p1), .val (.int p2), .val (.int p3), .val (.int (p2 &&& (2147483647 : Int32))), .val (.int (1 : Int32)), .val (.int p1), .val (.int (p2 &&& (2147483647 : Int32))), .val (.int (2147483647 : Int32)), .val (.int (own_f1 p1 (p2 &&& (2147483647 : Int32))))]) rfl k) ?_
      show own_Ends _ _ _ _ _ _ _ T8 (mkF m 67 #[.val (.int p1), .val (.int p2), .val (.int p3), .val (.int (p2 &&& (2147483647 : Int32))), .val (.int (1 : Int32)), .val (.int p1), .val (.int (p2 &&& (2147483647 : Int32))), .val (.int (2147483647 : Int32)), .val (.int (own_f1 p1 (p2 &&& (2147483647 : Int32))))] [])
      refine own_step (fun _ k => XS.iload X8.here hx rfl (hb hby at_67) rfl k) ?_
      show own_Ends _ _ _ _ _ _ _ T8 (mkF m 69 #[.val (.int p1), .val (.int p2), .val (.int p3), .val (.int (p2 &&& (2147483647 : Int32))), .val (.int (1 : Int32)), .val (.int p1), .val (.int (p2 &&& (2147483647 : Int32))), .val (.int (2147483647 : Int32)), .val (.int (own_f1 p1 (p2 &&& (2147483647 : Int32))))] [(.int (own_f1 p1 (p2 &&& (2147483647 : Int32))))])
      refine own_step (fun _ k => XS.iload X8.here hx rfl (hb hby at_69) rfl k) ?_
      show own_Ends _ _ _ _ _ _ _ T8 (mkF m 71 #[.val (.int p1), .val (.int p2), .val (.int p3), .val (.int (p2 &&& (2147483647 : Int32))), .val (.int (1 : Int32)), .val (.int p1), .val (.int (p2 &&& (2147483647 : Int32))), .val (.int (2147483647 : Int32)), .val (.int (own_f1 p1 (p2 &&& (2147483647 : Int32))))] [(.int (2147483647 : Int32)), (.int (own_f1 p1 (p2 &&& (2147483647 : Int32))))])
      by_cases hc9 : (own_f1 p1 (p2 &&& (2147483647 : Int32))) = (2147483647 : Int32)
      · refine own_step (fun _ k => XS.icmpNo X8.here hx rfl (hb hby at_71) rfl (teq hc9).2 k) ?_
        show own_Ends _ _ _ _ _ _ _ T8 (mkF m 74 #[.val (.int p1), .val (.int p2), .val (.int p3), .val (.int (p2 &&& (2147483647 : Int32))), .val (.int (1 : Int32)), .val (.int p1), .val (.int (p2 &&& (2147483647 : Int32))), .val (.int (2147483647 : Int32)), .val (.int (own_f1 p1 (p2 &&& (2147483647 : Int32))))] [])
        refine own_step (fun _ k => XS.iconst X8.here hx rfl (hb hby at_74) k) ?_
        show own_Ends _ _ _ _ _ _ _ T8 (mkF m 75 #[.val (.int p1), .val (.int p2), .val (.int p3), .val (.int (p2 &&& (2147483647 : Int32))), .val (.int (1 : Int32)), .val (.int p1), .val (.int (p2 &&& (2147483647 : Int32))), .val (.int (2147483647 : Int32)), .val (.int (own_f1 p1 (p2 &&& (2147483647 : Int32))))] [(.int (1 : Int32))])
        refine own_step (fun _ k => XS.goto X8.here hx rfl (pc0 := 75) (pc' := 79) rfl (hb hby at_75) (by decide) (by decide) k) ?_
        show own_Ends _ _ _ _ _ _ _ T8 (mkF m 79 #[.val (.int p1), .val (.int p2), .val (.int p3), .val (.int (p2 &&& (2147483647 : Int32))), .val (.int (1 : Int32)), .val (.int p1), .val (.int (p2 &&& (2147483647 : Int32))), .val (.int (2147483647 : Int32)), .val (.int (own_f1 p1 (p2 &&& (2147483647 : Int32))))] [(.int (1 : Int32))])
        exact own_retN X8 hx (t := .boolean) hret (by simp) hlk (hb hby at_79) rfl ⟨own_leafI ((if_neg hc1).trans ((if_pos hc7).trans (if_pos hc9))), N8⟩ (by decide) (by decide)
      · refine own_step (fun _ k => XS.icmpYes X8.here hx rfl (pc0 := 71) (pc' := 78) rfl (hb hby at_71) rfl (feq hc9).2 (by decide) (by decide) k) ?_
        show own_Ends _ _ _ _ _ _ _ T8 (mkF m 78 #[.val (.int p1), .val (.int p2), .val (.int p3), .val (.int (p2 &&& (2147483647 : Int32))), .val (.int (1 : Int32)), .val (.int p1), .val (.int (p2 &&& (2147483647 : Int32))), .val (.int (2147483647 : Int32)), .val (.int (own_f1 p1 (p2 &&& (2147483647 : Int32))))] [])
        refine own_step (fun _ k => XS.iconst X8.here hx rfl (hb hby at_78) k) ?_
        show own_Ends _ _ _ _ _ _ _ T8 (mkF m 79 #[.val (.int p1), .val (.int p2), .val (.int p3), .val (.int (p2 &&& (2147483647 : Int32))), .val (.int (1 : Int32)), .val (.int p1), .val (.int (p2 &&& (2147483647 : Int32))), .val (.int (2147483647 : Int32)), .val (.int (own_f1 p1 (p2 &&& (2147483647 : Int32))))] [(.int (0 : Int32))])
        exact own_retN X8 hx (t := .boolean) hret (by simp) hlk (hb hby at_79) rfl ⟨own_leafI ((if_neg hc1).trans ((if_pos hc7).trans (if_neg hc9))), N8⟩ (by decide) (by decide)
    · refine own_step (fun _ k => XS.icmpYes X0.here hx rfl (pc0 := 43) (pc' := 53) rfl (hb hby at_43) rfl (flt hc7).2.2.2 (by decide) (by decide) k) ?_
      show own_Ends _ _ _ _ _ _ _ T0 (mkF m 53 #[.val (.int p1), .val (.int p2), .val (.int p3), .val (.int (p2 &&& (2147483647 : Int32))), .val (.int (1 : Int32)), .val (.int p1), .val (.int (p2 &&& (2147483647 : Int32))), .unset, .unset] [])
      refine own_step (fun _ k => XS.iloadN X0.here hx rfl (hb hby at_53) rfl k) ?_
      show own_Ends _ _ _ _ _ _ _ T0 (mkF m 54 #[.val (.int p1), .val (.int p2), .val (.int p3), .val (.int (p2 &&& (2147483647 : Int32))), .val (.int (1 : Int32)), .val (.int p1), .val (.int (p2 &&& (2147483647 : Int32))), .unset, .unset] [(.int p1)])
      refine own_step (fun _ k => XS.iloadN X0.here hx rfl (hb hby at_54) rfl k) ?_
      show own_Ends _ _ _ _ _ _ _ T0 (mkF m 55 #[.val (.int p1), .val (.int p2), .val (.int p3), .val (.int (p2 &&& (2147483647 : Int32))), .val (.int (1 : Int32)), .val (.int p1), .val (.int (p2 &&& (2147483647 : Int32))), .unset, .unset] [(.int (p2 &&& (2147483647 : Int32))), (.int p1)])
      refine own_step (fun _ k => XS.iadd X0.here hx rfl (hb hby at_55) rfl k) ?_
      show own_Ends _ _ _ _ _ _ _ T0 (mkF m 56 #[.val (.int p1), .val (.int p2), .val (.int p3), .val (.int (p2 &&& (2147483647 : Int32))), .val (.int (1 : Int32)), .val (.int p1), .val (.int (p2 &&& (2147483647 : Int32))), .unset, .unset] [(.int (p1 + (p2 &&& (2147483647 : Int32))))])
      refine own_step (fun _ k => XS.istore X0.here hx rfl (hb hby at_56) rfl (l' := #[.val (.int p1), .val (.int p2), .val (.int p3), .val (.int (p2 &&& (2147483647 : Int32))), .val (.int (1 : Int32)), .val (.int p1), .val (.int (p2 &&& (2147483647 : Int32))), .val (.int (p1 + (p2 &&& (2147483647 : Int32)))), .unset]) rfl k) ?_
      show own_Ends _ _ _ _ _ _ _ T0 (mkF m 58 #[.val (.int p1), .val (.int p2), .val (.int p3), .val (.int (p2 &&& (2147483647 : Int32))), .val (.int (1 : Int32)), .val (.int p1), .val (.int (p2 &&& (2147483647 : Int32))), .val (.int (p1 + (p2 &&& (2147483647 : Int32)))), .unset] [])
      refine own_step (fun _ k => XS.iload X0.here hx rfl (hb hby at_58) rfl k) ?_
      show own_Ends _ _ _ _ _ _ _ T0 (mkF m 60 #[.val (.int p1), .val (.int p2), .val (.int p3), .val (.int (p2 &&& (2147483647 : Int32))), .val (.int (1 : Int32)), .val (.int p1), .val (.int (p2 &&& (2147483647 : Int32))), .val (.int (p1 + (p2 &&& (2147483647 : Int32)))), .unset] [(.int p1)])
      refine own_step (fun _ k => XS.iload X0.here hx rfl (hb hby at_60) rfl k) ?_
      show own_Ends _ _ _ _ _ _ _ T0 (mkF m 62 #[.val (.int p1), .val (.int p2), .val (.int p3), .val (.int (p2 &&& (2147483647 : Int32))), .val (.int (1 : Int32)), .val (.int p1), .val (.int (p2 &&& (2147483647 : Int32))), .val (.int (p1 + (p2 &&& (2147483647 : Int32)))), .unset] [(.int (p2 &&& (2147483647 : Int32))), (.int p1)])
      refine own_callS X0 hx hZ (y := (⟨"com/example/wirelane/wirelane/Credit", "add", "(II)I"⟩ : MethodName)) hown (hw _ (List.mem_of_getElem? (i := 1) rfl)) (hw _ (List.mem_of_getElem? (i := 2) rfl)) (hw _ (List.mem_of_getElem? (i := 3) rfl)) (hw _ (List.mem_of_getElem? (i := 4) rfl)) (by decide) (rm1 l Z a0 hw [] p1 (p2 &&& (2147483647 : Int32)) h0 n0 Z0) e0 0 (by decide) (by decide) (by decide) (by decide) (g := (mkF m 62 #[.val (.int p1), .val (.int p2), .val (.int p3), .val (.int (p2 &&& (2147483647 : Int32))), .val (.int (1 : Int32)), .val (.int p1), .val (.int (p2 &&& (2147483647 : Int32))), .val (.int (p1 + (p2 &&& (2147483647 : Int32)))), .unset] [(.int (p2 &&& (2147483647 : Int32))), (.int p1)])) rfl (by rw [hml]; rfl) [(.int p1), (.int (p2 &&& (2147483647 : Int32)))] [] pd_1 rfl rfl rfl (by show 2 * 0 + _ ≤ _; exact Nat.le_of_eq rfl) (hb hby at_62) ?_
      rintro v10 T10 L10 X10 ⟨rfl, Nq10, e10⟩
      have N10 := Fr.app N0 Nq10
      show own_Ends _ _ _ _ _ _ _ T10 (mkF m 65 #[.val (.int p1), .val (.int p2), .val (.int p3), .val (.int (p2 &&& (2147483647 : Int32))), .val (.int (1 : Int32)), .val (.int p1), .val (.int (p2 &&& (2147483647 : Int32))), .val (.int (p1 + (p2 &&& (2147483647 : Int32)))), .unset] [(.int (own_f1 p1 (p2 &&& (2147483647 : Int32))))])
      refine own_step (fun _ k => XS.istore X10.here hx rfl (hb hby at_65) rfl (l' := #[.val (.int p1), .val (.int p2), .val (.int p3), .val (.int (p2 &&& (2147483647 : Int32))), .val (.int (1 : Int32)), .val (.int p1), .val (.int (p2 &&& (2147483647 : Int32))), .val (.int (p1 + (p2 &&& (2147483647 : Int32)))), .val (.int (own_f1 p1 (p2 &&& (2147483647 : Int32))))]) rfl k) ?_
      show own_Ends _ _ _ _ _ _ _ T10 (mkF m 67 #[.val (.int p1), .val (.int p2), .val (.int p3), .val (.int (p2 &&& (2147483647 : Int32))), .val (.int (1 : Int32)), .val (.int p1), .val (.int (p2 &&& (2147483647 : Int32))), .val (.int (p1 + (p2 &&& (2147483647 : Int32)))), .val (.int (own_f1 p1 (p2 &&& (2147483647 : Int32))))] [])
      refine own_step (fun _ k => XS.iload X10.here hx rfl (hb hby at_67) rfl k) ?_
      show own_Ends _ _ _ _ _ _ _ T10 (mkF m 69 #[.val (.int p1), .val (.int p2), .val (.int p3), .val (.int (p2 &&& (2147483647 : Int32))), .val (.int (1 : Int32)), .val (.int p1), .val (.int (p2 &&& (2147483647 : Int32))), .val (.int (p1 + (p2 &&& (2147483647 : Int32)))), .val (.int (own_f1 p1 (p2 &&& (2147483647 : Int32))))] [(.int (own_f1 p1 (p2 &&& (2147483647 : Int32))))])
      refine own_step (fun _ k => XS.iload X10.here hx rfl (hb hby at_69) rfl k) ?_
      show own_Ends _ _ _ _ _ _ _ T10 (mkF m 71 #[.val (.int p1), .val (.int p2), .val (.int p3), .val (.int (p2 &&& (2147483647 : Int32))), .val (.int (1 : Int32)), .val (.int p1), .val (.int (p2 &&& (2147483647 : Int32))), .val (.int (p1 + (p2 &&& (2147483647 : Int32)))), .val (.int (own_f1 p1 (p2 &&& (2147483647 : Int32))))] [(.int (p1 + (p2 &&& (2147483647 : Int32)))), (.int (own_f1 p1 (p2 &&& (2147483647 : Int32))))])
      by_cases hc11 : (own_f1 p1 (p2 &&& (2147483647 : Int32))) = (p1 + (p2 &&& (2147483647 : Int32)))
      · refine own_step (fun _ k => XS.icmpNo X10.here hx rfl (hb hby at_71) rfl (teq hc11).2 k) ?_
        show own_Ends _ _ _ _ _ _ _ T10 (mkF m 74 #[.val (.int p1), .val (.int p2), .val (.int p3), .val (.int (p2 &&& (2147483647 : Int32))), .val (.int (1 : Int32)), .val (.int p1), .val (.int (p2 &&& (2147483647 : Int32))), .val (.int (p1 + (p2 &&& (2147483647 : Int32)))), .val (.int (own_f1 p1 (p2 &&& (2147483647 : Int32))))] [])
        refine own_step (fun _ k => XS.iconst X10.here hx rfl (hb hby at_74) k) ?_
        show own_Ends _ _ _ _ _ _ _ T10 (mkF m 75 #[.val (.int p1), .val (.int p2), .val (.int p3), .val (.int (p2 &&& (2147483647 : Int32))), .val (.int (1 : Int32)), .val (.int p1), .val (.int (p2 &&& (2147483647 : Int32))), .val (.int (p1 + (p2 &&& (2147483647 : Int32)))), .val (.int (own_f1 p1 (p2 &&& (2147483647 : Int32))))] [(.int (1 : Int32))])
        refine own_step (fun _ k => XS.goto X10.here hx rfl (pc0 := 75) (pc' := 79) rfl (hb hby at_75) (by decide) (by decide) k) ?_
        show own_Ends _ _ _ _ _ _ _ T10 (mkF m 79 #[.val (.int p1), .val (.int p2), .val (.int p3), .val (.int (p2 &&& (2147483647 : Int32))), .val (.int (1 : Int32)), .val (.int p1), .val (.int (p2 &&& (2147483647 : Int32))), .val (.int (p1 + (p2 &&& (2147483647 : Int32)))), .val (.int (own_f1 p1 (p2 &&& (2147483647 : Int32))))] [(.int (1 : Int32))])
        exact own_retN X10 hx (t := .boolean) hret (by simp) hlk (hb hby at_79) rfl ⟨own_leafI ((if_neg hc1).trans ((if_neg hc7).trans (if_pos hc11))), N10⟩ (by decide) (by decide)
      · refine own_step (fun _ k => XS.icmpYes X10.here hx rfl (pc0 := 71) (pc' := 78) rfl (hb hby at_71) rfl (feq hc11).2 (by decide) (by decide) k) ?_
        show own_Ends _ _ _ _ _ _ _ T10 (mkF m 78 #[.val (.int p1), .val (.int p2), .val (.int p3), .val (.int (p2 &&& (2147483647 : Int32))), .val (.int (1 : Int32)), .val (.int p1), .val (.int (p2 &&& (2147483647 : Int32))), .val (.int (p1 + (p2 &&& (2147483647 : Int32)))), .val (.int (own_f1 p1 (p2 &&& (2147483647 : Int32))))] [])
        refine own_step (fun _ k => XS.iconst X10.here hx rfl (hb hby at_78) k) ?_
        show own_Ends _ _ _ _ _ _ _ T10 (mkF m 79 #[.val (.int p1), .val (.int p2), .val (.int p3), .val (.int (p2 &&& (2147483647 : Int32))), .val (.int (1 : Int32)), .val (.int p1), .val (.int (p2 &&& (2147483647 : Int32))), .val (.int (p1 + (p2 &&& (2147483647 : Int32)))), .val (.int (own_f1 p1 (p2 &&& (2147483647 : Int32))))] [(.int (0 : Int32))])
        exact own_retN X10 hx (t := .boolean) hret (by simp) hlk (hb hby at_79) rfl ⟨own_leafI ((if_neg hc1).trans ((if_neg hc7).trans (if_neg hc11))), N10⟩ (by decide) (by decide)
theorem own_sum (x n : Int32) : (x.toInt64 + n.toInt64).toInt = x.toInt + n.toInt := by
  have h1 := c_ladd x.toInt64 n.toInt64
  have h2 := rng64 (x.toInt64 + n.toInt64)
  have h3 := rng32 x; have h4 := rng32 n
  rw [c_i2l, c_i2l] at h1; omega
theorem own_key (x n : Int32) (hn : 0 ≤ n.toInt) (a : Int64) (ha : a.toInt = x.toInt + n.toInt) : ((own_f2 (2147483647 : Int64) a).toInt32) = (if ((2147483647 : Int32) - n) < x then (2147483647 : Int32) else (x + n)) := by
  have h3 := rng32 x; have h4 := rng32 n
  have e1 : (2147483647 : Int64).toInt = 2147483647 := by decide
  have e2 : (2147483647 : Int32).toInt = 2147483647 := by decide
  have h5 := c_isub (2147483647 : Int32) n
  have h6 := rng32 ((2147483647 : Int32) - n)
  have h7 := c_iadd x n; have h8 := rng32 (x + n)
  simp only [own_f2, Int64.lt_iff_toInt_lt, Int32.lt_iff_toInt_lt]
  rw [← Int32.toInt_inj]
  by_cases c1 : a.toInt < (2147483647 : Int64).toInt
  · have h9 := c_l2i a; have h10 := rng32 a.toInt32
    rw [if_pos c1, if_neg (by omega)]; omega
  · rw [if_neg c1]
    have e3 : ((2147483647 : Int64).toInt32).toInt = 2147483647 := by decide
    by_cases c2 : ((2147483647 : Int32) - n).toInt < x.toInt
    · rw [if_pos c2, e3, e2]
    · rw [if_neg c2, e3]; omega
theorem own_key1 (x n : Int32) (hn : 0 ≤ n.toInt) : own_f1 x n = (if ((2147483647 : Int32) - n) < x then (2147483647 : Int32) else (x + n)) := own_key x n hn _ (own_sum x n)
theorem own_key2 (x n : Int32) (hn : 0 ≤ n.toInt) : own_f1 n x = (if ((2147483647 : Int32) - n) < x then (2147483647 : Int32) else (x + n)) := own_key x n hn _ (by rw [own_sum]; omega)
theorem own_law (x y z : Int32) : own_f0 x y z = 1 := by
  have hn := (c_and y (2147483647 : Int32) (by decide)).1
  have k1 := own_key1 x _ hn
  have k2 := own_key2 x _ hn
  unfold own_f0
  generalize (y &&& (2147483647 : Int32)) = n at *
  by_cases c1 : ((2147483647 : Int32) - n) < x
  · rw [if_pos c1] at k1 k2
    simp only [k1, k2, if_pos c1, if_true, ite_self]
  · rw [if_neg c1] at k1 k2
    simp only [k1, k2, if_neg c1, if_true, ite_self]
set_option maxRecDepth 65536 in
set_option maxHeartbeats 40000000 in
theorem comes_1 {Post : Tables → Env → Array Value → State → Outcome → State → Prop} (hpost : ∀ tb e args s v u, (limb_1_1.after args s (.returned v) u = true ∧ limb_1_2.after args s (.returned v) u = true ∧ True) → FrameEnd s (.returned v) u (Jvm.fieldLocs frame_1_writes args s ++ Jvm.arrayLocs frame_1_arrays args s ++ Jvm.staticLocs frame_1_statics s) 0 0 → Post tb e args s (.returned v) u) :
    ArmFor flags0 classFile x code maxLocals ret World_1 tables_1 room_1 Calls_1 rest_1 Pre_1 Post := by
  intro l hfl _ _ p e ha hc hk s m args below hf hA hF happ hP
  obtain ⟨hcalls, hrest, hpre⟩ := hP
  obtain ⟨-, -, -, hnamed, -, -, -, hat⟩ := (Spec.applies_iff hf).mp happ
  obtain ⟨hg, hn⟩ := and_e (Cond.before_iff.mp (show (Jvm.Cond.and given_1 narrow_1).before args s = true from hpre))
  obtain ⟨gc, g0⟩ := and_e hg
  obtain ⟨h0, g1⟩ := and_e g0
  obtain ⟨h1, g2⟩ := and_e g1
  have h2 := g2
  obtain ⟨w0, w1, w2, rfl⟩ : ∃ w0 w1 w2 : Value, args = #[w0, w1, w2] := by
    have hs : args.size = 3 := by simpa [Cond.value, given_1] using gc
    obtain ⟨L⟩ := args
    match L, hs with
    | [w0, w1, w2], _ => exact ⟨w0, w1, w2, rfl⟩
  have hw := fun d (hd : d ∈ tables_1) => atoms_spec (ws := Jvm.Cond.code x code maxLocals ret :: tables_1) hat d (List.mem_cons_of_mem _ hd)
  have hfit : Fit s := fun {y c} hc i hi => by
    obtain ⟨ha, rfl⟩ := Array.getElem?_eq_some_iff.mp hc
    have q := List.all_eq_true.mp ((Array.all_eq_true_iff_forall_mem.mp hF) _ (Array.getElem_mem ha)) i (List.mem_range.mpr hi)
    simpa [Array.getElem?_eq_getElem hi] using q
  obtain ⟨i0, ei0⟩ := is_v h0
  obtain rfl : w0 = (.int i0) := Option.some.inj ei0
  obtain ⟨i1, ei1⟩ := is_v h1
  obtain rfl : w1 = (.int i1) := Option.some.inj ei1
  obtain ⟨i2, ei2⟩ := is_v h2
  obtain rfl : w2 = (.int i2) := Option.some.inj ei2
  obtain ⟨n, o, h1, h2, h3, _, L, rfl, ⟨rfl, N⟩, hq⟩ := rm0 l s _ hw tables_1 i0 i1 i2 s.heap s.heap.size (Nat.le_refl _) p e ha hc hk s m _ below hf ((Spec.applies_iff_loose hf).mp happ).1 ⟨rfl, State.Warmed39.refl s, rfl⟩ trivial
  refine ⟨n, _, h1, h2, h3, hpost _ _ _ _ _ _ ⟨Cond.after_iff.mpr rfl, Cond.after_iff.mpr (eq_i res_at (Term.int_eval (1)) (congrArg Value.int (own_law i0 i1 i2))), trivial⟩ ⟨hq.1, hq.2.1, (hq.2.2.sift fun y hy => Or.inr (N y hy)).mono (by decide) (by decide)⟩⟩
theorem main_1_1 : Claimed_1_1 := comes_1 fun _ _ _ _ _ _ h hF => ⟨h.1, hF⟩
theorem main_1_2 : Claimed_1_2 := comes_1 fun _ _ _ _ _ _ h hF => ⟨h.2.1, hF⟩
end Jvm.Pilot.@@N@@
namespace Jvm.Pilot.@@N@@
open Jvm Jvm.ClassFile Sem Op Lib Jvm.Free Jvm.Stand Jvm.Pilot.@@N@@.Jvm.D
/-! MADE BY PROGRAM (witnessworld.py) out of the Statement's table words and the real class files: 10 classes; the members and pool entries that the words name. The judged class is class 1, her method 1. -/
namespace start1
open Jvm.ClassFile
def u (s : String) : CpInfo := .utf8 (stringToUtf16 s)
/-- a pool by its gaps: so many unusable entries, then the entry; so many at the end -/
def gap : Nat → List CpInfo → List CpInfo
  | 0, r => r
  | n + 1, r => .unusable :: gap n r
def poolList (es : List (Nat × CpInfo)) (last : Nat) : List CpInfo := es.foldr (fun e r => gap e.1 (e.2 :: r)) (gap last [])
def pool (es : List (Nat × CpInfo)) (last : Nat) : Array CpInfo := ⟨poolList es last⟩
def fileOf (pool : Array CpInfo) (this : Nat) (attrs : Array Attribute := #[]) (ms : Array MethodInfo := #[]) (fl : Nat := 33) (sup : Nat := 0) (ifs : Array Nat := #[]) (fds : Array FieldInfo := #[]) : ClassFile where
  minorVersion := 0
  majorVersion := 65
  constantPool := pool
  accessFlags := fl
  thisClass := this
  superClass := sup
  interfaces := ifs
  fields := fds
  methods := ms
  attributes := attrs
def plain (name : String) (sup : Option ClassId) : Class where
  name := name
  kind := .ordinary
  loader := none
  accessFlags := 33
  super := sup
  interfaces := #[]
  cf := none
  fields := #[]
  methods := #[]
  instanceTypes := #[]
  staticTypes := #[]
  resolved := #[]
  callSites := []
  init := .initialized
  statics := none
  mirror := none

def pool0 : Array CpInfo := pool [(5, u "<init>"), (0, u "()V"), (1, .class_ 10), (1, u "java/lang/Object")] 113

def k0m0 : Method := { name := "<init>", desc := "()V", sig := { parameters := [], returnType := none }, accessFlags := 1, code := none }
/-- java/lang/Object -/
def k0 : Class := { plain "java/lang/Object" none with
  accessFlags := 33
  interfaces := #[]
  cf := some (fileOf pool0 8 #[] #[{ accessFlags := 1, nameIndex := 5, descriptorIndex := 6, attributes := #[] }] 33 0 #[] #[])
  fields := #[]
  methods := #[k0m0]
  instanceTypes := #[]
  staticTypes := #[]
  resolved := Array.replicate 124 none
  statics := none }

def pool1 : Array CpInfo := pool [(2, .class_ 4), (1, u "java/lang/Object"), (0, u "<init>"), (0, u "()V"), (0, .integer 2147483647), (2, .methodref 11 12), (0, .class_ 13), (0, .nameAndType 14 15), (0, u "com/example/wirelane/wirelane/Credit"), (0, u "add"), (0, u "(II)I"), (0, .class_ 17), (0, u "com/example/wirelane/wirelane/CreditAddPinLaw"), (2, u "law"), (0, u "(III)Z")] 3

def k1m0 : Method := { name := "<init>", desc := "()V", sig := { parameters := [], returnType := none }, accessFlags := 2, code := none }
def k1c1 : Code := { maxStack := 3, maxLocals := 9, code := code, exceptionTable := #[], attributes := #[] }
def k1m1 : Method := { name := "law", desc := "(III)Z", sig := { parameters := [.int, .int, .int], returnType := some .boolean }, accessFlags := 9, code := some k1c1 }
/-- com/example/wirelane/wirelane/CreditAddPinLaw -/
def k1 : Class := { plain "com/example/wirelane/wirelane/CreditAddPinLaw" (some 0) with
  accessFlags := 49
  interfaces := #[]
  cf := some (fileOf pool1 16 #[] #[{ accessFlags := 2, nameIndex := 5, descriptorIndex := 6, attributes := #[] }, { accessFlags := 9, nameIndex := 20, descriptorIndex := 21, attributes := #[] }] 49 2 #[] #[])
  fields := #[]
  methods := #[k1m0, k1m1]
  instanceTypes := #[]
  staticTypes := #[]
  resolved := Array.replicate 25 none
  statics := none }

def pool2 : Array CpInfo := pool [(4, .class_ 6), (1, u "java/lang/Object"), (0, u "<init>"), (0, u "()V"), (9, .class_ 19), (0, u "com/example/wirelane/wirelane/Credit"), (0, .long 2147483647), (1, .methodref 23 24), (0, .class_ 25), (0, .nameAndType 26 27), (0, u "java/lang/Math"), (0, u "min"), (0, u "(JJ)J"), (0, u "MAX"), (0, u "I"), (7, u "add"), (0, u "(II)I")] 17

def k2m0 : Method := { name := "<init>", desc := "()V", sig := { parameters := [], returnType := none }, accessFlags := 2, code := none }
def k2c1 : Code := { maxStack := 6, maxLocals := 2, code := prog_5_method_3_code, exceptionTable := #[], attributes := #[] }
def k2m1 : Method := { name := "add", desc := "(II)I", sig := { parameters := [.int, .int], returnType := some .int }, accessFlags := 8, code := some k2c1 }
/-- com/example/wirelane/wirelane/Credit -/
def k2 : Class := { plain "com/example/wirelane/wirelane/Credit" (some 0) with
  accessFlags := 48
  interfaces := #[]
  cf := some (fileOf pool2 18 #[] #[{ accessFlags := 2, nameIndex := 7, descriptorIndex := 8, attributes := #[] }, { accessFlags := 8, nameIndex := 37, descriptorIndex := 38, attributes := #[] }] 48 4 #[] #[{ accessFlags := 24, nameIndex := 28, descriptorIndex := 29, attributes := #[] }])
  fields := #[{ name := "MAX", type := .int, accessFlags := 24, slot := 0, constantValue := 0 }]
  methods := #[k2m0, k2m1]
  instanceTypes := #[]
  staticTypes := #[.int]
  resolved := Array.replicate 56 none
  statics := none }

def pool3 : Array CpInfo := pool [(1, .class_ 2), (0, u "java/lang/Math"), (1, .class_ 6), (1, u "java/lang/Object"), (0, u "<init>"), (0, u "()V"), (89, .class_ 100), (1, u "java/lang/Math$RandomNumberGeneratorHolder"), (20, u "(JJ)J"), (50, u "negativeZeroFloatBits"), (0, u "J"), (2, u "negativeZeroDoubleBits"), (24, u "min"), (43, u "$assertionsDisabled"), (0, u "Z"), (91, u "twoToTheDoubleScaleDown"), (0, u "D"), (4, u "twoToTheDoubleScaleUp"), (9, u "E"), (3, u "PI"), (2, u "TAU"), (2, u "DEGREES_TO_RADIANS"), (0, u "RADIANS_TO_DEGREES")] 94

def k3m0 : Method := { name := "<init>", desc := "()V", sig := { parameters := [], returnType := none }, accessFlags := 2, code := none }
def k3c1 : Code := { maxStack := 4, maxLocals := 4, code := jdk_29_method_70_code, exceptionTable := #[], attributes := #[] }
def k3m1 : Method := { name := "min", desc := "(JJ)J", sig := { parameters := [.long, .long], returnType := some .long }, accessFlags := 9, code := some k3c1 }
/-- java/lang/Math -/
def k3 : Class := { plain "java/lang/Math" (some 0) with
  accessFlags := 49
  interfaces := #[]
  cf := some (fileOf pool3 1 #[.nestMembers #[98]] #[{ accessFlags := 2, nameIndex := 7, descriptorIndex := 8, attributes := #[] }, { accessFlags := 9, nameIndex := 201, descriptorIndex := 121, attributes := #[] }] 49 4 #[] #[{ accessFlags := 25, nameIndex := 354, descriptorIndex := 339, attributes := #[] }, { accessFlags := 25, nameIndex := 358, descriptorIndex := 339, attributes := #[] }, { accessFlags := 25, nameIndex := 361, descriptorIndex := 339, attributes := #[] }, { accessFlags := 26, nameIndex := 364, descriptorIndex := 339, attributes := #[] }, { accessFlags := 26, nameIndex := 365, descriptorIndex := 339, attributes := #[] }, { accessFlags := 26, nameIndex := 172, descriptorIndex := 173, attributes := #[] }, { accessFlags := 26, nameIndex := 176, descriptorIndex := 173, attributes := #[] }, { accessFlags := 8, nameIndex := 344, descriptorIndex := 339, attributes := #[] }, { accessFlags := 8, nameIndex := 338, descriptorIndex := 339, attributes := #[] }, { accessFlags := 4120, nameIndex := 245, descriptorIndex := 246, attributes := #[] }])
  fields := #[{ name := "E", type := .double, accessFlags := 25, slot := 0, constantValue := 0 }, { name := "PI", type := .double, accessFlags := 25, slot := 1, constantValue := 0 }, { name := "TAU", type := .double, accessFlags := 25, slot := 2, constantValue := 0 }, { name := "DEGREES_TO_RADIANS", type := .double, accessFlags := 26, slot := 3, constantValue := 0 }, { name := "RADIANS_TO_DEGREES", type := .double, accessFlags := 26, slot := 4, constantValue := 0 }, { name := "negativeZeroFloatBits", type := .long, accessFlags := 26, slot := 5, constantValue := 0 }, { name := "negativeZeroDoubleBits", type := .long, accessFlags := 26, slot := 6, constantValue := 0 }, { name := "twoToTheDoubleScaleUp", type := .double, accessFlags := 8, slot := 7, constantValue := 0 }, { name := "twoToTheDoubleScaleDown", type := .double, accessFlags := 8, slot := 8, constantValue := 0 }, { name := "$assertionsDisabled", type := .boolean, accessFlags := 4120, slot := 9, constantValue := 0 }]
  methods := #[k3m0, k3m1]
  instanceTypes := #[]
  staticTypes := #[.double, .double, .double, .double, .double, .long, .long, .double, .double, .boolean]
  resolved := Array.replicate 460 none
  statics := none }

def pool4 : Array CpInfo := pool [(1, u "java/lang/Cloneable"), (0, .class_ 1), (0, u "java/lang/Object"), (0, .class_ 3)] 3

/-- java/lang/Cloneable -/
def k4 : Class := { plain "java/lang/Cloneable" (some 0) with
  accessFlags := 1537
  interfaces := #[]
  cf := some (fileOf pool4 2 #[] #[] 1537 4 #[] #[])
  fields := #[]
  methods := #[]
  instanceTypes := #[]
  staticTypes := #[]
  resolved := Array.replicate 8 none
  statics := none }

def pool5 : Array CpInfo := pool [(1, u "java/io/Serializable"), (0, .class_ 1), (0, u "java/lang/Object"), (0, .class_ 3)] 3

/-- java/io/Serializable -/
def k5 : Class := { plain "java/io/Serializable" (some 0) with
  accessFlags := 1537
  interfaces := #[]
  cf := some (fileOf pool5 2 #[] #[] 1537 4 #[] #[])
  fields := #[]
  methods := #[]
  instanceTypes := #[]
  staticTypes := #[]
  resolved := Array.replicate 8 none
  statics := none }

/-- the primitive byte -/
def k6 : Class := { plain "byte" none with kind := .primitive 'B', accessFlags := 0x411 }
/-- [B -/
def k7 : Class := { plain "[B" (some 0) with kind := .array 6 .byte, interfaces := #[4, 5], accessFlags := 1041 }

/-- the primitive int -/
def k8 : Class := { plain "int" none with kind := .primitive 'I', accessFlags := 0x411 }
/-- [I -/
def k9 : Class := { plain "[I" (some 0) with kind := .array 8 .int, interfaces := #[4, 5], accessFlags := 1041 }

def heap : Heap := #[]
def classes : Array Class := #[k0, k1, k2, k3, k4, k5, k6, k7, k8, k9]
def interned : List (Array UInt16 × Addr) := []
def slotsUsed : Nat := 0
def theMethod : MethodId := ⟨1, 1⟩
def args0 : Array Value := #[.int 65, .int 7, .int 1]
def aboutOver (below : List Frame) : State where
  vm := { classes := classes, interned := interned.toArray }
  heap := heap
  slotsUsed := slotsUsed
  threads := #[{ frames := .invoking theMethod args0 :: below }]
def below0 : List Frame := [.native { method := ⟨0, 0⟩, args := #[] }]
def about1 : State := aboutOver below0
def p0 : Program := .bare "" "" ""
def e0 : Env := launch0.env 0 0 0
theorem w_frames : about1.frames = Frame.invoking theMethod args0 :: below0 := rfl
set_option maxRecDepth 65536 in
theorem w_args : argsFit about1.vm theMethod args0 = true := by decide +kernel
set_option maxRecDepth 65536 in
theorem w_heap : heapFits about1 = true := by decide +kernel
set_option maxRecDepth 65536 in
theorem w_runnable : about1.curStatus? = some .runnable := by decide +kernel
set_option maxRecDepth 65536 in
theorem w_alone : about1.alone = true := by decide +kernel
set_option maxRecDepth 65536 in
theorem w_named : about1.methodNamed? x = some theMethod := by decide +kernel
set_option maxRecDepth 65536 in
theorem w_hears : about1.hears theMethod below0 = true := by decide +kernel
set_option maxRecDepth 65536 in
theorem w_ripe : about1.ripe theMethod args0 below0 = true := by decide +kernel
theorem w_running : about1.status = .running := rfl
set_option maxRecDepth 65536 in
theorem w_room : about1.hasRoom e0.platform room_1 = true :=
  launch0.hasRoom_least _ room_1 (by decide +kernel) (by decide +kernel) (by decide +kernel) (by decide +kernel) (by decide +kernel) (by decide +kernel)
theorem allAtoms_all (ts : List Jvm.Cond) (a : Array Jvm.Value) (st : Jvm.State) : (allAtoms ts).before a st = ts.all (fun c => c.before a st) := by
  induction ts with
  | nil => rfl
  | cons c t ih =>
    show (Jvm.Cond.and c (allAtoms t)).before a st = _
    rw [Jvm.Cond.before_and, ih, List.all_cons]
def words1 : List Jvm.Cond := Jvm.Cond.code x code maxLocals ret :: tables_1
/-- a 'code' word, met by the world's own term for the bytes: nothing is compared byte by byte -/
theorem code_word {y : MethodName} {bytes : ByteArray} {mx : Nat} {rt : Option FieldType} {a : Array Value} {s : State} {m : MethodId} {meth : Method} {c : Code} (h1 : s.methodNamed? y = some m) (h2 : s.vm.method? m = some meth) (h3 : meth.code = some c) (h4 : c.code = bytes)
    (h5 : (c.maxLocals == mx && c.exceptionTable.isEmpty && decide (c.maxStack ≤ mostOperands) && decide (meth.sig.returnType = rt) && !meth.locks && decide (parseMethodDescriptor y.desc = some meth.sig)) = true) : (Jvm.Cond.code y bytes mx rt).before a s = true := by
  simp only [Bool.and_eq_true, beq_iff_eq, Bool.not_eq_true', decide_eq_true_eq] at h5
  obtain ⟨⟨⟨⟨⟨g1, g2⟩, g3⟩, g4⟩, g5⟩, g6⟩ := h5
  simp [Cond.before, Cond.holds, Cond.value, h1, h2, h3, h4, g1, g2, g3, g4, g5, g6]
def isCode : Jvm.Cond → Bool
  | .code _ _ _ _ => true
  | _ => false
theorem all_split {L : List Jvm.Cond} {P : Jvm.Cond → Bool} (h1 : L.all (fun c => isCode c || P c) = true) (h2 : ∀ c ∈ L.filter isCode, P c = true) : L.all P = true := by
  refine List.all_eq_true.mpr fun c hc => ?_
  have h := List.all_eq_true.mp h1 c hc
  rcases Bool.eq_false_or_eq_true (isCode c) with hi | hi
  · exact h2 c (List.mem_filter.mpr ⟨hc, hi⟩)
  · simpa [hi] using h
set_option maxRecDepth 65536 in
theorem w_c0 : (Jvm.Cond.code x code maxLocals ret).before args0 about1 = true := code_word (m := ⟨1, 1⟩) (meth := k1m1) (c := k1c1) (by decide +kernel) rfl rfl rfl (by decide +kernel)
set_option maxRecDepth 65536 in
theorem w_c1 : (Jvm.Cond.code ({ cls := "com/example/wirelane/wirelane/Credit", name := "add", desc := "(II)I" } : Jvm.MethodName) prog_5_method_3_code (2 : Nat) (Option.some Jvm.ClassFile.FieldType.int)).before args0 about1 = true := code_word (m := ⟨2, 1⟩) (meth := k2m1) (c := k2c1) (by decide +kernel) rfl rfl rfl (by decide +kernel)
set_option maxRecDepth 65536 in
theorem w_c2 : (Jvm.Cond.code ({ cls := "java/lang/Math", name := "min", desc := "(JJ)J" } : Jvm.MethodName) jdk_29_method_70_code (4 : Nat) (Option.some Jvm.ClassFile.FieldType.long)).before args0 about1 = true := code_word (m := ⟨3, 1⟩) (meth := k3m1) (c := k3c1) (by decide +kernel) rfl rfl rfl (by decide +kernel)
def codes1 : List Jvm.Cond := [Jvm.Cond.code x code maxLocals ret, Jvm.Cond.code ({ cls := "com/example/wirelane/wirelane/Credit", name := "add", desc := "(II)I" } : Jvm.MethodName) prog_5_method_3_code (2 : Nat) (Option.some Jvm.ClassFile.FieldType.int), Jvm.Cond.code ({ cls := "java/lang/Math", name := "min", desc := "(JJ)J" } : Jvm.MethodName) jdk_29_method_70_code (4 : Nat) (Option.some Jvm.ClassFile.FieldType.long)]
set_option maxRecDepth 65536 in
theorem codes_eq : words1.filter isCode = codes1 := rfl
theorem w_codes : ∀ c ∈ words1.filter isCode, c.before args0 about1 = true := by
  rw [codes_eq]
  intro c hc
  simp only [codes1, List.mem_cons, List.not_mem_nil, or_false] at hc
  rcases hc with rfl | rfl | rfl
  · exact w_c0
  · exact w_c1
  · exact w_c2
set_option maxRecDepth 65536 in
theorem w_t1 : words1.all (fun c => isCode c || c.before args0 about1) = true := by decide +kernel
theorem w_tables : (allAtoms (Jvm.Cond.code x code maxLocals ret :: tables_1)).before args0 about1 = true := by
  rw [allAtoms_all]
  show words1.all (fun c => c.before args0 about1) = true
  refine all_split ?_ w_codes
  rw [w_t1]
set_option maxRecDepth 65536 in
theorem w_case : (Jvm.Cond.and given_1 narrow_1).before args0 about1 = true := by decide +kernel
theorem w_applies : (headSpec (Jvm.Cond.code x code maxLocals ret :: tables_1) room_1).applies x e0.platform about1 = true :=
  (Spec.applies_iff w_frames).mpr ⟨w_running, w_runnable, w_alone, w_named, w_hears, w_ripe, w_room, w_tables⟩
theorem atStart : AtStart classFile x code maxLocals ret World_1 tables_1 room_1 Calls_1 rest_1 Pre_1 launch0 p0 e0 about1 theMethod args0 below0 :=
  ⟨lists_1, trivial, launch0.admits_env _ _ _, launch0.least_env, fairChoices_fair.cas, fairChoices_fair.clock, w_frames, w_args, w_heap, w_applies, trivial, trivial, w_case⟩
end start1
theorem witness_1 : WitnessClaimed_1 := ⟨start1.p0, start1.e0, start1.about1, start1.theMethod, start1.args0, start1.below0, start1.atStart⟩
end Jvm.Pilot.@@N@@
