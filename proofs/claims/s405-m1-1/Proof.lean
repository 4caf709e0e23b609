import JvmDerived
import JvmDerived.Pilot.@@N@@Statement
import JvmDerived.Pilot.@@N@@Code
set_option linter.unusedVariables false
set_option linter.unusedSimpArgs false
namespace Jvm.RoadKit
open Sem ClassFile Op Lib Jvm.Stand Jvm.Free Jvm.LawKit
section Own
variable {p : Program} {l : Launch} {e : Env} {R : Room} {s : State} {m : MethodId} {args : Array Value} {below : List Frame} {meth : Method} {c : Code} {T : State} {locs : List Loc} {cells slots : Nat} {Z : State} {a0 : Array Value} {h : Heap}
/-- from T, with g on top, this invocation comes to its return and Q holds of what it leaves -/
def own_Ends (p : Program) (e : Env) (below : List Frame) (s : State) (Q : Option Value → Heap → List Loc → Prop) (k n : Nat) (T : State) (g : JFrame) : Prop :=
  ∃ s₂ o, Steps p.tables e below (T.setTop g) s₂ ∧ s₂.status = .running ∧ Ended s₂ below o ∧ ∃ v L, o = .returned v ∧ Q v s₂.heap L ∧ FrameEnd s o s₂ L k n
theorem own_step {Q : Option Value → Heap → List Loc → Prop} {k n : Nat} {T' : State} {g g' : JFrame} (h : ∀ t, Steps p.tables e below (T'.setTop g') t → Steps p.tables e below (T.setTop g) t) (H : own_Ends p e below s Q k n T' g') : own_Ends p e below s Q k n T g := by
  obtain ⟨s₂, o, h1, r⟩ := H
  exact ⟨s₂, o, h _ h1, r⟩
theorem own_ret (X : Stand p l e R s m args below meth c T locs cells slots) {v : Option Value} (hv : meth.sig.returnType = none → v = none) (hlk : meth.locks = false) {g : JFrame} {Q : Option Value → Heap → List Loc → Prop} {k n : Nat}
    (st : ∀ fs, (∀ (f : JFrame) (acts : List Action), f.method = m → f.locked = none → f.entered = [] → (doReturn e (T.setTop f) acts v).1 = T.setFrames fs) → Steps p.tables e below (T.setTop g) (T.setFrames fs))
    (hQ : Q v T.heap locs) (hk : cells ≤ k) (hn : slots ≤ n) : own_Ends p e below s Q k n T g := by
  obtain ⟨fs, hr, hrun, hended, hW, hsame⟩ := X.leave (v := v) hv hlk
  exact ⟨_, _, st fs hr, hrun, hended, v, locs, rfl, hQ, ⟨_, rfl⟩, hW, hsame.mono hk hn⟩
theorem own_retI (X : Stand p l e R s m args below meth c T locs cells slots) (hx : p.tables.exec = Jvm.exec) (hret : meth.sig.returnType = some .int) (hlk : meth.locks = false) {pc : Nat} {Ls : Array Slot} {z : Int32} {rest : List Value} (hd : decode c.code pc = .ok (.ireturn, 1)) {Q : Option Value → Heap → List Loc → Prop} {k n : Nat}
    (hQ : Q (some (.int z)) T.heap locs) (hk : cells ≤ k) (hn : slots ≤ n) : own_Ends p e below s Q k n T (mkF m pc Ls (.int z :: rest)) :=
  own_ret X (fun q => by rw [hret] at q; cases q) hlk (fun fs hr => retOut X hx hret rfl (Or.inl ⟨rfl, Or.inl rfl, z, rfl⟩) hd hr) hQ hk hn
theorem own_retN (X : Stand p l e R s m args below meth c T locs cells slots) (hx : p.tables.exec = Jvm.exec) {t : FieldType} (hret : meth.sig.returnType = some t) (ht : t = .boolean ∨ t = .byte ∨ t = .char ∨ t = .short) (hlk : meth.locks = false) {pc : Nat} {Ls : Array Slot} {z v : Int32} {rest : List Value} (hd : decode c.code pc = .ok (.ireturn, 1)) {Q : Option Value → Heap → List Loc → Prop} {k n : Nat}
    (hv : nar t z = v) (hQ : Q (some (.int v)) T.heap locs) (hk : cells ≤ k) (hn : slots ≤ n) : own_Ends p e below s Q k n T (mkF m pc Ls (.int z :: rest)) :=
  own_ret X (v := some (.int v)) (fun q => by rw [hret] at q; cases q) hlk (fun fs hr => retN X hx hret ht hd (by rw [hv]; exact hr)) hQ hk hn
theorem own_retL (X : Stand p l e R s m args below meth c T locs cells slots) (hx : p.tables.exec = Jvm.exec) (hret : meth.sig.returnType = some .long) (hlk : meth.locks = false) {pc : Nat} {Ls : Array Slot} {z : Int64} {rest : List Value} (hd : decode c.code pc = .ok (.lreturn, 1)) {Q : Option Value → Heap → List Loc → Prop} {k n : Nat}
    (hQ : Q (some (.long z)) T.heap locs) (hk : cells ≤ k) (hn : slots ≤ n) : own_Ends p e below s Q k n T (mkF m pc Ls (.long z :: rest)) :=
  own_ret X (fun q => by rw [hret] at q; cases q) hlk (fun fs hr => retOut X hx hret rfl (Or.inr (Or.inl ⟨rfl, rfl, z, rfl⟩)) hd hr) hQ hk hn
theorem own_retA (X : Stand p l e R s m args below meth c T locs cells slots) (hx : p.tables.exec = Jvm.exec) {t : FieldType} (hret : meth.sig.returnType = some t) (ht : t.isReference = true) (hlk : meth.locks = false) {pc : Nat} {Ls : Array Slot} {z : Value} {rest : List Value} (hz : z.isRef = true) (hn0 : narrow t z = z) (hd : decode c.code pc = .ok (.areturn, 1)) {Q : Option Value → Heap → List Loc → Prop} {k n : Nat}
    (hQ : Q (some z) T.heap locs) (hk : cells ≤ k) (hn : slots ≤ n) : own_Ends p e below s Q k n T (mkF m pc Ls (z :: rest)) :=
  own_ret X (fun q => by rw [hret] at q; cases q) hlk (fun fs hr => retOut X hx hret hn0 (Or.inr (Or.inr (Or.inr (Or.inr ⟨rfl, ht, hz⟩)))) hd hr) hQ hk hn
theorem own_retV (X : Stand p l e R s m args below meth c T locs cells slots) (hx : p.tables.exec = Jvm.exec) (hret : meth.sig.returnType = none) (hlk : meth.locks = false) {pc : Nat} {Ls : Array Slot} (hd : decode c.code pc = .ok (.return_, 1)) {Q : Option Value → Heap → List Loc → Prop} {k n : Nat}
    (hQ : Q none T.heap locs) (hk : cells ≤ k) (hn : slots ≤ n) : own_Ends p e below s Q k n T (mkF m pc Ls []) :=
  own_ret X (fun _ => rfl) hlk (fun fs hr => X.returnOut hx hret hd hr) hQ hk hn
/-- a contract: called with as' over the heap h0, the method comes back and Q holds -/
def own_Met (l : Launch) (y : MethodName) (bytes : ByteArray) (maxL : Nat) (ret : Option FieldType) (ws : List Jvm.Cond) (rm : Room) (as' : Array Value) (Z : State) (h0 : Heap) (Q : Option Value → Heap → List Loc → Prop) : Prop :=
  MetFree l y (head1 (Jvm.Cond.code y bytes maxL ret :: ws) rm) (fun a U => a = as' ∧ Z.Warmed39 U.vm ∧ U.heap = h0) (fun _ _ _ _ _ => True) (fun _ U o U' => ∃ v L, o = .returned v ∧ Q v U'.heap L ∧ FrameEnd U o U' L rm.cells rm.slots)
theorem own_body {y : MethodName} {bytes : ByteArray} {maxL : Nat} {ret : Option FieldType} {ws : List Jvm.Cond} {rm : Room} {as' : Array Value} {h0 : Heap} {Q : Option Value → Heap → List Loc → Prop} (hy : plainFor y = true) {g0 : MethodId → JFrame} (ef : ∀ m, entryFrame m as' maxL = g0 m)
    (body : ∀ (p : Program) (e : Env) (s : State) (m : MethodId) (below : List Frame) (meth : Method) (c : Code) (T : State), Stand p l e rm s m as' below meth c T [] 0 0 → p.tables.exec = Jvm.exec → c.code = bytes → c.maxLocals = maxL → meth.sig.returnType = ret → meth.locks = false → meth.name = y.name → s.vm.findClass y.cls = some m.cls → Z.Warmed39 s.vm → T.heap = h0 → own_Ends p e below s Q rm.cells rm.slots T (g0 m)) :
    own_Met l y bytes maxL ret ws rm as' Z h0 Q := by
  refine MetFree.of_bodySF hy hisR ?_
  intro p e s m args below meth c s₁ Bd hml hP hK
  obtain ⟨ha, hZ, hh⟩ := hP
  subst ha
  have q := body p e s m below meth c s₁ (Stand.of_body Bd) Bd.exec Bd.bytes hml Bd.returns Bd.notSynchronized (name_of_methodNamed Bd.named Bd.method).1 (findClass_of_methodNamed Bd.named) hZ (by rw [← hh, Bd.state]; rfl)
  rw [← ef m] at q
  exact q
theorem own_callS (X : Stand p l e R s m args below meth c T locs cells slots) (hx : p.tables.exec = Jvm.exec) (hZ : Z.Warmed39 s.vm) {own : String} {index : Nat} {y : MethodName} {bytes : ByteArray} {maxL : Nat} {ret : Option FieldType}
    (hown : s.vm.findClass own = some m.cls) (wl : (Jvm.Cond.methodLink own index y).before a0 Z = true) (wst : (Jvm.Cond.static y).before a0 Z = true) (wi : (Jvm.Cond.initialized y.cls).before a0 Z = true) (wc : (Jvm.Cond.code y bytes maxL ret).before a0 Z = true)
    (hy : y.cls ≠ "java/lang/invoke/MethodHandle" ∧ y.cls ≠ "java/lang/invoke/VarHandle") {rm : Room} {as' : Array Value} {Qc : Option Value → Heap → List Loc → Prop} (hM : own_Met l y bytes maxL ret [] rm as' Z h Qc) (eT : T.heap = h) (W : Nat)
    (hf : rm.frames + 1 ≤ R.frames) (hlo : W + (maxL + 11) + rm.locals ≤ R.locals) (hcl : cells + rm.cells ≤ R.cells) (hsl : slots + rm.slots ≤ R.slots)
    {g : JFrame} (hg : g.method = m) (hsize : g.locals.size = c.maxLocals) (argsL rest : List Value) {ps : List FieldType} {r : Option FieldType} (hpd : parseMethodDescriptor y.desc = some ⟨ps, r⟩) (hlen : argsL.length = ps.length) (has : argsL.toArray = as')
    (hstack : g.stack = argsL.reverse ++ rest) (hW : 2 * g.monitorRoom + (rest.map fun v => v.category).sum ≤ W) (hdg : decode c.code g.pc = .ok (.invokestatic index, 3)) {Q : Option Value → Heap → List Loc → Prop} {k n : Nat}
    (cont : ∀ v T' L, Stand p l e R s m args below meth c T' (locs ++ L) (cells + rm.cells) (slots + rm.slots) → Qc v T'.heap L → own_Ends p e below s Q k n T' { g with pc := g.pc + 3, stack := v.toList ++ rest }) : own_Ends p e below s Q k n T g := by
  obtain ⟨v, _, ⟨T2, L2, k2, n2⟩, -, X2, ⟨Lc, hQ, l2, y2, z2⟩, st⟩ := Jvm.LawKit.callS X hx (y := y) hown (mvT hZ wl) (mvT hZ wst) (mvT hZ wi) (mvT hZ wc) hy (backOf (W := W) hM hZ wc wi hf hlo) hg hsize (argsL := argsL) (rest := rest) (lenOf hpd hlen) hstack hW hdg (fun _ _ => ⟨has, eT, hcl, hsl⟩)
  dsimp only [Pt.U, Pt.locs, Pt.cells, Pt.slots] at X2 l2 y2 z2 st hQ
  subst l2 y2 z2
  exact own_step st (cont v T2 Lc X2 hQ)
theorem own_callV (X : Stand p l e R s m args below meth c T locs cells slots) (hx : p.tables.exec = Jvm.exec) (hZ : Z.Warmed39 s.vm) {own C : String} {index : Nat} {y z : MethodName} {bytes : ByteArray} {maxL : Nat} {ret : Option FieldType}
    (hown : s.vm.findClass own = some m.cls) (wl : (Jvm.Cond.methodLink own index y).before a0 Z = true) (wd : (Jvm.Cond.declares y).before a0 Z = true) (wf : (Jvm.Cond.selects y.cls y y).before a0 Z = true) (ws : (Jvm.Cond.selects C y z).before a0 Z = true) (wm : (Jvm.Cond.instanceMethod z).before a0 Z = true) (wi : (Jvm.Cond.initialized z.cls).before a0 Z = true) (wc : (Jvm.Cond.code z bytes maxL ret).before a0 Z = true)
    (hy : y.cls ≠ "java/lang/invoke/MethodHandle" ∧ y.cls ≠ "java/lang/invoke/VarHandle") {rm : Room} {as' : Array Value} {Qc : Option Value → Heap → List Loc → Prop} (hM : own_Met l z bytes maxL ret [] rm as' Z h Qc) (eT : T.heap = h) {b : Addr} (hE : Exa Z h b C) (W : Nat)
    (hf : rm.frames + 1 ≤ R.frames) (hlo : W + (maxL + 11) + rm.locals ≤ R.locals) (hcl : cells + rm.cells ≤ R.cells) (hsl : slots + rm.slots ≤ R.slots)
    {g : JFrame} (hg : g.method = m) (hsize : g.locals.size = c.maxLocals) (argsL rest : List Value) {ps : List FieldType} {r : Option FieldType} (hpd : parseMethodDescriptor y.desc = some ⟨ps, r⟩) (hlen : argsL.length = ps.length) (has : (Value.ref b :: argsL).toArray = as')
    (hstack : g.stack = argsL.reverse ++ .ref b :: rest) (hW : 2 * g.monitorRoom + (rest.map fun v => v.category).sum ≤ W) (hdg : decode c.code g.pc = .ok (.invokevirtual index, 3)) {Q : Option Value → Heap → List Loc → Prop} {k n : Nat}
    (cont : ∀ v T' L, Stand p l e R s m args below meth c T' (locs ++ L) (cells + rm.cells) (slots + rm.slots) → Qc v T'.heap L → own_Ends p e below s Q k n T' { g with pc := g.pc + 3, stack := v.toList ++ rest }) : own_Ends p e below s Q k n T g := by
  obtain ⟨cq, kq, q1, q2, q3⟩ := isOf hZ eT hE
  obtain ⟨v, _, ⟨T2, L2, k2, n2⟩, -, X2, ⟨Lc, hQ, l2, y2, z2⟩, st⟩ := X.virtualBack hx (y := y) (z := z) hown (mvT hZ wl) (mvT hZ wd) (notFace_of_selects (args := #[]) (mvT hZ wf)) (mvT hZ ws) (mvT hZ wm) hy (backOf (W := W) hM hZ wc wi hf hlo) q1 q3 hg hsize (Steps.refl _) (argsL := argsL) (rest := rest) (lenOf hpd hlen) hstack hW hdg (fun _ _ => ⟨has, eT, hcl, hsl⟩)
  dsimp only [Pt.U, Pt.locs, Pt.cells, Pt.slots] at X2 l2 y2 z2 st hQ
  subst l2 y2 z2
  exact own_step (fun _ k => st.trans k) (cont v T2 Lc X2 hQ)
theorem own_callC (X : Stand p l e R s m args below meth c T locs cells slots) (hx : p.tables.exec = Jvm.exec) (hZ : Z.Warmed39 s.vm) {own : String} {index : Nat} {y : MethodName} {bytes : ByteArray} {maxL : Nat} (hy1 : y.name = "<init>")
    (hown : s.vm.findClass own = some m.cls) (wl : (Jvm.Cond.methodLink own index y).before a0 Z = true) (wm : (Jvm.Cond.instanceMethod y).before a0 Z = true) (wi : (Jvm.Cond.initialized y.cls).before a0 Z = true) (wc : (Jvm.Cond.code y bytes maxL none).before a0 Z = true)
    (hy : y.cls ≠ "java/lang/invoke/MethodHandle" ∧ y.cls ≠ "java/lang/invoke/VarHandle") {rm : Room} {as' : Array Value} {Qc : Option Value → Heap → List Loc → Prop} (hM : own_Met l y bytes maxL none [] rm as' Z h Qc) (eT : T.heap = h) {b : Addr} (W : Nat)
    (hf : rm.frames + 1 ≤ R.frames) (hlo : W + (maxL + 11) + rm.locals ≤ R.locals) (hcl : cells + rm.cells ≤ R.cells) (hsl : slots + rm.slots ≤ R.slots)
    {g : JFrame} (hg : g.method = m) (hsize : g.locals.size = c.maxLocals) (argsL rest : List Value) {ps : List FieldType} {r : Option FieldType} (hpd : parseMethodDescriptor y.desc = some ⟨ps, r⟩) (hlen : argsL.length = ps.length) (has : (Value.ref b :: argsL).toArray = as')
    (hstack : g.stack = argsL.reverse ++ .ref b :: rest) (hW : 2 * g.monitorRoom + (rest.map fun v => v.category).sum ≤ W) (hdg : decode c.code g.pc = .ok (.invokespecial index, 3)) {Q : Option Value → Heap → List Loc → Prop} {k n : Nat}
    (cont : ∀ v T' L, Stand p l e R s m args below meth c T' (locs ++ L) (cells + rm.cells) (slots + rm.slots) → Qc v T'.heap L → own_Ends p e below s Q k n T' { g with pc := g.pc + 3, stack := v.toList ++ rest }) : own_Ends p e below s Q k n T g := by
  obtain ⟨v, _, ⟨T2, L2, k2, n2⟩, -, X2, ⟨Lc, hQ, l2, y2, z2⟩, st⟩ := X.specialBack hx (y := y) hy1 hown (mvT hZ wl) (mvT hZ wm) (mvT hZ wc) hy (backOf (W := W) hM hZ wc wi hf hlo) hg hsize (Steps.refl _) (a := b) (argsL := argsL) (rest := rest) (lenOf hpd hlen) hstack hW hdg (fun _ _ => ⟨has, eT, hcl, hsl⟩)
  dsimp only [Pt.U, Pt.locs, Pt.cells, Pt.slots] at X2 l2 y2 z2 st hQ
  subst l2 y2 z2
  exact own_step (fun _ k => st.trans k) (cont v T2 Lc X2 hQ)
/-! arrays by their lists -/
variable {a b : Addr} {kA : ClassId} {ty : FieldType} {z : Int32} {vs : List Value} {dv : Value}
theorem own_newA (X : Stand p l e R s m args below meth c T locs cells slots) (hx : p.tables.exec = Jvm.exec) (hZ : Z.Warmed39 s.vm) {aty : ArrayType} (w : (Jvm.Cond.arrayClass (newarray.typeOf aty)).before a0 Z = true) (eT : T.heap = h) {g : JFrame} (hg : g.method = m) (hd : decode c.code g.pc = .ok (.newarray aty, 2)) {n : Int32} {rest : List Value} (hs : g.stack = .int n :: rest)
    (hn : ¬ n < 0) {cap : Nat} (hcap : n.toNatClampNeg ≤ cap) (hb : cap * 8 ≤ 536870912) (hc : cells + 1 ≤ R.cells) (hl : slots + cap ≤ R.slots) :
    ∃ T' h' cA b, b = h.size ∧ Stand p l e R s m args below meth c T' locs (cells + 1) (slots + cap) ∧ T'.heap = h' ∧ Ext h h' ∧ Arv Z h' b cA (newarray.typeOf aty) n (List.replicate cap (defaultValue (newarray.typeOf aty))) (defaultValue (newarray.typeOf aty)) ∧
      ∀ target, Steps p.tables e below (T'.setTop { g with pc := g.pc + 2, stack := .ref b :: rest }) target → Steps p.tables e below (T.setTop g) target := by
  obtain ⟨T', h', cA, X', e', E, A, st⟩ := newP X hx hZ w eT hg hd hs hn hcap hb hc hl
  exact ⟨T', h', cA, _, rfl, X', e', E, (Arv.new A hn).pad (pad_rep [] _ cap), st⟩
theorem own_stB (X : Stand p l e R s m args below meth c T locs cells slots) (hx : p.tables.exec = Jvm.exec) (hZ : Z.Warmed39 s.vm) (eT : T.heap = h) (V : Arv Z h a kA .byte z vs dv) {j x : Int32} (hj : ¬ j < 0 ∧ j < z) (i : Nat) (hi : j.toNatClampNeg = i) (hl : i < vs.length) {g : JFrame} (hg : g.method = m) {rest : List Value} (hs : g.stack = .int x :: .int j :: .ref a :: rest) (hd : decode c.code g.pc = .ok (.bastore, 1)) :
    ∃ T' h' L, Stand p l e R s m args below meth c T' (locs ++ [⟨a, L⟩]) cells slots ∧ T'.heap = h' ∧ Wr h h' a L (.int x.toInt8.toInt32) ∧ Arv Z h' a kA .byte z (vs.set i (.int x.toInt8.toInt32)) dv ∧ ∀ target, Steps p.tables e below (T'.setTop { g with pc := g.pc + 1, stack := rest }) target → Steps p.tables e below (T.setTop g) target := by
  obtain ⟨cl, Ar, q, S, N, H, G⟩ := V
  obtain ⟨T', h', X', e', W, st⟩ := stB X hx hZ eT Ar (inb_of S hj) hg hs hd
  exact ⟨T', h', _, X', e', W, Arv.set Ar q S N H G (fits_nar_byte _) W i hi hl, st⟩
theorem own_stZ (X : Stand p l e R s m args below meth c T locs cells slots) (hx : p.tables.exec = Jvm.exec) (hZ : Z.Warmed39 s.vm) (eT : T.heap = h) (V : Arv Z h a kA .boolean z vs dv) {j x : Int32} (hj : ¬ j < 0 ∧ j < z) (i : Nat) (hi : j.toNatClampNeg = i) (hl : i < vs.length) {g : JFrame} (hg : g.method = m) {rest : List Value} (hs : g.stack = .int x :: .int j :: .ref a :: rest) (hd : decode c.code g.pc = .ok (.bastore, 1)) :
    ∃ T' h' L, Stand p l e R s m args below meth c T' (locs ++ [⟨a, L⟩]) cells slots ∧ T'.heap = h' ∧ Wr h h' a L (.int (nar .boolean x)) ∧ Arv Z h' a kA .boolean z (vs.set i (.int (nar .boolean x))) dv ∧ ∀ target, Steps p.tables e below (T'.setTop { g with pc := g.pc + 1, stack := rest }) target → Steps p.tables e below (T.setTop g) target := by
  obtain ⟨cl, Ar, q, S, N, H, G⟩ := V
  obtain ⟨T', h', X', e', W, st⟩ := stZ X hx hZ eT Ar (inb_of S hj) hg hs hd
  exact ⟨T', h', _, X', e', W, Arv.set Ar q S N H G (fits_nar_bool _) W i hi hl, st⟩
theorem own_stC (X : Stand p l e R s m args below meth c T locs cells slots) (hx : p.tables.exec = Jvm.exec) (hZ : Z.Warmed39 s.vm) (eT : T.heap = h) (V : Arv Z h a kA .char z vs dv) {j x : Int32} (hj : ¬ j < 0 ∧ j < z) (i : Nat) (hi : j.toNatClampNeg = i) (hl : i < vs.length) {g : JFrame} (hg : g.method = m) {rest : List Value} (hs : g.stack = .int x :: .int j :: .ref a :: rest) (hd : decode c.code g.pc = .ok (.castore, 1)) :
    ∃ T' h' L, Stand p l e R s m args below meth c T' (locs ++ [⟨a, L⟩]) cells slots ∧ T'.heap = h' ∧ Wr h h' a L (.int (nar .char x)) ∧ Arv Z h' a kA .char z (vs.set i (.int (nar .char x))) dv ∧ ∀ target, Steps p.tables e below (T'.setTop { g with pc := g.pc + 1, stack := rest }) target → Steps p.tables e below (T.setTop g) target := by
  obtain ⟨cl, Ar, q, S, N, H, G⟩ := V
  obtain ⟨T', h', X', e', W, st⟩ := stC X hx hZ eT Ar (inb_of S hj) hg hs hd
  exact ⟨T', h', _, X', e', W, Arv.set Ar q S N H G (fits_nar_char _) W i hi hl, st⟩
theorem own_stI (X : Stand p l e R s m args below meth c T locs cells slots) (hx : p.tables.exec = Jvm.exec) (hZ : Z.Warmed39 s.vm) (eT : T.heap = h) (V : Arv Z h a kA .int z vs dv) {j x : Int32} (hj : ¬ j < 0 ∧ j < z) (i : Nat) (hi : j.toNatClampNeg = i) (hl : i < vs.length) {g : JFrame} (hg : g.method = m) {rest : List Value} (hs : g.stack = .int x :: .int j :: .ref a :: rest) (hd : decode c.code g.pc = .ok (.iastore, 1)) :
    ∃ T' h' L, Stand p l e R s m args below meth c T' (locs ++ [⟨a, L⟩]) cells slots ∧ T'.heap = h' ∧ Wr h h' a L (.int x) ∧ Arv Z h' a kA .int z (vs.set i (.int x)) dv ∧ ∀ target, Steps p.tables e below (T'.setTop { g with pc := g.pc + 1, stack := rest }) target → Steps p.tables e below (T.setTop g) target := by
  obtain ⟨cl, Ar, q, S, N, H, G⟩ := V
  obtain ⟨T', h', X', e', W, st⟩ := stI X hx hZ eT Ar (inb_of S hj) hg hs hd
  exact ⟨T', h', _, X', e', W, Arv.set Ar q S N H G rfl W i hi hl, st⟩
theorem own_stJ (X : Stand p l e R s m args below meth c T locs cells slots) (hx : p.tables.exec = Jvm.exec) (hZ : Z.Warmed39 s.vm) (eT : T.heap = h) (V : Arv Z h a kA .long z vs dv) {j : Int32} {x : Int64} (hj : ¬ j < 0 ∧ j < z) (i : Nat) (hi : j.toNatClampNeg = i) (hl : i < vs.length) {g : JFrame} (hg : g.method = m) {rest : List Value} (hs : g.stack = .long x :: .int j :: .ref a :: rest) (hd : decode c.code g.pc = .ok (.lastore, 1)) :
    ∃ T' h' L, Stand p l e R s m args below meth c T' (locs ++ [⟨a, L⟩]) cells slots ∧ T'.heap = h' ∧ Wr h h' a L (.long x) ∧ Arv Z h' a kA .long z (vs.set i (.long x)) dv ∧ ∀ target, Steps p.tables e below (T'.setTop { g with pc := g.pc + 1, stack := rest }) target → Steps p.tables e below (T.setTop g) target := by
  obtain ⟨cl, Ar, q, S, N, H, G⟩ := V
  obtain ⟨T', h', X', e', W, st⟩ := stJ X hx hZ eT Ar (inb_of S hj) hg hs hd
  exact ⟨T', h', _, X', e', W, Arv.set Ar q S N H G rfl W i hi hl, st⟩
theorem own_ldB (X : Stand p l e R s m args below meth c T locs cells slots) (hx : p.tables.exec = Jvm.exec) (hZ : Z.Warmed39 s.vm) (eT : T.heap = h) (V : Arv Z h a kA .byte z vs dv) {j : Int32} {v : Value} (hj : ¬ j < 0 ∧ j < z) (hv : vs.getD j.toNatClampNeg dv = v) {g : JFrame} (hg : g.method = m) {rest : List Value} (hs : g.stack = .int j :: .ref a :: rest) (hd : decode c.code g.pc = .ok (.baload, 1)) :
    ∀ t, Steps p.tables e below (T.setTop { g with pc := g.pc + 1, stack := v :: rest }) t → Steps p.tables e below (T.setTop g) t := by
  obtain ⟨cl, Ar, q, S, N, H, G⟩ := V
  exact fun t k => X.baloadBytes hx (by rw [eT]; exact Ar.1) (State.isArrayOf_alike hZ.alike Ar.2.1) Ar.2.2 (inb_of S hj) (Has.at H (inb_of S hj) hv) hg hs hd _ k
theorem own_ldZ (X : Stand p l e R s m args below meth c T locs cells slots) (hx : p.tables.exec = Jvm.exec) (hZ : Z.Warmed39 s.vm) (eT : T.heap = h) (V : Arv Z h a kA .boolean z vs dv) {j : Int32} {v : Value} (hj : ¬ j < 0 ∧ j < z) (hv : vs.getD j.toNatClampNeg dv = v) {g : JFrame} (hg : g.method = m) {rest : List Value} (hs : g.stack = .int j :: .ref a :: rest) (hd : decode c.code g.pc = .ok (.baload, 1)) :
    ∀ t, Steps p.tables e below (T.setTop { g with pc := g.pc + 1, stack := v :: rest }) t → Steps p.tables e below (T.setTop g) t := by
  obtain ⟨cl, Ar, q, S, N, H, G⟩ := V
  exact fun t k => X.baloadBooleans hx (by rw [eT]; exact Ar.1) (State.isArrayOf_alike hZ.alike Ar.2.1) Ar.2.2 (inb_of S hj) (Has.at H (inb_of S hj) hv) hg hs hd _ k
theorem own_ldC (X : Stand p l e R s m args below meth c T locs cells slots) (hx : p.tables.exec = Jvm.exec) (hZ : Z.Warmed39 s.vm) (eT : T.heap = h) (V : Arv Z h a kA .char z vs dv) {j : Int32} {v : Value} (hj : ¬ j < 0 ∧ j < z) (hv : vs.getD j.toNatClampNeg dv = v) {g : JFrame} (hg : g.method = m) {rest : List Value} (hs : g.stack = .int j :: .ref a :: rest) (hd : decode c.code g.pc = .ok (.caload, 1)) :
    ∀ t, Steps p.tables e below (T.setTop { g with pc := g.pc + 1, stack := v :: rest }) t → Steps p.tables e below (T.setTop g) t := by
  obtain ⟨cl, Ar, q, S, N, H, G⟩ := V
  exact fun t k => X.caload hx (by rw [eT]; exact Ar.1) (State.isArrayOf_alike hZ.alike Ar.2.1) Ar.2.2 (inb_of S hj) (Has.at H (inb_of S hj) hv) hg hs hd _ k
theorem own_ldI (X : Stand p l e R s m args below meth c T locs cells slots) (hx : p.tables.exec = Jvm.exec) (hZ : Z.Warmed39 s.vm) (eT : T.heap = h) (V : Arv Z h a kA .int z vs dv) {j : Int32} {v : Value} (hj : ¬ j < 0 ∧ j < z) (hv : vs.getD j.toNatClampNeg dv = v) {g : JFrame} (hg : g.method = m) {rest : List Value} (hs : g.stack = .int j :: .ref a :: rest) (hd : decode c.code g.pc = .ok (.iaload, 1)) :
    ∀ t, Steps p.tables e below (T.setTop { g with pc := g.pc + 1, stack := v :: rest }) t → Steps p.tables e below (T.setTop g) t := by
  obtain ⟨cl, Ar, q, S, N, H, G⟩ := V
  exact fun t k => X.iaload hx (by rw [eT]; exact Ar.1) (State.isArrayOf_alike hZ.alike Ar.2.1) Ar.2.2 (inb_of S hj) (Has.at H (inb_of S hj) hv) hg hs hd _ k
theorem own_ldJ (X : Stand p l e R s m args below meth c T locs cells slots) (hx : p.tables.exec = Jvm.exec) (hZ : Z.Warmed39 s.vm) (eT : T.heap = h) (V : Arv Z h a kA .long z vs dv) {j : Int32} {v : Value} (hj : ¬ j < 0 ∧ j < z) (hv : vs.getD j.toNatClampNeg dv = v) {g : JFrame} (hg : g.method = m) {rest : List Value} (hs : g.stack = .int j :: .ref a :: rest) (hd : decode c.code g.pc = .ok (.laload, 1)) :
    ∀ t, Steps p.tables e below (T.setTop { g with pc := g.pc + 1, stack := v :: rest }) t → Steps p.tables e below (T.setTop g) t := by
  obtain ⟨cl, Ar, q, S, N, H, G⟩ := V
  exact fun t k => X.laload hx (by rw [eT]; exact Ar.1) (State.isArrayOf_alike hZ.alike Ar.2.1) Ar.2.2 (inb_of S hj) (Has.at H (inb_of S hj) hv) hg hs hd _ k
theorem own_ldA (X : Stand p l e R s m args below meth c T locs cells slots) (hx : p.tables.exec = Jvm.exec) (hZ : Z.Warmed39 s.vm) (eT : T.heap = h) (V : Arv Z h a kA ty z vs dv) (hty : ty.isReference = true) {j : Int32} {v : Value} (hj : ¬ j < 0 ∧ j < z) (hv : vs.getD j.toNatClampNeg dv = v) {g : JFrame} (hg : g.method = m) {rest : List Value} (hs : g.stack = .int j :: .ref a :: rest) (hd : decode c.code g.pc = .ok (.aaload, 1)) :
    ∀ t, Steps p.tables e below (T.setTop { g with pc := g.pc + 1, stack := v :: rest }) t → Steps p.tables e below (T.setTop g) t := by
  obtain ⟨cl, Ar, q, S, N, H, G⟩ := V
  exact fun t k => X.aaload hx (by rw [eT]; exact Ar.1) (State.isArrayOf_alike hZ.alike Ar.2.1) hty Ar.2.2 (inb_of S hj) (Has.at H (inb_of S hj) hv) hg hs hd _ k
theorem own_len (X : Stand p l e R s m args below meth c T locs cells slots) (hx : p.tables.exec = Jvm.exec) (hZ : Z.Warmed39 s.vm) (eT : T.heap = h) (V : Arv Z h a kA ty z vs dv) {g : JFrame} (hg : g.method = m) {rest : List Value} (hs : g.stack = .ref a :: rest) (hd : decode c.code g.pc = .ok (.arraylength, 1)) :
    ∀ t, Steps p.tables e below (T.setTop { g with pc := g.pc + 1, stack := .int z :: rest }) t → Steps p.tables e below (T.setTop g) t := by
  obtain ⟨cl, Ar, q, S, N, H, G⟩ := V
  refine fun t k => X.arraylength hx (by rw [eT]; exact Ar.1) (State.isArrayOf_alike hZ.alike Ar.2.1) hg hs hd _ ?_
  rw [len_of S N]; exact k
theorem own_newR (X : Stand p l e R s m args below meth c T locs cells slots) (hx : p.tables.exec = Jvm.exec) (hZ : Z.Warmed39 s.vm) {own C : String} {index : Nat} (hown : s.vm.findClass own = some m.cls) (w1 : (Jvm.Cond.classLink own index C).before a0 Z = true) (w2 : (Jvm.Cond.arrayOver (.object C)).before a0 Z = true)
    (eT : T.heap = h) {g : JFrame} (hg : g.method = m) (hd : decode c.code g.pc = .ok (.anewarray index, 3)) {n : Int32} {rest : List Value} (hs : g.stack = .int n :: rest) (hn : ¬ n < 0) {cap : Nat} (hcap : n.toNatClampNeg ≤ cap) (hb : cap * 8 ≤ 536870912) (hc : cells + 1 ≤ R.cells) (hl : slots + cap ≤ R.slots) :
    ∃ T' h' cA b, b = h.size ∧ Stand p l e R s m args below meth c T' locs (cells + 1) (slots + cap) ∧ T'.heap = h' ∧ Ext h h' ∧ Arv Z h' b cA (.object C) n (List.replicate cap .null) .null ∧ Ovr Z cA C ∧
      ∀ target, Steps p.tables e below (T'.setTop { g with pc := g.pc + 3, stack := .ref b :: rest }) target → Steps p.tables e below (T.setTop g) target := by
  obtain ⟨T', h', cA, X', e', E, A, O, st⟩ := newR X hx hZ hown w1 w2 eT hg hd hs hn hcap hb hc hl
  exact ⟨T', h', cA, _, rfl, X', e', E, (Arv.new A hn).pad (pad_rep [] _ cap), O, st⟩
theorem own_stA (X : Stand p l e R s m args below meth c T locs cells slots) (hx : p.tables.exec = Jvm.exec) (hZ : Z.Warmed39 s.vm) (eT : T.heap = h) {C : String} {y : Addr} (V : Arv Z h a kA (.object C) z vs dv) (O : Ovr Z kA C) (I : Ins Z h y C true) {j : Int32} (hj : ¬ j < 0 ∧ j < z) (i : Nat) (hi : j.toNatClampNeg = i) (hl : i < vs.length) {g : JFrame} (hg : g.method = m) {rest : List Value} (hs : g.stack = .ref y :: .int j :: .ref a :: rest) (hd : decode c.code g.pc = .ok (.aastore, 1)) :
    ∃ T' h' L, Stand p l e R s m args below meth c T' (locs ++ [⟨a, L⟩]) cells slots ∧ T'.heap = h' ∧ Wr h h' a L (.ref y) ∧ Arv Z h' a kA (.object C) z (vs.set i (.ref y)) dv ∧ ∀ target, Steps p.tables e below (T'.setTop { g with pc := g.pc + 1, stack := rest }) target → Steps p.tables e below (T.setTop g) target := by
  obtain ⟨cl, Ar, q, S, N, H, G⟩ := V
  obtain ⟨T', h', X', e', W, st⟩ := stR X hx hZ eT Ar (inb_of S hj) rfl (Sto.ofV Ar q O I) hg hs hd
  exact ⟨T', h', _, X', e', W, Arv.set Ar q S N H G rfl W i hi hl, st⟩
/-! what the case's words say of statics -/
theorem own_eqI {t : Term} {n : Int32} {args : Array Value} {s : State} (q : (Jvm.Cond.eq t (.int n)).value args s none s [] = some true) : t.eval args s none [] s = some (.int n) := by
  cases ht : t.eval args s none [] s with
  | none => simp [Jvm.Cond.value, ht] at q
  | some v => cases v <;> simp [Jvm.Cond.value, ht, Term.eval, Value.isRef] at q ⊢ <;> exact q
theorem own_eqJ {t : Term} {n : Int64} {args : Array Value} {s : State} (q : (Jvm.Cond.eq t (.long n)).value args s none s [] = some true) : t.eval args s none [] s = some (.long n) := by
  cases ht : t.eval args s none [] s with
  | none => simp [Jvm.Cond.value, ht] at q
  | some v => cases v <;> simp [Jvm.Cond.value, ht, Term.eval, Value.isRef] at q ⊢ <;> exact q
theorem own_eqR {t u : Term} {x : Addr} {args : Array Value} {s : State} (hu : u.eval args s none [] s = some (.ref x)) (q : (Jvm.Cond.eq t u).value args s none s [] = some true) : t.eval args s none [] s = some (.ref x) := by
  cases ht : t.eval args s none [] s with
  | none => simp [Jvm.Cond.value, ht] at q
  | some v => cases v <;> simp [Jvm.Cond.value, ht, hu, Value.isRef] at q ⊢ <;> exact q
theorem own_lenT {t : Term} {a : Addr} {cl : Cell} {ty : FieldType} {z : Int32} {args : Array Value} {s : State} (ht : t.eval args s none [] s = some (.ref a)) (A : Arr s s.heap a cl ty) (q : (Term.length t).eval args s none [] s = some (.int z)) : cl.slots.size < 2 ^ 31 ∧ cl.slots.size.toInt32 = z := by
  have ha : s.arrayAt? a = some cl := Arr.fin (Vm.Alike.refl _) A
  by_cases hl : cl.slots.size < 2 ^ 31
  · rw [len_f ht ha hl] at q; cases q; exact ⟨hl, rfl⟩
  · simp [Term.eval, ht, ha, hl] at q
end Own
end Jvm.RoadKit
namespace Jvm.Pilot.@@N@@
open Jvm Jvm.ClassFile Sem Op Lib Jvm.Free Jvm.Stand Jvm.LawKit Jvm.RoadKit Bundle Jvm.Pilot.@@N@@.Jvm.D
theorem own_leafI {x y : Int32} (q : y = x) : some (Value.int x) = some (.int y) := by rw [q]
theorem own_leafJ {x y : Int64} (q : y = x) : some (Value.long x) = some (.long y) := by rw [q]
theorem d1_0 : decode prog_17_method_19_code 0 = .ok (.ldc2_w 214, 3) := by decide +kernel
theorem d1_3 : decode prog_17_method_19_code 3 = .ok (.lload_n 0, 1) := by decide +kernel
theorem d1_4 : decode prog_17_method_19_code 4 = .ok (.lcmp, 1) := by decide +kernel
theorem d1_5 : decode prog_17_method_19_code 5 = .ok (.ifCond .gt 15, 3) := by decide +kernel
theorem d1_8 : decode prog_17_method_19_code 8 = .ok (.lload_n 0, 1) := by decide +kernel
theorem d1_9 : decode prog_17_method_19_code 9 = .ok (.ldc2_w 216, 3) := by decide +kernel
theorem d1_12 : decode prog_17_method_19_code 12 = .ok (.lcmp, 1) := by decide +kernel
theorem d1_13 : decode prog_17_method_19_code 13 = .ok (.ifCond .gt 7, 3) := by decide +kernel
theorem d1_16 : decode prog_17_method_19_code 16 = .ok (.iconst 1, 1) := by decide +kernel
theorem d1_17 : decode prog_17_method_19_code 17 = .ok (.goto 4, 3) := by decide +kernel
theorem d1_20 : decode prog_17_method_19_code 20 = .ok (.iconst 0, 1) := by decide +kernel
theorem d1_21 : decode prog_17_method_19_code 21 = .ok (.ireturn, 1) := by decide +kernel
theorem ef_1 (q1 : Int64) (m : MethodId) : entryFrame m #[(.long q1)] 2 = mkF m 0 #[.val (.long q1), .second] [] := by first | (simp [entryFrame, mkF, argsToLocals, Value.category]; done) | rfl
def own_f1 (q1 : Int64) : Int32 := (if q1 < (-999999999999999999 : Int64) then (0 : Int32) else (if (999999999999999999 : Int64) < q1 then (0 : Int32) else (1 : Int32)))
theorem pn_0 : plainName "com/example/tickwright/tickwright/Formats" = true := by first | (simp [plainName, overriddenIn]; done) | decide +kernel
set_option maxRecDepth 65536 in
set_option maxHeartbeats 40000000 in
theorem rm1 (l : Launch) (Z : State) (a0 : Array Value) (hw : ∀ d ∈ tables_1, d.before a0 Z = true) (ws : List Jvm.Cond) (q1 : Int64) (h0 : Heap) (n0 : Nat) (Z0 : n0 ≤ h0.size) :
    own_Met l (⟨"com/example/tickwright/tickwright/Formats", "isWholeNumber", "(J)Z"⟩ : MethodName) prog_17_method_19_code 2 (some .boolean) ws ({ frames := 0, cells := 0, slots := 0, locals := 0 } : Room) #[(.long q1)] Z h0 (fun v h L => v = some (.int (own_f1 q1)) ∧ Fr n0 L ∧ h = h0) := by
  refine own_body (plainFor_of_name pn_0) (ef_1 q1) ?_
  intro p e s m below meth c T0 X0 hx hby hml0 hret hlk hnm hown hZ e0
  have hml : c.maxLocals = 2 := hml0
  have N0 := Fr.nil n0
  refine own_step (X0.ldc2Long hx hown (mvT hZ (hw _ (List.mem_of_getElem? (i := 6) rfl))) (g := (mkF m 0 #[.val (.long q1), .second] [])) rfl (hb hby d1_0)) ?_
  show own_Ends _ _ _ _ _ _ _ T0 (mkF m 3 #[.val (.long q1), .second] [(.long (-999999999999999999 : Int64))])
  refine own_step (fun _ k => XS.lloadN X0.here hx rfl (hb hby d1_3) rfl k) ?_
  show own_Ends _ _ _ _ _ _ _ T0 (mkF m 4 #[.val (.long q1), .second] [(.long q1), (.long (-999999999999999999 : Int64))])
  refine own_step (fun _ k => XS.lcmp X0.here hx rfl (hb hby d1_4) rfl k) ?_
  show own_Ends _ _ _ _ _ _ _ T0 (mkF m 5 #[.val (.long q1), .second] [(.int (lcmpW (-999999999999999999 : Int64) q1))])
  by_cases hc1 : q1 < (-999999999999999999 : Int64)
  · refine own_step (fun _ k => XS.ifYes X0.here hx rfl (pc0 := 5) (pc' := 20) rfl (hb hby d1_5) rfl ((if0 _ _).trans (tlt ((lw_gt (-999999999999999999 : Int64) q1).mpr hc1)).2.2.1) (by decide) (by decide) k) ?_
    show own_Ends _ _ _ _ _ _ _ T0 (mkF m 20 #[.val (.long q1), .second] [])
    refine own_step (fun _ k => XS.iconst X0.here hx rfl (hb hby d1_20) k) ?_
    show own_Ends _ _ _ _ _ _ _ T0 (mkF m 21 #[.val (.long q1), .second] [(.int (0 : Int32))])
    exact own_retN X0 hx (t := .boolean) hret (by simp) hlk (hb hby d1_21) rfl ⟨own_leafI (if_pos hc1), N0, e0⟩ (by decide) (by decide)
  · refine own_step (fun _ k => XS.ifNo X0.here hx rfl (hb hby d1_5) rfl ((if0 _ _).trans (flt (fun q => hc1 ((lw_gt (-999999999999999999 : Int64) q1).mp q))).2.2.1) k) ?_
    show own_Ends _ _ _ _ _ _ _ T0 (mkF m 8 #[.val (.long q1), .second] [])
    refine own_step (fun _ k => XS.lloadN X0.here hx rfl (hb hby d1_8) rfl k) ?_
    show own_Ends _ _ _ _ _ _ _ T0 (mkF m 9 #[.val (.long q1), .second] [(.long q1)])
    refine own_step (X0.ldc2Long hx hown (mvT hZ (hw _ (List.mem_of_getElem? (i := 8) rfl))) (g := (mkF m 9 #[.val (.long q1), .second] [(.long q1)])) rfl (hb hby d1_9)) ?_
    show own_Ends _ _ _ _ _ _ _ T0 (mkF m 12 #[.val (.long q1), .second] [(.long (999999999999999999 : Int64)), (.long q1)])
    refine own_step (fun _ k => XS.lcmp X0.here hx rfl (hb hby d1_12) rfl k) ?_
    show own_Ends _ _ _ _ _ _ _ T0 (mkF m 13 #[.val (.long q1), .second] [(.int (lcmpW q1 (999999999999999999 : Int64)))])
    by_cases hc2 : (999999999999999999 : Int64) < q1
    · refine own_step (fun _ k => XS.ifYes X0.here hx rfl (pc0 := 13) (pc' := 20) rfl (hb hby d1_13) rfl ((if0 _ _).trans (tlt ((lw_gt q1 (999999999999999999 : Int64)).mpr hc2)).2.2.1) (by decide) (by decide) k) ?_
      show own_Ends _ _ _ _ _ _ _ T0 (mkF m 20 #[.val (.long q1), .second] [])
      refine own_step (fun _ k => XS.iconst X0.here hx rfl (hb hby d1_20) k) ?_
      show own_Ends _ _ _ _ _ _ _ T0 (mkF m 21 #[.val (.long q1), .second] [(.int (0 : Int32))])
      exact own_retN X0 hx (t := .boolean) hret (by simp) hlk (hb hby d1_21) rfl ⟨own_leafI ((if_neg hc1).trans (if_pos hc2)), N0, e0⟩ (by decide) (by decide)
    · refine own_step (fun _ k => XS.ifNo X0.here hx rfl (hb hby d1_13) rfl ((if0 _ _).trans (flt (fun q => hc2 ((lw_gt q1 (999999999999999999 : Int64)).mp q))).2.2.1) k) ?_
      show own_Ends _ _ _ _ _ _ _ T0 (mkF m 16 #[.val (.long q1), .second] [])
      refine own_step (fun _ k => XS.iconst X0.here hx rfl (hb hby d1_16) k) ?_
      show own_Ends _ _ _ _ _ _ _ T0 (mkF m 17 #[.val (.long q1), .second] [(.int (1 : Int32))])
      refine own_step (fun _ k => XS.goto X0.here hx rfl (pc0 := 17) (pc' := 21) rfl (hb hby d1_17) (by decide) (by decide) k) ?_
      show own_Ends _ _ _ _ _ _ _ T0 (mkF m 21 #[.val (.long q1), .second] [(.int (1 : Int32))])
      exact own_retN X0 hx (t := .boolean) hret (by simp) hlk (hb hby d1_21) rfl ⟨own_leafI ((if_neg hc1).trans (if_neg hc2)), N0, e0⟩ (by decide) (by decide)
theorem ef_0 (q1 : Int64) (p2 : Int32) (m : MethodId) : entryFrame m #[(.long q1), (.int p2)] maxLocals = mkF m 0 #[.val (.long q1), .second, .val (.int p2), .unset, .unset, .unset, .unset, .unset, .unset] [] := by first | (simp [entryFrame, mkF, argsToLocals, Value.category, maxLocals]; done) | rfl
theorem pd_0 : parseMethodDescriptor "(J)Z" = some ⟨[.long], some .boolean⟩ := by decide +kernel
def own_f0 (q1 : Int64) (p2 : Int32) : Int32 := (if (p2 &&& (3 : Int32)) = (0 : Int32) then (if (q1 / (1000000000000000000 : Int64)) = (0 : Int64) then (if (own_f1 q1) = (1 : Int32) then (1 : Int32) else (0 : Int32)) else (if (own_f1 q1) = (0 : Int32) then (1 : Int32) else (0 : Int32))) else (if (p2 &&& (3 : Int32)) = (1 : Int32) then (if (((1000000000000000000 : Int64) + (q1 % (3 : Int64))) / (1000000000000000000 : Int64)) = (0 : Int64) then (if (own_f1 ((1000000000000000000 : Int64) + (q1 % (3 : Int64)))) = (1 : Int32) then (1 : Int32) else (0 : Int32)) else (if (own_f1 ((1000000000000000000 : Int64) + (q1 % (3 : Int64)))) = (0 : Int32) then (1 : Int32) else (0 : Int32))) else (if (p2 &&& (3 : Int32)) = (2 : Int32) then (if (((-(1000000000000000000 : Int64)) + (q1 % (3 : Int64))) / (1000000000000000000 : Int64)) = (0 : Int64) then (if (own_f1 ((-(1000000000000000000 : Int64)) + (q1 % (3 : Int64)))) = (1 : Int32) then (1 : Int32) else (0 : Int32)) else (if (own_f1 ((-(1000000000000000000 : Int64)) + (q1 % (3 : Int64)))) = (0 : Int32) then (1 : Int32) else (0 : Int32))) else (if ((q1 % ((2 : Int64) * (1000000000000000000 : Int64))) / (1000000000000000000 : Int64)) = (0 : Int64) then (if (own_f1 (q1 % ((2 : Int64) * (1000000000000000000 : Int64)))) = (1 : Int32) then (1 : Int32) else (0 : Int32)) else (if (own_f1 (q1 % ((2 : Int64) * (1000000000000000000 : Int64)))) = (0 : Int32) then (1 : Int32) else (0 : Int32))))))
theorem pn_1 : plainName "com/example/tickwright/tickwright/FormatsIsWholeNumberPinLaw" = true := by first | (simp [plainName, overriddenIn]; done) | decide +kernel
set_option maxRecDepth 65536 in
set_option maxHeartbeats 40000000 in
theorem rm0 (l : Launch) (Z : State) (a0 : Array Value) (hw : ∀ d ∈ tables_1, d.before a0 Z = true) (ws : List Jvm.Cond) (q1 : Int64) (p2 : Int32) (h0 : Heap) (n0 : Nat) (Z0 : n0 ≤ h0.size) :
    own_Met l x code maxLocals ret ws room_1 #[(.long q1), (.int p2)] Z h0 (fun v h L => v = some (.int (own_f0 q1 p2)) ∧ Fr n0 L) := by
  refine own_body (plainFor_of_name pn_1) (ef_0 q1 p2) ?_
  intro p e s m below meth c T0 X0 hx hby hml0 hret hlk hnm hown hZ e0
  have hml : c.maxLocals = 9 := hml0
  have N0 := Fr.nil n0
  refine own_step (X0.ldc2Long hx hown (mvT hZ (hw _ (List.mem_of_getElem? (i := 0) rfl))) (g := (mkF m 0 #[.val (.long q1), .second, .val (.int p2), .unset, .unset, .unset, .unset, .unset, .unset] [])) rfl (hb hby at_0)) ?_
  show own_Ends _ _ _ _ _ _ _ T0 (mkF m 3 #[.val (.long q1), .second, .val (.int p2), .unset, .unset, .unset, .unset, .unset, .unset] [(.long (1000000000000000000 : Int64))])
  refine own_step (fun _ k => XS.lstoreN X0.here hx rfl (hb hby at_3) rfl (l' := #[.val (.long q1), .second, .val (.int p2), .val (.long (1000000000000000000 : Int64)), .second, .unset, .unset, .unset, .unset]) rfl k) ?_
  show own_Ends _ _ _ _ _ _ _ T0 (mkF m 4 #[.val (.long q1), .second, .val (.int p2), .val (.long (1000000000000000000 : Int64)), .second, .unset, .unset, .unset, .unset] [])
  refine own_step (fun _ k => XS.iloadN X0.here hx rfl (hb hby at_4) rfl k) ?_
  show own_Ends _ _ _ _ _ _ _ T0 (mkF m 5 #[.val (.long q1), .second, .val (.int p2), .val (.long (1000000000000000000 : Int64)), .second, .unset, .unset, .unset, .unset] [(.int p2)])
  refine own_step (fun _ k => XS.iconst X0.here hx rfl (hb hby at_5) k) ?_
  show own_Ends _ _ _ _ _ _ _ T0 (mkF m 6 #[.val (.long q1), .second, .val (.int p2), .val (.long (1000000000000000000 : Int64)), .second, .unset, .unset, .unset, .unset] [(.int (3 : Int32)), (.int p2)])
  refine own_step (fun _ k => XS.iand X0.here hx rfl (hb hby at_6) rfl k) ?_
  show own_Ends _ _ _ _ _ _ _ T0 (mkF m 7 #[.val (.long q1), .second, .val (.int p2), .val (.long (1000000000000000000 : Int64)), .second, .unset, .unset, .unset, .unset] [(.int (p2 &&& (3 : Int32)))])
  refine own_step (fun _ k => XS.istore X0.here hx rfl (hb hby at_7) rfl (l' := #[.val (.long q1), .second, .val (.int p2), .val (.long (1000000000000000000 : Int64)), .second, .val (.int (p2 &&& (3 : Int32))), .unset, .unset, .unset]) rfl k) ?_
  show own_Ends _ _ _ _ _ _ _ T0 (mkF m 9 #[.val (.long q1), .second, .val (.int p2), .val (.long (1000000000000000000 : Int64)), .second, .val (.int (p2 &&& (3 : Int32))), .unset, .unset, .unset] [])
  refine own_step (fun _ k => XS.iload X0.here hx rfl (hb hby at_9) rfl k) ?_
  show own_Ends _ _ _ _ _ _ _ T0 (mkF m 11 #[.val (.long q1), .second, .val (.int p2), .val (.long (1000000000000000000 : Int64)), .second, .val (.int (p2 &&& (3 : Int32))), .unset, .unset, .unset] [(.int (p2 &&& (3 : Int32)))])
  by_cases hc1 : (p2 &&& (3 : Int32)) = (0 : Int32)
  · refine own_step (fun _ k => XS.ifNo X0.here hx rfl (hb hby at_11) rfl ((if0 _ _).trans (teq hc1).2) k) ?_
    show own_Ends _ _ _ _ _ _ _ T0 (mkF m 14 #[.val (.long q1), .second, .val (.int p2), .val (.long (1000000000000000000 : Int64)), .second, .val (.int (p2 &&& (3 : Int32))), .unset, .unset, .unset] [])
    refine own_step (fun _ k => XS.lloadN X0.here hx rfl (hb hby at_14) rfl k) ?_
    show own_Ends _ _ _ _ _ _ _ T0 (mkF m 15 #[.val (.long q1), .second, .val (.int p2), .val (.long (1000000000000000000 : Int64)), .second, .val (.int (p2 &&& (3 : Int32))), .unset, .unset, .unset] [(.long q1)])
    refine own_step (fun _ k => XS.lstore X0.here hx rfl (hb hby at_15) rfl (l' := #[.val (.long q1), .second, .val (.int p2), .val (.long (1000000000000000000 : Int64)), .second, .val (.int (p2 &&& (3 : Int32))), .val (.long q1), .second, .unset]) rfl k) ?_
    show own_Ends _ _ _ _ _ _ _ T0 (mkF m 17 #[.val (.long q1), .second, .val (.int p2), .val (.long (1000000000000000000 : Int64)), .second, .val (.int (p2 &&& (3 : Int32))), .val (.long q1), .second, .unset] [])
    refine own_step (fun _ k => XS.goto X0.here hx rfl (pc0 := 17) (pc' := 66) rfl (hb hby at_17) (by decide) (by decide) k) ?_
    show own_Ends _ _ _ _ _ _ _ T0 (mkF m 66 #[.val (.long q1), .second, .val (.int p2), .val (.long (1000000000000000000 : Int64)), .second, .val (.int (p2 &&& (3 : Int32))), .val (.long q1), .second, .unset] [])
    refine own_step (fun _ k => XS.lload X0.here hx rfl (hb hby at_66) rfl k) ?_
    show own_Ends _ _ _ _ _ _ _ T0 (mkF m 68 #[.val (.long q1), .second, .val (.int p2), .val (.long (1000000000000000000 : Int64)), .second, .val (.int (p2 &&& (3 : Int32))), .val (.long q1), .second, .unset] [(.long q1)])
    refine own_step (fun _ k => XS.lloadN X0.here hx rfl (hb hby at_68) rfl k) ?_
    show own_Ends _ _ _ _ _ _ _ T0 (mkF m 69 #[.val (.long q1), .second, .val (.int p2), .val (.long (1000000000000000000 : Int64)), .second, .val (.int (p2 &&& (3 : Int32))), .val (.long q1), .second, .unset] [(.long (1000000000000000000 : Int64)), (.long q1)])
    refine own_step (fun _ k => XS.ldiv X0.here hx rfl (hb hby at_69) rfl (by decide) k) ?_
    show own_Ends _ _ _ _ _ _ _ T0 (mkF m 70 #[.val (.long q1), .second, .val (.int p2), .val (.long (1000000000000000000 : Int64)), .second, .val (.int (p2 &&& (3 : Int32))), .val (.long q1), .second, .unset] [(.long (q1 / (1000000000000000000 : Int64)))])
    refine own_step (fun _ k => XS.lconst X0.here hx rfl (hb hby at_70) k) ?_
    show own_Ends _ _ _ _ _ _ _ T0 (mkF m 71 #[.val (.long q1), .second, .val (.int p2), .val (.long (1000000000000000000 : Int64)), .second, .val (.int (p2 &&& (3 : Int32))), .val (.long q1), .second, .unset] [(.long (0 : Int64)), (.long (q1 / (1000000000000000000 : Int64)))])
    refine own_step (fun _ k => XS.lcmp X0.here hx rfl (hb hby at_71) rfl k) ?_
    show own_Ends _ _ _ _ _ _ _ T0 (mkF m 72 #[.val (.long q1), .second, .val (.int p2), .val (.long (1000000000000000000 : Int64)), .second, .val (.int (p2 &&& (3 : Int32))), .val (.long q1), .second, .unset] [(.int (lcmpW (q1 / (1000000000000000000 : Int64)) (0 : Int64)))])
    by_cases hc2 : (q1 / (1000000000000000000 : Int64)) = (0 : Int64)
    · refine own_step (fun _ k => XS.ifNo X0.here hx rfl (hb hby at_72) rfl ((if0 _ _).trans (teq ((lw_eq (q1 / (1000000000000000000 : Int64)) (0 : Int64)).mpr hc2)).2) k) ?_
      show own_Ends _ _ _ _ _ _ _ T0 (mkF m 75 #[.val (.long q1), .second, .val (.int p2), .val (.long (1000000000000000000 : Int64)), .second, .val (.int (p2 &&& (3 : Int32))), .val (.long q1), .second, .unset] [])
      refine own_step (fun _ k => XS.iconst X0.here hx rfl (hb hby at_75) k) ?_
      show own_Ends _ _ _ _ _ _ _ T0 (mkF m 76 #[.val (.long q1), .second, .val (.int p2), .val (.long (1000000000000000000 : Int64)), .second, .val (.int (p2 &&& (3 : Int32))), .val (.long q1), .second, .unset] [(.int (1 : Int32))])
      refine own_step (fun _ k => XS.goto X0.here hx rfl (pc0 := 76) (pc' := 80) rfl (hb hby at_76) (by decide) (by decide) k) ?_
      show own_Ends _ _ _ _ _ _ _ T0 (mkF m 80 #[.val (.long q1), .second, .val (.int p2), .val (.long (1000000000000000000 : Int64)), .second, .val (.int (p2 &&& (3 : Int32))), .val (.long q1), .second, .unset] [(.int (1 : Int32))])
      refine own_step (fun _ k => XS.istore X0.here hx rfl (hb hby at_80) rfl (l' := #[.val (.long q1), .second, .val (.int p2), .val (.long (1000000000000000000 : Int64)), .second, .val (.int (p2 &&& (3 : Int32))), .val (.long q1), .second, .val (.int (1 : Int32))]) rfl k) ?_
      show own_Ends _ _ _ _ _ _ _ T0 (mkF m 82 #[.val (.long q1), .second, .val (.int p2), .val (.long (1000000000000000000 : Int64)), .second, .val (.int (p2 &&& (3 : Int32))), .val (.long q1), .second, .val (.int (1 : Int32))] [])
      refine own_step (fun _ k => XS.lload X0.here hx rfl (hb hby at_82) rfl k) ?_
      show own_Ends _ _ _ _ _ _ _ T0 (mkF m 84 #[.val (.long q1), .second, .val (.int p2), .val (.long (1000000000000000000 : Int64)), .second, .val (.int (p2 &&& (3 : Int32))), .val (.long q1), .second, .val (.int (1 : Int32))] [(.long q1)])
      refine own_callS X0 hx hZ (y := (⟨"com/example/tickwright/tickwright/Formats", "isWholeNumber", "(J)Z"⟩ : MethodName)) hown (hw _ (List.mem_of_getElem? (i := 2) rfl)) (hw _ (List.mem_of_getElem? (i := 3) rfl)) (hw _ (List.mem_of_getElem? (i := 4) rfl)) (hw _ (List.mem_of_getElem? (i := 5) rfl)) (by decide) (rm1 l Z a0 hw [] q1 h0 n0 Z0) e0 0 (by decide) (by decide) (by decide) (by decide) (g := (mkF m 84 #[.val (.long q1), .second, .val (.int p2), .val (.long (1000000000000000000 : Int64)), .second, .val (.int (p2 &&& (3 : Int32))), .val (.long q1), .second, .val (.int (1 : Int32))] [(.long q1)])) rfl (by rw [hml]; rfl) [(.long q1)] [] pd_0 rfl rfl rfl (by show 2 * 0 + _ ≤ _; exact Nat.le_of_eq rfl) (hb hby at_84) ?_
      rintro v3 T3 L3 X3 ⟨rfl, Nq3, e3⟩
      have N3 := Fr.app N0 Nq3
      show own_Ends _ _ _ _ _ _ _ T3 (mkF m 87 #[.val (.long q1), .second, .val (.int p2), .val (.long (1000000000000000000 : Int64)), .second, .val (.int (p2 &&& (3 : Int32))), .val (.long q1), .second, .val (.int (1 : Int32))] [(.int (own_f1 q1))])
      refine own_step (fun _ k => XS.iload X3.here hx rfl (hb hby at_87) rfl k) ?_
      show own_Ends _ _ _ _ _ _ _ T3 (mkF m 89 #[.val (.long q1), .second, .val (.int p2), .val (.long (1000000000000000000 : Int64)), .second, .val (.int (p2 &&& (3 : Int32))), .val (.long q1), .second, .val (.int (1 : Int32))] [(.int (1 : Int32)), (.int (own_f1 q1))])
      by_cases hc4 : (own_f1 q1) = (1 : Int32)
      · refine own_step (fun _ k => XS.icmpNo X3.here hx rfl (hb hby at_89) rfl (teq hc4).2 k) ?_
        show own_Ends _ _ _ _ _ _ _ T3 (mkF m 92 #[.val (.long q1), .second, .val (.int p2), .val (.long (1000000000000000000 : Int64)), .second, .val (.int (p2 &&& (3 : Int32))), .val (.long q1), .second, .val (.int (1 : Int32))] [])
        refine own_step (fun _ k => XS.iconst X3.here hx rfl (hb hby at_92) k) ?_
        show own_Ends _ _ _ _ _ _ _ T3 (mkF m 93 #[.val (.long q1), .second, .val (.int p2), .val (.long (1000000000000000000 : Int64)), .second, .val (.int (p2 &&& (3 : Int32))), .val (.long q1), .second, .val (.int (1 : Int32))] [(.int (1 : Int32))])
        refine own_step (fun _ k => XS.goto X3.here hx rfl (pc0 := 93) (pc' := 97) rfl (hb hby at_93) (by decide) (by decide) k) ?_
        show own_Ends _ _ _ _ _ _ _ T3 (mkF m 97 #[.val (.long q1), .second, .val (.int p2), .val (.long (1000000000000000000 : Int64)), .second, .val (.int (p2 &&& (3 : Int32))), .val (.long q1), .second, .val (.int (1 : Int32))] [(.int (1 : Int32))])
        exact own_retN X3 hx (t := .boolean) hret (by simp) hlk (hb hby at_97) rfl ⟨own_leafI ((if_pos hc1).trans ((if_pos hc2).trans (if_pos hc4))), N3⟩ (by decide) (by decide)
      · refine own_step (fun _ k => XS.icmpYes X3.here hx rfl (pc0 := 89) (pc' := 96) rfl (hb hby at_89) rfl (feq hc4).2 (by decide) (by decide) k) ?_
        show own_Ends _ _ _ _ _ _ _ T3 (mkF m 96 #[.val (.long q1), .second, .val (.int p2), .val (.long (1000000000000000000 : Int64)), .second, .val (.int (p2 &&& (3 : Int32))), .val (.long q1), .second, .val (.int (1 : Int32))] [])
        refine own_step (fun _ k => XS.iconst X3.here hx rfl (hb hby at_96) k) ?_
        show own_Ends _ _ _ _ _ _ _ T3 (mkF m 97 #[.val (.long q1), .second, .val (.int p2), .val (.long (1000000000000000000 : Int64)), .second, .val (.int (p2 &&& (3 : Int32))), .val (.long q1), .second, .val (.int (1 : Int32))] [(.int (0 : Int32))])
        exact own_retN X3 hx (t := .boolean) hret (by simp) hlk (hb hby at_97) rfl ⟨own_leafI ((if_pos hc1).trans ((if_pos hc2).trans (if_neg hc4))), N3⟩ (by decide) (by decide)
    · refine own_step (fun _ k => XS.ifYes X0.here hx rfl (pc0 := 72) (pc' := 79) rfl (hb hby at_72) rfl ((if0 _ _).trans (feq (fun q => hc2 ((lw_eq (q1 / (1000000000000000000 : Int64)) (0 : Int64)).mp q))).2) (by decide) (by decide) k) ?_
      show own_Ends _ _ _ _ _ _ _ T0 (mkF m 79 #[.val (.long q1), .second, .val (.int p2), .val (.long (1000000000000000000 : Int64)), .second, .val (.int (p2 &&& (3 : Int32))), .val (.long q1), .second, .unset] [])
      refine own_step (fun _ k => XS.iconst X0.here hx rfl (hb hby at_79) k) ?_
      show own_Ends _ _ _ _ _ _ _ T0 (mkF m 80 #[.val (.long q1), .second, .val (.int p2), .val (.long (1000000000000000000 : Int64)), .second, .val (.int (p2 &&& (3 : Int32))), .val (.long q1), .second, .unset] [(.int (0 : Int32))])
      refine own_step (fun _ k => XS.istore X0.here hx rfl (hb hby at_80) rfl (l' := #[.val (.long q1), .second, .val (.int p2), .val (.long (1000000000000000000 : Int64)), .second, .val (.int (p2 &&& (3 : Int32))), .val (.long q1), .second, .val (.int (0 : Int32))]) rfl k) ?_
      show own_Ends _ _ _ _ _ _ _ T0 (mkF m 82 #[.val (.long q1), .second, .val (.int p2), .val (.long (1000000000000000000 : Int64)), .second, .val (.int (p2 &&& (3 : Int32))), .val (.long q1), .second, .val (.int (0 : Int32))] [])
      refine own_step (fun _ k => XS.lload X0.here hx rfl (hb hby at_82) rfl k) ?_
      show own_Ends _ _ _ _ _ _ _ T0 (mkF m 84 #[.val (.long q1), .second, .val (.int p2), .val (.long (1000000000000000000 : Int64)), .second, .val (.int (p2 &&& (3 : Int32))), .val (.long q1), .second, .val (.int (0 : Int32))] [(.long q1)])
      refine own_callS X0 hx hZ (y := (⟨"com/example/tickwright/tickwright/Formats", "isWholeNumber", "(J)Z"⟩ : MethodName)) hown (hw _ (List.mem_of_getElem? (i := 2) rfl)) (hw _ (List.mem_of_getElem? (i := 3) rfl)) (hw _ (List.mem_of_getElem? (i := 4) rfl)) (hw _ (List.mem_of_getElem? (i := 5) rfl)) (by decide) (rm1 l Z a0 hw [] q1 h0 n0 Z0) e0 0 (by decide) (by decide) (by decide) (by decide) (g := (mkF m 84 #[.val (.long q1), .second, .val (.int p2), .val (.long (1000000000000000000 : Int64)), .second, .val (.int (p2 &&& (3 : Int32))), .val (.long q1), .second, .val (.int (0 : Int32))] [(.long q1)])) rfl (by rw [hml]; rfl) [(.long q1)] [] pd_0 rfl rfl rfl (by show 2 * 0 + _ ≤ _; exact Nat.le_of_eq rfl) (hb hby at_84) ?_
      rintro v5 T5 L5 X5 ⟨rfl, Nq5, e5⟩
      have N5 := Fr.app N0 Nq5
      show own_Ends _ _ _ _ _ _ _ T5 (mkF m 87 #[.val (.long q1), .second, .val (.int p2), .val (.long (1000000000000000000 : Int64)), .second, .val (.int (p2 &&& (3 : Int32))), .val (.long q1), .second, .val (.int (0 : Int32))] [(.int (own_f1 q1))])
      refine own_step (fun _ k => XS.iload X5.here hx rfl (hb hby at_87) rfl k) ?_
      show own_Ends _ _ _ _ _ _ _ T5 (mkF m 89 #[.val (.long q1), .second, .val (.int p2), .val (.long (1000000000000000000 : Int64)), .second, .val (.int (p2 &&& (3 : Int32))), .val (.long q1), .second, .val (.int (0 : Int32))] [(.int (0 : Int32)), (.int (own_f1 q1))])
      by_cases hc6 : (own_f1 q1) = (0 : Int32)
      · refine own_step (fun _ k => XS.icmpNo X5.here hx rfl (hb hby at_89) rfl (teq hc6).2 k) ?_
        show own_Ends _ _ _ _ _ _ _ T5 (mkF m 92 #[.val (.long q1), .second, .val (.int p2), .val (.long (1000000000000000000 : Int64)), .second, .val (.int (p2 &&& (3 : Int32))), .val (.long q1), .second, .val (.int (0 : Int32))] [])
        refine own_step (fun _ k => XS.iconst X5.here hx rfl (hb hby at_92) k) ?_
        show own_Ends _ _ _ _ _ _ _ T5 (mkF m 93 #[.val (.long q1), .second, .val (.int p2), .val (.long (1000000000000000000 : Int64)), .second, .val (.int (p2 &&& (3 : Int32))), .val (.long q1), .second, .val (.int (0 : Int32))] [(.int (1 : Int32))])
        refine own_step (fun _ k => XS.goto X5.here hx rfl (pc0 := 93) (pc' := 97) rfl (hb hby at_93) (by decide) (by decide) k) ?_
        show own_Ends _ _ _ _ _ _ _ T5 (mkF m 97 #[.val (.long q1), .second, .val (.int p2), .val (.long (1000000000000000000 : Int64)), .second, .val (.int (p2 &&& (3 : Int32))), .val (.long q1), .second, .val (.int (0 : Int32))] [(.int (1 : Int32))])
        exact own_retN X5 hx (t := .boolean) hret (by simp) hlk (hb hby at_97) rfl ⟨own_leafI ((if_pos hc1).trans ((if_neg hc2).trans (if_pos hc6))), N5⟩ (by decide) (by decide)
      · refine own_step (fun _ k => XS.icmpYes X5.here hx rfl (pc0 := 89) (pc' := 96) rfl (hb hby at_89) rfl (feq hc6).2 (by decide) (by decide) k) ?_
        show own_Ends _ _ _ _ _ _ _ T5 (mkF m 96 #[.val (.long q1), .second, .val (.int p2), .val (.long (1000000000000000000 : Int64)), .second, .val (.int (p2 &&& (3 : Int32))), .val (.long q1), .second, .val (.int (0 : Int32))] [])
        refine own_step (fun _ k => XS.iconst X5.here hx rfl (hb hby at_96) k) ?_
        show own_Ends _ _ _ _ _ _ _ T5 (mkF m 97 #[.val (.long q1), .second, .val (.int p2), .val (.long (1000000000000000000 : Int64)), .second, .val (.int (p2 &&& (3 : Int32))), .val (.long q1), .second, .val (.int (0 : Int32))] [(.int (0 : Int32))])
        exact own_retN X5 hx (t := .boolean) hret (by simp) hlk (hb hby at_97) rfl ⟨own_leafI ((if_pos hc1).trans ((if_neg hc2).trans (if_neg hc6))), N5⟩ (by decide) (by decide)
  · refine own_step (fun _ k => XS.ifYes X0.here hx rfl (pc0 := 11) (pc' := 20) rfl (hb hby at_11) rfl ((if0 _ _).trans (feq hc1).2) (by decide) (by decide) k) ?_
    show own_Ends _ _ _ _ _ _ _ T0 (mkF m 20 #[.val (.long q1), .second, .val (.int p2), .val (.long (1000000000000000000 : Int64)), .second, .val (.int (p2 &&& (3 : Int32))), .unset, .unset, .unset] [])
    refine own_step (fun _ k => XS.iload X0.here hx rfl (hb hby at_20) rfl k) ?_
    show own_Ends _ _ _ _ _ _ _ T0 (mkF m 22 #[.val (.long q1), .second, .val (.int p2), .val (.long (1000000000000000000 : Int64)), .second, .val (.int (p2 &&& (3 : Int32))), .unset, .unset, .unset] [(.int (p2 &&& (3 : Int32)))])
    refine own_step (fun _ k => XS.iconst X0.here hx rfl (hb hby at_22) k) ?_
    show own_Ends _ _ _ _ _ _ _ T0 (mkF m 23 #[.val (.long q1), .second, .val (.int p2), .val (.long (1000000000000000000 : Int64)), .second, .val (.int (p2 &&& (3 : Int32))), .unset, .unset, .unset] [(.int (1 : Int32)), (.int (p2 &&& (3 : Int32)))])
    by_cases hc7 : (p2 &&& (3 : Int32)) = (1 : Int32)
    · refine own_step (fun _ k => XS.icmpNo X0.here hx rfl (hb hby at_23) rfl (teq hc7).2 k) ?_
      show own_Ends _ _ _ _ _ _ _ T0 (mkF m 26 #[.val (.long q1), .second, .val (.int p2), .val (.long (1000000000000000000 : Int64)), .second, .val (.int (p2 &&& (3 : Int32))), .unset, .unset, .unset] [])
      refine own_step (fun _ k => XS.lloadN X0.here hx rfl (hb hby at_26) rfl k) ?_
      show own_Ends _ _ _ _ _ _ _ T0 (mkF m 27 #[.val (.long q1), .second, .val (.int p2), .val (.long (1000000000000000000 : Int64)), .second, .val (.int (p2 &&& (3 : Int32))), .unset, .unset, .unset] [(.long (1000000000000000000 : Int64))])
      refine own_step (fun _ k => XS.lloadN X0.here hx rfl (hb hby at_27) rfl k) ?_
      show own_Ends _ _ _ _ _ _ _ T0 (mkF m 28 #[.val (.long q1), .second, .val (.int p2), .val (.long (1000000000000000000 : Int64)), .second, .val (.int (p2 &&& (3 : Int32))), .unset, .unset, .unset] [(.long q1), (.long (1000000000000000000 : Int64))])
      refine own_step (X0.ldc2Long hx hown (mvT hZ (hw _ (List.mem_of_getElem? (i := 1) rfl))) (g := (mkF m 28 #[.val (.long q1), .second, .val (.int p2), .val (.long (1000000000000000000 : Int64)), .second, .val (.int (p2 &&& (3 : Int32))), .unset, .unset, .unset] [(.long q1), (.long (1000000000000000000 : Int64))])) rfl (hb hby at_28)) ?_
      show own_Ends _ _ _ _ _ _ _ T0 (mkF m 31 #[.val (.long q1), .second, .val (.int p2), .val (.long (1000000000000000000 : Int64)), .second, .val (.int (p2 &&& (3 : Int32))), .unset, .unset, .unset] [(.long (3 : Int64)), (.long q1), (.long (1000000000000000000 : Int64))])
      refine own_step (fun _ k => XS.lrem X0.here hx rfl (hb hby at_31) rfl (by decide) k) ?_
      show own_Ends _ _ _ _ _ _ _ T0 (mkF m 32 #[.val (.long q1), .second, .val (.int p2), .val (.long (1000000000000000000 : Int64)), .second, .val (.int (p2 &&& (3 : Int32))), .unset, .unset, .unset] [(.long (q1 - (q1 / (3 : Int64)) * (3 : Int64))), (.long (1000000000000000000 : Int64))])
      rw [lrem_mod]
      show own_Ends _ _ _ _ _ _ _ T0 (mkF m 32 #[.val (.long q1), .second, .val (.int p2), .val (.long (1000000000000000000 : Int64)), .second, .val (.int (p2 &&& (3 : Int32))), .unset, .unset, .unset] [(.long (q1 % (3 : Int64))), (.long (1000000000000000000 : Int64))])
      refine own_step (fun _ k => XS.ladd X0.here hx rfl (hb hby at_32) rfl k) ?_
      show own_Ends _ _ _ _ _ _ _ T0 (mkF m 33 #[.val (.long q1), .second, .val (.int p2), .val (.long (1000000000000000000 : Int64)), .second, .val (.int (p2 &&& (3 : Int32))), .unset, .unset, .unset] [(.long ((1000000000000000000 : Int64) + (q1 % (3 : Int64))))])
      refine own_step (fun _ k => XS.lstore X0.here hx rfl (hb hby at_33) rfl (l' := #[.val (.long q1), .second, .val (.int p2), .val (.long (1000000000000000000 : Int64)), .second, .val (.int (p2 &&& (3 : Int32))), .val (.long ((1000000000000000000 : Int64) + (q1 % (3 : Int64)))), .second, .unset]) rfl k) ?_
      show own_Ends _ _ _ _ _ _ _ T0 (mkF m 35 #[.val (.long q1), .second, .val (.int p2), .val (.long (1000000000000000000 : Int64)), .second, .val (.int (p2 &&& (3 : Int32))), .val (.long ((1000000000000000000 : Int64) + (q1 % (3 : Int64)))), .second, .unset] [])
      refine own_step (fun _ k => XS.goto X0.here hx rfl (pc0 := 35) (pc' := 66) rfl (hb hby at_35) (by decide) (by decide) k) ?_
      show own_Ends _ _ _ _ _ _ _ T0 (mkF m 66 #[.val (.long q1), .second, .val (.int p2), .val (.long (1000000000000000000 : Int64)), .second, .val (.int (p2 &&& (3 : Int32))), .val (.long ((1000000000000000000 : Int64) + (q1 % (3 : Int64)))), .second, .unset] [])
      refine own_step (fun _ k => XS.lload X0.here hx rfl (hb hby at_66) rfl k) ?_
      show own_Ends _ _ _ _ _ _ _ T0 (mkF m 68 #[.val (.long q1), .second, .val (.int p2), .val (.long (1000000000000000000 : Int64)), .second, .val (.int (p2 &&& (3 : Int32))), .val (.long ((1000000000000000000 : Int64) + (q1 % (3 : Int64)))), .second, .unset] [(.long ((1000000000000000000 : Int64) + (q1 % (3 : Int64))))])
      refine own_step (fun _ k => XS.lloadN X0.here hx rfl (hb hby at_68) rfl k) ?_
      show own_Ends _ _ _ _ _ _ _ T0 (mkF m 69 #[.val (.long q1), .second, .val (.int p2), .val (.long (1000000000000000000 : Int64)), .second, .val (.int (p2 &&& (3 : Int32))), .val (.long ((1000000000000000000 : Int64) + (q1 % (3 : Int64)))), .second, .unset] [(.long (1000000000000000000 : Int64)), (.long ((1000000000000000000 : Int64) + (q1 % (3 : Int64))))])
      refine own_step (fun _ k => XS.ldiv X0.here hx rfl (hb hby at_69) rfl (by decide) k) ?_
      show own_Ends _ _ _ _ _ _ _ T0 (mkF m 70 #[.val (.long q1), .second, .val (.int p2), .val (.long (1000000000000000000 : Int64)), .second, .val (.int (p2 &&& (3 : Int32))), .val (.long ((1000000000000000000 : Int64) + (q1 % (3 : Int64)))), .second, .unset] [(.long (((1000000000000000000 : Int64) + (q1 % (3 : Int64))) / (1000000000000000000 : Int64)))])
      refine own_step (fun _ k => XS.lconst X0.here hx rfl (hb hby at_70) k) ?_
      show own_Ends _ _ _ _ _ _ _ T0 (mkF m 71 #[.val (.long q1), .second, .val (.int p2), .val (.long (1000000000000000000 : Int64)), .second, .val (.int (p2 &&& (3 : Int32))), .val (.long ((1000000000000000000 : Int64) + (q1 % (3 : Int64)))), .second, .unset] [(.long (0 : Int64)), (.long (((1000000000000000000 : Int64) + (q1 % (3 : Int64))) / (1000000000000000000 : Int64)))])
      refine own_step (fun _ k => XS.lcmp X0.here hx rfl (hb hby at_71) rfl k) ?_
      show own_Ends _ _ _ _ _ _ _ T0 (mkF m 72 #[.val (.long q1), .second, .val (.int p2), .val (.long (1000000000000000000 : Int64)), .second, .val (.int (p2 &&& (3 : Int32))), .val (.long ((1000000000000000000 : Int64) + (q1 % (3 : Int64)))), .second, .unset] [(.int (lcmpW (((1000000000000000000 : Int64) + (q1 % (3 : Int64))) / (1000000000000000000 : Int64)) (0 : Int64)))])
      by_cases hc8 : (((1000000000000000000 : Int64) + (q1 % (3 : Int64))) / (1000000000000000000 : Int64)) = (0 : Int64)
      · refine own_step (fun _ k => XS.ifNo X0.here hx rfl (hb hby at_72) rfl ((if0 _ _).trans (teq ((lw_eq (((1000000000000000000 : Int64) + (q1 % (3 : Int64))) / (1000000000000000000 : Int64)) (0 : Int64)).mpr hc8)).2) k) ?_
        show own_Ends _ _ _ _ _ _ _ T0 (mkF m 75 #[.val (.long q1), .second, .val (.int p2), .val (.long (1000000000000000000 : Int64)), .second, .val (.int (p2 &&& (3 : Int32))), .val (.long ((1000000000000000000 : Int64) + (q1 % (3 : Int64)))), .second, .unset] [])
        refine own_step (fun _ k => XS.iconst X0.here hx rfl (hb hby at_75) k) ?_
        show own_Ends _ _ _ _ _ _ _ T0 (mkF m 76 #[.val (.long q1), .second, .val (.int p2), .val (.long (1000000000000000000 : Int64)), .second, .val (.int (p2 &&& (3 : Int32))), .val (.long ((1000000000000000000 : Int64) + (q1 % (3 : Int64)))), .second, .unset] [(.int (1 : Int32))])
        refine own_step (fun _ k => XS.goto X0.here hx rfl (pc0 := 76) (pc' := 80) rfl (hb hby at_76) (by decide) (by decide) k) ?_
        show own_Ends _ _ _ _ _ _ _ T0 (mkF m 80 #[.val (.long q1), .second, .val (.int p2), .val (.long (1000000000000000000 : Int64)), .second, .val (.int (p2 &&& (3 : Int32))), .val (.long ((1000000000000000000 : Int64) + (q1 % (3 : Int64)))), .second, .unset] [(.int (1 : Int32))])
        refine own_step (fun _ k => XS.istore X0.here hx rfl (hb hby at_80) rfl (l' := #[.val (.long q1), .second, .val (.int p2), .val (.long (1000000000000000000 : Int64)), .second, .val (.int (p2 &&& (3 : Int32))), .val (.long ((1000000000000000000 : Int64) + (q1 % (3 : Int64)))), .second, .val (.int (1 : Int32))]) rfl k) ?_
        show own_Ends _ _ _ _ _ _ _ T0 (mkF m 82 #[.val (.long q1), .second, .val (.int p2), .val (.long (1000000000000000000 : Int64)), .second, .val (.int (p2 &&& (3 : Int32))), .val (.long ((1000000000000000000 : Int64) + (q1 % (3 : Int64)))), .second, .val (.int (1 : Int32))] [])
        refine own_step (fun _ k => XS.lload X0.here hx rfl (hb hby at_82) rfl k) ?_
        show own_Ends _ _ _ _ _ _ _ T0 (mkF m 84 #[.val (.long q1), .second, .val (.int p2), .val (.long (1000000000000000000 : Int64)), .second, .val (.int (p2 &&& (3 : Int32))), .val (.long ((1000000000000000000 : Int64) + (q1 % (3 : Int64)))), .second, .val (.int (1 : Int32))] [(.long ((1000000000000000000 : Int64) + (q1 % (3 : Int64))))])
        refine own_callS X0 hx hZ (y := (⟨"com/example/tickwright/tickwright/Formats", "isWholeNumber", "(J)Z"⟩ : MethodName)) hown (hw _ (List.mem_of_getElem? (i := 2) rfl)) (hw _ (List.mem_of_getElem? (i := 3) rfl)) (hw _ (List.mem_of_getElem? (i := 4) rfl)) (hw _ (List.mem_of_getElem? (i := 5) rfl)) (by decide) (rm1 l Z a0 hw [] ((1000000000000000000 : Int64) + (q1 % (3 : Int64))) h0 n0 Z0) e0 0 (by decide) (by decide) (by decide) (by decide) (g := (mkF m 84 #[.val (.long q1), .second, .val (.int p2), .val (.long (1000000000000000000 : Int64)), .second, .val (.int (p2 &&& (3 : Int32))), .val (.long ((1000000000000000000 : Int64) + (q1 % (3 : Int64)))), .second, .val (.int (1 : Int32))] [(.long ((1000000000000000000 : Int64) + (q1 % (3 : Int64))))])) rfl (by rw [hml]; rfl) [(.long ((1000000000000000000 : Int64) + (q1 % (3 : Int64))))] [] pd_0 rfl rfl rfl (by show 2 * 0 + _ ≤ _; exact Nat.le_of_eq rfl) (hb hby at_84) ?_
        rintro v9 T9 L9 X9 ⟨rfl, Nq9, e9⟩
        have N9 := Fr.app N0 Nq9
        show own_Ends _ _ _ _ _ _ _ T9 (mkF m 87 #[.val (.long q1), .second, .val (.int p2), .val (.long (1000000000000000000 : Int64)), .second, .val (.int (p2 &&& (3 : Int32))), .val (.long ((1000000000000000000 : Int64) + (q1 % (3 : Int64)))), .second, .val (.int (1 : Int32))] [(.int (own_f1 ((1000000000000000000 : Int64) + (q1 % (3 : Int64)))))])
        refine own_step (fun _ k => XS.iload X9.here hx rfl (hb hby at_87) rfl k) ?_
        show own_Ends _ _ _ _ _ _ _ T9 (mkF m 89 #[.val (.long q1), .second, .val (.int p2), .val (.long (1000000000000000000 : Int64)), .second, .val (.int (p2 &&& (3 : Int32))), .val (.long ((1000000000000000000 : Int64) + (q1 % (3 : Int64)))), .second, .val (.int (1 : Int32))] [(.int (1 : Int32)), (.int (own_f1 ((1000000000000000000 : Int64) + (q1 % (3 : Int64)))))])
        by_cases hc10 : (own_f1 ((1000000000000000000 : Int64) + (q1 % (3 : Int64)))) = (1 : Int32)
        · refine own_step (fun _ k => XS.icmpNo X9.here hx rfl (hb hby at_89) rfl (teq hc10).2 k) ?_
          show own_Ends _ _ _ _ _ _ _ T9 (mkF m 92 #[.val (.long q1), .second, .val (.int p2), .val (.long (1000000000000000000 : Int64)), .second, .val (.int (p2 &&& (3 : Int32))), .val (.long ((1000000000000000000 : Int64) + (q1 % (3 : Int64)))), .second, .val (.int (1 : Int32))] [])
          refine own_step (fun _ k => XS.iconst X9.here hx rfl (hb hby at_92) k) ?_
          show own_Ends _ _ _ _ _ _ _ T9 (mkF m 93 #[.val (.long q1), .second, .val (.int p2), .val (.long (1000000000000000000 : Int64)), .second, .val (.int (p2 &&& (3 : Int32))), .val (.long ((1000000000000000000 : Int64) + (q1 % (3 : Int64)))), .second, .val (.int (1 : Int32))] [(.int (1 : Int32))])
          refine own_step (fun _ k => XS.goto X9.here hx rfl (pc0 := 93) (pc' := 97) rfl (hb hby at_93) (by decide) (by decide) k) ?_
          show own_Ends _ _ _ _ _ _ _ T9 (mkF m 97 #[.val (.long q1), .second, .val (.int p2), .val (.long (1000000000000000000 : Int64)), .second, .val (.int (p2 &&& (3 : Int32))), .val (.long ((1000000000000000000 : Int64) + (q1 % (3 : Int64)))), .second, .val (.int (1 : Int32))] [(.int (1 : Int32))])
          exact own_retN X9 hx (t := .boolean) hret (by simp) hlk (hb hby at_97) rfl ⟨own_leafI ((if_neg hc1).trans ((if_pos hc7).trans ((if_pos hc8).trans (if_pos hc10)))), N9⟩ (by decide) (by decide)
        · refine own_step (fun _ k => XS.icmpYes X9.here hx rfl (pc0 := 89) (pc' := 96) rfl (hb hby at_89) rfl (feq hc10).2 (by decide) (by decide) k) ?_
          show own_Ends _ _ _ _ _ _ _ T9 (mkF m 96 #[.val (.long q1), .second, .val (.int p2), .val (.long (1000000000000000000 : Int64)), .second, .val (.int (p2 &&& (3 : Int32))), .val (.long ((1000000000000000000 : Int64) + (q1 % (3 : Int64)))), .second, .val (.int (1 : Int32))] [])
          refine own_step (fun _ k => XS.iconst X9.here hx rfl (hb hby at_96) k) ?_
          show own_Ends _ _ _ _ _ _ _ T9 (mkF m 97 #[.val (.long q1), .second, .val (.int p2), .val (.long (1000000000000000000 : Int64)), .second, .val (.int (p2 &&& (3 : Int32))), .val (.long ((1000000000000000000 : Int64) + (q1 % (3 : Int64)))), .second, .val (.int (1 : Int32))] [(.int (0 : Int32))])
          exact own_retN X9 hx (t := .boolean) hret (by simp) hlk (hb hby at_97) rfl ⟨own_leafI ((if_neg hc1).trans ((if_pos hc7).trans ((if_pos hc8).trans (if_neg hc10)))), N9⟩ (by decide) (by decide)
      · refine own_step (fun _ k => XS.ifYes X0.here hx rfl (pc0 := 72) (pc' := 79) rfl (hb hby at_72) rfl ((if0 _ _).trans (feq (fun q => hc8 ((lw_eq (((1000000000000000000 : Int64) + (q1 % (3 : Int64))) / (1000000000000000000 : Int64)) (0 : Int64)).mp q))).2) (by decide) (by decide) k) ?_
        show own_Ends _ _ _ _ _ _ _ T0 (mkF m 79 #[.val (.long q1), .second, .val (.int p2), .val (.long (1000000000000000000 : Int64)), .second, .val (.int (p2 &&& (3 : Int32))), .val (.long ((1000000000000000000 : Int64) + (q1 % (3 : Int64)))), .second, .unset] [])
        refine own_step (fun _ k => XS.iconst X0.here hx rfl (hb hby at_79) k) ?_
        show own_Ends _ _ _ _ _ _ _ T0 (mkF m 80 #[.val (.long q1), .second, .val (.int p2), .val (.long (1000000000000000000 : Int64)), .second, .val (.int (p2 &&& (3 : Int32))), .val (.long ((1000000000000000000 : Int64) + (q1 % (3 : Int64)))), .second, .unset] [(.int (0 : Int32))])
        refine own_step (fun _ k => XS.istore X0.here hx rfl (hb hby at_80) rfl (l' := #[.val (.long q1), .second, .val (.int p2), .val (.long (1000000000000000000 : Int64)), .second, .val (.int (p2 &&& (3 : Int32))), .val (.long ((1000000000000000000 : Int64) + (q1 % (3 : Int64)))), .second, .val (.int (0 : Int32))]) rfl k) ?_
        show own_Ends _ _ _ _ _ _ _ T0 (mkF m 82 #[.val (.long q1), .second, .val (.int p2), .val (.long (1000000000000000000 : Int64)), .second, .val (.int (p2 &&& (3 : Int32))), .val (.long ((1000000000000000000 : Int64) + (q1 % (3 : Int64)))), .second, .val (.int (0 : Int32))] [])
        refine own_step (fun _ k => XS.lload X0.here hx rfl (hb hby at_82) rfl k) ?_
        show own_Ends _ _ _ _ _ _ _ T0 (mkF m 84 #[.val (.long q1), .second, .val (.int p2), .val (.long (1000000000000000000 : Int64)), .second, .val (.int (p2 &&& (3 : Int32))), .val (.long ((1000000000000000000 : Int64) + (q1 % (3 : Int64)))), .second, .val (.int (0 : Int32))] [(.long ((1000000000000000000 : Int64) + (q1 % (3 : Int64))))])
        refine own_callS X0 hx hZ (y := (⟨"com/example/tickwright/tickwright/Formats", "isWholeNumber", "(J)Z"⟩ : MethodName)) hown (hw _ (List.mem_of_getElem? (i := 2) rfl)) (hw _ (List.mem_of_getElem? (i := 3) rfl)) (hw _ (List.mem_of_getElem? (i := 4) rfl)) (hw _ (List.mem_of_getElem? (i := 5) rfl)) (by decide) (rm1 l Z a0 hw [] ((1000000000000000000 : Int64) + (q1 % (3 : Int64))) h0 n0 Z0) e0 0 (by decide) (by decide) (by decide) (by decide) (g := (mkF m 84 #[.val (.long q1), .second, .val (.int p2), .val (.long (1000000000000000000 : Int64)), .second, .val (.int (p2 &&& (3 : Int32))), .val (.long ((1000000000000000000 : Int64) + (q1 % (3 : Int64)))), .second, .val (.int (0 : Int32))] [(.long ((1000000000000000000 : Int64) + (q1 % (3 : Int64))))])) rfl (by rw [hml]; rfl) [(.long ((1000000000000000000 : Int64) + (q1 % (3 : Int64))))] [] pd_0 rfl rfl rfl (by show 2 * 0 + _ ≤ _; exact Nat.le_of_eq rfl) (hb hby at_84) ?_
        rintro v11 T11 L11 X11 ⟨rfl, Nq11, e11⟩
        have N11 := Fr.app N0 Nq11
        show own_Ends _ _ _ _ _ _ _ T11 (mkF m 87 #[.val (.long q1), .second, .val (.int p2), .val (.long (1000000000000000000 : Int64)), .second, .val (.int (p2 &&& (3 : Int32))), .val (.long ((1000000000000000000 : Int64) + (q1 % (3 : Int64)))), .second, .val (.int (0 : Int32))] [(.int (own_f1 ((1000000000000000000 : Int64) + (q1 % (3 : Int64)))))])
        refine own_step (fun _ k => XS.iload X11.here hx rfl (hb hby at_87) rfl k) ?_
        show own_Ends _ _ _ _ _ _ _ T11 (mkF m 89 #[.val (.long q1), .second, .val (.int p2), .val (.long (1000000000000000000 : Int64)), .second, .val (.int (p2 &&& (3 : Int32))), .val (.long ((1000000000000000000 : Int64) + (q1 % (3 : Int64)))), .second, .val (.int (0 : Int32))] [(.int (0 : Int32)), (.int (own_f1 ((1000000000000000000 : Int64) + (q1 % (3 : Int64)))))])
        by_cases hc12 : (own_f1 ((1000000000000000000 : Int64) + (q1 % (3 : Int64)))) = (0 : Int32)
        · refine own_step (fun _ k => XS.icmpNo X11.here hx rfl (hb hby at_89) rfl (teq hc12).2 k) ?_
          show own_Ends _ _ _ _ _ _ _ T11 (mkF m 92 #[.val (.long q1), .second, .val (.int p2), .val (.long (1000000000000000000 : Int64)), .second, .val (.int (p2 &&& (3 : Int32))), .val (.long ((1000000000000000000 : Int64) + (q1 % (3 : Int64)))), .second, .val (.int (0 : Int32))] [])
          refine own_step (fun _ k => XS.iconst X11.here hx rfl (hb hby at_92) k) ?_
          show own_Ends _ _ _ _ _ _ _ T11 (mkF m 93 #[.val (.long q1), .second, .val (.int p2), .val (.long (1000000000000000000 : Int64)), .second, .val (.int (p2 &&& (3 : Int32))), .val (.long ((1000000000000000000 : Int64) + (q1 % (3 : Int64)))), .second, .val (.int (0 : Int32))] [(.int (1 : Int32))])
          refine own_step (fun _ k => XS.goto X11.here hx rfl (pc0 := 93) (pc' := 97) rfl (hb hby at_93) (by decide) (by decide) k) ?_
          show own_Ends _ _ _ _ _ _ _ T11 (mkF m 97 #[.val (.long q1), .second, .val (.int p2), .val (.long (1000000000000000000 : Int64)), .second, .val (.int (p2 &&& (3 : Int32))), .val (.long ((1000000000000000000 : Int64) + (q1 % (3 : Int64)))), .second, .val (.int (0 : Int32))] [(.int (1 : Int32))])
          exact own_retN X11 hx (t := .boolean) hret (by simp) hlk (hb hby at_97) rfl ⟨own_leafI ((if_neg hc1).trans ((if_pos hc7).trans ((if_neg hc8).trans (if_pos hc12)))), N11⟩ (by decide) (by decide)
        · refine own_step (fun _ k => XS.icmpYes X11.here hx rfl (pc0 := 89) (pc' := 96) rfl (hb hby at_89) rfl (feq hc12).2 (by decide) (by decide) k) ?_
          show own_Ends _ _ _ _ _ _ _ T11 (mkF m 96 #[.val (.long q1), .second, .val (.int p2), .val (.long (1000000000000000000 : Int64)), .second, .val (.int (p2 &&& (3 : Int32))), .val (.long ((1000000000000000000 : Int64) + (q1 % (3 : Int64)))), .second, .val (.int (0 : Int32))] [])
          refine own_step (fun _ k => XS.iconst X11.here hx rfl (hb hby at_96) k) ?_
          show own_Ends _ _ _ _ _ _ _ T11 (mkF m 97 #[.val (.long q1), .second, .val (.int p2), .val (.long (1000000000000000000 : Int64)), .second, .val (.int (p2 &&& (3 : Int32))), .val (.long ((1000000000000000000 : Int64) + (q1 % (3 : Int64)))), .second, .val (.int (0 : Int32))] [(.int (0 : Int32))])
          exact own_retN X11 hx (t := .boolean) hret (by simp) hlk (hb hby at_97) rfl ⟨own_leafI ((if_neg hc1).trans ((if_pos hc7).trans ((if_neg hc8).trans (if_neg hc12)))), N11⟩ (by decide) (by decide)
    · refine own_step (fun _ k => XS.icmpYes X0.here hx rfl (pc0 := 23) (pc' := 38) rfl (hb hby at_23) rfl (feq hc7).2 (by decide) (by decide) k) ?_
      show own_Ends _ _ _ _ _ _ _ T0 (mkF m 38 #[.val (.long q1), .second, .val (.int p2), .val (.long (1000000000000000000 : Int64)), .second, .val (.int (p2 &&& (3 : Int32))), .unset, .unset, .unset] [])
      refine own_step (fun _ k => XS.iload X0.here hx rfl (hb hby at_38) rfl k) ?_
      show own_Ends _ _ _ _ _ _ _ T0 (mkF m 40 #[.val (.long q1), .second, .val (.int p2), .val (.long (1000000000000000000 : Int64)), .second, .val (.int (p2 &&& (3 : Int32))), .unset, .unset, .unset] [(.int (p2 &&& (3 : Int32)))])
      refine own_step (fun _ k => XS.iconst X0.here hx rfl (hb hby at_40) k) ?_
      show own_Ends _ _ _ _ _ _ _ T0 (mkF m 41 #[.val (.long q1), .second, .val (.int p2), .val (.long (1000000000000000000 : Int64)), .second, .val (.int (p2 &&& (3 : Int32))), .unset, .unset, .unset] [(.int (2 : Int32)), (.int (p2 &&& (3 : Int32)))])
      by_cases hc13 : (p2 &&& (3 : Int32)) = (2 : Int32)
      · refine own_step (fun _ k => XS.icmpNo X0.here hx rfl (hb hby at_41) rfl (teq hc13).2 k) ?_
        show own_Ends _ _ _ _ _ _ _ T0 (mkF m 44 #[.val (.long q1), .second, .val (.int p2), .val (.long (1000000000000000000 : Int64)), .second, .val (.int (p2 &&& (3 : Int32))), .unset, .unset, .unset] [])
        refine own_step (fun _ k => XS.lloadN X0.here hx rfl (hb hby at_44) rfl k) ?_
        show own_Ends _ _ _ _ _ _ _ T0 (mkF m 45 #[.val (.long q1), .second, .val (.int p2), .val (.long (1000000000000000000 : Int64)), .second, .val (.int (p2 &&& (3 : Int32))), .unset, .unset, .unset] [(.long (1000000000000000000 : Int64))])
        refine own_step (fun _ k => XS.lneg X0.here hx rfl (hb hby at_45) rfl k) ?_
        show own_Ends _ _ _ _ _ _ _ T0 (mkF m 46 #[.val (.long q1), .second, .val (.int p2), .val (.long (1000000000000000000 : Int64)), .second, .val (.int (p2 &&& (3 : Int32))), .unset, .unset, .unset] [(.long (-(1000000000000000000 : Int64)))])
        refine own_step (fun _ k => XS.lloadN X0.here hx rfl (hb hby at_46) rfl k) ?_
        show own_Ends _ _ _ _ _ _ _ T0 (mkF m 47 #[.val (.long q1), .second, .val (.int p2), .val (.long (1000000000000000000 : Int64)), .second, .val (.int (p2 &&& (3 : Int32))), .unset, .unset, .unset] [(.long q1), (.long (-(1000000000000000000 : Int64)))])
        refine own_step (X0.ldc2Long hx hown (mvT hZ (hw _ (List.mem_of_getElem? (i := 1) rfl))) (g := (mkF m 47 #[.val (.long q1), .second, .val (.int p2), .val (.long (1000000000000000000 : Int64)), .second, .val (.int (p2 &&& (3 : Int32))), .unset, .unset, .unset] [(.long q1), (.long (-(1000000000000000000 : Int64)))])) rfl (hb hby at_47)) ?_
        show own_Ends _ _ _ _ _ _ _ T0 (mkF m 50 #[.val (.long q1), .second, .val (.int p2), .val (.long (1000000000000000000 : Int64)), .second, .val (.int (p2 &&& (3 : Int32))), .unset, .unset, .unset] [(.long (3 : Int64)), (.long q1), (.long (-(1000000000000000000 : Int64)))])
        refine own_step (fun _ k => XS.lrem X0.here hx rfl (hb hby at_50) rfl (by decide) k) ?_
        show own_Ends _ _ _ _ _ _ _ T0 (mkF m 51 #[.val (.long q1), .second, .val (.int p2), .val (.long (1000000000000000000 : Int64)), .second, .val (.int (p2 &&& (3 : Int32))), .unset, .unset, .unset] [(.long (q1 - (q1 / (3 : Int64)) * (3 : Int64))), (.long (-(1000000000000000000 : Int64)))])
        rw [lrem_mod]
        show own_Ends _ _ _ _ _ _ _ T0 (mkF m 51 #[.val (.long q1), .second, .val (.int p2), .val (.long (1000000000000000000 : Int64)), .second, .val (.int (p2 &&& (3 : Int32))), .unset, .unset, .unset] [(.long (q1 % (3 : Int64))), (.long (-(1000000000000000000 : Int64)))])
        refine own_step (fun _ k => XS.ladd X0.here hx rfl (hb hby at_51) rfl k) ?_
        show own_Ends _ _ _ _ _ _ _ T0 (mkF m 52 #[.val (.long q1), .second, .val (.int p2), .val (.long (1000000000000000000 : Int64)), .second, .val (.int (p2 &&& (3 : Int32))), .unset, .unset, .unset] [(.long ((-(1000000000000000000 : Int64)) + (q1 % (3 : Int64))))])
        refine own_step (fun _ k => XS.lstore X0.here hx rfl (hb hby at_52) rfl (l' := #[.val (.long q1), .second, .val (.int p2), .val (.long (1000000000000000000 : Int64)), .second, .val (.int (p2 &&& (3 : Int32))), .val (.long ((-(1000000000000000000 : Int64)) + (q1 % (3 : Int64)))), .second, .unset]) rfl k) ?_
        show own_Ends _ _ _ _ _ _ _ T0 (mkF m 54 #[.val (.long q1), .second, .val (.int p2), .val (.long (1000000000000000000 : Int64)), .second, .val (.int (p2 &&& (3 : Int32))), .val (.long ((-(1000000000000000000 : Int64)) + (q1 % (3 : Int64)))), .second, .unset] [])
        refine own_step (fun _ k => XS.goto X0.here hx rfl (pc0 := 54) (pc' := 66) rfl (hb hby at_54) (by decide) (by decide) k) ?_
        show own_Ends _ _ _ _ _ _ _ T0 (mkF m 66 #[.val (.long q1), .second, .val (.int p2), .val (.long (1000000000000000000 : Int64)), .second, .val (.int (p2 &&& (3 : Int32))), .val (.long ((-(1000000000000000000 : Int64)) + (q1 % (3 : Int64)))), .second, .unset] [])
        refine own_step (fun _ k => XS.lload X0.here hx rfl (hb hby at_66) rfl k) ?_
        show own_Ends _ _ _ _ _ _ _ T0 (mkF m 68 #[.val (.long q1), .second, .val (.int p2), .val (.long (1000000000000000000 : Int64)), .second, .val (.int (p2 &&& (3 : Int32))), .val (.long ((-(1000000000000000000 : Int64)) + (q1 % (3 : Int64)))), .second, .unset] [(.long ((-(1000000000000000000 : Int64)) + (q1 % (3 : Int64))))])
        refine own_step (fun _ k => XS.lloadN X0.here hx rfl (hb hby at_68) rfl k) ?_
        show own_Ends _ _ _ _ _ _ _ T0 (mkF m 69 #[.val (.long q1), .second, .val (.int p2), .val (.long (1000000000000000000 : Int64)), .second, .val (.int (p2 &&& (3 : Int32))), .val (.long ((-(1000000000000000000 : Int64)) + (q1 % (3 : Int64)))), .second, .unset] [(.long (1000000000000000000 : Int64)), (.long ((-(1000000000000000000 : Int64)) + (q1 % (3 : Int64))))])
        refine own_step (fun _ k => XS.ldiv X0.here hx rfl (hb hby at_69) rfl (by decide) k) ?_
        show own_Ends _ _ _ _ _ _ _ T0 (mkF m 70 #[.val (.long q1), .second, .val (.int p2), .val (.long (1000000000000000000 : Int64)), .second, .val (.int (p2 &&& (3 : Int32))), .val (.long ((-(1000000000000000000 : Int64)) + (q1 % (3 : Int64)))), .second, .unset] [(.long (((-(1000000000000000000 : Int64)) + (q1 % (3 : Int64))) / (1000000000000000000 : Int64)))])
        refine own_step (fun _ k => XS.lconst X0.here hx rfl (hb hby at_70) k) ?_
        show own_Ends _ _ _ _ _ _ _ T0 (mkF m 71 #[.val (.long q1), .second, .val (.int p2), .val (.long (1000000000000000000 : Int64)), .second, .val (.int (p2 &&& (3 : Int32))), .val (.long ((-(1000000000000000000 : Int64)) + (q1 % (3 : Int64)))), .second, .unset] [(.long (0 : Int64)), (.long (((-(1000000000000000000 : Int64)) + (q1 % (3 : Int64))) / (1000000000000000000 : Int64)))])
        refine own_step (fun _ k => XS.lcmp X0.here hx rfl (hb hby at_71) rfl k) ?_
        show own_Ends _ _ _ _ _ _ _ T0 (mkF m 72 #[.val (.long q1), .second, .val (.int p2), .val (.long (1000000000000000000 : Int64)), .second, .val (.int (p2 &&& (3 : Int32))), .val (.long ((-(1000000000000000000 : Int64)) + (q1 % (3 : Int64)))), .second, .unset] [(.int (lcmpW (((-(1000000000000000000 : Int64)) + (q1 % (3 : Int64))) / (1000000000000000000 : Int64)) (0 : Int64)))])
        by_cases hc14 : (((-(1000000000000000000 : Int64)) + (q1 % (3 : Int64))) / (1000000000000000000 : Int64)) = (0 : Int64)
        · refine own_step (fun _ k => XS.ifNo X0.here hx rfl (hb hby at_72) rfl ((if0 _ _).trans (teq ((lw_eq (((-(1000000000000000000 : Int64)) + (q1 % (3 : Int64))) / (1000000000000000000 : Int64)) (0 : Int64)).mpr hc14)).2) k) ?_
          show own_Ends _ _ _ _ _ _ _ T0 (mkF m 75 #[.val (.long q1), .second, .val (.int p2), .val (.long (1000000000000000000 : Int64)), .second, .val (.int (p2 &&& (3 : Int32))), .val (.long ((-(1000000000000000000 : Int64)) + (q1 % (3 : Int64)))), .second, .unset] [])
          refine own_step (fun _ k => XS.iconst X0.here hx rfl (hb hby at_75) k) ?_
          show own_Ends _ _ _ _ _ _ _ T0 (mkF m 76 #[.val (.long q1), .second, .val (.int p2), .val (.long (1000000000000000000 : Int64)), .second, .val (.int (p2 &&& (3 : Int32))), .val (.long ((-(1000000000000000000 : Int64)) + (q1 % (3 : Int64)))), .second, .unset] [(.int (1 : Int32))])
          refine own_step (fun _ k => XS.goto X0.here hx rfl (pc0 := 76) (pc' := 80) rfl (hb hby at_76) (by decide) (by decide) k) ?_
          show own_Ends _ _ _ _ _ _ _ T0 (mkF m 80 #[.val (.long q1), .second, .val (.int p2), .val (.long (1000000000000000000 : Int64)), .second, .val (.int (p2 &&& (3 : Int32))), .val (.long ((-(1000000000000000000 : Int64)) + (q1 % (3 : Int64)))), .second, .unset] [(.int (1 : Int32))])
          refine own_step (fun _ k => XS.istore X0.here hx rfl (hb hby at_80) rfl (l' := #[.val (.long q1), .second, .val (.int p2), .val (.long (1000000000000000000 : Int64)), .second, .val (.int (p2 &&& (3 : Int32))), .val (.long ((-(1000000000000000000 : Int64)) + (q1 % (3 : Int64)))), .second, .val (.int (1 : Int32))]) rfl k) ?_
          show own_Ends _ _ _ _ _ _ _ T0 (mkF m 82 #[.val (.long q1), .second, .val (.int p2), .val (.long (1000000000000000000 : Int64)), .second, .val (.int (p2 &&& (3 : Int32))), .val (.long ((-(1000000000000000000 : Int64)) + (q1 % (3 : Int64)))), .second, .val (.int (1 : Int32))] [])
          refine own_step (fun _ k => XS.lload X0.here hx rfl (hb hby at_82) rfl k) ?_
          show own_Ends _ _ _ _ _ _ _ T0 (mkF m 84 #[.val (.long q1), .second, .val (.int p2), .val (.long (1000000000000000000 : Int64)), .second, .val (.int (p2 &&& (3 : Int32))), .val (.long ((-(1000000000000000000 : Int64)) + (q1 % (3 : Int64)))), .second, .val (.int (1 : Int32))] [(.long ((-(1000000000000000000 : Int64)) + (q1 % (3 : Int64))))])
          refine own_callS X0 hx hZ (y := (⟨"com/example/tickwright/tickwright/Formats", "isWholeNumber", "(J)Z"⟩ : MethodName)) hown (hw _ (List.mem_of_getElem? (i := 2) rfl)) (hw _ (List.mem_of_getElem? (i := 3) rfl)) (hw _ (List.mem_of_getElem? (i := 4) rfl)) (hw _ (List.mem_of_getElem? (i := 5) rfl)) (by decide) (rm1 l Z a0 hw [] ((-(1000000000000000000 : Int64)) + (q1 % (3 : Int64))) h0 n0 Z0) e0 0 (by decide) (by decide) (by decide) (by decide) (g := (mkF m 84 #[.val (.long q1), .second, .val (.int p2), .val (.long (1000000000000000000 : Int64)), .second, .val (.int (p2 &&& (3 : Int32))), .val (.long ((-(1000000000000000000 : Int64)) + (q1 % (3 : Int64)))), .second, .val (.int (1 : Int32))] [(.long ((-(1000000000000000000 : Int64)) + (q1 % (3 : Int64))))])) rfl (by rw [hml]; rfl) [(.long ((-(1000000000000000000 : Int64)) + (q1 % (3 : Int64))))] [] pd_0 rfl rfl rfl (by show 2 * 0 + _ ≤ _; exact Nat.le_of_eq rfl) (hb hby at_84) ?_
          rintro v15 T15 L15 X15 ⟨rfl, Nq15, e15⟩
          have N15 := Fr.app N0 Nq15
          show own_Ends _ _ _ _ _ _ _ T15 (mkF m 87 #[.val (.long q1), .second, .val (.int p2), .val (.long (1000000000000000000 : Int64)), .second, .val (.int (p2 &&& (3 : Int32))), .val (.long ((-(1000000000000000000 : Int64)) + (q1 % (3 : Int64)))), .second, .val (.int (1 : Int32))] [(.int (own_f1 ((-(1000000000000000000 : Int64)) + (q1 % (3 : Int64)))))])
          refine own_step (fun _ k => XS.iload X15.here hx rfl (hb hby at_87) rfl k) ?_
          show own_Ends _ _ _ _ _ _ _ T15 (mkF m 89 #[.val (.long q1), .second, .val (.int p2), .val (.long (1000000000000000000 : Int64)), .second, .val (.int (p2 &&& (3 : Int32))), .val (.long ((-(1000000000000000000 : Int64)) + (q1 % (3 : Int64)))), .second, .val (.int (1 : Int32))] [(.int (1 : Int32)), (.int (own_f1 ((-(1000000000000000000 : Int64)) + (q1 % (3 : Int64)))))])
          by_cases hc16 : (own_f1 ((-(1000000000000000000 : Int64)) + (q1 % (3 : Int64)))) = (1 : Int32)
          · refine own_step (fun _ k => XS.icmpNo X15.here hx rfl (hb hby at_89) rfl (teq hc16).2 k) ?_
            show own_Ends _ _ _ _ _ _ _ T15 (mkF m 92 #[.val (.long q1), .second, .val (.int p2), .val (.long (1000000000000000000 : Int64)), .second, .val (.int (p2 &&& (3 : Int32))), .val (.long ((-(1000000000000000000 : Int64)) + (q1 % (3 : Int64)))), .second, .val (.int (1 : Int32))] [])
            refine own_step (fun _ k => XS.iconst X15.here hx rfl (hb hby at_92) k) ?_
            show own_Ends _ _ _ _ _ _ _ T15 (mkF m 93 #[.val (.long q1), .second, .val (.int p2), .val (.long (1000000000000000000 : Int64)), .second, .val (.int (p2 &&& (3 : Int32))), .val (.long ((-(1000000000000000000 : Int64)) + (q1 % (3 : Int64)))), .second, .val (.int (1 : Int32))] [(.int (1 : Int32))])
            refine own_step (fun _ k => XS.goto X15.here hx rfl (pc0 := 93) (pc' := 97) rfl (hb hby at_93) (by decide) (by decide) k) ?_
            show own_Ends _ _ _ _ _ _ _ T15 (mkF m 97 #[.val (.long q1), .second, .val (.int p2), .val (.long (1000000000000000000 : Int64)), .second, .val (.int (p2 &&& (3 : Int32))), .val (.long ((-(1000000000000000000 : Int64)) + (q1 % (3 : Int64)))), .second, .val (.int (1 : Int32))] [(.int (1 : Int32))])
            exact own_retN X15 hx (t := .boolean) hret (by simp) hlk (hb hby at_97) rfl ⟨own_leafI ((if_neg hc1).trans ((if_neg hc7).trans ((if_pos hc13).trans ((if_pos hc14).trans (if_pos hc16))))), N15⟩ (by decide) (by decide)
          · refine own_step (fun _ k => XS.icmpYes X15.here hx rfl (pc0 := 89) (pc' := 96) rfl (hb hby at_89) rfl (feq hc16).2 (by decide) (by decide) k) ?_
            show own_Ends _ _ _ _ _ _ _ T15 (mkF m 96 #[.val (.long q1), .second, .val (.int p2), .val (.long (1000000000000000000 : Int64)), .second, .val (.int (p2 &&& (3 : Int32))), .val (.long ((-(1000000000000000000 : Int64)) + (q1 % (3 : Int64)))), .second, .val (.int (1 : Int32))] [])
            refine own_step (fun _ k => XS.iconst X15.here hx rfl (hb hby at_96) k) ?_
            show own_Ends _ _ _ _ _ _ _ T15 (mkF m 97 #[.val (.long q1), .second, .val (.int p2), .val (.long (1000000000000000000 : Int64)), .second, .val (.int (p2 &&& (3 : Int32))), .val (.long ((-(1000000000000000000 : Int64)) + (q1 % (3 : Int64)))), .second, .val (.int (1 : Int32))] [(.int (0 : Int32))])
            exact own_retN X15 hx (t := .boolean) hret (by simp) hlk (hb hby at_97) rfl ⟨own_leafI ((if_neg hc1).trans ((if_neg hc7).trans ((if_pos hc13).trans ((if_pos hc14).trans (if_neg hc16))))), N15⟩ (by decide) (by decide)
        · refine own_step (fun _ k => XS.ifYes X0.here hx rfl (pc0 := 72) (pc' := 79) rfl (hb hby at_72) rfl ((if0 _ _).trans (feq (fun q => hc14 ((lw_eq (((-(1000000000000000000 : Int64)) + (q1 % (3 : Int64))) / (1000000000000000000 : Int64)) (0 : Int64)).mp q))).2) (by decide) (by decide) k) ?_
          show own_Ends _ _ _ _ _ _ _ T0 (mkF m 79 #[.val (.long q1), .second, .val (.int p2), .val (.long (1000000000000000000 : Int64)), .second, .val (.int (p2 &&& (3 : Int32))), .val (.long ((-(1000000000000000000 : Int64)) + (q1 % (3 : Int64)))), .second, .unset] [])
          refine own_step (fun _ k => XS.iconst X0.here hx rfl (hb hby at_79) k) ?_
          show own_Ends _ _ _ _ _ _ _ T0 (mkF m 80 #[.val (.long q1), .second, .val (.int p2), .val (.long (1000000000000000000 : Int64)), .second, .val (.int (p2 &&& (3 : Int32))), .val (.long ((-(1000000000000000000 : Int64)) + (q1 % (3 : Int64)))), .second, .unset] [(.int (0 : Int32))])
          refine own_step (fun _ k => XS.istore X0.here hx rfl (hb hby at_80) rfl (l' := #[.val (.long q1), .second, .val (.int p2), .val (.long (1000000000000000000 : Int64)), .second, .val (.int (p2 &&& (3 : Int32))), .val (.long ((-(1000000000000000000 : Int64)) + (q1 % (3 : Int64)))), .second, .val (.int (0 : Int32))]) rfl k) ?_
          show own_Ends _ _ _ _ _ _ _ T0 (mkF m 82 #[.val (.long q1), .second, .val (.int p2), .val (.long (1000000000000000000 : Int64)), .second, .val (.int (p2 &&& (3 : Int32))), .val (.long ((-(1000000000000000000 : Int64)) + (q1 % (3 : Int64)))), .second, .val (.int (0 : Int32))] [])
          refine own_step (fun _ k => XS.lload X0.here hx rfl (hb hby at_82) rfl k) ?_
          show own_Ends _ _ _ _ _ _ _ T0 (mkF m 84 #[.val (.long q1), .second, .val (.int p2), .val (.long (1000000000000000000 : Int64)), .second, .val (.int (p2 &&& (3 : Int32))), .val (.long ((-(1000000000000000000 : Int64)) + (q1 % (3 : Int64)))), .second, .val (.int (0 : Int32))] [(.long ((-(1000000000000000000 : Int64)) + (q1 % (3 : Int64))))])
          refine own_callS X0 hx hZ (y := (⟨"com/example/tickwright/tickwright/Formats", "isWholeNumber", "(J)Z"⟩ : MethodName)) hown (hw _ (List.mem_of_getElem? (i := 2) rfl)) (hw _ (List.mem_of_getElem? (i := 3) rfl)) (hw _ (List.mem_of_getElem? (i := 4) rfl)) (hw _ (List.mem_of_getElem? (i := 5) rfl)) (by decide) (rm1 l Z a0 hw [] ((-(1000000000000000000 : Int64)) + (q1 % (3 : Int64))) h0 n0 Z0) e0 0 (by decide) (by decide) (by decide) (by decide) (g := (mkF m 84 #[.val (.long q1), .second, .val (.int p2), .val (.long (1000000000000000000 : Int64)), .second, .val (.int (p2 &&& (3 : Int32))), .val (.long ((-(1000000000000000000 : Int64)) + (q1 % (3 : Int64)))), .second, .val (.int (0 : Int32))] [(.long ((-(1000000000000000000 : Int64)) + (q1 % (3 : Int64))))])) rfl (by rw [hml]; rfl) [(.long ((-(1000000000000000000 : Int64)) + (q1 % (3 : Int64))))] [] pd_0 rfl rfl rfl (by show 2 * 0 + _ ≤ _; exact Nat.le_of_eq rfl) (hb hby at_84) ?_
          rintro v17 T17 L17 X17 ⟨rfl, Nq17, e17⟩
          have N17 := Fr.app N0 Nq17
          show own_Ends _ _ _ _ _ _ _ T17 (mkF m 87 #[.val (.long q1), .second, .val (.int p2), .val (.long (1000000000000000000 : Int64)), .second, .val (.int (p2 &&& (3 : Int32))), .val (.long ((-(1000000000000000000 : Int64)) + (q1 % (3 : Int64)))), .second, .val (.int (0 : Int32))] [(.int (own_f1 ((-(1000000000000000000 : Int64)) + (q1 % (3 : Int64)))))])
          refine own_step (fun _ k => XS.iload X17.here hx rfl (hb hby at_87) rfl k) ?_
          show own_Ends _ _ _ _ _ _ _ T17 (mkF m 89 #[.val (.long q1), .second, .val (.int p2), .val (.long (1000000000000000000 : Int64)), .second, .val (.int (p2 &&& (3 : Int32))), .val (.long ((-(1000000000000000000 : Int64)) + (q1 % (3 : Int64)))), .second, .val (.int (0 : Int32))] [(.int (0 : Int32)), (.int (own_f1 ((-(1000000000000000000 : Int64)) + (q1 % (3 : Int64)))))])
          by_cases hc18 : (own_f1 ((-(1000000000000000000 : Int64)) + (q1 % (3 : Int64)))) = (0 : Int32)
          · refine own_step (fun _ k => XS.icmpNo X17.here hx rfl (hb hby at_89) rfl (teq hc18).2 k) ?_
            show own_Ends _ _ _ _ _ _ _ T17 (mkF m 92 #[.val (.long q1), .second, .val (.int p2), .val (.long (1000000000000000000 : Int64)), .second, .val (.int (p2 &&& (3 : Int32))), .val (.long ((-(1000000000000000000 : Int64)) + (q1 % (3 : Int64)))), .second, .val (.int (0 : Int32))] [])
            refine own_step (fun _ k => XS.iconst X17.here hx rfl (hb hby at_92) k) ?_
            show own_Ends _ _ _ _ _ _ _ T17 (mkF m 93 #[.val (.long q1), .second, .val (.int p2), .val (.long (1000000000000000000 : Int64)), .second, .val (.int (p2 &&& (3 : Int32))), .val (.long ((-(1000000000000000000 : Int64)) + (q1 % (3 : Int64)))), .second, .val (.int (0 : Int32))] [(.int (1 : Int32))])
            refine own_step (fun _ k => XS.goto X17.here hx rfl (pc0 := 93) (pc' := 97) rfl (hb hby at_93) (by decide) (by decide) k) ?_
            show own_Ends _ _ _ _ _ _ _ T17 (mkF m 97 #[.val (.long q1), .second, .val (.int p2), .val (.long (1000000000000000000 : Int64)), .second, .val (.int (p2 &&& (3 : Int32))), .val (.long ((-(1000000000000000000 : Int64)) + (q1 % (3 : Int64)))), .second, .val (.int (0 : Int32))] [(.int (1 : Int32))])
            exact own_retN X17 hx (t := .boolean) hret (by simp) hlk (hb hby at_97) rfl ⟨own_leafI ((if_neg hc1).trans ((if_neg hc7).trans ((if_pos hc13).trans ((if_neg hc14).trans (if_pos hc18))))), N17⟩ (by decide) (by decide)
          · refine own_step (fun _ k => XS.icmpYes X17.here hx rfl (pc0 := 89) (pc' := 96) rfl (hb hby at_89) rfl (feq hc18).2 (by decide) (by decide) k) ?_
            show own_Ends _ _ _ _ _ _ _ T17 (mkF m 96 #[.val (.long q1), .second, .val (.int p2), .val (.long (1000000000000000000 : Int64)), .second, .val (.int (p2 &&& (3 : Int32))), .val (.long ((-(1000000000000000000 : Int64)) + (q1 % (3 : Int64)))), .second, .val (.int (0 : Int32))] [])
            refine own_step (fun _ k => XS.iconst X17.here hx rfl (hb hby at_96) k) ?_
            show own_Ends _ _ _ _ _ _ _ T17 (mkF m 97 #[.val (.long q1), .second, .val (.int p2), .val (.long (1000000000000000000 : Int64)), .second, .val (.int (p2 &&& (3 : Int32))), .val (.long ((-(1000000000000000000 : Int64)) + (q1 % (3 : Int64)))), .second, .val (.int (0 : Int32))] [(.int (0 : Int32))])
            exact own_retN X17 hx (t := .boolean) hret (by simp) hlk (hb hby at_97) rfl ⟨own_leafI ((if_neg hc1).trans ((if_neg hc7).trans ((if_pos hc13).trans ((if_neg hc14).trans (if_neg hc18))))), N17⟩ (by decide) (by decide)
      · refine own_step (fun _ k => XS.icmpYes X0.here hx rfl (pc0 := 41) (pc' := 57) rfl (hb hby at_41) rfl (feq hc13).2 (by decide) (by decide) k) ?_
        show own_Ends _ _ _ _ _ _ _ T0 (mkF m 57 #[.val (.long q1), .second, .val (.int p2), .val (.long (1000000000000000000 : Int64)), .second, .val (.int (p2 &&& (3 : Int32))), .unset, .unset, .unset] [])
        refine own_step (fun _ k => XS.lloadN X0.here hx rfl (hb hby at_57) rfl k) ?_
        show own_Ends _ _ _ _ _ _ _ T0 (mkF m 58 #[.val (.long q1), .second, .val (.int p2), .val (.long (1000000000000000000 : Int64)), .second, .val (.int (p2 &&& (3 : Int32))), .unset, .unset, .unset] [(.long q1)])
        refine own_step (X0.ldc2Long hx hown (mvT hZ (hw _ (List.mem_of_getElem? (i := 7) rfl))) (g := (mkF m 58 #[.val (.long q1), .second, .val (.int p2), .val (.long (1000000000000000000 : Int64)), .second, .val (.int (p2 &&& (3 : Int32))), .unset, .unset, .unset] [(.long q1)])) rfl (hb hby at_58)) ?_
        show own_Ends _ _ _ _ _ _ _ T0 (mkF m 61 #[.val (.long q1), .second, .val (.int p2), .val (.long (1000000000000000000 : Int64)), .second, .val (.int (p2 &&& (3 : Int32))), .unset, .unset, .unset] [(.long (2 : Int64)), (.long q1)])
        refine own_step (fun _ k => XS.lloadN X0.here hx rfl (hb hby at_61) rfl k) ?_
        show own_Ends _ _ _ _ _ _ _ T0 (mkF m 62 #[.val (.long q1), .second, .val (.int p2), .val (.long (1000000000000000000 : Int64)), .second, .val (.int (p2 &&& (3 : Int32))), .unset, .unset, .unset] [(.long (1000000000000000000 : Int64)), (.long (2 : Int64)), (.long q1)])
        refine own_step (fun _ k => XS.lmul X0.here hx rfl (hb hby at_62) rfl k) ?_
        show own_Ends _ _ _ _ _ _ _ T0 (mkF m 63 #[.val (.long q1), .second, .val (.int p2), .val (.long (1000000000000000000 : Int64)), .second, .val (.int (p2 &&& (3 : Int32))), .unset, .unset, .unset] [(.long ((2 : Int64) * (1000000000000000000 : Int64))), (.long q1)])
        refine own_step (fun _ k => XS.lrem X0.here hx rfl (hb hby at_63) rfl (by decide) k) ?_
        show own_Ends _ _ _ _ _ _ _ T0 (mkF m 64 #[.val (.long q1), .second, .val (.int p2), .val (.long (1000000000000000000 : Int64)), .second, .val (.int (p2 &&& (3 : Int32))), .unset, .unset, .unset] [(.long (q1 - (q1 / ((2 : Int64) * (1000000000000000000 : Int64))) * ((2 : Int64) * (1000000000000000000 : Int64))))])
        rw [lrem_mod]
        show own_Ends _ _ _ _ _ _ _ T0 (mkF m 64 #[.val (.long q1), .second, .val (.int p2), .val (.long (1000000000000000000 : Int64)), .second, .val (.int (p2 &&& (3 : Int32))), .unset, .unset, .unset] [(.long (q1 % ((2 : Int64) * (1000000000000000000 : Int64))))])
        refine own_step (fun _ k => XS.lstore X0.here hx rfl (hb hby at_64) rfl (l' := #[.val (.long q1), .second, .val (.int p2), .val (.long (1000000000000000000 : Int64)), .second, .val (.int (p2 &&& (3 : Int32))), .val (.long (q1 % ((2 : Int64) * (1000000000000000000 : Int64)))), .second, .unset]) rfl k) ?_
        show own_Ends _ _ _ _ _ _ _ T0 (mkF m 66 #[.val (.long q1), .second, .val (.int p2), .val (.long (1000000000000000000 : Int64)), .second, .val (.int (p2 &&& (3 : Int32))), .val (.long (q1 % ((2 : Int64) * (1000000000000000000 : Int64)))), .second, .unset] [])
        refine own_step (fun _ k => XS.lload X0.here hx rfl (hb hby at_66) rfl k) ?_
        show own_Ends _ _ _ _ _ _ _ T0 (mkF m 68 #[.val (.long q1), .second, .val (.int p2), .val (.long (1000000000000000000 : Int64)), .second, .val (.int (p2 &&& (3 : Int32))), .val (.long (q1 % ((2 : Int64) * (1000000000000000000 : Int64)))), .second, .unset] [(.long (q1 % ((2 : Int64) * (1000000000000000000 : Int64))))])
        refine own_step (fun _ k => XS.lloadN X0.here hx rfl (hb hby at_68) rfl k) ?_
        show own_Ends _ _ _ _ _ _ _ T0 (mkF m 69 #[.val (.long q1), .second, .val (.int p2), .val (.long (1000000000000000000 : Int64)), .second, .val (.int (p2 &&& (3 : Int32))), .val (.long (q1 % ((2 : Int64) * (1000000000000000000 : Int64)))), .second, .unset] [(.long (1000000000000000000 : Int64)), (.long (q1 % ((2 : Int64) * (1000000000000000000 : Int64))))])
        refine own_step (fun _ k => XS.ldiv X0.here hx rfl (hb hby at_69) rfl (by decide) k) ?_
        show own_Ends _ _ _ _ _ _ _ T0 (mkF m 70 #[.val (.long q1), .second, .val (.int p2), .val (.long (1000000000000000000 : Int64)), .second, .val (.int (p2 &&& (3 : Int32))), .val (.long (q1 % ((2 : Int64) * (1000000000000000000 : Int64)))), .second, .unset] [(.long ((q1 % ((2 : Int64) * (1000000000000000000 : Int64))) / (1000000000000000000 : Int64)))])
        refine own_step (fun _ k => XS.lconst X0.here hx rfl (hb hby at_70) k) ?_
        show own_Ends _ _ _ _ _ _ _ T0 (mkF m 71 #[.val (.long q1), .second, .val (.int p2), .val (.long (1000000000000000000 : Int64)), .second, .val (.int (p2 &&& (3 : Int32))), .val (.long (q1 % ((2 : Int64) * (1000000000000000000 : Int64)))), .second, .unset] [(.long (0 : Int64)), (.long ((q1 % ((2 : Int64) * (1000000000000000000 : Int64))) / (1000000000000000000 : Int64)))])
        refine own_step (fun _ k => XS.lcmp X0.here hx rfl (hb hby at_71) rfl k) ?_
        show own_Ends _ _ _ _ _ _ _ T0 (mkF m 72 #[.val (.long q1), .second, .val (.int p2), .val (.long (1000000000000000000 : Int64)), .second, .val (.int (p2 &&& (3 : Int32))), .val (.long (q1 % ((2 : Int64) * (1000000000000000000 : Int64)))), .second, .unset] [(.int (lcmpW ((q1 % ((2 : Int64) * (1000000000000000000 : Int64))) / (1000000000000000000 : Int64)) (0 : Int64)))])
        by_cases hc19 : ((q1 % ((2 : Int64) * (1000000000000000000 : Int64))) / (1000000000000000000 : Int64)) = (0 : Int64)
        · refine own_step (fun _ k => XS.ifNo X0.here hx rfl (hb hby at_72) rfl ((if0 _ _).trans (teq ((lw_eq ((q1 % ((2 : Int64) * (1000000000000000000 : Int64))) / (1000000000000000000 : Int64)) (0 : Int64)).mpr hc19)).2) k) ?_
          show own_Ends _ _ _ _ _ _ _ T0 (mkF m 75 #[.val (.long q1), .second, .val (.int p2), .val (.long (1000000000000000000 : Int64)), .second, .val (.int (p2 &&& (3 : Int32))), .val (.long (q1 % ((2 : Int64) * (1000000000000000000 : Int64)))), .second, .unset] [])
          refine own_step (fun _ k => XS.iconst X0.here hx rfl (hb hby at_75) k) ?_
          show own_Ends _ _ _ _ _ _ _ T0 (mkF m 76 #[.val (.long q1), .second, .val (.int p2), .val (.long (1000000000000000000 : Int64)), .second, .val (.int (p2 &&& (3 : Int32))), .val (.long (q1 % ((2 : Int64) * (1000000000000000000 : Int64)))), .second, .unset] [(.int (1 : Int32))])
          refine own_step (fun _ k => XS.goto X0.here hx rfl (pc0 := 76) (pc' := 80) rfl (hb hby at_76) (by decide) (by decide) k) ?_
          show own_Ends _ _ _ _ _ _ _ T0 (mkF m 80 #[.val (.long q1), .second, .val (.int p2), .val (.long (1000000000000000000 : Int64)), .second, .val (.int (p2 &&& (3 : Int32))), .val (.long (q1 % ((2 : Int64) * (1000000000000000000 : Int64)))), .second, .unset] [(.int (1 : Int32))])
          refine own_step (fun _ k => XS.istore X0.here hx rfl (hb hby at_80) rfl (l' := #[.val (.long q1), .second, .val (.int p2), .val (.long (1000000000000000000 : Int64)), .second, .val (.int (p2 &&& (3 : Int32))), .val (.long (q1 % ((2 : Int64) * (1000000000000000000 : Int64)))), .second, .val (.int (1 : Int32))]) rfl k) ?_
          show own_Ends _ _ _ _ _ _ _ T0 (mkF m 82 #[.val (.long q1), .second, .val (.int p2), .val (.long (1000000000000000000 : Int64)), .second, .val (.int (p2 &&& (3 : Int32))), .val (.long (q1 % ((2 : Int64) * (1000000000000000000 : Int64)))), .second, .val (.int (1 : Int32))] [])
          refine own_step (fun _ k => XS.lload X0.here hx rfl (hb hby at_82) rfl k) ?_
          show own_Ends _ _ _ _ _ _ _ T0 (mkF m 84 #[.val (.long q1), .second, .val (.int p2), .val (.long (1000000000000000000 : Int64)), .second, .val (.int (p2 &&& (3 : Int32))), .val (.long (q1 % ((2 : Int64) * (1000000000000000000 : Int64)))), .second, .val (.int (1 : Int32))] [(.long (q1 % ((2 : Int64) * (1000000000000000000 : Int64))))])
          refine own_callS X0 hx hZ (y := (⟨"com/example/tickwright/tickwright/Formats", "isWholeNumber", "(J)Z"⟩ : MethodName)) hown (hw _ (List.mem_of_getElem? (i := 2) rfl)) (hw _ (List.mem_of_getElem? (i := 3) rfl)) (hw _ (List.mem_of_getElem? (i := 4) rfl)) (hw _ (List.mem_of_getElem? (i := 5) rfl)) (by decide) (rm1 l Z a0 hw [] (q1 % ((2 : Int64) * (1000000000000000000 : Int64))) h0 n0 Z0) e0 0 (by decide) (by decide) (by decide) (by decide) (g := (mkF m 84 #[.val (.long q1), .second, .val (.int p2), .val (.long (1000000000000000000 : Int64)), .second, .val (.int (p2 &&& (3 : Int32))), .val (.long (q1 % ((2 : Int64) * (1000000000000000000 : Int64)))), .second, .val (.int (1 : Int32))] [(.long (q1 % ((2 : Int64) * (1000000000000000000 : Int64))))])) rfl (by rw [hml]; rfl) [(.long (q1 % ((2 : Int64) * (1000000000000000000 : Int64))))] [] pd_0 rfl rfl rfl (by show 2 * 0 + _ ≤ _; exact Nat.le_of_eq rfl) (hb hby at_84) ?_
          rintro v20 T20 L20 X20 ⟨rfl, Nq20, e20⟩
          have N20 := Fr.app N0 Nq20
          show own_Ends _ _ _ _ _ _ _ T20 (mkF m 87 #[.val (.long q1), .second, .val (.int p2), .val (.long (1000000000000000000 : Int64)), .second, .val (.int (p2 &&& (3 : Int32))), .val (.long (q1 % ((2 : Int64) * (1000000000000000000 : Int64)))), .second, .val (.int (1 : Int32))] [(.int (own_f1 (q1 % ((2 : Int64) * (1000000000000000000 : Int64)))))])
          refine own_step (fun _ k => XS.iload X20.here hx rfl (hb hby at_87) rfl k) ?_
          show own_Ends _ _ _ _ _ _ _ T20 (mkF m 89 #[.val (.long q1), .second, .val (.int p2), .val (.long (1000000000000000000 : Int64)), .second, .val (.int (p2 &&& (3 : Int32))), .val (.long (q1 % ((2 : Int64) * (1000000000000000000 : Int64)))), .second, .val (.int (1 : Int32))] [(.int (1 : Int32)), (.int (own_f1 (q1 % ((2 : Int64) * (1000000000000000000 : Int64)))))])
          by_cases hc21 : (own_f1 (q1 % ((2 : Int64) * (1000000000000000000 : Int64)))) = (1 : Int32)
          · refine own_step (fun _ k => XS.icmpNo X20.here hx rfl (hb hby at_89) rfl (teq hc21).2 k) ?_
            show own_Ends _ _ _ _ _ _ _ T20 (mkF m 92 #[.val (.long q1), .second, .val (.int p2), .val (.long (1000000000000000000 : Int64)), .second, .val (.int (p2 &&& (3 : Int32))), .val (.long (q1 % ((2 : Int64) * (1000000000000000000 : Int64)))), .second, .val (.int (1 : Int32))] [])
            refine own_step (fun _ k => XS.iconst X20.here hx rfl (hb hby at_92) k) ?_
            show own_Ends _ _ _ _ _ _ _ T20 (mkF m 93 #[.val (.long q1), .second, .val (.int p2), .val (.long (1000000000000000000 : Int64)), .second, .val (.int (p2 &&& (3 : Int32))), .val (.long (q1 % ((2 : Int64) * (1000000000000000000 : Int64)))), .second, .val (.int (1 : Int32))] [(.int (1 : Int32))])
            refine own_step (fun _ k => XS.goto X20.here hx rfl (pc0 := 93) (pc' := 97) rfl (hb hby at_93) (by decide) (by decide) k) ?_
            show own_Ends _ _ _ _ _ _ _ T20 (mkF m 97 #[.val (.long q1), .second, .val (.int p2), .val (.long (1000000000000000000 : Int64)), .second, .val (.int (p2 &&& (3 : Int32))), .val (.long (q1 % ((2 : Int64) * (1000000000000000000 : Int64)))), .second, .val (.int (1 : Int32))] [(.int (1 : Int32))])
            exact own_retN X20 hx (t := .boolean) hret (by simp) hlk (hb hby at_97) rfl ⟨own_leafI ((if_neg hc1).trans ((if_neg hc7).trans ((if_neg hc13).trans ((if_pos hc19).trans (if_pos hc21))))), N20⟩ (by decide) (by decide)
          · refine own_step (fun _ k => XS.icmpYes X20.here hx rfl (pc0 := 89) (pc' := 96) rfl (hb hby at_89) rfl (feq hc21).2 (by decide) (by decide) k) ?_
            show own_Ends _ _ _ _ _ _ _ T20 (mkF m 96 #[.val (.long q1), .second, .val (.int p2), .val (.long (1000000000000000000 : Int64)), .second, .val (.int (p2 &&& (3 : Int32))), .val (.long (q1 % ((2 : Int64) * (1000000000000000000 : Int64)))), .second, .val (.int (1 : Int32))] [])
            refine own_step (fun _ k => XS.iconst X20.here hx rfl (hb hby at_96) k) ?_
            show own_Ends _ _ _ _ _ _ _ T20 (mkF m 97 #[.val (.long q1), .second, .val (.int p2), .val (.long (1000000000000000000 : Int64)), .second, .val (.int (p2 &&& (3 : Int32))), .val (.long (q1 % ((2 : Int64) * (1000000000000000000 : Int64)))), .second, .val (.int (1 : Int32))] [(.int (0 : Int32))])
            exact own_retN X20 hx (t := .boolean) hret (by simp) hlk (hb hby at_97) rfl ⟨own_leafI ((if_neg hc1).trans ((if_neg hc7).trans ((if_neg hc13).trans ((if_pos hc19).trans (if_neg hc21))))), N20⟩ (by decide) (by decide)
        · refine own_step (fun _ k => XS.ifYes X0.here hx rfl (pc0 := 72) (pc' := 79) rfl (hb hby at_72) rfl ((if0 _ _).trans (feq (fun q => hc19 ((lw_eq ((q1 % ((2 : Int64) * (1000000000000000000 : Int64))) / (1000000000000000000 : Int64)) (0 : Int64)).mp q))).2) (by decide) (by decide) k) ?_
          show own_Ends _ _ _ _ _ _ _ T0 (mkF m 79 #[.val (.long q1), .second, .val (.int p2), .val (.long (1000000000000000000 : Int64)), .second, .val (.int (p2 &&& (3 : Int32))), .val (.long (q1 % ((2 : Int64) * (1000000000000000000 : Int64)))), .second, .unset] [])
          refine own_step (fun _ k => XS.iconst X0.here hx rfl (hb hby at_79) k) ?_
          show own_Ends _ _ _ _ _ _ _ T0 (mkF m 80 #[.val (.long q1), .second, .val (.int p2), .val (.long (1000000000000000000 : Int64)), .second, .val (.int (p2 &&& (3 : Int32))), .val (.long (q1 % ((2 : Int64) * (1000000000000000000 : Int64)))), .second, .unset] [(.int (0 : Int32))])
          refine own_step (fun _ k => XS.istore X0.here hx rfl (hb hby at_80) rfl (l' := #[.val (.long q1), .second, .val (.int p2), .val (.long (1000000000000000000 : Int64)), .second, .val (.int (p2 &&& (3 : Int32))), .val (.long (q1 % ((2 : Int64) * (1000000000000000000 : Int64)))), .second, .val (.int (0 : Int32))]) rfl k) ?_
          show own_Ends _ _ _ _ _ _ _ T0 (mkF m 82 #[.val (.long q1), .second, .val (.int p2), .val (.long (1000000000000000000 : Int64)), .second, .val (.int (p2 &&& (3 : Int32))), .val (.long (q1 % ((2 : Int64) * (1000000000000000000 : Int64)))), .second, .val (.int (0 : Int32))] [])
          refine own_step (fun _ k => XS.lload X0.here hx rfl (hb hby at_82) rfl k) ?_
          show own_Ends _ _ _ _ _ _ _ T0 (mkF m 84 #[.val (.long q1), .second, .val (.int p2), .val (.long (1000000000000000000 : Int64)), .second, .val (.int (p2 &&& (3 : Int32))), .val (.long (q1 % ((2 : Int64) * (1000000000000000000 : Int64)))), .second, .val (.int (0 : Int32))] [(.long (q1 % ((2 : Int64) * (1000000000000000000 : Int64))))])
          refine own_callS X0 hx hZ (y := (⟨"com/example/tickwright/tickwright/Formats", "isWholeNumber", "(J)Z"⟩ : MethodName)) hown (hw _ (List.mem_of_getElem? (i := 2) rfl)) (hw _ (List.mem_of_getElem? (i := 3) rfl)) (hw _ (List.mem_of_getElem? (i := 4) rfl)) (hw _ (List.mem_of_getElem? (i := 5) rfl)) (by decide) (rm1 l Z a0 hw [] (q1 % ((2 : Int64) * (1000000000000000000 : Int64))) h0 n0 Z0) e0 0 (by decide) (by decide) (by decide) (by decide) (g := (mkF m 84 #[.val (.long q1), .second, .val (.int p2), .val (.long (1000000000000000000 : Int64)), .second, .val (.int (p2 &&& (3 : Int32))), .val (.long (q1 % ((2 : Int64) * (1000000000000000000 : Int64)))), .second, .val (.int (0 : Int32))] [(.long (q1 % ((2 : Int64) * (1000000000000000000 : Int64))))])) rfl (by rw [hml]; rfl) [(.long (q1 % ((2 : Int64) * (1000000000000000000 : Int64))))] [] pd_0 rfl rfl rfl (by show 2 * 0 + _ ≤ _; exact Nat.le_of_eq rfl) (hb hby at_84) ?_
          rintro v22 T22 L22 X22 ⟨rfl, Nq22, e22⟩
          have N22 := Fr.app N0 Nq22
          show own_Ends _ _ _ _ _ _ _ T22 (mkF m 87 #[.val (.long q1), .second, .val (.int p2), .val (.long (1000000000000000000 : Int64)), .second, .val (.int (p2 &&& (3 : Int32))), .val (.long (q1 % ((2 : Int64) * (1000000000000000000 : Int64)))), .second, .val (.int (0 : Int32))] [(.int (own_f1 (q1 % ((2 : Int64) * (1000000000000000000 : Int64)))))])
          refine own_step (fun _ k => XS.iload X22.here hx rfl (hb hby at_87) rfl k) ?_
          show own_Ends _ _ _ _ _ _ _ T22 (mkF m 89 #[.val (.long q1), .second, .val (.int p2), .val (.long (1000000000000000000 : Int64)), .second, .val (.int (p2 &&& (3 : Int32))), .val (.long (q1 % ((2 : Int64) * (1000000000000000000 : Int64)))), .second, .val (.int (0 : Int32))] [(.int (0 : Int32)), (.int (own_f1 (q1 % ((2 : Int64) * (1000000000000000000 : Int64)))))])
          by_cases hc23 : (own_f1 (q1 % ((2 : Int64) * (1000000000000000000 : Int64)))) = (0 : Int32)
          · refine own_step (fun _ k => XS.icmpNo X22.here hx rfl (hb hby at_89) rfl (teq hc23).2 k) ?_
            show own_Ends _ _ _ _ _ _ _ T22 (mkF m 92 #[.val (.long q1), .second, .val (.int p2), .val (.long (1000000000000000000 : Int64)), .second, .val (.int (p2 &&& (3 : Int32))), .val (.long (q1 % ((2 : Int64) * (1000000000000000000 : Int64)))), .second, .val (.int (0 : Int32))] [])
            refine own_step (fun _ k => XS.iconst X22.here hx rfl (hb hby at_92) k) ?_
            show own_Ends _ _ _ _ _ _ _ T22 (mkF m 93 #[.val (.long q1), .second, .val (.int p2), .val (.long (1000000000000000000 : Int64)), .second, .val (.int (p2 &&& (3 : Int32))), .val (.long (q1 % ((2 : Int64) * (1000000000000000000 : Int64)))), .second, .val (.int (0 : Int32))] [(.int (1 : Int32))])
            refine own_step (fun _ k => XS.goto X22.here hx rfl (pc0 := 93) (pc' := 97) rfl (hb hby at_93) (by decide) (by decide) k) ?_
            show own_Ends _ _ _ _ _ _ _ T22 (mkF m 97 #[.val (.long q1), .second, .val (.int p2), .val (.long (1000000000000000000 : Int64)), .second, .val (.int (p2 &&& (3 : Int32))), .val (.long (q1 % ((2 : Int64) * (1000000000000000000 : Int64)))), .second, .val (.int (0 : Int32))] [(.int (1 : Int32))])
            exact own_retN X22 hx (t := .boolean) hret (by simp) hlk (hb hby at_97) rfl ⟨own_leafI ((if_neg hc1).trans ((if_neg hc7).trans ((if_neg hc13).trans ((if_neg hc19).trans (if_pos hc23))))), N22⟩ (by decide) (by decide)
          · refine own_step (fun _ k => XS.icmpYes X22.here hx rfl (pc0 := 89) (pc' := 96) rfl (hb hby at_89) rfl (feq hc23).2 (by decide) (by decide) k) ?_
            show own_Ends _ _ _ _ _ _ _ T22 (mkF m 96 #[.val (.long q1), .second, .val (.int p2), .val (.long (1000000000000000000 : Int64)), .second, .val (.int (p2 &&& (3 : Int32))), .val (.long (q1 % ((2 : Int64) * (1000000000000000000 : Int64)))), .second, .val (.int (0 : Int32))] [])
            refine own_step (fun _ k => XS.iconst X22.here hx rfl (hb hby at_96) k) ?_
            show own_Ends _ _ _ _ _ _ _ T22 (mkF m 97 #[.val (.long q1), .second, .val (.int p2), .val (.long (1000000000000000000 : Int64)), .second, .val (.int (p2 &&& (3 : Int32))), .val (.long (q1 % ((2 : Int64) * (1000000000000000000 : Int64)))), .second, .val (.int (0 : Int32))] [(.int (0 : Int32))])
            exact own_retN X22 hx (t := .boolean) hret (by simp) hlk (hb hby at_97) rfl ⟨own_leafI ((if_neg hc1).trans ((if_neg hc7).trans ((if_neg hc13).trans ((if_neg hc19).trans (if_neg hc23))))), N22⟩ (by decide) (by decide)
theorem own_div (n : Int64) : (n / (1000000000000000000 : Int64)) = (0 : Int64) ↔ (-1000000000000000000 < n.toInt ∧ n.toInt < 1000000000000000000) := by
  have h := c_ldiv n (1000000000000000000 : Int64) 1000000000000000000 (by decide) (by decide)
  have hr := rng64 n
  have e0 : (0 : Int64).toInt = 0 := rfl
  rw [← Int64.toInt_inj, e0]
  by_cases c1 : 0 ≤ n.toInt
  · rw [h.1 c1]; omega
  · rw [h.2 (by omega)]; omega
theorem own_key (n : Int64) : own_f1 n = (if (n / (1000000000000000000 : Int64)) = (0 : Int64) then (1 : Int32) else (0 : Int32)) := by
  have e1 : (-999999999999999999 : Int64).toInt = -999999999999999999 := by decide
  have e2 : (999999999999999999 : Int64).toInt = 999999999999999999 := by decide
  simp only [own_f1, own_div, Int64.lt_iff_toInt_lt, e1, e2]
  by_cases c1 : n.toInt < -999999999999999999
  · rw [if_pos c1, if_neg (by omega)]
  · rw [if_neg c1]
    by_cases c2 : 999999999999999999 < n.toInt
    · rw [if_pos c2, if_neg (by omega)]
    · rw [if_neg c2, if_pos (by omega)]
theorem own_two (n : Int64) : (if (n / (1000000000000000000 : Int64)) = (0 : Int64) then (if (own_f1 n) = (1 : Int32) then (1 : Int32) else (0 : Int32)) else (if (own_f1 n) = (0 : Int32) then (1 : Int32) else (0 : Int32))) = 1 := by
  rw [own_key]
  by_cases c1 : (n / (1000000000000000000 : Int64)) = (0 : Int64)
  · simp only [if_pos c1, if_true]
  · simp only [if_neg c1, if_true]
theorem own_law (x : Int64) (k : Int32) : own_f0 x k = 1 := by
  simp only [own_f0, own_two, ite_self]
set_option maxRecDepth 65536 in
set_option maxHeartbeats 40000000 in
theorem comes_1 {Post : Tables → Env → Array Value → State → Outcome → State → Prop} (hpost : ∀ tb e args s v u, (limb_1_1.after args s (.returned v) u = true ∧ limb_1_2.after args s (.returned v) u = true ∧ True) → FrameEnd s (.returned v) u (Jvm.fieldLocs frame_1_writes args s ++ Jvm.arrayLocs frame_1_arrays args s ++ Jvm.staticLocs frame_1_statics s) 0 0 → Post tb e args s (.returned v) u) :
    ArmFor flags0 classFile x code maxLocals ret World_1 tables_1 room_1 Calls_1 rest_1 Pre_1 Post := by
  intro l hfl _ _ p e ha hc hk s m args below hf hA hF happ hP
  obtain ⟨hcalls, hrest, hpre⟩ := hP
  obtain ⟨-, -, -, hnamed, -, -, -, hat⟩ := (Spec.applies_iff hf).mp happ
  obtain ⟨hg, hn⟩ := and_e (Cond.before_iff.mp (show (Jvm.Cond.and given_1 narrow_1).before args s = true from hpre))
  obtain ⟨gc, g0⟩ := and_e hg
  obtain ⟨h0, g1⟩ := and_e g0
  have h1 := g1
  obtain ⟨w0, w1, rfl⟩ : ∃ w0 w1 : Value, args = #[w0, w1] := by
    have hs : args.size = 2 := by simpa [Cond.value, given_1] using gc
    obtain ⟨L⟩ := args
    match L, hs with
    | [w0, w1], _ => exact ⟨w0, w1, rfl⟩
  have hw := fun d (hd : d ∈ tables_1) => atoms_spec (ws := Jvm.Cond.code x code maxLocals ret :: tables_1) hat d (List.mem_cons_of_mem _ hd)
  have hfit : Fit s := fun {y c} hc i hi => by
    obtain ⟨ha, rfl⟩ := Array.getElem?_eq_some_iff.mp hc
    have q := List.all_eq_true.mp ((Array.all_eq_true_iff_forall_mem.mp hF) _ (Array.getElem_mem ha)) i (List.mem_range.mpr hi)
    simpa [Array.getElem?_eq_getElem hi] using q
  obtain ⟨i0, ei0⟩ := isL_v h0
  obtain rfl : w0 = (.long i0) := Option.some.inj ei0
  obtain ⟨i1, ei1⟩ := is_v h1
  obtain rfl : w1 = (.int i1) := Option.some.inj ei1
  obtain ⟨n, o, h1, h2, h3, _, L, rfl, ⟨rfl, N⟩, hq⟩ := rm0 l s _ hw tables_1 i0 i1 s.heap s.heap.size (Nat.le_refl _) p e ha hc hk s m _ below hf ((Spec.applies_iff_loose hf).mp happ).1 ⟨rfl, State.Warmed39.refl s, rfl⟩ trivial
  refine ⟨n, _, h1, h2, h3, hpost _ _ _ _ _ _ ⟨Cond.after_iff.mpr rfl, Cond.after_iff.mpr (eq_i res_at (Term.int_eval (1)) (congrArg Value.int (own_law i0 i1))), trivial⟩ ⟨hq.1, hq.2.1, (hq.2.2.sift fun y hy => Or.inr (N y hy)).mono (by decide) (by decide)⟩⟩
theorem main_1_1 : Claimed_1_1 := comes_1 fun _ _ _ _ _ _ h hF => ⟨h.1, hF⟩
theorem main_1_2 : Claimed_1_2 := comes_1 fun _ _ _ _ _ _ h hF => ⟨h.2.1, hF⟩
end Jvm.Pilot.@@N@@
namespace Jvm.Pilot.@@N@@
open Jvm Jvm.ClassFile Sem Op Lib Jvm.Free Jvm.Stand Jvm.Pilot.@@N@@.Jvm.D
/-! MADE BY PROGRAM (witnessworld.py) out of the Statement's table words and the real class files: 9 classes; the members and pool entries that the words name. The judged class is class 1, her method 1. -/
namespace start1
open Jvm.ClassFile
def u (s : String) : CpInfo := .utf8 (stringToUtf16 s)
/-- a pool by its gaps: so many unusable entries, then the entry; so many at the end -/
def gap : Nat → List CpInfo → List CpInfo
  | 0, r => r
  | n + 1, r => .unusable :: gap n r
def poolList (es : List (Nat × CpInfo)) (last : Nat) : List CpInfo := es.foldr (fun e r => gap e.1 (e.2 :: r)) (gap last [])
def pool (es : List (Nat × CpInfo)) (last : Nat) : Array CpInfo := ⟨poolList es last⟩
def fileOf (pool : Array CpInfo) (this : Nat) (attrs : Array Attribute := #[]) (ms : Array MethodInfo := #[]) (fl : Nat := 33) (sup : Nat := 0) (ifs : Array Nat := #[]) (fds : Array FieldInfo := #[]) : ClassFile where
  minorVersion := 0
  majorVersion := 65
  constantPool := pool
  accessFlags := fl
  thisClass := this
  superClass := sup
  interfaces := ifs
  fields := fds
  methods := ms
  attributes := attrs
def plain (name : String) (sup : Option ClassId) : Class where
  name := name
  kind := .ordinary
  loader := none
  accessFlags := 33
  super := sup
  interfaces := #[]
  cf := none
  fields := #[]
  methods := #[]
  instanceTypes := #[]
  staticTypes := #[]
  resolved := #[]
  callSites := []
  init := .initialized
  statics := none
  mirror := none

def pool0 : Array CpInfo := pool [(5, u "<init>"), (0, u "()V"), (1, .class_ 10), (1, u "java/lang/Object")] 113

def k0m0 : Method := { name := "<init>", desc := "()V", sig := { parameters := [], returnType := none }, accessFlags := 1, code := none }
/-- java/lang/Object -/
def k0 : Class := { plain "java/lang/Object" none with
  accessFlags := 33
  interfaces := #[]
  cf := some (fileOf pool0 8 #[] #[{ accessFlags := 1, nameIndex := 5, descriptorIndex := 6, attributes := #[] }] 33 0 #[] #[])
  fields := #[]
  methods := #[k0m0]
  instanceTypes := #[]
  staticTypes := #[]
  resolved := Array.replicate 124 none
  statics := none }

def pool1 : Array CpInfo := pool [(2, .class_ 4), (1, u "java/lang/Object"), (0, u "<init>"), (0, u "()V"), (0, .long 1000000000000000000), (1, .long 3), (1, .long 2), (1, .methodref 14 15), (0, .class_ 16), (0, .nameAndType 17 18), (0, u "com/example/tickwright/tickwright/Formats"), (0, u "isWholeNumber"), (0, u "(J)Z"), (0, .class_ 20), (0, u "com/example/tickwright/tickwright/FormatsIsWholeNumberPinLaw"), (2, u "law"), (0, u "(JI)Z")] 3

def k1m0 : Method := { name := "<init>", desc := "()V", sig := { parameters := [], returnType := none }, accessFlags := 2, code := none }
def k1c1 : Code := { maxStack := 6, maxLocals := 9, code := code, exceptionTable := #[], attributes := #[] }
def k1m1 : Method := { name := "law", desc := "(JI)Z", sig := { parameters := [.long, .int], returnType := some .boolean }, accessFlags := 9, code := some k1c1 }
/-- com/example/tickwright/tickwright/FormatsIsWholeNumberPinLaw -/
def k1 : Class := { plain "com/example/tickwright/tickwright/FormatsIsWholeNumberPinLaw" (some 0) with
  accessFlags := 49
  interfaces := #[]
  cf := some (fileOf pool1 19 #[] #[{ accessFlags := 2, nameIndex := 5, descriptorIndex := 6, attributes := #[] }, { accessFlags := 9, nameIndex := 23, descriptorIndex := 24, attributes := #[] }] 49 2 #[] #[])
  fields := #[]
  methods := #[k1m0, k1m1]
  instanceTypes := #[]
  staticTypes := #[]
  resolved := Array.replicate 28 none
  statics := none }

def pool2 : Array CpInfo := pool [(1, .class_ 2), (0, u "com/example/tickwright/tickwright/Formats"), (1, .class_ 6), (1, u "java/lang/Object"), (0, u "<init>"), (0, u "()V"), (169, u "ID"), (0, u "Ljava/util/regex/Pattern;"), (13, u "CURRENCY"), (2, u "WHOLE_NUMBER"), (11, u "DECIMAL"), (5, .long 17446744073709551617), (1, .long 999999999999999999), (36, u "DATE"), (10, u "INSTANT"), (48, u "MONTH"), (18, u "MAX_DIGITS"), (0, u "I"), (2, u "MAX_PLAIN_DIGITS"), (1, u "MAX_WHOLE_NUMBER"), (0, u "J"), (0, u "NOT_STATED"), (0, u "Ljava/lang/String;"), (2, u "MAX_SHOWN"), (1, u "DIGITS"), (14, u "isWholeNumber"), (0, u "(J)Z")] 53

def k2m0 : Method := { name := "<init>", desc := "()V", sig := { parameters := [], returnType := none }, accessFlags := 2, code := none }
def k2c1 : Code := { maxStack := 4, maxLocals := 2, code := prog_17_method_19_code, exceptionTable := #[], attributes := #[] }
def k2m1 : Method := { name := "isWholeNumber", desc := "(J)Z", sig := { parameters := [.long], returnType := some .boolean }, accessFlags := 8, code := some k2c1 }
/-- com/example/tickwright/tickwright/Formats -/
def k2 : Class := { plain "com/example/tickwright/tickwright/Formats" (some 0) with
  accessFlags := 33
  interfaces := #[]
  cf := some (fileOf pool2 1 #[] #[{ accessFlags := 2, nameIndex := 7, descriptorIndex := 8, attributes := #[] }, { accessFlags := 8, nameIndex := 361, descriptorIndex := 362, attributes := #[] }] 33 4 #[] #[{ accessFlags := 24, nameIndex := 332, descriptorIndex := 333, attributes := #[] }, { accessFlags := 24, nameIndex := 336, descriptorIndex := 333, attributes := #[] }, { accessFlags := 26, nameIndex := 338, descriptorIndex := 339, attributes := #[] }, { accessFlags := 25, nameIndex := 340, descriptorIndex := 341, attributes := #[] }, { accessFlags := 26, nameIndex := 344, descriptorIndex := 333, attributes := #[] }, { accessFlags := 26, nameIndex := 346, descriptorIndex := 341, attributes := #[] }, { accessFlags := 26, nameIndex := 196, descriptorIndex := 179, attributes := #[] }, { accessFlags := 26, nameIndex := 208, descriptorIndex := 179, attributes := #[] }, { accessFlags := 26, nameIndex := 253, descriptorIndex := 179, attributes := #[] }, { accessFlags := 26, nameIndex := 313, descriptorIndex := 179, attributes := #[] }, { accessFlags := 26, nameIndex := 178, descriptorIndex := 179, attributes := #[] }, { accessFlags := 26, nameIndex := 193, descriptorIndex := 179, attributes := #[] }, { accessFlags := 26, nameIndex := 264, descriptorIndex := 179, attributes := #[] }])
  fields := #[{ name := "MAX_DIGITS", type := .int, accessFlags := 24, slot := 0, constantValue := 0 }, { name := "MAX_PLAIN_DIGITS", type := .int, accessFlags := 24, slot := 1, constantValue := 0 }, { name := "MAX_WHOLE_NUMBER", type := .long, accessFlags := 26, slot := 2, constantValue := 0 }, { name := "NOT_STATED", type := (.object "java/lang/String"), accessFlags := 25, slot := 3, constantValue := 0 }, { name := "MAX_SHOWN", type := .int, accessFlags := 26, slot := 4, constantValue := 0 }, { name := "DIGITS", type := (.object "java/lang/String"), accessFlags := 26, slot := 5, constantValue := 0 }, { name := "WHOLE_NUMBER", type := (.object "java/util/regex/Pattern"), accessFlags := 26, slot := 6, constantValue := 0 }, { name := "DECIMAL", type := (.object "java/util/regex/Pattern"), accessFlags := 26, slot := 7, constantValue := 0 }, { name := "DATE", type := (.object "java/util/regex/Pattern"), accessFlags := 26, slot := 8, constantValue := 0 }, { name := "MONTH", type := (.object "java/util/regex/Pattern"), accessFlags := 26, slot := 9, constantValue := 0 }, { name := "ID", type := (.object "java/util/regex/Pattern"), accessFlags := 26, slot := 10, constantValue := 0 }, { name := "CURRENCY", type := (.object "java/util/regex/Pattern"), accessFlags := 26, slot := 11, constantValue := 0 }, { name := "INSTANT", type := (.object "java/util/regex/Pattern"), accessFlags := 26, slot := 12, constantValue := 0 }]
  methods := #[k2m0, k2m1]
  instanceTypes := #[]
  staticTypes := #[.int, .int, .long, (.object "java/lang/String"), .int, (.object "java/lang/String"), (.object "java/util/regex/Pattern"), (.object "java/util/regex/Pattern"), (.object "java/util/regex/Pattern"), (.object "java/util/regex/Pattern"), (.object "java/util/regex/Pattern"), (.object "java/util/regex/Pattern"), (.object "java/util/regex/Pattern")]
  resolved := Array.replicate 416 none
  statics := none }

def pool3 : Array CpInfo := pool [(1, u "java/lang/Cloneable"), (0, .class_ 1), (0, u "java/lang/Object"), (0, .class_ 3)] 3

/-- java/lang/Cloneable -/
def k3 : Class := { plain "java/lang/Cloneable" (some 0) with
  accessFlags := 1537
  interfaces := #[]
  cf := some (fileOf pool3 2 #[] #[] 1537 4 #[] #[])
  fields := #[]
  methods := #[]
  instanceTypes := #[]
  staticTypes := #[]
  resolved := Array.replicate 8 none
  statics := none }

def pool4 : Array CpInfo := pool [(1, u "java/io/Serializable"), (0, .class_ 1), (0, u "java/lang/Object"), (0, .class_ 3)] 3

/-- java/io/Serializable -/
def k4 : Class := { plain "java/io/Serializable" (some 0) with
  accessFlags := 1537
  interfaces := #[]
  cf := some (fileOf pool4 2 #[] #[] 1537 4 #[] #[])
  fields := #[]
  methods := #[]
  instanceTypes := #[]
  staticTypes := #[]
  resolved := Array.replicate 8 none
  statics := none }

/-- the primitive byte -/
def k5 : Class := { plain "byte" none with kind := .primitive 'B', accessFlags := 0x411 }
/-- [B -/
def k6 : Class := { plain "[B" (some 0) with kind := .array 5 .byte, interfaces := #[3, 4], accessFlags := 1041 }

/-- the primitive int -/
def k7 : Class := { plain "int" none with kind := .primitive 'I', accessFlags := 0x411 }
/-- [I -/
def k8 : Class := { plain "[I" (some 0) with kind := .array 7 .int, interfaces := #[3, 4], accessFlags := 1041 }

def heap : Heap := #[]
def classes : Array Class := #[k0, k1, k2, k3, k4, k5, k6, k7, k8]
def interned : List (Array UInt16 × Addr) := []
def slotsUsed : Nat := 0
def theMethod : MethodId := ⟨1, 1⟩
def args0 : Array Value := #[.long 65, .int 7]
def aboutOver (below : List Frame) : State where
  vm := { classes := classes, interned := interned.toArray }
  heap := heap
  slotsUsed := slotsUsed
  threads := #[{ frames := .invoking theMethod args0 :: below }]
def below0 : List Frame := [.native { method := ⟨0, 0⟩, args := #[] }]
def about1 : State := aboutOver below0
def p0 : Program := .bare "" "" ""
def e0 : Env := launch0.env 0 0 0
theorem w_frames : about1.frames = Frame.invoking theMethod args0 :: below0 := rfl
set_option maxRecDepth 65536 in
theorem w_args : argsFit about1.vm theMethod args0 = true := by decide +kernel
set_option maxRecDepth 65536 in
theorem w_heap : heapFits about1 = true := by decide +kernel
set_option maxRecDepth 65536 in
theorem w_runnable : about1.curStatus? = some .runnable := by decide +kernel
set_option maxRecDepth 65536 in
theorem w_alone : about1.alone = true := by decide +kernel
set_option maxRecDepth 65536 in
theorem w_named : about1.methodNamed? x = some theMethod := by decide +kernel
set_option maxRecDepth 65536 in
theorem w_hears : about1.hears theMethod below0 = true := by decide +kernel
set_option maxRecDepth 65536 in
theorem w_ripe : about1.ripe theMethod args0 below0 = true := by decide +kernel
theorem w_running : about1.status = .running := rfl
set_option maxRecDepth 65536 in
theorem w_room : about1.hasRoom e0.platform room_1 = true :=
  launch0.hasRoom_least _ room_1 (by decide +kernel) (by decide +kernel) (by decide +kernel) (by decide +kernel) (by decide +kernel) (by decide +kernel)
theorem allAtoms_all (ts : List Jvm.Cond) (a : Array Jvm.Value) (st : Jvm.State) : (allAtoms ts).before a st = ts.all (fun c => c.before a st) := by
  induction ts with
  | nil => rfl
  | cons c t ih =>
    show (Jvm.Cond.and c (allAtoms t)).before a st = _
    rw [Jvm.Cond.before_and, ih, List.all_cons]
def words1 : List Jvm.Cond := Jvm.Cond.code x code maxLocals ret :: tables_1
/-- a 'code' word, met by the world's own term for the bytes: nothing is compared byte by byte -/
theorem code_word {y : MethodName} {bytes : ByteArray} {mx : Nat} {rt : Option FieldType} {a : Array Value} {s : State} {m : MethodId} {meth : Method} {c : Code} (h1 : s.methodNamed? y = some m) (h2 : s.vm.method? m = some meth) (h3 : meth.code = some c) (h4 : c.code = bytes)
    (h5 : (c.maxLocals == mx && c.exceptionTable.isEmpty && decide (c.maxStack ≤ mostOperands) && decide (meth.sig.returnType = rt) && !meth.locks && decide (parseMethodDescriptor y.desc = some meth.sig)) = true) : (Jvm.Cond.code y bytes mx rt).before a s = true := by
  simp only [Bool.and_eq_true, beq_iff_eq, Bool.not_eq_true', decide_eq_true_eq] at h5
  obtain ⟨⟨⟨⟨⟨g1, g2⟩, g3⟩, g4⟩, g5⟩, g6⟩ := h5
  simp [Cond.before, Cond.holds, Cond.value, h1, h2, h3, h4, g1, g2, g3, g4, g5, g6]
def isCode : Jvm.Cond → Bool
  | .code _ _ _ _ => true
  | _ => false
theorem all_split {L : List Jvm.Cond} {P : Jvm.Cond → Bool} (h1 : L.all (fun c => isCode c || P c) = true) (h2 : ∀ c ∈ L.filter isCode, P c = true) : L.all P = true := by
  refine List.all_eq_true.mpr fun c hc => ?_
  have h := List.all_eq_true.mp h1 c hc
  rcases Bool.eq_false_or_eq_true (isCode c) with hi | hi
  · exact h2 c (List.mem_filter.mpr ⟨hc, hi⟩)
  · simpa [hi] using h
set_option maxRecDepth 65536 in
theorem w_c0 : (Jvm.Cond.code x code maxLocals ret).before args0 about1 = true := code_word (m := ⟨1, 1⟩) (meth := k1m1) (c := k1c1) (by decide +kernel) rfl rfl rfl (by decide +kernel)
set_option maxRecDepth 65536 in
theorem w_c1 : (Jvm.Cond.code ({ cls := "com/example/tickwright/tickwright/Formats", name := "isWholeNumber", desc := "(J)Z" } : Jvm.MethodName) prog_17_method_19_code (2 : Nat) (Option.some Jvm.ClassFile.FieldType.boolean)).before args0 about1 = true := code_word (m := ⟨2, 1⟩) (meth := k2m1) (c := k2c1) (by decide +kernel) rfl rfl rfl (by decide +kernel)
def codes1 : List Jvm.Cond := [Jvm.Cond.code x code maxLocals ret, Jvm.Cond.code ({ cls := "com/example/tickwright/tickwright/Formats", name := "isWholeNumber", desc := "(J)Z" } : Jvm.MethodName) prog_17_method_19_code (2 : Nat) (Option.some Jvm.ClassFile.FieldType.boolean)]
set_option maxRecDepth 65536 in
theorem codes_eq : words1.filter isCode = codes1 := rfl
theorem w_codes : ∀ c ∈ words1.filter isCode, c.before args0 about1 = true := by
  rw [codes_eq]
  intro c hc
  simp only [codes1, List.mem_cons, List.not_mem_nil, or_false] at hc
  rcases hc with rfl | rfl
  · exact w_c0
  · exact w_c1
set_option maxRecDepth 65536 in
theorem w_t1 : words1.all (fun c => isCode c || c.before args0 about1) = true := by decide +kernel
theorem w_tables : (allAtoms (Jvm.Cond.code x code maxLocals ret :: tables_1)).before args0 about1 = true := by
  rw [allAtoms_all]
  show words1.all (fun c => c.before args0 about1) = true
  refine all_split ?_ w_codes
  rw [w_t1]
set_option maxRecDepth 65536 in
theorem w_case : (Jvm.Cond.and given_1 narrow_1).before args0 about1 = true := by decide +kernel
theorem w_applies : (headSpec (Jvm.Cond.code x code maxLocals ret :: tables_1) room_1).applies x e0.platform about1 = true :=
  (Spec.applies_iff w_frames).mpr ⟨w_running, w_runnable, w_alone, w_named, w_hears, w_ripe, w_room, w_tables⟩
theorem atStart : AtStart classFile x code maxLocals ret World_1 tables_1 room_1 Calls_1 rest_1 Pre_1 launch0 p0 e0 about1 theMethod args0 below0 :=
  ⟨lists_1, trivial, launch0.admits_env _ _ _, launch0.least_env, fairChoices_fair.cas, fairChoices_fair.clock, w_frames, w_args, w_heap, w_applies, trivial, trivial, w_case⟩
end start1
theorem witness_1 : WitnessClaimed_1 := ⟨start1.p0, start1.e0, start1.about1, start1.theMethod, start1.args0, start1.below0, start1.atStart⟩
end Jvm.Pilot.@@N@@
