import JvmDerived
import JvmDerived.Pilot.@@N@@Statement
import JvmDerived.Pilot.@@N@@Code
set_option linter.unusedVariables false
set_option linter.unusedSimpArgs false
namespace Jvm.RoadKit
open Sem ClassFile Op Lib Jvm.Stand Jvm.Free Jvm.LawKit
section Own
variable {p : Program} {l : Launch} {e : Env} {R : Room} {s : State} {m : MethodId} {args : Array Value} {below : List Frame} {meth : Method} {c : Code} {T : State} {locs : List Loc} {cells slots : Nat} {Z : State} {a0 : Array Value} {h : Heap}
/-- from T, with g on top, this invocation comes to its return and Q holds of what it leaves -/
def own_Ends (p : Program) (e : Env) (below : List Frame) (s : State) (Q : Option Value → Heap → List Loc → Prop) (k n : Nat) (T : State) (g : JFrame) : Prop :=
  ∃ s₂ o, Steps p.tables e below (T.setTop g) s₂ ∧ s₂.status = .running ∧ Ended s₂ below o ∧ ∃ v L, o = .returned v ∧ Q v s₂.heap L ∧ FrameEnd s o s₂ L k n
theorem own_step {Q : Option Value → Heap → List Loc → Prop} {k n : Nat} {T' : State} {g g' : JFrame} (h : ∀ t, Steps p.tables e below (T'.setTop g') t → Steps p.tables e below (T.setTop g) t) (H : own_Ends p e below s Q k n T' g') : own_Ends p e below s Q k n T g := by
  obtain ⟨s₂, o, h1, r⟩ := H
  exact ⟨s₂, o, h _ h1, r⟩
theorem own_ret (X : Stand p l e R s m args below meth c T locs cells slots) {v : Option Value} (hv : meth.sig.returnType = none → v = none) (hlk : meth.locks = false) {g : JFrame} {Q : Option Value → Heap → List Loc → Prop} {k n : Nat}
    (st : ∀ fs, (∀ (f : JFrame) (acts : List Action), f.method = m → f.locked = none → f.entered = [] → (doReturn e (T.setTop f) acts v).1 = T.setFrames fs) → Steps p.tables e below (T.setTop g) (T.setFrames fs))
    (hQ : Q v T.heap locs) (hk : cells ≤ k) (hn : slots ≤ n) : own_Ends p e below s Q k n T g := by
  obtain ⟨fs, hr, hrun, hended, hW, hsame⟩ := X.leave (v := v) hv hlk
  exact ⟨_, _, st fs hr, hrun, hended, v, locs, rfl, hQ, ⟨_, rfl⟩, hW, hsame.mono hk hn⟩
theorem own_retI (X : Stand p l e R s m args below meth c T locs cells slots) (hx : p.tables.exec = Jvm.exec) (hret : meth.sig.returnType = some .int) (hlk : meth.locks = false) {pc : Nat} {Ls : Array Slot} {z : Int32} {rest : List Value} (hd : decode c.code pc = .ok (.ireturn, 1)) {Q : Option Value → Heap → List Loc → Prop} {k n : Nat}
    (hQ : Q (some (.int z)) T.heap locs) (hk : cells ≤ k) (hn : slots ≤ n) : own_Ends p e below s Q k n T (mkF m pc Ls (.int z :: rest)) :=
  own_ret X (fun q => by rw [hret] at q; cases q) hlk (fun fs hr => retOut X hx hret rfl (Or.inl ⟨rfl, Or.inl rfl, z, rfl⟩) hd hr) hQ hk hn
theorem own_retN (X : Stand p l e R s m args below meth c T locs cells slots) (hx : p.tables.exec = Jvm.exec) {t : FieldType} (hret : meth.sig.returnType = some t) (ht : t = .boolean ∨ t = .byte ∨ t = .char ∨ t = .short) (hlk : meth.locks = false) {pc : Nat} {Ls : Array Slot} {z v : Int32} {rest : List Value} (hd : decode c.code pc = .ok (.ireturn, 1)) {Q : Option Value → Heap → List Loc → Prop} {k n : Nat}
    (hv : nar t z = v) (hQ : Q (some (.int v)) T.heap locs) (hk : cells ≤ k) (hn : slots ≤ n) : own_Ends p e below s Q k n T (mkF m pc Ls (.int z :: rest)) :=
  own_ret X (v := some (.int v)) (fun q => by rw [hret] at q; cases q) hlk (fun fs hr => retN X hx hret ht hd (by rw [hv]; exact hr)) hQ hk hn
theorem own_retL (X : Stand p l e R s m args below meth c T locs cells slots) (hx : p.tables.exec = Jvm.exec) (hret : meth.sig.returnType = some .long) (hlk : meth.locks = false) {pc : Nat} {Ls : Array Slot} {z : Int64} {rest : List Value} (hd : decode c.code pc = .ok (.lreturn, 1)) {Q : Option Value → Heap → List Loc → Prop} {k n : Nat}
    (hQ : Q (some (.long z)) T.heap locs) (hk : cells ≤ k) (hn : slots ≤ n) : own_Ends p e below s Q k n T (mkF m pc Ls (.long z :: rest)) :=
  own_ret X (fun q => by rw [hret] at q; cases q) hlk (fun fs hr => retOut X hx hret rfl (Or.inr (Or.inl ⟨rfl, rfl, z, rfl⟩)) hd hr) hQ hk hn
theorem own_retA (X : Stand p l e R s m args below meth c T locs cells slots) (hx : p.tables.exec = Jvm.exec) {t : FieldType} (hret : meth.sig.returnType = some t) (ht : t.isReference = true) (hlk : meth.locks = false) {pc : Nat} {Ls : Array Slot} {z : Value} {rest : List Value} (hz : z.isRef = true) (hn0 : narrow t z = z) (hd : decode c.code pc = .ok (.areturn, 1)) {Q : Option Value → Heap → List Loc → Prop} {k n : Nat}
    (hQ : Q (some z) T.heap locs) (hk : cells ≤ k) (hn : slots ≤ n) : own_Ends p e below s Q k n T (mkF m pc Ls (z :: rest)) :=
  own_ret X (fun q => by rw [hret] at q; cases q) hlk (fun fs hr => retOut X hx hret hn0 (Or.inr (Or.inr (Or.inr (Or.inr ⟨rfl, ht, hz⟩)))) hd hr) hQ hk hn
theorem own_retV (X : Stand p l e R s m args below meth c T locs cells slots) (hx : p.tables.exec = Jvm.exec) (hret : meth.sig.returnType = none) (hlk : meth.locks = false) {pc : Nat} {Ls : Array Slot} (hd : decode c.code pc = .ok (.return_, 1)) {Q : Option Value → Heap → List Loc → Prop} {k n : Nat}
    (hQ : Q none T.heap locs) (hk : cells ≤ k) (hn : slots ≤ n) : own_Ends p e below s Q k n T (mkF m pc Ls []) :=
  own_ret X (fun _ => rfl) hlk (fun fs hr => X.returnOut hx hret hd hr) hQ hk hn
/-- a contract: called with as' over the heap h0, the method comes back and Q holds -/
def own_Met (l : Launch) (y : MethodName) (bytes : ByteArray) (maxL : Nat) (ret : Option FieldType) (ws : List Jvm.Cond) (rm : Room) (as' : Array Value) (Z : State) (h0 : Heap) (Q : Option Value → Heap → List Loc → Prop) : Prop :=
  MetFree l y (head1 (Jvm.Cond.code y bytes maxL ret :: ws) rm) (fun a U => a = as' ∧ Z.Warmed39 U.vm ∧ U.heap = h0) (fun _ _ _ _ _ => True) (fun _ U o U' => ∃ v L, o = .returned v ∧ Q v U'.heap L ∧ FrameEnd U o U' L rm.cells rm.slots)
theorem own_body {y : MethodName} {bytes : ByteArray} {maxL : Nat} {ret : Option FieldType} {ws : List Jvm.Cond} {rm : Room} {as' : Array Value} {h0 : Heap} {Q : Option Value → Heap → List Loc → Prop} (hy : plainFor y = true) {g0 : MethodId → JFrame} (ef : ∀ m, entryFrame m as' maxL = g0 m)
    (body : ∀ (p : Program) (e : Env) (s : State) (m : MethodId) (below : List Frame) (meth : Method) (c : Code) (T : State), Stand p l e rm s m as' below meth c T [] 0 0 → p.tables.exec = Jvm.exec → c.code = bytes → c.maxLocals = maxL → meth.sig.returnType = ret → meth.locks = false → meth.name = y.name → s.vm.findClass y.cls = some m.cls → Z.Warmed39 s.vm → T.heap = h0 → own_Ends p e below s Q rm.cells rm.slots T (g0 m)) :
    own_Met l y bytes maxL ret ws rm as' Z h0 Q := by
  refine MetFree.of_bodySF hy hisR ?_
  intro p e s m args below meth c s₁ Bd hml hP hK
  obtain ⟨ha, hZ, hh⟩ := hP
  subst ha
  have q := body p e s m below meth c s₁ (Stand.of_body Bd) Bd.exec Bd.bytes hml Bd.returns Bd.notSynchronized (name_of_methodNamed Bd.named Bd.method).1 (findClass_of_methodNamed Bd.named) hZ (by rw [← hh, Bd.state]; rfl)
  rw [← ef m] at q
  exact q
theorem own_callS (X : Stand p l e R s m args below meth c T locs cells slots) (hx : p.tables.exec = Jvm.exec) (hZ : Z.Warmed39 s.vm) {own : String} {index : Nat} {y : MethodName} {bytes : ByteArray} {maxL : Nat} {ret : Option FieldType}
    (hown : s.vm.findClass own = some m.cls) (wl : (Jvm.Cond.methodLink own index y).before a0 Z = true) (wst : (Jvm.Cond.static y).before a0 Z = true) (wi : (Jvm.Cond.initialized y.cls).before a0 Z = true) (wc : (Jvm.Cond.code y bytes maxL ret).before a0 Z = true)
    (hy : y.cls ≠ "java/lang/invoke/MethodHandle" ∧ y.cls ≠ "java/lang/invoke/VarHandle") {rm : Room} {as' : Array Value} {Qc : Option Value → Heap → List Loc → Prop} (hM : own_Met l y bytes maxL ret [] rm as' Z h Qc) (eT : T.heap = h) (W : Nat)
    (hf : rm.frames + 1 ≤ R.frames) (hlo : W + (maxL + 11) + rm.locals ≤ R.locals) (hcl : cells + rm.cells ≤ R.cells) (hsl : slots + rm.slots ≤ R.slots)
    {g : JFrame} (hg : g.method = m) (hsize : g.locals.size = c.maxLocals) (argsL rest : List Value) {ps : List FieldType} {r : Option FieldType} (hpd : parseMethodDescriptor y.desc = some ⟨ps, r⟩) (hlen : argsL.length = ps.length) (has : argsL.toArray = as')
    (hstack : g.stack = argsL.reverse ++ rest) (hW : 2 * g.monitorRoom + (rest.map fun v => v.category).sum ≤ W) (hdg : decode c.code g.pc = .ok (.invokestatic index, 3)) {Q : Option Value → Heap → List Loc → Prop} {k n : Nat}
    (cont : ∀ v T' L, Stand p l e R s m args below meth c T' (locs ++ L) (cells + rm.cells) (slots + rm.slots) → Qc v T'.heap L → own_Ends p e below s Q k n T' { g with pc := g.pc + 3, stack := v.toList ++ rest }) : own_Ends p e below s Q k n T g := by
  obtain ⟨v, _, ⟨T2, L2, k2, n2⟩, -, X2, ⟨Lc, hQ, l2, y2, z2⟩, st⟩ := Jvm.LawKit.callS X hx (y := y) hown (mvT hZ wl) (mvT hZ wst) (mvT hZ wi) (mvT hZ wc) hy (backOf (W := W) hM hZ wc wi hf hlo) hg hsize (argsL := argsL) (rest := rest) (lenOf hpd hlen) hstack hW hdg (fun _ _ => ⟨has, eT, hcl, hsl⟩)
  dsimp only [Pt.U, Pt.locs, Pt.cells, Pt.slots] at X2 l2 y2 z2 st hQ
  subst l2 y2 z2
  exact own_step st (cont v T2 Lc X2 hQ)
theorem own_callV (X : Stand p l e R s m args below meth c T locs cells slots) (hx : p.tables.exec = Jvm.exec) (hZ : Z.Warmed39 s.vm) {own C : String} {index : Nat} {y z : MethodName} {bytes : ByteArray} {maxL : Nat} {ret : Option FieldType}
    (hown : s.vm.findClass own = some m.cls) (wl : (Jvm.Cond.methodLink own index y).before a0 Z = true) (wd : (Jvm.Cond.declares y).before a0 Z = true) (wf : (Jvm.Cond.selects y.cls y y).before a0 Z = true) (ws : (Jvm.Cond.selects C y z).before a0 Z = true) (wm : (Jvm.Cond.instanceMethod z).before a0 Z = true) (wi : (Jvm.Cond.initialized z.cls).before a0 Z = true) (wc : (Jvm.Cond.code z bytes maxL ret).before a0 Z = true)
    (hy : y.cls ≠ "java/lang/invoke/MethodHandle" ∧ y.cls ≠ "java/lang/invoke/VarHandle") {rm : Room} {as' : Array Value} {Qc : Option Value → Heap → List Loc → Prop} (hM : own_Met l z bytes maxL ret [] rm as' Z h Qc) (eT : T.heap = h) {b : Addr} (hE : Exa Z h b C) (W : Nat)
    (hf : rm.frames + 1 ≤ R.frames) (hlo : W + (maxL + 11) + rm.locals ≤ R.locals) (hcl : cells + rm.cells ≤ R.cells) (hsl : slots + rm.slots ≤ R.slots)
    {g : JFrame} (hg : g.method = m) (hsize : g.locals.size = c.maxLocals) (argsL rest : List Value) {ps : List FieldType} {r : Option FieldType} (hpd : parseMethodDescriptor y.desc = some ⟨ps, r⟩) (hlen : argsL.length = ps.length) (has : (Value.ref b :: argsL).toArray = as')
    (hstack : g.stack = argsL.reverse ++ .ref b :: rest) (hW : 2 * g.monitorRoom + (rest.map fun v => v.category).sum ≤ W) (hdg : decode c.code g.pc = .ok (.invokevirtual index, 3)) {Q : Option Value → Heap → List Loc → Prop} {k n : Nat}
    (cont : ∀ v T' L, Stand p l e R s m args below meth c T' (locs ++ L) (cells + rm.cells) (slots + rm.slots) → Qc v T'.heap L → own_Ends p e below s Q k n T' { g with pc := g.pc + 3, stack := v.toList ++ rest }) : own_Ends p e below s Q k n T g := by
  obtain ⟨cq, kq, q1, q2, q3⟩ := isOf hZ eT hE
  obtain ⟨v, _, ⟨T2, L2, k2, n2⟩, -, X2, ⟨Lc, hQ, l2, y2, z2⟩, st⟩ := X.virtualBack hx (y := y) (z := z) hown (mvT hZ wl) (mvT hZ wd) (notFace_of_selects (args := #[]) (mvT hZ wf)) (mvT hZ ws) (mvT hZ wm) hy (backOf (W := W) hM hZ wc wi hf hlo) q1 q3 hg hsize (Steps.refl _) (argsL := argsL) (rest := rest) (lenOf hpd hlen) hstack hW hdg (fun _ _ => ⟨has, eT, hcl, hsl⟩)
  dsimp only [Pt.U, Pt.locs, Pt.cells, Pt.slots] at X2 l2 y2 z2 st hQ
  subst l2 y2 z2
  exact own_step (fun _ k => st.trans k) (cont v T2 Lc X2 hQ)
theorem own_callC (X : Stand p l e R s m args below meth c T locs cells slots) (hx : p.tables.exec = Jvm.exec) (hZ : Z.Warmed39 s.vm) {own : String} {index : Nat} {y : MethodName} {bytes : ByteArray} {maxL : Nat} (hy1 : y.name = "<init>")
    (hown : s.vm.findClass own = some m.cls) (wl : (Jvm.Cond.methodLink own index y).before a0 Z = true) (wm : (Jvm.Cond.instanceMethod y).before a0 Z = true) (wi : (Jvm.Cond.initialized y.cls).before a0 Z = true) (wc : (Jvm.Cond.code y bytes maxL none).before a0 Z = true)
    (hy : y.cls ≠ "java/lang/invoke/MethodHandle" ∧ y.cls ≠ "java/lang/invoke/VarHandle") {rm : Room} {as' : Array Value} {Qc : Option Value → Heap → List Loc → Prop} (hM : own_Met l y bytes maxL none [] rm as' Z h Qc) (eT : T.heap = h) {b : Addr} (W : Nat)
    (hf : rm.frames + 1 ≤ R.frames) (hlo : W + (maxL + 11) + rm.locals ≤ R.locals) (hcl : cells + rm.cells ≤ R.cells) (hsl : slots + rm.slots ≤ R.slots)
    {g : JFrame} (hg : g.method = m) (hsize : g.locals.size = c.maxLocals) (argsL rest : List Value) {ps : List FieldType} {r : Option FieldType} (hpd : parseMethodDescriptor y.desc = some ⟨ps, r⟩) (hlen : argsL.length = ps.length) (has : (Value.ref b :: argsL).toArray = as')
    (hstack : g.stack = argsL.reverse ++ .ref b :: rest) (hW : 2 * g.monitorRoom + (rest.map fun v => v.category).sum ≤ W) (hdg : decode c.code g.pc = .ok (.invokespecial index, 3)) {Q : Option Value → Heap → List Loc → Prop} {k n : Nat}
    (cont : ∀ v T' L, Stand p l e R s m args below meth c T' (locs ++ L) (cells + rm.cells) (slots + rm.slots) → Qc v T'.heap L → own_Ends p e below s Q k n T' { g with pc := g.pc + 3, stack := v.toList ++ rest }) : own_Ends p e below s Q k n T g := by
  obtain ⟨v, _, ⟨T2, L2, k2, n2⟩, -, X2, ⟨Lc, hQ, l2, y2, z2⟩, st⟩ := X.specialBack hx (y := y) hy1 hown (mvT hZ wl) (mvT hZ wm) (mvT hZ wc) hy (backOf (W := W) hM hZ wc wi hf hlo) hg hsize (Steps.refl _) (a := b) (argsL := argsL) (rest := rest) (lenOf hpd hlen) hstack hW hdg (fun _ _ => ⟨has, eT, hcl, hsl⟩)
  dsimp only [Pt.U, Pt.locs, Pt.cells, Pt.slots] at X2 l2 y2 z2 st hQ
  subst l2 y2 z2
  exact own_step (fun _ k => st.trans k) (cont v T2 Lc X2 hQ)
/-! arrays by their lists -/
variable {a b : Addr} {kA : ClassId} {ty : FieldType} {z : Int32} {vs : List Value} {dv : Value}
theorem own_newA (X : Stand p l e R s m args below meth c T locs cells slots) (hx : p.tables.exec = Jvm.exec) (hZ : Z.Warmed39 s.vm) {aty : ArrayType} (w : (Jvm.Cond.arrayClass (newarray.typeOf aty)).before a0 Z = true) (eT : T.heap = h) {g : JFrame} (hg : g.method = m) (hd : decode c.code g.pc = .ok (.newarray aty, 2)) {n : Int32} {rest : List Value} (hs : g.stack = .int n :: rest)
    (hn : ¬ n < 0) {cap : Nat} (hcap : n.toNatClampNeg ≤ cap) (hb : cap * 8 ≤ 536870912) (hc : cells + 1 ≤ R.cells) (hl : slots + cap ≤ R.slots) :
    ∃ T' h' cA b, b = h.size ∧ Stand p l e R s m args below meth c T' locs (cells + 1) (slots + cap) ∧ T'.heap = h' ∧ Ext h h' ∧ Arv Z h' b cA (newarray.typeOf aty) n (List.replicate cap (defaultValue (newarray.typeOf aty))) (defaultValue (newarray.typeOf aty)) ∧
      ∀ target, Steps p.tables e below (T'.setTop { g with pc := g.pc + 2, stack := .ref b :: rest }) target → Steps p.tables e below (T.setTop g) target := by
  obtain ⟨T', h', cA, X', e', E, A, st⟩ := newP X hx hZ w eT hg hd hs hn hcap hb hc hl
  exact ⟨T', h', cA, _, rfl, X', e', E, (Arv.new A hn).pad (pad_rep [] _ cap), st⟩
theorem own_stB (X : Stand p l e R s m args below meth c T locs cells slots) (hx : p.tables.exec = Jvm.exec) (hZ : Z.Warmed39 s.vm) (eT : T.heap = h) (V : Arv Z h a kA .byte z vs dv) {j x : Int32} (hj : ¬ j < 0 ∧ j < z) (i : Nat) (hi : j.toNatClampNeg = i) (hl : i < vs.length) {g : JFrame} (hg : g.method = m) {rest : List Value} (hs : g.stack = .int x :: .int j :: .ref a :: rest) (hd : decode c.code g.pc = .ok (.bastore, 1)) :
    ∃ T' h' L, Stand p l e R s m args below meth c T' (locs ++ [⟨a, L⟩]) cells slots ∧ T'.heap = h' ∧ Wr h h' a L (.int x.toInt8.toInt32) ∧ Arv Z h' a kA .byte z (vs.set i (.int x.toInt8.toInt32)) dv ∧ ∀ target, Steps p.tables e below (T'.setTop { g with pc := g.pc + 1, stack := rest }) target → Steps p.tables e below (T.setTop g) target := by
  obtain ⟨cl, Ar, q, S, N, H, G⟩ := V
  obtain ⟨T', h', X', e', W, st⟩ := stB X hx hZ eT Ar (inb_of S hj) hg hs hd
  exact ⟨T', h', _, X', e', W, Arv.set Ar q S N H G (fits_nar_byte _) W i hi hl, st⟩
theorem own_stZ (X : Stand p l e R s m args below meth c T locs cells slots) (hx : p.tables.exec = Jvm.exec) (hZ : Z.Warmed39 s.vm) (eT : T.heap = h) (V : Arv Z h a kA .boolean z vs dv) {j x : Int32} (hj : ¬ j < 0 ∧ j < z) (i : Nat) (hi : j.toNatClampNeg = i) (hl : i < vs.length) {g : JFrame} (hg : g.method = m) {rest : List Value} (hs : g.stack = .int x :: .int j :: .ref a :: rest) (hd : decode c.code g.pc = .ok (.bastore, 1)) :
    ∃ T' h' L, Stand p l e R s m args below meth c T' (locs ++ [⟨a, L⟩]) cells slots ∧ T'.heap = h' ∧ Wr h h' a L (.int (nar .boolean x)) ∧ Arv Z h' a kA .boolean z (vs.set i (.int (nar .boolean x))) dv ∧ ∀ target, Steps p.tables e below (T'.setTop { g with pc := g.pc + 1, stack := rest }) target → Steps p.tables e below (T.setTop g) target := by
  obtain ⟨cl, Ar, q, S, N, H, G⟩ := V
  obtain ⟨T', h', X', e', W, st⟩ := stZ X hx hZ eT Ar (inb_of S hj) hg hs hd
  exact ⟨T', h', _, X', e', W, Arv.set Ar q S N H G (fits_nar_bool _) W i hi hl, st⟩
theorem own_stC (X : Stand p l e R s m args below meth c T locs cells slots) (hx : p.tables.exec = Jvm.exec) (hZ : Z.Warmed39 s.vm) (eT : T.heap = h) (V : Arv Z h a kA .char z vs dv) {j x : Int32} (hj : ¬ j < 0 ∧ j < z) (i : Nat) (hi : j.toNatClampNeg = i) (hl : i < vs.length) {g : JFrame} (hg : g.method = m) {rest : List Value} (hs : g.stack = .int x :: .int j :: .ref a :: rest) (hd : decode c.code g.pc = .ok (.castore, 1)) :
    ∃ T' h' L, Stand p l e R s m args below meth c T' (locs ++ [⟨a, L⟩]) cells slots ∧ T'.heap = h' ∧ Wr h h' a L (.int (nar .char x)) ∧ Arv Z h' a kA .char z (vs.set i (.int (nar .char x))) dv ∧ ∀ target, Steps p.tables e below (T'.setTop { g with pc := g.pc + 1, stack := rest }) target → Steps p.tables e below (T.setTop g) target := by
  obtain ⟨cl, Ar, q, S, N, H, G⟩ := V
  obtain ⟨T', h', X', e', W, st⟩ := stC X hx hZ eT Ar (inb_of S hj) hg hs hd
  exact ⟨T', h', _, X', e', W, Arv.set Ar q S N H G (fits_nar_char _) W i hi hl, st⟩
theorem own_stI (X : Stand p l e R s m args below meth c T locs cells slots) (hx : p.tables.exec = Jvm.exec) (hZ : Z.Warmed39 s.vm) (eT : T.heap = h) (V : Arv Z h a kA .int z vs dv) {j x : Int32} (hj : ¬ j < 0 ∧ j < z) (i : Nat) (hi : j.toNatClampNeg = i) (hl : i < vs.length) {g : JFrame} (hg : g.method = m) {rest : List Value} (hs : g.stack = .int x :: .int j :: .ref a :: rest) (hd : decode c.code g.pc = .ok (.iastore, 1)) :
    ∃ T' h' L, Stand p l e R s m args below meth c T' (locs ++ [⟨a, L⟩]) cells slots ∧ T'.heap = h' ∧ Wr h h' a L (.int x) ∧ Arv Z h' a kA .int z (vs.set i (.int x)) dv ∧ ∀ target, Steps p.tables e below (T'.setTop { g with pc := g.pc + 1, stack := rest }) target → Steps p.tables e below (T.setTop g) target := by
  obtain ⟨cl, Ar, q, S, N, H, G⟩ := V
  obtain ⟨T', h', X', e', W, st⟩ := stI X hx hZ eT Ar (inb_of S hj) hg hs hd
  exact ⟨T', h', _, X', e', W, Arv.set Ar q S N H G rfl W i hi hl, st⟩
theorem own_stJ (X : Stand p l e R s m args below meth c T locs cells slots) (hx : p.tables.exec = Jvm.exec) (hZ : Z.Warmed39 s.vm) (eT : T.heap = h) (V : Arv Z h a kA .long z vs dv) {j : Int32} {x : Int64} (hj : ¬ j < 0 ∧ j < z) (i : Nat) (hi : j.toNatClampNeg = i) (hl : i < vs.length) {g : JFrame} (hg : g.method = m) {rest : List Value} (hs : g.stack = .long x :: .int j :: .ref a :: rest) (hd : decode c.code g.pc = .ok (.lastore, 1)) :
    ∃ T' h' L, Stand p l e R s m args below meth c T' (locs ++ [⟨a, L⟩]) cells slots ∧ T'.heap = h' ∧ Wr h h' a L (.long x) ∧ Arv Z h' a kA .long z (vs.set i (.long x)) dv ∧ ∀ target, Steps p.tables e below (T'.setTop { g with pc := g.pc + 1, stack := rest }) target → Steps p.tables e below (T.setTop g) target := by
  obtain ⟨cl, Ar, q, S, N, H, G⟩ := V
  obtain ⟨T', h', X', e', W, st⟩ := stJ X hx hZ eT Ar (inb_of S hj) hg hs hd
  exact ⟨T', h', _, X', e', W, Arv.set Ar q S N H G rfl W i hi hl, st⟩
theorem own_ldB (X : Stand p l e R s m args below meth c T locs cells slots) (hx : p.tables.exec = Jvm.exec) (hZ : Z.Warmed39 s.vm) (eT : T.heap = h) (V : Arv Z h a kA .byte z vs dv) {j : Int32} {v : Value} (hj : ¬ j < 0 ∧ j < z) (hv : vs.getD j.toNatClampNeg dv = v) {g : JFrame} (hg : g.method = m) {rest : List Value} (hs : g.stack = .int j :: .ref a :: rest) (hd : decode c.code g.pc = .ok (.baload, 1)) :
    ∀ t, Steps p.tables e below (T.setTop { g with pc := g.pc + 1, stack := v :: rest }) t → Steps p.tables e below (T.setTop g) t := by
  obtain ⟨cl, Ar, q, S, N, H, G⟩ := V
  exact fun t k => X.baloadBytes hx (by rw [eT]; exact Ar.1) (State.isArrayOf_alike hZ.alike Ar.2.1) Ar.2.2 (inb_of S hj) (Has.at H (inb_of S hj) hv) hg hs hd _ k
theorem own_ldZ (X : Stand p l e R s m args below meth c T locs cells slots) (hx : p.tables.exec = Jvm.exec) (hZ : Z.Warmed39 s.vm) (eT : T.heap = h) (V : Arv Z h a kA .boolean z vs dv) {j : Int32} {v : Value} (hj : ¬ j < 0 ∧ j < z) (hv : vs.getD j.toNatClampNeg dv = v) {g : JFrame} (hg : g.method = m) {rest : List Value} (hs : g.stack = .int j :: .ref a :: rest) (hd : decode c.code g.pc = .ok (.baload, 1)) :
    ∀ t, Steps p.tables e below (T.setTop { g with pc := g.pc + 1, stack := v :: rest }) t → Steps p.tables e below (T.setTop g) t := by
  obtain ⟨cl, Ar, q, S, N, H, G⟩ := V
  exact fun t k => X.baloadBooleans hx (by rw [eT]; exact Ar.1) (State.isArrayOf_alike hZ.alike Ar.2.1) Ar.2.2 (inb_of S hj) (Has.at H (inb_of S hj) hv) hg hs hd _ k
theorem own_ldC (X : Stand p l e R s m args below meth c T locs cells slots) (hx : p.tables.exec = Jvm.exec) (hZ : Z.Warmed39 s.vm) (eT : T.heap = h) (V : Arv Z h a kA .char z vs dv) {j : Int32} {v : Value} (hj : ¬ j < 0 ∧ j < z) (hv : vs.getD j.toNatClampNeg dv = v) {g : JFrame} (hg : g.method = m) {rest : List Value} (hs : g.stack = .int j :: .ref a :: rest) (hd : decode c.code g.pc = .ok (.caload, 1)) :
    ∀ t, Steps p.tables e below (T.setTop { g with pc := g.pc + 1, stack := v :: rest }) t → Steps p.tables e below (T.setTop g) t := by
  obtain ⟨cl, Ar, q, S, N, H, G⟩ := V
  exact fun t k => X.caload hx (by rw [eT]; exact Ar.1) (State.isArrayOf_alike hZ.alike Ar.2.1) Ar.2.2 (inb_of S hj) (Has.at H (inb_of S hj) hv) hg hs hd _ k
theorem own_ldI (X : Stand p l e R s m args below meth c T locs cells slots) (hx : p.tables.exec = Jvm.exec) (hZ : Z.Warmed39 s.vm) (eT : T.heap = h) (V : Arv Z h a kA .int z vs dv) {j : Int32} {v : Value} (hj : ¬ j < 0 ∧ j < z) (hv : vs.getD j.toNatClampNeg dv = v) {g : JFrame} (hg : g.method = m) {rest : List Value} (hs : g.stack = .int j :: .ref a :: rest) (hd : decode c.code g.pc = .ok (.iaload, 1)) :
    ∀ t, Steps p.tables e below (T.setTop { g with pc := g.pc + 1, stack := v :: rest }) t → Steps p.tables e below (T.setTop g) t := by
  obtain ⟨cl, Ar, q, S, N, H, G⟩ := V
  exact fun t k => X.iaload hx (by rw [eT]; exact Ar.1) (State.isArrayOf_alike hZ.alike Ar.2.1) Ar.2.2 (inb_of S hj) (Has.at H (inb_of S hj) hv) hg hs hd _ k
theorem own_ldJ (X : Stand p l e R s m args below meth c T locs cells slots) (hx : p.tables.exec = Jvm.exec) (hZ : Z.Warmed39 s.vm) (eT : T.heap = h) (V : Arv Z h a kA .long z vs dv) {j : Int32} {v : Value} (hj : ¬ j < 0 ∧ j < z) (hv : vs.getD j.toNatClampNeg dv = v) {g : JFrame} (hg : g.method = m) {rest : List Value} (hs : g.stack = .int j :: .ref a :: rest) (hd : decode c.code g.pc = .ok (.laload, 1)) :
    ∀ t, Steps p.tables e below (T.setTop { g with pc := g.pc + 1, stack := v :: rest }) t → Steps p.tables e below (T.setTop g) t := by
  obtain ⟨cl, Ar, q, S, N, H, G⟩ := V
  exact fun t k => X.laload hx (by rw [eT]; exact Ar.1) (State.isArrayOf_alike hZ.alike Ar.2.1) Ar.2.2 (inb_of S hj) (Has.at H (inb_of S hj) hv) hg hs hd _ k
theorem own_ldA (X : Stand p l e R s m args below meth c T locs cells slots) (hx : p.tables.exec = Jvm.exec) (hZ : Z.Warmed39 s.vm) (eT : T.heap = h) (V : Arv Z h a kA ty z vs dv) (hty : ty.isReference = true) {j : Int32} {v : Value} (hj : ¬ j < 0 ∧ j < z) (hv : vs.getD j.toNatClampNeg dv = v) {g : JFrame} (hg : g.method = m) {rest : List Value} (hs : g.stack = .int j :: .ref a :: rest) (hd : decode c.code g.pc = .ok (.aaload, 1)) :
    ∀ t, Steps p.tables e below (T.setTop { g with pc := g.pc + 1, stack := v :: rest }) t → Steps p.tables e below (T.setTop g) t := by
  obtain ⟨cl, Ar, q, S, N, H, G⟩ := V
  exact fun t k => X.aaload hx (by rw [eT]; exact Ar.1) (State.isArrayOf_alike hZ.alike Ar.2.1) hty Ar.2.2 (inb_of S hj) (Has.at H (inb_of S hj) hv) hg hs hd _ k
theorem own_len (X : Stand p l e R s m args below meth c T locs cells slots) (hx : p.tables.exec = Jvm.exec) (hZ : Z.Warmed39 s.vm) (eT : T.heap = h) (V : Arv Z h a kA ty z vs dv) {g : JFrame} (hg : g.method = m) {rest : List Value} (hs : g.stack = .ref a :: rest) (hd : decode c.code g.pc = .ok (.arraylength, 1)) :
    ∀ t, Steps p.tables e below (T.setTop { g with pc := g.pc + 1, stack := .int z :: rest }) t → Steps p.tables e below (T.setTop g) t := by
  obtain ⟨cl, Ar, q, S, N, H, G⟩ := V
  refine fun t k => X.arraylength hx (by rw [eT]; exact Ar.1) (State.isArrayOf_alike hZ.alike Ar.2.1) hg hs hd _ ?_
  rw [len_of S N]; exact k
theorem own_newR (X : Stand p l e R s m args below meth c T locs cells slots) (hx : p.tables.exec = Jvm.exec) (hZ : Z.Warmed39 s.vm) {own C : String} {index : Nat} (hown : s.vm.findClass own = some m.cls) (w1 : (Jvm.Cond.classLink own index C).before a0 Z = true) (w2 : (Jvm.Cond.arrayOver (.object C)).before a0 Z = true)
    (eT : T.heap = h) {g : JFrame} (hg : g.method = m) (hd : decode c.code g.pc = .ok (.anewarray index, 3)) {n : Int32} {rest : List Value} (hs : g.stack = .int n :: rest) (hn : ¬ n < 0) {cap : Nat} (hcap : n.toNatClampNeg ≤ cap) (hb : cap * 8 ≤ 536870912) (hc : cells + 1 ≤ R.cells) (hl : slots + cap ≤ R.slots) :
    ∃ T' h' cA b, b = h.size ∧ Stand p l e R s m args below meth c T' locs (cells + 1) (slots + cap) ∧ T'.heap = h' ∧ Ext h h' ∧ Arv Z h' b cA (.object C) n (List.replicate cap .null) .null ∧ Ovr Z cA C ∧
      ∀ target, Steps p.tables e below (T'.setTop { g with pc := g.pc + 3, stack := .ref b :: rest }) target → Steps p.tables e below (T.setTop g) target := by
  obtain ⟨T', h', cA, X', e', E, A, O, st⟩ := newR X hx hZ hown w1 w2 eT hg hd hs hn hcap hb hc hl
  exact ⟨T', h', cA, _, rfl, X', e', E, (Arv.new A hn).pad (pad_rep [] _ cap), O, st⟩
theorem own_stA (X : Stand p l e R s m args below meth c T locs cells slots) (hx : p.tables.exec = Jvm.exec) (hZ : Z.Warmed39 s.vm) (eT : T.heap = h) {C : String} {y : Addr} (V : Arv Z h a kA (.object C) z vs dv) (O : Ovr Z kA C) (I : Ins Z h y C true) {j : Int32} (hj : ¬ j < 0 ∧ j < z) (i : Nat) (hi : j.toNatClampNeg = i) (hl : i < vs.length) {g : JFrame} (hg : g.method = m) {rest : List Value} (hs : g.stack = .ref y :: .int j :: .ref a :: rest) (hd : decode c.code g.pc = .ok (.aastore, 1)) :
    ∃ T' h' L, Stand p l e R s m args below meth c T' (locs ++ [⟨a, L⟩]) cells slots ∧ T'.heap = h' ∧ Wr h h' a L (.ref y) ∧ Arv Z h' a kA (.object C) z (vs.set i (.ref y)) dv ∧ ∀ target, Steps p.tables e below (T'.setTop { g with pc := g.pc + 1, stack := rest }) target → Steps p.tables e below (T.setTop g) target := by
  obtain ⟨cl, Ar, q, S, N, H, G⟩ := V
  obtain ⟨T', h', X', e', W, st⟩ := stR X hx hZ eT Ar (inb_of S hj) rfl (Sto.ofV Ar q O I) hg hs hd
  exact ⟨T', h', _, X', e', W, Arv.set Ar q S N H G rfl W i hi hl, st⟩
/-! what the case's words say of statics -/
theorem own_eqI {t : Term} {n : Int32} {args : Array Value} {s : State} (q : (Jvm.Cond.eq t (.int n)).value args s none s [] = some true) : t.eval args s none [] s = some (.int n) := by
  cases ht : t.eval args s none [] s with
  | none => simp [Jvm.Cond.value, ht] at q
  | some v => cases v <;> simp [Jvm.Cond.value, ht, Term.eval, Value.isRef] at q ⊢ <;> exact q
theorem own_eqJ {t : Term} {n : Int64} {args : Array Value} {s : State} (q : (Jvm.Cond.eq t (.long n)).value args s none s [] = some true) : t.eval args s none [] s = some (.long n) := by
  cases ht : t.eval args s none [] s with
  | none => simp [Jvm.Cond.value, ht] at q
  | some v => cases v <;> simp [Jvm.Cond.value, ht, Term.eval, Value.isRef] at q ⊢ <;> exact q
theorem own_eqR {t u : Term} {x : Addr} {args : Array Value} {s : State} (hu : u.eval args s none [] s = some (.ref x)) (q : (Jvm.Cond.eq t u).value args s none s [] = some true) : t.eval args s none [] s = some (.ref x) := by
  cases ht : t.eval args s none [] s with
  | none => simp [Jvm.Cond.value, ht] at q
  | some v => cases v <;> simp [Jvm.Cond.value, ht, hu, Value.isRef] at q ⊢ <;> exact q
theorem own_lenT {t : Term} {a : Addr} {cl : Cell} {ty : FieldType} {z : Int32} {args : Array Value} {s : State} (ht : t.eval args s none [] s = some (.ref a)) (A : Arr s s.heap a cl ty) (q : (Term.length t).eval args s none [] s = some (.int z)) : cl.slots.size < 2 ^ 31 ∧ cl.slots.size.toInt32 = z := by
  have ha : s.arrayAt? a = some cl := Arr.fin (Vm.Alike.refl _) A
  by_cases hl : cl.slots.size < 2 ^ 31
  · rw [len_f ht ha hl] at q; cases q; exact ⟨hl, rfl⟩
  · simp [Term.eval, ht, ha, hl] at q
end Own
end Jvm.RoadKit
namespace Jvm.Pilot.@@N@@
open Jvm Jvm.ClassFile Sem Op Lib Jvm.Free Jvm.Stand Jvm.LawKit Jvm.RoadKit Bundle Jvm.Pilot.@@N@@.Jvm.D
theorem own_leafI {x y : Int32} (q : y = x) : some (Value.int x) = some (.int y) := by rw [q]
theorem own_leafJ {x y : Int64} (q : y = x) : some (Value.long x) = some (.long y) := by rw [q]
theorem d1_0 : decode prog_24_method_5_code 0 = .ok (.iload_n 0, 1) := by decide +kernel
theorem d1_1 : decode prog_24_method_5_code 1 = .ok (.sipush 128, 3) := by decide +kernel
theorem d1_4 : decode prog_24_method_5_code 4 = .ok (.if_icmp .ge 33, 3) := by decide +kernel
theorem d1_7 : decode prog_24_method_5_code 7 = .ok (.iload_n 0, 1) := by decide +kernel
theorem d1_8 : decode prog_24_method_5_code 8 = .ok (.bipush 65, 2) := by decide +kernel
theorem d1_10 : decode prog_24_method_5_code 10 = .ok (.if_icmp .lt 9, 3) := by decide +kernel
theorem d1_13 : decode prog_24_method_5_code 13 = .ok (.iload_n 0, 1) := by decide +kernel
theorem d1_14 : decode prog_24_method_5_code 14 = .ok (.bipush 90, 2) := by decide +kernel
theorem d1_16 : decode prog_24_method_5_code 16 = .ok (.if_icmp .le 21, 3) := by decide +kernel
theorem d1_19 : decode prog_24_method_5_code 19 = .ok (.iload_n 0, 1) := by decide +kernel
theorem d1_20 : decode prog_24_method_5_code 20 = .ok (.bipush 97, 2) := by decide +kernel
theorem d1_22 : decode prog_24_method_5_code 22 = .ok (.if_icmp .lt 9, 3) := by decide +kernel
theorem d1_25 : decode prog_24_method_5_code 25 = .ok (.iload_n 0, 1) := by decide +kernel
theorem d1_26 : decode prog_24_method_5_code 26 = .ok (.bipush 122, 2) := by decide +kernel
theorem d1_28 : decode prog_24_method_5_code 28 = .ok (.if_icmp .le 9, 3) := by decide +kernel
theorem d1_31 : decode prog_24_method_5_code 31 = .ok (.iload_n 0, 1) := by decide +kernel
theorem d1_32 : decode prog_24_method_5_code 32 = .ok (.bipush 95, 2) := by decide +kernel
theorem d1_34 : decode prog_24_method_5_code 34 = .ok (.if_icmp .ne 7, 3) := by decide +kernel
theorem d1_37 : decode prog_24_method_5_code 37 = .ok (.iconst 1, 1) := by decide +kernel
theorem d1_38 : decode prog_24_method_5_code 38 = .ok (.goto 4, 3) := by decide +kernel
theorem d1_41 : decode prog_24_method_5_code 41 = .ok (.iconst 0, 1) := by decide +kernel
theorem d1_42 : decode prog_24_method_5_code 42 = .ok (.ireturn, 1) := by decide +kernel
theorem ef_1 (p1 : Int32) (m : MethodId) : entryFrame m #[(.int p1)] 1 = mkF m 0 #[.val (.int p1)] [] := by first | (simp [entryFrame, mkF, argsToLocals, Value.category]; done) | rfl
def own_f1 (p1 : Int32) : Int32 := (if p1 < (128 : Int32) then (if p1 < (65 : Int32) then (if p1 < (97 : Int32) then (if p1 = (95 : Int32) then (1 : Int32) else (0 : Int32)) else (if (122 : Int32) < p1 then (if p1 = (95 : Int32) then (1 : Int32) else (0 : Int32)) else (1 : Int32))) else (if (90 : Int32) < p1 then (if p1 < (97 : Int32) then (if p1 = (95 : Int32) then (1 : Int32) else (0 : Int32)) else (if (122 : Int32) < p1 then (if p1 = (95 : Int32) then (1 : Int32) else (0 : Int32)) else (1 : Int32))) else (1 : Int32))) else (1 : Int32))
theorem pn_0 : plainName "com/example/shelfmark/shelfmark/io/TagsAsWritten" = true := by first | (simp [plainName, overriddenIn]; done) | decide +kernel
set_option maxRecDepth 65536 in
set_option maxHeartbeats 40000000 in
theorem rm1 (l : Launch) (Z : State) (a0 : Array Value) (hw : ∀ d ∈ tables_1, d.before a0 Z = true) (ws : List Jvm.Cond) (p1 : Int32) (h0 : Heap) (n0 : Nat) (Z0 : n0 ≤ h0.size) :
    own_Met l (⟨"com/example/shelfmark/shelfmark/io/TagsAsWritten", "canBeginName", "(C)Z"⟩ : MethodName) prog_24_method_5_code 1 (some .boolean) ws ({ frames := 0, cells := 0, slots := 0, locals := 0 } : Room) #[(.int p1)] Z h0 (fun v h L => v = some (.int (own_f1 p1)) ∧ Fr n0 L ∧ h = h0) := by
  refine own_body (plainFor_of_name pn_0) (ef_1 p1) ?_
  intro p e s m below meth c T0 X0 hx hby hml0 hret hlk hnm hown hZ e0
  have hml : c.maxLocals = 1 := hml0
  have N0 := Fr.nil n0
  refine own_step (fun _ k => XS.iloadN X0.here hx rfl (hb hby d1_0) rfl k) ?_
  show own_Ends _ _ _ _ _ _ _ T0 (mkF m 1 #[.val (.int p1)] [(.int p1)])
  refine own_step (fun _ k => XS.sipush X0.here hx rfl (hb hby d1_1) k) ?_
  show own_Ends _ _ _ _ _ _ _ T0 (mkF m 4 #[.val (.int p1)] [(.int (128 : Int32)), (.int p1)])
  by_cases hc1 : p1 < (128 : Int32)
  · refine own_step (fun _ k => XS.icmpNo X0.here hx rfl (hb hby d1_4) rfl (tlt hc1).2.1 k) ?_
    show own_Ends _ _ _ _ _ _ _ T0 (mkF m 7 #[.val (.int p1)] [])
    refine own_step (fun _ k => XS.iloadN X0.here hx rfl (hb hby d1_7) rfl k) ?_
    show own_Ends _ _ _ _ _ _ _ T0 (mkF m 8 #[.val (.int p1)] [(.int p1)])
    refine own_step (fun _ k => XS.bipush X0.here hx rfl (hb hby d1_8) k) ?_
    show own_Ends _ _ _ _ _ _ _ T0 (mkF m 10 #[.val (.int p1)] [(.int (65 : Int32)), (.int p1)])
    by_cases hc2 : p1 < (65 : Int32)
    · refine own_step (fun _ k => XS.icmpYes X0.here hx rfl (pc0 := 10) (pc' := 19) rfl (hb hby d1_10) rfl (tlt hc2).1 (by decide) (by decide) k) ?_
      show own_Ends _ _ _ _ _ _ _ T0 (mkF m 19 #[.val (.int p1)] [])
      refine own_step (fun _ k => XS.iloadN X0.here hx rfl (hb hby d1_19) rfl k) ?_
      show own_Ends _ _ _ _ _ _ _ T0 (mkF m 20 #[.val (.int p1)] [(.int p1)])
      refine own_step (fun _ k => XS.bipush X0.here hx rfl (hb hby d1_20) k) ?_
      show own_Ends _ _ _ _ _ _ _ T0 (mkF m 22 #[.val (.int p1)] [(.int (97 : Int32)), (.int p1)])
      by_cases hc3 : p1 < (97 : Int32)
      · refine own_step (fun _ k => XS.icmpYes X0.here hx rfl (pc0 := 22) (pc' := 31) rfl (hb hby d1_22) rfl (tlt hc3).1 (by decide) (by decide) k) ?_
        show own_Ends _ _ _ _ _ _ _ T0 (mkF m 31 #[.val (.int p1)] [])
        refine own_step (fun _ k => XS.iloadN X0.here hx rfl (hb hby d1_31) rfl k) ?_
        show own_Ends _ _ _ _ _ _ _ T0 (mkF m 32 #[.val (.int p1)] [(.int p1)])
        refine own_step (fun _ k => XS.bipush X0.here hx rfl (hb hby d1_32) k) ?_
        show own_Ends _ _ _ _ _ _ _ T0 (mkF m 34 #[.val (.int p1)] [(.int (95 : Int32)), (.int p1)])
        by_cases hc4 : p1 = (95 : Int32)
        · refine own_step (fun _ k => XS.icmpNo X0.here hx rfl (hb hby d1_34) rfl (teq hc4).2 k) ?_
          show own_Ends _ _ _ _ _ _ _ T0 (mkF m 37 #[.val (.int p1)] [])
          refine own_step (fun _ k => XS.iconst X0.here hx rfl (hb hby d1_37) k) ?_
          show own_Ends _ _ _ _ _ _ _ T0 (mkF m 38 #[.val (.int p1)] [(.int (1 : Int32))])
          refine own_step (fun _ k => XS.goto X0.here hx rfl (pc0 := 38) (pc' := 42) rfl (hb hby d1_38) (by decide) (by decide) k) ?_
          show own_Ends _ _ _ _ _ _ _ T0 (mkF m 42 #[.val (.int p1)] [(.int (1 : Int32))])
          exact own_retN X0 hx (t := .boolean) hret (by simp) hlk (hb hby d1_42) rfl ⟨own_leafI ((if_pos hc1).trans ((if_pos hc2).trans ((if_pos hc3).trans (if_pos hc4)))), N0, e0⟩ (by decide) (by decide)
        · refine own_step (fun _ k => XS.icmpYes X0.here hx rfl (pc0 := 34) (pc' := 41) rfl (hb hby d1_34) rfl (feq hc4).2 (by decide) (by decide) k) ?_
          show own_Ends _ _ _ _ _ _ _ T0 (mkF m 41 #[.val (.int p1)] [])
          refine own_step (fun _ k => XS.iconst X0.here hx rfl (hb hby d1_41) k) ?_
          show own_Ends _ _ _ _ _ _ _ T0 (mkF m 42 #[.val (.int p1)] [(.int (0 : Int32))])
          exact own_retN X0 hx (t := .boolean) hret (by simp) hlk (hb hby d1_42) rfl ⟨own_leafI ((if_pos hc1).trans ((if_pos hc2).trans ((if_pos hc3).trans (if_neg hc4)))), N0, e0⟩ (by decide) (by decide)
      · refine own_step (fun _ k => XS.icmpNo X0.here hx rfl (hb hby d1_22) rfl (flt hc3).1 k) ?_
        show own_Ends _ _ _ _ _ _ _ T0 (mkF m 25 #[.val (.int p1)] [])
        refine own_step (fun _ k => XS.iloadN X0.here hx rfl (hb hby d1_25) rfl k) ?_
        show own_Ends _ _ _ _ _ _ _ T0 (mkF m 26 #[.val (.int p1)] [(.int p1)])
        refine own_step (fun _ k => XS.bipush X0.here hx rfl (hb hby d1_26) k) ?_
        show own_Ends _ _ _ _ _ _ _ T0 (mkF m 28 #[.val (.int p1)] [(.int (122 : Int32)), (.int p1)])
        by_cases hc5 : (122 : Int32) < p1
        · refine own_step (fun _ k => XS.icmpNo X0.here hx rfl (hb hby d1_28) rfl (tlt hc5).2.2.2 k) ?_
          show own_Ends _ _ _ _ _ _ _ T0 (mkF m 31 #[.val (.int p1)] [])
          refine own_step (fun _ k => XS.iloadN X0.here hx rfl (hb hby d1_31) rfl k) ?_
          show own_Ends _ _ _ _ _ _ _ T0 (mkF m 32 #[.val (.int p1)] [(.int p1)])
          refine own_step (fun _ k => XS.bipush X0.here hx rfl (hb hby d1_32) k) ?_
          show own_Ends _ _ _ _ _ _ _ T0 (mkF m 34 #[.val (.int p1)] [(.int (95 : Int32)), (.int p1)])
          by_cases hc6 : p1 = (95 : Int32)
          · refine own_step (fun _ k => XS.icmpNo X0.here hx rfl (hb hby d1_34) rfl (teq hc6).2 k) ?_
            show own_Ends _ _ _ _ _ _ _ T0 (mkF m 37 #[.val (.int p1)] [])
            refine own_step (fun _ k => XS.iconst X0.here hx rfl (hb hby d1_37) k) ?_
            show own_Ends _ _ _ _ _ _ _ T0 (mkF m 38 #[.val (.int p1)] [(.int (1 : Int32))])
            refine own_step (fun _ k => XS.goto X0.here hx rfl (pc0 := 38) (pc' := 42) rfl (hb hby d1_38) (by decide) (by decide) k) ?_
            show own_Ends _ _ _ _ _ _ _ T0 (mkF m 42 #[.val (.int p1)] [(.int (1 : Int32))])
            exact own_retN X0 hx (t := .boolean) hret (by simp) hlk (hb hby d1_42) rfl ⟨own_leafI ((if_pos hc1).trans ((if_pos hc2).trans ((if_neg hc3).trans ((if_pos hc5).trans (if_pos hc6))))), N0, e0⟩ (by decide) (by decide)
          · refine own_step (fun _ k => XS.icmpYes X0.here hx rfl (pc0 := 34) (pc' := 41) rfl (hb hby d1_34) rfl (feq hc6).2 (by decide) (by decide) k) ?_
            show own_Ends _ _ _ _ _ _ _ T0 (mkF m 41 #[.val (.int p1)] [])
            refine own_step (fun _ k => XS.iconst X0.here hx rfl (hb hby d1_41) k) ?_
            show own_Ends _ _ _ _ _ _ _ T0 (mkF m 42 #[.val (.int p1)] [(.int (0 : Int32))])
            exact own_retN X0 hx (t := .boolean) hret (by simp) hlk (hb hby d1_42) rfl ⟨own_leafI ((if_pos hc1).trans ((if_pos hc2).trans ((if_neg hc3).trans ((if_pos hc5).trans (if_neg hc6))))), N0, e0⟩ (by decide) (by decide)
        · refine own_step (fun _ k => XS.icmpYes X0.here hx rfl (pc0 := 28) (pc' := 37) rfl (hb hby d1_28) rfl (flt hc5).2.2.2 (by decide) (by decide) k) ?_
          show own_Ends _ _ _ _ _ _ _ T0 (mkF m 37 #[.val (.int p1)] [])
          refine own_step (fun _ k => XS.iconst X0.here hx rfl (hb hby d1_37) k) ?_
          show own_Ends _ _ _ _ _ _ _ T0 (mkF m 38 #[.val (.int p1)] [(.int (1 : Int32))])
          refine own_step (fun _ k => XS.goto X0.here hx rfl (pc0 := 38) (pc' := 42) rfl (hb hby d1_38) (by decide) (by decide) k) ?_
          show own_Ends _ _ _ _ _ _ _ T0 (mkF m 42 #[.val (.int p1)] [(.int (1 : Int32))])
          exact own_retN X0 hx (t := .boolean) hret (by simp) hlk (hb hby d1_42) rfl ⟨own_leafI ((if_pos hc1).trans ((if_pos hc2).trans ((if_neg hc3).trans (if_neg hc5)))), N0, e0⟩ (by decide) (by decide)
    · refine own_step (fun _ k => XS.icmpNo X0.here hx rfl (hb hby d1_10) rfl (flt hc2).1 k) ?_
      show own_Ends _ _ _ _ _ _ _ T0 (mkF m 13 #[.val (.int p1)] [])
      refine own_step (fun _ k => XS.iloadN X0.here hx rfl (hb hby d1_13) rfl k) ?_
      show own_Ends _ _ _ _ _ _ _ T0 (mkF m 14 #[.val (.int p1)] [(.int p1)])
      refine own_step (fun _ k => XS.bipush X0.here hx rfl (hb hby d1_14) k) ?_
      show own_Ends _ _ _ _ _ _ _ T0 (mkF m 16 #[.val (.int p1)] [(.int (90 : Int32)), (.int p1)])
      by_cases hc7 : (90 : Int32) < p1
      · refine own_step (fun _ k => XS.icmpNo X0.here hx rfl (hb hby d1_16) rfl (tlt hc7).2.2.2 k) ?_
        show own_Ends _ _ _ _ _ _ _ T0 (mkF m 19 #[.val (.int p1)] [])
        refine own_step (fun _ k => XS.iloadN X0.here hx rfl (hb hby d1_19) rfl k) ?_
        show own_Ends _ _ _ _ _ _ _ T0 (mkF m 20 #[.val (.int p1)] [(.int p1)])
        refine own_step (fun _ k => XS.bipush X0.here hx rfl (hb hby d1_20) k) ?_
        show own_Ends _ _ _ _ _ _ _ T0 (mkF m 22 #[.val (.int p1)] [(.int (97 : Int32)), (.int p1)])
        by_cases hc8 : p1 < (97 : Int32)
        · refine own_step (fun _ k => XS.icmpYes X0.here hx rfl (pc0 := 22) (pc' := 31) rfl (hb hby d1_22) rfl (tlt hc8).1 (by decide) (by decide) k) ?_
          show own_Ends _ _ _ _ _ _ _ T0 (mkF m 31 #[.val (.int p1)] [])
          refine own_step (fun _ k => XS.iloadN X0.here hx rfl (hb hby d1_31) rfl k) ?_
          show own_Ends _ _ _ _ _ _ _ T0 (mkF m 32 #[.val (.int p1)] [(.int p1)])
          refine own_step (fun _ k => XS.bipush X0.here hx rfl (hb hby d1_32) k) ?_
          show own_Ends _ _ _ _ _ _ _ T0 (mkF m 34 #[.val (.int p1)] [(.int (95 : Int32)), (.int p1)])
          by_cases hc9 : p1 = (95 : Int32)
          · refine own_step (fun _ k => XS.icmpNo X0.here hx rfl (hb hby d1_34) rfl (teq hc9).2 k) ?_
            show own_Ends _ _ _ _ _ _ _ T0 (mkF m 37 #[.val (.int p1)] [])
            refine own_step (fun _ k => XS.iconst X0.here hx rfl (hb hby d1_37) k) ?_
            show own_Ends _ _ _ _ _ _ _ T0 (mkF m 38 #[.val (.int p1)] [(.int (1 : Int32))])
            refine own_step (fun _ k => XS.goto X0.here hx rfl (pc0 := 38) (pc' := 42) rfl (hb hby d1_38) (by decide) (by decide) k) ?_
            show own_Ends _ _ _ _ _ _ _ T0 (mkF m 42 #[.val (.int p1)] [(.int (1 : Int32))])
            exact own_retN X0 hx (t := .boolean) hret (by simp) hlk (hb hby d1_42) rfl ⟨own_leafI ((if_pos hc1).trans ((if_neg hc2).trans ((if_pos hc7).trans ((if_pos hc8).trans (if_pos hc9))))), N0, e0⟩ (by decide) (by decide)
          · refine own_step (fun _ k => XS.icmpYes X0.here hx rfl (pc0 := 34) (pc' := 41) rfl (hb hby d1_34) rfl (feq hc9).2 (by decide) (by decide) k) ?_
            show own_Ends _ _ _ _ _ _ _ T0 (mkF m 41 #[.val (.int p1)] [])
            refine own_step (fun _ k => XS.iconst X0.here hx rfl (hb hby d1_41) k) ?_
            show own_Ends _ _ _ _ _ _ _ T0 (mkF m 42 #[.val (.int p1)] [(.int (0 : Int32))])
            exact own_retN X0 hx (t := .boolean) hret (by simp) hlk (hb hby d1_42) rfl ⟨own_leafI ((if_pos hc1).trans ((if_neg hc2).trans ((if_pos hc7).trans ((if_pos hc8).trans (if_neg hc9))))), N0, e0⟩ (by decide) (by decide)
        · refine own_step (fun _ k => XS.icmpNo X0.here hx rfl (hb hby d1_22) rfl (flt hc8).1 k) ?_
          show own_Ends _ _ _ _ _ _ _ T0 (mkF m 25 #[.val (.int p1)] [])
          refine own_step (fun _ k => XS.iloadN X0.here hx rfl (hb hby d1_25) rfl k) ?_
          show own_Ends _ _ _ _ _ _ _ T0 (mkF m 26 #[.val (.int p1)] [(.int p1)])
          refine own_step (fun _ k => XS.bipush X0.here hx rfl (hb hby d1_26) k) ?_
          show own_Ends _ _ _ _ _ _ _ T0 (mkF m 28 #[.val (.int p1)] [(.int (122 : Int32)), (.int p1)])
          by_cases hc10 : (122 : Int32) < p1
          · refine own_step (fun _ k => XS.icmpNo X0.here hx rfl (hb hby d1_28) rfl (tlt hc10).2.2.2 k) ?_
            show own_Ends _ _ _ _ _ _ _ T0 (mkF m 31 #[.val (.int p1)] [])
            refine own_step (fun _ k => XS.iloadN X0.here hx rfl (hb hby d1_31) rfl k) ?_
            show own_Ends _ _ _ _ _ _ _ T0 (mkF m 32 #[.val (.int p1)] [(.int p1)])
            refine own_step (fun _ k => XS.bipush X0.here hx rfl (hb hby d1_32) k) ?_
            show own_Ends _ _ _ _ _ _ _ T0 (mkF m 34 #[.val (.int p1)] [(.int (95 : Int32)), (.int p1)])
            by_cases hc11 : p1 = (95 : Int32)
            · refine own_step (fun _ k => XS.icmpNo X0.here hx rfl (hb hby d1_34) rfl (teq hc11).2 k) ?_
              show own_Ends _ _ _ _ _ _ _ T0 (mkF m 37 #[.val (.int p1)] [])
              refine own_step (fun _ k => XS.iconst X0.here hx rfl (hb hby d1_37) k) ?_
              show own_Ends _ _ _ _ _ _ _ T0 (mkF m 38 #[.val (.int p1)] [(.int (1 : Int32))])
              refine own_step (fun _ k => XS.goto X0.here hx rfl (pc0 := 38) (pc' := 42) rfl (hb hby d1_38) (by decide) (by decide) k) ?_
              show own_Ends _ _ _ _ _ _ _ T0 (mkF m 42 #[.val (.int p1)] [(.int (1 : Int32))])
              exact own_retN X0 hx (t := .boolean) hret (by simp) hlk (hb hby d1_42) rfl ⟨own_leafI ((if_pos hc1).trans ((if_neg hc2).trans ((if_pos hc7).trans ((if_neg hc8).trans ((if_pos hc10).trans (if_pos hc11)))))), N0, e0⟩ (by decide) (by decide)
            · refine own_step (fun _ k => XS.icmpYes X0.here hx rfl (pc0 := 34) (pc' := 41) rfl (hb hby d1_34) rfl (feq hc11).2 (by decide) (by decide) k) ?_
              show own_Ends _ _ _ _ _ _ _ T0 (mkF m 41 #[.val (.int p1)] [])
              refine own_step (fun _ k => XS.iconst X0.here hx rfl (hb hby d1_41) k) ?_
              show own_Ends _ _ _ _ _ _ _ T0 (mkF m 42 #[.val (.int p1)] [(.int (0 : Int32))])
              exact own_retN X0 hx (t := .boolean) hret (by simp) hlk (hb hby d1_42) rfl ⟨own_leafI ((if_pos hc1).trans ((if_neg hc2).trans ((if_pos hc7).trans ((if_neg hc8).trans ((if_pos hc10).trans (if_neg hc11)))))), N0, e0⟩ (by decide) (by decide)
          · refine own_step (fun _ k => XS.icmpYes X0.here hx rfl (pc0 := 28) (pc' := 37) rfl (hb hby d1_28) rfl (flt hc10).2.2.2 (by decide) (by decide) k) ?_
            show own_Ends _ _ _ _ _ _ _ T0 (mkF m 37 #[.val (.int p1)] [])
            refine own_step (fun _ k => XS.iconst X0.here hx rfl (hb hby d1_37) k) ?_
            show own_Ends _ _ _ _ _ _ _ T0 (mkF m 38 #[.val (.int p1)] [(.int (1 : Int32))])
            refine own_step (fun _ k => XS.goto X0.here hx rfl (pc0 := 38) (pc' := 42) rfl (hb hby d1_38) (by decide) (by decide) k) ?_
            show own_Ends _ _ _ _ _ _ _ T0 (mkF m 42 #[.val (.int p1)] [(.int (1 : Int32))])
            exact own_retN X0 hx (t := .boolean) hret (by simp) hlk (hb hby d1_42) rfl ⟨own_leafI ((if_pos hc1).trans ((if_neg hc2).trans ((if_pos hc7).trans ((if_neg hc8).trans (if_neg hc10))))), N0, e0⟩ (by decide) (by decide)
      · refine own_step (fun _ k => XS.icmpYes X0.here hx rfl (pc0 := 16) (pc' := 37) rfl (hb hby d1_16) rfl (flt hc7).2.2.2 (by decide) (by decide) k) ?_
        show own_Ends _ _ _ _ _ _ _ T0 (mkF m 37 #[.val (.int p1)] [])
        refine own_step (fun _ k => XS.iconst X0.here hx rfl (hb hby d1_37) k) ?_
        show own_Ends _ _ _ _ _ _ _ T0 (mkF m 38 #[.val (.int p1)] [(.int (1 : Int32))])
        refine own_step (fun _ k => XS.goto X0.here hx rfl (pc0 := 38) (pc' := 42) rfl (hb hby d1_38) (by decide) (by decide) k) ?_
        show own_Ends _ _ _ _ _ _ _ T0 (mkF m 42 #[.val (.int p1)] [(.int (1 : Int32))])
        exact own_retN X0 hx (t := .boolean) hret (by simp) hlk (hb hby d1_42) rfl ⟨own_leafI ((if_pos hc1).trans ((if_neg hc2).trans (if_neg hc7))), N0, e0⟩ (by decide) (by decide)
  · refine own_step (fun _ k => XS.icmpYes X0.here hx rfl (pc0 := 4) (pc' := 37) rfl (hb hby d1_4) rfl (flt hc1).2.1 (by decide) (by decide) k) ?_
    show own_Ends _ _ _ _ _ _ _ T0 (mkF m 37 #[.val (.int p1)] [])
    refine own_step (fun _ k => XS.iconst X0.here hx rfl (hb hby d1_37) k) ?_
    show own_Ends _ _ _ _ _ _ _ T0 (mkF m 38 #[.val (.int p1)] [(.int (1 : Int32))])
    refine own_step (fun _ k => XS.goto X0.here hx rfl (pc0 := 38) (pc' := 42) rfl (hb hby d1_38) (by decide) (by decide) k) ?_
    show own_Ends _ _ _ _ _ _ _ T0 (mkF m 42 #[.val (.int p1)] [(.int (1 : Int32))])
    exact own_retN X0 hx (t := .boolean) hret (by simp) hlk (hb hby d1_42) rfl ⟨own_leafI (if_neg hc1), N0, e0⟩ (by decide) (by decide)
theorem d2_0 : decode method_3_code 0 = .ok (.iload_n 0, 1) := by decide +kernel
theorem d2_1 : decode method_3_code 1 = .ok (.istore_n 1, 1) := by decide +kernel
theorem d2_2 : decode method_3_code 2 = .ok (.iload_n 1, 1) := by decide +kernel
theorem d2_3 : decode method_3_code 3 = .ok (.sipush 128, 3) := by decide +kernel
theorem d2_6 : decode method_3_code 6 = .ok (.if_icmp .lt 5, 3) := by decide +kernel
theorem d2_9 : decode method_3_code 9 = .ok (.iconst 1, 1) := by decide +kernel
theorem d2_10 : decode method_3_code 10 = .ok (.ireturn, 1) := by decide +kernel
theorem d2_11 : decode method_3_code 11 = .ok (.iload_n 1, 1) := by decide +kernel
theorem d2_12 : decode method_3_code 12 = .ok (.bipush 95, 2) := by decide +kernel
theorem d2_14 : decode method_3_code 14 = .ok (.if_icmp .ne 5, 3) := by decide +kernel
theorem d2_17 : decode method_3_code 17 = .ok (.iconst 1, 1) := by decide +kernel
theorem d2_18 : decode method_3_code 18 = .ok (.ireturn, 1) := by decide +kernel
theorem d2_19 : decode method_3_code 19 = .ok (.iload_n 1, 1) := by decide +kernel
theorem d2_20 : decode method_3_code 20 = .ok (.bipush 32, 2) := by decide +kernel
theorem d2_22 : decode method_3_code 22 = .ok (.ior, 1) := by decide +kernel
theorem d2_23 : decode method_3_code 23 = .ok (.bipush 97, 2) := by decide +kernel
theorem d2_25 : decode method_3_code 25 = .ok (.isub, 1) := by decide +kernel
theorem d2_26 : decode method_3_code 26 = .ok (.istore_n 2, 1) := by decide +kernel
theorem d2_27 : decode method_3_code 27 = .ok (.iload_n 2, 1) := by decide +kernel
theorem d2_28 : decode method_3_code 28 = .ok (.ifCond .lt 13, 3) := by decide +kernel
theorem d2_31 : decode method_3_code 31 = .ok (.iload_n 2, 1) := by decide +kernel
theorem d2_32 : decode method_3_code 32 = .ok (.bipush 26, 2) := by decide +kernel
theorem d2_34 : decode method_3_code 34 = .ok (.if_icmp .ge 7, 3) := by decide +kernel
theorem d2_37 : decode method_3_code 37 = .ok (.iconst 1, 1) := by decide +kernel
theorem d2_38 : decode method_3_code 38 = .ok (.goto 4, 3) := by decide +kernel
theorem d2_41 : decode method_3_code 41 = .ok (.iconst 0, 1) := by decide +kernel
theorem d2_42 : decode method_3_code 42 = .ok (.ireturn, 1) := by decide +kernel
theorem ef_2 (p1 : Int32) (m : MethodId) : entryFrame m #[(.int p1)] 3 = mkF m 0 #[.val (.int p1), .unset, .unset] [] := by first | (simp [entryFrame, mkF, argsToLocals, Value.category]; done) | rfl
def own_f2 (p1 : Int32) : Int32 := (if p1 < (128 : Int32) then (if p1 = (95 : Int32) then (1 : Int32) else (if ((p1 ||| (32 : Int32)) - (97 : Int32)) < (0 : Int32) then (0 : Int32) else (if ((p1 ||| (32 : Int32)) - (97 : Int32)) < (26 : Int32) then (1 : Int32) else (0 : Int32)))) else (1 : Int32))
theorem pn_1 : plainName "com/example/shelfmark/shelfmark/io/TagsAsWrittenCanBeginNamePinLaw" = true := by first | (simp [plainName, overriddenIn]; done) | decide +kernel
set_option maxRecDepth 65536 in
set_option maxHeartbeats 40000000 in
theorem rm2 (l : Launch) (Z : State) (a0 : Array Value) (hw : ∀ d ∈ tables_1, d.before a0 Z = true) (ws : List Jvm.Cond) (p1 : Int32) (h0 : Heap) (n0 : Nat) (Z0 : n0 ≤ h0.size) :
    own_Met l (⟨"com/example/shelfmark/shelfmark/io/TagsAsWrittenCanBeginNamePinLaw", "expected", "(C)Z"⟩ : MethodName) method_3_code 3 (some .boolean) ws ({ frames := 0, cells := 0, slots := 0, locals := 0 } : Room) #[(.int p1)] Z h0 (fun v h L => v = some (.int (own_f2 p1)) ∧ Fr n0 L ∧ h = h0) := by
  refine own_body (plainFor_of_name pn_1) (ef_2 p1) ?_
  intro p e s m below meth c T0 X0 hx hby hml0 hret hlk hnm hown hZ e0
  have hml : c.maxLocals = 3 := hml0
  have N0 := Fr.nil n0
  refine own_step (fun _ k => XS.iloadN X0.here hx rfl (hb hby d2_0) rfl k) ?_
  show own_Ends _ _ _ _ _ _ _ T0 (mkF m 1 #[.val (.int p1), .unset, .unset] [(.int p1)])
  refine own_step (fun _ k => XS.istoreN X0.here hx rfl (hb hby d2_1) rfl (l' := #[.val (.int p1), .val (.int p1), .unset]) rfl k) ?_
  show own_Ends _ _ _ _ _ _ _ T0 (mkF m 2 #[.val (.int p1), .val (.int p1), .unset] [])
  refine own_step (fun _ k => XS.iloadN X0.here hx rfl (hb hby d2_2) rfl k) ?_
  show own_Ends _ _ _ _ _ _ _ T0 (mkF m 3 #[.val (.int p1), .val (.int p1), .unset] [(.int p1)])
  refine own_step (fun _ k => XS.sipush X0.here hx rfl (hb hby d2_3) k) ?_
  show own_Ends _ _ _ _ _ _ _ T0 (mkF m 6 #[.val (.int p1), .val (.int p1), .unset] [(.int (128 : Int32)), (.int p1)])
  by_cases hc1 : p1 < (128 : Int32)
  · refine own_step (fun _ k => XS.icmpYes X0.here hx rfl (pc0 := 6) (pc' := 11) rfl (hb hby d2_6) rfl (tlt hc1).1 (by decide) (by decide) k) ?_
    show own_Ends _ _ _ _ _ _ _ T0 (mkF m 11 #[.val (.int p1), .val (.int p1), .unset] [])
    refine own_step (fun _ k => XS.iloadN X0.here hx rfl (hb hby d2_11) rfl k) ?_
    show own_Ends _ _ _ _ _ _ _ T0 (mkF m 12 #[.val (.int p1), .val (.int p1), .unset] [(.int p1)])
    refine own_step (fun _ k => XS.bipush X0.here hx rfl (hb hby d2_12) k) ?_
    show own_Ends _ _ _ _ _ _ _ T0 (mkF m 14 #[.val (.int p1), .val (.int p1), .unset] [(.int (95 : Int32)), (.int p1)])
    by_cases hc2 : p1 = (95 : Int32)
    · refine own_step (fun _ k => XS.icmpNo X0.here hx rfl (hb hby d2_14) rfl (teq hc2).2 k) ?_
      show own_Ends _ _ _ _ _ _ _ T0 (mkF m 17 #[.val (.int p1), .val (.int p1), .unset] [])
      refine own_step (fun _ k => XS.iconst X0.here hx rfl (hb hby d2_17) k) ?_
      show own_Ends _ _ _ _ _ _ _ T0 (mkF m 18 #[.val (.int p1), .val (.int p1), .unset] [(.int (1 : Int32))])
      exact own_retN X0 hx (t := .boolean) hret (by simp) hlk (hb hby d2_18) rfl ⟨own_leafI ((if_pos hc1).trans (if_pos hc2)), N0, e0⟩ (by decide) (by decide)
    · refine own_step (fun _ k => XS.icmpYes X0.here hx rfl (pc0 := 14) (pc' := 19) rfl (hb hby d2_14) rfl (feq hc2).2 (by decide) (by decide) k) ?_
      show own_Ends _ _ _ _ _ _ _ T0 (mkF m 19 #[.val (.int p1), .val (.int p1), .unset] [])
      refine own_step (fun _ k => XS.iloadN X0.here hx rfl (hb hby d2_19) rfl k) ?_
      show own_Ends _ _ _ _ _ _ _ T0 (mkF m 20 #[.val (.int p1), .val (.int p1), .unset] [(.int p1)])
      refine own_step (fun _ k => XS.bipush X0.here hx rfl (hb hby d2_20) k) ?_
      show own_Ends _ _ _ _ _ _ _ T0 (mkF m 22 #[.val (.int p1), .val (.int p1), .unset] [(.int (32 : Int32)), (.int p1)])
      refine own_step (fun _ k => XS.ior X0.here hx rfl (hb hby d2_22) rfl k) ?_
      show own_Ends _ _ _ _ _ _ _ T0 (mkF m 23 #[.val (.int p1), .val (.int p1), .unset] [(.int (p1 ||| (32 : Int32)))])
      refine own_step (fun _ k => XS.bipush X0.here hx rfl (hb hby d2_23) k) ?_
      show own_Ends _ _ _ _ _ _ _ T0 (mkF m 25 #[.val (.int p1), .val (.int p1), .unset] [(.int (97 : Int32)), (.int (p1 ||| (32 : Int32)))])
      refine own_step (fun _ k => XS.isub X0.here hx rfl (hb hby d2_25) rfl k) ?_
      show own_Ends _ _ _ _ _ _ _ T0 (mkF m 26 #[.val (.int p1), .val (.int p1), .unset] [(.int ((p1 ||| (32 : Int32)) - (97 : Int32)))])
      refine own_step (fun _ k => XS.istoreN X0.here hx rfl (hb hby d2_26) rfl (l' := #[.val (.int p1), .val (.int p1), .val (.int ((p1 ||| (32 : Int32)) - (97 : Int32)))]) rfl k) ?_
      show own_Ends _ _ _ _ _ _ _ T0 (mkF m 27 #[.val (.int p1), .val (.int p1), .val (.int ((p1 ||| (32 : Int32)) - (97 : Int32)))] [])
      refine own_step (fun _ k => XS.iloadN X0.here hx rfl (hb hby d2_27) rfl k) ?_
      show own_Ends _ _ _ _ _ _ _ T0 (mkF m 28 #[.val (.int p1), .val (.int p1), .val (.int ((p1 ||| (32 : Int32)) - (97 : Int32)))] [(.int ((p1 ||| (32 : Int32)) - (97 : Int32)))])
      by_cases hc3 : ((p1 ||| (32 : Int32)) - (97 : Int32)) < (0 : Int32)
      · refine own_step (fun _ k => XS.ifYes X0.here hx rfl (pc0 := 28) (pc' := 41) rfl (hb hby d2_28) rfl ((if0 _ _).trans (tlt hc3).1) (by decide) (by decide) k) ?_
        show own_Ends _ _ _ _ _ _ _ T0 (mkF m 41 #[.val (.int p1), .val (.int p1), .val (.int ((p1 ||| (32 : Int32)) - (97 : Int32)))] [])
        refine own_step (fun _ k => XS.iconst X0.here hx rfl (hb hby d2_41) k) ?_
        show own_Ends _ _ _ _ _ _ _ T0 (mkF m 42 #[.val (.int p1), .val (.int p1), .val (.int ((p1 ||| (32 : Int32)) - (97 : Int32)))] [(.int (0 : Int32))])
        exact own_retN X0 hx (t := .boolean) hret (by simp) hlk (hb hby d2_42) rfl ⟨own_leafI ((if_pos hc1).trans ((if_neg hc2).trans (if_pos hc3))), N0, e0⟩ (by decide) (by decide)
      · refine own_step (fun _ k => XS.ifNo X0.here hx rfl (hb hby d2_28) rfl ((if0 _ _).trans (flt hc3).1) k) ?_
        show own_Ends _ _ _ _ _ _ _ T0 (mkF m 31 #[.val (.int p1), .val (.int p1), .val (.int ((p1 ||| (32 : Int32)) - (97 : Int32)))] [])
        refine own_step (fun _ k => XS.iloadN X0.here hx rfl (hb hby d2_31) rfl k) ?_
        show own_Ends _ _ _ _ _ _ _ T0 (mkF m 32 #[.val (.int p1), .val (.int p1), .val (.int ((p1 ||| (32 : Int32)) - (97 : Int32)))] [(.int ((p1 ||| (32 : Int32)) - (97 : Int32)))])
        refine own_step (fun _ k => XS.bipush X0.here hx rfl (hb hby d2_32) k) ?_
        show own_Ends _ _ _ _ _ _ _ T0 (mkF m 34 #[.val (.int p1), .val (.int p1), .val (.int ((p1 ||| (32 : Int32)) - (97 : Int32)))] [(.int (26 : Int32)), (.int ((p1 ||| (32 : Int32)) - (97 : Int32)))])
        by_cases hc4 : ((p1 ||| (32 : Int32)) - (97 : Int32)) < (26 : Int32)
        · refine own_step (fun _ k => XS.icmpNo X0.here hx rfl (hb hby d2_34) rfl (tlt hc4).2.1 k) ?_
          show own_Ends _ _ _ _ _ _ _ T0 (mkF m 37 #[.val (.int p1), .val (.int p1), .val (.int ((p1 ||| (32 : Int32)) - (97 : Int32)))] [])
          refine own_step (fun _ k => XS.iconst X0.here hx rfl (hb hby d2_37) k) ?_
          show own_Ends _ _ _ _ _ _ _ T0 (mkF m 38 #[.val (.int p1), .val (.int p1), .val (.int ((p1 ||| (32 : Int32)) - (97 : Int32)))] [(.int (1 : Int32))])
          refine own_step (fun _ k => XS.goto X0.here hx rfl (pc0 := 38) (pc' := 42) rfl (hb hby d2_38) (by decide) (by decide) k) ?_
          show own_Ends _ _ _ _ _ _ _ T0 (mkF m 42 #[.val (.int p1), .val (.int p1), .val (.int ((p1 ||| (32 : Int32)) - (97 : Int32)))] [(.int (1 : Int32))])
          exact own_retN X0 hx (t := .boolean) hret (by simp) hlk (hb hby d2_42) rfl ⟨own_leafI ((if_pos hc1).trans ((if_neg hc2).trans ((if_neg hc3).trans (if_pos hc4)))), N0, e0⟩ (by decide) (by decide)
        · refine own_step (fun _ k => XS.icmpYes X0.here hx rfl (pc0 := 34) (pc' := 41) rfl (hb hby d2_34) rfl (flt hc4).2.1 (by decide) (by decide) k) ?_
          show own_Ends _ _ _ _ _ _ _ T0 (mkF m 41 #[.val (.int p1), .val (.int p1), .val (.int ((p1 ||| (32 : Int32)) - (97 : Int32)))] [])
          refine own_step (fun _ k => XS.iconst X0.here hx rfl (hb hby d2_41) k) ?_
          show own_Ends _ _ _ _ _ _ _ T0 (mkF m 42 #[.val (.int p1), .val (.int p1), .val (.int ((p1 ||| (32 : Int32)) - (97 : Int32)))] [(.int (0 : Int32))])
          exact own_retN X0 hx (t := .boolean) hret (by simp) hlk (hb hby d2_42) rfl ⟨own_leafI ((if_pos hc1).trans ((if_neg hc2).trans ((if_neg hc3).trans (if_neg hc4)))), N0, e0⟩ (by decide) (by decide)
  · refine own_step (fun _ k => XS.icmpNo X0.here hx rfl (hb hby d2_6) rfl (flt hc1).1 k) ?_
    show own_Ends _ _ _ _ _ _ _ T0 (mkF m 9 #[.val (.int p1), .val (.int p1), .unset] [])
    refine own_step (fun _ k => XS.iconst X0.here hx rfl (hb hby d2_9) k) ?_
    show own_Ends _ _ _ _ _ _ _ T0 (mkF m 10 #[.val (.int p1), .val (.int p1), .unset] [(.int (1 : Int32))])
    exact own_retN X0 hx (t := .boolean) hret (by simp) hlk (hb hby d2_10) rfl ⟨own_leafI (if_neg hc1), N0, e0⟩ (by decide) (by decide)
theorem ef_0 (p1 : Int32) (m : MethodId) : entryFrame m #[(.int p1)] maxLocals = mkF m 0 #[.val (.int p1), .unset, .unset] [] := by first | (simp [entryFrame, mkF, argsToLocals, Value.category, maxLocals]; done) | rfl
theorem pd_0 : parseMethodDescriptor "(C)Z" = some ⟨[.char], some .boolean⟩ := by decide +kernel
def own_f0 (p1 : Int32) : Int32 := (if (own_f1 (p1.toUInt32.toUInt16.toUInt32.toInt32)) = (own_f2 (p1.toUInt32.toUInt16.toUInt32.toInt32)) then (1 : Int32) else (0 : Int32))
set_option maxRecDepth 65536 in
set_option maxHeartbeats 40000000 in
theorem rm0 (l : Launch) (Z : State) (a0 : Array Value) (hw : ∀ d ∈ tables_1, d.before a0 Z = true) (ws : List Jvm.Cond) (p1 : Int32) (h0 : Heap) (n0 : Nat) (Z0 : n0 ≤ h0.size) :
    own_Met l x code maxLocals ret ws room_1 #[(.int p1)] Z h0 (fun v h L => v = some (.int (own_f0 p1)) ∧ Fr n0 L) := by
  refine own_body (plainFor_of_name pn_1) (ef_0 p1) ?_
  intro p e s m below meth c T0 X0 hx hby hml0 hret hlk hnm hown hZ e0
  have hml : c.maxLocals = 3 := hml0
  have N0 := Fr.nil n0
  refine own_step (fun _ k => XS.iloadN X0.here hx rfl (hb hby at_0) rfl k) ?_
  show own_Ends _ _ _ _ _ _ _ T0 (mkF m 1 #[.val (.int p1), .unset, .unset] [(.int p1)])
  refine own_step (fun _ k => XS.i2c X0.here hx rfl (hb hby at_1) rfl k) ?_
  show own_Ends _ _ _ _ _ _ _ T0 (mkF m 2 #[.val (.int p1), .unset, .unset] [(.int (p1.toUInt32.toUInt16.toUInt32.toInt32))])
  refine own_step (fun _ k => XS.istoreN X0.here hx rfl (hb hby at_2) rfl (l' := #[.val (.int p1), .val (.int (p1.toUInt32.toUInt16.toUInt32.toInt32)), .unset]) rfl k) ?_
  show own_Ends _ _ _ _ _ _ _ T0 (mkF m 3 #[.val (.int p1), .val (.int (p1.toUInt32.toUInt16.toUInt32.toInt32)), .unset] [])
  refine own_step (fun _ k => XS.iloadN X0.here hx rfl (hb hby at_3) rfl k) ?_
  show own_Ends _ _ _ _ _ _ _ T0 (mkF m 4 #[.val (.int p1), .val (.int (p1.toUInt32.toUInt16.toUInt32.toInt32)), .unset] [(.int (p1.toUInt32.toUInt16.toUInt32.toInt32))])
  refine own_callS X0 hx hZ (y := (⟨"com/example/shelfmark/shelfmark/io/TagsAsWritten", "canBeginName", "(C)Z"⟩ : MethodName)) hown (hw _ (List.mem_of_getElem? (i := 0) rfl)) (hw _ (List.mem_of_getElem? (i := 1) rfl)) (hw _ (List.mem_of_getElem? (i := 2) rfl)) (hw _ (List.mem_of_getElem? (i := 3) rfl)) (by decide) (rm1 l Z a0 hw [] (p1.toUInt32.toUInt16.toUInt32.toInt32) h0 n0 Z0) e0 0 (by decide) (by decide) (by decide) (by decide) (g := (mkF m 4 #[.val (.int p1), .val (.int (p1.toUInt32.toUInt16.toUInt32.toInt32)), .unset] [(.int (p1.toUInt32.toUInt16.toUInt32.toInt32))])) rfl (by rw [hml]; rfl) [(.int (p1.toUInt32.toUInt16.toUInt32.toInt32))] [] pd_0 rfl rfl rfl (by show 2 * 0 + _ ≤ _; exact Nat.le_of_eq rfl) (hb hby at_4) ?_
  rintro v1 T1 L1 X1 ⟨rfl, Nq1, e1⟩
  have N1 := Fr.app N0 Nq1
  show own_Ends _ _ _ _ _ _ _ T1 (mkF m 7 #[.val (.int p1), .val (.int (p1.toUInt32.toUInt16.toUInt32.toInt32)), .unset] [(.int (own_f1 (p1.toUInt32.toUInt16.toUInt32.toInt32)))])
  refine own_step (fun _ k => XS.istoreN X1.here hx rfl (hb hby at_7) rfl (l' := #[.val (.int p1), .val (.int (p1.toUInt32.toUInt16.toUInt32.toInt32)), .val (.int (own_f1 (p1.toUInt32.toUInt16.toUInt32.toInt32)))]) rfl k) ?_
  show own_Ends _ _ _ _ _ _ _ T1 (mkF m 8 #[.val (.int p1), .val (.int (p1.toUInt32.toUInt16.toUInt32.toInt32)), .val (.int (own_f1 (p1.toUInt32.toUInt16.toUInt32.toInt32)))] [])
  refine own_step (fun _ k => XS.iloadN X1.here hx rfl (hb hby at_8) rfl k) ?_
  show own_Ends _ _ _ _ _ _ _ T1 (mkF m 9 #[.val (.int p1), .val (.int (p1.toUInt32.toUInt16.toUInt32.toInt32)), .val (.int (own_f1 (p1.toUInt32.toUInt16.toUInt32.toInt32)))] [(.int (own_f1 (p1.toUInt32.toUInt16.toUInt32.toInt32)))])
  refine own_step (fun _ k => XS.iloadN X1.here hx rfl (hb hby at_9) rfl k) ?_
  show own_Ends _ _ _ _ _ _ _ T1 (mkF m 10 #[.val (.int p1), .val (.int (p1.toUInt32.toUInt16.toUInt32.toInt32)), .val (.int (own_f1 (p1.toUInt32.toUInt16.toUInt32.toInt32)))] [(.int (p1.toUInt32.toUInt16.toUInt32.toInt32)), (.int (own_f1 (p1.toUInt32.toUInt16.toUInt32.toInt32)))])
  refine own_callS X1 hx hZ (y := (⟨"com/example/shelfmark/shelfmark/io/TagsAsWrittenCanBeginNamePinLaw", "expected", "(C)Z"⟩ : MethodName)) hown (hw _ (List.mem_of_getElem? (i := 4) rfl)) (hw _ (List.mem_of_getElem? (i := 5) rfl)) (hw _ (List.mem_of_getElem? (i := 6) rfl)) (hw _ (List.mem_of_getElem? (i := 7) rfl)) (by decide) (rm2 l Z a0 hw [] (p1.toUInt32.toUInt16.toUInt32.toInt32) h0 n0 Z0) e1 1 (by decide) (by decide) (by decide) (by decide) (g := (mkF m 10 #[.val (.int p1), .val (.int (p1.toUInt32.toUInt16.toUInt32.toInt32)), .val (.int (own_f1 (p1.toUInt32.toUInt16.toUInt32.toInt32)))] [(.int (p1.toUInt32.toUInt16.toUInt32.toInt32)), (.int (own_f1 (p1.toUInt32.toUInt16.toUInt32.toInt32)))])) rfl (by rw [hml]; rfl) [(.int (p1.toUInt32.toUInt16.toUInt32.toInt32))] [(.int (own_f1 (p1.toUInt32.toUInt16.toUInt32.toInt32)))] pd_0 rfl rfl rfl (by show 2 * 0 + _ ≤ _; exact Nat.le_of_eq rfl) (hb hby at_10) ?_
  rintro v2 T2 L2 X2 ⟨rfl, Nq2, e2⟩
  have N2 := Fr.app N1 Nq2
  show own_Ends _ _ _ _ _ _ _ T2 (mkF m 13 #[.val (.int p1), .val (.int (p1.toUInt32.toUInt16.toUInt32.toInt32)), .val (.int (own_f1 (p1.toUInt32.toUInt16.toUInt32.toInt32)))] [(.int (own_f2 (p1.toUInt32.toUInt16.toUInt32.toInt32))), (.int (own_f1 (p1.toUInt32.toUInt16.toUInt32.toInt32)))])
  by_cases hc3 : (own_f1 (p1.toUInt32.toUInt16.toUInt32.toInt32)) = (own_f2 (p1.toUInt32.toUInt16.toUInt32.toInt32))
  · refine own_step (fun _ k => XS.icmpNo X2.here hx rfl (hb hby at_13) rfl (teq hc3).2 k) ?_
    show own_Ends _ _ _ _ _ _ _ T2 (mkF m 16 #[.val (.int p1), .val (.int (p1.toUInt32.toUInt16.toUInt32.toInt32)), .val (.int (own_f1 (p1.toUInt32.toUInt16.toUInt32.toInt32)))] [])
    refine own_step (fun _ k => XS.iconst X2.here hx rfl (hb hby at_16) k) ?_
    show own_Ends _ _ _ _ _ _ _ T2 (mkF m 17 #[.val (.int p1), .val (.int (p1.toUInt32.toUInt16.toUInt32.toInt32)), .val (.int (own_f1 (p1.toUInt32.toUInt16.toUInt32.toInt32)))] [(.int (1 : Int32))])
    refine own_step (fun _ k => XS.goto X2.here hx rfl (pc0 := 17) (pc' := 21) rfl (hb hby at_17) (by decide) (by decide) k) ?_
    show own_Ends _ _ _ _ _ _ _ T2 (mkF m 21 #[.val (.int p1), .val (.int (p1.toUInt32.toUInt16.toUInt32.toInt32)), .val (.int (own_f1 (p1.toUInt32.toUInt16.toUInt32.toInt32)))] [(.int (1 : Int32))])
    exact own_retN X2 hx (t := .boolean) hret (by simp) hlk (hb hby at_21) rfl ⟨own_leafI (if_pos hc3), N2⟩ (by decide) (by decide)
  · refine own_step (fun _ k => XS.icmpYes X2.here hx rfl (pc0 := 13) (pc' := 20) rfl (hb hby at_13) rfl (feq hc3).2 (by decide) (by decide) k) ?_
    show own_Ends _ _ _ _ _ _ _ T2 (mkF m 20 #[.val (.int p1), .val (.int (p1.toUInt32.toUInt16.toUInt32.toInt32)), .val (.int (own_f1 (p1.toUInt32.toUInt16.toUInt32.toInt32)))] [])
    refine own_step (fun _ k => XS.iconst X2.here hx rfl (hb hby at_20) k) ?_
    show own_Ends _ _ _ _ _ _ _ T2 (mkF m 21 #[.val (.int p1), .val (.int (p1.toUInt32.toUInt16.toUInt32.toInt32)), .val (.int (own_f1 (p1.toUInt32.toUInt16.toUInt32.toInt32)))] [(.int (0 : Int32))])
    exact own_retN X2 hx (t := .boolean) hret (by simp) hlk (hb hby at_21) rfl ⟨own_leafI (if_neg hc3), N2⟩ (by decide) (by decide)
theorem own_small {K : Nat} {x : Int32} (h0 : ¬ x < (0 : Int32)) (h1 : x.toInt < K) : ∃ n : Fin K, x = Int32.ofInt (n.1 : Int) := by
  rw [Int32.lt_iff_toInt_lt] at h0
  have e0 : (0 : Int32).toInt = 0 := rfl
  refine ⟨⟨x.toInt.toNat, by omega⟩, ?_⟩
  rw [← Int32.toInt_inj, Int32.toInt_ofInt]
  have := x.toInt_lt; have := x.le_toInt
  have es : Int32.size = 4294967296 := rfl
  show x.toInt = Int.bmod ((x.toInt.toNat : Nat) : Int) _
  rw [Int.toNat_of_nonneg (by omega), Int.bmod_eq_of_le (by omega) (by omega)]
set_option maxRecDepth 65536 in
theorem own_tab : ∀ n : Fin 128, own_f1 (Int32.ofInt (n.1 : Int)) = own_f2 (Int32.ofInt (n.1 : Int)) := by decide +kernel
theorem own_same (x : Int32) : own_f1 (x.toUInt32.toUInt16.toUInt32.toInt32) = own_f2 (x.toUInt32.toUInt16.toUInt32.toInt32) := by
  have hc := c_i2c x
  generalize x.toUInt32.toUInt16.toUInt32.toInt32 = y at hc ⊢
  by_cases hy : y < (128 : Int32)
  · have hy' := hy
    rw [Int32.lt_iff_toInt_lt] at hy'
    have e1 : (128 : Int32).toInt = 128 := by decide
    have h0 : ¬ y < (0 : Int32) := by rw [Int32.lt_iff_toInt_lt]; have e0 : (0 : Int32).toInt = 0 := rfl; omega
    obtain ⟨n, rfl⟩ := own_small (K := 128) h0 (by omega)
    exact own_tab n
  · simp only [own_f1, own_f2, if_neg hy]
theorem own_law (x : Int32) : own_f0 x = 1 := by
  simp only [own_f0, own_same, if_true]

set_option maxRecDepth 65536 in
set_option maxHeartbeats 40000000 in
theorem comes_1 {Post : Tables → Env → Array Value → State → Outcome → State → Prop} (hpost : ∀ tb e args s v u, (limb_1_1.after args s (.returned v) u = true ∧ limb_1_2.after args s (.returned v) u = true ∧ True) → FrameEnd s (.returned v) u (Jvm.fieldLocs frame_1_writes args s ++ Jvm.arrayLocs frame_1_arrays args s ++ Jvm.staticLocs frame_1_statics s) 0 0 → Post tb e args s (.returned v) u) :
    ArmFor flags0 classFile x code maxLocals ret World_1 tables_1 room_1 Calls_1 rest_1 Pre_1 Post := by
  intro l hfl _ _ p e ha hc hk s m args below hf hA hF happ hP
  obtain ⟨hcalls, hrest, hpre⟩ := hP
  obtain ⟨-, -, -, hnamed, -, -, -, hat⟩ := (Spec.applies_iff hf).mp happ
  obtain ⟨hg, hn⟩ := and_e (Cond.before_iff.mp (show (Jvm.Cond.and given_1 narrow_1).before args s = true from hpre))
  obtain ⟨gc, g0⟩ := and_e hg
  have h0 := g0
  obtain ⟨w0, rfl⟩ : ∃ w0 : Value, args = #[w0] := by
    have hs : args.size = 1 := by simpa [Cond.value, given_1] using gc
    obtain ⟨L⟩ := args
    match L, hs with
    | [w0], _ => exact ⟨w0, rfl⟩
  have hw := fun d (hd : d ∈ tables_1) => atoms_spec (ws := Jvm.Cond.code x code maxLocals ret :: tables_1) hat d (List.mem_cons_of_mem _ hd)
  have hfit : Fit s := fun {y c} hc i hi => by
    obtain ⟨ha, rfl⟩ := Array.getElem?_eq_some_iff.mp hc
    have q := List.all_eq_true.mp ((Array.all_eq_true_iff_forall_mem.mp hF) _ (Array.getElem_mem ha)) i (List.mem_range.mpr hi)
    simpa [Array.getElem?_eq_getElem hi] using q
  obtain ⟨i0, ei0⟩ := is_v h0
  obtain rfl : w0 = (.int i0) := Option.some.inj ei0
  obtain ⟨n, o, h1, h2, h3, _, L, rfl, ⟨rfl, N⟩, hq⟩ := rm0 l s _ hw tables_1 i0 s.heap s.heap.size (Nat.le_refl _) p e ha hc hk s m _ below hf ((Spec.applies_iff_loose hf).mp happ).1 ⟨rfl, State.Warmed39.refl s, rfl⟩ trivial
  refine ⟨n, _, h1, h2, h3, hpost _ _ _ _ _ _ ⟨Cond.after_iff.mpr rfl, Cond.after_iff.mpr (eq_i res_at (Term.int_eval (1)) (congrArg Value.int (own_law i0))), trivial⟩ ⟨hq.1, hq.2.1, (hq.2.2.sift fun y hy => Or.inr (N y hy)).mono (by decide) (by decide)⟩⟩
theorem main_1_1 : Claimed_1_1 := comes_1 fun _ _ _ _ _ _ h hF => ⟨h.1, hF⟩
theorem main_1_2 : Claimed_1_2 := comes_1 fun _ _ _ _ _ _ h hF => ⟨h.2.1, hF⟩
end Jvm.Pilot.@@N@@
namespace Jvm.Pilot.@@N@@
open Jvm Jvm.ClassFile Sem Op Lib Jvm.Free Jvm.Stand Jvm.Pilot.@@N@@.Jvm.D
/-! MADE BY PROGRAM (witnessworld.py) out of the Statement's table words and the real class files: 9 classes; the members and pool entries that the words name. The judged class is class 1, her method 1. -/
namespace start1
open Jvm.ClassFile
def u (s : String) : CpInfo := .utf8 (stringToUtf16 s)
/-- a pool by its gaps: so many unusable entries, then the entry; so many at the end -/
def gap : Nat → List CpInfo → List CpInfo
  | 0, r => r
  | n + 1, r => .unusable :: gap n r
def poolList (es : List (Nat × CpInfo)) (last : Nat) : List CpInfo := es.foldr (fun e r => gap e.1 (e.2 :: r)) (gap last [])
def pool (es : List (Nat × CpInfo)) (last : Nat) : Array CpInfo := ⟨poolList es last⟩
def fileOf (pool : Array CpInfo) (this : Nat) (attrs : Array Attribute := #[]) (ms : Array MethodInfo := #[]) (fl : Nat := 33) (sup : Nat := 0) (ifs : Array Nat := #[]) (fds : Array FieldInfo := #[]) : ClassFile where
  minorVersion := 0
  majorVersion := 65
  constantPool := pool
  accessFlags := fl
  thisClass := this
  superClass := sup
  interfaces := ifs
  fields := fds
  methods := ms
  attributes := attrs
def plain (name : String) (sup : Option ClassId) : Class where
  name := name
  kind := .ordinary
  loader := none
  accessFlags := 33
  super := sup
  interfaces := #[]
  cf := none
  fields := #[]
  methods := #[]
  instanceTypes := #[]
  staticTypes := #[]
  resolved := #[]
  callSites := []
  init := .initialized
  statics := none
  mirror := none

def pool0 : Array CpInfo := pool [(5, u "<init>"), (0, u "()V"), (1, .class_ 10), (1, u "java/lang/Object")] 113

def k0m0 : Method := { name := "<init>", desc := "()V", sig := { parameters := [], returnType := none }, accessFlags := 1, code := none }
/-- java/lang/Object -/
def k0 : Class := { plain "java/lang/Object" none with
  accessFlags := 33
  interfaces := #[]
  cf := some (fileOf pool0 8 #[] #[{ accessFlags := 1, nameIndex := 5, descriptorIndex := 6, attributes := #[] }] 33 0 #[] #[])
  fields := #[]
  methods := #[k0m0]
  instanceTypes := #[]
  staticTypes := #[]
  resolved := Array.replicate 124 none
  statics := none }

def pool1 : Array CpInfo := pool [(2, .class_ 4), (1, u "java/lang/Object"), (0, u "<init>"), (0, u "()V"), (0, .methodref 8 9), (0, .class_ 10), (0, .nameAndType 11 12), (0, u "com/example/shelfmark/shelfmark/io/TagsAsWritten"), (0, u "canBeginName"), (0, u "(C)Z"), (0, .methodref 14 15), (0, .class_ 16), (0, .nameAndType 17 12), (0, u "com/example/shelfmark/shelfmark/io/TagsAsWrittenCanBeginNamePinLaw"), (0, u "expected"), (2, u "law"), (0, u "(I)Z")] 3

def k1m0 : Method := { name := "<init>", desc := "()V", sig := { parameters := [], returnType := none }, accessFlags := 2, code := none }
def k1c1 : Code := { maxStack := 2, maxLocals := 3, code := code, exceptionTable := #[], attributes := #[] }
def k1m1 : Method := { name := "law", desc := "(I)Z", sig := { parameters := [.int], returnType := some .boolean }, accessFlags := 9, code := some k1c1 }
def k1c2 : Code := { maxStack := 2, maxLocals := 3, code := method_3_code, exceptionTable := #[], attributes := #[] }
def k1m2 : Method := { name := "expected", desc := "(C)Z", sig := { parameters := [.char], returnType := some .boolean }, accessFlags := 10, code := some k1c2 }
/-- com/example/shelfmark/shelfmark/io/TagsAsWrittenCanBeginNamePinLaw -/
def k1 : Class := { plain "com/example/shelfmark/shelfmark/io/TagsAsWrittenCanBeginNamePinLaw" (some 0) with
  accessFlags := 49
  interfaces := #[]
  cf := some (fileOf pool1 14 #[] #[{ accessFlags := 2, nameIndex := 5, descriptorIndex := 6, attributes := #[] }, { accessFlags := 9, nameIndex := 20, descriptorIndex := 21, attributes := #[] }, { accessFlags := 10, nameIndex := 17, descriptorIndex := 12, attributes := #[] }] 49 2 #[] #[])
  fields := #[]
  methods := #[k1m0, k1m1, k1m2]
  instanceTypes := #[]
  staticTypes := #[]
  resolved := Array.replicate 25 none
  statics := none }

def pool2 : Array CpInfo := pool [(2, .class_ 4), (1, u "java/lang/Object"), (9, .class_ 16), (1, u "com/example/shelfmark/shelfmark/io/TagsAsWritten"), (0, u "starts"), (0, u "Ljava/util/List;"), (2, u "ends"), (28, u "longest"), (0, u "I"), (3, u "(C)Z"), (13, u "canBeginName"), (0, u "LONGEST_PREFIX")] 13

def k2c0 : Code := { maxStack := 2, maxLocals := 1, code := prog_24_method_5_code, exceptionTable := #[], attributes := #[] }
def k2m0 : Method := { name := "canBeginName", desc := "(C)Z", sig := { parameters := [.char], returnType := some .boolean }, accessFlags := 8, code := some k2c0 }
/-- com/example/shelfmark/shelfmark/io/TagsAsWritten -/
def k2 : Class := { plain "com/example/shelfmark/shelfmark/io/TagsAsWritten" (some 0) with
  accessFlags := 48
  interfaces := #[]
  cf := some (fileOf pool2 14 #[] #[{ accessFlags := 8, nameIndex := 69, descriptorIndex := 55, attributes := #[] }] 48 2 #[] #[{ accessFlags := 26, nameIndex := 70, descriptorIndex := 51, attributes := #[] }, { accessFlags := 18, nameIndex := 17, descriptorIndex := 18, attributes := #[] }, { accessFlags := 18, nameIndex := 21, descriptorIndex := 18, attributes := #[] }, { accessFlags := 18, nameIndex := 50, descriptorIndex := 51, attributes := #[] }])
  fields := #[{ name := "LONGEST_PREFIX", type := .int, accessFlags := 26, slot := 0, constantValue := 0 }, { name := "starts", type := (.object "java/util/List"), accessFlags := 18, slot := 0, constantValue := 0 }, { name := "ends", type := (.object "java/util/List"), accessFlags := 18, slot := 1, constantValue := 0 }, { name := "longest", type := .int, accessFlags := 18, slot := 2, constantValue := 0 }]
  methods := #[k2m0]
  instanceTypes := #[(.object "java/util/List"), (.object "java/util/List"), .int]
  staticTypes := #[.int]
  resolved := Array.replicate 84 none
  statics := none }

def pool3 : Array CpInfo := pool [(1, u "java/lang/Cloneable"), (0, .class_ 1), (0, u "java/lang/Object"), (0, .class_ 3)] 3

/-- java/lang/Cloneable -/
def k3 : Class := { plain "java/lang/Cloneable" (some 0) with
  accessFlags := 1537
  interfaces := #[]
  cf := some (fileOf pool3 2 #[] #[] 1537 4 #[] #[])
  fields := #[]
  methods := #[]
  instanceTypes := #[]
  staticTypes := #[]
  resolved := Array.replicate 8 none
  statics := none }

def pool4 : Array CpInfo := pool [(1, u "java/io/Serializable"), (0, .class_ 1), (0, u "java/lang/Object"), (0, .class_ 3)] 3

/-- java/io/Serializable -/
def k4 : Class := { plain "java/io/Serializable" (some 0) with
  accessFlags := 1537
  interfaces := #[]
  cf := some (fileOf pool4 2 #[] #[] 1537 4 #[] #[])
  fields := #[]
  methods := #[]
  instanceTypes := #[]
  staticTypes := #[]
  resolved := Array.replicate 8 none
  statics := none }

/-- the primitive byte -/
def k5 : Class := { plain "byte" none with kind := .primitive 'B', accessFlags := 0x411 }
/-- [B -/
def k6 : Class := { plain "[B" (some 0) with kind := .array 5 .byte, interfaces := #[3, 4], accessFlags := 1041 }

/-- the primitive int -/
def k7 : Class := { plain "int" none with kind := .primitive 'I', accessFlags := 0x411 }
/-- [I -/
def k8 : Class := { plain "[I" (some 0) with kind := .array 7 .int, interfaces := #[3, 4], accessFlags := 1041 }

def heap : Heap := #[]
def classes : Array Class := #[k0, k1, k2, k3, k4, k5, k6, k7, k8]
def interned : List (Array UInt16 × Addr) := []
def slotsUsed : Nat := 0
def theMethod : MethodId := ⟨1, 1⟩
def args0 : Array Value := #[.int 65]
def aboutOver (below : List Frame) : State where
  vm := { classes := classes, interned := interned.toArray }
  heap := heap
  slotsUsed := slotsUsed
  threads := #[{ frames := .invoking theMethod args0 :: below }]
def below0 : List Frame := [.native { method := ⟨0, 0⟩, args := #[] }]
def about1 : State := aboutOver below0
def p0 : Program := .bare "" "" ""
def e0 : Env := launch0.env 0 0 0
theorem w_frames : about1.frames = Frame.invoking theMethod args0 :: below0 := rfl
set_option maxRecDepth 65536 in
theorem w_args : argsFit about1.vm theMethod args0 = true := by decide +kernel
set_option maxRecDepth 65536 in
theorem w_heap : heapFits about1 = true := by decide +kernel
set_option maxRecDepth 65536 in
theorem w_runnable : about1.curStatus? = some .runnable := by decide +kernel
set_option maxRecDepth 65536 in
theorem w_alone : about1.alone = true := by decide +kernel
set_option maxRecDepth 65536 in
theorem w_named : about1.methodNamed? x = some theMethod := by decide +kernel
set_option maxRecDepth 65536 in
theorem w_hears : about1.hears theMethod below0 = true := by decide +kernel
set_option maxRecDepth 65536 in
theorem w_ripe : about1.ripe theMethod args0 below0 = true := by decide +kernel
theorem w_running : about1.status = .running := rfl
set_option maxRecDepth 65536 in
theorem w_room : about1.hasRoom e0.platform room_1 = true :=
  launch0.hasRoom_least _ room_1 (by decide +kernel) (by decide +kernel) (by decide +kernel) (by decide +kernel) (by decide +kernel) (by decide +kernel)
theorem allAtoms_all (ts : List Jvm.Cond) (a : Array Jvm.Value) (st : Jvm.State) : (allAtoms ts).before a st = ts.all (fun c => c.before a st) := by
  induction ts with
  | nil => rfl
  | cons c t ih =>
    show (Jvm.Cond.and c (allAtoms t)).before a st = _
    rw [Jvm.Cond.before_and, ih, List.all_cons]
def words1 : List Jvm.Cond := Jvm.Cond.code x code maxLocals ret :: tables_1
/-- a 'code' word, met by the world's own term for the bytes: nothing is compared byte by byte -/
theorem code_word {y : MethodName} {bytes : ByteArray} {mx : Nat} {rt : Option FieldType} {a : Array Value} {s : State} {m : MethodId} {meth : Method} {c : Code} (h1 : s.methodNamed? y = some m) (h2 : s.vm.method? m = some meth) (h3 : meth.code = some c) (h4 : c.code = bytes)
    (h5 : (c.maxLocals == mx && c.exceptionTable.isEmpty && decide (c.maxStack ≤ mostOperands) && decide (meth.sig.returnType = rt) && !meth.locks && decide (parseMethodDescriptor y.desc = some meth.sig)) = true) : (Jvm.Cond.code y bytes mx rt).before a s = true := by
  simp only [Bool.and_eq_true, beq_iff_eq, Bool.not_eq_true', decide_eq_true_eq] at h5
  obtain ⟨⟨⟨⟨⟨g1, g2⟩, g3⟩, g4⟩, g5⟩, g6⟩ := h5
  simp [Cond.before, Cond.holds, Cond.value, h1, h2, h3, h4, g1, g2, g3, g4, g5, g6]
def isCode : Jvm.Cond → Bool
  | .code _ _ _ _ => true
  | _ => false
theorem all_split {L : List Jvm.Cond} {P : Jvm.Cond → Bool} (h1 : L.all (fun c => isCode c || P c) = true) (h2 : ∀ c ∈ L.filter isCode, P c = true) : L.all P = true := by
  refine List.all_eq_true.mpr fun c hc => ?_
  have h := List.all_eq_true.mp h1 c hc
  rcases Bool.eq_false_or_eq_true (isCode c) with hi | hi
  · exact h2 c (List.mem_filter.mpr ⟨hc, hi⟩)
  · simpa [hi] using h
set_option maxRecDepth 65536 in
theorem w_c0 : (Jvm.Cond.code x code maxLocals ret).before args0 about1 = true := code_word (m := ⟨1, 1⟩) (meth := k1m1) (c := k1c1) (by decide +kernel) rfl rfl rfl (by decide +kernel)
set_option maxRecDepth 65536 in
theorem w_c1 : (Jvm.Cond.code ({ cls := "com/example/shelfmark/shelfmark/io/TagsAsWritten", name := "canBeginName", desc := "(C)Z" } : Jvm.MethodName) prog_24_method_5_code (1 : Nat) (Option.some Jvm.ClassFile.FieldType.boolean)).before args0 about1 = true := code_word (m := ⟨2, 0⟩) (meth := k2m0) (c := k2c0) (by decide +kernel) rfl rfl rfl (by decide +kernel)
set_option maxRecDepth 65536 in
theorem w_c2 : (Jvm.Cond.code ({ cls := "com/example/shelfmark/shelfmark/io/TagsAsWrittenCanBeginNamePinLaw", name := "expected", desc := "(C)Z" } : Jvm.MethodName) method_3_code (3 : Nat) (Option.some Jvm.ClassFile.FieldType.boolean)).before args0 about1 = true := code_word (m := ⟨1, 2⟩) (meth := k1m2) (c := k1c2) (by decide +kernel) rfl rfl rfl (by decide +kernel)
def codes1 : List Jvm.Cond := [Jvm.Cond.code x code maxLocals ret, Jvm.Cond.code ({ cls := "com/example/shelfmark/shelfmark/io/TagsAsWritten", name := "canBeginName", desc := "(C)Z" } : Jvm.MethodName) prog_24_method_5_code (1 : Nat) (Option.some Jvm.ClassFile.FieldType.boolean), Jvm.Cond.code ({ cls := "com/example/shelfmark/shelfmark/io/TagsAsWrittenCanBeginNamePinLaw", name := "expected", desc := "(C)Z" } : Jvm.MethodName) method_3_code (3 : Nat) (Option.some Jvm.ClassFile.FieldType.boolean)]
set_option maxRecDepth 65536 in
theorem codes_eq : words1.filter isCode = codes1 := rfl
theorem w_codes : ∀ c ∈ words1.filter isCode, c.before args0 about1 = true := by
  rw [codes_eq]
  intro c hc
  simp only [codes1, List.mem_cons, List.not_mem_nil, or_false] at hc
  rcases hc with rfl | rfl | rfl
  · exact w_c0
  · exact w_c1
  · exact w_c2
set_option maxRecDepth 65536 in
theorem w_t1 : words1.all (fun c => isCode c || c.before args0 about1) = true := by decide +kernel
theorem w_tables : (allAtoms (Jvm.Cond.code x code maxLocals ret :: tables_1)).before args0 about1 = true := by
  rw [allAtoms_all]
  show words1.all (fun c => c.before args0 about1) = true
  refine all_split ?_ w_codes
  rw [w_t1]
set_option maxRecDepth 65536 in
theorem w_case : (Jvm.Cond.and given_1 narrow_1).before args0 about1 = true := by decide +kernel
theorem w_applies : (headSpec (Jvm.Cond.code x code maxLocals ret :: tables_1) room_1).applies x e0.platform about1 = true :=
  (Spec.applies_iff w_frames).mpr ⟨w_running, w_runnable, w_alone, w_named, w_hears, w_ripe, w_room, w_tables⟩
theorem atStart : AtStart classFile x code maxLocals ret World_1 tables_1 room_1 Calls_1 rest_1 Pre_1 launch0 p0 e0 about1 theMethod args0 below0 :=
  ⟨lists_1, trivial, launch0.admits_env _ _ _, launch0.least_env, fairChoices_fair.cas, fairChoices_fair.clock, w_frames, w_args, w_heap, w_applies, trivial, trivial, w_case⟩
end start1
theorem witness_1 : WitnessClaimed_1 := ⟨start1.p0, start1.e0, start1.about1, start1.theMethod, start1.args0, start1.below0, start1.atStart⟩
end Jvm.Pilot.@@N@@
