import JvmDerived
import JvmDerived.Pilot.@@N@@Statement
import JvmDerived.Pilot.@@N@@Code
set_option linter.unusedVariables false
set_option linter.unusedSimpArgs false
namespace Jvm.RoadKit
open Sem ClassFile Op Lib Jvm.Stand Jvm.Free Jvm.LawKit
section Own
variable {p : Program} {l : Launch} {e : Env} {R : Room} {s : State} {m : MethodId} {args : Array Value} {below : List Frame} {meth : Method} {c : Code} {T : State} {locs : List Loc} {cells slots : Nat} {Z : State} {a0 : Array Value} {h : Heap}
/-- from T, with g on top, this invocation comes to its return and Q holds of what it leaves -/
def own_Ends (p : Program) (e : Env) (below : List Frame) (s : State) (Q : Option Value → Heap → List Loc → Prop) (k n : Nat) (T : State) (g : JFrame) : Prop :=
  ∃ s₂ o, Steps p.tables e below (T.setTop g) s₂ ∧ s₂.status = .running ∧ Ended s₂ below o ∧ ∃ v L, o = .returned v ∧ Q v s₂.heap L ∧ FrameEnd s o s₂ L k n
theorem own_step {Q : Option Value → Heap → List Loc → Prop} {k n : Nat} {T' : State} {g g' : JFrame} (h : ∀ t, Steps p.tables e below (T'.setTop g') t → Steps p.tables e below (T.setTop g) t) (H : own_Ends p e below s Q k n T' g') : own_Ends p e below s Q k n T g := by
  obtain ⟨s₂, o, h1, r⟩ := H
  exact ⟨s₂, o, h _ h1, r⟩
theorem own_ret (X : Stand p l e R s m args below meth c T locs cells slots) {v : Option Value} (hv : meth.sig.returnType = none → v = none) (hlk : meth.locks = false) {g : JFrame} {Q : Option Value → Heap → List Loc → Prop} {k n : Nat}
    (st : ∀ fs, (∀ (f : JFrame) (acts : List Action), f.method = m → f.locked = none → f.entered = [] → (doReturn e (T.setTop f) acts v).1 = T.setFrames fs) → Steps p.tables e below (T.setTop g) (T.setFrames fs))
    (hQ : Q v T.heap locs) (hk : cells ≤ k) (hn : slots ≤ n) : own_Ends p e below s Q k n T g := by
  obtain ⟨fs, hr, hrun, hended, hW, hsame⟩ := X.leave (v := v) hv hlk
  exact ⟨_, _, st fs hr, hrun, hended, v, locs, rfl, hQ, ⟨_, rfl⟩, hW, hsame.mono hk hn⟩
theorem own_retI (X : Stand p l e R s m args below meth c T locs cells slots) (hx : p.tables.exec = Jvm.exec) (hret : meth.sig.returnType = some .int) (hlk : meth.locks = false) {pc : Nat} {Ls : Array Slot} {z : Int32} {rest : List Value} (hd : decode c.code pc = .ok (.ireturn, 1)) {Q : Option Value → Heap → List Loc → Prop} {k n : Nat}
    (hQ : Q (some (.int z)) T.heap locs) (hk : cells ≤ k) (hn : slots ≤ n) : own_Ends p e below s Q k n T (mkF m pc Ls (.int z :: rest)) :=
  own_ret X (fun q => by rw [hret] at q; cases q) hlk (fun fs hr => retOut X hx hret rfl (Or.inl ⟨rfl, Or.inl rfl, z, rfl⟩) hd hr) hQ hk hn
theorem own_retN (X : Stand p l e R s m args below meth c T locs cells slots) (hx : p.tables.exec = Jvm.exec) {t : FieldType} (hret : meth.sig.returnType = some t) (ht : t = .boolean ∨ t = .byte ∨ t = .char ∨ t = .short) (hlk : meth.locks = false) {pc : Nat} {Ls : Array Slot} {z v : Int32} {rest : List Value} (hd : decode c.code pc = .ok (.ireturn, 1)) {Q : Option Value → Heap → List Loc → Prop} {k n : Nat}
    (hv : nar t z = v) (hQ : Q (some (.int v)) T.heap locs) (hk : cells ≤ k) (hn : slots ≤ n) : own_Ends p e below s Q k n T (mkF m pc Ls (.int z :: rest)) :=
  own_ret X (v := some (.int v)) (fun q => by rw [hret] at q; cases q) hlk (fun fs hr => retN X hx hret ht hd (by rw [hv]; exact hr)) hQ hk hn
theorem own_retL (X : Stand p l e R s m args below meth c T locs cells slots) (hx : p.tables.exec = Jvm.exec) (hret : meth.sig.returnType = some .long) (hlk : meth.locks = false) {pc : Nat} {Ls : Array Slot} {z : Int64} {rest : List Value} (hd : decode c.code pc = .ok (.lreturn, 1)) {Q : Option Value → Heap → List Loc → Prop} {k n : Nat}
    (hQ : Q (some (.long z)) T.heap locs) (hk : cells ≤ k) (hn : slots ≤ n) : own_Ends p e below s Q k n T (mkF m pc Ls (.long z :: rest)) :=
  own_ret X (fun q => by rw [hret] at q; cases q) hlk (fun fs hr => retOut X hx hret rfl (Or.inr (Or.inl ⟨rfl, rfl, z, rfl⟩)) hd hr) hQ hk hn
theorem own_retA (X : Stand p l e R s m args below meth c T locs cells slots) (hx : p.tables.exec = Jvm.exec) {t : FieldType} (hret : meth.sig.returnType = some t) (ht : t.isReference = true) (hlk : meth.locks = false) {pc : Nat} {Ls : Array Slot} {z : Value} {rest : List Value} (hz : z.isRef = true) (hn0 : narrow t z = z) (hd : decode c.code pc = .ok (.areturn, 1)) {Q : Option Value → Heap → List Loc → Prop} {k n : Nat}
    (hQ : Q (some z) T.heap locs) (hk : cells ≤ k) (hn : slots ≤ n) : own_Ends p e below s Q k n T (mkF m pc Ls (z :: rest)) :=
  own_ret X (fun q => by rw [hret] at q; cases q) hlk (fun fs hr => retOut X hx hret hn0 (Or.inr (Or.inr (Or.inr (Or.inr ⟨rfl, ht, hz⟩)))) hd hr) hQ hk hn
theorem own_retV (X : Stand p l e R s m args below meth c T locs cells slots) (hx : p.tables.exec = Jvm.exec) (hret : meth.sig.returnType = none) (hlk : meth.locks = false) {pc : Nat} {Ls : Array Slot} (hd : decode c.code pc = .ok (.return_, 1)) {Q : Option Value → Heap → List Loc → Prop} {k n : Nat}
    (hQ : Q none T.heap locs) (hk : cells ≤ k) (hn : slots ≤ n) : own_Ends p e below s Q k n T (mkF m pc Ls []) :=
  own_ret X (fun _ => rfl) hlk (fun fs hr => X.returnOut hx hret hd hr) hQ hk hn
/-- a contract: called with as' over the heap h0, the method comes back and Q holds -/
def own_Met (l : Launch) (y : MethodName) (bytes : ByteArray) (maxL : Nat) (ret : Option FieldType) (ws : List Jvm.Cond) (rm : Room) (as' : Array Value) (Z : State) (h0 : Heap) (Q : Option Value → Heap → List Loc → Prop) : Prop :=
  MetFree l y (head1 (Jvm.Cond.code y bytes maxL ret :: ws) rm) (fun a U => a = as' ∧ Z.Warmed39 U.vm ∧ U.heap = h0) (fun _ _ _ _ _ => True) (fun _ U o U' => ∃ v L, o = .returned v ∧ Q v U'.heap L ∧ FrameEnd U o U' L rm.cells rm.slots)
theorem own_body {y : MethodName} {bytes : ByteArray} {maxL : Nat} {ret : Option FieldType} {ws : List Jvm.Cond} {rm : Room} {as' : Array Value} {h0 : Heap} {Q : Option Value → Heap → List Loc → Prop} (hy : plainFor y = true) {g0 : MethodId → JFrame} (ef : ∀ m, entryFrame m as' maxL = g0 m)
    (body : ∀ (p : Program) (e : Env) (s : State) (m : MethodId) (below : List Frame) (meth : Method) (c : Code) (T : State), Stand p l e rm s m as' below meth c T [] 0 0 → p.tables.exec = Jvm.exec → c.code = bytes → c.maxLocals = maxL → meth.sig.returnType = ret → meth.locks = false → meth.name = y.name → s.vm.findClass y.cls = some m.cls → Z.Warmed39 s.vm → T.heap = h0 → own_Ends p e below s Q rm.cells rm.slots T (g0 m)) :
    own_Met l y bytes maxL ret ws rm as' Z h0 Q := by
  refine MetFree.of_bodySF hy hisR ?_
  intro p e s m args below meth c s₁ Bd hml hP hK
  obtain ⟨ha, hZ, hh⟩ := hP
  subst ha
  have q := body p e s m below meth c s₁ (Stand.of_body Bd) Bd.exec Bd.bytes hml Bd.returns Bd.notSynchronized (name_of_methodNamed Bd.named Bd.method).1 (findClass_of_methodNamed Bd.named) hZ (by rw [← hh, Bd.state]; rfl)
  rw [← ef m] at q
  exact q
theorem own_callS (X : Stand p l e R s m args below meth c T locs cells slots) (hx : p.tables.exec = Jvm.exec) (hZ : Z.Warmed39 s.vm) {own : String} {index : Nat} {y : MethodName} {bytes : ByteArray} {maxL : Nat} {ret : Option FieldType}
    (hown : s.vm.findClass own = some m.cls) (wl : (Jvm.Cond.methodLink own index y).before a0 Z = true) (wst : (Jvm.Cond.static y).before a0 Z = true) (wi : (Jvm.Cond.initialized y.cls).before a0 Z = true) (wc : (Jvm.Cond.code y bytes maxL ret).before a0 Z = true)
    (hy : y.cls ≠ "java/lang/invoke/MethodHandle" ∧ y.cls ≠ "java/lang/invoke/VarHandle") {rm : Room} {as' : Array Value} {Qc : Option Value → Heap → List Loc → Prop} (hM : own_Met l y bytes maxL ret [] rm as' Z h Qc) (eT : T.heap = h) (W : Nat)
    (hf : rm.frames + 1 ≤ R.frames) (hlo : W + (maxL + 11) + rm.locals ≤ R.locals) (hcl : cells + rm.cells ≤ R.cells) (hsl : slots + rm.slots ≤ R.slots)
    {g : JFrame} (hg : g.method = m) (hsize : g.locals.size = c.maxLocals) (argsL rest : List Value) {ps : List FieldType} {r : Option FieldType} (hpd : parseMethodDescriptor y.desc = some ⟨ps, r⟩) (hlen : argsL.length = ps.length) (has : argsL.toArray = as')
    (hstack : g.stack = argsL.reverse ++ rest) (hW : 2 * g.monitorRoom + (rest.map fun v => v.category).sum ≤ W) (hdg : decode c.code g.pc = .ok (.invokestatic index, 3)) {Q : Option Value → Heap → List Loc → Prop} {k n : Nat}
    (cont : ∀ v T' L, Stand p l e R s m args below meth c T' (locs ++ L) (cells + rm.cells) (slots + rm.slots) → Qc v T'.heap L → own_Ends p e below s Q k n T' { g with pc := g.pc + 3, stack := v.toList ++ rest }) : own_Ends p e below s Q k n T g := by
  obtain ⟨v, _, ⟨T2, L2, k2, n2⟩, -, X2, ⟨Lc, hQ, l2, y2, z2⟩, st⟩ := Jvm.LawKit.callS X hx (y := y) hown (mvT hZ wl) (mvT hZ wst) (mvT hZ wi) (mvT hZ wc) hy (backOf (W := W) hM hZ wc wi hf hlo) hg hsize (argsL := argsL) (rest := rest) (lenOf hpd hlen) hstack hW hdg (fun _ _ => ⟨has, eT, hcl, hsl⟩)
  dsimp only [Pt.U, Pt.locs, Pt.cells, Pt.slots] at X2 l2 y2 z2 st hQ
  subst l2 y2 z2
  exact own_step st (cont v T2 Lc X2 hQ)
theorem own_callV (X : Stand p l e R s m args below meth c T locs cells slots) (hx : p.tables.exec = Jvm.exec) (hZ : Z.Warmed39 s.vm) {own C : String} {index : Nat} {y z : MethodName} {bytes : ByteArray} {maxL : Nat} {ret : Option FieldType}
    (hown : s.vm.findClass own = some m.cls) (wl : (Jvm.Cond.methodLink own index y).before a0 Z = true) (wd : (Jvm.Cond.declares y).before a0 Z = true) (wf : (Jvm.Cond.selects y.cls y y).before a0 Z = true) (ws : (Jvm.Cond.selects C y z).before a0 Z = true) (wm : (Jvm.Cond.instanceMethod z).before a0 Z = true) (wi : (Jvm.Cond.initialized z.cls).before a0 Z = true) (wc : (Jvm.Cond.code z bytes maxL ret).before a0 Z = true)
    (hy : y.cls ≠ "java/lang/invoke/MethodHandle" ∧ y.cls ≠ "java/lang/invoke/VarHandle") {rm : Room} {as' : Array Value} {Qc : Option Value → Heap → List Loc → Prop} (hM : own_Met l z bytes maxL ret [] rm as' Z h Qc) (eT : T.heap = h) {b : Addr} (hE : Exa Z h b C) (W : Nat)
    (hf : rm.frames + 1 ≤ R.frames) (hlo : W + (maxL + 11) + rm.locals ≤ R.locals) (hcl : cells + rm.cells ≤ R.cells) (hsl : slots + rm.slots ≤ R.slots)
    {g : JFrame} (hg : g.method = m) (hsize : g.locals.size = c.maxLocals) (argsL rest : List Value) {ps : List FieldType} {r : Option FieldType} (hpd : parseMethodDescriptor y.desc = some ⟨ps, r⟩) (hlen : argsL.length = ps.length) (has : (Value.ref b :: argsL).toArray = as')
    (hstack : g.stack = argsL.reverse ++ .ref b :: rest) (hW : 2 * g.monitorRoom + (rest.map fun v => v.category).sum ≤ W) (hdg : decode c.code g.pc = .ok (.invokevirtual index, 3)) {Q : Option Value → Heap → List Loc → Prop} {k n : Nat}
    (cont : ∀ v T' L, Stand p l e R s m args below meth c T' (locs ++ L) (cells + rm.cells) (slots + rm.slots) → Qc v T'.heap L → own_Ends p e below s Q k n T' { g with pc := g.pc + 3, stack := v.toList ++ rest }) : own_Ends p e below s Q k n T g := by
  obtain ⟨cq, kq, q1, q2, q3⟩ := isOf hZ eT hE
  obtain ⟨v, _, ⟨T2, L2, k2, n2⟩, -, X2, ⟨Lc, hQ, l2, y2, z2⟩, st⟩ := X.virtualBack hx (y := y) (z := z) hown (mvT hZ wl) (mvT hZ wd) (notFace_of_selects (args := #[]) (mvT hZ wf)) (mvT hZ ws) (mvT hZ wm) hy (backOf (W := W) hM hZ wc wi hf hlo) q1 q3 hg hsize (Steps.refl _) (argsL := argsL) (rest := rest) (lenOf hpd hlen) hstack hW hdg (fun _ _ => ⟨has, eT, hcl, hsl⟩)
  dsimp only [Pt.U, Pt.locs, Pt.cells, Pt.slots] at X2 l2 y2 z2 st hQ
  subst l2 y2 z2
  exact own_step (fun _ k => st.trans k) (cont v T2 Lc X2 hQ)
theorem own_callC (X : Stand p l e R s m args below meth c T locs cells slots) (hx : p.tables.exec = Jvm.exec) (hZ : Z.Warmed39 s.vm) {own : String} {index : Nat} {y : MethodName} {bytes : ByteArray} {maxL : Nat} (hy1 : y.name = "<init>")
    (hown : s.vm.findClass own = some m.cls) (wl : (Jvm.Cond.methodLink own index y).before a0 Z = true) (wm : (Jvm.Cond.instanceMethod y).before a0 Z = true) (wi : (Jvm.Cond.initialized y.cls).before a0 Z = true) (wc : (Jvm.Cond.code y bytes maxL none).before a0 Z = true)
    (hy : y.cls ≠ "java/lang/invoke/MethodHandle" ∧ y.cls ≠ "java/lang/invoke/VarHandle") {rm : Room} {as' : Array Value} {Qc : Option Value → Heap → List Loc → Prop} (hM : own_Met l y bytes maxL none [] rm as' Z h Qc) (eT : T.heap = h) {b : Addr} (W : Nat)
    (hf : rm.frames + 1 ≤ R.frames) (hlo : W + (maxL + 11) + rm.locals ≤ R.locals) (hcl : cells + rm.cells ≤ R.cells) (hsl : slots + rm.slots ≤ R.slots)
    {g : JFrame} (hg : g.method = m) (hsize : g.locals.size = c.maxLocals) (argsL rest : List Value) {ps : List FieldType} {r : Option FieldType} (hpd : parseMethodDescriptor y.desc = some ⟨ps, r⟩) (hlen : argsL.length = ps.length) (has : (Value.ref b :: argsL).toArray = as')
    (hstack : g.stack = argsL.reverse ++ .ref b :: rest) (hW : 2 * g.monitorRoom + (rest.map fun v => v.category).sum ≤ W) (hdg : decode c.code g.pc = .ok (.invokespecial index, 3)) {Q : Option Value → Heap → List Loc → Prop} {k n : Nat}
    (cont : ∀ v T' L, Stand p l e R s m args below meth c T' (locs ++ L) (cells + rm.cells) (slots + rm.slots) → Qc v T'.heap L → own_Ends p e below s Q k n T' { g with pc := g.pc + 3, stack := v.toList ++ rest }) : own_Ends p e below s Q k n T g := by
  obtain ⟨v, _, ⟨T2, L2, k2, n2⟩, -, X2, ⟨Lc, hQ, l2, y2, z2⟩, st⟩ := X.specialBack hx (y := y) hy1 hown (mvT hZ wl) (mvT hZ wm) (mvT hZ wc) hy (backOf (W := W) hM hZ wc wi hf hlo) hg hsize (Steps.refl _) (a := b) (argsL := argsL) (rest := rest) (lenOf hpd hlen) hstack hW hdg (fun _ _ => ⟨has, eT, hcl, hsl⟩)
  dsimp only [Pt.U, Pt.locs, Pt.cells, Pt.slots] at X2 l2 y2 z2 st hQ
  subst l2 y2 z2
  exact own_step (fun _ k => st.trans k) (cont v T2 Lc X2 hQ)
/-! arrays by their lists -/
variable {a b : Addr} {kA : ClassId} {ty : FieldType} {z : Int32} {vs : List Value} {dv : Value}
theorem own_newA (X : Stand p l e R s m args below meth c T locs cells slots) (hx : p.tables.exec = Jvm.exec) (hZ : Z.Warmed39 s.vm) {aty : ArrayType} (w : (Jvm.Cond.arrayClass (newarray.typeOf aty)).before a0 Z = true) (eT : T.heap = h) {g : JFrame} (hg : g.method = m) (hd : decode c.code g.pc = .ok (.newarray aty, 2)) {n : Int32} {rest : List Value} (hs : g.stack = .int n :: rest)
    (hn : ¬ n < 0) {cap : Nat} (hcap : n.toNatClampNeg ≤ cap) (hb : cap * 8 ≤ 536870912) (hc : cells + 1 ≤ R.cells) (hl : slots + cap ≤ R.slots) :
    ∃ T' h' cA b, b = h.size ∧ Stand p l e R s m args below meth c T' locs (cells + 1) (slots + cap) ∧ T'.heap = h' ∧ Ext h h' ∧ Arv Z h' b cA (newarray.typeOf aty) n (List.replicate cap (defaultValue (newarray.typeOf aty))) (defaultValue (newarray.typeOf aty)) ∧
      ∀ target, Steps p.tables e below (T'.setTop { g with pc := g.pc + 2, stack := .ref b :: rest }) target → Steps p.tables e below (T.setTop g) target := by
  obtain ⟨T', h', cA, X', e', E, A, st⟩ := newP X hx hZ w eT hg hd hs hn hcap hb hc hl
  exact ⟨T', h', cA, _, rfl, X', e', E, (Arv.new A hn).pad (pad_rep [] _ cap), st⟩
theorem own_stB (X : Stand p l e R s m args below meth c T locs cells slots) (hx : p.tables.exec = Jvm.exec) (hZ : Z.Warmed39 s.vm) (eT : T.heap = h) (V : Arv Z h a kA .byte z vs dv) {j x : Int32} (hj : ¬ j < 0 ∧ j < z) (i : Nat) (hi : j.toNatClampNeg = i) (hl : i < vs.length) {g : JFrame} (hg : g.method = m) {rest : List Value} (hs : g.stack = .int x :: .int j :: .ref a :: rest) (hd : decode c.code g.pc = .ok (.bastore, 1)) :
    ∃ T' h' L, Stand p l e R s m args below meth c T' (locs ++ [⟨a, L⟩]) cells slots ∧ T'.heap = h' ∧ Wr h h' a L (.int x.toInt8.toInt32) ∧ Arv Z h' a kA .byte z (vs.set i (.int x.toInt8.toInt32)) dv ∧ ∀ target, Steps p.tables e below (T'.setTop { g with pc := g.pc + 1, stack := rest }) target → Steps p.tables e below (T.setTop g) target := by
  obtain ⟨cl, Ar, q, S, N, H, G⟩ := V
  obtain ⟨T', h', X', e', W, st⟩ := stB X hx hZ eT Ar (inb_of S hj) hg hs hd
  exact ⟨T', h', _, X', e', W, Arv.set Ar q S N H G (fits_nar_byte _) W i hi hl, st⟩
theorem own_stZ (X : Stand p l e R s m args below meth c T locs cells slots) (hx : p.tables.exec = Jvm.exec) (hZ : Z.Warmed39 s.vm) (eT : T.heap = h) (V : Arv Z h a kA .boolean z vs dv) {j x : Int32} (hj : ¬ j < 0 ∧ j < z) (i : Nat) (hi : j.toNatClampNeg = i) (hl : i < vs.length) {g : JFrame} (hg : g.method = m) {rest : List Value} (hs : g.stack = .int x :: .int j :: .ref a :: rest) (hd : decode c.code g.pc = .ok (.bastore, 1)) :
    ∃ T' h' L, Stand p l e R s m args below meth c T' (locs ++ [⟨a, L⟩]) cells slots ∧ T'.heap = h' ∧ Wr h h' a L (.int (nar .boolean x)) ∧ Arv Z h' a kA .boolean z (vs.set i (.int (nar .boolean x))) dv ∧ ∀ target, Steps p.tables e below (T'.setTop { g with pc := g.pc + 1, stack := rest }) target → Steps p.tables e below (T.setTop g) target := by
  obtain ⟨cl, Ar, q, S, N, H, G⟩ := V
  obtain ⟨T', h', X', e', W, st⟩ := stZ X hx hZ eT Ar (inb_of S hj) hg hs hd
  exact ⟨T', h', _, X', e', W, Arv.set Ar q S N H G (fits_nar_bool _) W i hi hl, st⟩
theorem own_stC (X : Stand p l e R s m args below meth c T locs cells slots) (hx : p.tables.exec = Jvm.exec) (hZ : Z.Warmed39 s.vm) (eT : T.heap = h) (V : Arv Z h a kA .char z vs dv) {j x : Int32} (hj : ¬ j < 0 ∧ j < z) (i : Nat) (hi : j.toNatClampNeg = i) (hl : i < vs.length) {g : JFrame} (hg : g.method = m) {rest : List Value} (hs : g.stack = .int x :: .int j :: .ref a :: rest) (hd : decode c.code g.pc = .ok (.castore, 1)) :
    ∃ T' h' L, Stand p l e R s m args below meth c T' (locs ++ [⟨a, L⟩]) cells slots ∧ T'.heap = h' ∧ Wr h h' a L (.int (nar .char x)) ∧ Arv Z h' a kA .char z (vs.set i (.int (nar .char x))) dv ∧ ∀ target, Steps p.tables e below (T'.setTop { g with pc := g.pc + 1, stack := rest }) target → Steps p.tables e below (T.setTop g) target := by
  obtain ⟨cl, Ar, q, S, N, H, G⟩ := V
  obtain ⟨T', h', X', e', W, st⟩ := stC X hx hZ eT Ar (inb_of S hj) hg hs hd
  exact ⟨T', h', _, X', e', W, Arv.set Ar q S N H G (fits_nar_char _) W i hi hl, st⟩
theorem own_stI (X : Stand p l e R s m args below meth c T locs cells slots) (hx : p.tables.exec = Jvm.exec) (hZ : Z.Warmed39 s.vm) (eT : T.heap = h) (V : Arv Z h a kA .int z vs dv) {j x : Int32} (hj : ¬ j < 0 ∧ j < z) (i : Nat) (hi : j.toNatClampNeg = i) (hl : i < vs.length) {g : JFrame} (hg : g.method = m) {rest : List Value} (hs : g.stack = .int x :: .int j :: .ref a :: rest) (hd : decode c.code g.pc = .ok (.iastore, 1)) :
    ∃ T' h' L, Stand p l e R s m args below meth c T' (locs ++ [⟨a, L⟩]) cells slots ∧ T'.heap = h' ∧ Wr h h' a L (.int x) ∧ Arv Z h' a kA .int z (vs.set i (.int x)) dv ∧ ∀ target, Steps p.tables e below (T'.setTop { g with pc := g.pc + 1, stack := rest }) target → Steps p.tables e below (T.setTop g) target := by
  obtain ⟨cl, Ar, q, S, N, H, G⟩ := V
  obtain ⟨T', h', X', e', W, st⟩ := stI X hx hZ eT Ar (inb_of S hj) hg hs hd
  exact ⟨T', h', _, X', e', W, Arv.set Ar q S N H G rfl W i hi hl, st⟩
theorem own_stJ (X : Stand p l e R s m args below meth c T locs cells slots) (hx : p.tables.exec = Jvm.exec) (hZ : Z.Warmed39 s.vm) (eT : T.heap = h) (V : Arv Z h a kA .long z vs dv) {j : Int32} {x : Int64} (hj : ¬ j < 0 ∧ j < z) (i : Nat) (hi : j.toNatClampNeg = i) (hl : i < vs.length) {g : JFrame} (hg : g.method = m) {rest : List Value} (hs : g.stack = .long x :: .int j :: .ref a :: rest) (hd : decode c.code g.pc = .ok (.lastore, 1)) :
    ∃ T' h' L, Stand p l e R s m args below meth c T' (locs ++ [⟨a, L⟩]) cells slots ∧ T'.heap = h' ∧ Wr h h' a L (.long x) ∧ Arv Z h' a kA .long z (vs.set i (.long x)) dv ∧ ∀ target, Steps p.tables e below (T'.setTop { g with pc := g.pc + 1, stack := rest }) target → Steps p.tables e below (T.setTop g) target := by
  obtain ⟨cl, Ar, q, S, N, H, G⟩ := V
  obtain ⟨T', h', X', e', W, st⟩ := stJ X hx hZ eT Ar (inb_of S hj) hg hs hd
  exact ⟨T', h', _, X', e', W, Arv.set Ar q S N H G rfl W i hi hl, st⟩
theorem own_ldB (X : Stand p l e R s m args below meth c T locs cells slots) (hx : p.tables.exec = Jvm.exec) (hZ : Z.Warmed39 s.vm) (eT : T.heap = h) (V : Arv Z h a kA .byte z vs dv) {j : Int32} {v : Value} (hj : ¬ j < 0 ∧ j < z) (hv : vs.getD j.toNatClampNeg dv = v) {g : JFrame} (hg : g.method = m) {rest : List Value} (hs : g.stack = .int j :: .ref a :: rest) (hd : decode c.code g.pc = .ok (.baload, 1)) :
    ∀ t, Steps p.tables e below (T.setTop { g with pc := g.pc + 1, stack := v :: rest }) t → Steps p.tables e below (T.setTop g) t := by
  obtain ⟨cl, Ar, q, S, N, H, G⟩ := V
  exact fun t k => X.baloadBytes hx (by rw [eT]; exact Ar.1) (State.isArrayOf_alike hZ.alike Ar.2.1) Ar.2.2 (inb_of S hj) (Has.at H (inb_of S hj) hv) hg hs hd _ k
theorem own_ldZ (X : Stand p l e R s m args below meth c T locs cells slots) (hx : p.tables.exec = Jvm.exec) (hZ : Z.Warmed39 s.vm) (eT : T.heap = h) (V : Arv Z h a kA .boolean z vs dv) {j : Int32} {v : Value} (hj : ¬ j < 0 ∧ j < z) (hv : vs.getD j.toNatClampNeg dv = v) {g : JFrame} (hg : g.method = m) {rest : List Value} (hs : g.stack = .int j :: .ref a :: rest) (hd : decode c.code g.pc = .ok (.baload, 1)) :
    ∀ t, Steps p.tables e below (T.setTop { g with pc := g.pc + 1, stack := v :: rest }) t → Steps p.tables e below (T.setTop g) t := by
  obtain ⟨cl, Ar, q, S, N, H, G⟩ := V
  exact fun t k => X.baloadBooleans hx (by rw [eT]; exact Ar.1) (State.isArrayOf_alike hZ.alike Ar.2.1) Ar.2.2 (inb_of S hj) (Has.at H (inb_of S hj) hv) hg hs hd _ k
theorem own_ldC (X : Stand p l e R s m args below meth c T locs cells slots) (hx : p.tables.exec = Jvm.exec) (hZ : Z.Warmed39 s.vm) (eT : T.heap = h) (V : Arv Z h a kA .char z vs dv) {j : Int32} {v : Value} (hj : ¬ j < 0 ∧ j < z) (hv : vs.getD j.toNatClampNeg dv = v) {g : JFrame} (hg : g.method = m) {rest : List Value} (hs : g.stack = .int j :: .ref a :: rest) (hd : decode c.code g.pc = .ok (.caload, 1)) :
    ∀ t, Steps p.tables e below (T.setTop { g with pc := g.pc + 1, stack := v :: rest }) t → Steps p.tables e below (T.setTop g) t := by
  obtain ⟨cl, Ar, q, S, N, H, G⟩ := V
  exact fun t k => X.caload hx (by rw [eT]; exact Ar.1) (State.isArrayOf_alike hZ.alike Ar.2.1) Ar.2.2 (inb_of S hj) (Has.at H (inb_of S hj) hv) hg hs hd _ k
theorem own_ldI (X : Stand p l e R s m args below meth c T locs cells slots) (hx : p.tables.exec = Jvm.exec) (hZ : Z.Warmed39 s.vm) (eT : T.heap = h) (V : Arv Z h a kA .int z vs dv) {j : Int32} {v : Value} (hj : ¬ j < 0 ∧ j < z) (hv : vs.getD j.toNatClampNeg dv = v) {g : JFrame} (hg : g.method = m) {rest : List Value} (hs : g.stack = .int j :: .ref a :: rest) (hd : decode c.code g.pc = .ok (.iaload, 1)) :
    ∀ t, Steps p.tables e below (T.setTop { g with pc := g.pc + 1, stack := v :: rest }) t → Steps p.tables e below (T.setTop g) t := by
  obtain ⟨cl, Ar, q, S, N, H, G⟩ := V
  exact fun t k => X.iaload hx (by rw [eT]; exact Ar.1) (State.isArrayOf_alike hZ.alike Ar.2.1) Ar.2.2 (inb_of S hj) (Has.at H (inb_of S hj) hv) hg hs hd _ k
theorem own_ldJ (X : Stand p l e R s m args below meth c T locs cells slots) (hx : p.tables.exec = Jvm.exec) (hZ : Z.Warmed39 s.vm) (eT : T.heap = h) (V : Arv Z h a kA .long z vs dv) {j : Int32} {v : Value} (hj : ¬ j < 0 ∧ j < z) (hv : vs.getD j.toNatClampNeg dv = v) {g : JFrame} (hg : g.method = m) {rest : List Value} (hs : g.stack = .int j :: .ref a :: rest) (hd : decode c.code g.pc = .ok (.laload, 1)) :
    ∀ t, Steps p.tables e below (T.setTop { g with pc := g.pc + 1, stack := v :: rest }) t → Steps p.tables e below (T.setTop g) t := by
  obtain ⟨cl, Ar, q, S, N, H, G⟩ := V
  exact fun t k => X.laload hx (by rw [eT]; exact Ar.1) (State.isArrayOf_alike hZ.alike Ar.2.1) Ar.2.2 (inb_of S hj) (Has.at H (inb_of S hj) hv) hg hs hd _ k
theorem own_ldA (X : Stand p l e R s m args below meth c T locs cells slots) (hx : p.tables.exec = Jvm.exec) (hZ : Z.Warmed39 s.vm) (eT : T.heap = h) (V : Arv Z h a kA ty z vs dv) (hty : ty.isReference = true) {j : Int32} {v : Value} (hj : ¬ j < 0 ∧ j < z) (hv : vs.getD j.toNatClampNeg dv = v) {g : JFrame} (hg : g.method = m) {rest : List Value} (hs : g.stack = .int j :: .ref a :: rest) (hd : decode c.code g.pc = .ok (.aaload, 1)) :
    ∀ t, Steps p.tables e below (T.setTop { g with pc := g.pc + 1, stack := v :: rest }) t → Steps p.tables e below (T.setTop g) t := by
  obtain ⟨cl, Ar, q, S, N, H, G⟩ := V
  exact fun t k => X.aaload hx (by rw [eT]; exact Ar.1) (State.isArrayOf_alike hZ.alike Ar.2.1) hty Ar.2.2 (inb_of S hj) (Has.at H (inb_of S hj) hv) hg hs hd _ k
theorem own_len (X : Stand p l e R s m args below meth c T locs cells slots) (hx : p.tables.exec = Jvm.exec) (hZ : Z.Warmed39 s.vm) (eT : T.heap = h) (V : Arv Z h a kA ty z vs dv) {g : JFrame} (hg : g.method = m) {rest : List Value} (hs : g.stack = .ref a :: rest) (hd : decode c.code g.pc = .ok (.arraylength, 1)) :
    ∀ t, Steps p.tables e below (T.setTop { g with pc := g.pc + 1, stack := .int z :: rest }) t → Steps p.tables e below (T.setTop g) t := by
  obtain ⟨cl, Ar, q, S, N, H, G⟩ := V
  refine fun t k => X.arraylength hx (by rw [eT]; exact Ar.1) (State.isArrayOf_alike hZ.alike Ar.2.1) hg hs hd _ ?_
  rw [len_of S N]; exact k
theorem own_newR (X : Stand p l e R s m args below meth c T locs cells slots) (hx : p.tables.exec = Jvm.exec) (hZ : Z.Warmed39 s.vm) {own C : String} {index : Nat} (hown : s.vm.findClass own = some m.cls) (w1 : (Jvm.Cond.classLink own index C).before a0 Z = true) (w2 : (Jvm.Cond.arrayOver (.object C)).before a0 Z = true)
    (eT : T.heap = h) {g : JFrame} (hg : g.method = m) (hd : decode c.code g.pc = .ok (.anewarray index, 3)) {n : Int32} {rest : List Value} (hs : g.stack = .int n :: rest) (hn : ¬ n < 0) {cap : Nat} (hcap : n.toNatClampNeg ≤ cap) (hb : cap * 8 ≤ 536870912) (hc : cells + 1 ≤ R.cells) (hl : slots + cap ≤ R.slots) :
    ∃ T' h' cA b, b = h.size ∧ Stand p l e R s m args below meth c T' locs (cells + 1) (slots + cap) ∧ T'.heap = h' ∧ Ext h h' ∧ Arv Z h' b cA (.object C) n (List.replicate cap .null) .null ∧ Ovr Z cA C ∧
      ∀ target, Steps p.tables e below (T'.setTop { g with pc := g.pc + 3, stack := .ref b :: rest }) target → Steps p.tables e below (T.setTop g) target := by
  obtain ⟨T', h', cA, X', e', E, A, O, st⟩ := newR X hx hZ hown w1 w2 eT hg hd hs hn hcap hb hc hl
  exact ⟨T', h', cA, _, rfl, X', e', E, (Arv.new A hn).pad (pad_rep [] _ cap), O, st⟩
theorem own_stA (X : Stand p l e R s m args below meth c T locs cells slots) (hx : p.tables.exec = Jvm.exec) (hZ : Z.Warmed39 s.vm) (eT : T.heap = h) {C : String} {y : Addr} (V : Arv Z h a kA (.object C) z vs dv) (O : Ovr Z kA C) (I : Ins Z h y C true) {j : Int32} (hj : ¬ j < 0 ∧ j < z) (i : Nat) (hi : j.toNatClampNeg = i) (hl : i < vs.length) {g : JFrame} (hg : g.method = m) {rest : List Value} (hs : g.stack = .ref y :: .int j :: .ref a :: rest) (hd : decode c.code g.pc = .ok (.aastore, 1)) :
    ∃ T' h' L, Stand p l e R s m args below meth c T' (locs ++ [⟨a, L⟩]) cells slots ∧ T'.heap = h' ∧ Wr h h' a L (.ref y) ∧ Arv Z h' a kA (.object C) z (vs.set i (.ref y)) dv ∧ ∀ target, Steps p.tables e below (T'.setTop { g with pc := g.pc + 1, stack := rest }) target → Steps p.tables e below (T.setTop g) target := by
  obtain ⟨cl, Ar, q, S, N, H, G⟩ := V
  obtain ⟨T', h', X', e', W, st⟩ := stR X hx hZ eT Ar (inb_of S hj) rfl (Sto.ofV Ar q O I) hg hs hd
  exact ⟨T', h', _, X', e', W, Arv.set Ar q S N H G rfl W i hi hl, st⟩
/-! what the case's words say of statics -/
theorem own_eqI {t : Term} {n : Int32} {args : Array Value} {s : State} (q : (Jvm.Cond.eq t (.int n)).value args s none s [] = some true) : t.eval args s none [] s = some (.int n) := by
  cases ht : t.eval args s none [] s with
  | none => simp [Jvm.Cond.value, ht] at q
  | some v => cases v <;> simp [Jvm.Cond.value, ht, Term.eval, Value.isRef] at q ⊢ <;> exact q
theorem own_eqJ {t : Term} {n : Int64} {args : Array Value} {s : State} (q : (Jvm.Cond.eq t (.long n)).value args s none s [] = some true) : t.eval args s none [] s = some (.long n) := by
  cases ht : t.eval args s none [] s with
  | none => simp [Jvm.Cond.value, ht] at q
  | some v => cases v <;> simp [Jvm.Cond.value, ht, Term.eval, Value.isRef] at q ⊢ <;> exact q
theorem own_eqR {t u : Term} {x : Addr} {args : Array Value} {s : State} (hu : u.eval args s none [] s = some (.ref x)) (q : (Jvm.Cond.eq t u).value args s none s [] = some true) : t.eval args s none [] s = some (.ref x) := by
  cases ht : t.eval args s none [] s with
  | none => simp [Jvm.Cond.value, ht] at q
  | some v => cases v <;> simp [Jvm.Cond.value, ht, hu, Value.isRef] at q ⊢ <;> exact q
theorem own_lenT {t : Term} {a : Addr} {cl : Cell} {ty : FieldType} {z : Int32} {args : Array Value} {s : State} (ht : t.eval args s none [] s = some (.ref a)) (A : Arr s s.heap a cl ty) (q : (Term.length t).eval args s none [] s = some (.int z)) : cl.slots.size < 2 ^ 31 ∧ cl.slots.size.toInt32 = z := by
  have ha : s.arrayAt? a = some cl := Arr.fin (Vm.Alike.refl _) A
  by_cases hl : cl.slots.size < 2 ^ 31
  · rw [len_f ht ha hl] at q; cases q; exact ⟨hl, rfl⟩
  · simp [Term.eval, ht, ha, hl] at q
end Own
end Jvm.RoadKit
namespace Jvm.Pilot.@@N@@
open Jvm Jvm.ClassFile Sem Op Lib Jvm.Free Jvm.Stand Jvm.LawKit Jvm.RoadKit Bundle Jvm.Pilot.@@N@@.Jvm.D
theorem own_leafI {x y : Int32} (q : y = x) : some (Value.int x) = some (.int y) := by rw [q]
theorem own_leafJ {x y : Int64} (q : y = x) : some (Value.long x) = some (.long y) := by rw [q]
def own_sx (z : Int64) (k : Int32) : Int64 := z ^^^ ((z.toUInt64 >>> (k &&& 0x3f).toInt64.toUInt64).toInt64)
def own_sy (z : Int64) (k j : Int32) : Int64 := (z ^^^ ((z.toUInt64 >>> (k &&& 0x3f).toInt64.toUInt64).toInt64)) ^^^ ((z.toUInt64 >>> (j &&& 0x3f).toInt64.toUInt64).toInt64)
def own_nw (c x : Int64) : Int64 := x * ((2 : Int64) - c * x)
def own_mix (z : Int64) : Int64 := own_sx (own_sx (own_sx z 30 * (-4658895280553007687 : Int64)) 27 * (-7723592293110705685 : Int64)) 31
theorem d5_0 : decode method_2_code 0 = .ok (.lload_n 0, 1) := by decide +kernel
theorem d5_1 : decode method_2_code 1 = .ok (.lstore_n 2, 1) := by decide +kernel
theorem d5_2 : decode method_2_code 2 = .ok (.lload_n 2, 1) := by decide +kernel
theorem d5_3 : decode method_2_code 3 = .ok (.ldc2_w 7, 3) := by decide +kernel
theorem d5_6 : decode method_2_code 6 = .ok (.lload_n 0, 1) := by decide +kernel
theorem d5_7 : decode method_2_code 7 = .ok (.lload_n 2, 1) := by decide +kernel
theorem d5_8 : decode method_2_code 8 = .ok (.lmul, 1) := by decide +kernel
theorem d5_9 : decode method_2_code 9 = .ok (.lsub, 1) := by decide +kernel
theorem d5_10 : decode method_2_code 10 = .ok (.lmul, 1) := by decide +kernel
theorem d5_11 : decode method_2_code 11 = .ok (.lstore_n 2, 1) := by decide +kernel
theorem d5_12 : decode method_2_code 12 = .ok (.lload_n 2, 1) := by decide +kernel
theorem d5_13 : decode method_2_code 13 = .ok (.ldc2_w 7, 3) := by decide +kernel
theorem d5_16 : decode method_2_code 16 = .ok (.lload_n 0, 1) := by decide +kernel
theorem d5_17 : decode method_2_code 17 = .ok (.lload_n 2, 1) := by decide +kernel
theorem d5_18 : decode method_2_code 18 = .ok (.lmul, 1) := by decide +kernel
theorem d5_19 : decode method_2_code 19 = .ok (.lsub, 1) := by decide +kernel
theorem d5_20 : decode method_2_code 20 = .ok (.lmul, 1) := by decide +kernel
theorem d5_21 : decode method_2_code 21 = .ok (.lstore_n 2, 1) := by decide +kernel
theorem d5_22 : decode method_2_code 22 = .ok (.lload_n 2, 1) := by decide +kernel
theorem d5_23 : decode method_2_code 23 = .ok (.ldc2_w 7, 3) := by decide +kernel
theorem d5_26 : decode method_2_code 26 = .ok (.lload_n 0, 1) := by decide +kernel
theorem d5_27 : decode method_2_code 27 = .ok (.lload_n 2, 1) := by decide +kernel
theorem d5_28 : decode method_2_code 28 = .ok (.lmul, 1) := by decide +kernel
theorem d5_29 : decode method_2_code 29 = .ok (.lsub, 1) := by decide +kernel
theorem d5_30 : decode method_2_code 30 = .ok (.lmul, 1) := by decide +kernel
theorem d5_31 : decode method_2_code 31 = .ok (.lstore_n 2, 1) := by decide +kernel
theorem d5_32 : decode method_2_code 32 = .ok (.lload_n 2, 1) := by decide +kernel
theorem d5_33 : decode method_2_code 33 = .ok (.ldc2_w 7, 3) := by decide +kernel
theorem d5_36 : decode method_2_code 36 = .ok (.lload_n 0, 1) := by decide +kernel
theorem d5_37 : decode method_2_code 37 = .ok (.lload_n 2, 1) := by decide +kernel
theorem d5_38 : decode method_2_code 38 = .ok (.lmul, 1) := by decide +kernel
theorem d5_39 : decode method_2_code 39 = .ok (.lsub, 1) := by decide +kernel
theorem d5_40 : decode method_2_code 40 = .ok (.lmul, 1) := by decide +kernel
theorem d5_41 : decode method_2_code 41 = .ok (.lstore_n 2, 1) := by decide +kernel
theorem d5_42 : decode method_2_code 42 = .ok (.lload_n 2, 1) := by decide +kernel
theorem d5_43 : decode method_2_code 43 = .ok (.ldc2_w 7, 3) := by decide +kernel
theorem d5_46 : decode method_2_code 46 = .ok (.lload_n 0, 1) := by decide +kernel
theorem d5_47 : decode method_2_code 47 = .ok (.lload_n 2, 1) := by decide +kernel
theorem d5_48 : decode method_2_code 48 = .ok (.lmul, 1) := by decide +kernel
theorem d5_49 : decode method_2_code 49 = .ok (.lsub, 1) := by decide +kernel
theorem d5_50 : decode method_2_code 50 = .ok (.lmul, 1) := by decide +kernel
theorem d5_51 : decode method_2_code 51 = .ok (.lstore_n 2, 1) := by decide +kernel
theorem d5_52 : decode method_2_code 52 = .ok (.lload_n 2, 1) := by decide +kernel
theorem d5_53 : decode method_2_code 53 = .ok (.lreturn, 1) := by decide +kernel
theorem ef_5 (q1 : Int64) (m : MethodId) : entryFrame m #[(.long q1)] 4 = mkF m 0 #[.val (.long q1), .second, .unset, .unset] [] := by first | (simp [entryFrame, mkF, argsToLocals, Value.category]; done) | rfl
def own_f5 (q1 : Int64) : Int64 := (own_nw q1 (own_nw q1 (own_nw q1 (own_nw q1 (own_nw q1 q1)))))
theorem pn_0 : plainName "com/example/lockstep/lockstep/workload/SeededRandomNextLongPinLaw" = true := by first | (simp [plainName, overriddenIn]; done) | decide +kernel
set_option maxRecDepth 65536 in
set_option maxHeartbeats 40000000 in
theorem rm5 (l : Launch) (Z : State) (a0 : Array Value) (hw : ∀ d ∈ tables_1, d.before a0 Z = true) (ws : List Jvm.Cond) (q1 : Int64) (h0 : Heap) (n0 : Nat) (Z0 : n0 ≤ h0.size) :
    own_Met l (⟨"com/example/lockstep/lockstep/workload/SeededRandomNextLongPinLaw", "inv", "(J)J"⟩ : MethodName) method_2_code 4 (some .long) ws ({ frames := 0, cells := 0, slots := 0, locals := 0 } : Room) #[(.long q1)] Z h0 (fun v h L => v = some (.long (own_f5 q1)) ∧ Fr n0 L ∧ h = h0) := by
  refine own_body (plainFor_of_name pn_0) (ef_5 q1) ?_
  intro p e s m below meth c T0 X0 hx hby hml0 hret hlk hnm hown hZ e0
  have hml : c.maxLocals = 4 := hml0
  have N0 := Fr.nil n0
  refine own_step (fun _ k => XS.lloadN X0.here hx rfl (hb hby d5_0) rfl k) ?_
  show own_Ends _ _ _ _ _ _ _ T0 (mkF m 1 #[.val (.long q1), .second, .unset, .unset] [(.long q1)])
  refine own_step (fun _ k => XS.lstoreN X0.here hx rfl (hb hby d5_1) rfl (l' := #[.val (.long q1), .second, .val (.long q1), .second]) rfl k) ?_
  show own_Ends _ _ _ _ _ _ _ T0 (mkF m 2 #[.val (.long q1), .second, .val (.long q1), .second] [])
  refine own_step (fun _ k => XS.lloadN X0.here hx rfl (hb hby d5_2) rfl k) ?_
  show own_Ends _ _ _ _ _ _ _ T0 (mkF m 3 #[.val (.long q1), .second, .val (.long q1), .second] [(.long q1)])
  refine own_step (X0.ldc2Long hx hown (mvT hZ (hw _ (List.mem_of_getElem? (i := 27) rfl))) (g := (mkF m 3 #[.val (.long q1), .second, .val (.long q1), .second] [(.long q1)])) rfl (hb hby d5_3)) ?_
  show own_Ends _ _ _ _ _ _ _ T0 (mkF m 6 #[.val (.long q1), .second, .val (.long q1), .second] [(.long (2 : Int64)), (.long q1)])
  refine own_step (fun _ k => XS.lloadN X0.here hx rfl (hb hby d5_6) rfl k) ?_
  show own_Ends _ _ _ _ _ _ _ T0 (mkF m 7 #[.val (.long q1), .second, .val (.long q1), .second] [(.long q1), (.long (2 : Int64)), (.long q1)])
  refine own_step (fun _ k => XS.lloadN X0.here hx rfl (hb hby d5_7) rfl k) ?_
  show own_Ends _ _ _ _ _ _ _ T0 (mkF m 8 #[.val (.long q1), .second, .val (.long q1), .second] [(.long q1), (.long q1), (.long (2 : Int64)), (.long q1)])
  refine own_step (fun _ k => XS.lmul X0.here hx rfl (hb hby d5_8) rfl k) ?_
  show own_Ends _ _ _ _ _ _ _ T0 (mkF m 9 #[.val (.long q1), .second, .val (.long q1), .second] [(.long (q1 * q1)), (.long (2 : Int64)), (.long q1)])
  refine own_step (fun _ k => XS.lsub X0.here hx rfl (hb hby d5_9) rfl k) ?_
  show own_Ends _ _ _ _ _ _ _ T0 (mkF m 10 #[.val (.long q1), .second, .val (.long q1), .second] [(.long ((2 : Int64) - (q1 * q1))), (.long q1)])
  refine own_step (fun _ k => XS.lmul X0.here hx rfl (hb hby d5_10) rfl k) ?_
  show own_Ends _ _ _ _ _ _ _ T0 (mkF m 11 #[.val (.long q1), .second, .val (.long q1), .second] [(.long (q1 * ((2 : Int64) - (q1 * q1))))])
  show own_Ends _ _ _ _ _ _ _ T0 (mkF m 11 #[.val (.long q1), .second, .val (.long q1), .second] [(.long (own_nw q1 q1))])
  refine own_step (fun _ k => XS.lstoreN X0.here hx rfl (hb hby d5_11) rfl (l' := #[.val (.long q1), .second, .val (.long (own_nw q1 q1)), .second]) rfl k) ?_
  show own_Ends _ _ _ _ _ _ _ T0 (mkF m 12 #[.val (.long q1), .second, .val (.long (own_nw q1 q1)), .second] [])
  refine own_step (fun _ k => XS.lloadN X0.here hx rfl (hb hby d5_12) rfl k) ?_
  show own_Ends _ _ _ _ _ _ _ T0 (mkF m 13 #[.val (.long q1), .second, .val (.long (own_nw q1 q1)), .second] [(.long (own_nw q1 q1))])
  refine own_step (X0.ldc2Long hx hown (mvT hZ (hw _ (List.mem_of_getElem? (i := 27) rfl))) (g := (mkF m 13 #[.val (.long q1), .second, .val (.long (own_nw q1 q1)), .second] [(.long (own_nw q1 q1))])) rfl (hb hby d5_13)) ?_
  show own_Ends _ _ _ _ _ _ _ T0 (mkF m 16 #[.val (.long q1), .second, .val (.long (own_nw q1 q1)), .second] [(.long (2 : Int64)), (.long (own_nw q1 q1))])
  refine own_step (fun _ k => XS.lloadN X0.here hx rfl (hb hby d5_16) rfl k) ?_
  show own_Ends _ _ _ _ _ _ _ T0 (mkF m 17 #[.val (.long q1), .second, .val (.long (own_nw q1 q1)), .second] [(.long q1), (.long (2 : Int64)), (.long (own_nw q1 q1))])
  refine own_step (fun _ k => XS.lloadN X0.here hx rfl (hb hby d5_17) rfl k) ?_
  show own_Ends _ _ _ _ _ _ _ T0 (mkF m 18 #[.val (.long q1), .second, .val (.long (own_nw q1 q1)), .second] [(.long (own_nw q1 q1)), (.long q1), (.long (2 : Int64)), (.long (own_nw q1 q1))])
  refine own_step (fun _ k => XS.lmul X0.here hx rfl (hb hby d5_18) rfl k) ?_
  show own_Ends _ _ _ _ _ _ _ T0 (mkF m 19 #[.val (.long q1), .second, .val (.long (own_nw q1 q1)), .second] [(.long (q1 * (own_nw q1 q1))), (.long (2 : Int64)), (.long (own_nw q1 q1))])
  refine own_step (fun _ k => XS.lsub X0.here hx rfl (hb hby d5_19) rfl k) ?_
  show own_Ends _ _ _ _ _ _ _ T0 (mkF m 20 #[.val (.long q1), .second, .val (.long (own_nw q1 q1)), .second] [(.long ((2 : Int64) - (q1 * (own_nw q1 q1)))), (.long (own_nw q1 q1))])
  refine own_step (fun _ k => XS.lmul X0.here hx rfl (hb hby d5_20) rfl k) ?_
  show own_Ends _ _ _ _ _ _ _ T0 (mkF m 21 #[.val (.long q1), .second, .val (.long (own_nw q1 q1)), .second] [(.long ((own_nw q1 q1) * ((2 : Int64) - (q1 * (own_nw q1 q1)))))])
  show own_Ends _ _ _ _ _ _ _ T0 (mkF m 21 #[.val (.long q1), .second, .val (.long (own_nw q1 q1)), .second] [(.long (own_nw q1 (own_nw q1 q1)))])
  refine own_step (fun _ k => XS.lstoreN X0.here hx rfl (hb hby d5_21) rfl (l' := #[.val (.long q1), .second, .val (.long (own_nw q1 (own_nw q1 q1))), .second]) rfl k) ?_
  show own_Ends _ _ _ _ _ _ _ T0 (mkF m 22 #[.val (.long q1), .second, .val (.long (own_nw q1 (own_nw q1 q1))), .second] [])
  refine own_step (fun _ k => XS.lloadN X0.here hx rfl (hb hby d5_22) rfl k) ?_
  show own_Ends _ _ _ _ _ _ _ T0 (mkF m 23 #[.val (.long q1), .second, .val (.long (own_nw q1 (own_nw q1 q1))), .second] [(.long (own_nw q1 (own_nw q1 q1)))])
  refine own_step (X0.ldc2Long hx hown (mvT hZ (hw _ (List.mem_of_getElem? (i := 27) rfl))) (g := (mkF m 23 #[.val (.long q1), .second, .val (.long (own_nw q1 (own_nw q1 q1))), .second] [(.long (own_nw q1 (own_nw q1 q1)))])) rfl (hb hby d5_23)) ?_
  show own_Ends _ _ _ _ _ _ _ T0 (mkF m 26 #[.val (.long q1), .second, .val (.long (own_nw q1 (own_nw q1 q1))), .second] [(.long (2 : Int64)), (.long (own_nw q1 (own_nw q1 q1)))])
  refine own_step (fun _ k => XS.lloadN X0.here hx rfl (hb hby d5_26) rfl k) ?_
  show own_Ends _ _ _ _ _ _ _ T0 (mkF m 27 #[.val (.long q1), .second, .val (.long (own_nw q1 (own_nw q1 q1))), .second] [(.long q1), (.long (2 : Int64)), (.long (own_nw q1 (own_nw q1 q1)))])
  refine own_step (fun _ k => XS.lloadN X0.here hx rfl (hb hby d5_27) rfl k) ?_
  show own_Ends _ _ _ _ _ _ _ T0 (mkF m 28 #[.val (.long q1), .second, .val (.long (own_nw q1 (own_nw q1 q1))), .second] [(.long (own_nw q1 (own_nw q1 q1))), (.long q1), (.long (2 : Int64)), (.long (own_nw q1 (own_nw q1 q1)))])
  refine own_step (fun _ k => XS.lmul X0.here hx rfl (hb hby d5_28) rfl k) ?_
  show own_Ends _ _ _ _ _ _ _ T0 (mkF m 29 #[.val (.long q1), .second, .val (.long (own_nw q1 (own_nw q1 q1))), .second] [(.long (q1 * (own_nw q1 (own_nw q1 q1)))), (.long (2 : Int64)), (.long (own_nw q1 (own_nw q1 q1)))])
  refine own_step (fun _ k => XS.lsub X0.here hx rfl (hb hby d5_29) rfl k) ?_
  show own_Ends _ _ _ _ _ _ _ T0 (mkF m 30 #[.val (.long q1), .second, .val (.long (own_nw q1 (own_nw q1 q1))), .second] [(.long ((2 : Int64) - (q1 * (own_nw q1 (own_nw q1 q1))))), (.long (own_nw q1 (own_nw q1 q1)))])
  refine own_step (fun _ k => XS.lmul X0.here hx rfl (hb hby d5_30) rfl k) ?_
  show own_Ends _ _ _ _ _ _ _ T0 (mkF m 31 #[.val (.long q1), .second, .val (.long (own_nw q1 (own_nw q1 q1))), .second] [(.long ((own_nw q1 (own_nw q1 q1)) * ((2 : Int64) - (q1 * (own_nw q1 (own_nw q1 q1))))))])
  show own_Ends _ _ _ _ _ _ _ T0 (mkF m 31 #[.val (.long q1), .second, .val (.long (own_nw q1 (own_nw q1 q1))), .second] [(.long (own_nw q1 (own_nw q1 (own_nw q1 q1))))])
  refine own_step (fun _ k => XS.lstoreN X0.here hx rfl (hb hby d5_31) rfl (l' := #[.val (.long q1), .second, .val (.long (own_nw q1 (own_nw q1 (own_nw q1 q1)))), .second]) rfl k) ?_
  show own_Ends _ _ _ _ _ _ _ T0 (mkF m 32 #[.val (.long q1), .second, .val (.long (own_nw q1 (own_nw q1 (own_nw q1 q1)))), .second] [])
  refine own_step (fun _ k => XS.lloadN X0.here hx rfl (hb hby d5_32) rfl k) ?_
  show own_Ends _ _ _ _ _ _ _ T0 (mkF m 33 #[.val (.long q1), .second, .val (.long (own_nw q1 (own_nw q1 (own_nw q1 q1)))), .second] [(.long (own_nw q1 (own_nw q1 (own_nw q1 q1))))])
  refine own_step (X0.ldc2Long hx hown (mvT hZ (hw _ (List.mem_of_getElem? (i := 27) rfl))) (g := (mkF m 33 #[.val (.long q1), .second, .val (.long (own_nw q1 (own_nw q1 (own_nw q1 q1)))), .second] [(.long (own_nw q1 (own_nw q1 (own_nw q1 q1))))])) rfl (hb hby d5_33)) ?_
  show own_Ends _ _ _ _ _ _ _ T0 (mkF m 36 #[.val (.long q1), .second, .val (.long (own_nw q1 (own_nw q1 (own_nw q1 q1)))), .second] [(.long (2 : Int64)), (.long (own_nw q1 (own_nw q1 (own_nw q1 q1))))])
  refine own_step (fun _ k => XS.lloadN X0.here hx rfl (hb hby d5_36) rfl k) ?_
  show own_Ends _ _ _ _ _ _ _ T0 (mkF m 37 #[.val (.long q1), .second, .val (.long (own_nw q1 (own_nw q1 (own_nw q1 q1)))), .second] [(.long q1), (.long (2 : Int64)), (.long (own_nw q1 (own_nw q1 (own_nw q1 q1))))])
  refine own_step (fun _ k => XS.lloadN X0.here hx rfl (hb hby d5_37) rfl k) ?_
  show own_Ends _ _ _ _ _ _ _ T0 (mkF m 38 #[.val (.long q1), .second, .val (.long (own_nw q1 (own_nw q1 (own_nw q1 q1)))), .second] [(.long (own_nw q1 (own_nw q1 (own_nw q1 q1)))), (.long q1), (.long (2 : Int64)), (.long (own_nw q1 (own_nw q1 (own_nw q1 q1))))])
  refine own_step (fun _ k => XS.lmul X0.here hx rfl (hb hby d5_38) rfl k) ?_
  show own_Ends _ _ _ _ _ _ _ T0 (mkF m 39 #[.val (.long q1), .second, .val (.long (own_nw q1 (own_nw q1 (own_nw q1 q1)))), .second] [(.long (q1 * (own_nw q1 (own_nw q1 (own_nw q1 q1))))), (.long (2 : Int64)), (.long (own_nw q1 (own_nw q1 (own_nw q1 q1))))])
  refine own_step (fun _ k => XS.lsub X0.here hx rfl (hb hby d5_39) rfl k) ?_
  show own_Ends _ _ _ _ _ _ _ T0 (mkF m 40 #[.val (.long q1), .second, .val (.long (own_nw q1 (own_nw q1 (own_nw q1 q1)))), .second] [(.long ((2 : Int64) - (q1 * (own_nw q1 (own_nw q1 (own_nw q1 q1)))))), (.long (own_nw q1 (own_nw q1 (own_nw q1 q1))))])
  refine own_step (fun _ k => XS.lmul X0.here hx rfl (hb hby d5_40) rfl k) ?_
  show own_Ends _ _ _ _ _ _ _ T0 (mkF m 41 #[.val (.long q1), .second, .val (.long (own_nw q1 (own_nw q1 (own_nw q1 q1)))), .second] [(.long ((own_nw q1 (own_nw q1 (own_nw q1 q1))) * ((2 : Int64) - (q1 * (own_nw q1 (own_nw q1 (own_nw q1 q1)))))))])
  show own_Ends _ _ _ _ _ _ _ T0 (mkF m 41 #[.val (.long q1), .second, .val (.long (own_nw q1 (own_nw q1 (own_nw q1 q1)))), .second] [(.long (own_nw q1 (own_nw q1 (own_nw q1 (own_nw q1 q1)))))])
  refine own_step (fun _ k => XS.lstoreN X0.here hx rfl (hb hby d5_41) rfl (l' := #[.val (.long q1), .second, .val (.long (own_nw q1 (own_nw q1 (own_nw q1 (own_nw q1 q1))))), .second]) rfl k) ?_
  show own_Ends _ _ _ _ _ _ _ T0 (mkF m 42 #[.val (.long q1), .second, .val (.long (own_nw q1 (own_nw q1 (own_nw q1 (own_nw q1 q1))))), .second] [])
  refine own_step (fun _ k => XS.lloadN X0.here hx rfl (hb hby d5_42) rfl k) ?_
  show own_Ends _ _ _ _ _ _ _ T0 (mkF m 43 #[.val (.long q1), .second, .val (.long (own_nw q1 (own_nw q1 (own_nw q1 (own_nw q1 q1))))), .second] [(.long (own_nw q1 (own_nw q1 (own_nw q1 (own_nw q1 q1)))))])
  refine own_step (X0.ldc2Long hx hown (mvT hZ (hw _ (List.mem_of_getElem? (i := 27) rfl))) (g := (mkF m 43 #[.val (.long q1), .second, .val (.long (own_nw q1 (own_nw q1 (own_nw q1 (own_nw q1 q1))))), .second] [(.long (own_nw q1 (own_nw q1 (own_nw q1 (own_nw q1 q1)))))])) rfl (hb hby d5_43)) ?_
  show own_Ends _ _ _ _ _ _ _ T0 (mkF m 46 #[.val (.long q1), .second, .val (.long (own_nw q1 (own_nw q1 (own_nw q1 (own_nw q1 q1))))), .second] [(.long (2 : Int64)), (.long (own_nw q1 (own_nw q1 (own_nw q1 (own_nw q1 q1)))))])
  refine own_step (fun _ k => XS.lloadN X0.here hx rfl (hb hby d5_46) rfl k) ?_
  show own_Ends _ _ _ _ _ _ _ T0 (mkF m 47 #[.val (.long q1), .second, .val (.long (own_nw q1 (own_nw q1 (own_nw q1 (own_nw q1 q1))))), .second] [(.long q1), (.long (2 : Int64)), (.long (own_nw q1 (own_nw q1 (own_nw q1 (own_nw q1 q1)))))])
  refine own_step (fun _ k => XS.lloadN X0.here hx rfl (hb hby d5_47) rfl k) ?_
  show own_Ends _ _ _ _ _ _ _ T0 (mkF m 48 #[.val (.long q1), .second, .val (.long (own_nw q1 (own_nw q1 (own_nw q1 (own_nw q1 q1))))), .second] [(.long (own_nw q1 (own_nw q1 (own_nw q1 (own_nw q1 q1))))), (.long q1), (.long (2 : Int64)), (.long (own_nw q1 (own_nw q1 (own_nw q1 (own_nw q1 q1)))))])
  refine own_step (fun _ k => XS.lmul X0.here hx rfl (hb hby d5_48) rfl k) ?_
  show own_Ends _ _ _ _ _ _ _ T0 (mkF m 49 #[.val (.long q1), .second, .val (.long (own_nw q1 (own_nw q1 (own_nw q1 (own_nw q1 q1))))), .second] [(.long (q1 * (own_nw q1 (own_nw q1 (own_nw q1 (own_nw q1 q1)))))), (.long (2 : Int64)), (.long (own_nw q1 (own_nw q1 (own_nw q1 (own_nw q1 q1)))))])
  refine own_step (fun _ k => XS.lsub X0.here hx rfl (hb hby d5_49) rfl k) ?_
  show own_Ends _ _ _ _ _ _ _ T0 (mkF m 50 #[.val (.long q1), .second, .val (.long (own_nw q1 (own_nw q1 (own_nw q1 (own_nw q1 q1))))), .second] [(.long ((2 : Int64) - (q1 * (own_nw q1 (own_nw q1 (own_nw q1 (own_nw q1 q1))))))), (.long (own_nw q1 (own_nw q1 (own_nw q1 (own_nw q1 q1)))))])
  refine own_step (fun _ k => XS.lmul X0.here hx rfl (hb hby d5_50) rfl k) ?_
  show own_Ends _ _ _ _ _ _ _ T0 (mkF m 51 #[.val (.long q1), .second, .val (.long (own_nw q1 (own_nw q1 (own_nw q1 (own_nw q1 q1))))), .second] [(.long ((own_nw q1 (own_nw q1 (own_nw q1 (own_nw q1 q1)))) * ((2 : Int64) - (q1 * (own_nw q1 (own_nw q1 (own_nw q1 (own_nw q1 q1))))))))])
  show own_Ends _ _ _ _ _ _ _ T0 (mkF m 51 #[.val (.long q1), .second, .val (.long (own_nw q1 (own_nw q1 (own_nw q1 (own_nw q1 q1))))), .second] [(.long (own_nw q1 (own_nw q1 (own_nw q1 (own_nw q1 (own_nw q1 q1))))))])
  refine own_step (fun _ k => XS.lstoreN X0.here hx rfl (hb hby d5_51) rfl (l' := #[.val (.long q1), .second, .val (.long (own_nw q1 (own_nw q1 (own_nw q1 (own_nw q1 (own_nw q1 q1)))))), .second]) rfl k) ?_
  show own_Ends _ _ _ _ _ _ _ T0 (mkF m 52 #[.val (.long q1), .second, .val (.long (own_nw q1 (own_nw q1 (own_nw q1 (own_nw q1 (own_nw q1 q1)))))), .second] [])
  refine own_step (fun _ k => XS.lloadN X0.here hx rfl (hb hby d5_52) rfl k) ?_
  show own_Ends _ _ _ _ _ _ _ T0 (mkF m 53 #[.val (.long q1), .second, .val (.long (own_nw q1 (own_nw q1 (own_nw q1 (own_nw q1 (own_nw q1 q1)))))), .second] [(.long (own_nw q1 (own_nw q1 (own_nw q1 (own_nw q1 (own_nw q1 q1))))))])
  exact own_retL X0 hx hret hlk (hb hby d5_53) ⟨own_leafJ rfl, N0, e0⟩ (by decide) (by decide)
theorem d4_0 : decode method_3_code 0 = .ok (.lload_n 0, 1) := by decide +kernel
theorem d4_1 : decode method_3_code 1 = .ok (.lload_n 0, 1) := by decide +kernel
theorem d4_2 : decode method_3_code 2 = .ok (.bipush 31, 2) := by decide +kernel
theorem d4_4 : decode method_3_code 4 = .ok (.lushr, 1) := by decide +kernel
theorem d4_5 : decode method_3_code 5 = .ok (.lxor, 1) := by decide +kernel
theorem d4_6 : decode method_3_code 6 = .ok (.lload_n 0, 1) := by decide +kernel
theorem d4_7 : decode method_3_code 7 = .ok (.bipush 62, 2) := by decide +kernel
theorem d4_9 : decode method_3_code 9 = .ok (.lushr, 1) := by decide +kernel
theorem d4_10 : decode method_3_code 10 = .ok (.lxor, 1) := by decide +kernel
theorem d4_11 : decode method_3_code 11 = .ok (.lstore_n 2, 1) := by decide +kernel
theorem d4_12 : decode method_3_code 12 = .ok (.lload_n 2, 1) := by decide +kernel
theorem d4_13 : decode method_3_code 13 = .ok (.ldc2_w 9, 3) := by decide +kernel
theorem d4_16 : decode method_3_code 16 = .ok (.invokestatic 11, 3) := by decide +kernel
theorem d4_19 : decode method_3_code 19 = .ok (.lmul, 1) := by decide +kernel
theorem d4_20 : decode method_3_code 20 = .ok (.lstore_n 2, 1) := by decide +kernel
theorem d4_21 : decode method_3_code 21 = .ok (.lload_n 2, 1) := by decide +kernel
theorem d4_22 : decode method_3_code 22 = .ok (.lload_n 2, 1) := by decide +kernel
theorem d4_23 : decode method_3_code 23 = .ok (.bipush 27, 2) := by decide +kernel
theorem d4_25 : decode method_3_code 25 = .ok (.lushr, 1) := by decide +kernel
theorem d4_26 : decode method_3_code 26 = .ok (.lxor, 1) := by decide +kernel
theorem d4_27 : decode method_3_code 27 = .ok (.lload_n 2, 1) := by decide +kernel
theorem d4_28 : decode method_3_code 28 = .ok (.bipush 54, 2) := by decide +kernel
theorem d4_30 : decode method_3_code 30 = .ok (.lushr, 1) := by decide +kernel
theorem d4_31 : decode method_3_code 31 = .ok (.lxor, 1) := by decide +kernel
theorem d4_32 : decode method_3_code 32 = .ok (.lstore 4, 2) := by decide +kernel
theorem d4_34 : decode method_3_code 34 = .ok (.lload 4, 2) := by decide +kernel
theorem d4_36 : decode method_3_code 36 = .ok (.ldc2_w 17, 3) := by decide +kernel
theorem d4_39 : decode method_3_code 39 = .ok (.invokestatic 11, 3) := by decide +kernel
theorem d4_42 : decode method_3_code 42 = .ok (.lmul, 1) := by decide +kernel
theorem d4_43 : decode method_3_code 43 = .ok (.lstore 4, 2) := by decide +kernel
theorem d4_45 : decode method_3_code 45 = .ok (.lload 4, 2) := by decide +kernel
theorem d4_47 : decode method_3_code 47 = .ok (.lload 4, 2) := by decide +kernel
theorem d4_49 : decode method_3_code 49 = .ok (.bipush 30, 2) := by decide +kernel
theorem d4_51 : decode method_3_code 51 = .ok (.lushr, 1) := by decide +kernel
theorem d4_52 : decode method_3_code 52 = .ok (.lxor, 1) := by decide +kernel
theorem d4_53 : decode method_3_code 53 = .ok (.lload 4, 2) := by decide +kernel
theorem d4_55 : decode method_3_code 55 = .ok (.bipush 60, 2) := by decide +kernel
theorem d4_57 : decode method_3_code 57 = .ok (.lushr, 1) := by decide +kernel
theorem d4_58 : decode method_3_code 58 = .ok (.lxor, 1) := by decide +kernel
theorem d4_59 : decode method_3_code 59 = .ok (.lreturn, 1) := by decide +kernel
theorem ef_4 (q1 : Int64) (m : MethodId) : entryFrame m #[(.long q1)] 6 = mkF m 0 #[.val (.long q1), .second, .unset, .unset, .unset, .unset] [] := by first | (simp [entryFrame, mkF, argsToLocals, Value.category]; done) | rfl
theorem pd_0 : parseMethodDescriptor "(J)J" = some ⟨[.long], some .long⟩ := by decide +kernel
def own_f4 (q1 : Int64) : Int64 := (own_sy ((own_sy ((own_sy q1 (31 : Int32) (62 : Int32)) * (own_f5 (-7723592293110705685 : Int64))) (27 : Int32) (54 : Int32)) * (own_f5 (-4658895280553007687 : Int64))) (30 : Int32) (60 : Int32))
set_option maxRecDepth 65536 in
set_option maxHeartbeats 40000000 in
theorem rm4 (l : Launch) (Z : State) (a0 : Array Value) (hw : ∀ d ∈ tables_1, d.before a0 Z = true) (ws : List Jvm.Cond) (q1 : Int64) (h0 : Heap) (n0 : Nat) (Z0 : n0 ≤ h0.size) :
    own_Met l (⟨"com/example/lockstep/lockstep/workload/SeededRandomNextLongPinLaw", "unmix", "(J)J"⟩ : MethodName) method_3_code 6 (some .long) ws ({ frames := 1, cells := 0, slots := 0, locals := 17 } : Room) #[(.long q1)] Z h0 (fun v h L => v = some (.long (own_f4 q1)) ∧ Fr n0 L ∧ h = h0) := by
  refine own_body (plainFor_of_name pn_0) (ef_4 q1) ?_
  intro p e s m below meth c T0 X0 hx hby hml0 hret hlk hnm hown hZ e0
  have hml : c.maxLocals = 6 := hml0
  have N0 := Fr.nil n0
  refine own_step (fun _ k => XS.lloadN X0.here hx rfl (hb hby d4_0) rfl k) ?_
  show own_Ends _ _ _ _ _ _ _ T0 (mkF m 1 #[.val (.long q1), .second, .unset, .unset, .unset, .unset] [(.long q1)])
  refine own_step (fun _ k => XS.lloadN X0.here hx rfl (hb hby d4_1) rfl k) ?_
  show own_Ends _ _ _ _ _ _ _ T0 (mkF m 2 #[.val (.long q1), .second, .unset, .unset, .unset, .unset] [(.long q1), (.long q1)])
  refine own_step (fun _ k => XS.bipush X0.here hx rfl (hb hby d4_2) k) ?_
  show own_Ends _ _ _ _ _ _ _ T0 (mkF m 4 #[.val (.long q1), .second, .unset, .unset, .unset, .unset] [(.int (31 : Int32)), (.long q1), (.long q1)])
  refine own_step (fun _ k => XS.lushr X0.here hx rfl (hb hby d4_4) rfl k) ?_
  show own_Ends _ _ _ _ _ _ _ T0 (mkF m 5 #[.val (.long q1), .second, .unset, .unset, .unset, .unset] [(.long ((q1.toUInt64 >>> ((31 : Int32) &&& 0x3f).toInt64.toUInt64).toInt64)), (.long q1)])
  refine own_step (fun _ k => XS.lxor X0.here hx rfl (hb hby d4_5) rfl k) ?_
  show own_Ends _ _ _ _ _ _ _ T0 (mkF m 6 #[.val (.long q1), .second, .unset, .unset, .unset, .unset] [(.long (q1 ^^^ ((q1.toUInt64 >>> ((31 : Int32) &&& 0x3f).toInt64.toUInt64).toInt64)))])
  refine own_step (fun _ k => XS.lloadN X0.here hx rfl (hb hby d4_6) rfl k) ?_
  show own_Ends _ _ _ _ _ _ _ T0 (mkF m 7 #[.val (.long q1), .second, .unset, .unset, .unset, .unset] [(.long q1), (.long (q1 ^^^ ((q1.toUInt64 >>> ((31 : Int32) &&& 0x3f).toInt64.toUInt64).toInt64)))])
  refine own_step (fun _ k => XS.bipush X0.here hx rfl (hb hby d4_7) k) ?_
  show own_Ends _ _ _ _ _ _ _ T0 (mkF m 9 #[.val (.long q1), .second, .unset, .unset, .unset, .unset] [(.int (62 : Int32)), (.long q1), (.long (q1 ^^^ ((q1.toUInt64 >>> ((31 : Int32) &&& 0x3f).toInt64.toUInt64).toInt64)))])
  refine own_step (fun _ k => XS.lushr X0.here hx rfl (hb hby d4_9) rfl k) ?_
  show own_Ends _ _ _ _ _ _ _ T0 (mkF m 10 #[.val (.long q1), .second, .unset, .unset, .unset, .unset] [(.long ((q1.toUInt64 >>> ((62 : Int32) &&& 0x3f).toInt64.toUInt64).toInt64)), (.long (q1 ^^^ ((q1.toUInt64 >>> ((31 : Int32) &&& 0x3f).toInt64.toUInt64).toInt64)))])
  refine own_step (fun _ k => XS.lxor X0.here hx rfl (hb hby d4_10) rfl k) ?_
  show own_Ends _ _ _ _ _ _ _ T0 (mkF m 11 #[.val (.long q1), .second, .unset, .unset, .unset, .unset] [(.long ((q1 ^^^ ((q1.toUInt64 >>> ((31 : Int32) &&& 0x3f).toInt64.toUInt64).toInt64)) ^^^ ((q1.toUInt64 >>> ((62 : Int32) &&& 0x3f).toInt64.toUInt64).toInt64)))])
  show own_Ends _ _ _ _ _ _ _ T0 (mkF m 11 #[.val (.long q1), .second, .unset, .unset, .unset, .unset] [(.long (own_sy q1 (31 : Int32) (62 : Int32)))])
  refine own_step (fun _ k => XS.lstoreN X0.here hx rfl (hb hby d4_11) rfl (l' := #[.val (.long q1), .second, .val (.long (own_sy q1 (31 : Int32) (62 : Int32))), .second, .unset, .unset]) rfl k) ?_
  show own_Ends _ _ _ _ _ _ _ T0 (mkF m 12 #[.val (.long q1), .second, .val (.long (own_sy q1 (31 : Int32) (62 : Int32))), .second, .unset, .unset] [])
  refine own_step (fun _ k => XS.lloadN X0.here hx rfl (hb hby d4_12) rfl k) ?_
  show own_Ends _ _ _ _ _ _ _ T0 (mkF m 13 #[.val (.long q1), .second, .val (.long (own_sy q1 (31 : Int32) (62 : Int32))), .second, .unset, .unset] [(.long (own_sy q1 (31 : Int32) (62 : Int32)))])
  refine own_step (X0.ldc2Long hx hown (mvT hZ (hw _ (List.mem_of_getElem? (i := 23) rfl))) (g := (mkF m 13 #[.val (.long q1), .second, .val (.long (own_sy q1 (31 : Int32) (62 : Int32))), .second, .unset, .unset] [(.long (own_sy q1 (31 : Int32) (62 : Int32)))])) rfl (hb hby d4_13)) ?_
  show own_Ends _ _ _ _ _ _ _ T0 (mkF m 16 #[.val (.long q1), .second, .val (.long (own_sy q1 (31 : Int32) (62 : Int32))), .second, .unset, .unset] [(.long (-7723592293110705685 : Int64)), (.long (own_sy q1 (31 : Int32) (62 : Int32)))])
  refine own_callS X0 hx hZ (y := (⟨"com/example/lockstep/lockstep/workload/SeededRandomNextLongPinLaw", "inv", "(J)J"⟩ : MethodName)) hown (hw _ (List.mem_of_getElem? (i := 24) rfl)) (hw _ (List.mem_of_getElem? (i := 25) rfl)) (hw _ (List.mem_of_getElem? (i := 21) rfl)) (hw _ (List.mem_of_getElem? (i := 26) rfl)) (by decide) (rm5 l Z a0 hw [] (-7723592293110705685 : Int64) h0 n0 Z0) e0 2 (by decide) (by decide) (by decide) (by decide) (g := (mkF m 16 #[.val (.long q1), .second, .val (.long (own_sy q1 (31 : Int32) (62 : Int32))), .second, .unset, .unset] [(.long (-7723592293110705685 : Int64)), (.long (own_sy q1 (31 : Int32) (62 : Int32)))])) rfl (by rw [hml]; rfl) [(.long (-7723592293110705685 : Int64))] [(.long (own_sy q1 (31 : Int32) (62 : Int32)))] pd_0 rfl rfl rfl (by show 2 * 0 + _ ≤ _; exact Nat.le_of_eq rfl) (hb hby d4_16) ?_
  rintro v1 T1 L1 X1 ⟨rfl, Nq1, e1⟩
  have N1 := Fr.app N0 Nq1
  show own_Ends _ _ _ _ _ _ _ T1 (mkF m 19 #[.val (.long q1), .second, .val (.long (own_sy q1 (31 : Int32) (62 : Int32))), .second, .unset, .unset] [(.long (own_f5 (-7723592293110705685 : Int64))), (.long (own_sy q1 (31 : Int32) (62 : Int32)))])
  refine own_step (fun _ k => XS.lmul X1.here hx rfl (hb hby d4_19) rfl k) ?_
  show own_Ends _ _ _ _ _ _ _ T1 (mkF m 20 #[.val (.long q1), .second, .val (.long (own_sy q1 (31 : Int32) (62 : Int32))), .second, .unset, .unset] [(.long ((own_sy q1 (31 : Int32) (62 : Int32)) * (own_f5 (-7723592293110705685 : Int64))))])
  refine own_step (fun _ k => XS.lstoreN X1.here hx rfl (hb hby d4_20) rfl (l' := #[.val (.long q1), .second, .val (.long ((own_sy q1 (31 : Int32) (62 : Int32)) * (own_f5 (-7723592293110705685 : Int64)))), .second, .unset, .unset]) rfl k) ?_
  show own_Ends _ _ _ _ _ _ _ T1 (mkF m 21 #[.val (.long q1), .second, .val (.long ((own_sy q1 (31 : Int32) (62 : Int32)) * (own_f5 (-7723592293110705685 : Int64)))), .second, .unset, .unset] [])
  refine own_step (fun _ k => XS.lloadN X1.here hx rfl (hb hby d4_21) rfl k) ?_
  show own_Ends _ _ _ _ _ _ _ T1 (mkF m 22 #[.val (.long q1), .second, .val (.long ((own_sy q1 (31 : Int32) (62 : Int32)) * (own_f5 (-7723592293110705685 : Int64)))), .second, .unset, .unset] [(.long ((own_sy q1 (31 : Int32) (62 : Int32)) * (own_f5 (-7723592293110705685 : Int64))))])
  refine own_step (fun _ k => XS.lloadN X1.here hx rfl (hb hby d4_22) rfl k) ?_
  show own_Ends _ _ _ _ _ _ _ T1 (mkF m 23 #[.val (.long q1), .second, .val (.long ((own_sy q1 (31 : Int32) (62 : Int32)) * (own_f5 (-7723592293110705685 : Int64)))), .second, .unset, .unset] [(.long ((own_sy q1 (31 : Int32) (62 : Int32)) * (own_f5 (-7723592293110705685 : Int64)))), (.long ((own_sy q1 (31 : Int32) (62 : Int32)) * (own_f5 (-7723592293110705685 : Int64))))])
  refine own_step (fun _ k => XS.bipush X1.here hx rfl (hb hby d4_23) k) ?_
  show own_Ends _ _ _ _ _ _ _ T1 (mkF m 25 #[.val (.long q1), .second, .val (.long ((own_sy q1 (31 : Int32) (62 : Int32)) * (own_f5 (-7723592293110705685 : Int64)))), .second, .unset, .unset] [(.int (27 : Int32)), (.long ((own_sy q1 (31 : Int32) (62 : Int32)) * (own_f5 (-7723592293110705685 : Int64)))), (.long ((own_sy q1 (31 : Int32) (62 : Int32)) * (own_f5 (-7723592293110705685 : Int64))))])
  refine own_step (fun _ k => XS.lushr X1.here hx rfl (hb hby d4_25) rfl k) ?_
  show own_Ends _ _ _ _ _ _ _ T1 (mkF m 26 #[.val (.long q1), .second, .val (.long ((own_sy q1 (31 : Int32) (62 : Int32)) * (own_f5 (-7723592293110705685 : Int64)))), .second, .unset, .unset] [(.long ((((own_sy q1 (31 : Int32) (62 : Int32)) * (own_f5 (-7723592293110705685 : Int64))).toUInt64 >>> ((27 : Int32) &&& 0x3f).toInt64.toUInt64).toInt64)), (.long ((own_sy q1 (31 : Int32) (62 : Int32)) * (own_f5 (-7723592293110705685 : Int64))))])
  refine own_step (fun _ k => XS.lxor X1.here hx rfl (hb hby d4_26) rfl k) ?_
  show own_Ends _ _ _ _ _ _ _ T1 (mkF m 27 #[.val (.long q1), .second, .val (.long ((own_sy q1 (31 : Int32) (62 : Int32)) * (own_f5 (-7723592293110705685 : Int64)))), .second, .unset, .unset] [(.long (((own_sy q1 (31 : Int32) (62 : Int32)) * (own_f5 (-7723592293110705685 : Int64))) ^^^ ((((own_sy q1 (31 : Int32) (62 : Int32)) * (own_f5 (-7723592293110705685 : Int64))).toUInt64 >>> ((27 : Int32) &&& 0x3f).toInt64.toUInt64).toInt64)))])
  refine own_step (fun _ k => XS.lloadN X1.here hx rfl (hb hby d4_27) rfl k) ?_
  show own_Ends _ _ _ _ _ _ _ T1 (mkF m 28 #[.val (.long q1), .second, .val (.long ((own_sy q1 (31 : Int32) (62 : Int32)) * (own_f5 (-7723592293110705685 : Int64)))), .second, .unset, .unset] [(.long ((own_sy q1 (31 : Int32) (62 : Int32)) * (own_f5 (-7723592293110705685 : Int64)))), (.long (((own_sy q1 (31 : Int32) (62 : Int32)) * (own_f5 (-7723592293110705685 : Int64))) ^^^ ((((own_sy q1 (31 : Int32) (62 : Int32)) * (own_f5 (-7723592293110705685 : Int64))).toUInt64 >>> ((27 : Int32) &&& 0x3f).toInt64.toUInt64).toInt64)))])
  refine own_step (fun _ k => XS.bipush X1.here hx rfl (hb hby d4_28) k) ?_
  show own_Ends _ _ _ _ _ _ _ T1 (mkF m 30 #[.val (.long q1), .second, .val (.long ((own_sy q1 (31 : Int32) (62 : Int32)) * (own_f5 (-7723592293110705685 : Int64)))), .second, .unset, .unset] [(.int (54 : Int32)), (.long ((own_sy q1 (31 : Int32) (62 : Int32)) * (own_f5 (-7723592293110705685 : Int64)))), (.long (((own_sy q1 (31 : Int32) (62 : Int32)) * (own_f5 (-7723592293110705685 : Int64))) ^^^ ((((own_sy q1 (31 : Int32) (62 : Int32)) * (own_f5 (-7723592293110705685 : Int64))).toUInt64 >>> ((27 : Int32) &&& 0x3f).toInt64.toUInt64).toInt64)))])
  refine own_step (fun _ k => XS.lushr X1.here hx rfl (hb hby d4_30) rfl k) ?_
  show own_Ends _ _ _ _ _ _ _ T1 (mkF m 31 #[.val (.long q1), .second, .val (.long ((own_sy q1 (31 : Int32) (62 : Int32)) * (own_f5 (-7723592293110705685 : Int64)))), .second, .unset, .unset] [(.long ((((own_sy q1 (31 : Int32) (62 : Int32)) * (own_f5 (-7723592293110705685 : Int64))).toUInt64 >>> ((54 : Int32) &&& 0x3f).toInt64.toUInt64).toInt64)), (.long (((own_sy q1 (31 : Int32) (62 : Int32)) * (own_f5 (-7723592293110705685 : Int64))) ^^^ ((((own_sy q1 (31 : Int32) (62 : Int32)) * (own_f5 (-7723592293110705685 : Int64))).toUInt64 >>> ((27 : Int32) &&& 0x3f).toInt64.toUInt64).toInt64)))])
  refine own_step (fun _ k => XS.lxor X1.here hx rfl (hb hby d4_31) rfl k) ?_
  show own_Ends _ _ _ _ _ _ _ T1 (mkF m 32 #[.val (.long q1), .second, .val (.long ((own_sy q1 (31 : Int32) (62 : Int32)) * (own_f5 (-7723592293110705685 : Int64)))), .second, .unset, .unset] [(.long ((((own_sy q1 (31 : Int32) (62 : Int32)) * (own_f5 (-7723592293110705685 : Int64))) ^^^ ((((own_sy q1 (31 : Int32) (62 : Int32)) * (own_f5 (-7723592293110705685 : Int64))).toUInt64 >>> ((27 : Int32) &&& 0x3f).toInt64.toUInt64).toInt64)) ^^^ ((((own_sy q1 (31 : Int32) (62 : Int32)) * (own_f5 (-7723592293110705685 : Int64))).toUInt64 >>> ((54 : Int32) &&& 0x3f).toInt64.toUInt64).toInt64)))])
  show own_Ends _ _ _ _ _ _ _ T1 (mkF m 32 #[.val (.long q1), .second, .val (.long ((own_sy q1 (31 : Int32) (62 : Int32)) * (own_f5 (-7723592293110705685 : Int64)))), .second, .unset, .unset] [(.long (own_sy ((own_sy q1 (31 : Int32) (62 : Int32)) * (own_f5 (-7723592293110705685 : Int64))) (27 : Int32) (54 : Int32)))])
  refine own_step (fun _ k => XS.lstore X1.here hx rfl (hb hby d4_32) rfl (l' := #[.val (.long q1), .second, .val (.long ((own_sy q1 (31 : Int32) (62 : Int32)) * (own_f5 (-7723592293110705685 : Int64)))), .second, .val (.long (own_sy ((own_sy q1 (31 : Int32) (62 : Int32)) * (own_f5 (-7723592293110705685 : Int64))) (27 : Int32) (54 : Int32))), .second]) rfl k) ?_
  show own_Ends _ _ _ _ _ _ _ T1 (mkF m 34 #[.val (.long q1), .second, .val (.long ((own_sy q1 (31 : Int32) (62 : Int32)) * (own_f5 (-7723592293110705685 : Int64)))), .second, .val (.long (own_sy ((own_sy q1 (31 : Int32) (62 : Int32)) * (own_f5 (-7723592293110705685 : Int64))) (27 : Int32) (54 : Int32))), .second] [])
  refine own_step (fun _ k => XS.lload X1.here hx rfl (hb hby d4_34) rfl k) ?_
  show own_Ends _ _ _ _ _ _ _ T1 (mkF m 36 #[.val (.long q1), .second, .val (.long ((own_sy q1 (31 : Int32) (62 : Int32)) * (own_f5 (-7723592293110705685 : Int64)))), .second, .val (.long (own_sy ((own_sy q1 (31 : Int32) (62 : Int32)) * (own_f5 (-7723592293110705685 : Int64))) (27 : Int32) (54 : Int32))), .second] [(.long (own_sy ((own_sy q1 (31 : Int32) (62 : Int32)) * (own_f5 (-7723592293110705685 : Int64))) (27 : Int32) (54 : Int32)))])
  refine own_step (X1.ldc2Long hx hown (mvT hZ (hw _ (List.mem_of_getElem? (i := 28) rfl))) (g := (mkF m 36 #[.val (.long q1), .second, .val (.long ((own_sy q1 (31 : Int32) (62 : Int32)) * (own_f5 (-7723592293110705685 : Int64)))), .second, .val (.long (own_sy ((own_sy q1 (31 : Int32) (62 : Int32)) * (own_f5 (-7723592293110705685 : Int64))) (27 : Int32) (54 : Int32))), .second] [(.long (own_sy ((own_sy q1 (31 : Int32) (62 : Int32)) * (own_f5 (-7723592293110705685 : Int64))) (27 : Int32) (54 : Int32)))])) rfl (hb hby d4_36)) ?_
  show own_Ends _ _ _ _ _ _ _ T1 (mkF m 39 #[.val (.long q1), .second, .val (.long ((own_sy q1 (31 : Int32) (62 : Int32)) * (own_f5 (-7723592293110705685 : Int64)))), .second, .val (.long (own_sy ((own_sy q1 (31 : Int32) (62 : Int32)) * (own_f5 (-7723592293110705685 : Int64))) (27 : Int32) (54 : Int32))), .second] [(.long (-4658895280553007687 : Int64)), (.long (own_sy ((own_sy q1 (31 : Int32) (62 : Int32)) * (own_f5 (-7723592293110705685 : Int64))) (27 : Int32) (54 : Int32)))])
  refine own_callS X1 hx hZ (y := (⟨"com/example/lockstep/lockstep/workload/SeededRandomNextLongPinLaw", "inv", "(J)J"⟩ : MethodName)) hown (hw _ (List.mem_of_getElem? (i := 24) rfl)) (hw _ (List.mem_of_getElem? (i := 25) rfl)) (hw _ (List.mem_of_getElem? (i := 21) rfl)) (hw _ (List.mem_of_getElem? (i := 26) rfl)) (by decide) (rm5 l Z a0 hw [] (-4658895280553007687 : Int64) h0 n0 Z0) e1 2 (by decide) (by decide) (by decide) (by decide) (g := (mkF m 39 #[.val (.long q1), .second, .val (.long ((own_sy q1 (31 : Int32) (62 : Int32)) * (own_f5 (-7723592293110705685 : Int64)))), .second, .val (.long (own_sy ((own_sy q1 (31 : Int32) (62 : Int32)) * (own_f5 (-7723592293110705685 : Int64))) (27 : Int32) (54 : Int32))), .second] [(.long (-4658895280553007687 : Int64)), (.long (own_sy ((own_sy q1 (31 : Int32) (62 : Int32)) * (own_f5 (-7723592293110705685 : Int64))) (27 : Int32) (54 : Int32)))])) rfl (by rw [hml]; rfl) [(.long (-4658895280553007687 : Int64))] [(.long (own_sy ((own_sy q1 (31 : Int32) (62 : Int32)) * (own_f5 (-7723592293110705685 : Int64))) (27 : Int32) (54 : Int32)))] pd_0 rfl rfl rfl (by show 2 * 0 + _ ≤ _; exact Nat.le_of_eq rfl) (hb hby d4_39) ?_
  rintro v2 T2 L2 X2 ⟨rfl, Nq2, e2⟩
  have N2 := Fr.app N1 Nq2
  show own_Ends _ _ _ _ _ _ _ T2 (mkF m 42 #[.val (.long q1), .second, .val (.long ((own_sy q1 (31 : Int32) (62 : Int32)) * (own_f5 (-7723592293110705685 : Int64)))), .second, .val (.long (own_sy ((own_sy q1 (31 : Int32) (62 : Int32)) * (own_f5 (-7723592293110705685 : Int64))) (27 : Int32) (54 : Int32))), .second] [(.long (own_f5 (-4658895280553007687 : Int64))), (.long (own_sy ((own_sy q1 (31 : Int32) (62 : Int32)) * (own_f5 (-7723592293110705685 : Int64))) (27 : Int32) (54 : Int32)))])
  refine own_step (fun _ k => XS.lmul X2.here hx rfl (hb hby d4_42) rfl k) ?_
  show own_Ends _ _ _ _ _ _ _ T2 (mkF m 43 #[.val (.long q1), .second, .val (.long ((own_sy q1 (31 : Int32) (62 : Int32)) * (own_f5 (-7723592293110705685 : Int64)))), .second, .val (.long (own_sy ((own_sy q1 (31 : Int32) (62 : Int32)) * (own_f5 (-7723592293110705685 : Int64))) (27 : Int32) (54 : Int32))), .second] [(.long ((own_sy ((own_sy q1 (31 : Int32) (62 : Int32)) * (own_f5 (-7723592293110705685 : Int64))) (27 : Int32) (54 : Int32)) * (own_f5 (-4658895280553007687 : Int64))))])
  refine own_step (fun _ k => XS.lstore X2.here hx rfl (hb hby d4_43) rfl (l' := #[.val (.long q1), .second, .val (.long ((own_sy q1 (31 : Int32) (62 : Int32)) * (own_f5 (-7723592293110705685 : Int64)))), .second, .val (.long ((own_sy ((own_sy q1 (31 : Int32) (62 : Int32)) * (own_f5 (-7723592293110705685 : Int64))) (27 : Int32) (54 : Int32)) * (own_f5 (-4658895280553007687 : Int64)))), .second]) rfl k) ?_
  show own_Ends _ _ _ _ _ _ _ T2 (mkF m 45 #[.val (.long q1), .second, .val (.long ((own_sy q1 (31 : Int32) (62 : Int32)) * (own_f5 (-7723592293110705685 : Int64)))), .second, .val (.long ((own_sy ((own_sy q1 (31 : Int32) (62 : Int32)) * (own_f5 (-7723592293110705685 : Int64))) (27 : Int32) (54 : Int32)) * (own_f5 (-4658895280553007687 : Int64)))), .second] [])
  refine own_step (fun _ k => XS.lload X2.here hx rfl (hb hby d4_45) rfl k) ?_
  show own_Ends _ _ _ _ _ _ _ T2 (mkF m 47 #[.val (.long q1), .second, .val (.long ((own_sy q1 (31 : Int32) (62 : Int32)) * (own_f5 (-7723592293110705685 : Int64)))), .second, .val (.long ((own_sy ((own_sy q1 (31 : Int32) (62 : Int32)) * (own_f5 (-7723592293110705685 : Int64))) (27 : Int32) (54 : Int32)) * (own_f5 (-4658895280553007687 : Int64)))), .second] [(.long ((own_sy ((own_sy q1 (31 : Int32) (62 : Int32)) * (own_f5 (-7723592293110705685 : Int64))) (27 : Int32) (54 : Int32)) * (own_f5 (-4658895280553007687 : Int64))))])
  refine own_step (fun _ k => XS.lload X2.here hx rfl (hb hby d4_47) rfl k) ?_
  show own_Ends _ _ _ _ _ _ _ T2 (mkF m 49 #[.val (.long q1), .second, .val (.long ((own_sy q1 (31 : Int32) (62 : Int32)) * (own_f5 (-7723592293110705685 : Int64)))), .second, .val (.long ((own_sy ((own_sy q1 (31 : Int32) (62 : Int32)) * (own_f5 (-7723592293110705685 : Int64))) (27 : Int32) (54 : Int32)) * (own_f5 (-4658895280553007687 : Int64)))), .second] [(.long ((own_sy ((own_sy q1 (31 : Int32) (62 : Int32)) * (own_f5 (-7723592293110705685 : Int64))) (27 : Int32) (54 : Int32)) * (own_f5 (-4658895280553007687 : Int64)))), (.long ((own_sy ((own_sy q1 (31 : Int32) (62 : Int32)) * (own_f5 (-7723592293110705685 : Int64))) (27 : Int32) (54 : Int32)) * (own_f5 (-4658895280553007687 : Int64))))])
  refine own_step (fun _ k => XS.bipush X2.here hx rfl (hb hby d4_49) k) ?_
  show own_Ends _ _ _ _ _ _ _ T2 (mkF m 51 #[.val (.long q1), .second, .val (.long ((own_sy q1 (31 : Int32) (62 : Int32)) * (own_f5 (-7723592293110705685 : Int64)))), .second, .val (.long ((own_sy ((own_sy q1 (31 : Int32) (62 : Int32)) * (own_f5 (-7723592293110705685 : Int64))) (27 : Int32) (54 : Int32)) * (own_f5 (-4658895280553007687 : Int64)))), .second] [(.int (30 : Int32)), (.long ((own_sy ((own_sy q1 (31 : Int32) (62 : Int32)) * (own_f5 (-7723592293110705685 : Int64))) (27 : Int32) (54 : Int32)) * (own_f5 (-4658895280553007687 : Int64)))), (.long ((own_sy ((own_sy q1 (31 : Int32) (62 : Int32)) * (own_f5 (-7723592293110705685 : Int64))) (27 : Int32) (54 : Int32)) * (own_f5 (-4658895280553007687 : Int64))))])
  refine own_step (fun _ k => XS.lushr X2.here hx rfl (hb hby d4_51) rfl k) ?_
  show own_Ends _ _ _ _ _ _ _ T2 (mkF m 52 #[.val (.long q1), .second, .val (.long ((own_sy q1 (31 : Int32) (62 : Int32)) * (own_f5 (-7723592293110705685 : Int64)))), .second, .val (.long ((own_sy ((own_sy q1 (31 : Int32) (62 : Int32)) * (own_f5 (-7723592293110705685 : Int64))) (27 : Int32) (54 : Int32)) * (own_f5 (-4658895280553007687 : Int64)))), .second] [(.long ((((own_sy ((own_sy q1 (31 : Int32) (62 : Int32)) * (own_f5 (-7723592293110705685 : Int64))) (27 : Int32) (54 : Int32)) * (own_f5 (-4658895280553007687 : Int64))).toUInt64 >>> ((30 : Int32) &&& 0x3f).toInt64.toUInt64).toInt64)), (.long ((own_sy ((own_sy q1 (31 : Int32) (62 : Int32)) * (own_f5 (-7723592293110705685 : Int64))) (27 : Int32) (54 : Int32)) * (own_f5 (-4658895280553007687 : Int64))))])
  refine own_step (fun _ k => XS.lxor X2.here hx rfl (hb hby d4_52) rfl k) ?_
  show own_Ends _ _ _ _ _ _ _ T2 (mkF m 53 #[.val (.long q1), .second, .val (.long ((own_sy q1 (31 : Int32) (62 : Int32)) * (own_f5 (-7723592293110705685 : Int64)))), .second, .val (.long ((own_sy ((own_sy q1 (31 : Int32) (62 : Int32)) * (own_f5 (-7723592293110705685 : Int64))) (27 : Int32) (54 : Int32)) * (own_f5 (-4658895280553007687 : Int64)))), .second] [(.long (((own_sy ((own_sy q1 (31 : Int32) (62 : Int32)) * (own_f5 (-7723592293110705685 : Int64))) (27 : Int32) (54 : Int32)) * (own_f5 (-4658895280553007687 : Int64))) ^^^ ((((own_sy ((own_sy q1 (31 : Int32) (62 : Int32)) * (own_f5 (-7723592293110705685 : Int64))) (27 : Int32) (54 : Int32)) * (own_f5 (-4658895280553007687 : Int64))).toUInt64 >>> ((30 : Int32) &&& 0x3f).toInt64.toUInt64).toInt64)))])
  refine own_step (fun _ k => XS.lload X2.here hx rfl (hb hby d4_53) rfl k) ?_
  show own_Ends _ _ _ _ _ _ _ T2 (mkF m 55 #[.val (.long q1), .second, .val (.long ((own_sy q1 (31 : Int32) (62 : Int32)) * (own_f5 (-7723592293110705685 : Int64)))), .second, .val (.long ((own_sy ((own_sy q1 (31 : Int32) (62 : Int32)) * (own_f5 (-7723592293110705685 : Int64))) (27 : Int32) (54 : Int32)) * (own_f5 (-4658895280553007687 : Int64)))), .second] [(.long ((own_sy ((own_sy q1 (31 : Int32) (62 : Int32)) * (own_f5 (-7723592293110705685 : Int64))) (27 : Int32) (54 : Int32)) * (own_f5 (-4658895280553007687 : Int64)))), (.long (((own_sy ((own_sy q1 (31 : Int32) (62 : Int32)) * (own_f5 (-7723592293110705685 : Int64))) (27 : Int32) (54 : Int32)) * (own_f5 (-4658895280553007687 : Int64))) ^^^ ((((own_sy ((own_sy q1 (31 : Int32) (62 : Int32)) * (own_f5 (-7723592293110705685 : Int64))) (27 : Int32) (54 : Int32)) * (own_f5 (-4658895280553007687 : Int64))).toUInt64 >>> ((30 : Int32) &&& 0x3f).toInt64.toUInt64).toInt64)))])
  refine own_step (fun _ k => XS.bipush X2.here hx rfl (hb hby d4_55) k) ?_
  show own_Ends _ _ _ _ _ _ _ T2 (mkF m 57 #[.val (.long q1), .second, .val (.long ((own_sy q1 (31 : Int32) (62 : Int32)) * (own_f5 (-7723592293110705685 : Int64)))), .second, .val (.long ((own_sy ((own_sy q1 (31 : Int32) (62 : Int32)) * (own_f5 (-7723592293110705685 : Int64))) (27 : Int32) (54 : Int32)) * (own_f5 (-4658895280553007687 : Int64)))), .second] [(.int (60 : Int32)), (.long ((own_sy ((own_sy q1 (31 : Int32) (62 : Int32)) * (own_f5 (-7723592293110705685 : Int64))) (27 : Int32) (54 : Int32)) * (own_f5 (-4658895280553007687 : Int64)))), (.long (((own_sy ((own_sy q1 (31 : Int32) (62 : Int32)) * (own_f5 (-7723592293110705685 : Int64))) (27 : Int32) (54 : Int32)) * (own_f5 (-4658895280553007687 : Int64))) ^^^ ((((own_sy ((own_sy q1 (31 : Int32) (62 : Int32)) * (own_f5 (-7723592293110705685 : Int64))) (27 : Int32) (54 : Int32)) * (own_f5 (-4658895280553007687 : Int64))).toUInt64 >>> ((30 : Int32) &&& 0x3f).toInt64.toUInt64).toInt64)))])
  refine own_step (fun _ k => XS.lushr X2.here hx rfl (hb hby d4_57) rfl k) ?_
  show own_Ends _ _ _ _ _ _ _ T2 (mkF m 58 #[.val (.long q1), .second, .val (.long ((own_sy q1 (31 : Int32) (62 : Int32)) * (own_f5 (-7723592293110705685 : Int64)))), .second, .val (.long ((own_sy ((own_sy q1 (31 : Int32) (62 : Int32)) * (own_f5 (-7723592293110705685 : Int64))) (27 : Int32) (54 : Int32)) * (own_f5 (-4658895280553007687 : Int64)))), .second] [(.long ((((own_sy ((own_sy q1 (31 : Int32) (62 : Int32)) * (own_f5 (-7723592293110705685 : Int64))) (27 : Int32) (54 : Int32)) * (own_f5 (-4658895280553007687 : Int64))).toUInt64 >>> ((60 : Int32) &&& 0x3f).toInt64.toUInt64).toInt64)), (.long (((own_sy ((own_sy q1 (31 : Int32) (62 : Int32)) * (own_f5 (-7723592293110705685 : Int64))) (27 : Int32) (54 : Int32)) * (own_f5 (-4658895280553007687 : Int64))) ^^^ ((((own_sy ((own_sy q1 (31 : Int32) (62 : Int32)) * (own_f5 (-7723592293110705685 : Int64))) (27 : Int32) (54 : Int32)) * (own_f5 (-4658895280553007687 : Int64))).toUInt64 >>> ((30 : Int32) &&& 0x3f).toInt64.toUInt64).toInt64)))])
  refine own_step (fun _ k => XS.lxor X2.here hx rfl (hb hby d4_58) rfl k) ?_
  show own_Ends _ _ _ _ _ _ _ T2 (mkF m 59 #[.val (.long q1), .second, .val (.long ((own_sy q1 (31 : Int32) (62 : Int32)) * (own_f5 (-7723592293110705685 : Int64)))), .second, .val (.long ((own_sy ((own_sy q1 (31 : Int32) (62 : Int32)) * (own_f5 (-7723592293110705685 : Int64))) (27 : Int32) (54 : Int32)) * (own_f5 (-4658895280553007687 : Int64)))), .second] [(.long ((((own_sy ((own_sy q1 (31 : Int32) (62 : Int32)) * (own_f5 (-7723592293110705685 : Int64))) (27 : Int32) (54 : Int32)) * (own_f5 (-4658895280553007687 : Int64))) ^^^ ((((own_sy ((own_sy q1 (31 : Int32) (62 : Int32)) * (own_f5 (-7723592293110705685 : Int64))) (27 : Int32) (54 : Int32)) * (own_f5 (-4658895280553007687 : Int64))).toUInt64 >>> ((30 : Int32) &&& 0x3f).toInt64.toUInt64).toInt64)) ^^^ ((((own_sy ((own_sy q1 (31 : Int32) (62 : Int32)) * (own_f5 (-7723592293110705685 : Int64))) (27 : Int32) (54 : Int32)) * (own_f5 (-4658895280553007687 : Int64))).toUInt64 >>> ((60 : Int32) &&& 0x3f).toInt64.toUInt64).toInt64)))])
  show own_Ends _ _ _ _ _ _ _ T2 (mkF m 59 #[.val (.long q1), .second, .val (.long ((own_sy q1 (31 : Int32) (62 : Int32)) * (own_f5 (-7723592293110705685 : Int64)))), .second, .val (.long ((own_sy ((own_sy q1 (31 : Int32) (62 : Int32)) * (own_f5 (-7723592293110705685 : Int64))) (27 : Int32) (54 : Int32)) * (own_f5 (-4658895280553007687 : Int64)))), .second] [(.long (own_sy ((own_sy ((own_sy q1 (31 : Int32) (62 : Int32)) * (own_f5 (-7723592293110705685 : Int64))) (27 : Int32) (54 : Int32)) * (own_f5 (-4658895280553007687 : Int64))) (30 : Int32) (60 : Int32)))])
  exact own_retL X2 hx hret hlk (hb hby d4_59) ⟨own_leafJ rfl, N2, e2⟩ (by decide) (by decide)
theorem d1_0 : decode prog_61_method_1_code 0 = .ok (.aload_n 0, 1) := by decide +kernel
theorem d1_1 : decode prog_61_method_1_code 1 = .ok (.invokespecial 1, 3) := by decide +kernel
theorem d1_4 : decode prog_61_method_1_code 4 = .ok (.aload_n 0, 1) := by decide +kernel
theorem d1_5 : decode prog_61_method_1_code 5 = .ok (.lload_n 1, 1) := by decide +kernel
theorem d1_6 : decode prog_61_method_1_code 6 = .ok (.putfield 7, 3) := by decide +kernel
theorem d1_9 : decode prog_61_method_1_code 9 = .ok (.return_, 1) := by decide +kernel
theorem ef_1 (a1 : Addr) (q2 : Int64) (m : MethodId) : entryFrame m #[(.ref a1), (.long q2)] 3 = mkF m 0 #[.val (.ref a1), .val (.long q2), .second] [] := by first | (simp [entryFrame, mkF, argsToLocals, Value.category]; done) | rfl
theorem pn_1 : plainName "com/example/lockstep/lockstep/workload/SeededRandom" = true := by first | (simp [plainName, overriddenIn]; done) | decide +kernel
set_option maxRecDepth 65536 in
set_option maxHeartbeats 40000000 in
theorem rm1 (l : Launch) (Z : State) (a0 : Array Value) (hw : ∀ d ∈ tables_1, d.before a0 Z = true) (ws : List Jvm.Cond) (a1 : Addr) (q2 : Int64) (h0 : Heap) (n0 : Nat) (Z0 : n0 ≤ h0.size) (E_a1 : Exa Z h0 a1 "com/example/lockstep/lockstep/workload/SeededRandom") (F_a1 : Fld Z h0 a1 "com/example/lockstep/lockstep/workload/SeededRandom" "state" "J" (.long (0 : Int64))) (g_a1 : n0 ≤ a1) :
    own_Met l (⟨"com/example/lockstep/lockstep/workload/SeededRandom", "<init>", "(J)V"⟩ : MethodName) prog_61_method_1_code 3 none ws ({ frames := 1, cells := 0, slots := 0, locals := 12 } : Room) #[(.ref a1), (.long q2)] Z h0 (fun v h L => v = none ∧ Fr n0 L ∧ Keep h0 h [a1] ∧ Exa Z h a1 "com/example/lockstep/lockstep/workload/SeededRandom" ∧ Fld Z h a1 "com/example/lockstep/lockstep/workload/SeededRandom" "state" "J" (.long q2)) := by
  refine own_body (plainFor_of_name pn_1) (ef_1 a1 q2) ?_
  intro p e s m below meth c T0 X0 hx hby hml0 hret hlk hnm hown hZ e0
  have hml : c.maxLocals = 3 := hml0
  have N0 := Fr.nil n0
  refine own_step (fun _ k => XS.aloadN X0.here hx rfl (hb hby d1_0) rfl rfl k) ?_
  show own_Ends _ _ _ _ _ _ _ T0 (mkF m 1 #[.val (.ref a1), .val (.long q2), .second] [(.ref a1)])
  obtain ⟨T1, X1, e1, st1⟩ := initO X0 hx hZ hown (hw _ (List.mem_of_getElem? (i := 6) rfl)) (hw _ (List.mem_of_getElem? (i := 7) rfl)) (hw _ (List.mem_of_getElem? (i := 8) rfl)) e0 (g := (mkF m 1 #[.val (.ref a1), .val (.long q2), .second] [(.ref a1)])) rfl (by rw [hml]; rfl) rfl (hb hby d1_1) (by decide) (W := 0) (by show 2 * 0 + _ ≤ _; exact Nat.le_of_eq rfl) (by decide)
  refine own_step st1 ?_
  show own_Ends _ _ _ _ _ _ _ T1 (mkF m 4 #[.val (.ref a1), .val (.long q2), .second] [])
  refine own_step (fun _ k => XS.aloadN X1.here hx rfl (hb hby d1_4) rfl rfl k) ?_
  show own_Ends _ _ _ _ _ _ _ T1 (mkF m 5 #[.val (.ref a1), .val (.long q2), .second] [(.ref a1)])
  refine own_step (fun _ k => XS.lloadN X1.here hx rfl (hb hby d1_5) rfl k) ?_
  show own_Ends _ _ _ _ _ _ _ T1 (mkF m 6 #[.val (.ref a1), .val (.long q2), .second] [(.long q2), (.ref a1)])
  obtain ⟨T2, h2, X2, e2, W2, st2⟩ := putF X1 hx hZ hown (host := "") (Or.inl (hw _ (List.mem_of_getElem? (i := 9) rfl))) Via.refl e1 F_a1 E_a1 (Or.inl (hw _ (List.mem_of_getElem? (i := 10) rfl))) (hw _ (List.mem_of_getElem? (i := 1) rfl)) (ty := .long) (by decide) rfl rfl (g := (mkF m 6 #[.val (.ref a1), .val (.long q2), .second] [(.long q2), (.ref a1)])) rfl rfl (hb hby d1_6)
  refine own_step st2 ?_
  have N2 := Fr.snoc X2 N0 g_a1
  have F2 := F_a1.same W2
  have Z2 := Nat.le_trans Z0 (Keep.of_wr W2).1
  have KK2 := (Keep.refl h0 [a1]).wr W2 (Or.inl (List.mem_of_getElem? (i := 0) rfl))
  show own_Ends _ _ _ _ _ _ _ T2 (mkF m 9 #[.val (.ref a1), .val (.long q2), .second] [])
  have Q3 := (E_a1.wr W2)
  exact own_retV X2 hx hret hlk (hb hby d1_9) (by rw [e2]; exact ⟨rfl, N2, KK2, Q3, F2⟩) (by decide) (by decide)
theorem d3_0 : decode prog_61_method_3_code 0 = .ok (.aload_n 0, 1) := by decide +kernel
theorem d3_1 : decode prog_61_method_3_code 1 = .ok (.dup, 1) := by decide +kernel
theorem d3_2 : decode prog_61_method_3_code 2 = .ok (.getfield 7, 3) := by decide +kernel
theorem d3_5 : decode prog_61_method_3_code 5 = .ok (.ldc2_w 20, 3) := by decide +kernel
theorem d3_8 : decode prog_61_method_3_code 8 = .ok (.ladd, 1) := by decide +kernel
theorem d3_9 : decode prog_61_method_3_code 9 = .ok (.putfield 7, 3) := by decide +kernel
theorem d3_12 : decode prog_61_method_3_code 12 = .ok (.aload_n 0, 1) := by decide +kernel
theorem d3_13 : decode prog_61_method_3_code 13 = .ok (.getfield 7, 3) := by decide +kernel
theorem d3_16 : decode prog_61_method_3_code 16 = .ok (.lstore_n 1, 1) := by decide +kernel
theorem d3_17 : decode prog_61_method_3_code 17 = .ok (.lload_n 1, 1) := by decide +kernel
theorem d3_18 : decode prog_61_method_3_code 18 = .ok (.lload_n 1, 1) := by decide +kernel
theorem d3_19 : decode prog_61_method_3_code 19 = .ok (.bipush 30, 2) := by decide +kernel
theorem d3_21 : decode prog_61_method_3_code 21 = .ok (.lushr, 1) := by decide +kernel
theorem d3_22 : decode prog_61_method_3_code 22 = .ok (.lxor, 1) := by decide +kernel
theorem d3_23 : decode prog_61_method_3_code 23 = .ok (.ldc2_w 22, 3) := by decide +kernel
theorem d3_26 : decode prog_61_method_3_code 26 = .ok (.lmul, 1) := by decide +kernel
theorem d3_27 : decode prog_61_method_3_code 27 = .ok (.lstore_n 1, 1) := by decide +kernel
theorem d3_28 : decode prog_61_method_3_code 28 = .ok (.lload_n 1, 1) := by decide +kernel
theorem d3_29 : decode prog_61_method_3_code 29 = .ok (.lload_n 1, 1) := by decide +kernel
theorem d3_30 : decode prog_61_method_3_code 30 = .ok (.bipush 27, 2) := by decide +kernel
theorem d3_32 : decode prog_61_method_3_code 32 = .ok (.lushr, 1) := by decide +kernel
theorem d3_33 : decode prog_61_method_3_code 33 = .ok (.lxor, 1) := by decide +kernel
theorem d3_34 : decode prog_61_method_3_code 34 = .ok (.ldc2_w 24, 3) := by decide +kernel
theorem d3_37 : decode prog_61_method_3_code 37 = .ok (.lmul, 1) := by decide +kernel
theorem d3_38 : decode prog_61_method_3_code 38 = .ok (.lstore_n 1, 1) := by decide +kernel
theorem d3_39 : decode prog_61_method_3_code 39 = .ok (.lload_n 1, 1) := by decide +kernel
theorem d3_40 : decode prog_61_method_3_code 40 = .ok (.lload_n 1, 1) := by decide +kernel
theorem d3_41 : decode prog_61_method_3_code 41 = .ok (.bipush 31, 2) := by decide +kernel
theorem d3_43 : decode prog_61_method_3_code 43 = .ok (.lushr, 1) := by decide +kernel
theorem d3_44 : decode prog_61_method_3_code 44 = .ok (.lxor, 1) := by decide +kernel
theorem d3_45 : decode prog_61_method_3_code 45 = .ok (.lreturn, 1) := by decide +kernel
theorem ef_3 (a1 : Addr) (m : MethodId) : entryFrame m #[(.ref a1)] 3 = mkF m 0 #[.val (.ref a1), .unset, .unset] [] := by first | (simp [entryFrame, mkF, argsToLocals, Value.category]; done) | rfl
set_option maxRecDepth 65536 in
set_option maxHeartbeats 40000000 in
theorem rm3 (l : Launch) (Z : State) (a0 : Array Value) (hw : ∀ d ∈ tables_1, d.before a0 Z = true) (ws : List Jvm.Cond) (a1 : Addr) (q : Int64) (h0 : Heap) (n0 : Nat) (Z0 : n0 ≤ h0.size) (E_a1 : Exa Z h0 a1 "com/example/lockstep/lockstep/workload/SeededRandom") (F_a1 : Fld Z h0 a1 "com/example/lockstep/lockstep/workload/SeededRandom" "state" "J" (.long q)) (g_a1 : n0 ≤ a1) :
    own_Met l (⟨"com/example/lockstep/lockstep/workload/SeededRandom", "nextLong", "()J"⟩ : MethodName) prog_61_method_3_code 3 (some .long) ws ({ frames := 0, cells := 0, slots := 0, locals := 0 } : Room) #[(.ref a1)] Z h0 (fun v h L => v = some (.long (own_mix (q + (-7046029254386353131 : Int64)))) ∧ Fr n0 L ∧ Keep h0 h [a1] ∧ Exa Z h a1 "com/example/lockstep/lockstep/workload/SeededRandom" ∧ Fld Z h a1 "com/example/lockstep/lockstep/workload/SeededRandom" "state" "J" (.long (q + (-7046029254386353131 : Int64)))) := by
  refine own_body (plainFor_of_name pn_1) (ef_3 a1) ?_
  intro p e s m below meth c T0 X0 hx hby hml0 hret hlk hnm hown hZ e0
  have hml : c.maxLocals = 3 := hml0
  have N0 := Fr.nil n0
  refine own_step (fun _ k => XS.aloadN X0.here hx rfl (hb hby d3_0) rfl rfl k) ?_
  show own_Ends _ _ _ _ _ _ _ T0 (mkF m 1 #[.val (.ref a1), .unset, .unset] [(.ref a1)])
  refine own_step (fun _ k => XS.dup X0.here hx rfl (hb hby d3_1) rfl rfl k) ?_
  show own_Ends _ _ _ _ _ _ _ T0 (mkF m 2 #[.val (.ref a1), .unset, .unset] [(.ref a1), (.ref a1)])
  obtain ⟨T1, X1, e1, st1⟩ := getF X0 hx hZ hown (host := "") (Or.inl (hw _ (List.mem_of_getElem? (i := 9) rfl))) Via.refl e0 F_a1 (g := (mkF m 2 #[.val (.ref a1), .unset, .unset] [(.ref a1), (.ref a1)])) rfl rfl (hb hby d3_2)
  refine own_step st1 ?_
  show own_Ends _ _ _ _ _ _ _ T1 (mkF m 5 #[.val (.ref a1), .unset, .unset] [(.long q), (.ref a1)])
  refine own_step (X1.ldc2Long hx hown (mvT hZ (hw _ (List.mem_of_getElem? (i := 16) rfl))) (g := (mkF m 5 #[.val (.ref a1), .unset, .unset] [(.long q), (.ref a1)])) rfl (hb hby d3_5)) ?_
  show own_Ends _ _ _ _ _ _ _ T1 (mkF m 8 #[.val (.ref a1), .unset, .unset] [(.long (-7046029254386353131 : Int64)), (.long q), (.ref a1)])
  refine own_step (fun _ k => XS.ladd X1.here hx rfl (hb hby d3_8) rfl k) ?_
  show own_Ends _ _ _ _ _ _ _ T1 (mkF m 9 #[.val (.ref a1), .unset, .unset] [(.long (q + (-7046029254386353131 : Int64))), (.ref a1)])
  obtain ⟨T2, h2, X2, e2, W2, st2⟩ := putF X1 hx hZ hown (host := "") (Or.inl (hw _ (List.mem_of_getElem? (i := 9) rfl))) Via.refl e1 F_a1 E_a1 (Or.inl (hw _ (List.mem_of_getElem? (i := 10) rfl))) (hw _ (List.mem_of_getElem? (i := 1) rfl)) (ty := .long) (by decide) rfl rfl (g := (mkF m 9 #[.val (.ref a1), .unset, .unset] [(.long (q + (-7046029254386353131 : Int64))), (.ref a1)])) rfl rfl (hb hby d3_9)
  refine own_step st2 ?_
  have N2 := Fr.snoc X2 N0 g_a1
  have F2 := F_a1.same W2
  have Z2 := Nat.le_trans Z0 (Keep.of_wr W2).1
  have KK2 := (Keep.refl h0 [a1]).wr W2 (Or.inl (List.mem_of_getElem? (i := 0) rfl))
  show own_Ends _ _ _ _ _ _ _ T2 (mkF m 12 #[.val (.ref a1), .unset, .unset] [])
  refine own_step (fun _ k => XS.aloadN X2.here hx rfl (hb hby d3_12) rfl rfl k) ?_
  show own_Ends _ _ _ _ _ _ _ T2 (mkF m 13 #[.val (.ref a1), .unset, .unset] [(.ref a1)])
  obtain ⟨T3, X3, e3, st3⟩ := getF X2 hx hZ hown (host := "") (Or.inl (hw _ (List.mem_of_getElem? (i := 9) rfl))) Via.refl e2 F2 (g := (mkF m 13 #[.val (.ref a1), .unset, .unset] [(.ref a1)])) rfl rfl (hb hby d3_13)
  refine own_step st3 ?_
  show own_Ends _ _ _ _ _ _ _ T3 (mkF m 16 #[.val (.ref a1), .unset, .unset] [(.long (q + (-7046029254386353131 : Int64)))])
  refine own_step (fun _ k => XS.lstoreN X3.here hx rfl (hb hby d3_16) rfl (l' := #[.val (.ref a1), .val (.long (q + (-7046029254386353131 : Int64))), .second]) rfl k) ?_
  show own_Ends _ _ _ _ _ _ _ T3 (mkF m 17 #[.val (.ref a1), .val (.long (q + (-7046029254386353131 : Int64))), .second] [])
  refine own_step (fun _ k => XS.lloadN X3.here hx rfl (hb hby d3_17) rfl k) ?_
  show own_Ends _ _ _ _ _ _ _ T3 (mkF m 18 #[.val (.ref a1), .val (.long (q + (-7046029254386353131 : Int64))), .second] [(.long (q + (-7046029254386353131 : Int64)))])
  refine own_step (fun _ k => XS.lloadN X3.here hx rfl (hb hby d3_18) rfl k) ?_
  show own_Ends _ _ _ _ _ _ _ T3 (mkF m 19 #[.val (.ref a1), .val (.long (q + (-7046029254386353131 : Int64))), .second] [(.long (q + (-7046029254386353131 : Int64))), (.long (q + (-7046029254386353131 : Int64)))])
  refine own_step (fun _ k => XS.bipush X3.here hx rfl (hb hby d3_19) k) ?_
  show own_Ends _ _ _ _ _ _ _ T3 (mkF m 21 #[.val (.ref a1), .val (.long (q + (-7046029254386353131 : Int64))), .second] [(.int (30 : Int32)), (.long (q + (-7046029254386353131 : Int64))), (.long (q + (-7046029254386353131 : Int64)))])
  refine own_step (fun _ k => XS.lushr X3.here hx rfl (hb hby d3_21) rfl k) ?_
  show own_Ends _ _ _ _ _ _ _ T3 (mkF m 22 #[.val (.ref a1), .val (.long (q + (-7046029254386353131 : Int64))), .second] [(.long (((q + (-7046029254386353131 : Int64)).toUInt64 >>> ((30 : Int32) &&& 0x3f).toInt64.toUInt64).toInt64)), (.long (q + (-7046029254386353131 : Int64)))])
  refine own_step (fun _ k => XS.lxor X3.here hx rfl (hb hby d3_22) rfl k) ?_
  show own_Ends _ _ _ _ _ _ _ T3 (mkF m 23 #[.val (.ref a1), .val (.long (q + (-7046029254386353131 : Int64))), .second] [(.long ((q + (-7046029254386353131 : Int64)) ^^^ (((q + (-7046029254386353131 : Int64)).toUInt64 >>> ((30 : Int32) &&& 0x3f).toInt64.toUInt64).toInt64)))])
  show own_Ends _ _ _ _ _ _ _ T3 (mkF m 23 #[.val (.ref a1), .val (.long (q + (-7046029254386353131 : Int64))), .second] [(.long (own_sx (q + (-7046029254386353131 : Int64)) (30 : Int32)))])
  refine own_step (X3.ldc2Long hx hown (mvT hZ (hw _ (List.mem_of_getElem? (i := 17) rfl))) (g := (mkF m 23 #[.val (.ref a1), .val (.long (q + (-7046029254386353131 : Int64))), .second] [(.long (own_sx (q + (-7046029254386353131 : Int64)) (30 : Int32)))])) rfl (hb hby d3_23)) ?_
  show own_Ends _ _ _ _ _ _ _ T3 (mkF m 26 #[.val (.ref a1), .val (.long (q + (-7046029254386353131 : Int64))), .second] [(.long (-4658895280553007687 : Int64)), (.long (own_sx (q + (-7046029254386353131 : Int64)) (30 : Int32)))])
  refine own_step (fun _ k => XS.lmul X3.here hx rfl (hb hby d3_26) rfl k) ?_
  show own_Ends _ _ _ _ _ _ _ T3 (mkF m 27 #[.val (.ref a1), .val (.long (q + (-7046029254386353131 : Int64))), .second] [(.long ((own_sx (q + (-7046029254386353131 : Int64)) (30 : Int32)) * (-4658895280553007687 : Int64)))])
  refine own_step (fun _ k => XS.lstoreN X3.here hx rfl (hb hby d3_27) rfl (l' := #[.val (.ref a1), .val (.long ((own_sx (q + (-7046029254386353131 : Int64)) (30 : Int32)) * (-4658895280553007687 : Int64))), .second]) rfl k) ?_
  show own_Ends _ _ _ _ _ _ _ T3 (mkF m 28 #[.val (.ref a1), .val (.long ((own_sx (q + (-7046029254386353131 : Int64)) (30 : Int32)) * (-4658895280553007687 : Int64))), .second] [])
  refine own_step (fun _ k => XS.lloadN X3.here hx rfl (hb hby d3_28) rfl k) ?_
  show own_Ends _ _ _ _ _ _ _ T3 (mkF m 29 #[.val (.ref a1), .val (.long ((own_sx (q + (-7046029254386353131 : Int64)) (30 : Int32)) * (-4658895280553007687 : Int64))), .second] [(.long ((own_sx (q + (-7046029254386353131 : Int64)) (30 : Int32)) * (-4658895280553007687 : Int64)))])
  refine own_step (fun _ k => XS.lloadN X3.here hx rfl (hb hby d3_29) rfl k) ?_
  show own_Ends _ _ _ _ _ _ _ T3 (mkF m 30 #[.val (.ref a1), .val (.long ((own_sx (q + (-7046029254386353131 : Int64)) (30 : Int32)) * (-4658895280553007687 : Int64))), .second] [(.long ((own_sx (q + (-7046029254386353131 : Int64)) (30 : Int32)) * (-4658895280553007687 : Int64))), (.long ((own_sx (q + (-7046029254386353131 : Int64)) (30 : Int32)) * (-4658895280553007687 : Int64)))])
  refine own_step (fun _ k => XS.bipush X3.here hx rfl (hb hby d3_30) k) ?_
  show own_Ends _ _ _ _ _ _ _ T3 (mkF m 32 #[.val (.ref a1), .val (.long ((own_sx (q + (-7046029254386353131 : Int64)) (30 : Int32)) * (-4658895280553007687 : Int64))), .second] [(.int (27 : Int32)), (.long ((own_sx (q + (-7046029254386353131 : Int64)) (30 : Int32)) * (-4658895280553007687 : Int64))), (.long ((own_sx (q + (-7046029254386353131 : Int64)) (30 : Int32)) * (-4658895280553007687 : Int64)))])
  refine own_step (fun _ k => XS.lushr X3.here hx rfl (hb hby d3_32) rfl k) ?_
  show own_Ends _ _ _ _ _ _ _ T3 (mkF m 33 #[.val (.ref a1), .val (.long ((own_sx (q + (-7046029254386353131 : Int64)) (30 : Int32)) * (-4658895280553007687 : Int64))), .second] [(.long ((((own_sx (q + (-7046029254386353131 : Int64)) (30 : Int32)) * (-4658895280553007687 : Int64)).toUInt64 >>> ((27 : Int32) &&& 0x3f).toInt64.toUInt64).toInt64)), (.long ((own_sx (q + (-7046029254386353131 : Int64)) (30 : Int32)) * (-4658895280553007687 : Int64)))])
  refine own_step (fun _ k => XS.lxor X3.here hx rfl (hb hby d3_33) rfl k) ?_
  show own_Ends _ _ _ _ _ _ _ T3 (mkF m 34 #[.val (.ref a1), .val (.long ((own_sx (q + (-7046029254386353131 : Int64)) (30 : Int32)) * (-4658895280553007687 : Int64))), .second] [(.long (((own_sx (q + (-7046029254386353131 : Int64)) (30 : Int32)) * (-4658895280553007687 : Int64)) ^^^ ((((own_sx (q + (-7046029254386353131 : Int64)) (30 : Int32)) * (-4658895280553007687 : Int64)).toUInt64 >>> ((27 : Int32) &&& 0x3f).toInt64.toUInt64).toInt64)))])
  show own_Ends _ _ _ _ _ _ _ T3 (mkF m 34 #[.val (.ref a1), .val (.long ((own_sx (q + (-7046029254386353131 : Int64)) (30 : Int32)) * (-4658895280553007687 : Int64))), .second] [(.long (own_sx ((own_sx (q + (-7046029254386353131 : Int64)) (30 : Int32)) * (-4658895280553007687 : Int64)) (27 : Int32)))])
  refine own_step (X3.ldc2Long hx hown (mvT hZ (hw _ (List.mem_of_getElem? (i := 18) rfl))) (g := (mkF m 34 #[.val (.ref a1), .val (.long ((own_sx (q + (-7046029254386353131 : Int64)) (30 : Int32)) * (-4658895280553007687 : Int64))), .second] [(.long (own_sx ((own_sx (q + (-7046029254386353131 : Int64)) (30 : Int32)) * (-4658895280553007687 : Int64)) (27 : Int32)))])) rfl (hb hby d3_34)) ?_
  show own_Ends _ _ _ _ _ _ _ T3 (mkF m 37 #[.val (.ref a1), .val (.long ((own_sx (q + (-7046029254386353131 : Int64)) (30 : Int32)) * (-4658895280553007687 : Int64))), .second] [(.long (-7723592293110705685 : Int64)), (.long (own_sx ((own_sx (q + (-7046029254386353131 : Int64)) (30 : Int32)) * (-4658895280553007687 : Int64)) (27 : Int32)))])
  refine own_step (fun _ k => XS.lmul X3.here hx rfl (hb hby d3_37) rfl k) ?_
  show own_Ends _ _ _ _ _ _ _ T3 (mkF m 38 #[.val (.ref a1), .val (.long ((own_sx (q + (-7046029254386353131 : Int64)) (30 : Int32)) * (-4658895280553007687 : Int64))), .second] [(.long ((own_sx ((own_sx (q + (-7046029254386353131 : Int64)) (30 : Int32)) * (-4658895280553007687 : Int64)) (27 : Int32)) * (-7723592293110705685 : Int64)))])
  refine own_step (fun _ k => XS.lstoreN X3.here hx rfl (hb hby d3_38) rfl (l' := #[.val (.ref a1), .val (.long ((own_sx ((own_sx (q + (-7046029254386353131 : Int64)) (30 : Int32)) * (-4658895280553007687 : Int64)) (27 : Int32)) * (-7723592293110705685 : Int64))), .second]) rfl k) ?_
  show own_Ends _ _ _ _ _ _ _ T3 (mkF m 39 #[.val (.ref a1), .val (.long ((own_sx ((own_sx (q + (-7046029254386353131 : Int64)) (30 : Int32)) * (-4658895280553007687 : Int64)) (27 : Int32)) * (-7723592293110705685 : Int64))), .second] [])
  refine own_step (fun _ k => XS.lloadN X3.here hx rfl (hb hby d3_39) rfl k) ?_
  show own_Ends _ _ _ _ _ _ _ T3 (mkF m 40 #[.val (.ref a1), .val (.long ((own_sx ((own_sx (q + (-7046029254386353131 : Int64)) (30 : Int32)) * (-4658895280553007687 : Int64)) (27 : Int32)) * (-7723592293110705685 : Int64))), .second] [(.long ((own_sx ((own_sx (q + (-7046029254386353131 : Int64)) (30 : Int32)) * (-4658895280553007687 : Int64)) (27 : Int32)) * (-7723592293110705685 : Int64)))])
  refine own_step (fun _ k => XS.lloadN X3.here hx rfl (hb hby d3_40) rfl k) ?_
  show own_Ends _ _ _ _ _ _ _ T3 (mkF m 41 #[.val (.ref a1), .val (.long ((own_sx ((own_sx (q + (-7046029254386353131 : Int64)) (30 : Int32)) * (-4658895280553007687 : Int64)) (27 : Int32)) * (-7723592293110705685 : Int64))), .second] [(.long ((own_sx ((own_sx (q + (-7046029254386353131 : Int64)) (30 : Int32)) * (-4658895280553007687 : Int64)) (27 : Int32)) * (-7723592293110705685 : Int64))), (.long ((own_sx ((own_sx (q + (-7046029254386353131 : Int64)) (30 : Int32)) * (-4658895280553007687 : Int64)) (27 : Int32)) * (-7723592293110705685 : Int64)))])
  refine own_step (fun _ k => XS.bipush X3.here hx rfl (hb hby d3_41) k) ?_
  show own_Ends _ _ _ _ _ _ _ T3 (mkF m 43 #[.val (.ref a1), .val (.long ((own_sx ((own_sx (q + (-7046029254386353131 : Int64)) (30 : Int32)) * (-4658895280553007687 : Int64)) (27 : Int32)) * (-7723592293110705685 : Int64))), .second] [(.int (31 : Int32)), (.long ((own_sx ((own_sx (q + (-7046029254386353131 : Int64)) (30 : Int32)) * (-4658895280553007687 : Int64)) (27 : Int32)) * (-7723592293110705685 : Int64))), (.long ((own_sx ((own_sx (q + (-7046029254386353131 : Int64)) (30 : Int32)) * (-4658895280553007687 : Int64)) (27 : Int32)) * (-7723592293110705685 : Int64)))])
  refine own_step (fun _ k => XS.lushr X3.here hx rfl (hb hby d3_43) rfl k) ?_
  show own_Ends _ _ _ _ _ _ _ T3 (mkF m 44 #[.val (.ref a1), .val (.long ((own_sx ((own_sx (q + (-7046029254386353131 : Int64)) (30 : Int32)) * (-4658895280553007687 : Int64)) (27 : Int32)) * (-7723592293110705685 : Int64))), .second] [(.long ((((own_sx ((own_sx (q + (-7046029254386353131 : Int64)) (30 : Int32)) * (-4658895280553007687 : Int64)) (27 : Int32)) * (-7723592293110705685 : Int64)).toUInt64 >>> ((31 : Int32) &&& 0x3f).toInt64.toUInt64).toInt64)), (.long ((own_sx ((own_sx (q + (-7046029254386353131 : Int64)) (30 : Int32)) * (-4658895280553007687 : Int64)) (27 : Int32)) * (-7723592293110705685 : Int64)))])
  refine own_step (fun _ k => XS.lxor X3.here hx rfl (hb hby d3_44) rfl k) ?_
  show own_Ends _ _ _ _ _ _ _ T3 (mkF m 45 #[.val (.ref a1), .val (.long ((own_sx ((own_sx (q + (-7046029254386353131 : Int64)) (30 : Int32)) * (-4658895280553007687 : Int64)) (27 : Int32)) * (-7723592293110705685 : Int64))), .second] [(.long (((own_sx ((own_sx (q + (-7046029254386353131 : Int64)) (30 : Int32)) * (-4658895280553007687 : Int64)) (27 : Int32)) * (-7723592293110705685 : Int64)) ^^^ ((((own_sx ((own_sx (q + (-7046029254386353131 : Int64)) (30 : Int32)) * (-4658895280553007687 : Int64)) (27 : Int32)) * (-7723592293110705685 : Int64)).toUInt64 >>> ((31 : Int32) &&& 0x3f).toInt64.toUInt64).toInt64)))])
  show own_Ends _ _ _ _ _ _ _ T3 (mkF m 45 #[.val (.ref a1), .val (.long ((own_sx ((own_sx (q + (-7046029254386353131 : Int64)) (30 : Int32)) * (-4658895280553007687 : Int64)) (27 : Int32)) * (-7723592293110705685 : Int64))), .second] [(.long (own_sx ((own_sx ((own_sx (q + (-7046029254386353131 : Int64)) (30 : Int32)) * (-4658895280553007687 : Int64)) (27 : Int32)) * (-7723592293110705685 : Int64)) (31 : Int32)))])
  have Q4 := (E_a1.wr W2)
  exact own_retL X3 hx hret hlk (hb hby d3_45) (by rw [e3]; exact ⟨rfl, N2, KK2, Q4, F2⟩) (by decide) (by decide)
theorem own_sh (x : Int64) (k : Int32) (n : Nat) (hk : k.toBitVec.toNat % 64 = n) : ((x.toUInt64 >>> (k &&& 0x3f).toInt64.toUInt64).toInt64).toBitVec = x.toBitVec >>> n := by
  have h := sm64 k n hk
  show (x.toUInt64 >>> (k &&& 0x3f).toInt64.toUInt64).toBitVec = _
  rw [UInt64.toBitVec_shiftRight]
  show x.toBitVec >>> ((k &&& 0x3f).toInt64.toBitVec % 64) = _
  rw [h.1]
  have e : (BitVec.ofNat 64 n % 64#64) = BitVec.ofNat 64 n := by
    apply BitVec.eq_of_toNat_eq; simp [BitVec.toNat_umod]; omega
  rw [show ((64 : BitVec 64)) = 64#64 from rfl, e]
  show x.toBitVec >>> (BitVec.ofNat 64 n).toNat = _
  rw [BitVec.toNat_ofNat, Nat.mod_eq_of_lt (by omega)]
theorem own_bits (z : BitVec 64) (k : Nat) (h : 64 ≤ k + (k + k)) : (let y := z ^^^ (z >>> k); y ^^^ (y >>> k) ^^^ (y >>> (k + k))) = z := by
  apply BitVec.eq_of_getLsbD_eq
  intro i hi
  simp only [BitVec.getLsbD_xor, BitVec.getLsbD_ushiftRight]
  have e1 : z.getLsbD (k + (k + k + i)) = false := BitVec.getLsbD_of_ge _ _ (by omega)
  rw [show k + (k + i) = k + k + i by omega, e1]
  cases z.getLsbD i <;> cases z.getLsbD (k + i) <;> cases z.getLsbD (k + k + i) <;> rfl
theorem own_undo (z : Int64) (k j : Int32) (n : Nat) (hk : k.toBitVec.toNat % 64 = n) (hj : j.toBitVec.toNat % 64 = n + n) (h : 64 ≤ n + (n + n)) : own_sy (own_sx z k) k j = z := by
  apply Int64.toBitVec_inj.mp
  have q := own_bits z.toBitVec n h
  unfold own_sy own_sx
  simp only [Int64.toBitVec_xor, own_sh _ k n hk, own_sh _ j (n + n) hj]
  exact q
theorem own_i1 : own_f5 (-4658895280553007687 : Int64) * (-4658895280553007687 : Int64) = 1 := by decide +kernel
theorem own_i2 : own_f5 (-7723592293110705685 : Int64) * (-7723592293110705685 : Int64) = 1 := by decide +kernel
theorem own_law (z : Int64) : own_f4 (own_mix z) = z := by
  unfold own_f4 own_mix
  rw [own_undo _ 31 62 31 (by decide) (by decide) (by decide), Int64.mul_assoc, Int64.mul_comm (-7723592293110705685 : Int64), own_i2, Int64.mul_one, own_undo _ 27 54 27 (by decide) (by decide) (by decide), Int64.mul_assoc, Int64.mul_comm (-4658895280553007687 : Int64), own_i1, Int64.mul_one, own_undo _ 30 60 30 (by decide) (by decide) (by decide)]
theorem ef_0 (q1 : Int64) (m : MethodId) : entryFrame m #[(.long q1)] maxLocals = mkF m 0 #[.val (.long q1), .second, .unset, .unset, .unset, .unset, .unset] [] := by first | (simp [entryFrame, mkF, argsToLocals, Value.category, maxLocals]; done) | rfl
theorem pd_1 : parseMethodDescriptor "(J)V" = some ⟨[.long], none⟩ := by decide +kernel
theorem pd_2 : parseMethodDescriptor "()J" = some ⟨[], some .long⟩ := by decide +kernel
set_option maxRecDepth 65536 in
set_option maxHeartbeats 40000000 in
theorem rm0 (l : Launch) (Z : State) (a0 : Array Value) (hw : ∀ d ∈ tables_1, d.before a0 Z = true) (ws : List Jvm.Cond) (q1 : Int64) (h0 : Heap) (n0 : Nat) (Z0 : n0 ≤ h0.size) :
    own_Met l x code maxLocals ret ws room_1 #[(.long q1)] Z h0 (fun v h L => v = some (.int (1 : Int32)) ∧ Fr n0 L) := by
  refine own_body (plainFor_of_name pn_0) (ef_0 q1) ?_
  intro p e s m below meth c T0 X0 hx hby hml0 hret hlk hnm hown hZ e0
  have hml : c.maxLocals = 7 := hml0
  have N0 := Fr.nil n0
  obtain ⟨T1, h1, X1, e1, E1, A1, D1, -, st1⟩ := newO X0 hx hZ hown (hw _ (List.mem_of_getElem? (i := 0) rfl)) (hw _ (List.mem_of_getElem? (i := 1) rfl)) (hw _ (List.mem_of_getElem? (i := 2) rfl)) e0 (g := (mkF m 0 #[.val (.long q1), .second, .unset, .unset, .unset, .unset, .unset] [])) rfl (hb hby at_0) (by decide) (by decide)
  obtain ⟨b1, g1⟩ : ∃ z, z = h0.size := ⟨_, rfl⟩
  rw [← g1] at A1 D1 st1
  have g_b1 : n0 ≤ b1 := Nat.le_trans Z0 (Nat.le_of_eq g1.symm)
  refine own_step st1 ?_
  have Z1 := Nat.le_trans Z0 E1.1
  have F_state_b1 : Fld Z h1 b1 "com/example/lockstep/lockstep/workload/SeededRandom" "state" "J" (.long (0 : Int64)) := D1 (Or.inl (hw _ (List.mem_of_getElem? (i := 10) rfl))) (ty := .long) (by decide)
  show own_Ends _ _ _ _ _ _ _ T1 (mkF m 3 #[.val (.long q1), .second, .unset, .unset, .unset, .unset, .unset] [(.ref b1)])
  refine own_step (fun _ k => XS.dup X1.here hx rfl (hb hby at_3) rfl rfl k) ?_
  show own_Ends _ _ _ _ _ _ _ T1 (mkF m 4 #[.val (.long q1), .second, .unset, .unset, .unset, .unset, .unset] [(.ref b1), (.ref b1)])
  refine own_step (fun _ k => XS.lloadN X1.here hx rfl (hb hby at_4) rfl k) ?_
  show own_Ends _ _ _ _ _ _ _ T1 (mkF m 5 #[.val (.long q1), .second, .unset, .unset, .unset, .unset, .unset] [(.long q1), (.ref b1), (.ref b1)])
  refine own_callC X1 hx hZ (y := (⟨"com/example/lockstep/lockstep/workload/SeededRandom", "<init>", "(J)V"⟩ : MethodName)) rfl hown (hw _ (List.mem_of_getElem? (i := 3) rfl)) (hw _ (List.mem_of_getElem? (i := 4) rfl)) (hw _ (List.mem_of_getElem? (i := 2) rfl)) (hw _ (List.mem_of_getElem? (i := 5) rfl)) (by decide) (rm1 l Z a0 hw [] b1 q1  h1 n0 Z1 A1 F_state_b1 g_b1) e1 (b := b1) 1 (by decide) (by decide) (by decide) (by decide) (g := (mkF m 5 #[.val (.long q1), .second, .unset, .unset, .unset, .unset, .unset] [(.long q1), (.ref b1), (.ref b1)])) rfl (by rw [hml]; rfl) [(.long q1)] [(.ref b1)] pd_1 rfl rfl rfl (by show 2 * 0 + _ ≤ _; exact Nat.le_of_eq rfl) (hb hby at_5) ?_
  rintro v2 T2 L2 X2 ⟨rfl, Nq2, K2, A2, F2⟩
  have N2 := Fr.app N0 Nq2
  show own_Ends _ _ _ _ _ _ _ T2 (mkF m 8 #[.val (.long q1), .second, .unset, .unset, .unset, .unset, .unset] [(.ref b1)])
  have Z2 := Nat.le_trans Z1 K2.1
  refine own_step (fun _ k => XS.astoreN X2.here hx rfl (hb hby at_8) rfl rfl (l' := #[.val (.long q1), .second, .val (.ref b1), .unset, .unset, .unset, .unset]) rfl k) ?_
  show own_Ends _ _ _ _ _ _ _ T2 (mkF m 9 #[.val (.long q1), .second, .val (.ref b1), .unset, .unset, .unset, .unset] [])
  refine own_step (fun _ k => XS.aloadN X2.here hx rfl (hb hby at_9) rfl rfl k) ?_
  show own_Ends _ _ _ _ _ _ _ T2 (mkF m 10 #[.val (.long q1), .second, .val (.ref b1), .unset, .unset, .unset, .unset] [(.ref b1)])
  refine own_callV X2 hx hZ (y := (⟨"com/example/lockstep/lockstep/workload/SeededRandom", "nextLong", "()J"⟩ : MethodName)) (z := (⟨"com/example/lockstep/lockstep/workload/SeededRandom", "nextLong", "()J"⟩ : MethodName)) hown (hw _ (List.mem_of_getElem? (i := 11) rfl)) (hw _ (List.mem_of_getElem? (i := 12) rfl)) (hw _ (List.mem_of_getElem? (i := 14) rfl)) (hw _ (List.mem_of_getElem? (i := 14) rfl)) (hw _ (List.mem_of_getElem? (i := 13) rfl)) (hw _ (List.mem_of_getElem? (i := 2) rfl)) (hw _ (List.mem_of_getElem? (i := 15) rfl)) (by decide) (rm3 l Z a0 hw [] b1 q1 T2.heap n0 Z2 A2 F2 g_b1) rfl (b := b1) A2 0 (by decide) (by decide) (by decide) (by decide) (g := (mkF m 10 #[.val (.long q1), .second, .val (.ref b1), .unset, .unset, .unset, .unset] [(.ref b1)])) rfl (by rw [hml]; rfl) [] [] pd_2 rfl rfl rfl (by show 2 * 0 + _ ≤ _; exact Nat.le_of_eq rfl) (hb hby at_10) ?_
  rintro v3 T3 L3 X3 ⟨rfl, Nq3, K3, A3, F3⟩
  have N3 := Fr.app N2 Nq3
  show own_Ends _ _ _ _ _ _ _ T3 (mkF m 13 #[.val (.long q1), .second, .val (.ref b1), .unset, .unset, .unset, .unset] [(.long (own_mix (q1 + (-7046029254386353131 : Int64))))])
  have Z3 := Nat.le_trans Z2 K3.1
  refine own_step (fun _ k => XS.lstoreN X3.here hx rfl (hb hby at_13) rfl (l' := #[.val (.long q1), .second, .val (.ref b1), .val (.long (own_mix (q1 + (-7046029254386353131 : Int64)))), .second, .unset, .unset]) rfl k) ?_
  show own_Ends _ _ _ _ _ _ _ T3 (mkF m 14 #[.val (.long q1), .second, .val (.ref b1), .val (.long (own_mix (q1 + (-7046029254386353131 : Int64)))), .second, .unset, .unset] [])
  refine own_step (fun _ k => XS.aloadN X3.here hx rfl (hb hby at_14) rfl rfl k) ?_
  show own_Ends _ _ _ _ _ _ _ T3 (mkF m 15 #[.val (.long q1), .second, .val (.ref b1), .val (.long (own_mix (q1 + (-7046029254386353131 : Int64)))), .second, .unset, .unset] [(.ref b1)])
  refine own_callV X3 hx hZ (y := (⟨"com/example/lockstep/lockstep/workload/SeededRandom", "nextLong", "()J"⟩ : MethodName)) (z := (⟨"com/example/lockstep/lockstep/workload/SeededRandom", "nextLong", "()J"⟩ : MethodName)) hown (hw _ (List.mem_of_getElem? (i := 11) rfl)) (hw _ (List.mem_of_getElem? (i := 12) rfl)) (hw _ (List.mem_of_getElem? (i := 14) rfl)) (hw _ (List.mem_of_getElem? (i := 14) rfl)) (hw _ (List.mem_of_getElem? (i := 13) rfl)) (hw _ (List.mem_of_getElem? (i := 2) rfl)) (hw _ (List.mem_of_getElem? (i := 15) rfl)) (by decide) (rm3 l Z a0 hw [] b1 (q1 + (-7046029254386353131 : Int64)) T3.heap n0 Z3 A3 F3 g_b1) rfl (b := b1) A3 0 (by decide) (by decide) (by decide) (by decide) (g := (mkF m 15 #[.val (.long q1), .second, .val (.ref b1), .val (.long (own_mix (q1 + (-7046029254386353131 : Int64)))), .second, .unset, .unset] [(.ref b1)])) rfl (by rw [hml]; rfl) [] [] pd_2 rfl rfl rfl (by show 2 * 0 + _ ≤ _; exact Nat.le_of_eq rfl) (hb hby at_15) ?_
  rintro v4 T4 L4 X4 ⟨rfl, Nq4, K4, A4, F4⟩
  have N4 := Fr.app N3 Nq4
  show own_Ends _ _ _ _ _ _ _ T4 (mkF m 18 #[.val (.long q1), .second, .val (.ref b1), .val (.long (own_mix (q1 + (-7046029254386353131 : Int64)))), .second, .unset, .unset] [(.long (own_mix ((q1 + (-7046029254386353131 : Int64)) + (-7046029254386353131 : Int64))))])
  have Z4 := Nat.le_trans Z3 K4.1
  refine own_step (fun _ k => XS.lstore X4.here hx rfl (hb hby at_18) rfl (l' := #[.val (.long q1), .second, .val (.ref b1), .val (.long (own_mix (q1 + (-7046029254386353131 : Int64)))), .second, .val (.long (own_mix ((q1 + (-7046029254386353131 : Int64)) + (-7046029254386353131 : Int64)))), .second]) rfl k) ?_
  show own_Ends _ _ _ _ _ _ _ T4 (mkF m 20 #[.val (.long q1), .second, .val (.ref b1), .val (.long (own_mix (q1 + (-7046029254386353131 : Int64)))), .second, .val (.long (own_mix ((q1 + (-7046029254386353131 : Int64)) + (-7046029254386353131 : Int64)))), .second] [])
  refine own_step (fun _ k => XS.lloadN X4.here hx rfl (hb hby at_20) rfl k) ?_
  show own_Ends _ _ _ _ _ _ _ T4 (mkF m 21 #[.val (.long q1), .second, .val (.ref b1), .val (.long (own_mix (q1 + (-7046029254386353131 : Int64)))), .second, .val (.long (own_mix ((q1 + (-7046029254386353131 : Int64)) + (-7046029254386353131 : Int64)))), .second] [(.long (own_mix (q1 + (-7046029254386353131 : Int64))))])
  refine own_callS X4 hx hZ (y := (⟨"com/example/lockstep/lockstep/workload/SeededRandomNextLongPinLaw", "unmix", "(J)J"⟩ : MethodName)) hown (hw _ (List.mem_of_getElem? (i := 19) rfl)) (hw _ (List.mem_of_getElem? (i := 20) rfl)) (hw _ (List.mem_of_getElem? (i := 21) rfl)) (hw _ (List.mem_of_getElem? (i := 22) rfl)) (by decide) (rm4 l Z a0 hw [] (own_mix (q1 + (-7046029254386353131 : Int64))) T4.heap n0 Z4) rfl 0 (by decide) (by decide) (by decide) (by decide) (g := (mkF m 21 #[.val (.long q1), .second, .val (.ref b1), .val (.long (own_mix (q1 + (-7046029254386353131 : Int64)))), .second, .val (.long (own_mix ((q1 + (-7046029254386353131 : Int64)) + (-7046029254386353131 : Int64)))), .second] [(.long (own_mix (q1 + (-7046029254386353131 : Int64))))])) rfl (by rw [hml]; rfl) [(.long (own_mix (q1 + (-7046029254386353131 : Int64))))] [] pd_0 rfl rfl rfl (by show 2 * 0 + _ ≤ _; exact Nat.le_of_eq rfl) (hb hby at_21) ?_
  rintro v5 T5 L5 X5 ⟨rfl, Nq5, e5⟩
  have N5 := Fr.app N4 Nq5
  show own_Ends _ _ _ _ _ _ _ T5 (mkF m 24 #[.val (.long q1), .second, .val (.ref b1), .val (.long (own_mix (q1 + (-7046029254386353131 : Int64)))), .second, .val (.long (own_mix ((q1 + (-7046029254386353131 : Int64)) + (-7046029254386353131 : Int64)))), .second] [(.long (own_f4 (own_mix (q1 + (-7046029254386353131 : Int64)))))])
  refine own_step (fun _ k => XS.lloadN X5.here hx rfl (hb hby at_24) rfl k) ?_
  show own_Ends _ _ _ _ _ _ _ T5 (mkF m 25 #[.val (.long q1), .second, .val (.ref b1), .val (.long (own_mix (q1 + (-7046029254386353131 : Int64)))), .second, .val (.long (own_mix ((q1 + (-7046029254386353131 : Int64)) + (-7046029254386353131 : Int64)))), .second] [(.long q1), (.long (own_f4 (own_mix (q1 + (-7046029254386353131 : Int64)))))])
  refine own_step (X5.ldc2Long hx hown (mvT hZ (hw _ (List.mem_of_getElem? (i := 29) rfl))) (g := (mkF m 25 #[.val (.long q1), .second, .val (.ref b1), .val (.long (own_mix (q1 + (-7046029254386353131 : Int64)))), .second, .val (.long (own_mix ((q1 + (-7046029254386353131 : Int64)) + (-7046029254386353131 : Int64)))), .second] [(.long q1), (.long (own_f4 (own_mix (q1 + (-7046029254386353131 : Int64)))))])) rfl (hb hby at_25)) ?_
  show own_Ends _ _ _ _ _ _ _ T5 (mkF m 28 #[.val (.long q1), .second, .val (.ref b1), .val (.long (own_mix (q1 + (-7046029254386353131 : Int64)))), .second, .val (.long (own_mix ((q1 + (-7046029254386353131 : Int64)) + (-7046029254386353131 : Int64)))), .second] [(.long (-7046029254386353131 : Int64)), (.long q1), (.long (own_f4 (own_mix (q1 + (-7046029254386353131 : Int64)))))])
  refine own_step (fun _ k => XS.ladd X5.here hx rfl (hb hby at_28) rfl k) ?_
  show own_Ends _ _ _ _ _ _ _ T5 (mkF m 29 #[.val (.long q1), .second, .val (.ref b1), .val (.long (own_mix (q1 + (-7046029254386353131 : Int64)))), .second, .val (.long (own_mix ((q1 + (-7046029254386353131 : Int64)) + (-7046029254386353131 : Int64)))), .second] [(.long (q1 + (-7046029254386353131 : Int64))), (.long (own_f4 (own_mix (q1 + (-7046029254386353131 : Int64)))))])
  refine own_step (fun _ k => XS.lcmp X5.here hx rfl (hb hby at_29) rfl k) ?_
  show own_Ends _ _ _ _ _ _ _ T5 (mkF m 30 #[.val (.long q1), .second, .val (.ref b1), .val (.long (own_mix (q1 + (-7046029254386353131 : Int64)))), .second, .val (.long (own_mix ((q1 + (-7046029254386353131 : Int64)) + (-7046029254386353131 : Int64)))), .second] [(.int (lcmpW (own_f4 (own_mix (q1 + (-7046029254386353131 : Int64)))) (q1 + (-7046029254386353131 : Int64))))])
  refine own_step (fun _ k => XS.ifNo X5.here hx rfl (hb hby at_30) rfl ((if0 _ _).trans (teq ((lw_eq (own_f4 (own_mix (q1 + (-7046029254386353131 : Int64)))) (q1 + (-7046029254386353131 : Int64))).mpr (own_law (q1 + (-7046029254386353131 : Int64))))).2) k) ?_
  show own_Ends _ _ _ _ _ _ _ T5 (mkF m 33 #[.val (.long q1), .second, .val (.ref b1), .val (.long (own_mix (q1 + (-7046029254386353131 : Int64)))), .second, .val (.long (own_mix ((q1 + (-7046029254386353131 : Int64)) + (-7046029254386353131 : Int64)))), .second] [])
  refine own_step (fun _ k => XS.lload X5.here hx rfl (hb hby at_33) rfl k) ?_
  show own_Ends _ _ _ _ _ _ _ T5 (mkF m 35 #[.val (.long q1), .second, .val (.ref b1), .val (.long (own_mix (q1 + (-7046029254386353131 : Int64)))), .second, .val (.long (own_mix ((q1 + (-7046029254386353131 : Int64)) + (-7046029254386353131 : Int64)))), .second] [(.long (own_mix ((q1 + (-7046029254386353131 : Int64)) + (-7046029254386353131 : Int64))))])
  refine own_callS X5 hx hZ (y := (⟨"com/example/lockstep/lockstep/workload/SeededRandomNextLongPinLaw", "unmix", "(J)J"⟩ : MethodName)) hown (hw _ (List.mem_of_getElem? (i := 19) rfl)) (hw _ (List.mem_of_getElem? (i := 20) rfl)) (hw _ (List.mem_of_getElem? (i := 21) rfl)) (hw _ (List.mem_of_getElem? (i := 22) rfl)) (by decide) (rm4 l Z a0 hw [] (own_mix ((q1 + (-7046029254386353131 : Int64)) + (-7046029254386353131 : Int64))) T4.heap n0 Z4) e5 0 (by decide) (by decide) (by decide) (by decide) (g := (mkF m 35 #[.val (.long q1), .second, .val (.ref b1), .val (.long (own_mix (q1 + (-7046029254386353131 : Int64)))), .second, .val (.long (own_mix ((q1 + (-7046029254386353131 : Int64)) + (-7046029254386353131 : Int64)))), .second] [(.long (own_mix ((q1 + (-7046029254386353131 : Int64)) + (-7046029254386353131 : Int64))))])) rfl (by rw [hml]; rfl) [(.long (own_mix ((q1 + (-7046029254386353131 : Int64)) + (-7046029254386353131 : Int64))))] [] pd_0 rfl rfl rfl (by show 2 * 0 + _ ≤ _; exact Nat.le_of_eq rfl) (hb hby at_35) ?_
  rintro v6 T6 L6 X6 ⟨rfl, Nq6, e6⟩
  have N6 := Fr.app N5 Nq6
  show own_Ends _ _ _ _ _ _ _ T6 (mkF m 38 #[.val (.long q1), .second, .val (.ref b1), .val (.long (own_mix (q1 + (-7046029254386353131 : Int64)))), .second, .val (.long (own_mix ((q1 + (-7046029254386353131 : Int64)) + (-7046029254386353131 : Int64)))), .second] [(.long (own_f4 (own_mix ((q1 + (-7046029254386353131 : Int64)) + (-7046029254386353131 : Int64)))))])
  refine own_step (fun _ k => XS.lloadN X6.here hx rfl (hb hby at_38) rfl k) ?_
  show own_Ends _ _ _ _ _ _ _ T6 (mkF m 39 #[.val (.long q1), .second, .val (.ref b1), .val (.long (own_mix (q1 + (-7046029254386353131 : Int64)))), .second, .val (.long (own_mix ((q1 + (-7046029254386353131 : Int64)) + (-7046029254386353131 : Int64)))), .second] [(.long q1), (.long (own_f4 (own_mix ((q1 + (-7046029254386353131 : Int64)) + (-7046029254386353131 : Int64)))))])
  refine own_step (X6.ldc2Long hx hown (mvT hZ (hw _ (List.mem_of_getElem? (i := 29) rfl))) (g := (mkF m 39 #[.val (.long q1), .second, .val (.ref b1), .val (.long (own_mix (q1 + (-7046029254386353131 : Int64)))), .second, .val (.long (own_mix ((q1 + (-7046029254386353131 : Int64)) + (-7046029254386353131 : Int64)))), .second] [(.long q1), (.long (own_f4 (own_mix ((q1 + (-7046029254386353131 : Int64)) + (-7046029254386353131 : Int64)))))])) rfl (hb hby at_39)) ?_
  show own_Ends _ _ _ _ _ _ _ T6 (mkF m 42 #[.val (.long q1), .second, .val (.ref b1), .val (.long (own_mix (q1 + (-7046029254386353131 : Int64)))), .second, .val (.long (own_mix ((q1 + (-7046029254386353131 : Int64)) + (-7046029254386353131 : Int64)))), .second] [(.long (-7046029254386353131 : Int64)), (.long q1), (.long (own_f4 (own_mix ((q1 + (-7046029254386353131 : Int64)) + (-7046029254386353131 : Int64)))))])
  refine own_step (fun _ k => XS.ladd X6.here hx rfl (hb hby at_42) rfl k) ?_
  show own_Ends _ _ _ _ _ _ _ T6 (mkF m 43 #[.val (.long q1), .second, .val (.ref b1), .val (.long (own_mix (q1 + (-7046029254386353131 : Int64)))), .second, .val (.long (own_mix ((q1 + (-7046029254386353131 : Int64)) + (-7046029254386353131 : Int64)))), .second] [(.long (q1 + (-7046029254386353131 : Int64))), (.long (own_f4 (own_mix ((q1 + (-7046029254386353131 : Int64)) + (-7046029254386353131 : Int64)))))])
  refine own_step (X6.ldc2Long hx hown (mvT hZ (hw _ (List.mem_of_getElem? (i := 29) rfl))) (g := (mkF m 43 #[.val (.long q1), .second, .val (.ref b1), .val (.long (own_mix (q1 + (-7046029254386353131 : Int64)))), .second, .val (.long (own_mix ((q1 + (-7046029254386353131 : Int64)) + (-7046029254386353131 : Int64)))), .second] [(.long (q1 + (-7046029254386353131 : Int64))), (.long (own_f4 (own_mix ((q1 + (-7046029254386353131 : Int64)) + (-7046029254386353131 : Int64)))))])) rfl (hb hby at_43)) ?_
  show own_Ends _ _ _ _ _ _ _ T6 (mkF m 46 #[.val (.long q1), .second, .val (.ref b1), .val (.long (own_mix (q1 + (-7046029254386353131 : Int64)))), .second, .val (.long (own_mix ((q1 + (-7046029254386353131 : Int64)) + (-7046029254386353131 : Int64)))), .second] [(.long (-7046029254386353131 : Int64)), (.long (q1 + (-7046029254386353131 : Int64))), (.long (own_f4 (own_mix ((q1 + (-7046029254386353131 : Int64)) + (-7046029254386353131 : Int64)))))])
  refine own_step (fun _ k => XS.ladd X6.here hx rfl (hb hby at_46) rfl k) ?_
  show own_Ends _ _ _ _ _ _ _ T6 (mkF m 47 #[.val (.long q1), .second, .val (.ref b1), .val (.long (own_mix (q1 + (-7046029254386353131 : Int64)))), .second, .val (.long (own_mix ((q1 + (-7046029254386353131 : Int64)) + (-7046029254386353131 : Int64)))), .second] [(.long ((q1 + (-7046029254386353131 : Int64)) + (-7046029254386353131 : Int64))), (.long (own_f4 (own_mix ((q1 + (-7046029254386353131 : Int64)) + (-7046029254386353131 : Int64)))))])
  refine own_step (fun _ k => XS.lcmp X6.here hx rfl (hb hby at_47) rfl k) ?_
  show own_Ends _ _ _ _ _ _ _ T6 (mkF m 48 #[.val (.long q1), .second, .val (.ref b1), .val (.long (own_mix (q1 + (-7046029254386353131 : Int64)))), .second, .val (.long (own_mix ((q1 + (-7046029254386353131 : Int64)) + (-7046029254386353131 : Int64)))), .second] [(.int (lcmpW (own_f4 (own_mix ((q1 + (-7046029254386353131 : Int64)) + (-7046029254386353131 : Int64)))) ((q1 + (-7046029254386353131 : Int64)) + (-7046029254386353131 : Int64))))])
  refine own_step (fun _ k => XS.ifNo X6.here hx rfl (hb hby at_48) rfl ((if0 _ _).trans (teq ((lw_eq (own_f4 (own_mix ((q1 + (-7046029254386353131 : Int64)) + (-7046029254386353131 : Int64)))) ((q1 + (-7046029254386353131 : Int64)) + (-7046029254386353131 : Int64))).mpr (own_law ((q1 + (-7046029254386353131 : Int64)) + (-7046029254386353131 : Int64))))).2) k) ?_
  show own_Ends _ _ _ _ _ _ _ T6 (mkF m 51 #[.val (.long q1), .second, .val (.ref b1), .val (.long (own_mix (q1 + (-7046029254386353131 : Int64)))), .second, .val (.long (own_mix ((q1 + (-7046029254386353131 : Int64)) + (-7046029254386353131 : Int64)))), .second] [])
  refine own_step (fun _ k => XS.iconst X6.here hx rfl (hb hby at_51) k) ?_
  show own_Ends _ _ _ _ _ _ _ T6 (mkF m 52 #[.val (.long q1), .second, .val (.ref b1), .val (.long (own_mix (q1 + (-7046029254386353131 : Int64)))), .second, .val (.long (own_mix ((q1 + (-7046029254386353131 : Int64)) + (-7046029254386353131 : Int64)))), .second] [(.int (1 : Int32))])
  refine own_step (fun _ k => XS.goto X6.here hx rfl (pc0 := 52) (pc' := 56) rfl (hb hby at_52) (by decide) (by decide) k) ?_
  show own_Ends _ _ _ _ _ _ _ T6 (mkF m 56 #[.val (.long q1), .second, .val (.ref b1), .val (.long (own_mix (q1 + (-7046029254386353131 : Int64)))), .second, .val (.long (own_mix ((q1 + (-7046029254386353131 : Int64)) + (-7046029254386353131 : Int64)))), .second] [(.int (1 : Int32))])
  exact own_retN X6 hx (t := .boolean) hret (by simp) hlk (hb hby at_56) rfl ⟨rfl, N6⟩ (by decide) (by decide)
set_option maxRecDepth 65536 in
set_option maxHeartbeats 40000000 in
theorem comes_1 {Post : Tables → Env → Array Value → State → Outcome → State → Prop} (hpost : ∀ tb e args s v u, (limb_1_1.after args s (.returned v) u = true ∧ limb_1_2.after args s (.returned v) u = true ∧ True) → FrameEnd s (.returned v) u (Jvm.fieldLocs frame_1_writes args s ++ Jvm.arrayLocs frame_1_arrays args s ++ Jvm.staticLocs frame_1_statics s) 16 128 → Post tb e args s (.returned v) u) :
    ArmFor flags0 classFile x code maxLocals ret World_1 tables_1 room_1 Calls_1 rest_1 Pre_1 Post := by
  intro l hfl _ _ p e ha hc hk s m args below hf hA hF happ hP
  obtain ⟨hcalls, hrest, hpre⟩ := hP
  obtain ⟨-, -, -, hnamed, -, -, -, hat⟩ := (Spec.applies_iff hf).mp happ
  obtain ⟨hg, hn⟩ := and_e (Cond.before_iff.mp (show (Jvm.Cond.and given_1 narrow_1).before args s = true from hpre))
  obtain ⟨gc, g0⟩ := and_e hg
  have h0 := g0
  obtain ⟨w0, rfl⟩ : ∃ w0 : Value, args = #[w0] := by
    have hs : args.size = 1 := by simpa [Cond.value, given_1] using gc
    obtain ⟨L⟩ := args
    match L, hs with
    | [w0], _ => exact ⟨w0, rfl⟩
  have hw := fun d (hd : d ∈ tables_1) => atoms_spec (ws := Jvm.Cond.code x code maxLocals ret :: tables_1) hat d (List.mem_cons_of_mem _ hd)
  have hfit : Fit s := fun {y c} hc i hi => by
    obtain ⟨ha, rfl⟩ := Array.getElem?_eq_some_iff.mp hc
    have q := List.all_eq_true.mp ((Array.all_eq_true_iff_forall_mem.mp hF) _ (Array.getElem_mem ha)) i (List.mem_range.mpr hi)
    simpa [Array.getElem?_eq_getElem hi] using q
  obtain ⟨i0, ei0⟩ := isL_v h0
  obtain rfl : w0 = (.long i0) := Option.some.inj ei0
  obtain ⟨n, o, h1, h2, h3, _, L, rfl, ⟨rfl, N⟩, hq⟩ := rm0 l s _ hw tables_1 i0 s.heap s.heap.size (Nat.le_refl _) p e ha hc hk s m _ below hf ((Spec.applies_iff_loose hf).mp happ).1 ⟨rfl, State.Warmed39.refl s, rfl⟩ trivial
  refine ⟨n, _, h1, h2, h3, hpost _ _ _ _ _ _ ⟨Cond.after_iff.mpr rfl, Cond.after_iff.mpr (eq_i res_at (Term.int_eval (1)) rfl), trivial⟩ ⟨hq.1, hq.2.1, (hq.2.2.sift fun y hy => Or.inr (N y hy)).mono (by decide) (by decide)⟩⟩
theorem main_1_1 : Claimed_1_1 := comes_1 fun _ _ _ _ _ _ h hF => ⟨h.1, hF⟩
theorem main_1_2 : Claimed_1_2 := comes_1 fun _ _ _ _ _ _ h hF => ⟨h.2.1, hF⟩
end Jvm.Pilot.@@N@@
namespace Jvm.Pilot.@@N@@
open Jvm Jvm.ClassFile Sem Op Lib Jvm.Free Jvm.Stand Jvm.Pilot.@@N@@.Jvm.D
/-! MADE BY PROGRAM (witnessworld.py) out of the Statement's table words and the real class files: 9 classes; the members and pool entries that the words name. The judged class is class 1, her method 3. -/
namespace start1
open Jvm.ClassFile
def u (s : String) : CpInfo := .utf8 (stringToUtf16 s)
/-- a pool by its gaps: so many unusable entries, then the entry; so many at the end -/
def gap : Nat → List CpInfo → List CpInfo
  | 0, r => r
  | n + 1, r => .unusable :: gap n r
def poolList (es : List (Nat × CpInfo)) (last : Nat) : List CpInfo := es.foldr (fun e r => gap e.1 (e.2 :: r)) (gap last [])
def pool (es : List (Nat × CpInfo)) (last : Nat) : Array CpInfo := ⟨poolList es last⟩
def fileOf (pool : Array CpInfo) (this : Nat) (attrs : Array Attribute := #[]) (ms : Array MethodInfo := #[]) (fl : Nat := 33) (sup : Nat := 0) (ifs : Array Nat := #[]) (fds : Array FieldInfo := #[]) : ClassFile where
  minorVersion := 0
  majorVersion := 65
  constantPool := pool
  accessFlags := fl
  thisClass := this
  superClass := sup
  interfaces := ifs
  fields := fds
  methods := ms
  attributes := attrs
def plain (name : String) (sup : Option ClassId) : Class where
  name := name
  kind := .ordinary
  loader := none
  accessFlags := 33
  super := sup
  interfaces := #[]
  cf := none
  fields := #[]
  methods := #[]
  instanceTypes := #[]
  staticTypes := #[]
  resolved := #[]
  callSites := []
  init := .initialized
  statics := none
  mirror := none

def pool0 : Array CpInfo := pool [(5, u "<init>"), (0, u "()V"), (1, .class_ 10), (1, u "java/lang/Object")] 113

def k0c0 : Code := { maxStack := 0, maxLocals := 1, code := object_method_1_code, exceptionTable := #[], attributes := #[] }
def k0m0 : Method := { name := "<init>", desc := "()V", sig := { parameters := [], returnType := none }, accessFlags := 1, code := some k0c0 }
/-- java/lang/Object -/
def k0 : Class := { plain "java/lang/Object" none with
  accessFlags := 33
  interfaces := #[]
  cf := some (fileOf pool0 8 #[] #[{ accessFlags := 1, nameIndex := 5, descriptorIndex := 6, attributes := #[] }] 33 0 #[] #[])
  fields := #[]
  methods := #[k0m0]
  instanceTypes := #[]
  staticTypes := #[]
  resolved := Array.replicate 124 none
  statics := none }

def pool1 : Array CpInfo := pool [(2, .class_ 4), (1, u "java/lang/Object"), (0, u "<init>"), (0, u "()V"), (0, .long 2), (1, .long 10723151780598845931), (1, .methodref 12 13), (0, .class_ 14), (0, .nameAndType 15 16), (0, u "com/example/lockstep/lockstep/workload/SeededRandomNextLongPinLaw"), (0, u "inv"), (0, u "(J)J"), (0, .long 13787848793156543929), (1, .class_ 20), (0, u "com/example/lockstep/lockstep/workload/SeededRandom"), (0, .methodref 19 22), (0, .nameAndType 5 23), (0, u "(J)V"), (0, .methodref 19 25), (0, .nameAndType 26 27), (0, u "nextLong"), (0, u "()J"), (0, .methodref 12 29), (0, .nameAndType 30 16), (0, u "unmix"), (0, .long 11400714819323198485), (3, u "law"), (0, u "(J)Z")] 3

def k1m0 : Method := { name := "<init>", desc := "()V", sig := { parameters := [], returnType := none }, accessFlags := 1, code := none }
def k1c1 : Code := { maxStack := 8, maxLocals := 4, code := method_2_code, exceptionTable := #[], attributes := #[] }
def k1m1 : Method := { name := "inv", desc := "(J)J", sig := { parameters := [.long], returnType := some .long }, accessFlags := 10, code := some k1c1 }
def k1c2 : Code := { maxStack := 5, maxLocals := 6, code := method_3_code, exceptionTable := #[], attributes := #[] }
def k1m2 : Method := { name := "unmix", desc := "(J)J", sig := { parameters := [.long], returnType := some .long }, accessFlags := 10, code := some k1c2 }
def k1c3 : Code := { maxStack := 6, maxLocals := 7, code := code, exceptionTable := #[], attributes := #[] }
def k1m3 : Method := { name := "law", desc := "(J)Z", sig := { parameters := [.long], returnType := some .boolean }, accessFlags := 9, code := some k1c3 }
/-- com/example/lockstep/lockstep/workload/SeededRandomNextLongPinLaw -/
def k1 : Class := { plain "com/example/lockstep/lockstep/workload/SeededRandomNextLongPinLaw" (some 0) with
  accessFlags := 49
  interfaces := #[]
  cf := some (fileOf pool1 12 #[] #[{ accessFlags := 1, nameIndex := 5, descriptorIndex := 6, attributes := #[] }, { accessFlags := 10, nameIndex := 15, descriptorIndex := 16, attributes := #[] }, { accessFlags := 10, nameIndex := 30, descriptorIndex := 16, attributes := #[] }, { accessFlags := 9, nameIndex := 35, descriptorIndex := 36, attributes := #[] }] 49 2 #[] #[])
  fields := #[]
  methods := #[k1m0, k1m1, k1m2, k1m3]
  instanceTypes := #[]
  staticTypes := #[]
  resolved := Array.replicate 40 none
  statics := none }

def pool2 : Array CpInfo := pool [(1, .methodref 2 3), (0, .class_ 4), (0, .nameAndType 5 6), (0, u "java/lang/Object"), (0, u "<init>"), (0, u "()V"), (0, .fieldref 8 9), (0, .class_ 10), (0, .nameAndType 11 12), (0, u "com/example/lockstep/lockstep/workload/SeededRandom"), (0, u "state"), (0, u "J"), (2, u "nextLong"), (0, u "()J"), (2, u "(J)V"), (0, .long 11400714819323198485), (1, .long 13787848793156543929), (1, .long 10723151780598845931), (19, u "hasSpareGaussian"), (0, u "Z"), (2, u "spareGaussian"), (0, u "D"), (10, u "GAMMA"), (1, u "ULP")] 10

def k2c0 : Code := { maxStack := 3, maxLocals := 3, code := prog_61_method_1_code, exceptionTable := #[], attributes := #[] }
def k2m0 : Method := { name := "<init>", desc := "(J)V", sig := { parameters := [.long], returnType := none }, accessFlags := 0, code := some k2c0 }
def k2c1 : Code := { maxStack := 5, maxLocals := 3, code := prog_61_method_3_code, exceptionTable := #[], attributes := #[] }
def k2m1 : Method := { name := "nextLong", desc := "()J", sig := { parameters := [], returnType := some .long }, accessFlags := 0, code := some k2c1 }
/-- com/example/lockstep/lockstep/workload/SeededRandom -/
def k2 : Class := { plain "com/example/lockstep/lockstep/workload/SeededRandom" (some 0) with
  accessFlags := 48
  interfaces := #[]
  cf := some (fileOf pool2 8 #[] #[{ accessFlags := 0, nameIndex := 5, descriptorIndex := 19, attributes := #[] }, { accessFlags := 0, nameIndex := 15, descriptorIndex := 16, attributes := #[] }] 48 2 #[] #[{ accessFlags := 26, nameIndex := 60, descriptorIndex := 12, attributes := #[] }, { accessFlags := 26, nameIndex := 62, descriptorIndex := 49, attributes := #[] }, { accessFlags := 2, nameIndex := 11, descriptorIndex := 12, attributes := #[] }, { accessFlags := 2, nameIndex := 48, descriptorIndex := 49, attributes := #[] }, { accessFlags := 2, nameIndex := 44, descriptorIndex := 45, attributes := #[] }])
  fields := #[{ name := "GAMMA", type := .long, accessFlags := 26, slot := 0, constantValue := 0 }, { name := "ULP", type := .double, accessFlags := 26, slot := 1, constantValue := 0 }, { name := "state", type := .long, accessFlags := 2, slot := 0, constantValue := 0 }, { name := "spareGaussian", type := .double, accessFlags := 2, slot := 1, constantValue := 0 }, { name := "hasSpareGaussian", type := .boolean, accessFlags := 2, slot := 2, constantValue := 0 }]
  methods := #[k2m0, k2m1]
  instanceTypes := #[.long, .double, .boolean]
  staticTypes := #[.long, .double]
  resolved := Array.replicate 73 none
  statics := none }

def pool3 : Array CpInfo := pool [(1, u "java/lang/Cloneable"), (0, .class_ 1), (0, u "java/lang/Object"), (0, .class_ 3)] 3

/-- java/lang/Cloneable -/
def k3 : Class := { plain "java/lang/Cloneable" (some 0) with
  accessFlags := 1537
  interfaces := #[]
  cf := some (fileOf pool3 2 #[] #[] 1537 4 #[] #[])
  fields := #[]
  methods := #[]
  instanceTypes := #[]
  staticTypes := #[]
  resolved := Array.replicate 8 none
  statics := none }

def pool4 : Array CpInfo := pool [(1, u "java/io/Serializable"), (0, .class_ 1), (0, u "java/lang/Object"), (0, .class_ 3)] 3

/-- java/io/Serializable -/
def k4 : Class := { plain "java/io/Serializable" (some 0) with
  accessFlags := 1537
  interfaces := #[]
  cf := some (fileOf pool4 2 #[] #[] 1537 4 #[] #[])
  fields := #[]
  methods := #[]
  instanceTypes := #[]
  staticTypes := #[]
  resolved := Array.replicate 8 none
  statics := none }

/-- the primitive byte -/
def k5 : Class := { plain "byte" none with kind := .primitive 'B', accessFlags := 0x411 }
/-- [B -/
def k6 : Class := { plain "[B" (some 0) with kind := .array 5 .byte, interfaces := #[3, 4], accessFlags := 1041 }

/-- the primitive int -/
def k7 : Class := { plain "int" none with kind := .primitive 'I', accessFlags := 0x411 }
/-- [I -/
def k8 : Class := { plain "[I" (some 0) with kind := .array 7 .int, interfaces := #[3, 4], accessFlags := 1041 }

def heap : Heap := #[]
def classes : Array Class := #[k0, k1, k2, k3, k4, k5, k6, k7, k8]
def interned : List (Array UInt16 × Addr) := []
def slotsUsed : Nat := 0
def theMethod : MethodId := ⟨1, 3⟩
def args0 : Array Value := #[.long 65]
def aboutOver (below : List Frame) : State where
  vm := { classes := classes, interned := interned.toArray }
  heap := heap
  slotsUsed := slotsUsed
  threads := #[{ frames := .invoking theMethod args0 :: below }]
def below0 : List Frame := [.native { method := ⟨0, 0⟩, args := #[] }]
def about1 : State := aboutOver below0
def p0 : Program := .bare "" "" ""
def e0 : Env := launch0.env 0 0 0
theorem w_frames : about1.frames = Frame.invoking theMethod args0 :: below0 := rfl
set_option maxRecDepth 65536 in
theorem w_args : argsFit about1.vm theMethod args0 = true := by decide +kernel
set_option maxRecDepth 65536 in
theorem w_heap : heapFits about1 = true := by decide +kernel
set_option maxRecDepth 65536 in
theorem w_runnable : about1.curStatus? = some .runnable := by decide +kernel
set_option maxRecDepth 65536 in
theorem w_alone : about1.alone = true := by decide +kernel
set_option maxRecDepth 65536 in
theorem w_named : about1.methodNamed? x = some theMethod := by decide +kernel
set_option maxRecDepth 65536 in
theorem w_hears : about1.hears theMethod below0 = true := by decide +kernel
set_option maxRecDepth 65536 in
theorem w_ripe : about1.ripe theMethod args0 below0 = true := by decide +kernel
theorem w_running : about1.status = .running := rfl
set_option maxRecDepth 65536 in
theorem w_room : about1.hasRoom e0.platform room_1 = true :=
  launch0.hasRoom_least _ room_1 (by decide +kernel) (by decide +kernel) (by decide +kernel) (by decide +kernel) (by decide +kernel) (by decide +kernel)
theorem allAtoms_all (ts : List Jvm.Cond) (a : Array Jvm.Value) (st : Jvm.State) : (allAtoms ts).before a st = ts.all (fun c => c.before a st) := by
  induction ts with
  | nil => rfl
  | cons c t ih =>
    show (Jvm.Cond.and c (allAtoms t)).before a st = _
    rw [Jvm.Cond.before_and, ih, List.all_cons]
def words1 : List Jvm.Cond := Jvm.Cond.code x code maxLocals ret :: tables_1
/-- a 'code' word, met by the world's own term for the bytes: nothing is compared byte by byte -/
theorem code_word {y : MethodName} {bytes : ByteArray} {mx : Nat} {rt : Option FieldType} {a : Array Value} {s : State} {m : MethodId} {meth : Method} {c : Code} (h1 : s.methodNamed? y = some m) (h2 : s.vm.method? m = some meth) (h3 : meth.code = some c) (h4 : c.code = bytes)
    (h5 : (c.maxLocals == mx && c.exceptionTable.isEmpty && decide (c.maxStack ≤ mostOperands) && decide (meth.sig.returnType = rt) && !meth.locks && decide (parseMethodDescriptor y.desc = some meth.sig)) = true) : (Jvm.Cond.code y bytes mx rt).before a s = true := by
  simp only [Bool.and_eq_true, beq_iff_eq, Bool.not_eq_true', decide_eq_true_eq] at h5
  obtain ⟨⟨⟨⟨⟨g1, g2⟩, g3⟩, g4⟩, g5⟩, g6⟩ := h5
  simp [Cond.before, Cond.holds, Cond.value, h1, h2, h3, h4, g1, g2, g3, g4, g5, g6]
def isCode : Jvm.Cond → Bool
  | .code _ _ _ _ => true
  | _ => false
theorem all_split {L : List Jvm.Cond} {P : Jvm.Cond → Bool} (h1 : L.all (fun c => isCode c || P c) = true) (h2 : ∀ c ∈ L.filter isCode, P c = true) : L.all P = true := by
  refine List.all_eq_true.mpr fun c hc => ?_
  have h := List.all_eq_true.mp h1 c hc
  rcases Bool.eq_false_or_eq_true (isCode c) with hi | hi
  · exact h2 c (List.mem_filter.mpr ⟨hc, hi⟩)
  · simpa [hi] using h
set_option maxRecDepth 65536 in
theorem w_c0 : (Jvm.Cond.code x code maxLocals ret).before args0 about1 = true := code_word (m := ⟨1, 3⟩) (meth := k1m3) (c := k1c3) (by decide +kernel) rfl rfl rfl (by decide +kernel)
set_option maxRecDepth 65536 in
theorem w_c1 : (Jvm.Cond.code ({ cls := "com/example/lockstep/lockstep/workload/SeededRandom", name := "<init>", desc := "(J)V" } : Jvm.MethodName) prog_61_method_1_code (3 : Nat) (Option.none : Option Jvm.ClassFile.FieldType)).before args0 about1 = true := code_word (m := ⟨2, 0⟩) (meth := k2m0) (c := k2c0) (by decide +kernel) rfl rfl rfl (by decide +kernel)
set_option maxRecDepth 65536 in
theorem w_c2 : (Jvm.Cond.code ({ cls := "java/lang/Object", name := "<init>", desc := "()V" } : Jvm.MethodName) object_method_1_code (1 : Nat) (Option.none : Option Jvm.ClassFile.FieldType)).before args0 about1 = true := code_word (m := ⟨0, 0⟩) (meth := k0m0) (c := k0c0) (by decide +kernel) rfl rfl rfl (by decide +kernel)
set_option maxRecDepth 65536 in
theorem w_c3 : (Jvm.Cond.code ({ cls := "com/example/lockstep/lockstep/workload/SeededRandom", name := "nextLong", desc := "()J" } : Jvm.MethodName) prog_61_method_3_code (3 : Nat) (Option.some Jvm.ClassFile.FieldType.long)).before args0 about1 = true := code_word (m := ⟨2, 1⟩) (meth := k2m1) (c := k2c1) (by decide +kernel) rfl rfl rfl (by decide +kernel)
set_option maxRecDepth 65536 in
theorem w_c4 : (Jvm.Cond.code ({ cls := "com/example/lockstep/lockstep/workload/SeededRandomNextLongPinLaw", name := "unmix", desc := "(J)J" } : Jvm.MethodName) method_3_code (6 : Nat) (Option.some Jvm.ClassFile.FieldType.long)).before args0 about1 = true := code_word (m := ⟨1, 2⟩) (meth := k1m2) (c := k1c2) (by decide +kernel) rfl rfl rfl (by decide +kernel)
set_option maxRecDepth 65536 in
theorem w_c5 : (Jvm.Cond.code ({ cls := "com/example/lockstep/lockstep/workload/SeededRandomNextLongPinLaw", name := "inv", desc := "(J)J" } : Jvm.MethodName) method_2_code (4 : Nat) (Option.some Jvm.ClassFile.FieldType.long)).before args0 about1 = true := code_word (m := ⟨1, 1⟩) (meth := k1m1) (c := k1c1) (by decide +kernel) rfl rfl rfl (by decide +kernel)
def codes1 : List Jvm.Cond := [Jvm.Cond.code x code maxLocals ret, Jvm.Cond.code ({ cls := "com/example/lockstep/lockstep/workload/SeededRandom", name := "<init>", desc := "(J)V" } : Jvm.MethodName) prog_61_method_1_code (3 : Nat) (Option.none : Option Jvm.ClassFile.FieldType), Jvm.Cond.code ({ cls := "java/lang/Object", name := "<init>", desc := "()V" } : Jvm.MethodName) object_method_1_code (1 : Nat) (Option.none : Option Jvm.ClassFile.FieldType), Jvm.Cond.code ({ cls := "com/example/lockstep/lockstep/workload/SeededRandom", name := "nextLong", desc := "()J" } : Jvm.MethodName) prog_61_method_3_code (3 : Nat) (Option.some Jvm.ClassFile.FieldType.long), Jvm.Cond.code ({ cls := "com/example/lockstep/lockstep/workload/SeededRandomNextLongPinLaw", name := "unmix", desc := "(J)J" } : Jvm.MethodName) method_3_code (6 : Nat) (Option.some Jvm.ClassFile.FieldType.long), Jvm.Cond.code ({ cls := "com/example/lockstep/lockstep/workload/SeededRandomNextLongPinLaw", name := "inv", desc := "(J)J" } : Jvm.MethodName) method_2_code (4 : Nat) (Option.some Jvm.ClassFile.FieldType.long)]
set_option maxRecDepth 65536 in
theorem codes_eq : words1.filter isCode = codes1 := rfl
theorem w_codes : ∀ c ∈ words1.filter isCode, c.before args0 about1 = true := by
  rw [codes_eq]
  intro c hc
  simp only [codes1, List.mem_cons, List.not_mem_nil, or_false] at hc
  rcases hc with rfl | rfl | rfl | rfl | rfl | rfl
  · exact w_c0
  · exact w_c1
  · exact w_c2
  · exact w_c3
  · exact w_c4
  · exact w_c5
set_option maxRecDepth 65536 in
theorem w_t1 : (words1.take 24).all (fun c => isCode c || c.before args0 about1) = true := by decide +kernel
set_option maxRecDepth 65536 in
theorem w_t2 : (words1.drop 24).all (fun c => isCode c || c.before args0 about1) = true := by decide +kernel
theorem w_tables : (allAtoms (Jvm.Cond.code x code maxLocals ret :: tables_1)).before args0 about1 = true := by
  rw [allAtoms_all]
  show words1.all (fun c => c.before args0 about1) = true
  refine all_split ?_ w_codes
  rw [← List.take_append_drop 24 words1, List.all_append, w_t1, w_t2]
  rfl
set_option maxRecDepth 65536 in
theorem w_case : (Jvm.Cond.and given_1 narrow_1).before args0 about1 = true := by decide +kernel
theorem w_applies : (headSpec (Jvm.Cond.code x code maxLocals ret :: tables_1) room_1).applies x e0.platform about1 = true :=
  (Spec.applies_iff w_frames).mpr ⟨w_running, w_runnable, w_alone, w_named, w_hears, w_ripe, w_room, w_tables⟩
theorem atStart : AtStart classFile x code maxLocals ret World_1 tables_1 room_1 Calls_1 rest_1 Pre_1 launch0 p0 e0 about1 theMethod args0 below0 :=
  ⟨lists_1, trivial, launch0.admits_env _ _ _, launch0.least_env, fairChoices_fair.cas, fairChoices_fair.clock, w_frames, w_args, w_heap, w_applies, trivial, trivial, w_case⟩
end start1
theorem witness_1 : WitnessClaimed_1 := ⟨start1.p0, start1.e0, start1.about1, start1.theMethod, start1.args0, start1.below0, start1.atStart⟩
end Jvm.Pilot.@@N@@
