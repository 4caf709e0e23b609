import JvmDerived
import JvmDerived.Pilot.@@N@@Statement
import JvmDerived.Pilot.@@N@@Code
set_option linter.unusedVariables false
set_option linter.unusedSimpArgs false
namespace Jvm.RoadKit
open Sem ClassFile Op Lib Jvm.Stand Jvm.Free Jvm.LawKit
section Own
variable {p : Program} {l : Launch} {e : Env} {R : Room} {s : State} {m : MethodId} {args : Array Value} {below : List Frame} {meth : Method} {c : Code} {T : State} {locs : List Loc} {cells slots : Nat} {Z : State} {a0 : Array Value} {h : Heap}
/-- from T, with g on top, this invocation comes to its return and Q holds of what it leaves -/
def own_Ends (p : Program) (e : Env) (below : List Frame) (s : State) (Q : Option Value → Heap → List Loc → Prop) (k n : Nat) (T : State) (g : JFrame) : Prop :=
  ∃ s₂ o, Steps p.tables e below (T.setTop g) s₂ ∧ s₂.status = .running ∧ Ended s₂ below o ∧ ∃ v L, o = .returned v ∧ Q v s₂.heap L ∧ FrameEnd s o s₂ L k n
theorem own_step {Q : Option Value → Heap → List Loc → Prop} {k n : Nat} {T' : State} {g g' : JFrame} (h : ∀ t, Steps p.tables e below (T'.setTop g') t → Steps p.tables e below (T.setTop g) t) (H : own_Ends p e below s Q k n T' g') : own_Ends p e below s Q k n T g := by
  obtain ⟨s₂, o, h1, r⟩ := H
  exact ⟨s₂, o, h _ h1, r⟩
theorem own_ret (X : Stand p l e R s m args below meth c T locs cells slots) {v : Option Value} (hv : meth.sig.returnType = none → v = none) (hlk : meth.locks = false) {g : JFrame} {Q : Option Value → Heap → List Loc → Prop} {k n : Nat}
    (st : ∀ fs, (∀ (f : JFrame) (acts : List Action), f.method = m → f.locked = none → f.entered = [] → (doReturn e (T.setTop f) acts v).1 = T.setFrames fs) → Steps p.tables e below (T.setTop g) (T.setFrames fs))
    (hQ : Q v T.heap locs) (hk : cells ≤ k) (hn : slots ≤ n) : own_Ends p e below s Q k n T g := by
  obtain ⟨fs, hr, hrun, hended, hW, hsame⟩ := X.leave (v := v) hv hlk
  exact ⟨_, _, st fs hr, hrun, hended, v, locs, rfl, hQ, ⟨_, rfl⟩, hW, hsame.mono hk hn⟩
theorem own_retI (X : Stand p l e R s m args below meth c T locs cells slots) (hx : p.tables.exec = Jvm.exec) (hret : meth.sig.returnType = some .int) (hlk : meth.locks = false) {pc : Nat} {Ls : Array Slot} {z : Int32} {rest : List Value} (hd : decode c.code pc = .ok (.ireturn, 1)) {Q : Option Value → Heap → List Loc → Prop} {k n : Nat}
    (hQ : Q (some (.int z)) T.heap locs) (hk : cells ≤ k) (hn : slots ≤ n) : own_Ends p e below s Q k n T (mkF m pc Ls (.int z :: rest)) :=
  own_ret X (fun q => by rw [hret] at q; cases q) hlk (fun fs hr => retOut X hx hret rfl (Or.inl ⟨rfl, Or.inl rfl, z, rfl⟩) hd hr) hQ hk hn
theorem own_retN (X : Stand p l e R s m args below meth c T locs cells slots) (hx : p.tables.exec = Jvm.exec) {t : FieldType} (hret : meth.sig.returnType = some t) (ht : t = .boolean ∨ t = .byte ∨ t = .char ∨ t = .short) (hlk : meth.locks = false) {pc : Nat} {Ls : Array Slot} {z v : Int32} {rest : List Value} (hd : decode c.code pc = .ok (.ireturn, 1)) {Q : Option Value → Heap → List Loc → Prop} {k n : Nat}
    (hv : nar t z = v) (hQ : Q (some (.int v)) T.heap locs) (hk : cells ≤ k) (hn : slots ≤ n) : own_Ends p e below s Q k n T (mkF m pc Ls (.int z :: rest)) :=
  own_ret X (v := some (.int v)) (fun q => by rw [hret] at q; cases q) hlk (fun fs hr => retN X hx hret ht hd (by rw [hv]; exact hr)) hQ hk hn
theorem own_retL (X : Stand p l e R s m args below meth c T locs cells slots) (hx : p.tables.exec = Jvm.exec) (hret : meth.sig.returnType = some .long) (hlk : meth.locks = false) {pc : Nat} {Ls : Array Slot} {z : Int64} {rest : List Value} (hd : decode c.code pc = .ok (.lreturn, 1)) {Q : Option Value → Heap → List Loc → Prop} {k n : Nat}
    (hQ : Q (some (.long z)) T.heap locs) (hk : cells ≤ k) (hn : slots ≤ n) : own_Ends p e below s Q k n T (mkF m pc Ls (.long z :: rest)) :=
  own_ret X (fun q => by rw [hret] at q; cases q) hlk (fun fs hr => retOut X hx hret rfl (Or.inr (Or.inl ⟨rfl, rfl, z, rfl⟩)) hd hr) hQ hk hn
theorem own_retA (X : Stand p l e R s m args below meth c T locs cells slots) (hx : p.tables.exec = Jvm.exec) {t : FieldType} (hret : meth.sig.returnType = some t) (ht : t.isReference = true) (hlk : meth.locks = false) {pc : Nat} {Ls : Array Slot} {z : Value} {rest : List Value} (hz : z.isRef = true) (hn0 : narrow t z = z) (hd : decode c.code pc = .ok (.areturn, 1)) {Q : Option Value → Heap → List Loc → Prop} {k n : Nat}
    (hQ : Q (some z) T.heap locs) (hk : cells ≤ k) (hn : slots ≤ n) : own_Ends p e below s Q k n T (mkF m pc Ls (z :: rest)) :=
  own_ret X (fun q => by rw [hret] at q; cases q) hlk (fun fs hr => retOut X hx hret hn0 (Or.inr (Or.inr (Or.inr (Or.inr ⟨rfl, ht, hz⟩)))) hd hr) hQ hk hn
theorem own_retV (X : Stand p l e R s m args below meth c T locs cells slots) (hx : p.tables.exec = Jvm.exec) (hret : meth.sig.returnType = none) (hlk : meth.locks = false) {pc : Nat} {Ls : Array Slot} (hd : decode c.code pc = .ok (.return_, 1)) {Q : Option Value → Heap → List Loc → Prop} {k n : Nat}
    (hQ : Q none T.heap locs) (hk : cells ≤ k) (hn : slots ≤ n) : own_Ends p e below s Q k n T (mkF m pc Ls []) :=
  own_ret X (fun _ => rfl) hlk (fun fs hr => X.returnOut hx hret hd hr) hQ hk hn
/-- a contract: called with as' over the heap h0, the method comes back and Q holds -/
def own_Met (l : Launch) (y : MethodName) (bytes : ByteArray) (maxL : Nat) (ret : Option FieldType) (ws : List Jvm.Cond) (rm : Room) (as' : Array Value) (Z : State) (h0 : Heap) (Q : Option Value → Heap → List Loc → Prop) : Prop :=
  MetFree l y (head1 (Jvm.Cond.code y bytes maxL ret :: ws) rm) (fun a U => a = as' ∧ Z.Warmed39 U.vm ∧ U.heap = h0) (fun _ _ _ _ _ => True) (fun _ U o U' => ∃ v L, o = .returned v ∧ Q v U'.heap L ∧ FrameEnd U o U' L rm.cells rm.slots)
theorem own_body {y : MethodName} {bytes : ByteArray} {maxL : Nat} {ret : Option FieldType} {ws : List Jvm.Cond} {rm : Room} {as' : Array Value} {h0 : Heap} {Q : Option Value → Heap → List Loc → Prop} (hy : plainFor y = true) {g0 : MethodId → JFrame} (ef : ∀ m, entryFrame m as' maxL = g0 m)
    (body : ∀ (p : Program) (e : Env) (s : State) (m : MethodId) (below : List Frame) (meth : Method) (c : Code) (T : State), Stand p l e rm s m as' below meth c T [] 0 0 → p.tables.exec = Jvm.exec → c.code = bytes → c.maxLocals = maxL → meth.sig.returnType = ret → meth.locks = false → meth.name = y.name → s.vm.findClass y.cls = some m.cls → Z.Warmed39 s.vm → T.heap = h0 → own_Ends p e below s Q rm.cells rm.slots T (g0 m)) :
    own_Met l y bytes maxL ret ws rm as' Z h0 Q := by
  refine MetFree.of_bodySF hy hisR ?_
  intro p e s m args below meth c s₁ Bd hml hP hK
  obtain ⟨ha, hZ, hh⟩ := hP
  subst ha
  have q := body p e s m below meth c s₁ (Stand.of_body Bd) Bd.exec Bd.bytes hml Bd.returns Bd.notSynchronized (name_of_methodNamed Bd.named Bd.method).1 (findClass_of_methodNamed Bd.named) hZ (by rw [← hh, Bd.state]; rfl)
  rw [← ef m] at q
  exact q
theorem own_callS (X : Stand p l e R s m args below meth c T locs cells slots) (hx : p.tables.exec = Jvm.exec) (hZ : Z.Warmed39 s.vm) {own : String} {index : Nat} {y : MethodName} {bytes : ByteArray} {maxL : Nat} {ret : Option FieldType}
    (hown : s.vm.findClass own = some m.cls) (wl : (Jvm.Cond.methodLink own index y).before a0 Z = true) (wst : (Jvm.Cond.static y).before a0 Z = true) (wi : (Jvm.Cond.initialized y.cls).before a0 Z = true) (wc : (Jvm.Cond.code y bytes maxL ret).before a0 Z = true)
    (hy : y.cls ≠ "java/lang/invoke/MethodHandle" ∧ y.cls ≠ "java/lang/invoke/VarHandle") {rm : Room} {as' : Array Value} {Qc : Option Value → Heap → List Loc → Prop} (hM : own_Met l y bytes maxL ret [] rm as' Z h Qc) (eT : T.heap = h) (W : Nat)
    (hf : rm.frames + 1 ≤ R.frames) (hlo : W + (maxL + 11) + rm.locals ≤ R.locals) (hcl : cells + rm.cells ≤ R.cells) (hsl : slots + rm.slots ≤ R.slots)
    {g : JFrame} (hg : g.method = m) (hsize : g.locals.size = c.maxLocals) (argsL rest : List Value) {ps : List FieldType} {r : Option FieldType} (hpd : parseMethodDescriptor y.desc = some ⟨ps, r⟩) (hlen : argsL.length = ps.length) (has : argsL.toArray = as')
    (hstack : g.stack = argsL.reverse ++ rest) (hW : 2 * g.monitorRoom + (rest.map fun v => v.category).sum ≤ W) (hdg : decode c.code g.pc = .ok (.invokestatic index, 3)) {Q : Option Value → Heap → List Loc → Prop} {k n : Nat}
    (cont : ∀ v T' L, Stand p l e R s m args below meth c T' (locs ++ L) (cells + rm.cells) (slots + rm.slots) → Qc v T'.heap L → own_Ends p e below s Q k n T' { g with pc := g.pc + 3, stack := v.toList ++ rest }) : own_Ends p e below s Q k n T g := by
  obtain ⟨v, _, ⟨T2, L2, k2, n2⟩, -, X2, ⟨Lc, hQ, l2, y2, z2⟩, st⟩ := Jvm.LawKit.callS X hx (y := y) hown (mvT hZ wl) (mvT hZ wst) (mvT hZ wi) (mvT hZ wc) hy (backOf (W := W) hM hZ wc wi hf hlo) hg hsize (argsL := argsL) (rest := rest) (lenOf hpd hlen) hstack hW hdg (fun _ _ => ⟨has, eT, hcl, hsl⟩)
  dsimp only [Pt.U, Pt.locs, Pt.cells, Pt.slots] at X2 l2 y2 z2 st hQ
  subst l2 y2 z2
  exact own_step st (cont v T2 Lc X2 hQ)
theorem own_callV (X : Stand p l e R s m args below meth c T locs cells slots) (hx : p.tables.exec = Jvm.exec) (hZ : Z.Warmed39 s.vm) {own C : String} {index : Nat} {y z : MethodName} {bytes : ByteArray} {maxL : Nat} {ret : Option FieldType}
    (hown : s.vm.findClass own = some m.cls) (wl : (Jvm.Cond.methodLink own index y).before a0 Z = true) (wd : (Jvm.Cond.declares y).before a0 Z = true) (wf : (Jvm.Cond.selects y.cls y y).before a0 Z = true) (ws : (Jvm.Cond.selects C y z).before a0 Z = true) (wm : (Jvm.Cond.instanceMethod z).before a0 Z = true) (wi : (Jvm.Cond.initialized z.cls).before a0 Z = true) (wc : (Jvm.Cond.code z bytes maxL ret).before a0 Z = true)
    (hy : y.cls ≠ "java/lang/invoke/MethodHandle" ∧ y.cls ≠ "java/lang/invoke/VarHandle") {rm : Room} {as' : Array Value} {Qc : Option Value → Heap → List Loc → Prop} (hM : own_Met l z bytes maxL ret [] rm as' Z h Qc) (eT : T.heap = h) {b : Addr} (hE : Exa Z h b C) (W : Nat)
    (hf : rm.frames + 1 ≤ R.frames) (hlo : W + (maxL + 11) + rm.locals ≤ R.locals) (hcl : cells + rm.cells ≤ R.cells) (hsl : slots + rm.slots ≤ R.slots)
    {g : JFrame} (hg : g.method = m) (hsize : g.locals.size = c.maxLocals) (argsL rest : List Value) {ps : List FieldType} {r : Option FieldType} (hpd : parseMethodDescriptor y.desc = some ⟨ps, r⟩) (hlen : argsL.length = ps.length) (has : (Value.ref b :: argsL).toArray = as')
    (hstack : g.stack = argsL.reverse ++ .ref b :: rest) (hW : 2 * g.monitorRoom + (rest.map fun v => v.category).sum ≤ W) (hdg : decode c.code g.pc = .ok (.invokevirtual index, 3)) {Q : Option Value → Heap → List Loc → Prop} {k n : Nat}
    (cont : ∀ v T' L, Stand p l e R s m args below meth c T' (locs ++ L) (cells + rm.cells) (slots + rm.slots) → Qc v T'.heap L → own_Ends p e below s Q k n T' { g with pc := g.pc + 3, stack := v.toList ++ rest }) : own_Ends p e below s Q k n T g := by
  obtain ⟨cq, kq, q1, q2, q3⟩ := isOf hZ eT hE
  obtain ⟨v, _, ⟨T2, L2, k2, n2⟩, -, X2, ⟨Lc, hQ, l2, y2, z2⟩, st⟩ := X.virtualBack hx (y := y) (z := z) hown (mvT hZ wl) (mvT hZ wd) (notFace_of_selects (args := #[]) (mvT hZ wf)) (mvT hZ ws) (mvT hZ wm) hy (backOf (W := W) hM hZ wc wi hf hlo) q1 q3 hg hsize (Steps.refl _) (argsL := argsL) (rest := rest) (lenOf hpd hlen) hstack hW hdg (fun _ _ => ⟨has, eT, hcl, hsl⟩)
  dsimp only [Pt.U, Pt.locs, Pt.cells, Pt.slots] at X2 l2 y2 z2 st hQ
  subst l2 y2 z2
  exact own_step (fun _ k => st.trans k) (cont v T2 Lc X2 hQ)
theorem own_callC (X : Stand p l e R s m args below meth c T locs cells slots) (hx : p.tables.exec = Jvm.exec) (hZ : Z.Warmed39 s.vm) {own : String} {index : Nat} {y : MethodName} {bytes : ByteArray} {maxL : Nat} (hy1 : y.name = "<init>")
    (hown : s.vm.findClass own = some m.cls) (wl : (Jvm.Cond.methodLink own index y).before a0 Z = true) (wm : (Jvm.Cond.instanceMethod y).before a0 Z = true) (wi : (Jvm.Cond.initialized y.cls).before a0 Z = true) (wc : (Jvm.Cond.code y bytes maxL none).before a0 Z = true)
    (hy : y.cls ≠ "java/lang/invoke/MethodHandle" ∧ y.cls ≠ "java/lang/invoke/VarHandle") {rm : Room} {as' : Array Value} {Qc : Option Value → Heap → List Loc → Prop} (hM : own_Met l y bytes maxL none [] rm as' Z h Qc) (eT : T.heap = h) {b : Addr} (W : Nat)
    (hf : rm.frames + 1 ≤ R.frames) (hlo : W + (maxL + 11) + rm.locals ≤ R.locals) (hcl : cells + rm.cells ≤ R.cells) (hsl : slots + rm.slots ≤ R.slots)
    {g : JFrame} (hg : g.method = m) (hsize : g.locals.size = c.maxLocals) (argsL rest : List Value) {ps : List FieldType} {r : Option FieldType} (hpd : parseMethodDescriptor y.desc = some ⟨ps, r⟩) (hlen : argsL.length = ps.length) (has : (Value.ref b :: argsL).toArray = as')
    (hstack : g.stack = argsL.reverse ++ .ref b :: rest) (hW : 2 * g.monitorRoom + (rest.map fun v => v.category).sum ≤ W) (hdg : decode c.code g.pc = .ok (.invokespecial index, 3)) {Q : Option Value → Heap → List Loc → Prop} {k n : Nat}
    (cont : ∀ v T' L, Stand p l e R s m args below meth c T' (locs ++ L) (cells + rm.cells) (slots + rm.slots) → Qc v T'.heap L → own_Ends p e below s Q k n T' { g with pc := g.pc + 3, stack := v.toList ++ rest }) : own_Ends p e below s Q k n T g := by
  obtain ⟨v, _, ⟨T2, L2, k2, n2⟩, -, X2, ⟨Lc, hQ, l2, y2, z2⟩, st⟩ := X.specialBack hx (y := y) hy1 hown (mvT hZ wl) (mvT hZ wm) (mvT hZ wc) hy (backOf (W := W) hM hZ wc wi hf hlo) hg hsize (Steps.refl _) (a := b) (argsL := argsL) (rest := rest) (lenOf hpd hlen) hstack hW hdg (fun _ _ => ⟨has, eT, hcl, hsl⟩)
  dsimp only [Pt.U, Pt.locs, Pt.cells, Pt.slots] at X2 l2 y2 z2 st hQ
  subst l2 y2 z2
  exact own_step (fun _ k => st.trans k) (cont v T2 Lc X2 hQ)
/-! arrays by their lists -/
variable {a b : Addr} {kA : ClassId} {ty : FieldType} {z : Int32} {vs : List Value} {dv : Value}
theorem own_newA (X : Stand p l e R s m args below meth c T locs cells slots) (hx : p.tables.exec = Jvm.exec) (hZ : Z.Warmed39 s.vm) {aty : ArrayType} (w : (Jvm.Cond.arrayClass (newarray.typeOf aty)).before a0 Z = true) (eT : T.heap = h) {g : JFrame} (hg : g.method = m) (hd : decode c.code g.pc = .ok (.newarray aty, 2)) {n : Int32} {rest : List Value} (hs : g.stack = .int n :: rest)
    (hn : ¬ n < 0) {cap : Nat} (hcap : n.toNatClampNeg ≤ cap) (hb : cap * 8 ≤ 536870912) (hc : cells + 1 ≤ R.cells) (hl : slots + cap ≤ R.slots) :
    ∃ T' h' cA b, b = h.size ∧ Stand p l e R s m args below meth c T' locs (cells + 1) (slots + cap) ∧ T'.heap = h' ∧ Ext h h' ∧ Arv Z h' b cA (newarray.typeOf aty) n (List.replicate cap (defaultValue (newarray.typeOf aty))) (defaultValue (newarray.typeOf aty)) ∧
      ∀ target, Steps p.tables e below (T'.setTop { g with pc := g.pc + 2, stack := .ref b :: rest }) target → Steps p.tables e below (T.setTop g) target := by
  obtain ⟨T', h', cA, X', e', E, A, st⟩ := newP X hx hZ w eT hg hd hs hn hcap hb hc hl
  exact ⟨T', h', cA, _, rfl, X', e', E, (Arv.new A hn).pad (pad_rep [] _ cap), st⟩
theorem own_stB (X : Stand p l e R s m args below meth c T locs cells slots) (hx : p.tables.exec = Jvm.exec) (hZ : Z.Warmed39 s.vm) (eT : T.heap = h) (V : Arv Z h a kA .byte z vs dv) {j x : Int32} (hj : ¬ j < 0 ∧ j < z) (i : Nat) (hi : j.toNatClampNeg = i) (hl : i < vs.length) {g : JFrame} (hg : g.method = m) {rest : List Value} (hs : g.stack = .int x :: .int j :: .ref a :: rest) (hd : decode c.code g.pc = .ok (.bastore, 1)) :
    ∃ T' h' L, Stand p l e R s m args below meth c T' (locs ++ [⟨a, L⟩]) cells slots ∧ T'.heap = h' ∧ Wr h h' a L (.int x.toInt8.toInt32) ∧ Arv Z h' a kA .byte z (vs.set i (.int x.toInt8.toInt32)) dv ∧ ∀ target, Steps p.tables e below (T'.setTop { g with pc := g.pc + 1, stack := rest }) target → Steps p.tables e below (T.setTop g) target := by
  obtain ⟨cl, Ar, q, S, N, H, G⟩ := V
  obtain ⟨T', h', X', e', W, st⟩ := stB X hx hZ eT Ar (inb_of S hj) hg hs hd
  exact ⟨T', h', _, X', e', W, Arv.set Ar q S N H G (fits_nar_byte _) W i hi hl, st⟩
theorem own_stZ (X : Stand p l e R s m args below meth c T locs cells slots) (hx : p.tables.exec = Jvm.exec) (hZ : Z.Warmed39 s.vm) (eT : T.heap = h) (V : Arv Z h a kA .boolean z vs dv) {j x : Int32} (hj : ¬ j < 0 ∧ j < z) (i : Nat) (hi : j.toNatClampNeg = i) (hl : i < vs.length) {g : JFrame} (hg : g.method = m) {rest : List Value} (hs : g.stack = .int x :: .int j :: .ref a :: rest) (hd : decode c.code g.pc = .ok (.bastore, 1)) :
    ∃ T' h' L, Stand p l e R s m args below meth c T' (locs ++ [⟨a, L⟩]) cells slots ∧ T'.heap = h' ∧ Wr h h' a L (.int (nar .boolean x)) ∧ Arv Z h' a kA .boolean z (vs.set i (.int (nar .boolean x))) dv ∧ ∀ target, Steps p.tables e below (T'.setTop { g with pc := g.pc + 1, stack := rest }) target → Steps p.tables e below (T.setTop g) target := by
  obtain ⟨cl, Ar, q, S, N, H, G⟩ := V
  obtain ⟨T', h', X', e', W, st⟩ := stZ X hx hZ eT Ar (inb_of S hj) hg hs hd
  exact ⟨T', h', _, X', e', W, Arv.set Ar q S N H G (fits_nar_bool _) W i hi hl, st⟩
theorem own_stC (X : Stand p l e R s m args below meth c T locs cells slots) (hx : p.tables.exec = Jvm.exec) (hZ : Z.Warmed39 s.vm) (eT : T.heap = h) (V : Arv Z h a kA .char z vs dv) {j x : Int32} (hj : ¬ j < 0 ∧ j < z) (i : Nat) (hi : j.toNatClampNeg = i) (hl : i < vs.length) {g : JFrame} (hg : g.method = m) {rest : List Value} (hs : g.stack = .int x :: .int j :: .ref a :: rest) (hd : decode c.code g.pc = .ok (.castore, 1)) :
    ∃ T' h' L, Stand p l e R s m args below meth c T' (locs ++ [⟨a, L⟩]) cells slots ∧ T'.heap = h' ∧ Wr h h' a L (.int (nar .char x)) ∧ Arv Z h' a kA .char z (vs.set i (.int (nar .char x))) dv ∧ ∀ target, Steps p.tables e below (T'.setTop { g with pc := g.pc + 1, stack := rest }) target → Steps p.tables e below (T.setTop g) target := by
  obtain ⟨cl, Ar, q, S, N, H, G⟩ := V
  obtain ⟨T', h', X', e', W, st⟩ := stC X hx hZ eT Ar (inb_of S hj) hg hs hd
  exact ⟨T', h', _, X', e', W, Arv.set Ar q S N H G (fits_nar_char _) W i hi hl, st⟩
theorem own_stI (X : Stand p l e R s m args below meth c T locs cells slots) (hx : p.tables.exec = Jvm.exec) (hZ : Z.Warmed39 s.vm) (eT : T.heap = h) (V : Arv Z h a kA .int z vs dv) {j x : Int32} (hj : ¬ j < 0 ∧ j < z) (i : Nat) (hi : j.toNatClampNeg = i) (hl : i < vs.length) {g : JFrame} (hg : g.method = m) {rest : List Value} (hs : g.stack = .int x :: .int j :: .ref a :: rest) (hd : decode c.code g.pc = .ok (.iastore, 1)) :
    ∃ T' h' L, Stand p l e R s m args below meth c T' (locs ++ [⟨a, L⟩]) cells slots ∧ T'.heap = h' ∧ Wr h h' a L (.int x) ∧ Arv Z h' a kA .int z (vs.set i (.int x)) dv ∧ ∀ target, Steps p.tables e below (T'.setTop { g with pc := g.pc + 1, stack := rest }) target → Steps p.tables e below (T.setTop g) target := by
  obtain ⟨cl, Ar, q, S, N, H, G⟩ := V
  obtain ⟨T', h', X', e', W, st⟩ := stI X hx hZ eT Ar (inb_of S hj) hg hs hd
  exact ⟨T', h', _, X', e', W, Arv.set Ar q S N H G rfl W i hi hl, st⟩
theorem own_stJ (X : Stand p l e R s m args below meth c T locs cells slots) (hx : p.tables.exec = Jvm.exec) (hZ : Z.Warmed39 s.vm) (eT : T.heap = h) (V : Arv Z h a kA .long z vs dv) {j : Int32} {x : Int64} (hj : ¬ j < 0 ∧ j < z) (i : Nat) (hi : j.toNatClampNeg = i) (hl : i < vs.length) {g : JFrame} (hg : g.method = m) {rest : List Value} (hs : g.stack = .long x :: .int j :: .ref a :: rest) (hd : decode c.code g.pc = .ok (.lastore, 1)) :
    ∃ T' h' L, Stand p l e R s m args below meth c T' (locs ++ [⟨a, L⟩]) cells slots ∧ T'.heap = h' ∧ Wr h h' a L (.long x) ∧ Arv Z h' a kA .long z (vs.set i (.long x)) dv ∧ ∀ target, Steps p.tables e below (T'.setTop { g with pc := g.pc + 1, stack := rest }) target → Steps p.tables e below (T.setTop g) target := by
  obtain ⟨cl, Ar, q, S, N, H, G⟩ := V
  obtain ⟨T', h', X', e', W, st⟩ := stJ X hx hZ eT Ar (inb_of S hj) hg hs hd
  exact ⟨T', h', _, X', e', W, Arv.set Ar q S N H G rfl W i hi hl, st⟩
theorem own_ldB (X : Stand p l e R s m args below meth c T locs cells slots) (hx : p.tables.exec = Jvm.exec) (hZ : Z.Warmed39 s.vm) (eT : T.heap = h) (V : Arv Z h a kA .byte z vs dv) {j : Int32} {v : Value} (hj : ¬ j < 0 ∧ j < z) (hv : vs.getD j.toNatClampNeg dv = v) {g : JFrame} (hg : g.method = m) {rest : List Value} (hs : g.stack = .int j :: .ref a :: rest) (hd : decode c.code g.pc = .ok (.baload, 1)) :
    ∀ t, Steps p.tables e below (T.setTop { g with pc := g.pc + 1, stack := v :: rest }) t → Steps p.tables e below (T.setTop g) t := by
  obtain ⟨cl, Ar, q, S, N, H, G⟩ := V
  exact fun t k => X.baloadBytes hx (by rw [eT]; exact Ar.1) (State.isArrayOf_alike hZ.alike Ar.2.1) Ar.2.2 (inb_of S hj) (Has.at H (inb_of S hj) hv) hg hs hd _ k
theorem own_ldZ (X : Stand p l e R s m args below meth c T locs cells slots) (hx : p.tables.exec = Jvm.exec) (hZ : Z.Warmed39 s.vm) (eT : T.heap = h) (V : Arv Z h a kA .boolean z vs dv) {j : Int32} {v : Value} (hj : ¬ j < 0 ∧ j < z) (hv : vs.getD j.toNatClampNeg dv = v) {g : JFrame} (hg : g.method = m) {rest : List Value} (hs : g.stack = .int j :: .ref a :: rest) (hd : decode c.code g.pc = .ok (.baload, 1)) :
    ∀ t, Steps p.tables e below (T.setTop { g with pc := g.pc + 1, stack := v :: rest }) t → Steps p.tables e below (T.setTop g) t := by
  obtain ⟨cl, Ar, q, S, N, H, G⟩ := V
  exact fun t k => X.baloadBooleans hx (by rw [eT]; exact Ar.1) (State.isArrayOf_alike hZ.alike Ar.2.1) Ar.2.2 (inb_of S hj) (Has.at H (inb_of S hj) hv) hg hs hd _ k
theorem own_ldC (X : Stand p l e R s m args below meth c T locs cells slots) (hx : p.tables.exec = Jvm.exec) (hZ : Z.Warmed39 s.vm) (eT : T.heap = h) (V : Arv Z h a kA .char z vs dv) {j : Int32} {v : Value} (hj : ¬ j < 0 ∧ j < z) (hv : vs.getD j.toNatClampNeg dv = v) {g : JFrame} (hg : g.method = m) {rest : List Value} (hs : g.stack = .int j :: .ref a :: rest) (hd : decode c.code g.pc = .ok (.caload, 1)) :
    ∀ t, Steps p.tables e below (T.setTop { g with pc := g.pc + 1, stack := v :: rest }) t → Steps p.tables e below (T.setTop g) t := by
  obtain ⟨cl, Ar, q, S, N, H, G⟩ := V
  exact fun t k => X.caload hx (by rw [eT]; exact Ar.1) (State.isArrayOf_alike hZ.alike Ar.2.1) Ar.2.2 (inb_of S hj) (Has.at H (inb_of S hj) hv) hg hs hd _ k
theorem own_ldI (X : Stand p l e R s m args below meth c T locs cells slots) (hx : p.tables.exec = Jvm.exec) (hZ : Z.Warmed39 s.vm) (eT : T.heap = h) (V : Arv Z h a kA .int z vs dv) {j : Int32} {v : Value} (hj : ¬ j < 0 ∧ j < z) (hv : vs.getD j.toNatClampNeg dv = v) {g : JFrame} (hg : g.method = m) {rest : List Value} (hs : g.stack = .int j :: .ref a :: rest) (hd : decode c.code g.pc = .ok (.iaload, 1)) :
    ∀ t, Steps p.tables e below (T.setTop { g with pc := g.pc + 1, stack := v :: rest }) t → Steps p.tables e below (T.setTop g) t := by
  obtain ⟨cl, Ar, q, S, N, H, G⟩ := V
  exact fun t k => X.iaload hx (by rw [eT]; exact Ar.1) (State.isArrayOf_alike hZ.alike Ar.2.1) Ar.2.2 (inb_of S hj) (Has.at H (inb_of S hj) hv) hg hs hd _ k
theorem own_ldJ (X : Stand p l e R s m args below meth c T locs cells slots) (hx : p.tables.exec = Jvm.exec) (hZ : Z.Warmed39 s.vm) (eT : T.heap = h) (V : Arv Z h a kA .long z vs dv) {j : Int32} {v : Value} (hj : ¬ j < 0 ∧ j < z) (hv : vs.getD j.toNatClampNeg dv = v) {g : JFrame} (hg : g.method = m) {rest : List Value} (hs : g.stack = .int j :: .ref a :: rest) (hd : decode c.code g.pc = .ok (.laload, 1)) :
    ∀ t, Steps p.tables e below (T.setTop { g with pc := g.pc + 1, stack := v :: rest }) t → Steps p.tables e below (T.setTop g) t := by
  obtain ⟨cl, Ar, q, S, N, H, G⟩ := V
  exact fun t k => X.laload hx (by rw [eT]; exact Ar.1) (State.isArrayOf_alike hZ.alike Ar.2.1) Ar.2.2 (inb_of S hj) (Has.at H (inb_of S hj) hv) hg hs hd _ k
theorem own_ldA (X : Stand p l e R s m args below meth c T locs cells slots) (hx : p.tables.exec = Jvm.exec) (hZ : Z.Warmed39 s.vm) (eT : T.heap = h) (V : Arv Z h a kA ty z vs dv) (hty : ty.isReference = true) {j : Int32} {v : Value} (hj : ¬ j < 0 ∧ j < z) (hv : vs.getD j.toNatClampNeg dv = v) {g : JFrame} (hg : g.method = m) {rest : List Value} (hs : g.stack = .int j :: .ref a :: rest) (hd : decode c.code g.pc = .ok (.aaload, 1)) :
    ∀ t, Steps p.tables e below (T.setTop { g with pc := g.pc + 1, stack := v :: rest }) t → Steps p.tables e below (T.setTop g) t := by
  obtain ⟨cl, Ar, q, S, N, H, G⟩ := V
  exact fun t k => X.aaload hx (by rw [eT]; exact Ar.1) (State.isArrayOf_alike hZ.alike Ar.2.1) hty Ar.2.2 (inb_of S hj) (Has.at H (inb_of S hj) hv) hg hs hd _ k
theorem own_len (X : Stand p l e R s m args below meth c T locs cells slots) (hx : p.tables.exec = Jvm.exec) (hZ : Z.Warmed39 s.vm) (eT : T.heap = h) (V : Arv Z h a kA ty z vs dv) {g : JFrame} (hg : g.method = m) {rest : List Value} (hs : g.stack = .ref a :: rest) (hd : decode c.code g.pc = .ok (.arraylength, 1)) :
    ∀ t, Steps p.tables e below (T.setTop { g with pc := g.pc + 1, stack := .int z :: rest }) t → Steps p.tables e below (T.setTop g) t := by
  obtain ⟨cl, Ar, q, S, N, H, G⟩ := V
  refine fun t k => X.arraylength hx (by rw [eT]; exact Ar.1) (State.isArrayOf_alike hZ.alike Ar.2.1) hg hs hd _ ?_
  rw [len_of S N]; exact k
theorem own_newR (X : Stand p l e R s m args below meth c T locs cells slots) (hx : p.tables.exec = Jvm.exec) (hZ : Z.Warmed39 s.vm) {own C : String} {index : Nat} (hown : s.vm.findClass own = some m.cls) (w1 : (Jvm.Cond.classLink own index C).before a0 Z = true) (w2 : (Jvm.Cond.arrayOver (.object C)).before a0 Z = true)
    (eT : T.heap = h) {g : JFrame} (hg : g.method = m) (hd : decode c.code g.pc = .ok (.anewarray index, 3)) {n : Int32} {rest : List Value} (hs : g.stack = .int n :: rest) (hn : ¬ n < 0) {cap : Nat} (hcap : n.toNatClampNeg ≤ cap) (hb : cap * 8 ≤ 536870912) (hc : cells + 1 ≤ R.cells) (hl : slots + cap ≤ R.slots) :
    ∃ T' h' cA b, b = h.size ∧ Stand p l e R s m args below meth c T' locs (cells + 1) (slots + cap) ∧ T'.heap = h' ∧ Ext h h' ∧ Arv Z h' b cA (.object C) n (List.replicate cap .null) .null ∧ Ovr Z cA C ∧
      ∀ target, Steps p.tables e below (T'.setTop { g with pc := g.pc + 3, stack := .ref b :: rest }) target → Steps p.tables e below (T.setTop g) target := by
  obtain ⟨T', h', cA, X', e', E, A, O, st⟩ := newR X hx hZ hown w1 w2 eT hg hd hs hn hcap hb hc hl
  exact ⟨T', h', cA, _, rfl, X', e', E, (Arv.new A hn).pad (pad_rep [] _ cap), O, st⟩
theorem own_stA (X : Stand p l e R s m args below meth c T locs cells slots) (hx : p.tables.exec = Jvm.exec) (hZ : Z.Warmed39 s.vm) (eT : T.heap = h) {C : String} {y : Addr} (V : Arv Z h a kA (.object C) z vs dv) (O : Ovr Z kA C) (I : Ins Z h y C true) {j : Int32} (hj : ¬ j < 0 ∧ j < z) (i : Nat) (hi : j.toNatClampNeg = i) (hl : i < vs.length) {g : JFrame} (hg : g.method = m) {rest : List Value} (hs : g.stack = .ref y :: .int j :: .ref a :: rest) (hd : decode c.code g.pc = .ok (.aastore, 1)) :
    ∃ T' h' L, Stand p l e R s m args below meth c T' (locs ++ [⟨a, L⟩]) cells slots ∧ T'.heap = h' ∧ Wr h h' a L (.ref y) ∧ Arv Z h' a kA (.object C) z (vs.set i (.ref y)) dv ∧ ∀ target, Steps p.tables e below (T'.setTop { g with pc := g.pc + 1, stack := rest }) target → Steps p.tables e below (T.setTop g) target := by
  obtain ⟨cl, Ar, q, S, N, H, G⟩ := V
  obtain ⟨T', h', X', e', W, st⟩ := stR X hx hZ eT Ar (inb_of S hj) rfl (Sto.ofV Ar q O I) hg hs hd
  exact ⟨T', h', _, X', e', W, Arv.set Ar q S N H G rfl W i hi hl, st⟩
/-! what the case's words say of statics -/
theorem own_eqI {t : Term} {n : Int32} {args : Array Value} {s : State} (q : (Jvm.Cond.eq t (.int n)).value args s none s [] = some true) : t.eval args s none [] s = some (.int n) := by
  cases ht : t.eval args s none [] s with
  | none => simp [Jvm.Cond.value, ht] at q
  | some v => cases v <;> simp [Jvm.Cond.value, ht, Term.eval, Value.isRef] at q ⊢ <;> exact q
theorem own_eqJ {t : Term} {n : Int64} {args : Array Value} {s : State} (q : (Jvm.Cond.eq t (.long n)).value args s none s [] = some true) : t.eval args s none [] s = some (.long n) := by
  cases ht : t.eval args s none [] s with
  | none => simp [Jvm.Cond.value, ht] at q
  | some v => cases v <;> simp [Jvm.Cond.value, ht, Term.eval, Value.isRef] at q ⊢ <;> exact q
theorem own_eqR {t u : Term} {x : Addr} {args : Array Value} {s : State} (hu : u.eval args s none [] s = some (.ref x)) (q : (Jvm.Cond.eq t u).value args s none s [] = some true) : t.eval args s none [] s = some (.ref x) := by
  cases ht : t.eval args s none [] s with
  | none => simp [Jvm.Cond.value, ht] at q
  | some v => cases v <;> simp [Jvm.Cond.value, ht, hu, Value.isRef] at q ⊢ <;> exact q
theorem own_lenT {t : Term} {a : Addr} {cl : Cell} {ty : FieldType} {z : Int32} {args : Array Value} {s : State} (ht : t.eval args s none [] s = some (.ref a)) (A : Arr s s.heap a cl ty) (q : (Term.length t).eval args s none [] s = some (.int z)) : cl.slots.size < 2 ^ 31 ∧ cl.slots.size.toInt32 = z := by
  have ha : s.arrayAt? a = some cl := Arr.fin (Vm.Alike.refl _) A
  by_cases hl : cl.slots.size < 2 ^ 31
  · rw [len_f ht ha hl] at q; cases q; exact ⟨hl, rfl⟩
  · simp [Term.eval, ht, ha, hl] at q
end Own
end Jvm.RoadKit
namespace Jvm.Pilot.@@N@@
open Jvm Jvm.ClassFile Sem Op Lib Jvm.Free Jvm.Stand Jvm.LawKit Jvm.RoadKit Bundle Jvm.Pilot.@@N@@.Jvm.D
theorem own_leafI {x y : Int32} (q : y = x) : some (Value.int x) = some (.int y) := by rw [q]
theorem own_leafJ {x y : Int64} (q : y = x) : some (Value.long x) = some (.long y) := by rw [q]
theorem d1_0 : decode prog_40_method_2_code 0 = .ok (.iload_n 0, 1) := by decide +kernel
theorem d1_1 : decode prog_40_method_2_code 1 = .ok (.bipush 10, 2) := by decide +kernel
theorem d1_3 : decode prog_40_method_2_code 3 = .ok (.if_icmp .lt 9, 3) := by decide +kernel
theorem d1_6 : decode prog_40_method_2_code 6 = .ok (.iload_n 0, 1) := by decide +kernel
theorem d1_7 : decode prog_40_method_2_code 7 = .ok (.bipush 13, 2) := by decide +kernel
theorem d1_9 : decode prog_40_method_2_code 9 = .ok (.if_icmp .le 24, 3) := by decide +kernel
theorem d1_12 : decode prog_40_method_2_code 12 = .ok (.iload_n 0, 1) := by decide +kernel
theorem d1_13 : decode prog_40_method_2_code 13 = .ok (.sipush 133, 3) := by decide +kernel
theorem d1_16 : decode prog_40_method_2_code 16 = .ok (.if_icmp .eq 17, 3) := by decide +kernel
theorem d1_19 : decode prog_40_method_2_code 19 = .ok (.iload_n 0, 1) := by decide +kernel
theorem d1_20 : decode prog_40_method_2_code 20 = .ok (.sipush 8232, 3) := by decide +kernel
theorem d1_23 : decode prog_40_method_2_code 23 = .ok (.if_icmp .eq 10, 3) := by decide +kernel
theorem d1_26 : decode prog_40_method_2_code 26 = .ok (.iload_n 0, 1) := by decide +kernel
theorem d1_27 : decode prog_40_method_2_code 27 = .ok (.sipush 8233, 3) := by decide +kernel
theorem d1_30 : decode prog_40_method_2_code 30 = .ok (.if_icmp .ne 7, 3) := by decide +kernel
theorem d1_33 : decode prog_40_method_2_code 33 = .ok (.iconst 1, 1) := by decide +kernel
theorem d1_34 : decode prog_40_method_2_code 34 = .ok (.goto 4, 3) := by decide +kernel
theorem d1_37 : decode prog_40_method_2_code 37 = .ok (.iconst 0, 1) := by decide +kernel
theorem d1_38 : decode prog_40_method_2_code 38 = .ok (.ireturn, 1) := by decide +kernel
theorem ef_1 (p1 : Int32) (m : MethodId) : entryFrame m #[(.int p1)] 1 = mkF m 0 #[.val (.int p1)] [] := by first | (simp [entryFrame, mkF, argsToLocals, Value.category]; done) | rfl
def own_f1 (p1 : Int32) : Int32 := (if p1 < (10 : Int32) then (if p1 = (133 : Int32) then (1 : Int32) else (if p1 = (8232 : Int32) then (1 : Int32) else (if p1 = (8233 : Int32) then (1 : Int32) else (0 : Int32)))) else (if (13 : Int32) < p1 then (if p1 = (133 : Int32) then (1 : Int32) else (if p1 = (8232 : Int32) then (1 : Int32) else (if p1 = (8233 : Int32) then (1 : Int32) else (0 : Int32)))) else (1 : Int32)))
theorem pn_0 : plainName "com/example/annotary/annotary/pipeline/LineBreaks" = true := by first | (simp [plainName, overriddenIn]; done) | decide +kernel
set_option maxRecDepth 65536 in
set_option maxHeartbeats 40000000 in
theorem rm1 (l : Launch) (Z : State) (a0 : Array Value) (hw : ∀ d ∈ tables_1, d.before a0 Z = true) (ws : List Jvm.Cond) (p1 : Int32) (h0 : Heap) (n0 : Nat) (Z0 : n0 ≤ h0.size) :
    own_Met l (⟨"com/example/annotary/annotary/pipeline/LineBreaks", "isLineBreak", "(I)Z"⟩ : MethodName) prog_40_method_2_code 1 (some .boolean) ws ({ frames := 0, cells := 0, slots := 0, locals := 0 } : Room) #[(.int p1)] Z h0 (fun v h L => v = some (.int (own_f1 p1)) ∧ Fr n0 L ∧ h = h0) := by
  refine own_body (plainFor_of_name pn_0) (ef_1 p1) ?_
  intro p e s m below meth c T0 X0 hx hby hml0 hret hlk hnm hown hZ e0
  have hml : c.maxLocals = 1 := hml0
  have N0 := Fr.nil n0
  refine own_step (fun _ k => XS.iloadN X0.here hx rfl (hb hby d1_0) rfl k) ?_
  show own_Ends _ _ _ _ _ _ _ T0 (mkF m 1 #[.val (.int p1)] [(.int p1)])
  refine own_step (fun _ k => XS.bipush X0.here hx rfl (hb hby d1_1) k) ?_
  show own_Ends _ _ _ _ _ _ _ T0 (mkF m 3 #[.val (.int p1)] [(.int (10 : Int32)), (.int p1)])
  by_cases hc1 : p1 < (10 : Int32)
  · refine own_step (fun _ k => XS.icmpYes X0.here hx rfl (pc0 := 3) (pc' := 12) rfl (hb hby d1_3) rfl (tlt hc1).1 (by decide) (by decide) k) ?_
    show own_Ends _ _ _ _ _ _ _ T0 (mkF m 12 #[.val (.int p1)] [])
    refine own_step (fun _ k => XS.iloadN X0.here hx rfl (hb hby d1_12) rfl k) ?_
    show own_Ends _ _ _ _ _ _ _ T0 (mkF m 13 #[.val (.int p1)] [(.int p1)])
    refine own_step (fun _ k => XS.sipush X0.here hx rfl (hb hby d1_13) k) ?_
    show own_Ends _ _ _ _ _ _ _ T0 (mkF m 16 #[.val (.int p1)] [(.int (133 : Int32)), (.int p1)])
    by_cases hc2 : p1 = (133 : Int32)
    · refine own_step (fun _ k => XS.icmpYes X0.here hx rfl (pc0 := 16) (pc' := 33) rfl (hb hby d1_16) rfl (teq hc2).1 (by decide) (by decide) k) ?_
      show own_Ends _ _ _ _ _ _ _ T0 (mkF m 33 #[.val (.int p1)] [])
      refine own_step (fun _ k => XS.iconst X0.here hx rfl (hb hby d1_33) k) ?_
      show own_Ends _ _ _ _ _ _ _ T0 (mkF m 34 #[.val (.int p1)] [(.int (1 : Int32))])
      refine own_step (fun _ k => XS.goto X0.here hx rfl (pc0 := 34) (pc' := 38) rfl (hb hby d1_34) (by decide) (by decide) k) ?_
      show own_Ends _ _ _ _ _ _ _ T0 (mkF m 38 #[.val (.int p1)] [(.int (1 : Int32))])
      exact own_retN X0 hx (t := .boolean) hret (by simp) hlk (hb hby d1_38) rfl ⟨own_leafI ((if_pos hc1).trans (if_pos hc2)), N0, e0⟩ (by decide) (by decide)
    · refine own_step (fun _ k => XS.icmpNo X0.here hx rfl (hb hby d1_16) rfl (feq hc2).1 k) ?_
      show own_Ends _ _ _ _ _ _ _ T0 (mkF m 19 #[.val (.int p1)] [])
      refine own_step (fun _ k => XS.iloadN X0.here hx rfl (hb hby d1_19) rfl k) ?_
      show own_Ends _ _ _ _ _ _ _ T0 (mkF m 20 #[.val (.int p1)] [(.int p1)])
      refine own_step (fun _ k => XS.sipush X0.here hx rfl (hb hby d1_20) k) ?_
      show own_Ends _ _ _ _ _ _ _ T0 (mkF m 23 #[.val (.int p1)] [(.int (8232 : Int32)), (.int p1)])
      by_cases hc3 : p1 = (8232 : Int32)
      · refine own_step (fun _ k => XS.icmpYes X0.here hx rfl (pc0 := 23) (pc' := 33) rfl (hb hby d1_23) rfl (teq hc3).1 (by decide) (by decide) k) ?_
        show own_Ends _ _ _ _ _ _ _ T0 (mkF m 33 #[.val (.int p1)] [])
        refine own_step (fun _ k => XS.iconst X0.here hx rfl (hb hby d1_33) k) ?_
        show own_Ends _ _ _ _ _ _ _ T0 (mkF m 34 #[.val (.int p1)] [(.int (1 : Int32))])
        refine own_step (fun _ k => XS.goto X0.here hx rfl (pc0 := 34) (pc' := 38) rfl (hb hby d1_34) (by decide) (by decide) k) ?_
        show own_Ends _ _ _ _ _ _ _ T0 (mkF m 38 #[.val (.int p1)] [(.int (1 : Int32))])
        exact own_retN X0 hx (t := .boolean) hret (by simp) hlk (hb hby d1_38) rfl ⟨own_leafI ((if_pos hc1).trans ((if_neg hc2).trans (if_pos hc3))), N0, e0⟩ (by decide) (by decide)
      · refine own_step (fun _ k => XS.icmpNo X0.here hx rfl (hb hby d1_23) rfl (feq hc3).1 k) ?_
        show own_Ends _ _ _ _ _ _ _ T0 (mkF m 26 #[.val (.int p1)] [])
        refine own_step (fun _ k => XS.iloadN X0.here hx rfl (hb hby d1_26) rfl k) ?_
        show own_Ends _ _ _ _ _ _ _ T0 (mkF m 27 #[.val (.int p1)] [(.int p1)])
        refine own_step (fun _ k => XS.sipush X0.here hx rfl (hb hby d1_27) k) ?_
        show own_Ends _ _ _ _ _ _ _ T0 (mkF m 30 #[.val (.int p1)] [(.int (8233 : Int32)), (.int p1)])
        by_cases hc4 : p1 = (8233 : Int32)
        · refine own_step (fun _ k => XS.icmpNo X0.here hx rfl (hb hby d1_30) rfl (teq hc4).2 k) ?_
          show own_Ends _ _ _ _ _ _ _ T0 (mkF m 33 #[.val (.int p1)] [])
          refine own_step (fun _ k => XS.iconst X0.here hx rfl (hb hby d1_33) k) ?_
          show own_Ends _ _ _ _ _ _ _ T0 (mkF m 34 #[.val (.int p1)] [(.int (1 : Int32))])
          refine own_step (fun _ k => XS.goto X0.here hx rfl (pc0 := 34) (pc' := 38) rfl (hb hby d1_34) (by decide) (by decide) k) ?_
          show own_Ends _ _ _ _ _ _ _ T0 (mkF m 38 #[.val (.int p1)] [(.int (1 : Int32))])
          exact own_retN X0 hx (t := .boolean) hret (by simp) hlk (hb hby d1_38) rfl ⟨own_leafI ((if_pos hc1).trans ((if_neg hc2).trans ((if_neg hc3).trans (if_pos hc4)))), N0, e0⟩ (by decide) (by decide)
        · refine own_step (fun _ k => XS.icmpYes X0.here hx rfl (pc0 := 30) (pc' := 37) rfl (hb hby d1_30) rfl (feq hc4).2 (by decide) (by decide) k) ?_
          show own_Ends _ _ _ _ _ _ _ T0 (mkF m 37 #[.val (.int p1)] [])
          refine own_step (fun _ k => XS.iconst X0.here hx rfl (hb hby d1_37) k) ?_
          show own_Ends _ _ _ _ _ _ _ T0 (mkF m 38 #[.val (.int p1)] [(.int (0 : Int32))])
          exact own_retN X0 hx (t := .boolean) hret (by simp) hlk (hb hby d1_38) rfl ⟨own_leafI ((if_pos hc1).trans ((if_neg hc2).trans ((if_neg hc3).trans (if_neg hc4)))), N0, e0⟩ (by decide) (by decide)
  · refine own_step (fun _ k => XS.icmpNo X0.here hx rfl (hb hby d1_3) rfl (flt hc1).1 k) ?_
    show own_Ends _ _ _ _ _ _ _ T0 (mkF m 6 #[.val (.int p1)] [])
    refine own_step (fun _ k => XS.iloadN X0.here hx rfl (hb hby d1_6) rfl k) ?_
    show own_Ends _ _ _ _ _ _ _ T0 (mkF m 7 #[.val (.int p1)] [(.int p1)])
    refine own_step (fun _ k => XS.bipush X0.here hx rfl (hb hby d1_7) k) ?_
    show own_Ends _ _ _ _ _ _ _ T0 (mkF m 9 #[.val (.int p1)] [(.int (13 : Int32)), (.int p1)])
    by_cases hc5 : (13 : Int32) < p1
    · refine own_step (fun _ k => XS.icmpNo X0.here hx rfl (hb hby d1_9) rfl (tlt hc5).2.2.2 k) ?_
      show own_Ends _ _ _ _ _ _ _ T0 (mkF m 12 #[.val (.int p1)] [])
      refine own_step (fun _ k => XS.iloadN X0.here hx rfl (hb hby d1_12) rfl k) ?_
      show own_Ends _ _ _ _ _ _ _ T0 (mkF m 13 #[.val (.int p1)] [(.int p1)])
      refine own_step (fun _ k => XS.sipush X0.here hx rfl (hb hby d1_13) k) ?_
      show own_Ends _ _ _ _ _ _ _ T0 (mkF m 16 #[.val (.int p1)] [(.int (133 : Int32)), (.int p1)])
      by_cases hc6 : p1 = (133 : Int32)
      · refine own_step (fun _ k => XS.icmpYes X0.here hx rfl (pc0 := 16) (pc' := 33) rfl (hb hby d1_16) rfl (teq hc6).1 (by decide) (by decide) k) ?_
        show own_Ends _ _ _ _ _ _ _ T0 (mkF m 33 #[.val (.int p1)] [])
        refine own_step (fun _ k => XS.iconst X0.here hx rfl (hb hby d1_33) k) ?_
        show own_Ends _ _ _ _ _ _ _ T0 (mkF m 34 #[.val (.int p1)] [(.int (1 : Int32))])
        refine own_step (fun _ k => XS.goto X0.here hx rfl (pc0 := 34) (pc' := 38) rfl (hb hby d1_34) (by decide) (by decide) k) ?_
        show own_Ends _ _ _ _ _ _ _ T0 (mkF m 38 #[.val (.int p1)] [(.int (1 : Int32))])
        exact own_retN X0 hx (t := .boolean) hret (by simp) hlk (hb hby d1_38) rfl ⟨own_leafI ((if_neg hc1).trans ((if_pos hc5).trans (if_pos hc6))), N0, e0⟩ (by decide) (by decide)
      · refine own_step (fun _ k => XS.icmpNo X0.here hx rfl (hb hby d1_16) rfl (feq hc6).1 k) ?_
        show own_Ends _ _ _ _ _ _ _ T0 (mkF m 19 #[.val (.int p1)] [])
        refine own_step (fun _ k => XS.iloadN X0.here hx rfl (hb hby d1_19) rfl k) ?_
        show own_Ends _ _ _ _ _ _ _ T0 (mkF m 20 #[.val (.int p1)] [(.int p1)])
        refine own_step (fun _ k => XS.sipush X0.here hx rfl (hb hby d1_20) k) ?_
        show own_Ends _ _ _ _ _ _ _ T0 (mkF m 23 #[.val (.int p1)] [(.int (8232 : Int32)), (.int p1)])
        by_cases hc7 : p1 = (8232 : Int32)
        · refine own_step (fun _ k => XS.icmpYes X0.here hx rfl (pc0 := 23) (pc' := 33) rfl (hb hby d1_23) rfl (teq hc7).1 (by decide) (by decide) k) ?_
          show own_Ends _ _ _ _ _ _ _ T0 (mkF m 33 #[.val (.int p1)] [])
          refine own_step (fun _ k => XS.iconst X0.here hx rfl (hb hby d1_33) k) ?_
          show own_Ends _ _ _ _ _ _ _ T0 (mkF m 34 #[.val (.int p1)] [(.int (1 : Int32))])
          refine own_step (fun _ k => XS.goto X0.here hx rfl (pc0 := 34) (pc' := 38) rfl (hb hby d1_34) (by decide) (by decide) k) ?_
          show own_Ends _ _ _ _ _ _ _ T0 (mkF m 38 #[.val (.int p1)] [(.int (1 : Int32))])
          exact own_retN X0 hx (t := .boolean) hret (by simp) hlk (hb hby d1_38) rfl ⟨own_leafI ((if_neg hc1).trans ((if_pos hc5).trans ((if_neg hc6).trans (if_pos hc7)))), N0, e0⟩ (by decide) (by decide)
        · refine own_step (fun _ k => XS.icmpNo X0.here hx rfl (hb hby d1_23) rfl (feq hc7).1 k) ?_
          show own_Ends _ _ _ _ _ _ _ T0 (mkF m 26 #[.val (.int p1)] [])
          refine own_step (fun _ k => XS.iloadN X0.here hx rfl (hb hby d1_26) rfl k) ?_
          show own_Ends _ _ _ _ _ _ _ T0 (mkF m 27 #[.val (.int p1)] [(.int p1)])
          refine own_step (fun _ k => XS.sipush X0.here hx rfl (hb hby d1_27) k) ?_
          show own_Ends _ _ _ _ _ _ _ T0 (mkF m 30 #[.val (.int p1)] [(.int (8233 : Int32)), (.int p1)])
          by_cases hc8 : p1 = (8233 : Int32)
          · refine own_step (fun _ k => XS.icmpNo X0.here hx rfl (hb hby d1_30) rfl (teq hc8).2 k) ?_
            show own_Ends _ _ _ _ _ _ _ T0 (mkF m 33 #[.val (.int p1)] [])
            refine own_step (fun _ k => XS.iconst X0.here hx rfl (hb hby d1_33) k) ?_
            show own_Ends _ _ _ _ _ _ _ T0 (mkF m 34 #[.val (.int p1)] [(.int (1 : Int32))])
            refine own_step (fun _ k => XS.goto X0.here hx rfl (pc0 := 34) (pc' := 38) rfl (hb hby d1_34) (by decide) (by decide) k) ?_
            show own_Ends _ _ _ _ _ _ _ T0 (mkF m 38 #[.val (.int p1)] [(.int (1 : Int32))])
            exact own_retN X0 hx (t := .boolean) hret (by simp) hlk (hb hby d1_38) rfl ⟨own_leafI ((if_neg hc1).trans ((if_pos hc5).trans ((if_neg hc6).trans ((if_neg hc7).trans (if_pos hc8))))), N0, e0⟩ (by decide) (by decide)
          · refine own_step (fun _ k => XS.icmpYes X0.here hx rfl (pc0 := 30) (pc' := 37) rfl (hb hby d1_30) rfl (feq hc8).2 (by decide) (by decide) k) ?_
            show own_Ends _ _ _ _ _ _ _ T0 (mkF m 37 #[.val (.int p1)] [])
            refine own_step (fun _ k => XS.iconst X0.here hx rfl (hb hby d1_37) k) ?_
            show own_Ends _ _ _ _ _ _ _ T0 (mkF m 38 #[.val (.int p1)] [(.int (0 : Int32))])
            exact own_retN X0 hx (t := .boolean) hret (by simp) hlk (hb hby d1_38) rfl ⟨own_leafI ((if_neg hc1).trans ((if_pos hc5).trans ((if_neg hc6).trans ((if_neg hc7).trans (if_neg hc8))))), N0, e0⟩ (by decide) (by decide)
    · refine own_step (fun _ k => XS.icmpYes X0.here hx rfl (pc0 := 9) (pc' := 33) rfl (hb hby d1_9) rfl (flt hc5).2.2.2 (by decide) (by decide) k) ?_
      show own_Ends _ _ _ _ _ _ _ T0 (mkF m 33 #[.val (.int p1)] [])
      refine own_step (fun _ k => XS.iconst X0.here hx rfl (hb hby d1_33) k) ?_
      show own_Ends _ _ _ _ _ _ _ T0 (mkF m 34 #[.val (.int p1)] [(.int (1 : Int32))])
      refine own_step (fun _ k => XS.goto X0.here hx rfl (pc0 := 34) (pc' := 38) rfl (hb hby d1_34) (by decide) (by decide) k) ?_
      show own_Ends _ _ _ _ _ _ _ T0 (mkF m 38 #[.val (.int p1)] [(.int (1 : Int32))])
      exact own_retN X0 hx (t := .boolean) hret (by simp) hlk (hb hby d1_38) rfl ⟨own_leafI ((if_neg hc1).trans (if_neg hc5)), N0, e0⟩ (by decide) (by decide)
theorem d2_0 : decode method_2_code 0 = .ok (.iload_n 0, 1) := by decide +kernel
theorem d2_1 : decode method_2_code 1 = .ok (.bipush 10, 2) := by decide +kernel
theorem d2_3 : decode method_2_code 3 = .ok (.if_icmp .eq 42, 3) := by decide +kernel
theorem d2_6 : decode method_2_code 6 = .ok (.iload_n 0, 1) := by decide +kernel
theorem d2_7 : decode method_2_code 7 = .ok (.bipush 11, 2) := by decide +kernel
theorem d2_9 : decode method_2_code 9 = .ok (.if_icmp .eq 36, 3) := by decide +kernel
theorem d2_12 : decode method_2_code 12 = .ok (.iload_n 0, 1) := by decide +kernel
theorem d2_13 : decode method_2_code 13 = .ok (.bipush 12, 2) := by decide +kernel
theorem d2_15 : decode method_2_code 15 = .ok (.if_icmp .eq 30, 3) := by decide +kernel
theorem d2_18 : decode method_2_code 18 = .ok (.iload_n 0, 1) := by decide +kernel
theorem d2_19 : decode method_2_code 19 = .ok (.bipush 13, 2) := by decide +kernel
theorem d2_21 : decode method_2_code 21 = .ok (.if_icmp .eq 24, 3) := by decide +kernel
theorem d2_24 : decode method_2_code 24 = .ok (.iload_n 0, 1) := by decide +kernel
theorem d2_25 : decode method_2_code 25 = .ok (.sipush 133, 3) := by decide +kernel
theorem d2_28 : decode method_2_code 28 = .ok (.if_icmp .eq 17, 3) := by decide +kernel
theorem d2_31 : decode method_2_code 31 = .ok (.iload_n 0, 1) := by decide +kernel
theorem d2_32 : decode method_2_code 32 = .ok (.sipush 8232, 3) := by decide +kernel
theorem d2_35 : decode method_2_code 35 = .ok (.if_icmp .eq 10, 3) := by decide +kernel
theorem d2_38 : decode method_2_code 38 = .ok (.iload_n 0, 1) := by decide +kernel
theorem d2_39 : decode method_2_code 39 = .ok (.sipush 8233, 3) := by decide +kernel
theorem d2_42 : decode method_2_code 42 = .ok (.if_icmp .ne 7, 3) := by decide +kernel
theorem d2_45 : decode method_2_code 45 = .ok (.iconst 1, 1) := by decide +kernel
theorem d2_46 : decode method_2_code 46 = .ok (.goto 4, 3) := by decide +kernel
theorem d2_49 : decode method_2_code 49 = .ok (.iconst 0, 1) := by decide +kernel
theorem d2_50 : decode method_2_code 50 = .ok (.ireturn, 1) := by decide +kernel
theorem ef_2 (p1 : Int32) (m : MethodId) : entryFrame m #[(.int p1)] 1 = mkF m 0 #[.val (.int p1)] [] := by first | (simp [entryFrame, mkF, argsToLocals, Value.category]; done) | rfl
def own_f2 (p1 : Int32) : Int32 := (if p1 = (10 : Int32) then (1 : Int32) else (if p1 = (11 : Int32) then (1 : Int32) else (if p1 = (12 : Int32) then (1 : Int32) else (if p1 = (13 : Int32) then (1 : Int32) else (if p1 = (133 : Int32) then (1 : Int32) else (if p1 = (8232 : Int32) then (1 : Int32) else (if p1 = (8233 : Int32) then (1 : Int32) else (0 : Int32))))))))
theorem pn_1 : plainName "com/example/annotary/annotary/pipeline/LineBreaksIsLineBreakPinLaw" = true := by first | (simp [plainName, overriddenIn]; done) | decide +kernel
set_option maxRecDepth 65536 in
set_option maxHeartbeats 40000000 in
theorem rm2 (l : Launch) (Z : State) (a0 : Array Value) (hw : ∀ d ∈ tables_1, d.before a0 Z = true) (ws : List Jvm.Cond) (p1 : Int32) (h0 : Heap) (n0 : Nat) (Z0 : n0 ≤ h0.size) :
    own_Met l (⟨"com/example/annotary/annotary/pipeline/LineBreaksIsLineBreakPinLaw", "reference", "(I)Z"⟩ : MethodName) method_2_code 1 (some .boolean) ws ({ frames := 0, cells := 0, slots := 0, locals := 0 } : Room) #[(.int p1)] Z h0 (fun v h L => v = some (.int (own_f2 p1)) ∧ Fr n0 L ∧ h = h0) := by
  refine own_body (plainFor_of_name pn_1) (ef_2 p1) ?_
  intro p e s m below meth c T0 X0 hx hby hml0 hret hlk hnm hown hZ e0
  have hml : c.maxLocals = 1 := hml0
  have N0 := Fr.nil n0
  refine own_step (fun _ k => XS.iloadN X0.here hx rfl (hb hby d2_0) rfl k) ?_
  show own_Ends _ _ _ _ _ _ _ T0 (mkF m 1 #[.val (.int p1)] [(.int p1)])
  refine own_step (fun _ k => XS.bipush X0.here hx rfl (hb hby d2_1) k) ?_
  show own_Ends _ _ _ _ _ _ _ T0 (mkF m 3 #[.val (.int p1)] [(.int (10 : Int32)), (.int p1)])
  by_cases hc1 : p1 = (10 : Int32)
  · refine own_step (fun _ k => XS.icmpYes X0.here hx rfl (pc0 := 3) (pc' := 45) rfl (hb hby d2_3) rfl (teq hc1).1 (by decide) (by decide) k) ?_
    show own_Ends _ _ _ _ _ _ _ T0 (mkF m 45 #[.val (.int p1)] [])
    refine own_step (fun _ k => XS.iconst X0.here hx rfl (hb hby d2_45) k) ?_
    show own_Ends _ _ _ _ _ _ _ T0 (mkF m 46 #[.val (.int p1)] [(.int (1 : Int32))])
    refine own_step (fun _ k => XS.goto X0.here hx rfl (pc0 := 46) (pc' := 50) rfl (hb hby d2_46) (by decide) (by decide) k) ?_
    show own_Ends _ _ _ _ _ _ _ T0 (mkF m 50 #[.val (.int p1)] [(.int (1 : Int32))])
    exact own_retN X0 hx (t := .boolean) hret (by simp) hlk (hb hby d2_50) rfl ⟨own_leafI (if_pos hc1), N0, e0⟩ (by decide) (by decide)
  · refine own_step (fun _ k => XS.icmpNo X0.here hx rfl (hb hby d2_3) rfl (feq hc1).1 k) ?_
    show own_Ends _ _ _ _ _ _ _ T0 (mkF m 6 #[.val (.int p1)] [])
    refine own_step (fun _ k => XS.iloadN X0.here hx rfl (hb hby d2_6) rfl k) ?_
    show own_Ends _ _ _ _ _ _ _ T0 (mkF m 7 #[.val (.int p1)] [(.int p1)])
    refine own_step (fun _ k => XS.bipush X0.here hx rfl (hb hby d2_7) k) ?_
    show own_Ends _ _ _ _ _ _ _ T0 (mkF m 9 #[.val (.int p1)] [(.int (11 : Int32)), (.int p1)])
    by_cases hc2 : p1 = (11 : Int32)
    · refine own_step (fun _ k => XS.icmpYes X0.here hx rfl (pc0 := 9) (pc' := 45) rfl (hb hby d2_9) rfl (teq hc2).1 (by decide) (by decide) k) ?_
      show own_Ends _ _ _ _ _ _ _ T0 (mkF m 45 #[.val (.int p1)] [])
      refine own_step (fun _ k => XS.iconst X0.here hx rfl (hb hby d2_45) k) ?_
      show own_Ends _ _ _ _ _ _ _ T0 (mkF m 46 #[.val (.int p1)] [(.int (1 : Int32))])
      refine own_step (fun _ k => XS.goto X0.here hx rfl (pc0 := 46) (pc' := 50) rfl (hb hby d2_46) (by decide) (by decide) k) ?_
      show own_Ends _ _ _ _ _ _ _ T0 (mkF m 50 #[.val (.int p1)] [(.int (1 : Int32))])
      exact own_retN X0 hx (t := .boolean) hret (by simp) hlk (hb hby d2_50) rfl ⟨own_leafI ((if_neg hc1).trans (if_pos hc2)), N0, e0⟩ (by decide) (by decide)
    · refine own_step (fun _ k => XS.icmpNo X0.here hx rfl (hb hby d2_9) rfl (feq hc2).1 k) ?_
      show own_Ends _ _ _ _ _ _ _ T0 (mkF m 12 #[.val (.int p1)] [])
      refine own_step (fun _ k => XS.iloadN X0.here hx rfl (hb hby d2_12) rfl k) ?_
      show own_Ends _ _ _ _ _ _ _ T0 (mkF m 13 #[.val (.int p1)] [(.int p1)])
      refine own_step (fun _ k => XS.bipush X0.here hx rfl (hb hby d2_13) k) ?_
      show own_Ends _ _ _ _ _ _ _ T0 (mkF m 15 #[.val (.int p1)] [(.int (12 : Int32)), (.int p1)])
      by_cases hc3 : p1 = (12 : Int32)
      · refine own_step (fun _ k => XS.icmpYes X0.here hx rfl (pc0 := 15) (pc' := 45) rfl (hb hby d2_15) rfl (teq hc3).1 (by decide) (by decide) k) ?_
        show own_Ends _ _ _ _ _ _ _ T0 (mkF m 45 #[.val (.int p1)] [])
        refine own_step (fun _ k => XS.iconst X0.here hx rfl (hb hby d2_45) k) ?_
        show own_Ends _ _ _ _ _ _ _ T0 (mkF m 46 #[.val (.int p1)] [(.int (1 : Int32))])
        refine own_step (fun _ k => XS.goto X0.here hx rfl (pc0 := 46) (pc' := 50) rfl (hb hby d2_46) (by decide) (by decide) k) ?_
        show own_Ends _ _ _ _ _ _ _ T0 (mkF m 50 #[.val (.int p1)] [(.int (1 : Int32))])
        exact own_retN X0 hx (t := .boolean) hret (by simp) hlk (hb hby d2_50) rfl ⟨own_leafI ((if_neg hc1).trans ((if_neg hc2).trans (if_pos hc3))), N0, e0⟩ (by decide) (by decide)
      · refine own_step (fun _ k => XS.icmpNo X0.here hx rfl (hb hby d2_15) rfl (feq hc3).1 k) ?_
        show own_Ends _ _ _ _ _ _ _ T0 (mkF m 18 #[.val (.int p1)] [])
        refine own_step (fun _ k => XS.iloadN X0.here hx rfl (hb hby d2_18) rfl k) ?_
        show own_Ends _ _ _ _ _ _ _ T0 (mkF m 19 #[.val (.int p1)] [(.int p1)])
        refine own_step (fun _ k => XS.bipush X0.here hx rfl (hb hby d2_19) k) ?_
        show own_Ends _ _ _ _ _ _ _ T0 (mkF m 21 #[.val (.int p1)] [(.int (13 : Int32)), (.int p1)])
        by_cases hc4 : p1 = (13 : Int32)
        · refine own_step (fun _ k => XS.icmpYes X0.here hx rfl (pc0 := 21) (pc' := 45) rfl (hb hby d2_21) rfl (teq hc4).1 (by decide) (by decide) k) ?_
          show own_Ends _ _ _ _ _ _ _ T0 (mkF m 45 #[.val (.int p1)] [])
          refine own_step (fun _ k => XS.iconst X0.here hx rfl (hb hby d2_45) k) ?_
          show own_Ends _ _ _ _ _ _ _ T0 (mkF m 46 #[.val (.int p1)] [(.int (1 : Int32))])
          refine own_step (fun _ k => XS.goto X0.here hx rfl (pc0 := 46) (pc' := 50) rfl (hb hby d2_46) (by decide) (by decide) k) ?_
          show own_Ends _ _ _ _ _ _ _ T0 (mkF m 50 #[.val (.int p1)] [(.int (1 : Int32))])
          exact own_retN X0 hx (t := .boolean) hret (by simp) hlk (hb hby d2_50) rfl ⟨own_leafI ((if_neg hc1).trans ((if_neg hc2).trans ((if_neg hc3).trans (if_pos hc4)))), N0, e0⟩ (by decide) (by decide)
        · refine own_step (fun _ k => XS.icmpNo X0.here hx rfl (hb hby d2_21) rfl (feq hc4).1 k) ?_
          show own_Ends _ _ _ _ _ _ _ T0 (mkF m 24 #[.val (.int p1)] [])
          refine own_step (fun _ k => XS.iloadN X0.here hx rfl (hb hby d2_24) rfl k) ?_
          show own_Ends _ _ _ _ _ _ _ T0 (mkF m 25 #[.val (.int p1)] [(.int p1)])
          refine own_step (fun _ k => XS.sipush X0.here hx rfl (hb hby d2_25) k) ?_
          show own_Ends _ _ _ _ _ _ _ T0 (mkF m 28 #[.val (.int p1)] [(.int (133 : Int32)), (.int p1)])
          by_cases hc5 : p1 = (133 : Int32)
          · refine own_step (fun _ k => XS.icmpYes X0.here hx rfl (pc0 := 28) (pc' := 45) rfl (hb hby d2_28) rfl (teq hc5).1 (by decide) (by decide) k) ?_
            show own_Ends _ _ _ _ _ _ _ T0 (mkF m 45 #[.val (.int p1)] [])
            refine own_step (fun _ k => XS.iconst X0.here hx rfl (hb hby d2_45) k) ?_
            show own_Ends _ _ _ _ _ _ _ T0 (mkF m 46 #[.val (.int p1)] [(.int (1 : Int32))])
            refine own_step (fun _ k => XS.goto X0.here hx rfl (pc0 := 46) (pc' := 50) rfl (hb hby d2_46) (by decide) (by decide) k) ?_
            show own_Ends _ _ _ _ _ _ _ T0 (mkF m 50 #[.val (.int p1)] [(.int (1 : Int32))])
            exact own_retN X0 hx (t := .boolean) hret (by simp) hlk (hb hby d2_50) rfl ⟨own_leafI ((if_neg hc1).trans ((if_neg hc2).trans ((if_neg hc3).trans ((if_neg hc4).trans (if_pos hc5))))), N0, e0⟩ (by decide) (by decide)
          · refine own_step (fun _ k => XS.icmpNo X0.here hx rfl (hb hby d2_28) rfl (feq hc5).1 k) ?_
            show own_Ends _ _ _ _ _ _ _ T0 (mkF m 31 #[.val (.int p1)] [])
            refine own_step (fun _ k => XS.iloadN X0.here hx rfl (hb hby d2_31) rfl k) ?_
            show own_Ends _ _ _ _ _ _ _ T0 (mkF m 32 #[.val (.int p1)] [(.int p1)])
            refine own_step (fun _ k => XS.sipush X0.here hx rfl (hb hby d2_32) k) ?_
            show own_Ends _ _ _ _ _ _ _ T0 (mkF m 35 #[.val (.int p1)] [(.int (8232 : Int32)), (.int p1)])
            by_cases hc6 : p1 = (8232 : Int32)
            · refine own_step (fun _ k => XS.icmpYes X0.here hx rfl (pc0 := 35) (pc' := 45) rfl (hb hby d2_35) rfl (teq hc6).1 (by decide) (by decide) k) ?_
              show own_Ends _ _ _ _ _ _ _ T0 (mkF m 45 #[.val (.int p1)] [])
              refine own_step (fun _ k => XS.iconst X0.here hx rfl (hb hby d2_45) k) ?_
              show own_Ends _ _ _ _ _ _ _ T0 (mkF m 46 #[.val (.int p1)] [(.int (1 : Int32))])
              refine own_step (fun _ k => XS.goto X0.here hx rfl (pc0 := 46) (pc' := 50) rfl (hb hby d2_46) (by decide) (by decide) k) ?_
              show own_Ends _ _ _ _ _ _ _ T0 (mkF m 50 #[.val (.int p1)] [(.int (1 : Int32))])
              exact own_retN X0 hx (t := .boolean) hret (by simp) hlk (hb hby d2_50) rfl ⟨own_leafI ((if_neg hc1).trans ((if_neg hc2).trans ((if_neg hc3).trans ((if_neg hc4).trans ((if_neg hc5).trans (if_pos hc6)))))), N0, e0⟩ (by decide) (by decide)
            · refine own_step (fun _ k => XS.icmpNo X0.here hx rfl (hb hby d2_35) rfl (feq hc6).1 k) ?_
              show own_Ends _ _ _ _ _ _ _ T0 (mkF m 38 #[.val (.int p1)] [])
              refine own_step (fun _ k => XS.iloadN X0.here hx rfl (hb hby d2_38) rfl k) ?_
              show own_Ends _ _ _ _ _ _ _ T0 (mkF m 39 #[.val (.int p1)] [(.int p1)])
              refine own_step (fun _ k => XS.sipush X0.here hx rfl (hb hby d2_39) k) ?_
              show own_Ends _ _ _ _ _ _ _ T0 (mkF m 42 #[.val (.int p1)] [(.int (8233 : Int32)), (.int p1)])
              by_cases hc7 : p1 = (8233 : Int32)
              · refine own_step (fun _ k => XS.icmpNo X0.here hx rfl (hb hby d2_42) rfl (teq hc7).2 k) ?_
                show own_Ends _ _ _ _ _ _ _ T0 (mkF m 45 #[.val (.int p1)] [])
                refine own_step (fun _ k => XS.iconst X0.here hx rfl (hb hby d2_45) k) ?_
                show own_Ends _ _ _ _ _ _ _ T0 (mkF m 46 #[.val (.int p1)] [(.int (1 : Int32))])
                refine own_step (fun _ k => XS.goto X0.here hx rfl (pc0 := 46) (pc' := 50) rfl (hb hby d2_46) (by decide) (by decide) k) ?_
                show own_Ends _ _ _ _ _ _ _ T0 (mkF m 50 #[.val (.int p1)] [(.int (1 : Int32))])
                exact own_retN X0 hx (t := .boolean) hret (by simp) hlk (hb hby d2_50) rfl ⟨own_leafI ((if_neg hc1).trans ((if_neg hc2).trans ((if_neg hc3).trans ((if_neg hc4).trans ((if_neg hc5).trans ((if_neg hc6).trans (if_pos hc7))))))), N0, e0⟩ (by decide) (by decide)
              · refine own_step (fun _ k => XS.icmpYes X0.here hx rfl (pc0 := 42) (pc' := 49) rfl (hb hby d2_42) rfl (feq hc7).2 (by decide) (by decide) k) ?_
                show own_Ends _ _ _ _ _ _ _ T0 (mkF m 49 #[.val (.int p1)] [])
                refine own_step (fun _ k => XS.iconst X0.here hx rfl (hb hby d2_49) k) ?_
                show own_Ends _ _ _ _ _ _ _ T0 (mkF m 50 #[.val (.int p1)] [(.int (0 : Int32))])
                exact own_retN X0 hx (t := .boolean) hret (by simp) hlk (hb hby d2_50) rfl ⟨own_leafI ((if_neg hc1).trans ((if_neg hc2).trans ((if_neg hc3).trans ((if_neg hc4).trans ((if_neg hc5).trans ((if_neg hc6).trans (if_neg hc7))))))), N0, e0⟩ (by decide) (by decide)
theorem own_same (x : Int32) : (own_f1 x) = (own_f2 x) := by
  have e1 : (10 : Int32).toInt = 10 := by decide
  have e2 : (11 : Int32).toInt = 11 := by decide
  have e3 : (12 : Int32).toInt = 12 := by decide
  have e4 : (13 : Int32).toInt = 13 := by decide
  have e5 : (133 : Int32).toInt = 133 := by decide
  have e6 : (8232 : Int32).toInt = 8232 := by decide
  have e7 : (8233 : Int32).toInt = 8233 := by decide
  simp only [own_f1, own_f2, Int32.lt_iff_toInt_lt, ← Int32.toInt_inj, e1, e2, e3, e4, e5, e6, e7]
  generalize x.toInt = n
  repeat' split
  all_goals first | rfl | (exfalso; omega)
theorem own_getI (xs : List Int32) (d : Int32) : ∀ j : Nat, (xs.map Value.int).getD j (.int d) = .int (xs.getD j d) := by
  induction xs with
  | nil => intro j; rfl
  | cons y r ih => intro j; cases j with
    | zero => rfl
    | succ j => exact ih j
theorem own_idx (k : Int32) : ¬ (k &&& (15 : Int32)) < 0 ∧ (k &&& (15 : Int32)) < (16 : Int32) := by
  have h := c_and k (15 : Int32) (by decide)
  have e0 : (0 : Int32).toInt = 0 := rfl
  have e1 : (15 : Int32).toInt = 15 := by decide
  have e2 : (16 : Int32).toInt = 16 := by decide
  rw [Int32.lt_iff_toInt_lt, Int32.lt_iff_toInt_lt]; omega
theorem ef_0 (p1 : Int32) (p2 : Int32) (m : MethodId) : entryFrame m #[(.int p1), (.int p2)] maxLocals = mkF m 0 #[.val (.int p1), .val (.int p2), .unset, .unset, .unset, .unset] [] := by first | (simp [entryFrame, mkF, argsToLocals, Value.category, maxLocals]; done) | rfl
theorem pd_0 : parseMethodDescriptor "(I)Z" = some ⟨[.int], some .boolean⟩ := by decide +kernel
set_option maxRecDepth 65536 in
set_option maxHeartbeats 40000000 in
theorem rm0 (l : Launch) (Z : State) (a0 : Array Value) (hw : ∀ d ∈ tables_1, d.before a0 Z = true) (ws : List Jvm.Cond) (p1 : Int32) (p2 : Int32) (h0 : Heap) (n0 : Nat) (Z0 : n0 ≤ h0.size) :
    own_Met l x code maxLocals ret ws room_1 #[(.int p1), (.int p2)] Z h0 (fun v h L => v = some (.int (1 : Int32)) ∧ Fr n0 L) := by
  refine own_body (plainFor_of_name pn_1) (ef_0 p1 p2) ?_
  intro p e s m below meth c T0 X0 hx hby hml0 hret hlk hnm hown hZ e0
  have hml : c.maxLocals = 6 := hml0
  have N0 := Fr.nil n0
  refine own_step (fun _ k => XS.bipush X0.here hx rfl (hb hby at_0) k) ?_
  show own_Ends _ _ _ _ _ _ _ T0 (mkF m 2 #[.val (.int p1), .val (.int p2), .unset, .unset, .unset, .unset] [(.int (16 : Int32))])
  obtain ⟨T1, h1, k1, b1, g1, X1, e1, E1, V1, st1⟩ := own_newA X0 hx hZ (hw _ (List.mem_of_getElem? (i := 0) rfl)) e0 (g := (mkF m 2 #[.val (.int p1), .val (.int p2), .unset, .unset, .unset, .unset] [(.int (16 : Int32))])) rfl (hb hby at_2) rfl (by decide) (cap := 16) (by decide) (by decide) (by decide) (by decide)
  have g_b1 : n0 ≤ b1 := Nat.le_trans Z0 (Nat.le_of_eq g1.symm)
  refine own_step st1 ?_
  have Z1 := Nat.le_trans Z0 E1.1
  have V_b1 : Arv Z h1 b1 k1 .int (16 : Int32) [(.int (0 : Int32)), (.int (0 : Int32)), (.int (0 : Int32)), (.int (0 : Int32)), (.int (0 : Int32)), (.int (0 : Int32)), (.int (0 : Int32)), (.int (0 : Int32)), (.int (0 : Int32)), (.int (0 : Int32)), (.int (0 : Int32)), (.int (0 : Int32)), (.int (0 : Int32)), (.int (0 : Int32)), (.int (0 : Int32)), (.int (0 : Int32))] (.int (0 : Int32)) := V1
  show own_Ends _ _ _ _ _ _ _ T1 (mkF m 4 #[.val (.int p1), .val (.int p2), .unset, .unset, .unset, .unset] [(.ref b1)])
  refine own_step (fun _ k => XS.dup X1.here hx rfl (hb hby at_4) rfl rfl k) ?_
  show own_Ends _ _ _ _ _ _ _ T1 (mkF m 5 #[.val (.int p1), .val (.int p2), .unset, .unset, .unset, .unset] [(.ref b1), (.ref b1)])
  refine own_step (fun _ k => XS.iconst X1.here hx rfl (hb hby at_5) k) ?_
  show own_Ends _ _ _ _ _ _ _ T1 (mkF m 6 #[.val (.int p1), .val (.int p2), .unset, .unset, .unset, .unset] [(.int (0 : Int32)), (.ref b1), (.ref b1)])
  refine own_step (fun _ k => XS.bipush X1.here hx rfl (hb hby at_6) k) ?_
  show own_Ends _ _ _ _ _ _ _ T1 (mkF m 8 #[.val (.int p1), .val (.int p2), .unset, .unset, .unset, .unset] [(.int (9 : Int32)), (.int (0 : Int32)), (.ref b1), (.ref b1)])
  obtain ⟨T2, h2, l2, X2, e2, W2, V2, st2⟩ := own_stI X1 hx hZ e1 V_b1 (j := (0 : Int32)) ⟨by decide, by decide⟩ 0 rfl (by decide) (g := (mkF m 8 #[.val (.int p1), .val (.int p2), .unset, .unset, .unset, .unset] [(.int (9 : Int32)), (.int (0 : Int32)), (.ref b1), (.ref b1)])) rfl rfl (hb hby at_8)
  refine own_step st2 ?_
  have N2 := Fr.snoc X2 N0 g_b1
  have Z2 := Nat.le_trans Z1 (Keep.of_wr W2).1
  have V_b1_2 : Arv Z h2 b1 k1 .int (16 : Int32) [(.int (9 : Int32)), (.int (0 : Int32)), (.int (0 : Int32)), (.int (0 : Int32)), (.int (0 : Int32)), (.int (0 : Int32)), (.int (0 : Int32)), (.int (0 : Int32)), (.int (0 : Int32)), (.int (0 : Int32)), (.int (0 : Int32)), (.int (0 : Int32)), (.int (0 : Int32)), (.int (0 : Int32)), (.int (0 : Int32)), (.int (0 : Int32))] (.int (0 : Int32)) := V2
  show own_Ends _ _ _ _ _ _ _ T2 (mkF m 9 #[.val (.int p1), .val (.int p2), .unset, .unset, .unset, .unset] [(.ref b1)])
  refine own_step (fun _ k => XS.dup X2.here hx rfl (hb hby at_9) rfl rfl k) ?_
  show own_Ends _ _ _ _ _ _ _ T2 (mkF m 10 #[.val (.int p1), .val (.int p2), .unset, .unset, .unset, .unset] [(.ref b1), (.ref b1)])
  refine own_step (fun _ k => XS.iconst X2.here hx rfl (hb hby at_10) k) ?_
  show own_Ends _ _ _ _ _ _ _ T2 (mkF m 11 #[.val (.int p1), .val (.int p2), .unset, .unset, .unset, .unset] [(.int (1 : Int32)), (.ref b1), (.ref b1)])
  refine own_step (fun _ k => XS.bipush X2.here hx rfl (hb hby at_11) k) ?_
  show own_Ends _ _ _ _ _ _ _ T2 (mkF m 13 #[.val (.int p1), .val (.int p2), .unset, .unset, .unset, .unset] [(.int (10 : Int32)), (.int (1 : Int32)), (.ref b1), (.ref b1)])
  obtain ⟨T3, h3, l3, X3, e3, W3, V3, st3⟩ := own_stI X2 hx hZ e2 V_b1_2 (j := (1 : Int32)) ⟨by decide, by decide⟩ 1 rfl (by decide) (g := (mkF m 13 #[.val (.int p1), .val (.int p2), .unset, .unset, .unset, .unset] [(.int (10 : Int32)), (.int (1 : Int32)), (.ref b1), (.ref b1)])) rfl rfl (hb hby at_13)
  refine own_step st3 ?_
  have N3 := Fr.snoc X3 N2 g_b1
  have Z3 := Nat.le_trans Z2 (Keep.of_wr W3).1
  have V_b1_3 : Arv Z h3 b1 k1 .int (16 : Int32) [(.int (9 : Int32)), (.int (10 : Int32)), (.int (0 : Int32)), (.int (0 : Int32)), (.int (0 : Int32)), (.int (0 : Int32)), (.int (0 : Int32)), (.int (0 : Int32)), (.int (0 : Int32)), (.int (0 : Int32)), (.int (0 : Int32)), (.int (0 : Int32)), (.int (0 : Int32)), (.int (0 : Int32)), (.int (0 : Int32)), (.int (0 : Int32))] (.int (0 : Int32)) := V3
  show own_Ends _ _ _ _ _ _ _ T3 (mkF m 14 #[.val (.int p1), .val (.int p2), .unset, .unset, .unset, .unset] [(.ref b1)])
  refine own_step (fun _ k => XS.dup X3.here hx rfl (hb hby at_14) rfl rfl k) ?_
  show own_Ends _ _ _ _ _ _ _ T3 (mkF m 15 #[.val (.int p1), .val (.int p2), .unset, .unset, .unset, .unset] [(.ref b1), (.ref b1)])
  refine own_step (fun _ k => XS.iconst X3.here hx rfl (hb hby at_15) k) ?_
  show own_Ends _ _ _ _ _ _ _ T3 (mkF m 16 #[.val (.int p1), .val (.int p2), .unset, .unset, .unset, .unset] [(.int (2 : Int32)), (.ref b1), (.ref b1)])
  refine own_step (fun _ k => XS.bipush X3.here hx rfl (hb hby at_16) k) ?_
  show own_Ends _ _ _ _ _ _ _ T3 (mkF m 18 #[.val (.int p1), .val (.int p2), .unset, .unset, .unset, .unset] [(.int (11 : Int32)), (.int (2 : Int32)), (.ref b1), (.ref b1)])
  obtain ⟨T4, h4, l4, X4, e4, W4, V4, st4⟩ := own_stI X3 hx hZ e3 V_b1_3 (j := (2 : Int32)) ⟨by decide, by decide⟩ 2 rfl (by decide) (g := (mkF m 18 #[.val (.int p1), .val (.int p2), .unset, .unset, .unset, .unset] [(.int (11 : Int32)), (.int (2 : Int32)), (.ref b1), (.ref b1)])) rfl rfl (hb hby at_18)
  refine own_step st4 ?_
  have N4 := Fr.snoc X4 N3 g_b1
  have Z4 := Nat.le_trans Z3 (Keep.of_wr W4).1
  have V_b1_4 : Arv Z h4 b1 k1 .int (16 : Int32) [(.int (9 : Int32)), (.int (10 : Int32)), (.int (11 : Int32)), (.int (0 : Int32)), (.int (0 : Int32)), (.int (0 : Int32)), (.int (0 : Int32)), (.int (0 : Int32)), (.int (0 : Int32)), (.int (0 : Int32)), (.int (0 : Int32)), (.int (0 : Int32)), (.int (0 : Int32)), (.int (0 : Int32)), (.int (0 : Int32)), (.int (0 : Int32))] (.int (0 : Int32)) := V4
  show own_Ends _ _ _ _ _ _ _ T4 (mkF m 19 #[.val (.int p1), .val (.int p2), .unset, .unset, .unset, .unset] [(.ref b1)])
  refine own_step (fun _ k => XS.dup X4.here hx rfl (hb hby at_19) rfl rfl k) ?_
  show own_Ends _ _ _ _ _ _ _ T4 (mkF m 20 #[.val (.int p1), .val (.int p2), .unset, .unset, .unset, .unset] [(.ref b1), (.ref b1)])
  refine own_step (fun _ k => XS.iconst X4.here hx rfl (hb hby at_20) k) ?_
  show own_Ends _ _ _ _ _ _ _ T4 (mkF m 21 #[.val (.int p1), .val (.int p2), .unset, .unset, .unset, .unset] [(.int (3 : Int32)), (.ref b1), (.ref b1)])
  refine own_step (fun _ k => XS.bipush X4.here hx rfl (hb hby at_21) k) ?_
  show own_Ends _ _ _ _ _ _ _ T4 (mkF m 23 #[.val (.int p1), .val (.int p2), .unset, .unset, .unset, .unset] [(.int (12 : Int32)), (.int (3 : Int32)), (.ref b1), (.ref b1)])
  obtain ⟨T5, h5, l5, X5, e5, W5, V5, st5⟩ := own_stI X4 hx hZ e4 V_b1_4 (j := (3 : Int32)) ⟨by decide, by decide⟩ 3 rfl (by decide) (g := (mkF m 23 #[.val (.int p1), .val (.int p2), .unset, .unset, .unset, .unset] [(.int (12 : Int32)), (.int (3 : Int32)), (.ref b1), (.ref b1)])) rfl rfl (hb hby at_23)
  refine own_step st5 ?_
  have N5 := Fr.snoc X5 N4 g_b1
  have Z5 := Nat.le_trans Z4 (Keep.of_wr W5).1
  have V_b1_5 : Arv Z h5 b1 k1 .int (16 : Int32) [(.int (9 : Int32)), (.int (10 : Int32)), (.int (11 : Int32)), (.int (12 : Int32)), (.int (0 : Int32)), (.int (0 : Int32)), (.int (0 : Int32)), (.int (0 : Int32)), (.int (0 : Int32)), (.int (0 : Int32)), (.int (0 : Int32)), (.int (0 : Int32)), (.int (0 : Int32)), (.int (0 : Int32)), (.int (0 : Int32)), (.int (0 : Int32))] (.int (0 : Int32)) := V5
  show own_Ends _ _ _ _ _ _ _ T5 (mkF m 24 #[.val (.int p1), .val (.int p2), .unset, .unset, .unset, .unset] [(.ref b1)])
  refine own_step (fun _ k => XS.dup X5.here hx rfl (hb hby at_24) rfl rfl k) ?_
  show own_Ends _ _ _ _ _ _ _ T5 (mkF m 25 #[.val (.int p1), .val (.int p2), .unset, .unset, .unset, .unset] [(.ref b1), (.ref b1)])
  refine own_step (fun _ k => XS.iconst X5.here hx rfl (hb hby at_25) k) ?_
  show own_Ends _ _ _ _ _ _ _ T5 (mkF m 26 #[.val (.int p1), .val (.int p2), .unset, .unset, .unset, .unset] [(.int (4 : Int32)), (.ref b1), (.ref b1)])
  refine own_step (fun _ k => XS.bipush X5.here hx rfl (hb hby at_26) k) ?_
  show own_Ends _ _ _ _ _ _ _ T5 (mkF m 28 #[.val (.int p1), .val (.int p2), .unset, .unset, .unset, .unset] [(.int (13 : Int32)), (.int (4 : Int32)), (.ref b1), (.ref b1)])
  obtain ⟨T6, h6, l6, X6, e6, W6, V6, st6⟩ := own_stI X5 hx hZ e5 V_b1_5 (j := (4 : Int32)) ⟨by decide, by decide⟩ 4 rfl (by decide) (g := (mkF m 28 #[.val (.int p1), .val (.int p2), .unset, .unset, .unset, .unset] [(.int (13 : Int32)), (.int (4 : Int32)), (.ref b1), (.ref b1)])) rfl rfl (hb hby at_28)
  refine own_step st6 ?_
  have N6 := Fr.snoc X6 N5 g_b1
  have Z6 := Nat.le_trans Z5 (Keep.of_wr W6).1
  have V_b1_6 : Arv Z h6 b1 k1 .int (16 : Int32) [(.int (9 : Int32)), (.int (10 : Int32)), (.int (11 : Int32)), (.int (12 : Int32)), (.int (13 : Int32)), (.int (0 : Int32)), (.int (0 : Int32)), (.int (0 : Int32)), (.int (0 : Int32)), (.int (0 : Int32)), (.int (0 : Int32)), (.int (0 : Int32)), (.int (0 : Int32)), (.int (0 : Int32)), (.int (0 : Int32)), (.int (0 : Int32))] (.int (0 : Int32)) := V6
  show own_Ends _ _ _ _ _ _ _ T6 (mkF m 29 #[.val (.int p1), .val (.int p2), .unset, .unset, .unset, .unset] [(.ref b1)])
  refine own_step (fun _ k => XS.dup X6.here hx rfl (hb hby at_29) rfl rfl k) ?_
  show own_Ends _ _ _ _ _ _ _ T6 (mkF m 30 #[.val (.int p1), .val (.int p2), .unset, .unset, .unset, .unset] [(.ref b1), (.ref b1)])
  refine own_step (fun _ k => XS.iconst X6.here hx rfl (hb hby at_30) k) ?_
  show own_Ends _ _ _ _ _ _ _ T6 (mkF m 31 #[.val (.int p1), .val (.int p2), .unset, .unset, .unset, .unset] [(.int (5 : Int32)), (.ref b1), (.ref b1)])
  refine own_step (fun _ k => XS.bipush X6.here hx rfl (hb hby at_31) k) ?_
  show own_Ends _ _ _ _ _ _ _ T6 (mkF m 33 #[.val (.int p1), .val (.int p2), .unset, .unset, .unset, .unset] [(.int (14 : Int32)), (.int (5 : Int32)), (.ref b1), (.ref b1)])
  obtain ⟨T7, h7, l7, X7, e7, W7, V7, st7⟩ := own_stI X6 hx hZ e6 V_b1_6 (j := (5 : Int32)) ⟨by decide, by decide⟩ 5 rfl (by decide) (g := (mkF m 33 #[.val (.int p1), .val (.int p2), .unset, .unset, .unset, .unset] [(.int (14 : Int32)), (.int (5 : Int32)), (.ref b1), (.ref b1)])) rfl rfl (hb hby at_33)
  refine own_step st7 ?_
  have N7 := Fr.snoc X7 N6 g_b1
  have Z7 := Nat.le_trans Z6 (Keep.of_wr W7).1
  have V_b1_7 : Arv Z h7 b1 k1 .int (16 : Int32) [(.int (9 : Int32)), (.int (10 : Int32)), (.int (11 : Int32)), (.int (12 : Int32)), (.int (13 : Int32)), (.int (14 : Int32)), (.int (0 : Int32)), (.int (0 : Int32)), (.int (0 : Int32)), (.int (0 : Int32)), (.int (0 : Int32)), (.int (0 : Int32)), (.int (0 : Int32)), (.int (0 : Int32)), (.int (0 : Int32)), (.int (0 : Int32))] (.int (0 : Int32)) := V7
  show own_Ends _ _ _ _ _ _ _ T7 (mkF m 34 #[.val (.int p1), .val (.int p2), .unset, .unset, .unset, .unset] [(.ref b1)])
  refine own_step (fun _ k => XS.dup X7.here hx rfl (hb hby at_34) rfl rfl k) ?_
  show own_Ends _ _ _ _ _ _ _ T7 (mkF m 35 #[.val (.int p1), .val (.int p2), .unset, .unset, .unset, .unset] [(.ref b1), (.ref b1)])
  refine own_step (fun _ k => XS.bipush X7.here hx rfl (hb hby at_35) k) ?_
  show own_Ends _ _ _ _ _ _ _ T7 (mkF m 37 #[.val (.int p1), .val (.int p2), .unset, .unset, .unset, .unset] [(.int (6 : Int32)), (.ref b1), (.ref b1)])
  refine own_step (fun _ k => XS.sipush X7.here hx rfl (hb hby at_37) k) ?_
  show own_Ends _ _ _ _ _ _ _ T7 (mkF m 40 #[.val (.int p1), .val (.int p2), .unset, .unset, .unset, .unset] [(.int (132 : Int32)), (.int (6 : Int32)), (.ref b1), (.ref b1)])
  obtain ⟨T8, h8, l8, X8, e8, W8, V8, st8⟩ := own_stI X7 hx hZ e7 V_b1_7 (j := (6 : Int32)) ⟨by decide, by decide⟩ 6 rfl (by decide) (g := (mkF m 40 #[.val (.int p1), .val (.int p2), .unset, .unset, .unset, .unset] [(.int (132 : Int32)), (.int (6 : Int32)), (.ref b1), (.ref b1)])) rfl rfl (hb hby at_40)
  refine own_step st8 ?_
  have N8 := Fr.snoc X8 N7 g_b1
  have Z8 := Nat.le_trans Z7 (Keep.of_wr W8).1
  have V_b1_8 : Arv Z h8 b1 k1 .int (16 : Int32) [(.int (9 : Int32)), (.int (10 : Int32)), (.int (11 : Int32)), (.int (12 : Int32)), (.int (13 : Int32)), (.int (14 : Int32)), (.int (132 : Int32)), (.int (0 : Int32)), (.int (0 : Int32)), (.int (0 : Int32)), (.int (0 : Int32)), (.int (0 : Int32)), (.int (0 : Int32)), (.int (0 : Int32)), (.int (0 : Int32)), (.int (0 : Int32))] (.int (0 : Int32)) := V8
  show own_Ends _ _ _ _ _ _ _ T8 (mkF m 41 #[.val (.int p1), .val (.int p2), .unset, .unset, .unset, .unset] [(.ref b1)])
  refine own_step (fun _ k => XS.dup X8.here hx rfl (hb hby at_41) rfl rfl k) ?_
  show own_Ends _ _ _ _ _ _ _ T8 (mkF m 42 #[.val (.int p1), .val (.int p2), .unset, .unset, .unset, .unset] [(.ref b1), (.ref b1)])
  refine own_step (fun _ k => XS.bipush X8.here hx rfl (hb hby at_42) k) ?_
  show own_Ends _ _ _ _ _ _ _ T8 (mkF m 44 #[.val (.int p1), .val (.int p2), .unset, .unset, .unset, .unset] [(.int (7 : Int32)), (.ref b1), (.ref b1)])
  refine own_step (fun _ k => XS.sipush X8.here hx rfl (hb hby at_44) k) ?_
  show own_Ends _ _ _ _ _ _ _ T8 (mkF m 47 #[.val (.int p1), .val (.int p2), .unset, .unset, .unset, .unset] [(.int (133 : Int32)), (.int (7 : Int32)), (.ref b1), (.ref b1)])
  obtain ⟨T9, h9, l9, X9, e9, W9, V9, st9⟩ := own_stI X8 hx hZ e8 V_b1_8 (j := (7 : Int32)) ⟨by decide, by decide⟩ 7 rfl (by decide) (g := (mkF m 47 #[.val (.int p1), .val (.int p2), .unset, .unset, .unset, .unset] [(.int (133 : Int32)), (.int (7 : Int32)), (.ref b1), (.ref b1)])) rfl rfl (hb hby at_47)
  refine own_step st9 ?_
  have N9 := Fr.snoc X9 N8 g_b1
  have Z9 := Nat.le_trans Z8 (Keep.of_wr W9).1
  have V_b1_9 : Arv Z h9 b1 k1 .int (16 : Int32) [(.int (9 : Int32)), (.int (10 : Int32)), (.int (11 : Int32)), (.int (12 : Int32)), (.int (13 : Int32)), (.int (14 : Int32)), (.int (132 : Int32)), (.int (133 : Int32)), (.int (0 : Int32)), (.int (0 : Int32)), (.int (0 : Int32)), (.int (0 : Int32)), (.int (0 : Int32)), (.int (0 : Int32)), (.int (0 : Int32)), (.int (0 : Int32))] (.int (0 : Int32)) := V9
  show own_Ends _ _ _ _ _ _ _ T9 (mkF m 48 #[.val (.int p1), .val (.int p2), .unset, .unset, .unset, .unset] [(.ref b1)])
  refine own_step (fun _ k => XS.dup X9.here hx rfl (hb hby at_48) rfl rfl k) ?_
  show own_Ends _ _ _ _ _ _ _ T9 (mkF m 49 #[.val (.int p1), .val (.int p2), .unset, .unset, .unset, .unset] [(.ref b1), (.ref b1)])
  refine own_step (fun _ k => XS.bipush X9.here hx rfl (hb hby at_49) k) ?_
  show own_Ends _ _ _ _ _ _ _ T9 (mkF m 51 #[.val (.int p1), .val (.int p2), .unset, .unset, .unset, .unset] [(.int (8 : Int32)), (.ref b1), (.ref b1)])
  refine own_step (fun _ k => XS.sipush X9.here hx rfl (hb hby at_51) k) ?_
  show own_Ends _ _ _ _ _ _ _ T9 (mkF m 54 #[.val (.int p1), .val (.int p2), .unset, .unset, .unset, .unset] [(.int (134 : Int32)), (.int (8 : Int32)), (.ref b1), (.ref b1)])
  obtain ⟨T10, h10, l10, X10, e10, W10, V10, st10⟩ := own_stI X9 hx hZ e9 V_b1_9 (j := (8 : Int32)) ⟨by decide, by decide⟩ 8 rfl (by decide) (g := (mkF m 54 #[.val (.int p1), .val (.int p2), .unset, .unset, .unset, .unset] [(.int (134 : Int32)), (.int (8 : Int32)), (.ref b1), (.ref b1)])) rfl rfl (hb hby at_54)
  refine own_step st10 ?_
  have N10 := Fr.snoc X10 N9 g_b1
  have Z10 := Nat.le_trans Z9 (Keep.of_wr W10).1
  have V_b1_10 : Arv Z h10 b1 k1 .int (16 : Int32) [(.int (9 : Int32)), (.int (10 : Int32)), (.int (11 : Int32)), (.int (12 : Int32)), (.int (13 : Int32)), (.int (14 : Int32)), (.int (132 : Int32)), (.int (133 : Int32)), (.int (134 : Int32)), (.int (0 : Int32)), (.int (0 : Int32)), (.int (0 : Int32)), (.int (0 : Int32)), (.int (0 : Int32)), (.int (0 : Int32)), (.int (0 : Int32))] (.int (0 : Int32)) := V10
  show own_Ends _ _ _ _ _ _ _ T10 (mkF m 55 #[.val (.int p1), .val (.int p2), .unset, .unset, .unset, .unset] [(.ref b1)])
  refine own_step (fun _ k => XS.dup X10.here hx rfl (hb hby at_55) rfl rfl k) ?_
  show own_Ends _ _ _ _ _ _ _ T10 (mkF m 56 #[.val (.int p1), .val (.int p2), .unset, .unset, .unset, .unset] [(.ref b1), (.ref b1)])
  refine own_step (fun _ k => XS.bipush X10.here hx rfl (hb hby at_56) k) ?_
  show own_Ends _ _ _ _ _ _ _ T10 (mkF m 58 #[.val (.int p1), .val (.int p2), .unset, .unset, .unset, .unset] [(.int (9 : Int32)), (.ref b1), (.ref b1)])
  refine own_step (fun _ k => XS.sipush X10.here hx rfl (hb hby at_58) k) ?_
  show own_Ends _ _ _ _ _ _ _ T10 (mkF m 61 #[.val (.int p1), .val (.int p2), .unset, .unset, .unset, .unset] [(.int (8231 : Int32)), (.int (9 : Int32)), (.ref b1), (.ref b1)])
  obtain ⟨T11, h11, l11, X11, e11, W11, V11, st11⟩ := own_stI X10 hx hZ e10 V_b1_10 (j := (9 : Int32)) ⟨by decide, by decide⟩ 9 rfl (by decide) (g := (mkF m 61 #[.val (.int p1), .val (.int p2), .unset, .unset, .unset, .unset] [(.int (8231 : Int32)), (.int (9 : Int32)), (.ref b1), (.ref b1)])) rfl rfl (hb hby at_61)
  refine own_step st11 ?_
  have N11 := Fr.snoc X11 N10 g_b1
  have Z11 := Nat.le_trans Z10 (Keep.of_wr W11).1
  have V_b1_11 : Arv Z h11 b1 k1 .int (16 : Int32) [(.int (9 : Int32)), (.int (10 : Int32)), (.int (11 : Int32)), (.int (12 : Int32)), (.int (13 : Int32)), (.int (14 : Int32)), (.int (132 : Int32)), (.int (133 : Int32)), (.int (134 : Int32)), (.int (8231 : Int32)), (.int (0 : Int32)), (.int (0 : Int32)), (.int (0 : Int32)), (.int (0 : Int32)), (.int (0 : Int32)), (.int (0 : Int32))] (.int (0 : Int32)) := V11
  show own_Ends _ _ _ _ _ _ _ T11 (mkF m 62 #[.val (.int p1), .val (.int p2), .unset, .unset, .unset, .unset] [(.ref b1)])
  refine own_step (fun _ k => XS.dup X11.here hx rfl (hb hby at_62) rfl rfl k) ?_
  show own_Ends _ _ _ _ _ _ _ T11 (mkF m 63 #[.val (.int p1), .val (.int p2), .unset, .unset, .unset, .unset] [(.ref b1), (.ref b1)])
  refine own_step (fun _ k => XS.bipush X11.here hx rfl (hb hby at_63) k) ?_
  show own_Ends _ _ _ _ _ _ _ T11 (mkF m 65 #[.val (.int p1), .val (.int p2), .unset, .unset, .unset, .unset] [(.int (10 : Int32)), (.ref b1), (.ref b1)])
  refine own_step (fun _ k => XS.sipush X11.here hx rfl (hb hby at_65) k) ?_
  show own_Ends _ _ _ _ _ _ _ T11 (mkF m 68 #[.val (.int p1), .val (.int p2), .unset, .unset, .unset, .unset] [(.int (8232 : Int32)), (.int (10 : Int32)), (.ref b1), (.ref b1)])
  obtain ⟨T12, h12, l12, X12, e12, W12, V12, st12⟩ := own_stI X11 hx hZ e11 V_b1_11 (j := (10 : Int32)) ⟨by decide, by decide⟩ 10 rfl (by decide) (g := (mkF m 68 #[.val (.int p1), .val (.int p2), .unset, .unset, .unset, .unset] [(.int (8232 : Int32)), (.int (10 : Int32)), (.ref b1), (.ref b1)])) rfl rfl (hb hby at_68)
  refine own_step st12 ?_
  have N12 := Fr.snoc X12 N11 g_b1
  have Z12 := Nat.le_trans Z11 (Keep.of_wr W12).1
  have V_b1_12 : Arv Z h12 b1 k1 .int (16 : Int32) [(.int (9 : Int32)), (.int (10 : Int32)), (.int (11 : Int32)), (.int (12 : Int32)), (.int (13 : Int32)), (.int (14 : Int32)), (.int (132 : Int32)), (.int (133 : Int32)), (.int (134 : Int32)), (.int (8231 : Int32)), (.int (8232 : Int32)), (.int (0 : Int32)), (.int (0 : Int32)), (.int (0 : Int32)), (.int (0 : Int32)), (.int (0 : Int32))] (.int (0 : Int32)) := V12
  show own_Ends _ _ _ _ _ _ _ T12 (mkF m 69 #[.val (.int p1), .val (.int p2), .unset, .unset, .unset, .unset] [(.ref b1)])
  refine own_step (fun _ k => XS.dup X12.here hx rfl (hb hby at_69) rfl rfl k) ?_
  show own_Ends _ _ _ _ _ _ _ T12 (mkF m 70 #[.val (.int p1), .val (.int p2), .unset, .unset, .unset, .unset] [(.ref b1), (.ref b1)])
  refine own_step (fun _ k => XS.bipush X12.here hx rfl (hb hby at_70) k) ?_
  show own_Ends _ _ _ _ _ _ _ T12 (mkF m 72 #[.val (.int p1), .val (.int p2), .unset, .unset, .unset, .unset] [(.int (11 : Int32)), (.ref b1), (.ref b1)])
  refine own_step (fun _ k => XS.sipush X12.here hx rfl (hb hby at_72) k) ?_
  show own_Ends _ _ _ _ _ _ _ T12 (mkF m 75 #[.val (.int p1), .val (.int p2), .unset, .unset, .unset, .unset] [(.int (8233 : Int32)), (.int (11 : Int32)), (.ref b1), (.ref b1)])
  obtain ⟨T13, h13, l13, X13, e13, W13, V13, st13⟩ := own_stI X12 hx hZ e12 V_b1_12 (j := (11 : Int32)) ⟨by decide, by decide⟩ 11 rfl (by decide) (g := (mkF m 75 #[.val (.int p1), .val (.int p2), .unset, .unset, .unset, .unset] [(.int (8233 : Int32)), (.int (11 : Int32)), (.ref b1), (.ref b1)])) rfl rfl (hb hby at_75)
  refine own_step st13 ?_
  have N13 := Fr.snoc X13 N12 g_b1
  have Z13 := Nat.le_trans Z12 (Keep.of_wr W13).1
  have V_b1_13 : Arv Z h13 b1 k1 .int (16 : Int32) [(.int (9 : Int32)), (.int (10 : Int32)), (.int (11 : Int32)), (.int (12 : Int32)), (.int (13 : Int32)), (.int (14 : Int32)), (.int (132 : Int32)), (.int (133 : Int32)), (.int (134 : Int32)), (.int (8231 : Int32)), (.int (8232 : Int32)), (.int (8233 : Int32)), (.int (0 : Int32)), (.int (0 : Int32)), (.int (0 : Int32)), (.int (0 : Int32))] (.int (0 : Int32)) := V13
  show own_Ends _ _ _ _ _ _ _ T13 (mkF m 76 #[.val (.int p1), .val (.int p2), .unset, .unset, .unset, .unset] [(.ref b1)])
  refine own_step (fun _ k => XS.dup X13.here hx rfl (hb hby at_76) rfl rfl k) ?_
  show own_Ends _ _ _ _ _ _ _ T13 (mkF m 77 #[.val (.int p1), .val (.int p2), .unset, .unset, .unset, .unset] [(.ref b1), (.ref b1)])
  refine own_step (fun _ k => XS.bipush X13.here hx rfl (hb hby at_77) k) ?_
  show own_Ends _ _ _ _ _ _ _ T13 (mkF m 79 #[.val (.int p1), .val (.int p2), .unset, .unset, .unset, .unset] [(.int (12 : Int32)), (.ref b1), (.ref b1)])
  refine own_step (fun _ k => XS.sipush X13.here hx rfl (hb hby at_79) k) ?_
  show own_Ends _ _ _ _ _ _ _ T13 (mkF m 82 #[.val (.int p1), .val (.int p2), .unset, .unset, .unset, .unset] [(.int (8234 : Int32)), (.int (12 : Int32)), (.ref b1), (.ref b1)])
  obtain ⟨T14, h14, l14, X14, e14, W14, V14, st14⟩ := own_stI X13 hx hZ e13 V_b1_13 (j := (12 : Int32)) ⟨by decide, by decide⟩ 12 rfl (by decide) (g := (mkF m 82 #[.val (.int p1), .val (.int p2), .unset, .unset, .unset, .unset] [(.int (8234 : Int32)), (.int (12 : Int32)), (.ref b1), (.ref b1)])) rfl rfl (hb hby at_82)
  refine own_step st14 ?_
  have N14 := Fr.snoc X14 N13 g_b1
  have Z14 := Nat.le_trans Z13 (Keep.of_wr W14).1
  have V_b1_14 : Arv Z h14 b1 k1 .int (16 : Int32) [(.int (9 : Int32)), (.int (10 : Int32)), (.int (11 : Int32)), (.int (12 : Int32)), (.int (13 : Int32)), (.int (14 : Int32)), (.int (132 : Int32)), (.int (133 : Int32)), (.int (134 : Int32)), (.int (8231 : Int32)), (.int (8232 : Int32)), (.int (8233 : Int32)), (.int (8234 : Int32)), (.int (0 : Int32)), (.int (0 : Int32)), (.int (0 : Int32))] (.int (0 : Int32)) := V14
  show own_Ends _ _ _ _ _ _ _ T14 (mkF m 83 #[.val (.int p1), .val (.int p2), .unset, .unset, .unset, .unset] [(.ref b1)])
  refine own_step (fun _ k => XS.dup X14.here hx rfl (hb hby at_83) rfl rfl k) ?_
  show own_Ends _ _ _ _ _ _ _ T14 (mkF m 84 #[.val (.int p1), .val (.int p2), .unset, .unset, .unset, .unset] [(.ref b1), (.ref b1)])
  refine own_step (fun _ k => XS.bipush X14.here hx rfl (hb hby at_84) k) ?_
  show own_Ends _ _ _ _ _ _ _ T14 (mkF m 86 #[.val (.int p1), .val (.int p2), .unset, .unset, .unset, .unset] [(.int (13 : Int32)), (.ref b1), (.ref b1)])
  refine own_step (fun _ k => XS.iconst X14.here hx rfl (hb hby at_86) k) ?_
  show own_Ends _ _ _ _ _ _ _ T14 (mkF m 87 #[.val (.int p1), .val (.int p2), .unset, .unset, .unset, .unset] [(.int (-1 : Int32)), (.int (13 : Int32)), (.ref b1), (.ref b1)])
  obtain ⟨T15, h15, l15, X15, e15, W15, V15, st15⟩ := own_stI X14 hx hZ e14 V_b1_14 (j := (13 : Int32)) ⟨by decide, by decide⟩ 13 rfl (by decide) (g := (mkF m 87 #[.val (.int p1), .val (.int p2), .unset, .unset, .unset, .unset] [(.int (-1 : Int32)), (.int (13 : Int32)), (.ref b1), (.ref b1)])) rfl rfl (hb hby at_87)
  refine own_step st15 ?_
  have N15 := Fr.snoc X15 N14 g_b1
  have Z15 := Nat.le_trans Z14 (Keep.of_wr W15).1
  have V_b1_15 : Arv Z h15 b1 k1 .int (16 : Int32) [(.int (9 : Int32)), (.int (10 : Int32)), (.int (11 : Int32)), (.int (12 : Int32)), (.int (13 : Int32)), (.int (14 : Int32)), (.int (132 : Int32)), (.int (133 : Int32)), (.int (134 : Int32)), (.int (8231 : Int32)), (.int (8232 : Int32)), (.int (8233 : Int32)), (.int (8234 : Int32)), (.int (-1 : Int32)), (.int (0 : Int32)), (.int (0 : Int32))] (.int (0 : Int32)) := V15
  show own_Ends _ _ _ _ _ _ _ T15 (mkF m 88 #[.val (.int p1), .val (.int p2), .unset, .unset, .unset, .unset] [(.ref b1)])
  refine own_step (fun _ k => XS.dup X15.here hx rfl (hb hby at_88) rfl rfl k) ?_
  show own_Ends _ _ _ _ _ _ _ T15 (mkF m 89 #[.val (.int p1), .val (.int p2), .unset, .unset, .unset, .unset] [(.ref b1), (.ref b1)])
  refine own_step (fun _ k => XS.bipush X15.here hx rfl (hb hby at_89) k) ?_
  show own_Ends _ _ _ _ _ _ _ T15 (mkF m 91 #[.val (.int p1), .val (.int p2), .unset, .unset, .unset, .unset] [(.int (14 : Int32)), (.ref b1), (.ref b1)])
  refine own_step (X15.ldcInt hx hown (mvT hZ (hw _ (List.mem_of_getElem? (i := 1) rfl))) (g := (mkF m 91 #[.val (.int p1), .val (.int p2), .unset, .unset, .unset, .unset] [(.int (14 : Int32)), (.ref b1), (.ref b1)])) rfl (hb hby at_91)) ?_
  show own_Ends _ _ _ _ _ _ _ T15 (mkF m 93 #[.val (.int p1), .val (.int p2), .unset, .unset, .unset, .unset] [(.int (65546 : Int32)), (.int (14 : Int32)), (.ref b1), (.ref b1)])
  obtain ⟨T16, h16, l16, X16, e16, W16, V16, st16⟩ := own_stI X15 hx hZ e15 V_b1_15 (j := (14 : Int32)) ⟨by decide, by decide⟩ 14 rfl (by decide) (g := (mkF m 93 #[.val (.int p1), .val (.int p2), .unset, .unset, .unset, .unset] [(.int (65546 : Int32)), (.int (14 : Int32)), (.ref b1), (.ref b1)])) rfl rfl (hb hby at_93)
  refine own_step st16 ?_
  have N16 := Fr.snoc X16 N15 g_b1
  have Z16 := Nat.le_trans Z15 (Keep.of_wr W16).1
  have V_b1_16 : Arv Z h16 b1 k1 .int (16 : Int32) [(.int (9 : Int32)), (.int (10 : Int32)), (.int (11 : Int32)), (.int (12 : Int32)), (.int (13 : Int32)), (.int (14 : Int32)), (.int (132 : Int32)), (.int (133 : Int32)), (.int (134 : Int32)), (.int (8231 : Int32)), (.int (8232 : Int32)), (.int (8233 : Int32)), (.int (8234 : Int32)), (.int (-1 : Int32)), (.int (65546 : Int32)), (.int (0 : Int32))] (.int (0 : Int32)) := V16
  show own_Ends _ _ _ _ _ _ _ T16 (mkF m 94 #[.val (.int p1), .val (.int p2), .unset, .unset, .unset, .unset] [(.ref b1)])
  refine own_step (fun _ k => XS.dup X16.here hx rfl (hb hby at_94) rfl rfl k) ?_
  show own_Ends _ _ _ _ _ _ _ T16 (mkF m 95 #[.val (.int p1), .val (.int p2), .unset, .unset, .unset, .unset] [(.ref b1), (.ref b1)])
  refine own_step (fun _ k => XS.bipush X16.here hx rfl (hb hby at_95) k) ?_
  show own_Ends _ _ _ _ _ _ _ T16 (mkF m 97 #[.val (.int p1), .val (.int p2), .unset, .unset, .unset, .unset] [(.int (15 : Int32)), (.ref b1), (.ref b1)])
  refine own_step (X16.ldcInt hx hown (mvT hZ (hw _ (List.mem_of_getElem? (i := 2) rfl))) (g := (mkF m 97 #[.val (.int p1), .val (.int p2), .unset, .unset, .unset, .unset] [(.int (15 : Int32)), (.ref b1), (.ref b1)])) rfl (hb hby at_97)) ?_
  show own_Ends _ _ _ _ _ _ _ T16 (mkF m 99 #[.val (.int p1), .val (.int p2), .unset, .unset, .unset, .unset] [(.int (-2147483648 : Int32)), (.int (15 : Int32)), (.ref b1), (.ref b1)])
  obtain ⟨T17, h17, l17, X17, e17, W17, V17, st17⟩ := own_stI X16 hx hZ e16 V_b1_16 (j := (15 : Int32)) ⟨by decide, by decide⟩ 15 rfl (by decide) (g := (mkF m 99 #[.val (.int p1), .val (.int p2), .unset, .unset, .unset, .unset] [(.int (-2147483648 : Int32)), (.int (15 : Int32)), (.ref b1), (.ref b1)])) rfl rfl (hb hby at_99)
  refine own_step st17 ?_
  have N17 := Fr.snoc X17 N16 g_b1
  have Z17 := Nat.le_trans Z16 (Keep.of_wr W17).1
  have V_b1_17 : Arv Z h17 b1 k1 .int (16 : Int32) [(.int (9 : Int32)), (.int (10 : Int32)), (.int (11 : Int32)), (.int (12 : Int32)), (.int (13 : Int32)), (.int (14 : Int32)), (.int (132 : Int32)), (.int (133 : Int32)), (.int (134 : Int32)), (.int (8231 : Int32)), (.int (8232 : Int32)), (.int (8233 : Int32)), (.int (8234 : Int32)), (.int (-1 : Int32)), (.int (65546 : Int32)), (.int (-2147483648 : Int32))] (.int (0 : Int32)) := V17
  show own_Ends _ _ _ _ _ _ _ T17 (mkF m 100 #[.val (.int p1), .val (.int p2), .unset, .unset, .unset, .unset] [(.ref b1)])
  refine own_step (fun _ k => XS.astoreN X17.here hx rfl (hb hby at_100) rfl rfl (l' := #[.val (.int p1), .val (.int p2), .val (.ref b1), .unset, .unset, .unset]) rfl k) ?_
  show own_Ends _ _ _ _ _ _ _ T17 (mkF m 101 #[.val (.int p1), .val (.int p2), .val (.ref b1), .unset, .unset, .unset] [])
  refine own_step (fun _ k => XS.aloadN X17.here hx rfl (hb hby at_101) rfl rfl k) ?_
  show own_Ends _ _ _ _ _ _ _ T17 (mkF m 102 #[.val (.int p1), .val (.int p2), .val (.ref b1), .unset, .unset, .unset] [(.ref b1)])
  refine own_step (fun _ k => XS.iloadN X17.here hx rfl (hb hby at_102) rfl k) ?_
  show own_Ends _ _ _ _ _ _ _ T17 (mkF m 103 #[.val (.int p1), .val (.int p2), .val (.ref b1), .unset, .unset, .unset] [(.int p2), (.ref b1)])
  refine own_step (fun _ k => XS.bipush X17.here hx rfl (hb hby at_103) k) ?_
  show own_Ends _ _ _ _ _ _ _ T17 (mkF m 105 #[.val (.int p1), .val (.int p2), .val (.ref b1), .unset, .unset, .unset] [(.int (15 : Int32)), (.int p2), (.ref b1)])
  refine own_step (fun _ k => XS.iand X17.here hx rfl (hb hby at_105) rfl k) ?_
  show own_Ends _ _ _ _ _ _ _ T17 (mkF m 106 #[.val (.int p1), .val (.int p2), .val (.ref b1), .unset, .unset, .unset] [(.int (p2 &&& (15 : Int32))), (.ref b1)])
  obtain ⟨b, hb_⟩ : ∃ b : Int32, List.getD ([(.int (9 : Int32)), (.int (10 : Int32)), (.int (11 : Int32)), (.int (12 : Int32)), (.int (13 : Int32)), (.int (14 : Int32)), (.int (132 : Int32)), (.int (133 : Int32)), (.int (134 : Int32)), (.int (8231 : Int32)), (.int (8232 : Int32)), (.int (8233 : Int32)), (.int (8234 : Int32)), (.int (-1 : Int32)), (.int (65546 : Int32)), (.int (-2147483648 : Int32))] : List Value) (p2 &&& (15 : Int32)).toNatClampNeg (.int (0 : Int32)) = .int b := ⟨_, own_getI [(9 : Int32), (10 : Int32), (11 : Int32), (12 : Int32), (13 : Int32), (14 : Int32), (132 : Int32), (133 : Int32), (134 : Int32), (8231 : Int32), (8232 : Int32), (8233 : Int32), (8234 : Int32), (-1 : Int32), (65546 : Int32), (-2147483648 : Int32)] (0 : Int32) _⟩
  refine own_step (own_ldI X17 hx hZ e17 V_b1_17 (j := (p2 &&& (15 : Int32))) (v := (.int b)) (own_idx p2) hb_ (g := (mkF m 106 #[.val (.int p1), .val (.int p2), .val (.ref b1), .unset, .unset, .unset] [(.int (p2 &&& (15 : Int32))), (.ref b1)])) rfl rfl (hb hby at_106)) ?_
  show own_Ends _ _ _ _ _ _ _ T17 (mkF m 107 #[.val (.int p1), .val (.int p2), .val (.ref b1), .unset, .unset, .unset] [(.int b)])
  refine own_step (fun _ k => XS.istoreN X17.here hx rfl (hb hby at_107) rfl (l' := #[.val (.int p1), .val (.int p2), .val (.ref b1), .val (.int b), .unset, .unset]) rfl k) ?_
  show own_Ends _ _ _ _ _ _ _ T17 (mkF m 108 #[.val (.int p1), .val (.int p2), .val (.ref b1), .val (.int b), .unset, .unset] [])
  refine own_step (fun _ k => XS.iloadN X17.here hx rfl (hb hby at_108) rfl k) ?_
  show own_Ends _ _ _ _ _ _ _ T17 (mkF m 109 #[.val (.int p1), .val (.int p2), .val (.ref b1), .val (.int b), .unset, .unset] [(.int p1)])
  refine own_callS X17 hx hZ (y := (⟨"com/example/annotary/annotary/pipeline/LineBreaks", "isLineBreak", "(I)Z"⟩ : MethodName)) hown (hw _ (List.mem_of_getElem? (i := 3) rfl)) (hw _ (List.mem_of_getElem? (i := 4) rfl)) (hw _ (List.mem_of_getElem? (i := 5) rfl)) (hw _ (List.mem_of_getElem? (i := 6) rfl)) (by decide) (rm1 l Z a0 hw [] p1 h17 n0 Z17) e17 0 (by decide) (by decide) (by decide) (by decide) (g := (mkF m 109 #[.val (.int p1), .val (.int p2), .val (.ref b1), .val (.int b), .unset, .unset] [(.int p1)])) rfl (by rw [hml]; rfl) [(.int p1)] [] pd_0 rfl rfl rfl (by show 2 * 0 + _ ≤ _; exact Nat.le_of_eq rfl) (hb hby at_109) ?_
  rintro v18 T18 L18 X18 ⟨rfl, Nq18, e18⟩
  have N18 := Fr.app N17 Nq18
  show own_Ends _ _ _ _ _ _ _ T18 (mkF m 112 #[.val (.int p1), .val (.int p2), .val (.ref b1), .val (.int b), .unset, .unset] [(.int (own_f1 p1))])
  refine own_step (fun _ k => XS.iloadN X18.here hx rfl (hb hby at_112) rfl k) ?_
  show own_Ends _ _ _ _ _ _ _ T18 (mkF m 113 #[.val (.int p1), .val (.int p2), .val (.ref b1), .val (.int b), .unset, .unset] [(.int p1), (.int (own_f1 p1))])
  refine own_callS X18 hx hZ (y := (⟨"com/example/annotary/annotary/pipeline/LineBreaksIsLineBreakPinLaw", "reference", "(I)Z"⟩ : MethodName)) hown (hw _ (List.mem_of_getElem? (i := 7) rfl)) (hw _ (List.mem_of_getElem? (i := 8) rfl)) (hw _ (List.mem_of_getElem? (i := 9) rfl)) (hw _ (List.mem_of_getElem? (i := 10) rfl)) (by decide) (rm2 l Z a0 hw [] p1 h17 n0 Z17) e18 1 (by decide) (by decide) (by decide) (by decide) (g := (mkF m 113 #[.val (.int p1), .val (.int p2), .val (.ref b1), .val (.int b), .unset, .unset] [(.int p1), (.int (own_f1 p1))])) rfl (by rw [hml]; rfl) [(.int p1)] [(.int (own_f1 p1))] pd_0 rfl rfl rfl (by show 2 * 0 + _ ≤ _; exact Nat.le_of_eq rfl) (hb hby at_113) ?_
  rintro v19 T19 L19 X19 ⟨rfl, Nq19, e19⟩
  have N19 := Fr.app N18 Nq19
  show own_Ends _ _ _ _ _ _ _ T19 (mkF m 116 #[.val (.int p1), .val (.int p2), .val (.ref b1), .val (.int b), .unset, .unset] [(.int (own_f2 p1)), (.int (own_f1 p1))])
  refine own_step (fun _ k => XS.icmpNo X19.here hx rfl (hb hby at_116) rfl (teq (own_same p1)).2 k) ?_
  show own_Ends _ _ _ _ _ _ _ T19 (mkF m 119 #[.val (.int p1), .val (.int p2), .val (.ref b1), .val (.int b), .unset, .unset] [])
  refine own_step (fun _ k => XS.iconst X19.here hx rfl (hb hby at_119) k) ?_
  show own_Ends _ _ _ _ _ _ _ T19 (mkF m 120 #[.val (.int p1), .val (.int p2), .val (.ref b1), .val (.int b), .unset, .unset] [(.int (1 : Int32))])
  refine own_step (fun _ k => XS.goto X19.here hx rfl (pc0 := 120) (pc' := 124) rfl (hb hby at_120) (by decide) (by decide) k) ?_
  show own_Ends _ _ _ _ _ _ _ T19 (mkF m 124 #[.val (.int p1), .val (.int p2), .val (.ref b1), .val (.int b), .unset, .unset] [(.int (1 : Int32))])
  refine own_step (fun _ k => XS.istore X19.here hx rfl (hb hby at_124) rfl (l' := #[.val (.int p1), .val (.int p2), .val (.ref b1), .val (.int b), .val (.int (1 : Int32)), .unset]) rfl k) ?_
  show own_Ends _ _ _ _ _ _ _ T19 (mkF m 126 #[.val (.int p1), .val (.int p2), .val (.ref b1), .val (.int b), .val (.int (1 : Int32)), .unset] [])
  refine own_step (fun _ k => XS.iloadN X19.here hx rfl (hb hby at_126) rfl k) ?_
  show own_Ends _ _ _ _ _ _ _ T19 (mkF m 127 #[.val (.int p1), .val (.int p2), .val (.ref b1), .val (.int b), .val (.int (1 : Int32)), .unset] [(.int b)])
  refine own_callS X19 hx hZ (y := (⟨"com/example/annotary/annotary/pipeline/LineBreaks", "isLineBreak", "(I)Z"⟩ : MethodName)) hown (hw _ (List.mem_of_getElem? (i := 3) rfl)) (hw _ (List.mem_of_getElem? (i := 4) rfl)) (hw _ (List.mem_of_getElem? (i := 5) rfl)) (hw _ (List.mem_of_getElem? (i := 6) rfl)) (by decide) (rm1 l Z a0 hw [] b h17 n0 Z17) e19 0 (by decide) (by decide) (by decide) (by decide) (g := (mkF m 127 #[.val (.int p1), .val (.int p2), .val (.ref b1), .val (.int b), .val (.int (1 : Int32)), .unset] [(.int b)])) rfl (by rw [hml]; rfl) [(.int b)] [] pd_0 rfl rfl rfl (by show 2 * 0 + _ ≤ _; exact Nat.le_of_eq rfl) (hb hby at_127) ?_
  rintro v20 T20 L20 X20 ⟨rfl, Nq20, e20⟩
  have N20 := Fr.app N19 Nq20
  show own_Ends _ _ _ _ _ _ _ T20 (mkF m 130 #[.val (.int p1), .val (.int p2), .val (.ref b1), .val (.int b), .val (.int (1 : Int32)), .unset] [(.int (own_f1 b))])
  refine own_step (fun _ k => XS.iloadN X20.here hx rfl (hb hby at_130) rfl k) ?_
  show own_Ends _ _ _ _ _ _ _ T20 (mkF m 131 #[.val (.int p1), .val (.int p2), .val (.ref b1), .val (.int b), .val (.int (1 : Int32)), .unset] [(.int b), (.int (own_f1 b))])
  refine own_callS X20 hx hZ (y := (⟨"com/example/annotary/annotary/pipeline/LineBreaksIsLineBreakPinLaw", "reference", "(I)Z"⟩ : MethodName)) hown (hw _ (List.mem_of_getElem? (i := 7) rfl)) (hw _ (List.mem_of_getElem? (i := 8) rfl)) (hw _ (List.mem_of_getElem? (i := 9) rfl)) (hw _ (List.mem_of_getElem? (i := 10) rfl)) (by decide) (rm2 l Z a0 hw [] b h17 n0 Z17) e20 1 (by decide) (by decide) (by decide) (by decide) (g := (mkF m 131 #[.val (.int p1), .val (.int p2), .val (.ref b1), .val (.int b), .val (.int (1 : Int32)), .unset] [(.int b), (.int (own_f1 b))])) rfl (by rw [hml]; rfl) [(.int b)] [(.int (own_f1 b))] pd_0 rfl rfl rfl (by show 2 * 0 + _ ≤ _; exact Nat.le_of_eq rfl) (hb hby at_131) ?_
  rintro v21 T21 L21 X21 ⟨rfl, Nq21, e21⟩
  have N21 := Fr.app N20 Nq21
  show own_Ends _ _ _ _ _ _ _ T21 (mkF m 134 #[.val (.int p1), .val (.int p2), .val (.ref b1), .val (.int b), .val (.int (1 : Int32)), .unset] [(.int (own_f2 b)), (.int (own_f1 b))])
  refine own_step (fun _ k => XS.icmpNo X21.here hx rfl (hb hby at_134) rfl (teq (own_same b)).2 k) ?_
  show own_Ends _ _ _ _ _ _ _ T21 (mkF m 137 #[.val (.int p1), .val (.int p2), .val (.ref b1), .val (.int b), .val (.int (1 : Int32)), .unset] [])
  refine own_step (fun _ k => XS.iconst X21.here hx rfl (hb hby at_137) k) ?_
  show own_Ends _ _ _ _ _ _ _ T21 (mkF m 138 #[.val (.int p1), .val (.int p2), .val (.ref b1), .val (.int b), .val (.int (1 : Int32)), .unset] [(.int (1 : Int32))])
  refine own_step (fun _ k => XS.goto X21.here hx rfl (pc0 := 138) (pc' := 142) rfl (hb hby at_138) (by decide) (by decide) k) ?_
  show own_Ends _ _ _ _ _ _ _ T21 (mkF m 142 #[.val (.int p1), .val (.int p2), .val (.ref b1), .val (.int b), .val (.int (1 : Int32)), .unset] [(.int (1 : Int32))])
  refine own_step (fun _ k => XS.istore X21.here hx rfl (hb hby at_142) rfl (l' := #[.val (.int p1), .val (.int p2), .val (.ref b1), .val (.int b), .val (.int (1 : Int32)), .val (.int (1 : Int32))]) rfl k) ?_
  show own_Ends _ _ _ _ _ _ _ T21 (mkF m 144 #[.val (.int p1), .val (.int p2), .val (.ref b1), .val (.int b), .val (.int (1 : Int32)), .val (.int (1 : Int32))] [])
  refine own_step (fun _ k => XS.iload X21.here hx rfl (hb hby at_144) rfl k) ?_
  show own_Ends _ _ _ _ _ _ _ T21 (mkF m 146 #[.val (.int p1), .val (.int p2), .val (.ref b1), .val (.int b), .val (.int (1 : Int32)), .val (.int (1 : Int32))] [(.int (1 : Int32))])
  refine own_step (fun _ k => XS.ifNo X21.here hx rfl (hb hby at_146) rfl ((if0 _ _).trans (feq (by decide : ¬ ((1 : Int32) = (0 : Int32)))).1) k) ?_
  show own_Ends _ _ _ _ _ _ _ T21 (mkF m 149 #[.val (.int p1), .val (.int p2), .val (.ref b1), .val (.int b), .val (.int (1 : Int32)), .val (.int (1 : Int32))] [])
  refine own_step (fun _ k => XS.iload X21.here hx rfl (hb hby at_149) rfl k) ?_
  show own_Ends _ _ _ _ _ _ _ T21 (mkF m 151 #[.val (.int p1), .val (.int p2), .val (.ref b1), .val (.int b), .val (.int (1 : Int32)), .val (.int (1 : Int32))] [(.int (1 : Int32))])
  refine own_step (fun _ k => XS.ifNo X21.here hx rfl (hb hby at_151) rfl ((if0 _ _).trans (feq (by decide : ¬ ((1 : Int32) = (0 : Int32)))).1) k) ?_
  show own_Ends _ _ _ _ _ _ _ T21 (mkF m 154 #[.val (.int p1), .val (.int p2), .val (.ref b1), .val (.int b), .val (.int (1 : Int32)), .val (.int (1 : Int32))] [])
  refine own_step (fun _ k => XS.iconst X21.here hx rfl (hb hby at_154) k) ?_
  show own_Ends _ _ _ _ _ _ _ T21 (mkF m 155 #[.val (.int p1), .val (.int p2), .val (.ref b1), .val (.int b), .val (.int (1 : Int32)), .val (.int (1 : Int32))] [(.int (1 : Int32))])
  refine own_step (fun _ k => XS.goto X21.here hx rfl (pc0 := 155) (pc' := 159) rfl (hb hby at_155) (by decide) (by decide) k) ?_
  show own_Ends _ _ _ _ _ _ _ T21 (mkF m 159 #[.val (.int p1), .val (.int p2), .val (.ref b1), .val (.int b), .val (.int (1 : Int32)), .val (.int (1 : Int32))] [(.int (1 : Int32))])
  exact own_retN X21 hx (t := .boolean) hret (by simp) hlk (hb hby at_159) rfl ⟨rfl, N21⟩ (by decide) (by decide)
set_option maxRecDepth 65536 in
set_option maxHeartbeats 40000000 in
theorem comes_1 {Post : Tables → Env → Array Value → State → Outcome → State → Prop} (hpost : ∀ tb e args s v u, (limb_1_1.after args s (.returned v) u = true ∧ limb_1_2.after args s (.returned v) u = true ∧ True) → FrameEnd s (.returned v) u (Jvm.fieldLocs frame_1_writes args s ++ Jvm.arrayLocs frame_1_arrays args s ++ Jvm.staticLocs frame_1_statics s) 16 128 → Post tb e args s (.returned v) u) :
    ArmFor flags0 classFile x code maxLocals ret World_1 tables_1 room_1 Calls_1 rest_1 Pre_1 Post := by
  intro l hfl _ _ p e ha hc hk s m args below hf hA hF happ hP
  obtain ⟨hcalls, hrest, hpre⟩ := hP
  obtain ⟨-, -, -, hnamed, -, -, -, hat⟩ := (Spec.applies_iff hf).mp happ
  obtain ⟨hg, hn⟩ := and_e (Cond.before_iff.mp (show (Jvm.Cond.and given_1 narrow_1).before args s = true from hpre))
  obtain ⟨gc, g0⟩ := and_e hg
  obtain ⟨h0, g1⟩ := and_e g0
  have h1 := g1
  obtain ⟨w0, w1, rfl⟩ : ∃ w0 w1 : Value, args = #[w0, w1] := by
    have hs : args.size = 2 := by simpa [Cond.value, given_1] using gc
    obtain ⟨L⟩ := args
    match L, hs with
    | [w0, w1], _ => exact ⟨w0, w1, rfl⟩
  have hw := fun d (hd : d ∈ tables_1) => atoms_spec (ws := Jvm.Cond.code x code maxLocals ret :: tables_1) hat d (List.mem_cons_of_mem _ hd)
  have hfit : Fit s := fun {y c} hc i hi => by
    obtain ⟨ha, rfl⟩ := Array.getElem?_eq_some_iff.mp hc
    have q := List.all_eq_true.mp ((Array.all_eq_true_iff_forall_mem.mp hF) _ (Array.getElem_mem ha)) i (List.mem_range.mpr hi)
    simpa [Array.getElem?_eq_getElem hi] using q
  obtain ⟨i0, ei0⟩ := is_v h0
  obtain rfl : w0 = (.int i0) := Option.some.inj ei0
  obtain ⟨i1, ei1⟩ := is_v h1
  obtain rfl : w1 = (.int i1) := Option.some.inj ei1
  obtain ⟨n, o, h1, h2, h3, _, L, rfl, ⟨rfl, N⟩, hq⟩ := rm0 l s _ hw tables_1 i0 i1 s.heap s.heap.size (Nat.le_refl _) p e ha hc hk s m _ below hf ((Spec.applies_iff_loose hf).mp happ).1 ⟨rfl, State.Warmed39.refl s, rfl⟩ trivial
  refine ⟨n, _, h1, h2, h3, hpost _ _ _ _ _ _ ⟨Cond.after_iff.mpr rfl, Cond.after_iff.mpr (eq_i res_at (Term.int_eval (1)) rfl), trivial⟩ ⟨hq.1, hq.2.1, (hq.2.2.sift fun y hy => Or.inr (N y hy)).mono (by decide) (by decide)⟩⟩
theorem main_1_1 : Claimed_1_1 := comes_1 fun _ _ _ _ _ _ h hF => ⟨h.1, hF⟩
theorem main_1_2 : Claimed_1_2 := comes_1 fun _ _ _ _ _ _ h hF => ⟨h.2.1, hF⟩
end Jvm.Pilot.@@N@@
namespace Jvm.Pilot.@@N@@
open Jvm Jvm.ClassFile Sem Op Lib Jvm.Free Jvm.Stand Jvm.Pilot.@@N@@.Jvm.D
/-! MADE BY PROGRAM (witnessworld.py) out of the Statement's table words and the real class files: 9 classes; the members and pool entries that the words name. The judged class is class 1, her method 2. -/
namespace start1
open Jvm.ClassFile
def u (s : String) : CpInfo := .utf8 (stringToUtf16 s)
/-- a pool by its gaps: so many unusable entries, then the entry; so many at the end -/
def gap : Nat → List CpInfo → List CpInfo
  | 0, r => r
  | n + 1, r => .unusable :: gap n r
def poolList (es : List (Nat × CpInfo)) (last : Nat) : List CpInfo := es.foldr (fun e r => gap e.1 (e.2 :: r)) (gap last [])
def pool (es : List (Nat × CpInfo)) (last : Nat) : Array CpInfo := ⟨poolList es last⟩
def fileOf (pool : Array CpInfo) (this : Nat) (attrs : Array Attribute := #[]) (ms : Array MethodInfo := #[]) (fl : Nat := 33) (sup : Nat := 0) (ifs : Array Nat := #[]) (fds : Array FieldInfo := #[]) : ClassFile where
  minorVersion := 0
  majorVersion := 65
  constantPool := pool
  accessFlags := fl
  thisClass := this
  superClass := sup
  interfaces := ifs
  fields := fds
  methods := ms
  attributes := attrs
def plain (name : String) (sup : Option ClassId) : Class where
  name := name
  kind := .ordinary
  loader := none
  accessFlags := 33
  super := sup
  interfaces := #[]
  cf := none
  fields := #[]
  methods := #[]
  instanceTypes := #[]
  staticTypes := #[]
  resolved := #[]
  callSites := []
  init := .initialized
  statics := none
  mirror := none

def pool0 : Array CpInfo := pool [(5, u "<init>"), (0, u "()V"), (1, .class_ 10), (1, u "java/lang/Object")] 113

def k0m0 : Method := { name := "<init>", desc := "()V", sig := { parameters := [], returnType := none }, accessFlags := 1, code := none }
/-- java/lang/Object -/
def k0 : Class := { plain "java/lang/Object" none with
  accessFlags := 33
  interfaces := #[]
  cf := some (fileOf pool0 8 #[] #[{ accessFlags := 1, nameIndex := 5, descriptorIndex := 6, attributes := #[] }] 33 0 #[] #[])
  fields := #[]
  methods := #[k0m0]
  instanceTypes := #[]
  staticTypes := #[]
  resolved := Array.replicate 124 none
  statics := none }

def pool1 : Array CpInfo := pool [(2, .class_ 4), (1, u "java/lang/Object"), (0, u "<init>"), (0, u "()V"), (0, .integer 65546), (2, .integer 2147483648), (0, .methodref 12 13), (0, .class_ 14), (0, .nameAndType 15 16), (0, u "com/example/annotary/annotary/pipeline/LineBreaks"), (0, u "isLineBreak"), (0, u "(I)Z"), (0, .methodref 18 19), (0, .class_ 20), (0, .nameAndType 21 16), (0, u "com/example/annotary/annotary/pipeline/LineBreaksIsLineBreakPinLaw"), (0, u "reference"), (3, u "law"), (0, u "(II)Z")] 4

def k1m0 : Method := { name := "<init>", desc := "()V", sig := { parameters := [], returnType := none }, accessFlags := 2, code := none }
def k1c1 : Code := { maxStack := 2, maxLocals := 1, code := method_2_code, exceptionTable := #[], attributes := #[] }
def k1m1 : Method := { name := "reference", desc := "(I)Z", sig := { parameters := [.int], returnType := some .boolean }, accessFlags := 10, code := some k1c1 }
def k1c2 : Code := { maxStack := 4, maxLocals := 6, code := code, exceptionTable := #[], attributes := #[] }
def k1m2 : Method := { name := "law", desc := "(II)Z", sig := { parameters := [.int, .int], returnType := some .boolean }, accessFlags := 9, code := some k1c2 }
/-- com/example/annotary/annotary/pipeline/LineBreaksIsLineBreakPinLaw -/
def k1 : Class := { plain "com/example/annotary/annotary/pipeline/LineBreaksIsLineBreakPinLaw" (some 0) with
  accessFlags := 49
  interfaces := #[]
  cf := some (fileOf pool1 18 #[] #[{ accessFlags := 2, nameIndex := 5, descriptorIndex := 6, attributes := #[] }, { accessFlags := 10, nameIndex := 21, descriptorIndex := 16, attributes := #[] }, { accessFlags := 9, nameIndex := 25, descriptorIndex := 26, attributes := #[] }] 49 2 #[] #[])
  fields := #[]
  methods := #[k1m0, k1m1, k1m2]
  instanceTypes := #[]
  staticTypes := #[]
  resolved := Array.replicate 31 none
  statics := none }

def pool2 : Array CpInfo := pool [(2, .class_ 4), (1, u "java/lang/Object"), (0, u "<init>"), (0, u "()V"), (11, .class_ 20), (1, u "com/example/annotary/annotary/pipeline/LineBreaks"), (0, u "isLineBreak"), (0, u "(I)Z")] 7

def k2m0 : Method := { name := "<init>", desc := "()V", sig := { parameters := [], returnType := none }, accessFlags := 2, code := none }
def k2c1 : Code := { maxStack := 2, maxLocals := 1, code := prog_40_method_2_code, exceptionTable := #[], attributes := #[] }
def k2m1 : Method := { name := "isLineBreak", desc := "(I)Z", sig := { parameters := [.int], returnType := some .boolean }, accessFlags := 9, code := some k2c1 }
/-- com/example/annotary/annotary/pipeline/LineBreaks -/
def k2 : Class := { plain "com/example/annotary/annotary/pipeline/LineBreaks" (some 0) with
  accessFlags := 49
  interfaces := #[]
  cf := some (fileOf pool2 18 #[] #[{ accessFlags := 2, nameIndex := 5, descriptorIndex := 6, attributes := #[] }, { accessFlags := 9, nameIndex := 21, descriptorIndex := 22, attributes := #[] }] 49 2 #[] #[])
  fields := #[]
  methods := #[k2m0, k2m1]
  instanceTypes := #[]
  staticTypes := #[]
  resolved := Array.replicate 30 none
  statics := none }

def pool3 : Array CpInfo := pool [(1, u "java/lang/Cloneable"), (0, .class_ 1), (0, u "java/lang/Object"), (0, .class_ 3)] 3

/-- java/lang/Cloneable -/
def k3 : Class := { plain "java/lang/Cloneable" (some 0) with
  accessFlags := 1537
  interfaces := #[]
  cf := some (fileOf pool3 2 #[] #[] 1537 4 #[] #[])
  fields := #[]
  methods := #[]
  instanceTypes := #[]
  staticTypes := #[]
  resolved := Array.replicate 8 none
  statics := none }

def pool4 : Array CpInfo := pool [(1, u "java/io/Serializable"), (0, .class_ 1), (0, u "java/lang/Object"), (0, .class_ 3)] 3

/-- java/io/Serializable -/
def k4 : Class := { plain "java/io/Serializable" (some 0) with
  accessFlags := 1537
  interfaces := #[]
  cf := some (fileOf pool4 2 #[] #[] 1537 4 #[] #[])
  fields := #[]
  methods := #[]
  instanceTypes := #[]
  staticTypes := #[]
  resolved := Array.replicate 8 none
  statics := none }

/-- the primitive byte -/
def k5 : Class := { plain "byte" none with kind := .primitive 'B', accessFlags := 0x411 }
/-- [B -/
def k6 : Class := { plain "[B" (some 0) with kind := .array 5 .byte, interfaces := #[3, 4], accessFlags := 1041 }

/-- the primitive int -/
def k7 : Class := { plain "int" none with kind := .primitive 'I', accessFlags := 0x411 }
/-- [I -/
def k8 : Class := { plain "[I" (some 0) with kind := .array 7 .int, interfaces := #[3, 4], accessFlags := 1041 }

def heap : Heap := #[]
def classes : Array Class := #[k0, k1, k2, k3, k4, k5, k6, k7, k8]
def interned : List (Array UInt16 × Addr) := []
def slotsUsed : Nat := 0
def theMethod : MethodId := ⟨1, 2⟩
def args0 : Array Value := #[.int 65, .int 3]
def aboutOver (below : List Frame) : State where
  vm := { classes := classes, interned := interned.toArray }
  heap := heap
  slotsUsed := slotsUsed
  threads := #[{ frames := .invoking theMethod args0 :: below }]
def below0 : List Frame := [.native { method := ⟨0, 0⟩, args := #[] }]
def about1 : State := aboutOver below0
def p0 : Program := .bare "" "" ""
def e0 : Env := launch0.env 0 0 0
theorem w_frames : about1.frames = Frame.invoking theMethod args0 :: below0 := rfl
set_option maxRecDepth 65536 in
theorem w_args : argsFit about1.vm theMethod args0 = true := by decide +kernel
set_option maxRecDepth 65536 in
theorem w_heap : heapFits about1 = true := by decide +kernel
set_option maxRecDepth 65536 in
theorem w_runnable : about1.curStatus? = some .runnable := by decide +kernel
set_option maxRecDepth 65536 in
theorem w_alone : about1.alone = true := by decide +kernel
set_option maxRecDepth 65536 in
theorem w_named : about1.methodNamed? x = some theMethod := by decide +kernel
set_option maxRecDepth 65536 in
theorem w_hears : about1.hears theMethod below0 = true := by decide +kernel
set_option maxRecDepth 65536 in
theorem w_ripe : about1.ripe theMethod args0 below0 = true := by decide +kernel
theorem w_running : about1.status = .running := rfl
set_option maxRecDepth 65536 in
theorem w_room : about1.hasRoom e0.platform room_1 = true :=
  launch0.hasRoom_least _ room_1 (by decide +kernel) (by decide +kernel) (by decide +kernel) (by decide +kernel) (by decide +kernel) (by decide +kernel)
theorem allAtoms_all (ts : List Jvm.Cond) (a : Array Jvm.Value) (st : Jvm.State) : (allAtoms ts).before a st = ts.all (fun c => c.before a st) := by
  induction ts with
  | nil => rfl
  | cons c t ih =>
    show (Jvm.Cond.and c (allAtoms t)).before a st = _
    rw [Jvm.Cond.before_and, ih, List.all_cons]
def words1 : List Jvm.Cond := Jvm.Cond.code x code maxLocals ret :: tables_1
/-- a 'code' word, met by the world's own term for the bytes: nothing is compared byte by byte -/
theorem code_word {y : MethodName} {bytes : ByteArray} {mx : Nat} {rt : Option FieldType} {a : Array Value} {s : State} {m : MethodId} {meth : Method} {c : Code} (h1 : s.methodNamed? y = some m) (h2 : s.vm.method? m = some meth) (h3 : meth.code = some c) (h4 : c.code = bytes)
    (h5 : (c.maxLocals == mx && c.exceptionTable.isEmpty && decide (c.maxStack ≤ mostOperands) && decide (meth.sig.returnType = rt) && !meth.locks && decide (parseMethodDescriptor y.desc = some meth.sig)) = true) : (Jvm.Cond.code y bytes mx rt).before a s = true := by
  simp only [Bool.and_eq_true, beq_iff_eq, Bool.not_eq_true', decide_eq_true_eq] at h5
  obtain ⟨⟨⟨⟨⟨g1, g2⟩, g3⟩, g4⟩, g5⟩, g6⟩ := h5
  simp [Cond.before, Cond.holds, Cond.value, h1, h2, h3, h4, g1, g2, g3, g4, g5, g6]
def isCode : Jvm.Cond → Bool
  | .code _ _ _ _ => true
  | _ => false
theorem all_split {L : List Jvm.Cond} {P : Jvm.Cond → Bool} (h1 : L.all (fun c => isCode c || P c) = true) (h2 : ∀ c ∈ L.filter isCode, P c = true) : L.all P = true := by
  refine List.all_eq_true.mpr fun c hc => ?_
  have h := List.all_eq_true.mp h1 c hc
  rcases Bool.eq_false_or_eq_true (isCode c) with hi | hi
  · exact h2 c (List.mem_filter.mpr ⟨hc, hi⟩)
  · simpa [hi] using h
set_option maxRecDepth 65536 in
theorem w_c0 : (Jvm.Cond.code x code maxLocals ret).before args0 about1 = true := code_word (m := ⟨1, 2⟩) (meth := k1m2) (c := k1c2) (by decide +kernel) rfl rfl rfl (by decide +kernel)
set_option maxRecDepth 65536 in
theorem w_c1 : (Jvm.Cond.code ({ cls := "com/example/annotary/annotary/pipeline/LineBreaks", name := "isLineBreak", desc := "(I)Z" } : Jvm.MethodName) prog_40_method_2_code (1 : Nat) (Option.some Jvm.ClassFile.FieldType.boolean)).before args0 about1 = true := code_word (m := ⟨2, 1⟩) (meth := k2m1) (c := k2c1) (by decide +kernel) rfl rfl rfl (by decide +kernel)
set_option maxRecDepth 65536 in
theorem w_c2 : (Jvm.Cond.code ({ cls := "com/example/annotary/annotary/pipeline/LineBreaksIsLineBreakPinLaw", name := "reference", desc := "(I)Z" } : Jvm.MethodName) method_2_code (1 : Nat) (Option.some Jvm.ClassFile.FieldType.boolean)).before args0 about1 = true := code_word (m := ⟨1, 1⟩) (meth := k1m1) (c := k1c1) (by decide +kernel) rfl rfl rfl (by decide +kernel)
def codes1 : List Jvm.Cond := [Jvm.Cond.code x code maxLocals ret, Jvm.Cond.code ({ cls := "com/example/annotary/annotary/pipeline/LineBreaks", name := "isLineBreak", desc := "(I)Z" } : Jvm.MethodName) prog_40_method_2_code (1 : Nat) (Option.some Jvm.ClassFile.FieldType.boolean), Jvm.Cond.code ({ cls := "com/example/annotary/annotary/pipeline/LineBreaksIsLineBreakPinLaw", name := "reference", desc := "(I)Z" } : Jvm.MethodName) method_2_code (1 : Nat) (Option.some Jvm.ClassFile.FieldType.boolean)]
set_option maxRecDepth 65536 in
theorem codes_eq : words1.filter isCode = codes1 := rfl
theorem w_codes : ∀ c ∈ words1.filter isCode, c.before args0 about1 = true := by
  rw [codes_eq]
  intro c hc
  simp only [codes1, List.mem_cons, List.not_mem_nil, or_false] at hc
  rcases hc with rfl | rfl | rfl
  · exact w_c0
  · exact w_c1
  · exact w_c2
set_option maxRecDepth 65536 in
theorem w_t1 : words1.all (fun c => isCode c || c.before args0 about1) = true := by decide +kernel
theorem w_tables : (allAtoms (Jvm.Cond.code x code maxLocals ret :: tables_1)).before args0 about1 = true := by
  rw [allAtoms_all]
  show words1.all (fun c => c.before args0 about1) = true
  refine all_split ?_ w_codes
  rw [w_t1]
set_option maxRecDepth 65536 in
theorem w_case : (Jvm.Cond.and given_1 narrow_1).before args0 about1 = true := by decide +kernel
theorem w_applies : (headSpec (Jvm.Cond.code x code maxLocals ret :: tables_1) room_1).applies x e0.platform about1 = true :=
  (Spec.applies_iff w_frames).mpr ⟨w_running, w_runnable, w_alone, w_named, w_hears, w_ripe, w_room, w_tables⟩
theorem atStart : AtStart classFile x code maxLocals ret World_1 tables_1 room_1 Calls_1 rest_1 Pre_1 launch0 p0 e0 about1 theMethod args0 below0 :=
  ⟨lists_1, trivial, launch0.admits_env _ _ _, launch0.least_env, fairChoices_fair.cas, fairChoices_fair.clock, w_frames, w_args, w_heap, w_applies, trivial, trivial, w_case⟩
end start1
theorem witness_1 : WitnessClaimed_1 := ⟨start1.p0, start1.e0, start1.about1, start1.theMethod, start1.args0, start1.below0, start1.atStart⟩
end Jvm.Pilot.@@N@@
