import JvmDerived
import JvmDerived.Pilot.@@N@@Statement
import JvmDerived.Pilot.@@N@@Code
set_option linter.unusedVariables false
set_option linter.unusedSimpArgs false
namespace Jvm.RoadKit
open Sem ClassFile Op Lib Jvm.Stand Jvm.Free Jvm.LawKit
section Own
variable {p : Program} {l : Launch} {e : Env} {R : Room} {s : State} {m : MethodId} {args : Array Value} {below : List Frame} {meth : Method} {c : Code} {T : State} {locs : List Loc} {cells slots : Nat} {Z : State} {a0 : Array Value} {h : Heap}
/-- from T, with g on top, this invocation comes to its return and Q holds of what it leaves -/
def own_Ends (p : Program) (e : Env) (below : List Frame) (s : State) (Q : Option Value → Heap → List Loc → Prop) (k n : Nat) (T : State) (g : JFrame) : Prop :=
  ∃ s₂ o, Steps p.tables e below (T.setTop g) s₂ ∧ s₂.status = .running ∧ Ended s₂ below o ∧ ∃ v L, o = .returned v ∧ Q v s₂.heap L ∧ FrameEnd s o s₂ L k n
theorem own_step {Q : Option Value → Heap → List Loc → Prop} {k n : Nat} {T' : State} {g g' : JFrame} (h : ∀ t, Steps p.tables e below (T'.setTop g') t → Steps p.tables e below (T.setTop g) t) (H : own_Ends p e below s Q k n T' g') : own_Ends p e below s Q k n T g := by
  obtain ⟨s₂, o, h1, r⟩ := H
  exact ⟨s₂, o, h _ h1, r⟩
theorem own_ret (X : Stand p l e R s m args below meth c T locs cells slots) {v : Option Value} (hv : meth.sig.returnType = none → v = none) (hlk : meth.locks = false) {g : JFrame} {Q : Option Value → Heap → List Loc → Prop} {k n : Nat}
    (st : ∀ fs, (∀ (f : JFrame) (acts : List Action), f.method = m → f.locked = none → f.entered = [] → (doReturn e (T.setTop f) acts v).1 = T.setFrames fs) → Steps p.tables e below (T.setTop g) (T.setFrames fs))
    (hQ : Q v T.heap locs) (hk : cells ≤ k) (hn : slots ≤ n) : own_Ends p e below s Q k n T g := by
  obtain ⟨fs, hr, hrun, hended, hW, hsame⟩ := X.leave (v := v) hv hlk
  exact ⟨_, _, st fs hr, hrun, hended, v, locs, rfl, hQ, ⟨_, rfl⟩, hW, hsame.mono hk hn⟩
theorem own_retI (X : Stand p l e R s m args below meth c T locs cells slots) (hx : p.tables.exec = Jvm.exec) (hret : meth.sig.returnType = some .int) (hlk : meth.locks = false) {pc : Nat} {Ls : Array Slot} {z : Int32} {rest : List Value} (hd : decode c.code pc = .ok (.ireturn, 1)) {Q : Option Value → Heap → List Loc → Prop} {k n : Nat}
    (hQ : Q (some (.int z)) T.heap locs) (hk : cells ≤ k) (hn : slots ≤ n) : own_Ends p e below s Q k n T (mkF m pc Ls (.int z :: rest)) :=
  own_ret X (fun q => by rw [hret] at q; cases q) hlk (fun fs hr => retOut X hx hret rfl (Or.inl ⟨rfl, Or.inl rfl, z, rfl⟩) hd hr) hQ hk hn
theorem own_retN (X : Stand p l e R s m args below meth c T locs cells slots) (hx : p.tables.exec = Jvm.exec) {t : FieldType} (hret : meth.sig.returnType = some t) (ht : t = .boolean ∨ t = .byte ∨ t = .char ∨ t = .short) (hlk : meth.locks = false) {pc : Nat} {Ls : Array Slot} {z v : Int32} {rest : List Value} (hd : decode c.code pc = .ok (.ireturn, 1)) {Q : Option Value → Heap → List Loc → Prop} {k n : Nat}
    (hv : nar t z = v) (hQ : Q (some (.int v)) T.heap locs) (hk : cells ≤ k) (hn : slots ≤ n) : own_Ends p e below s Q k n T (mkF m pc Ls (.int z :: rest)) :=
  own_ret X (v := some (.int v)) (fun q => by rw [hret] at q; cases q) hlk (fun fs hr => retN X hx hret ht hd (by rw [hv]; exact hr)) hQ hk hn
theorem own_retL (X : Stand p l e R s m args below meth c T locs cells slots) (hx : p.tables.exec = Jvm.exec) (hret : meth.sig.returnType = some .long) (hlk : meth.locks = false) {pc : Nat} {Ls : Array Slot} {z : Int64} {rest : List Value} (hd : decode c.code pc = .ok (.lreturn, 1)) {Q : Option Value → Heap → List Loc → Prop} {k n : Nat}
    (hQ : Q (some (.long z)) T.heap locs) (hk : cells ≤ k) (hn : slots ≤ n) : own_Ends p e below s Q k n T (mkF m pc Ls (.long z :: rest)) :=
  own_ret X (fun q => by rw [hret] at q; cases q) hlk (fun fs hr => retOut X hx hret rfl (Or.inr (Or.inl ⟨rfl, rfl, z, rfl⟩)) hd hr) hQ hk hn
theorem own_retA (X : Stand p l e R s m args below meth c T locs cells slots) (hx : p.tables.exec = Jvm.exec) {t : FieldType} (hret : meth.sig.returnType = some t) (ht : t.isReference = true) (hlk : meth.locks = false) {pc : Nat} {Ls : Array Slot} {z : Value} {rest : List Value} (hz : z.isRef = true) (hn0 : narrow t z = z) (hd : decode c.code pc = .ok (.areturn, 1)) {Q : Option Value → Heap → List Loc → Prop} {k n : Nat}
    (hQ : Q (some z) T.heap locs) (hk : cells ≤ k) (hn : slots ≤ n) : own_Ends p e below s Q k n T (mkF m pc Ls (z :: rest)) :=
  own_ret X (fun q => by rw [hret] at q; cases q) hlk (fun fs hr => retOut X hx hret hn0 (Or.inr (Or.inr (Or.inr (Or.inr ⟨rfl, ht, hz⟩)))) hd hr) hQ hk hn
theorem own_retV (X : Stand p l e R s m args below meth c T locs cells slots) (hx : p.tables.exec = Jvm.exec) (hret : meth.sig.returnType = none) (hlk : meth.locks = false) {pc : Nat} {Ls : Array Slot} (hd : decode c.code pc = .ok (.return_, 1)) {Q : Option Value → Heap → List Loc → Prop} {k n : Nat}
    (hQ : Q none T.heap locs) (hk : cells ≤ k) (hn : slots ≤ n) : own_Ends p e below s Q k n T (mkF m pc Ls []) :=
  own_ret X (fun _ => rfl) hlk (fun fs hr => X.returnOut hx hret hd hr) hQ hk hn
/-- a contract: called with as' over the heap h0, the method comes back and Q holds -/
def own_Met (l : Launch) (y : MethodName) (bytes : ByteArray) (maxL : Nat) (ret : Option FieldType) (ws : List Jvm.Cond) (rm : Room) (as' : Array Value) (Z : State) (h0 : Heap) (Q : Option Value → Heap → List Loc → Prop) : Prop :=
  MetFree l y (head1 (Jvm.Cond.code y bytes maxL ret :: ws) rm) (fun a U => a = as' ∧ Z.Warmed39 U.vm ∧ U.heap = h0) (fun _ _ _ _ _ => True) (fun _ U o U' => ∃ v L, o = .returned v ∧ Q v U'.heap L ∧ FrameEnd U o U' L rm.cells rm.slots)
theorem own_body {y : MethodName} {bytes : ByteArray} {maxL : Nat} {ret : Option FieldType} {ws : List Jvm.Cond} {rm : Room} {as' : Array Value} {h0 : Heap} {Q : Option Value → Heap → List Loc → Prop} (hy : plainFor y = true) {g0 : MethodId → JFrame} (ef : ∀ m, entryFrame m as' maxL = g0 m)
    (body : ∀ (p : Program) (e : Env) (s : State) (m : MethodId) (below : List Frame) (meth : Method) (c : Code) (T : State), Stand p l e rm s m as' below meth c T [] 0 0 → p.tables.exec = Jvm.exec → c.code = bytes → c.maxLocals = maxL → meth.sig.returnType = ret → meth.locks = false → meth.name = y.name → s.vm.findClass y.cls = some m.cls → Z.Warmed39 s.vm → T.heap = h0 → own_Ends p e below s Q rm.cells rm.slots T (g0 m)) :
    own_Met l y bytes maxL ret ws rm as' Z h0 Q := by
  refine MetFree.of_bodySF hy hisR ?_
  intro p e s m args below meth c s₁ Bd hml hP hK
  obtain ⟨ha, hZ, hh⟩ := hP
  subst ha
  have q := body p e s m below meth c s₁ (Stand.of_body Bd) Bd.exec Bd.bytes hml Bd.returns Bd.notSynchronized (name_of_methodNamed Bd.named Bd.method).1 (findClass_of_methodNamed Bd.named) hZ (by rw [← hh, Bd.state]; rfl)
  rw [← ef m] at q
  exact q
theorem own_callS (X : Stand p l e R s m args below meth c T locs cells slots) (hx : p.tables.exec = Jvm.exec) (hZ : Z.Warmed39 s.vm) {own : String} {index : Nat} {y : MethodName} {bytes : ByteArray} {maxL : Nat} {ret : Option FieldType}
    (hown : s.vm.findClass own = some m.cls) (wl : (Jvm.Cond.methodLink own index y).before a0 Z = true) (wst : (Jvm.Cond.static y).before a0 Z = true) (wi : (Jvm.Cond.initialized y.cls).before a0 Z = true) (wc : (Jvm.Cond.code y bytes maxL ret).before a0 Z = true)
    (hy : y.cls ≠ "java/lang/invoke/MethodHandle" ∧ y.cls ≠ "java/lang/invoke/VarHandle") {rm : Room} {as' : Array Value} {Qc : Option Value → Heap → List Loc → Prop} (hM : own_Met l y bytes maxL ret [] rm as' Z h Qc) (eT : T.heap = h) (W : Nat)
    (hf : rm.frames + 1 ≤ R.frames) (hlo : W + (maxL + 11) + rm.locals ≤ R.locals) (hcl : cells + rm.cells ≤ R.cells) (hsl : slots + rm.slots ≤ R.slots)
    {g : JFrame} (hg : g.method = m) (hsize : g.locals.size = c.maxLocals) (argsL rest : List Value) {ps : List FieldType} {r : Option FieldType} (hpd : parseMethodDescriptor y.desc = some ⟨ps, r⟩) (hlen : argsL.length = ps.length) (has : argsL.toArray = as')
    (hstack : g.stack = argsL.reverse ++ rest) (hW : 2 * g.monitorRoom + (rest.map fun v => v.category).sum ≤ W) (hdg : decode c.code g.pc = .ok (.invokestatic index, 3)) {Q : Option Value → Heap → List Loc → Prop} {k n : Nat}
    (cont : ∀ v T' L, Stand p l e R s m args below meth c T' (locs ++ L) (cells + rm.cells) (slots + rm.slots) → Qc v T'.heap L → own_Ends p e below s Q k n T' { g with pc := g.pc + 3, stack := v.toList ++ rest }) : own_Ends p e below s Q k n T g := by
  obtain ⟨v, _, ⟨T2, L2, k2, n2⟩, -, X2, ⟨Lc, hQ, l2, y2, z2⟩, st⟩ := Jvm.LawKit.callS X hx (y := y) hown (mvT hZ wl) (mvT hZ wst) (mvT hZ wi) (mvT hZ wc) hy (backOf (W := W) hM hZ wc wi hf hlo) hg hsize (argsL := argsL) (rest := rest) (lenOf hpd hlen) hstack hW hdg (fun _ _ => ⟨has, eT, hcl, hsl⟩)
  dsimp only [Pt.U, Pt.locs, Pt.cells, Pt.slots] at X2 l2 y2 z2 st hQ
  subst l2 y2 z2
  exact own_step st (cont v T2 Lc X2 hQ)
theorem own_callV (X : Stand p l e R s m args below meth c T locs cells slots) (hx : p.tables.exec = Jvm.exec) (hZ : Z.Warmed39 s.vm) {own C : String} {index : Nat} {y z : MethodName} {bytes : ByteArray} {maxL : Nat} {ret : Option FieldType}
    (hown : s.vm.findClass own = some m.cls) (wl : (Jvm.Cond.methodLink own index y).before a0 Z = true) (wd : (Jvm.Cond.declares y).before a0 Z = true) (wf : (Jvm.Cond.selects y.cls y y).before a0 Z = true) (ws : (Jvm.Cond.selects C y z).before a0 Z = true) (wm : (Jvm.Cond.instanceMethod z).before a0 Z = true) (wi : (Jvm.Cond.initialized z.cls).before a0 Z = true) (wc : (Jvm.Cond.code z bytes maxL ret).before a0 Z = true)
    (hy : y.cls ≠ "java/lang/invoke/MethodHandle" ∧ y.cls ≠ "java/lang/invoke/VarHandle") {rm : Room} {as' : Array Value} {Qc : Option Value → Heap → List Loc → Prop} (hM : own_Met l z bytes maxL ret [] rm as' Z h Qc) (eT : T.heap = h) {b : Addr} (hE : Exa Z h b C) (W : Nat)
    (hf : rm.frames + 1 ≤ R.frames) (hlo : W + (maxL + 11) + rm.locals ≤ R.locals) (hcl : cells + rm.cells ≤ R.cells) (hsl : slots + rm.slots ≤ R.slots)
    {g : JFrame} (hg : g.method = m) (hsize : g.locals.size = c.maxLocals) (argsL rest : List Value) {ps : List FieldType} {r : Option FieldType} (hpd : parseMethodDescriptor y.desc = some ⟨ps, r⟩) (hlen : argsL.length = ps.length) (has : (Value.ref b :: argsL).toArray = as')
    (hstack : g.stack = argsL.reverse ++ .ref b :: rest) (hW : 2 * g.monitorRoom + (rest.map fun v => v.category).sum ≤ W) (hdg : decode c.code g.pc = .ok (.invokevirtual index, 3)) {Q : Option Value → Heap → List Loc → Prop} {k n : Nat}
    (cont : ∀ v T' L, Stand p l e R s m args below meth c T' (locs ++ L) (cells + rm.cells) (slots + rm.slots) → Qc v T'.heap L → own_Ends p e below s Q k n T' { g with pc := g.pc + 3, stack := v.toList ++ rest }) : own_Ends p e below s Q k n T g := by
  obtain ⟨cq, kq, q1, q2, q3⟩ := isOf hZ eT hE
  obtain ⟨v, _, ⟨T2, L2, k2, n2⟩, -, X2, ⟨Lc, hQ, l2, y2, z2⟩, st⟩ := X.virtualBack hx (y := y) (z := z) hown (mvT hZ wl) (mvT hZ wd) (notFace_of_selects (args := #[]) (mvT hZ wf)) (mvT hZ ws) (mvT hZ wm) hy (backOf (W := W) hM hZ wc wi hf hlo) q1 q3 hg hsize (Steps.refl _) (argsL := argsL) (rest := rest) (lenOf hpd hlen) hstack hW hdg (fun _ _ => ⟨has, eT, hcl, hsl⟩)
  dsimp only [Pt.U, Pt.locs, Pt.cells, Pt.slots] at X2 l2 y2 z2 st hQ
  subst l2 y2 z2
  exact own_step (fun _ k => st.trans k) (cont v T2 Lc X2 hQ)
theorem own_callC (X : Stand p l e R s m args below meth c T locs cells slots) (hx : p.tables.exec = Jvm.exec) (hZ : Z.Warmed39 s.vm) {own : String} {index : Nat} {y : MethodName} {bytes : ByteArray} {maxL : Nat} (hy1 : y.name = "<init>")
    (hown : s.vm.findClass own = some m.cls) (wl : (Jvm.Cond.methodLink own index y).before a0 Z = true) (wm : (Jvm.Cond.instanceMethod y).before a0 Z = true) (wi : (Jvm.Cond.initialized y.cls).before a0 Z = true) (wc : (Jvm.Cond.code y bytes maxL none).before a0 Z = true)
    (hy : y.cls ≠ "java/lang/invoke/MethodHandle" ∧ y.cls ≠ "java/lang/invoke/VarHandle") {rm : Room} {as' : Array Value} {Qc : Option Value → Heap → List Loc → Prop} (hM : own_Met l y bytes maxL none [] rm as' Z h Qc) (eT : T.heap = h) {b : Addr} (W : Nat)
    (hf : rm.frames + 1 ≤ R.frames) (hlo : W + (maxL + 11) + rm.locals ≤ R.locals) (hcl : cells + rm.cells ≤ R.cells) (hsl : slots + rm.slots ≤ R.slots)
    {g : JFrame} (hg : g.method = m) (hsize : g.locals.size = c.maxLocals) (argsL rest : List Value) {ps : List FieldType} {r : Option FieldType} (hpd : parseMethodDescriptor y.desc = some ⟨ps, r⟩) (hlen : argsL.length = ps.length) (has : (Value.ref b :: argsL).toArray = as')
    (hstack : g.stack = argsL.reverse ++ .ref b :: rest) (hW : 2 * g.monitorRoom + (rest.map fun v => v.category).sum ≤ W) (hdg : decode c.code g.pc = .ok (.invokespecial index, 3)) {Q : Option Value → Heap → List Loc → Prop} {k n : Nat}
    (cont : ∀ v T' L, Stand p l e R s m args below meth c T' (locs ++ L) (cells + rm.cells) (slots + rm.slots) → Qc v T'.heap L → own_Ends p e below s Q k n T' { g with pc := g.pc + 3, stack := v.toList ++ rest }) : own_Ends p e below s Q k n T g := by
  obtain ⟨v, _, ⟨T2, L2, k2, n2⟩, -, X2, ⟨Lc, hQ, l2, y2, z2⟩, st⟩ := X.specialBack hx (y := y) hy1 hown (mvT hZ wl) (mvT hZ wm) (mvT hZ wc) hy (backOf (W := W) hM hZ wc wi hf hlo) hg hsize (Steps.refl _) (a := b) (argsL := argsL) (rest := rest) (lenOf hpd hlen) hstack hW hdg (fun _ _ => ⟨has, eT, hcl, hsl⟩)
  dsimp only [Pt.U, Pt.locs, Pt.cells, Pt.slots] at X2 l2 y2 z2 st hQ
  subst l2 y2 z2
  exact own_step (fun _ k => st.trans k) (cont v T2 Lc X2 hQ)
/-! arrays by their lists -/
variable {a b : Addr} {kA : ClassId} {ty : FieldType} {z : Int32} {vs : List Value} {dv : Value}
theorem own_newA (X : Stand p l e R s m args below meth c T locs cells slots) (hx : p.tables.exec = Jvm.exec) (hZ : Z.Warmed39 s.vm) {aty : ArrayType} (w : (Jvm.Cond.arrayClass (newarray.typeOf aty)).before a0 Z = true) (eT : T.heap = h) {g : JFrame} (hg : g.method = m) (hd : decode c.code g.pc = .ok (.newarray aty, 2)) {n : Int32} {rest : List Value} (hs : g.stack = .int n :: rest)
    (hn : ¬ n < 0) {cap : Nat} (hcap : n.toNatClampNeg ≤ cap) (hb : cap * 8 ≤ 536870912) (hc : cells + 1 ≤ R.cells) (hl : slots + cap ≤ R.slots) :
    ∃ T' h' cA b, b = h.size ∧ Stand p l e R s m args below meth c T' locs (cells + 1) (slots + cap) ∧ T'.heap = h' ∧ Ext h h' ∧ Arv Z h' b cA (newarray.typeOf aty) n (List.replicate cap (defaultValue (newarray.typeOf aty))) (defaultValue (newarray.typeOf aty)) ∧
      ∀ target, Steps p.tables e below (T'.setTop { g with pc := g.pc + 2, stack := .ref b :: rest }) target → Steps p.tables e below (T.setTop g) target := by
  obtain ⟨T', h', cA, X', e', E, A, st⟩ := newP X hx hZ w eT hg hd hs hn hcap hb hc hl
  exact ⟨T', h', cA, _, rfl, X', e', E, (Arv.new A hn).pad (pad_rep [] _ cap), st⟩
theorem own_stB (X : Stand p l e R s m args below meth c T locs cells slots) (hx : p.tables.exec = Jvm.exec) (hZ : Z.Warmed39 s.vm) (eT : T.heap = h) (V : Arv Z h a kA .byte z vs dv) {j x : Int32} (hj : ¬ j < 0 ∧ j < z) (i : Nat) (hi : j.toNatClampNeg = i) (hl : i < vs.length) {g : JFrame} (hg : g.method = m) {rest : List Value} (hs : g.stack = .int x :: .int j :: .ref a :: rest) (hd : decode c.code g.pc = .ok (.bastore, 1)) :
    ∃ T' h' L, Stand p l e R s m args below meth c T' (locs ++ [⟨a, L⟩]) cells slots ∧ T'.heap = h' ∧ Wr h h' a L (.int x.toInt8.toInt32) ∧ Arv Z h' a kA .byte z (vs.set i (.int x.toInt8.toInt32)) dv ∧ ∀ target, Steps p.tables e below (T'.setTop { g with pc := g.pc + 1, stack := rest }) target → Steps p.tables e below (T.setTop g) target := by
  obtain ⟨cl, Ar, q, S, N, H, G⟩ := V
  obtain ⟨T', h', X', e', W, st⟩ := stB X hx hZ eT Ar (inb_of S hj) hg hs hd
  exact ⟨T', h', _, X', e', W, Arv.set Ar q S N H G (fits_nar_byte _) W i hi hl, st⟩
theorem own_stZ (X : Stand p l e R s m args below meth c T locs cells slots) (hx : p.tables.exec = Jvm.exec) (hZ : Z.Warmed39 s.vm) (eT : T.heap = h) (V : Arv Z h a kA .boolean z vs dv) {j x : Int32} (hj : ¬ j < 0 ∧ j < z) (i : Nat) (hi : j.toNatClampNeg = i) (hl : i < vs.length) {g : JFrame} (hg : g.method = m) {rest : List Value} (hs : g.stack = .int x :: .int j :: .ref a :: rest) (hd : decode c.code g.pc = .ok (.bastore, 1)) :
    ∃ T' h' L, Stand p l e R s m args below meth c T' (locs ++ [⟨a, L⟩]) cells slots ∧ T'.heap = h' ∧ Wr h h' a L (.int (nar .boolean x)) ∧ Arv Z h' a kA .boolean z (vs.set i (.int (nar .boolean x))) dv ∧ ∀ target, Steps p.tables e below (T'.setTop { g with pc := g.pc + 1, stack := rest }) target → Steps p.tables e below (T.setTop g) target := by
  obtain ⟨cl, Ar, q, S, N, H, G⟩ := V
  obtain ⟨T', h', X', e', W, st⟩ := stZ X hx hZ eT Ar (inb_of S hj) hg hs hd
  exact ⟨T', h', _, X', e', W, Arv.set Ar q S N H G (fits_nar_bool _) W i hi hl, st⟩
theorem own_stC (X : Stand p l e R s m args below meth c T locs cells slots) (hx : p.tables.exec = Jvm.exec) (hZ : Z.Warmed39 s.vm) (eT : T.heap = h) (V : Arv Z h a kA .char z vs dv) {j x : Int32} (hj : ¬ j < 0 ∧ j < z) (i : Nat) (hi : j.toNatClampNeg = i) (hl : i < vs.length) {g : JFrame} (hg : g.method = m) {rest : List Value} (hs : g.stack = .int x :: .int j :: .ref a :: rest) (hd : decode c.code g.pc = .ok (.castore, 1)) :
    ∃ T' h' L, Stand p l e R s m args below meth c T' (locs ++ [⟨a, L⟩]) cells slots ∧ T'.heap = h' ∧ Wr h h' a L (.int (nar .char x)) ∧ Arv Z h' a kA .char z (vs.set i (.int (nar .char x))) dv ∧ ∀ target, Steps p.tables e below (T'.setTop { g with pc := g.pc + 1, stack := rest }) target → Steps p.tables e below (T.setTop g) target := by
  obtain ⟨cl, Ar, q, S, N, H, G⟩ := V
  obtain ⟨T', h', X', e', W, st⟩ := stC X hx hZ eT Ar (inb_of S hj) hg hs hd
  exact ⟨T', h', _, X', e', W, Arv.set Ar q S N H G (fits_nar_char _) W i hi hl, st⟩
theorem own_stI (X : Stand p l e R s m args below meth c T locs cells slots) (hx : p.tables.exec = Jvm.exec) (hZ : Z.Warmed39 s.vm) (eT : T.heap = h) (V : Arv Z h a kA .int z vs dv) {j x : Int32} (hj : ¬ j < 0 ∧ j < z) (i : Nat) (hi : j.toNatClampNeg = i) (hl : i < vs.length) {g : JFrame} (hg : g.method = m) {rest : List Value} (hs : g.stack = .int x :: .int j :: .ref a :: rest) (hd : decode c.code g.pc = .ok (.iastore, 1)) :
    ∃ T' h' L, Stand p l e R s m args below meth c T' (locs ++ [⟨a, L⟩]) cells slots ∧ T'.heap = h' ∧ Wr h h' a L (.int x) ∧ Arv Z h' a kA .int z (vs.set i (.int x)) dv ∧ ∀ target, Steps p.tables e below (T'.setTop { g with pc := g.pc + 1, stack := rest }) target → Steps p.tables e below (T.setTop g) target := by
  obtain ⟨cl, Ar, q, S, N, H, G⟩ := V
  obtain ⟨T', h', X', e', W, st⟩ := stI X hx hZ eT Ar (inb_of S hj) hg hs hd
  exact ⟨T', h', _, X', e', W, Arv.set Ar q S N H G rfl W i hi hl, st⟩
theorem own_stJ (X : Stand p l e R s m args below meth c T locs cells slots) (hx : p.tables.exec = Jvm.exec) (hZ : Z.Warmed39 s.vm) (eT : T.heap = h) (V : Arv Z h a kA .long z vs dv) {j : Int32} {x : Int64} (hj : ¬ j < 0 ∧ j < z) (i : Nat) (hi : j.toNatClampNeg = i) (hl : i < vs.length) {g : JFrame} (hg : g.method = m) {rest : List Value} (hs : g.stack = .long x :: .int j :: .ref a :: rest) (hd : decode c.code g.pc = .ok (.lastore, 1)) :
    ∃ T' h' L, Stand p l e R s m args below meth c T' (locs ++ [⟨a, L⟩]) cells slots ∧ T'.heap = h' ∧ Wr h h' a L (.long x) ∧ Arv Z h' a kA .long z (vs.set i (.long x)) dv ∧ ∀ target, Steps p.tables e below (T'.setTop { g with pc := g.pc + 1, stack := rest }) target → Steps p.tables e below (T.setTop g) target := by
  obtain ⟨cl, Ar, q, S, N, H, G⟩ := V
  obtain ⟨T', h', X', e', W, st⟩ := stJ X hx hZ eT Ar (inb_of S hj) hg hs hd
  exact ⟨T', h', _, X', e', W, Arv.set Ar q S N H G rfl W i hi hl, st⟩
theorem own_ldB (X : Stand p l e R s m args below meth c T locs cells slots) (hx : p.tables.exec = Jvm.exec) (hZ : Z.Warmed39 s.vm) (eT : T.heap = h) (V : Arv Z h a kA .byte z vs dv) {j : Int32} {v : Value} (hj : ¬ j < 0 ∧ j < z) (hv : vs.getD j.toNatClampNeg dv = v) {g : JFrame} (hg : g.method = m) {rest : List Value} (hs : g.stack = .int j :: .ref a :: rest) (hd : decode c.code g.pc = .ok (.baload, 1)) :
    ∀ t, Steps p.tables e below (T.setTop { g with pc := g.pc + 1, stack := v :: rest }) t → Steps p.tables e below (T.setTop g) t := by
  obtain ⟨cl, Ar, q, S, N, H, G⟩ := V
  exact fun t k => X.baloadBytes hx (by rw [eT]; exact Ar.1) (State.isArrayOf_alike hZ.alike Ar.2.1) Ar.2.2 (inb_of S hj) (Has.at H (inb_of S hj) hv) hg hs hd _ k
theorem own_ldZ (X : Stand p l e R s m args below meth c T locs cells slots) (hx : p.tables.exec = Jvm.exec) (hZ : Z.Warmed39 s.vm) (eT : T.heap = h) (V : Arv Z h a kA .boolean z vs dv) {j : Int32} {v : Value} (hj : ¬ j < 0 ∧ j < z) (hv : vs.getD j.toNatClampNeg dv = v) {g : JFrame} (hg : g.method = m) {rest : List Value} (hs : g.stack = .int j :: .ref a :: rest) (hd : decode c.code g.pc = .ok (.baload, 1)) :
    ∀ t, Steps p.tables e below (T.setTop { g with pc := g.pc + 1, stack := v :: rest }) t → Steps p.tables e below (T.setTop g) t := by
  obtain ⟨cl, Ar, q, S, N, H, G⟩ := V
  exact fun t k => X.baloadBooleans hx (by rw [eT]; exact Ar.1) (State.isArrayOf_alike hZ.alike Ar.2.1) Ar.2.2 (inb_of S hj) (Has.at H (inb_of S hj) hv) hg hs hd _ k
theorem own_ldC (X : Stand p l e R s m args below meth c T locs cells slots) (hx : p.tables.exec = Jvm.exec) (hZ : Z.Warmed39 s.vm) (eT : T.heap = h) (V : Arv Z h a kA .char z vs dv) {j : Int32} {v : Value} (hj : ¬ j < 0 ∧ j < z) (hv : vs.getD j.toNatClampNeg dv = v) {g : JFrame} (hg : g.method = m) {rest : List Value} (hs : g.stack = .int j :: .ref a :: rest) (hd : decode c.code g.pc = .ok (.caload, 1)) :
    ∀ t, Steps p.tables e below (T.setTop { g with pc := g.pc + 1, stack := v :: rest }) t → Steps p.tables e below (T.setTop g) t := by
  obtain ⟨cl, Ar, q, S, N, H, G⟩ := V
  exact fun t k => X.caload hx (by rw [eT]; exact Ar.1) (State.isArrayOf_alike hZ.alike Ar.2.1) Ar.2.2 (inb_of S hj) (Has.at H (inb_of S hj) hv) hg hs hd _ k
theorem own_ldI (X : Stand p l e R s m args below meth c T locs cells slots) (hx : p.tables.exec = Jvm.exec) (hZ : Z.Warmed39 s.vm) (eT : T.heap = h) (V : Arv Z h a kA .int z vs dv) {j : Int32} {v : Value} (hj : ¬ j < 0 ∧ j < z) (hv : vs.getD j.toNatClampNeg dv = v) {g : JFrame} (hg : g.method = m) {rest : List Value} (hs : g.stack = .int j :: .ref a :: rest) (hd : decode c.code g.pc = .ok (.iaload, 1)) :
    ∀ t, Steps p.tables e below (T.setTop { g with pc := g.pc + 1, stack := v :: rest }) t → Steps p.tables e below (T.setTop g) t := by
  obtain ⟨cl, Ar, q, S, N, H, G⟩ := V
  exact fun t k => X.iaload hx (by rw [eT]; exact Ar.1) (State.isArrayOf_alike hZ.alike Ar.2.1) Ar.2.2 (inb_of S hj) (Has.at H (inb_of S hj) hv) hg hs hd _ k
theorem own_ldJ (X : Stand p l e R s m args below meth c T locs cells slots) (hx : p.tables.exec = Jvm.exec) (hZ : Z.Warmed39 s.vm) (eT : T.heap = h) (V : Arv Z h a kA .long z vs dv) {j : Int32} {v : Value} (hj : ¬ j < 0 ∧ j < z) (hv : vs.getD j.toNatClampNeg dv = v) {g : JFrame} (hg : g.method = m) {rest : List Value} (hs : g.stack = .int j :: .ref a :: rest) (hd : decode c.code g.pc = .ok (.laload, 1)) :
    ∀ t, Steps p.tables e below (T.setTop { g with pc := g.pc + 1, stack := v :: rest }) t → Steps p.tables e below (T.setTop g) t := by
  obtain ⟨cl, Ar, q, S, N, H, G⟩ := V
  exact fun t k => X.laload hx (by rw [eT]; exact Ar.1) (State.isArrayOf_alike hZ.alike Ar.2.1) Ar.2.2 (inb_of S hj) (Has.at H (inb_of S hj) hv) hg hs hd _ k
theorem own_ldA (X : Stand p l e R s m args below meth c T locs cells slots) (hx : p.tables.exec = Jvm.exec) (hZ : Z.Warmed39 s.vm) (eT : T.heap = h) (V : Arv Z h a kA ty z vs dv) (hty : ty.isReference = true) {j : Int32} {v : Value} (hj : ¬ j < 0 ∧ j < z) (hv : vs.getD j.toNatClampNeg dv = v) {g : JFrame} (hg : g.method = m) {rest : List Value} (hs : g.stack = .int j :: .ref a :: rest) (hd : decode c.code g.pc = .ok (.aaload, 1)) :
    ∀ t, Steps p.tables e below (T.setTop { g with pc := g.pc + 1, stack := v :: rest }) t → Steps p.tables e below (T.setTop g) t := by
  obtain ⟨cl, Ar, q, S, N, H, G⟩ := V
  exact fun t k => X.aaload hx (by rw [eT]; exact Ar.1) (State.isArrayOf_alike hZ.alike Ar.2.1) hty Ar.2.2 (inb_of S hj) (Has.at H (inb_of S hj) hv) hg hs hd _ k
theorem own_len (X : Stand p l e R s m args below meth c T locs cells slots) (hx : p.tables.exec = Jvm.exec) (hZ : Z.Warmed39 s.vm) (eT : T.heap = h) (V : Arv Z h a kA ty z vs dv) {g : JFrame} (hg : g.method = m) {rest : List Value} (hs : g.stack = .ref a :: rest) (hd : decode c.code g.pc = .ok (.arraylength, 1)) :
    ∀ t, Steps p.tables e below (T.setTop { g with pc := g.pc + 1, stack := .int z :: rest }) t → Steps p.tables e below (T.setTop g) t := by
  obtain ⟨cl, Ar, q, S, N, H, G⟩ := V
  refine fun t k => X.arraylength hx (by rw [eT]; exact Ar.1) (State.isArrayOf_alike hZ.alike Ar.2.1) hg hs hd _ ?_
  rw [len_of S N]; exact k
theorem own_newR (X : Stand p l e R s m args below meth c T locs cells slots) (hx : p.tables.exec = Jvm.exec) (hZ : Z.Warmed39 s.vm) {own C : String} {index : Nat} (hown : s.vm.findClass own = some m.cls) (w1 : (Jvm.Cond.classLink own index C).before a0 Z = true) (w2 : (Jvm.Cond.arrayOver (.object C)).before a0 Z = true)
    (eT : T.heap = h) {g : JFrame} (hg : g.method = m) (hd : decode c.code g.pc = .ok (.anewarray index, 3)) {n : Int32} {rest : List Value} (hs : g.stack = .int n :: rest) (hn : ¬ n < 0) {cap : Nat} (hcap : n.toNatClampNeg ≤ cap) (hb : cap * 8 ≤ 536870912) (hc : cells + 1 ≤ R.cells) (hl : slots + cap ≤ R.slots) :
    ∃ T' h' cA b, b = h.size ∧ Stand p l e R s m args below meth c T' locs (cells + 1) (slots + cap) ∧ T'.heap = h' ∧ Ext h h' ∧ Arv Z h' b cA (.object C) n (List.replicate cap .null) .null ∧ Ovr Z cA C ∧
      ∀ target, Steps p.tables e below (T'.setTop { g with pc := g.pc + 3, stack := .ref b :: rest }) target → Steps p.tables e below (T.setTop g) target := by
  obtain ⟨T', h', cA, X', e', E, A, O, st⟩ := newR X hx hZ hown w1 w2 eT hg hd hs hn hcap hb hc hl
  exact ⟨T', h', cA, _, rfl, X', e', E, (Arv.new A hn).pad (pad_rep [] _ cap), O, st⟩
theorem own_stA (X : Stand p l e R s m args below meth c T locs cells slots) (hx : p.tables.exec = Jvm.exec) (hZ : Z.Warmed39 s.vm) (eT : T.heap = h) {C : String} {y : Addr} (V : Arv Z h a kA (.object C) z vs dv) (O : Ovr Z kA C) (I : Ins Z h y C true) {j : Int32} (hj : ¬ j < 0 ∧ j < z) (i : Nat) (hi : j.toNatClampNeg = i) (hl : i < vs.length) {g : JFrame} (hg : g.method = m) {rest : List Value} (hs : g.stack = .ref y :: .int j :: .ref a :: rest) (hd : decode c.code g.pc = .ok (.aastore, 1)) :
    ∃ T' h' L, Stand p l e R s m args below meth c T' (locs ++ [⟨a, L⟩]) cells slots ∧ T'.heap = h' ∧ Wr h h' a L (.ref y) ∧ Arv Z h' a kA (.object C) z (vs.set i (.ref y)) dv ∧ ∀ target, Steps p.tables e below (T'.setTop { g with pc := g.pc + 1, stack := rest }) target → Steps p.tables e below (T.setTop g) target := by
  obtain ⟨cl, Ar, q, S, N, H, G⟩ := V
  obtain ⟨T', h', X', e', W, st⟩ := stR X hx hZ eT Ar (inb_of S hj) rfl (Sto.ofV Ar q O I) hg hs hd
  exact ⟨T', h', _, X', e', W, Arv.set Ar q S N H G rfl W i hi hl, st⟩
/-! what the case's words say of statics -/
theorem own_eqI {t : Term} {n : Int32} {args : Array Value} {s : State} (q : (Jvm.Cond.eq t (.int n)).value args s none s [] = some true) : t.eval args s none [] s = some (.int n) := by
  cases ht : t.eval args s none [] s with
  | none => simp [Jvm.Cond.value, ht] at q
  | some v => cases v <;> simp [Jvm.Cond.value, ht, Term.eval, Value.isRef] at q ⊢ <;> exact q
theorem own_eqJ {t : Term} {n : Int64} {args : Array Value} {s : State} (q : (Jvm.Cond.eq t (.long n)).value args s none s [] = some true) : t.eval args s none [] s = some (.long n) := by
  cases ht : t.eval args s none [] s with
  | none => simp [Jvm.Cond.value, ht] at q
  | some v => cases v <;> simp [Jvm.Cond.value, ht, Term.eval, Value.isRef] at q ⊢ <;> exact q
theorem own_eqR {t u : Term} {x : Addr} {args : Array Value} {s : State} (hu : u.eval args s none [] s = some (.ref x)) (q : (Jvm.Cond.eq t u).value args s none s [] = some true) : t.eval args s none [] s = some (.ref x) := by
  cases ht : t.eval args s none [] s with
  | none => simp [Jvm.Cond.value, ht] at q
  | some v => cases v <;> simp [Jvm.Cond.value, ht, hu, Value.isRef] at q ⊢ <;> exact q
theorem own_lenT {t : Term} {a : Addr} {cl : Cell} {ty : FieldType} {z : Int32} {args : Array Value} {s : State} (ht : t.eval args s none [] s = some (.ref a)) (A : Arr s s.heap a cl ty) (q : (Term.length t).eval args s none [] s = some (.int z)) : cl.slots.size < 2 ^ 31 ∧ cl.slots.size.toInt32 = z := by
  have ha : s.arrayAt? a = some cl := Arr.fin (Vm.Alike.refl _) A
  by_cases hl : cl.slots.size < 2 ^ 31
  · rw [len_f ht ha hl] at q; cases q; exact ⟨hl, rfl⟩
  · simp [Term.eval, ht, ha, hl] at q
end Own
end Jvm.RoadKit
namespace Jvm.Pilot.@@N@@
open Jvm Jvm.ClassFile Sem Op Lib Jvm.Free Jvm.Stand Jvm.LawKit Jvm.RoadKit Bundle Jvm.Pilot.@@N@@.Jvm.D
theorem own_leafI {x y : Int32} (q : y = x) : some (Value.int x) = some (.int y) := by rw [q]
theorem own_leafJ {x y : Int64} (q : y = x) : some (Value.long x) = some (.long y) := by rw [q]
def own_ow (a t0 t1 : Addr) : Int32 := if a = t0 then (0 : Int32) else if a = t1 then (0 : Int32) else (1 : Int32)
theorem d1_0 : decode prog_66_method_5_code 0 = .ok (.aload_n 0, 1) := by decide +kernel
theorem d1_1 : decode prog_66_method_5_code 1 = .ok (.getstatic 3, 3) := by decide +kernel
theorem d1_4 : decode prog_66_method_5_code 4 = .ok (.if_acmp .eq 14, 3) := by decide +kernel
theorem d1_7 : decode prog_66_method_5_code 7 = .ok (.aload_n 0, 1) := by decide +kernel
theorem d1_8 : decode prog_66_method_5_code 8 = .ok (.getstatic 7, 3) := by decide +kernel
theorem d1_11 : decode prog_66_method_5_code 11 = .ok (.if_acmp .eq 7, 3) := by decide +kernel
theorem d1_14 : decode prog_66_method_5_code 14 = .ok (.iconst 1, 1) := by decide +kernel
theorem d1_15 : decode prog_66_method_5_code 15 = .ok (.goto 4, 3) := by decide +kernel
theorem d1_18 : decode prog_66_method_5_code 18 = .ok (.iconst 0, 1) := by decide +kernel
theorem d1_19 : decode prog_66_method_5_code 19 = .ok (.ireturn, 1) := by decide +kernel
theorem ef_1 (a1 : Addr) (m : MethodId) : entryFrame m #[(.ref a1)] 1 = mkF m 0 #[.val (.ref a1)] [] := by first | (simp [entryFrame, mkF, argsToLocals, Value.category]; done) | rfl
theorem pn_0 : plainName "com/example/annotary/annotary/scoring/Metric" = true := by first | (simp [plainName, overriddenIn]; done) | decide +kernel
set_option maxRecDepth 65536 in
set_option maxHeartbeats 40000000 in
theorem rm1 (l : Launch) (Z : State) (a0 : Array Value) (hw : ∀ d ∈ tables_1, d.before a0 Z = true) (ws : List Jvm.Cond) (a1 : Addr) (t0 t1 : Addr) (h0 : Heap) (n0 : Nat) (Z0 : n0 ≤ h0.size) (O0 : Old Z n0 h0) (S_t0 : Sta Z Z.heap "com/example/annotary/annotary/scoring/Metric" "TOKENS" "Lcom/example/annotary/annotary/scoring/Metric;" (.ref t0)) (S_t1 : Sta Z Z.heap "com/example/annotary/annotary/scoring/Metric" "SENTENCES" "Lcom/example/annotary/annotary/scoring/Metric;" (.ref t1)) :
    own_Met l (⟨"com/example/annotary/annotary/scoring/Metric", "overWords", "()Z"⟩ : MethodName) prog_66_method_5_code 1 (some .boolean) ws ({ frames := 0, cells := 0, slots := 0, locals := 0 } : Room) #[(.ref a1)] Z h0 (fun v h L => v = some (.int (own_ow a1 t0 t1)) ∧ Fr n0 L ∧ h = h0) := by
  refine own_body (plainFor_of_name pn_0) (ef_1 a1) ?_
  intro p e s m below meth c T0 X0 hx hby hml0 hret hlk hnm hown hZ e0
  have hml : c.maxLocals = 1 := hml0
  have N0 := Fr.nil n0
  refine own_step (fun _ k => XS.aloadN X0.here hx rfl (hb hby d1_0) rfl rfl k) ?_
  show own_Ends _ _ _ _ _ _ _ T0 (mkF m 1 #[.val (.ref a1)] [(.ref a1)])
  obtain ⟨T1, X1, e1, st1⟩ := getS2 X0 hx hZ hown (host := "") (Or.inl (hw _ (List.mem_of_getElem? (i := 31) rfl))) Via.refl e0 (S_t0.ext O0.2) (g := (mkF m 1 #[.val (.ref a1)] [(.ref a1)])) rfl (hb hby d1_1)
  refine own_step st1 ?_
  show own_Ends _ _ _ _ _ _ _ T1 (mkF m 4 #[.val (.ref a1)] [(.ref t0), (.ref a1)])
  by_cases ha2 : a1 = t0
  · refine own_step (fun _ k => Jvm.RoadKit.acmp (g := (mkF m 4 #[.val (.ref a1)] [(.ref t0), (.ref a1)])) X1 hx rfl rfl rfl (pc0 := 4) (pc' := 18) (same := true) rfl (hb hby d1_4) rfl (decide_eq_true (congrArg Value.ref ha2)) (by decide) (by decide) k) ?_
    show own_Ends _ _ _ _ _ _ _ T1 (mkF m 18 #[.val (.ref a1)] [])
    refine own_step (fun _ k => XS.iconst X1.here hx rfl (hb hby d1_18) k) ?_
    show own_Ends _ _ _ _ _ _ _ T1 (mkF m 19 #[.val (.ref a1)] [(.int (0 : Int32))])
    exact own_retN X1 hx (t := .boolean) hret (by simp) hlk (hb hby d1_19) rfl ⟨own_leafI (if_pos ha2), N0, e1⟩ (by decide) (by decide)
  · refine own_step (fun _ k => Jvm.RoadKit.acmp (g := (mkF m 4 #[.val (.ref a1)] [(.ref t0), (.ref a1)])) X1 hx rfl rfl rfl (pc0 := 4) (pc' := 7) (same := false) rfl (hb hby d1_4) rfl (decide_eq_false fun q => ha2 (Value.ref.inj q)) (by decide) (by decide) k) ?_
    show own_Ends _ _ _ _ _ _ _ T1 (mkF m 7 #[.val (.ref a1)] [])
    refine own_step (fun _ k => XS.aloadN X1.here hx rfl (hb hby d1_7) rfl rfl k) ?_
    show own_Ends _ _ _ _ _ _ _ T1 (mkF m 8 #[.val (.ref a1)] [(.ref a1)])
    obtain ⟨T3, X3, e3, st3⟩ := getS2 X1 hx hZ hown (host := "") (Or.inl (hw _ (List.mem_of_getElem? (i := 32) rfl))) Via.refl e1 (S_t1.ext O0.2) (g := (mkF m 8 #[.val (.ref a1)] [(.ref a1)])) rfl (hb hby d1_8)
    refine own_step st3 ?_
    show own_Ends _ _ _ _ _ _ _ T3 (mkF m 11 #[.val (.ref a1)] [(.ref t1), (.ref a1)])
    by_cases ha4 : a1 = t1
    · refine own_step (fun _ k => Jvm.RoadKit.acmp (g := (mkF m 11 #[.val (.ref a1)] [(.ref t1), (.ref a1)])) X3 hx rfl rfl rfl (pc0 := 11) (pc' := 18) (same := true) rfl (hb hby d1_11) rfl (decide_eq_true (congrArg Value.ref ha4)) (by decide) (by decide) k) ?_
      show own_Ends _ _ _ _ _ _ _ T3 (mkF m 18 #[.val (.ref a1)] [])
      refine own_step (fun _ k => XS.iconst X3.here hx rfl (hb hby d1_18) k) ?_
      show own_Ends _ _ _ _ _ _ _ T3 (mkF m 19 #[.val (.ref a1)] [(.int (0 : Int32))])
      exact own_retN X3 hx (t := .boolean) hret (by simp) hlk (hb hby d1_19) rfl ⟨own_leafI ((if_neg ha2).trans (if_pos ha4)), N0, e3⟩ (by decide) (by decide)
    · refine own_step (fun _ k => Jvm.RoadKit.acmp (g := (mkF m 11 #[.val (.ref a1)] [(.ref t1), (.ref a1)])) X3 hx rfl rfl rfl (pc0 := 11) (pc' := 14) (same := false) rfl (hb hby d1_11) rfl (decide_eq_false fun q => ha4 (Value.ref.inj q)) (by decide) (by decide) k) ?_
      show own_Ends _ _ _ _ _ _ _ T3 (mkF m 14 #[.val (.ref a1)] [])
      refine own_step (fun _ k => XS.iconst X3.here hx rfl (hb hby d1_14) k) ?_
      show own_Ends _ _ _ _ _ _ _ T3 (mkF m 15 #[.val (.ref a1)] [(.int (1 : Int32))])
      refine own_step (fun _ k => XS.goto X3.here hx rfl (pc0 := 15) (pc' := 19) rfl (hb hby d1_15) (by decide) (by decide) k) ?_
      show own_Ends _ _ _ _ _ _ _ T3 (mkF m 19 #[.val (.ref a1)] [(.int (1 : Int32))])
      exact own_retN X3 hx (t := .boolean) hret (by simp) hlk (hb hby d1_19) rfl ⟨own_leafI ((if_neg ha2).trans (if_neg ha4)), N0, e3⟩ (by decide) (by decide)
theorem own_ten (x : Int32) : (((x &&& (2147483647 : Int32)) % (10 : Int32)) = (0 : Int32) ∨ ((x &&& (2147483647 : Int32)) % (10 : Int32)) = (1 : Int32) ∨ ((x &&& (2147483647 : Int32)) % (10 : Int32)) = (2 : Int32) ∨ ((x &&& (2147483647 : Int32)) % (10 : Int32)) = (3 : Int32) ∨ ((x &&& (2147483647 : Int32)) % (10 : Int32)) = (4 : Int32) ∨ ((x &&& (2147483647 : Int32)) % (10 : Int32)) = (5 : Int32) ∨ ((x &&& (2147483647 : Int32)) % (10 : Int32)) = (6 : Int32) ∨ ((x &&& (2147483647 : Int32)) % (10 : Int32)) = (7 : Int32) ∨ ((x &&& (2147483647 : Int32)) % (10 : Int32)) = (8 : Int32) ∨ ((x &&& (2147483647 : Int32)) % (10 : Int32)) = (9 : Int32)) := by
  have h1 := c_and x (2147483647 : Int32) (by decide)
  have h2 := (c_irem (x &&& (2147483647 : Int32)) (10 : Int32) 10 (by decide)).1 h1.1
  have h3 : (0 : Int32).toInt = 0 ∧ (1 : Int32).toInt = 1 ∧ (2 : Int32).toInt = 2 ∧ (3 : Int32).toInt = 3 ∧ (4 : Int32).toInt = 4 ∧ (5 : Int32).toInt = 5 ∧ (6 : Int32).toInt = 6 ∧ (7 : Int32).toInt = 7 ∧ (8 : Int32).toInt = 8 ∧ (9 : Int32).toInt = 9 := by decide
  simp only [← Int32.toInt_inj]
  omega
theorem ef_0 (p1 : Int32) (m : MethodId) : entryFrame m #[(.int p1)] maxLocals = mkF m 0 #[.val (.int p1), .unset, .unset, .unset] [] := by first | (simp [entryFrame, mkF, argsToLocals, Value.category, maxLocals]; done) | rfl
theorem pd_0 : parseMethodDescriptor "()Z" = some ⟨[], some .boolean⟩ := by decide +kernel
theorem pn_1 : plainName "com/example/annotary/annotary/scoring/MetricOverWordsPinLaw" = true := by first | (simp [plainName, overriddenIn]; done) | decide +kernel
set_option maxRecDepth 65536 in
set_option maxHeartbeats 40000000 in
theorem rm0 (l : Launch) (Z : State) (a0 : Array Value) (hw : ∀ d ∈ tables_1, d.before a0 Z = true) (ws : List Jvm.Cond) (p1 : Int32) (t0 t1 t2 t3 t4 t5 t6 t7 t8 t9 : Addr) (h0 : Heap) (n0 : Nat) (Z0 : n0 ≤ h0.size) (O0 : Old Z n0 h0) (S_t0 : Sta Z Z.heap "com/example/annotary/annotary/scoring/Metric" "TOKENS" "Lcom/example/annotary/annotary/scoring/Metric;" (.ref t0)) (E_t0 : Exa Z Z.heap t0 "com/example/annotary/annotary/scoring/Metric") (S_t1 : Sta Z Z.heap "com/example/annotary/annotary/scoring/Metric" "SENTENCES" "Lcom/example/annotary/annotary/scoring/Metric;" (.ref t1)) (E_t1 : Exa Z Z.heap t1 "com/example/annotary/annotary/scoring/Metric") (S_t2 : Sta Z Z.heap "com/example/annotary/annotary/scoring/Metric" "WORDS" "Lcom/example/annotary/annotary/scoring/Metric;" (.ref t2)) (E_t2 : Exa Z Z.heap t2 "com/example/annotary/annotary/scoring/Metric") (S_t3 : Sta Z Z.heap "com/example/annotary/annotary/scoring/Metric" "UPOS" "Lcom/example/annotary/annotary/scoring/Metric;" (.ref t3)) (E_t3 : Exa Z Z.heap t3 "com/example/annotary/annotary/scoring/Metric") (S_t4 : Sta Z Z.heap "com/example/annotary/annotary/scoring/Metric" "XPOS" "Lcom/example/annotary/annotary/scoring/Metric;" (.ref t4)) (E_t4 : Exa Z Z.heap t4 "com/example/annotary/annotary/scoring/Metric") (S_t5 : Sta Z Z.heap "com/example/annotary/annotary/scoring/Metric" "UFEATS" "Lcom/example/annotary/annotary/scoring/Metric;" (.ref t5)) (E_t5 : Exa Z Z.heap t5 "com/example/annotary/annotary/scoring/Metric") (S_t6 : Sta Z Z.heap "com/example/annotary/annotary/scoring/Metric" "ALL_TAGS" "Lcom/example/annotary/annotary/scoring/Metric;" (.ref t6)) (E_t6 : Exa Z Z.heap t6 "com/example/annotary/annotary/scoring/Metric") (S_t7 : Sta Z Z.heap "com/example/annotary/annotary/scoring/Metric" "LEMMAS" "Lcom/example/annotary/annotary/scoring/Metric;" (.ref t7)) (E_t7 : Exa Z Z.heap t7 "com/example/annotary/annotary/scoring/Metric") (S_t8 : Sta Z Z.heap "com/example/annotary/annotary/scoring/Metric" "UAS" "Lcom/example/annotary/annotary/scoring/Metric;" (.ref t8)) (E_t8 : Exa Z Z.heap t8 "com/example/annotary/annotary/scoring/Metric") (S_t9 : Sta Z Z.heap "com/example/annotary/annotary/scoring/Metric" "LAS" "Lcom/example/annotary/annotary/scoring/Metric;" (.ref t9)) (E_t9 : Exa Z Z.heap t9 "com/example/annotary/annotary/scoring/Metric") (n1_0 : ¬ t1 = t0) (n2_0 : ¬ t2 = t0) (n2_1 : ¬ t2 = t1) (n3_0 : ¬ t3 = t0) (n3_1 : ¬ t3 = t1) (n4_0 : ¬ t4 = t0) (n4_1 : ¬ t4 = t1) (n5_0 : ¬ t5 = t0) (n5_1 : ¬ t5 = t1) (n6_0 : ¬ t6 = t0) (n6_1 : ¬ t6 = t1) (n7_0 : ¬ t7 = t0) (n7_1 : ¬ t7 = t1) (n8_0 : ¬ t8 = t0) (n8_1 : ¬ t8 = t1) (n9_0 : ¬ t9 = t0) (n9_1 : ¬ t9 = t1) :
    own_Met l x code maxLocals ret ws room_1 #[(.int p1)] Z h0 (fun v h L => v = some (.int (1 : Int32)) ∧ Fr n0 L) := by
  refine own_body (plainFor_of_name pn_1) (ef_0 p1) ?_
  intro p e s m below meth c T0 X0 hx hby hml0 hret hlk hnm hown hZ e0
  have hml : c.maxLocals = 4 := hml0
  have N0 := Fr.nil n0
  refine own_step (fun _ k => XS.bipush X0.here hx rfl (hb hby at_0) k) ?_
  show own_Ends _ _ _ _ _ _ _ T0 (mkF m 2 #[.val (.int p1), .unset, .unset, .unset] [(.int (10 : Int32))])
  obtain ⟨T1, h1, k1, b1, g1, X1, e1, E1, V1, O1, st1⟩ := own_newR X0 hx hZ hown (hw _ (List.mem_of_getElem? (i := 0) rfl)) (hw _ (List.mem_of_getElem? (i := 1) rfl)) e0 (g := (mkF m 2 #[.val (.int p1), .unset, .unset, .unset] [(.int (10 : Int32))])) rfl (hb hby at_2) rfl (by decide) (cap := 10) (by decide) (by decide) (by decide) (by decide)
  have g_b1 : n0 ≤ b1 := Nat.le_trans Z0 (Nat.le_of_eq g1.symm)
  refine own_step st1 ?_
  have Z1 := Nat.le_trans Z0 E1.1
  have V_b1 : Arv Z h1 b1 k1 (.object "com/example/annotary/annotary/scoring/Metric") (10 : Int32) [.null, .null, .null, .null, .null, .null, .null, .null, .null, .null] .null := V1
  show own_Ends _ _ _ _ _ _ _ T1 (mkF m 5 #[.val (.int p1), .unset, .unset, .unset] [(.ref b1)])
  refine own_step (fun _ k => XS.dup X1.here hx rfl (hb hby at_5) rfl rfl k) ?_
  show own_Ends _ _ _ _ _ _ _ T1 (mkF m 6 #[.val (.int p1), .unset, .unset, .unset] [(.ref b1), (.ref b1)])
  refine own_step (fun _ k => XS.iconst X1.here hx rfl (hb hby at_6) k) ?_
  show own_Ends _ _ _ _ _ _ _ T1 (mkF m 7 #[.val (.int p1), .unset, .unset, .unset] [(.int (0 : Int32)), (.ref b1), (.ref b1)])
  have Q3 := (O0.ext E1)
  obtain ⟨T2, X2, e2, st2⟩ := getS2 X1 hx hZ hown (host := "") (Or.inl (hw _ (List.mem_of_getElem? (i := 2) rfl))) Via.refl e1 (S_t0.ext Q3.2) (g := (mkF m 7 #[.val (.int p1), .unset, .unset, .unset] [(.int (0 : Int32)), (.ref b1), (.ref b1)])) rfl (hb hby at_7)
  refine own_step st2 ?_
  show own_Ends _ _ _ _ _ _ _ T2 (mkF m 10 #[.val (.int p1), .unset, .unset, .unset] [(.ref t0), (.int (0 : Int32)), (.ref b1), (.ref b1)])
  obtain ⟨T4, h4, l4, X4, e4, W4, V4, st4⟩ := own_stA X2 hx hZ e2 V_b1 O1 (Ins.self (E_t0.ext Q3.2)) (j := (0 : Int32)) ⟨by decide, by decide⟩ 0 rfl (Nat.le_of_ble_eq_true rfl) (g := (mkF m 10 #[.val (.int p1), .unset, .unset, .unset] [(.ref t0), (.int (0 : Int32)), (.ref b1), (.ref b1)])) rfl rfl (hb hby at_10)
  refine own_step st4 ?_
  have N4 := Fr.snoc X4 N0 g_b1
  have Z4 := Nat.le_trans Z1 (Keep.of_wr W4).1
  have V_b1_4 : Arv Z h4 b1 k1 (.object "com/example/annotary/annotary/scoring/Metric") (10 : Int32) [(.ref t0), .null, .null, .null, .null, .null, .null, .null, .null, .null] .null := V4
  show own_Ends _ _ _ _ _ _ _ T4 (mkF m 11 #[.val (.int p1), .unset, .unset, .unset] [(.ref b1)])
  refine own_step (fun _ k => XS.dup X4.here hx rfl (hb hby at_11) rfl rfl k) ?_
  show own_Ends _ _ _ _ _ _ _ T4 (mkF m 12 #[.val (.int p1), .unset, .unset, .unset] [(.ref b1), (.ref b1)])
  refine own_step (fun _ k => XS.iconst X4.here hx rfl (hb hby at_12) k) ?_
  show own_Ends _ _ _ _ _ _ _ T4 (mkF m 13 #[.val (.int p1), .unset, .unset, .unset] [(.int (1 : Int32)), (.ref b1), (.ref b1)])
  have Q6 := (Q3.wr W4 g_b1)
  obtain ⟨T5, X5, e5, st5⟩ := getS2 X4 hx hZ hown (host := "") (Or.inl (hw _ (List.mem_of_getElem? (i := 6) rfl))) Via.refl e4 (S_t1.ext Q6.2) (g := (mkF m 13 #[.val (.int p1), .unset, .unset, .unset] [(.int (1 : Int32)), (.ref b1), (.ref b1)])) rfl (hb hby at_13)
  refine own_step st5 ?_
  show own_Ends _ _ _ _ _ _ _ T5 (mkF m 16 #[.val (.int p1), .unset, .unset, .unset] [(.ref t1), (.int (1 : Int32)), (.ref b1), (.ref b1)])
  obtain ⟨T7, h7, l7, X7, e7, W7, V7, st7⟩ := own_stA X5 hx hZ e5 V_b1_4 O1 (Ins.self (E_t1.ext Q6.2)) (j := (1 : Int32)) ⟨by decide, by decide⟩ 1 rfl (Nat.le_of_ble_eq_true rfl) (g := (mkF m 16 #[.val (.int p1), .unset, .unset, .unset] [(.ref t1), (.int (1 : Int32)), (.ref b1), (.ref b1)])) rfl rfl (hb hby at_16)
  refine own_step st7 ?_
  have N7 := Fr.snoc X7 N4 g_b1
  have Z7 := Nat.le_trans Z4 (Keep.of_wr W7).1
  have V_b1_7 : Arv Z h7 b1 k1 (.object "com/example/annotary/annotary/scoring/Metric") (10 : Int32) [(.ref t0), (.ref t1), .null, .null, .null, .null, .null, .null, .null, .null] .null := V7
  show own_Ends _ _ _ _ _ _ _ T7 (mkF m 17 #[.val (.int p1), .unset, .unset, .unset] [(.ref b1)])
  refine own_step (fun _ k => XS.dup X7.here hx rfl (hb hby at_17) rfl rfl k) ?_
  show own_Ends _ _ _ _ _ _ _ T7 (mkF m 18 #[.val (.int p1), .unset, .unset, .unset] [(.ref b1), (.ref b1)])
  refine own_step (fun _ k => XS.iconst X7.here hx rfl (hb hby at_18) k) ?_
  show own_Ends _ _ _ _ _ _ _ T7 (mkF m 19 #[.val (.int p1), .unset, .unset, .unset] [(.int (2 : Int32)), (.ref b1), (.ref b1)])
  have Q9 := (Q6.wr W7 g_b1)
  obtain ⟨T8, X8, e8, st8⟩ := getS2 X7 hx hZ hown (host := "") (Or.inl (hw _ (List.mem_of_getElem? (i := 8) rfl))) Via.refl e7 (S_t2.ext Q9.2) (g := (mkF m 19 #[.val (.int p1), .unset, .unset, .unset] [(.int (2 : Int32)), (.ref b1), (.ref b1)])) rfl (hb hby at_19)
  refine own_step st8 ?_
  show own_Ends _ _ _ _ _ _ _ T8 (mkF m 22 #[.val (.int p1), .unset, .unset, .unset] [(.ref t2), (.int (2 : Int32)), (.ref b1), (.ref b1)])
  obtain ⟨T10, h10, l10, X10, e10, W10, V10, st10⟩ := own_stA X8 hx hZ e8 V_b1_7 O1 (Ins.self (E_t2.ext Q9.2)) (j := (2 : Int32)) ⟨by decide, by decide⟩ 2 rfl (Nat.le_of_ble_eq_true rfl) (g := (mkF m 22 #[.val (.int p1), .unset, .unset, .unset] [(.ref t2), (.int (2 : Int32)), (.ref b1), (.ref b1)])) rfl rfl (hb hby at_22)
  refine own_step st10 ?_
  have N10 := Fr.snoc X10 N7 g_b1
  have Z10 := Nat.le_trans Z7 (Keep.of_wr W10).1
  have V_b1_10 : Arv Z h10 b1 k1 (.object "com/example/annotary/annotary/scoring/Metric") (10 : Int32) [(.ref t0), (.ref t1), (.ref t2), .null, .null, .null, .null, .null, .null, .null] .null := V10
  show own_Ends _ _ _ _ _ _ _ T10 (mkF m 23 #[.val (.int p1), .unset, .unset, .unset] [(.ref b1)])
  refine own_step (fun _ k => XS.dup X10.here hx rfl (hb hby at_23) rfl rfl k) ?_
  show own_Ends _ _ _ _ _ _ _ T10 (mkF m 24 #[.val (.int p1), .unset, .unset, .unset] [(.ref b1), (.ref b1)])
  refine own_step (fun _ k => XS.iconst X10.here hx rfl (hb hby at_24) k) ?_
  show own_Ends _ _ _ _ _ _ _ T10 (mkF m 25 #[.val (.int p1), .unset, .unset, .unset] [(.int (3 : Int32)), (.ref b1), (.ref b1)])
  have Q12 := (Q9.wr W10 g_b1)
  obtain ⟨T11, X11, e11, st11⟩ := getS2 X10 hx hZ hown (host := "") (Or.inl (hw _ (List.mem_of_getElem? (i := 10) rfl))) Via.refl e10 (S_t3.ext Q12.2) (g := (mkF m 25 #[.val (.int p1), .unset, .unset, .unset] [(.int (3 : Int32)), (.ref b1), (.ref b1)])) rfl (hb hby at_25)
  refine own_step st11 ?_
  show own_Ends _ _ _ _ _ _ _ T11 (mkF m 28 #[.val (.int p1), .unset, .unset, .unset] [(.ref t3), (.int (3 : Int32)), (.ref b1), (.ref b1)])
  obtain ⟨T13, h13, l13, X13, e13, W13, V13, st13⟩ := own_stA X11 hx hZ e11 V_b1_10 O1 (Ins.self (E_t3.ext Q12.2)) (j := (3 : Int32)) ⟨by decide, by decide⟩ 3 rfl (Nat.le_of_ble_eq_true rfl) (g := (mkF m 28 #[.val (.int p1), .unset, .unset, .unset] [(.ref t3), (.int (3 : Int32)), (.ref b1), (.ref b1)])) rfl rfl (hb hby at_28)
  refine own_step st13 ?_
  have N13 := Fr.snoc X13 N10 g_b1
  have Z13 := Nat.le_trans Z10 (Keep.of_wr W13).1
  have V_b1_13 : Arv Z h13 b1 k1 (.object "com/example/annotary/annotary/scoring/Metric") (10 : Int32) [(.ref t0), (.ref t1), (.ref t2), (.ref t3), .null, .null, .null, .null, .null, .null] .null := V13
  show own_Ends _ _ _ _ _ _ _ T13 (mkF m 29 #[.val (.int p1), .unset, .unset, .unset] [(.ref b1)])
  refine own_step (fun _ k => XS.dup X13.here hx rfl (hb hby at_29) rfl rfl k) ?_
  show own_Ends _ _ _ _ _ _ _ T13 (mkF m 30 #[.val (.int p1), .unset, .unset, .unset] [(.ref b1), (.ref b1)])
  refine own_step (fun _ k => XS.iconst X13.here hx rfl (hb hby at_30) k) ?_
  show own_Ends _ _ _ _ _ _ _ T13 (mkF m 31 #[.val (.int p1), .unset, .unset, .unset] [(.int (4 : Int32)), (.ref b1), (.ref b1)])
  have Q15 := (Q12.wr W13 g_b1)
  obtain ⟨T14, X14, e14, st14⟩ := getS2 X13 hx hZ hown (host := "") (Or.inl (hw _ (List.mem_of_getElem? (i := 12) rfl))) Via.refl e13 (S_t4.ext Q15.2) (g := (mkF m 31 #[.val (.int p1), .unset, .unset, .unset] [(.int (4 : Int32)), (.ref b1), (.ref b1)])) rfl (hb hby at_31)
  refine own_step st14 ?_
  show own_Ends _ _ _ _ _ _ _ T14 (mkF m 34 #[.val (.int p1), .unset, .unset, .unset] [(.ref t4), (.int (4 : Int32)), (.ref b1), (.ref b1)])
  obtain ⟨T16, h16, l16, X16, e16, W16, V16, st16⟩ := own_stA X14 hx hZ e14 V_b1_13 O1 (Ins.self (E_t4.ext Q15.2)) (j := (4 : Int32)) ⟨by decide, by decide⟩ 4 rfl (Nat.le_of_ble_eq_true rfl) (g := (mkF m 34 #[.val (.int p1), .unset, .unset, .unset] [(.ref t4), (.int (4 : Int32)), (.ref b1), (.ref b1)])) rfl rfl (hb hby at_34)
  refine own_step st16 ?_
  have N16 := Fr.snoc X16 N13 g_b1
  have Z16 := Nat.le_trans Z13 (Keep.of_wr W16).1
  have V_b1_16 : Arv Z h16 b1 k1 (.object "com/example/annotary/annotary/scoring/Metric") (10 : Int32) [(.ref t0), (.ref t1), (.ref t2), (.ref t3), (.ref t4), .null, .null, .null, .null, .null] .null := V16
  show own_Ends _ _ _ _ _ _ _ T16 (mkF m 35 #[.val (.int p1), .unset, .unset, .unset] [(.ref b1)])
  refine own_step (fun _ k => XS.dup X16.here hx rfl (hb hby at_35) rfl rfl k) ?_
  show own_Ends _ _ _ _ _ _ _ T16 (mkF m 36 #[.val (.int p1), .unset, .unset, .unset] [(.ref b1), (.ref b1)])
  refine own_step (fun _ k => XS.iconst X16.here hx rfl (hb hby at_36) k) ?_
  show own_Ends _ _ _ _ _ _ _ T16 (mkF m 37 #[.val (.int p1), .unset, .unset, .unset] [(.int (5 : Int32)), (.ref b1), (.ref b1)])
  have Q18 := (Q15.wr W16 g_b1)
  obtain ⟨T17, X17, e17, st17⟩ := getS2 X16 hx hZ hown (host := "") (Or.inl (hw _ (List.mem_of_getElem? (i := 14) rfl))) Via.refl e16 (S_t5.ext Q18.2) (g := (mkF m 37 #[.val (.int p1), .unset, .unset, .unset] [(.int (5 : Int32)), (.ref b1), (.ref b1)])) rfl (hb hby at_37)
  refine own_step st17 ?_
  show own_Ends _ _ _ _ _ _ _ T17 (mkF m 40 #[.val (.int p1), .unset, .unset, .unset] [(.ref t5), (.int (5 : Int32)), (.ref b1), (.ref b1)])
  obtain ⟨T19, h19, l19, X19, e19, W19, V19, st19⟩ := own_stA X17 hx hZ e17 V_b1_16 O1 (Ins.self (E_t5.ext Q18.2)) (j := (5 : Int32)) ⟨by decide, by decide⟩ 5 rfl (Nat.le_of_ble_eq_true rfl) (g := (mkF m 40 #[.val (.int p1), .unset, .unset, .unset] [(.ref t5), (.int (5 : Int32)), (.ref b1), (.ref b1)])) rfl rfl (hb hby at_40)
  refine own_step st19 ?_
  have N19 := Fr.snoc X19 N16 g_b1
  have Z19 := Nat.le_trans Z16 (Keep.of_wr W19).1
  have V_b1_19 : Arv Z h19 b1 k1 (.object "com/example/annotary/annotary/scoring/Metric") (10 : Int32) [(.ref t0), (.ref t1), (.ref t2), (.ref t3), (.ref t4), (.ref t5), .null, .null, .null, .null] .null := V19
  show own_Ends _ _ _ _ _ _ _ T19 (mkF m 41 #[.val (.int p1), .unset, .unset, .unset] [(.ref b1)])
  refine own_step (fun _ k => XS.dup X19.here hx rfl (hb hby at_41) rfl rfl k) ?_
  show own_Ends _ _ _ _ _ _ _ T19 (mkF m 42 #[.val (.int p1), .unset, .unset, .unset] [(.ref b1), (.ref b1)])
  refine own_step (fun _ k => XS.bipush X19.here hx rfl (hb hby at_42) k) ?_
  show own_Ends _ _ _ _ _ _ _ T19 (mkF m 44 #[.val (.int p1), .unset, .unset, .unset] [(.int (6 : Int32)), (.ref b1), (.ref b1)])
  have Q21 := (Q18.wr W19 g_b1)
  obtain ⟨T20, X20, e20, st20⟩ := getS2 X19 hx hZ hown (host := "") (Or.inl (hw _ (List.mem_of_getElem? (i := 16) rfl))) Via.refl e19 (S_t6.ext Q21.2) (g := (mkF m 44 #[.val (.int p1), .unset, .unset, .unset] [(.int (6 : Int32)), (.ref b1), (.ref b1)])) rfl (hb hby at_44)
  refine own_step st20 ?_
  show own_Ends _ _ _ _ _ _ _ T20 (mkF m 47 #[.val (.int p1), .unset, .unset, .unset] [(.ref t6), (.int (6 : Int32)), (.ref b1), (.ref b1)])
  obtain ⟨T22, h22, l22, X22, e22, W22, V22, st22⟩ := own_stA X20 hx hZ e20 V_b1_19 O1 (Ins.self (E_t6.ext Q21.2)) (j := (6 : Int32)) ⟨by decide, by decide⟩ 6 rfl (Nat.le_of_ble_eq_true rfl) (g := (mkF m 47 #[.val (.int p1), .unset, .unset, .unset] [(.ref t6), (.int (6 : Int32)), (.ref b1), (.ref b1)])) rfl rfl (hb hby at_47)
  refine own_step st22 ?_
  have N22 := Fr.snoc X22 N19 g_b1
  have Z22 := Nat.le_trans Z19 (Keep.of_wr W22).1
  have V_b1_22 : Arv Z h22 b1 k1 (.object "com/example/annotary/annotary/scoring/Metric") (10 : Int32) [(.ref t0), (.ref t1), (.ref t2), (.ref t3), (.ref t4), (.ref t5), (.ref t6), .null, .null, .null] .null := V22
  show own_Ends _ _ _ _ _ _ _ T22 (mkF m 48 #[.val (.int p1), .unset, .unset, .unset] [(.ref b1)])
  refine own_step (fun _ k => XS.dup X22.here hx rfl (hb hby at_48) rfl rfl k) ?_
  show own_Ends _ _ _ _ _ _ _ T22 (mkF m 49 #[.val (.int p1), .unset, .unset, .unset] [(.ref b1), (.ref b1)])
  refine own_step (fun _ k => XS.bipush X22.here hx rfl (hb hby at_49) k) ?_
  show own_Ends _ _ _ _ _ _ _ T22 (mkF m 51 #[.val (.int p1), .unset, .unset, .unset] [(.int (7 : Int32)), (.ref b1), (.ref b1)])
  have Q24 := (Q21.wr W22 g_b1)
  obtain ⟨T23, X23, e23, st23⟩ := getS2 X22 hx hZ hown (host := "") (Or.inl (hw _ (List.mem_of_getElem? (i := 18) rfl))) Via.refl e22 (S_t7.ext Q24.2) (g := (mkF m 51 #[.val (.int p1), .unset, .unset, .unset] [(.int (7 : Int32)), (.ref b1), (.ref b1)])) rfl (hb hby at_51)
  refine own_step st23 ?_
  show own_Ends _ _ _ _ _ _ _ T23 (mkF m 54 #[.val (.int p1), .unset, .unset, .unset] [(.ref t7), (.int (7 : Int32)), (.ref b1), (.ref b1)])
  obtain ⟨T25, h25, l25, X25, e25, W25, V25, st25⟩ := own_stA X23 hx hZ e23 V_b1_22 O1 (Ins.self (E_t7.ext Q24.2)) (j := (7 : Int32)) ⟨by decide, by decide⟩ 7 rfl (Nat.le_of_ble_eq_true rfl) (g := (mkF m 54 #[.val (.int p1), .unset, .unset, .unset] [(.ref t7), (.int (7 : Int32)), (.ref b1), (.ref b1)])) rfl rfl (hb hby at_54)
  refine own_step st25 ?_
  have N25 := Fr.snoc X25 N22 g_b1
  have Z25 := Nat.le_trans Z22 (Keep.of_wr W25).1
  have V_b1_25 : Arv Z h25 b1 k1 (.object "com/example/annotary/annotary/scoring/Metric") (10 : Int32) [(.ref t0), (.ref t1), (.ref t2), (.ref t3), (.ref t4), (.ref t5), (.ref t6), (.ref t7), .null, .null] .null := V25
  show own_Ends _ _ _ _ _ _ _ T25 (mkF m 55 #[.val (.int p1), .unset, .unset, .unset] [(.ref b1)])
  refine own_step (fun _ k => XS.dup X25.here hx rfl (hb hby at_55) rfl rfl k) ?_
  show own_Ends _ _ _ _ _ _ _ T25 (mkF m 56 #[.val (.int p1), .unset, .unset, .unset] [(.ref b1), (.ref b1)])
  refine own_step (fun _ k => XS.bipush X25.here hx rfl (hb hby at_56) k) ?_
  show own_Ends _ _ _ _ _ _ _ T25 (mkF m 58 #[.val (.int p1), .unset, .unset, .unset] [(.int (8 : Int32)), (.ref b1), (.ref b1)])
  have Q27 := (Q24.wr W25 g_b1)
  obtain ⟨T26, X26, e26, st26⟩ := getS2 X25 hx hZ hown (host := "") (Or.inl (hw _ (List.mem_of_getElem? (i := 20) rfl))) Via.refl e25 (S_t8.ext Q27.2) (g := (mkF m 58 #[.val (.int p1), .unset, .unset, .unset] [(.int (8 : Int32)), (.ref b1), (.ref b1)])) rfl (hb hby at_58)
  refine own_step st26 ?_
  show own_Ends _ _ _ _ _ _ _ T26 (mkF m 61 #[.val (.int p1), .unset, .unset, .unset] [(.ref t8), (.int (8 : Int32)), (.ref b1), (.ref b1)])
  obtain ⟨T28, h28, l28, X28, e28, W28, V28, st28⟩ := own_stA X26 hx hZ e26 V_b1_25 O1 (Ins.self (E_t8.ext Q27.2)) (j := (8 : Int32)) ⟨by decide, by decide⟩ 8 rfl (Nat.le_of_ble_eq_true rfl) (g := (mkF m 61 #[.val (.int p1), .unset, .unset, .unset] [(.ref t8), (.int (8 : Int32)), (.ref b1), (.ref b1)])) rfl rfl (hb hby at_61)
  refine own_step st28 ?_
  have N28 := Fr.snoc X28 N25 g_b1
  have Z28 := Nat.le_trans Z25 (Keep.of_wr W28).1
  have V_b1_28 : Arv Z h28 b1 k1 (.object "com/example/annotary/annotary/scoring/Metric") (10 : Int32) [(.ref t0), (.ref t1), (.ref t2), (.ref t3), (.ref t4), (.ref t5), (.ref t6), (.ref t7), (.ref t8), .null] .null := V28
  show own_Ends _ _ _ _ _ _ _ T28 (mkF m 62 #[.val (.int p1), .unset, .unset, .unset] [(.ref b1)])
  refine own_step (fun _ k => XS.dup X28.here hx rfl (hb hby at_62) rfl rfl k) ?_
  show own_Ends _ _ _ _ _ _ _ T28 (mkF m 63 #[.val (.int p1), .unset, .unset, .unset] [(.ref b1), (.ref b1)])
  refine own_step (fun _ k => XS.bipush X28.here hx rfl (hb hby at_63) k) ?_
  show own_Ends _ _ _ _ _ _ _ T28 (mkF m 65 #[.val (.int p1), .unset, .unset, .unset] [(.int (9 : Int32)), (.ref b1), (.ref b1)])
  have Q30 := (Q27.wr W28 g_b1)
  obtain ⟨T29, X29, e29, st29⟩ := getS2 X28 hx hZ hown (host := "") (Or.inl (hw _ (List.mem_of_getElem? (i := 22) rfl))) Via.refl e28 (S_t9.ext Q30.2) (g := (mkF m 65 #[.val (.int p1), .unset, .unset, .unset] [(.int (9 : Int32)), (.ref b1), (.ref b1)])) rfl (hb hby at_65)
  refine own_step st29 ?_
  show own_Ends _ _ _ _ _ _ _ T29 (mkF m 68 #[.val (.int p1), .unset, .unset, .unset] [(.ref t9), (.int (9 : Int32)), (.ref b1), (.ref b1)])
  obtain ⟨T31, h31, l31, X31, e31, W31, V31, st31⟩ := own_stA X29 hx hZ e29 V_b1_28 O1 (Ins.self (E_t9.ext Q30.2)) (j := (9 : Int32)) ⟨by decide, by decide⟩ 9 rfl (Nat.le_of_ble_eq_true rfl) (g := (mkF m 68 #[.val (.int p1), .unset, .unset, .unset] [(.ref t9), (.int (9 : Int32)), (.ref b1), (.ref b1)])) rfl rfl (hb hby at_68)
  refine own_step st31 ?_
  have N31 := Fr.snoc X31 N28 g_b1
  have Z31 := Nat.le_trans Z28 (Keep.of_wr W31).1
  have V_b1_31 : Arv Z h31 b1 k1 (.object "com/example/annotary/annotary/scoring/Metric") (10 : Int32) [(.ref t0), (.ref t1), (.ref t2), (.ref t3), (.ref t4), (.ref t5), (.ref t6), (.ref t7), (.ref t8), (.ref t9)] .null := V31
  show own_Ends _ _ _ _ _ _ _ T31 (mkF m 69 #[.val (.int p1), .unset, .unset, .unset] [(.ref b1)])
  refine own_step (fun _ k => XS.astoreN X31.here hx rfl (hb hby at_69) rfl rfl (l' := #[.val (.int p1), .val (.ref b1), .unset, .unset]) rfl k) ?_
  show own_Ends _ _ _ _ _ _ _ T31 (mkF m 70 #[.val (.int p1), .val (.ref b1), .unset, .unset] [])
  refine own_step (fun _ k => XS.bipush X31.here hx rfl (hb hby at_70) k) ?_
  show own_Ends _ _ _ _ _ _ _ T31 (mkF m 72 #[.val (.int p1), .val (.ref b1), .unset, .unset] [(.int (10 : Int32))])
  obtain ⟨T32, h32, k32, b32, g32, X32, e32, E32, V32, st32⟩ := own_newA X31 hx hZ (hw _ (List.mem_of_getElem? (i := 24) rfl)) e31 (g := (mkF m 72 #[.val (.int p1), .val (.ref b1), .unset, .unset] [(.int (10 : Int32))])) rfl (hb hby at_72) rfl (by decide) (cap := 10) (by decide) (by decide) (by decide) (by decide)
  have ne_b1_b32 : b1 ≠ b32 := Nat.ne_of_lt (Nat.lt_of_lt_of_eq V_b1_31.lt g32.symm)
  have g_b32 : n0 ≤ b32 := Nat.le_trans Z31 (Nat.le_of_eq g32.symm)
  refine own_step st32 ?_
  have Z32 := Nat.le_trans Z31 E32.1
  have V_b32 : Arv Z h32 b32 k32 .boolean (10 : Int32) [(.int (0 : Int32)), (.int (0 : Int32)), (.int (0 : Int32)), (.int (0 : Int32)), (.int (0 : Int32)), (.int (0 : Int32)), (.int (0 : Int32)), (.int (0 : Int32)), (.int (0 : Int32)), (.int (0 : Int32))] (.int (0 : Int32)) := V32
  show own_Ends _ _ _ _ _ _ _ T32 (mkF m 74 #[.val (.int p1), .val (.ref b1), .unset, .unset] [(.ref b32)])
  refine own_step (fun _ k => XS.dup X32.here hx rfl (hb hby at_74) rfl rfl k) ?_
  show own_Ends _ _ _ _ _ _ _ T32 (mkF m 75 #[.val (.int p1), .val (.ref b1), .unset, .unset] [(.ref b32), (.ref b32)])
  refine own_step (fun _ k => XS.iconst X32.here hx rfl (hb hby at_75) k) ?_
  show own_Ends _ _ _ _ _ _ _ T32 (mkF m 76 #[.val (.int p1), .val (.ref b1), .unset, .unset] [(.int (0 : Int32)), (.ref b32), (.ref b32)])
  refine own_step (fun _ k => XS.iconst X32.here hx rfl (hb hby at_76) k) ?_
  show own_Ends _ _ _ _ _ _ _ T32 (mkF m 77 #[.val (.int p1), .val (.ref b1), .unset, .unset] [(.int (0 : Int32)), (.int (0 : Int32)), (.ref b32), (.ref b32)])
  obtain ⟨T33, h33, l33, X33, e33, W33, V33, st33⟩ := own_stZ X32 hx hZ e32 V_b32 (j := (0 : Int32)) ⟨by decide, by decide⟩ 0 rfl (Nat.le_of_ble_eq_true rfl) (g := (mkF m 77 #[.val (.int p1), .val (.ref b1), .unset, .unset] [(.int (0 : Int32)), (.int (0 : Int32)), (.ref b32), (.ref b32)])) rfl rfl (hb hby at_77)
  refine own_step st33 ?_
  have N33 := Fr.snoc X33 N31 g_b32
  have Z33 := Nat.le_trans Z32 (Keep.of_wr W33).1
  have V_b32_33 : Arv Z h33 b32 k32 .boolean (10 : Int32) [(.int (0 : Int32)), (.int (0 : Int32)), (.int (0 : Int32)), (.int (0 : Int32)), (.int (0 : Int32)), (.int (0 : Int32)), (.int (0 : Int32)), (.int (0 : Int32)), (.int (0 : Int32)), (.int (0 : Int32))] (.int (0 : Int32)) := V33
  show own_Ends _ _ _ _ _ _ _ T33 (mkF m 78 #[.val (.int p1), .val (.ref b1), .unset, .unset] [(.ref b32)])
  refine own_step (fun _ k => XS.dup X33.here hx rfl (hb hby at_78) rfl rfl k) ?_
  show own_Ends _ _ _ _ _ _ _ T33 (mkF m 79 #[.val (.int p1), .val (.ref b1), .unset, .unset] [(.ref b32), (.ref b32)])
  refine own_step (fun _ k => XS.iconst X33.here hx rfl (hb hby at_79) k) ?_
  show own_Ends _ _ _ _ _ _ _ T33 (mkF m 80 #[.val (.int p1), .val (.ref b1), .unset, .unset] [(.int (1 : Int32)), (.ref b32), (.ref b32)])
  refine own_step (fun _ k => XS.iconst X33.here hx rfl (hb hby at_80) k) ?_
  show own_Ends _ _ _ _ _ _ _ T33 (mkF m 81 #[.val (.int p1), .val (.ref b1), .unset, .unset] [(.int (0 : Int32)), (.int (1 : Int32)), (.ref b32), (.ref b32)])
  obtain ⟨T34, h34, l34, X34, e34, W34, V34, st34⟩ := own_stZ X33 hx hZ e33 V_b32_33 (j := (1 : Int32)) ⟨by decide, by decide⟩ 1 rfl (Nat.le_of_ble_eq_true rfl) (g := (mkF m 81 #[.val (.int p1), .val (.ref b1), .unset, .unset] [(.int (0 : Int32)), (.int (1 : Int32)), (.ref b32), (.ref b32)])) rfl rfl (hb hby at_81)
  refine own_step st34 ?_
  have N34 := Fr.snoc X34 N33 g_b32
  have Z34 := Nat.le_trans Z33 (Keep.of_wr W34).1
  have V_b32_34 : Arv Z h34 b32 k32 .boolean (10 : Int32) [(.int (0 : Int32)), (.int (0 : Int32)), (.int (0 : Int32)), (.int (0 : Int32)), (.int (0 : Int32)), (.int (0 : Int32)), (.int (0 : Int32)), (.int (0 : Int32)), (.int (0 : Int32)), (.int (0 : Int32))] (.int (0 : Int32)) := V34
  show own_Ends _ _ _ _ _ _ _ T34 (mkF m 82 #[.val (.int p1), .val (.ref b1), .unset, .unset] [(.ref b32)])
  refine own_step (fun _ k => XS.dup X34.here hx rfl (hb hby at_82) rfl rfl k) ?_
  show own_Ends _ _ _ _ _ _ _ T34 (mkF m 83 #[.val (.int p1), .val (.ref b1), .unset, .unset] [(.ref b32), (.ref b32)])
  refine own_step (fun _ k => XS.iconst X34.here hx rfl (hb hby at_83) k) ?_
  show own_Ends _ _ _ _ _ _ _ T34 (mkF m 84 #[.val (.int p1), .val (.ref b1), .unset, .unset] [(.int (2 : Int32)), (.ref b32), (.ref b32)])
  refine own_step (fun _ k => XS.iconst X34.here hx rfl (hb hby at_84) k) ?_
  show own_Ends _ _ _ _ _ _ _ T34 (mkF m 85 #[.val (.int p1), .val (.ref b1), .unset, .unset] [(.int (1 : Int32)), (.int (2 : Int32)), (.ref b32), (.ref b32)])
  obtain ⟨T35, h35, l35, X35, e35, W35, V35, st35⟩ := own_stZ X34 hx hZ e34 V_b32_34 (j := (2 : Int32)) ⟨by decide, by decide⟩ 2 rfl (Nat.le_of_ble_eq_true rfl) (g := (mkF m 85 #[.val (.int p1), .val (.ref b1), .unset, .unset] [(.int (1 : Int32)), (.int (2 : Int32)), (.ref b32), (.ref b32)])) rfl rfl (hb hby at_85)
  refine own_step st35 ?_
  have N35 := Fr.snoc X35 N34 g_b32
  have Z35 := Nat.le_trans Z34 (Keep.of_wr W35).1
  have V_b32_35 : Arv Z h35 b32 k32 .boolean (10 : Int32) [(.int (0 : Int32)), (.int (0 : Int32)), (.int (1 : Int32)), (.int (0 : Int32)), (.int (0 : Int32)), (.int (0 : Int32)), (.int (0 : Int32)), (.int (0 : Int32)), (.int (0 : Int32)), (.int (0 : Int32))] (.int (0 : Int32)) := V35
  show own_Ends _ _ _ _ _ _ _ T35 (mkF m 86 #[.val (.int p1), .val (.ref b1), .unset, .unset] [(.ref b32)])
  refine own_step (fun _ k => XS.dup X35.here hx rfl (hb hby at_86) rfl rfl k) ?_
  show own_Ends _ _ _ _ _ _ _ T35 (mkF m 87 #[.val (.int p1), .val (.ref b1), .unset, .unset] [(.ref b32), (.ref b32)])
  refine own_step (fun _ k => XS.iconst X35.here hx rfl (hb hby at_87) k) ?_
  show own_Ends _ _ _ _ _ _ _ T35 (mkF m 88 #[.val (.int p1), .val (.ref b1), .unset, .unset] [(.int (3 : Int32)), (.ref b32), (.ref b32)])
  refine own_step (fun _ k => XS.iconst X35.here hx rfl (hb hby at_88) k) ?_
  show own_Ends _ _ _ _ _ _ _ T35 (mkF m 89 #[.val (.int p1), .val (.ref b1), .unset, .unset] [(.int (1 : Int32)), (.int (3 : Int32)), (.ref b32), (.ref b32)])
  obtain ⟨T36, h36, l36, X36, e36, W36, V36, st36⟩ := own_stZ X35 hx hZ e35 V_b32_35 (j := (3 : Int32)) ⟨by decide, by decide⟩ 3 rfl (Nat.le_of_ble_eq_true rfl) (g := (mkF m 89 #[.val (.int p1), .val (.ref b1), .unset, .unset] [(.int (1 : Int32)), (.int (3 : Int32)), (.ref b32), (.ref b32)])) rfl rfl (hb hby at_89)
  refine own_step st36 ?_
  have N36 := Fr.snoc X36 N35 g_b32
  have Z36 := Nat.le_trans Z35 (Keep.of_wr W36).1
  have V_b32_36 : Arv Z h36 b32 k32 .boolean (10 : Int32) [(.int (0 : Int32)), (.int (0 : Int32)), (.int (1 : Int32)), (.int (1 : Int32)), (.int (0 : Int32)), (.int (0 : Int32)), (.int (0 : Int32)), (.int (0 : Int32)), (.int (0 : Int32)), (.int (0 : Int32))] (.int (0 : Int32)) := V36
  show own_Ends _ _ _ _ _ _ _ T36 (mkF m 90 #[.val (.int p1), .val (.ref b1), .unset, .unset] [(.ref b32)])
  refine own_step (fun _ k => XS.dup X36.here hx rfl (hb hby at_90) rfl rfl k) ?_
  show own_Ends _ _ _ _ _ _ _ T36 (mkF m 91 #[.val (.int p1), .val (.ref b1), .unset, .unset] [(.ref b32), (.ref b32)])
  refine own_step (fun _ k => XS.iconst X36.here hx rfl (hb hby at_91) k) ?_
  show own_Ends _ _ _ _ _ _ _ T36 (mkF m 92 #[.val (.int p1), .val (.ref b1), .unset, .unset] [(.int (4 : Int32)), (.ref b32), (.ref b32)])
  refine own_step (fun _ k => XS.iconst X36.here hx rfl (hb hby at_92) k) ?_
  show own_Ends _ _ _ _ _ _ _ T36 (mkF m 93 #[.val (.int p1), .val (.ref b1), .unset, .unset] [(.int (1 : Int32)), (.int (4 : Int32)), (.ref b32), (.ref b32)])
  obtain ⟨T37, h37, l37, X37, e37, W37, V37, st37⟩ := own_stZ X36 hx hZ e36 V_b32_36 (j := (4 : Int32)) ⟨by decide, by decide⟩ 4 rfl (Nat.le_of_ble_eq_true rfl) (g := (mkF m 93 #[.val (.int p1), .val (.ref b1), .unset, .unset] [(.int (1 : Int32)), (.int (4 : Int32)), (.ref b32), (.ref b32)])) rfl rfl (hb hby at_93)
  refine own_step st37 ?_
  have N37 := Fr.snoc X37 N36 g_b32
  have Z37 := Nat.le_trans Z36 (Keep.of_wr W37).1
  have V_b32_37 : Arv Z h37 b32 k32 .boolean (10 : Int32) [(.int (0 : Int32)), (.int (0 : Int32)), (.int (1 : Int32)), (.int (1 : Int32)), (.int (1 : Int32)), (.int (0 : Int32)), (.int (0 : Int32)), (.int (0 : Int32)), (.int (0 : Int32)), (.int (0 : Int32))] (.int (0 : Int32)) := V37
  show own_Ends _ _ _ _ _ _ _ T37 (mkF m 94 #[.val (.int p1), .val (.ref b1), .unset, .unset] [(.ref b32)])
  refine own_step (fun _ k => XS.dup X37.here hx rfl (hb hby at_94) rfl rfl k) ?_
  show own_Ends _ _ _ _ _ _ _ T37 (mkF m 95 #[.val (.int p1), .val (.ref b1), .unset, .unset] [(.ref b32), (.ref b32)])
  refine own_step (fun _ k => XS.iconst X37.here hx rfl (hb hby at_95) k) ?_
  show own_Ends _ _ _ _ _ _ _ T37 (mkF m 96 #[.val (.int p1), .val (.ref b1), .unset, .unset] [(.int (5 : Int32)), (.ref b32), (.ref b32)])
  refine own_step (fun _ k => XS.iconst X37.here hx rfl (hb hby at_96) k) ?_
  show own_Ends _ _ _ _ _ _ _ T37 (mkF m 97 #[.val (.int p1), .val (.ref b1), .unset, .unset] [(.int (1 : Int32)), (.int (5 : Int32)), (.ref b32), (.ref b32)])
  obtain ⟨T38, h38, l38, X38, e38, W38, V38, st38⟩ := own_stZ X37 hx hZ e37 V_b32_37 (j := (5 : Int32)) ⟨by decide, by decide⟩ 5 rfl (Nat.le_of_ble_eq_true rfl) (g := (mkF m 97 #[.val (.int p1), .val (.ref b1), .unset, .unset] [(.int (1 : Int32)), (.int (5 : Int32)), (.ref b32), (.ref b32)])) rfl rfl (hb hby at_97)
  refine own_step st38 ?_
  have N38 := Fr.snoc X38 N37 g_b32
  have Z38 := Nat.le_trans Z37 (Keep.of_wr W38).1
  have V_b32_38 : Arv Z h38 b32 k32 .boolean (10 : Int32) [(.int (0 : Int32)), (.int (0 : Int32)), (.int (1 : Int32)), (.int (1 : Int32)), (.int (1 : Int32)), (.int (1 : Int32)), (.int (0 : Int32)), (.int (0 : Int32)), (.int (0 : Int32)), (.int (0 : Int32))] (.int (0 : Int32)) := V38
  show own_Ends _ _ _ _ _ _ _ T38 (mkF m 98 #[.val (.int p1), .val (.ref b1), .unset, .unset] [(.ref b32)])
  refine own_step (fun _ k => XS.dup X38.here hx rfl (hb hby at_98) rfl rfl k) ?_
  show own_Ends _ _ _ _ _ _ _ T38 (mkF m 99 #[.val (.int p1), .val (.ref b1), .unset, .unset] [(.ref b32), (.ref b32)])
  refine own_step (fun _ k => XS.bipush X38.here hx rfl (hb hby at_99) k) ?_
  show own_Ends _ _ _ _ _ _ _ T38 (mkF m 101 #[.val (.int p1), .val (.ref b1), .unset, .unset] [(.int (6 : Int32)), (.ref b32), (.ref b32)])
  refine own_step (fun _ k => XS.iconst X38.here hx rfl (hb hby at_101) k) ?_
  show own_Ends _ _ _ _ _ _ _ T38 (mkF m 102 #[.val (.int p1), .val (.ref b1), .unset, .unset] [(.int (1 : Int32)), (.int (6 : Int32)), (.ref b32), (.ref b32)])
  obtain ⟨T39, h39, l39, X39, e39, W39, V39, st39⟩ := own_stZ X38 hx hZ e38 V_b32_38 (j := (6 : Int32)) ⟨by decide, by decide⟩ 6 rfl (Nat.le_of_ble_eq_true rfl) (g := (mkF m 102 #[.val (.int p1), .val (.ref b1), .unset, .unset] [(.int (1 : Int32)), (.int (6 : Int32)), (.ref b32), (.ref b32)])) rfl rfl (hb hby at_102)
  refine own_step st39 ?_
  have N39 := Fr.snoc X39 N38 g_b32
  have Z39 := Nat.le_trans Z38 (Keep.of_wr W39).1
  have V_b32_39 : Arv Z h39 b32 k32 .boolean (10 : Int32) [(.int (0 : Int32)), (.int (0 : Int32)), (.int (1 : Int32)), (.int (1 : Int32)), (.int (1 : Int32)), (.int (1 : Int32)), (.int (1 : Int32)), (.int (0 : Int32)), (.int (0 : Int32)), (.int (0 : Int32))] (.int (0 : Int32)) := V39
  show own_Ends _ _ _ _ _ _ _ T39 (mkF m 103 #[.val (.int p1), .val (.ref b1), .unset, .unset] [(.ref b32)])
  refine own_step (fun _ k => XS.dup X39.here hx rfl (hb hby at_103) rfl rfl k) ?_
  show own_Ends _ _ _ _ _ _ _ T39 (mkF m 104 #[.val (.int p1), .val (.ref b1), .unset, .unset] [(.ref b32), (.ref b32)])
  refine own_step (fun _ k => XS.bipush X39.here hx rfl (hb hby at_104) k) ?_
  show own_Ends _ _ _ _ _ _ _ T39 (mkF m 106 #[.val (.int p1), .val (.ref b1), .unset, .unset] [(.int (7 : Int32)), (.ref b32), (.ref b32)])
  refine own_step (fun _ k => XS.iconst X39.here hx rfl (hb hby at_106) k) ?_
  show own_Ends _ _ _ _ _ _ _ T39 (mkF m 107 #[.val (.int p1), .val (.ref b1), .unset, .unset] [(.int (1 : Int32)), (.int (7 : Int32)), (.ref b32), (.ref b32)])
  obtain ⟨T40, h40, l40, X40, e40, W40, V40, st40⟩ := own_stZ X39 hx hZ e39 V_b32_39 (j := (7 : Int32)) ⟨by decide, by decide⟩ 7 rfl (Nat.le_of_ble_eq_true rfl) (g := (mkF m 107 #[.val (.int p1), .val (.ref b1), .unset, .unset] [(.int (1 : Int32)), (.int (7 : Int32)), (.ref b32), (.ref b32)])) rfl rfl (hb hby at_107)
  refine own_step st40 ?_
  have N40 := Fr.snoc X40 N39 g_b32
  have Z40 := Nat.le_trans Z39 (Keep.of_wr W40).1
  have V_b32_40 : Arv Z h40 b32 k32 .boolean (10 : Int32) [(.int (0 : Int32)), (.int (0 : Int32)), (.int (1 : Int32)), (.int (1 : Int32)), (.int (1 : Int32)), (.int (1 : Int32)), (.int (1 : Int32)), (.int (1 : Int32)), (.int (0 : Int32)), (.int (0 : Int32))] (.int (0 : Int32)) := V40
  show own_Ends _ _ _ _ _ _ _ T40 (mkF m 108 #[.val (.int p1), .val (.ref b1), .unset, .unset] [(.ref b32)])
  refine own_step (fun _ k => XS.dup X40.here hx rfl (hb hby at_108) rfl rfl k) ?_
  show own_Ends _ _ _ _ _ _ _ T40 (mkF m 109 #[.val (.int p1), .val (.ref b1), .unset, .unset] [(.ref b32), (.ref b32)])
  refine own_step (fun _ k => XS.bipush X40.here hx rfl (hb hby at_109) k) ?_
  show own_Ends _ _ _ _ _ _ _ T40 (mkF m 111 #[.val (.int p1), .val (.ref b1), .unset, .unset] [(.int (8 : Int32)), (.ref b32), (.ref b32)])
  refine own_step (fun _ k => XS.iconst X40.here hx rfl (hb hby at_111) k) ?_
  show own_Ends _ _ _ _ _ _ _ T40 (mkF m 112 #[.val (.int p1), .val (.ref b1), .unset, .unset] [(.int (1 : Int32)), (.int (8 : Int32)), (.ref b32), (.ref b32)])
  obtain ⟨T41, h41, l41, X41, e41, W41, V41, st41⟩ := own_stZ X40 hx hZ e40 V_b32_40 (j := (8 : Int32)) ⟨by decide, by decide⟩ 8 rfl (Nat.le_of_ble_eq_true rfl) (g := (mkF m 112 #[.val (.int p1), .val (.ref b1), .unset, .unset] [(.int (1 : Int32)), (.int (8 : Int32)), (.ref b32), (.ref b32)])) rfl rfl (hb hby at_112)
  refine own_step st41 ?_
  have N41 := Fr.snoc X41 N40 g_b32
  have Z41 := Nat.le_trans Z40 (Keep.of_wr W41).1
  have V_b32_41 : Arv Z h41 b32 k32 .boolean (10 : Int32) [(.int (0 : Int32)), (.int (0 : Int32)), (.int (1 : Int32)), (.int (1 : Int32)), (.int (1 : Int32)), (.int (1 : Int32)), (.int (1 : Int32)), (.int (1 : Int32)), (.int (1 : Int32)), (.int (0 : Int32))] (.int (0 : Int32)) := V41
  show own_Ends _ _ _ _ _ _ _ T41 (mkF m 113 #[.val (.int p1), .val (.ref b1), .unset, .unset] [(.ref b32)])
  refine own_step (fun _ k => XS.dup X41.here hx rfl (hb hby at_113) rfl rfl k) ?_
  show own_Ends _ _ _ _ _ _ _ T41 (mkF m 114 #[.val (.int p1), .val (.ref b1), .unset, .unset] [(.ref b32), (.ref b32)])
  refine own_step (fun _ k => XS.bipush X41.here hx rfl (hb hby at_114) k) ?_
  show own_Ends _ _ _ _ _ _ _ T41 (mkF m 116 #[.val (.int p1), .val (.ref b1), .unset, .unset] [(.int (9 : Int32)), (.ref b32), (.ref b32)])
  refine own_step (fun _ k => XS.iconst X41.here hx rfl (hb hby at_116) k) ?_
  show own_Ends _ _ _ _ _ _ _ T41 (mkF m 117 #[.val (.int p1), .val (.ref b1), .unset, .unset] [(.int (1 : Int32)), (.int (9 : Int32)), (.ref b32), (.ref b32)])
  obtain ⟨T42, h42, l42, X42, e42, W42, V42, st42⟩ := own_stZ X41 hx hZ e41 V_b32_41 (j := (9 : Int32)) ⟨by decide, by decide⟩ 9 rfl (Nat.le_of_ble_eq_true rfl) (g := (mkF m 117 #[.val (.int p1), .val (.ref b1), .unset, .unset] [(.int (1 : Int32)), (.int (9 : Int32)), (.ref b32), (.ref b32)])) rfl rfl (hb hby at_117)
  refine own_step st42 ?_
  have N42 := Fr.snoc X42 N41 g_b32
  have Z42 := Nat.le_trans Z41 (Keep.of_wr W42).1
  have V_b32_42 : Arv Z h42 b32 k32 .boolean (10 : Int32) [(.int (0 : Int32)), (.int (0 : Int32)), (.int (1 : Int32)), (.int (1 : Int32)), (.int (1 : Int32)), (.int (1 : Int32)), (.int (1 : Int32)), (.int (1 : Int32)), (.int (1 : Int32)), (.int (1 : Int32))] (.int (0 : Int32)) := V42
  show own_Ends _ _ _ _ _ _ _ T42 (mkF m 118 #[.val (.int p1), .val (.ref b1), .unset, .unset] [(.ref b32)])
  refine own_step (fun _ k => XS.astoreN X42.here hx rfl (hb hby at_118) rfl rfl (l' := #[.val (.int p1), .val (.ref b1), .val (.ref b32), .unset]) rfl k) ?_
  show own_Ends _ _ _ _ _ _ _ T42 (mkF m 119 #[.val (.int p1), .val (.ref b1), .val (.ref b32), .unset] [])
  refine own_step (fun _ k => XS.iloadN X42.here hx rfl (hb hby at_119) rfl k) ?_
  show own_Ends _ _ _ _ _ _ _ T42 (mkF m 120 #[.val (.int p1), .val (.ref b1), .val (.ref b32), .unset] [(.int p1)])
  refine own_step (X42.ldcInt hx hown (mvT hZ (hw _ (List.mem_of_getElem? (i := 25) rfl))) (g := (mkF m 120 #[.val (.int p1), .val (.ref b1), .val (.ref b32), .unset] [(.int p1)])) rfl (hb hby at_120)) ?_
  show own_Ends _ _ _ _ _ _ _ T42 (mkF m 122 #[.val (.int p1), .val (.ref b1), .val (.ref b32), .unset] [(.int (2147483647 : Int32)), (.int p1)])
  refine own_step (fun _ k => XS.iand X42.here hx rfl (hb hby at_122) rfl k) ?_
  show own_Ends _ _ _ _ _ _ _ T42 (mkF m 123 #[.val (.int p1), .val (.ref b1), .val (.ref b32), .unset] [(.int (p1 &&& (2147483647 : Int32)))])
  refine own_step (fun _ k => XS.bipush X42.here hx rfl (hb hby at_123) k) ?_
  show own_Ends _ _ _ _ _ _ _ T42 (mkF m 125 #[.val (.int p1), .val (.ref b1), .val (.ref b32), .unset] [(.int (10 : Int32)), (.int (p1 &&& (2147483647 : Int32)))])
  refine own_step (fun _ k => iremM X42 hx rfl (hb hby at_125) rfl (by decide) k) ?_
  show own_Ends _ _ _ _ _ _ _ T42 (mkF m 126 #[.val (.int p1), .val (.ref b1), .val (.ref b32), .unset] [(.int ((p1 &&& (2147483647 : Int32)) % (10 : Int32)))])
  refine own_step (fun _ k => XS.istoreN X42.here hx rfl (hb hby at_126) rfl (l' := #[.val (.int p1), .val (.ref b1), .val (.ref b32), .val (.int ((p1 &&& (2147483647 : Int32)) % (10 : Int32)))]) rfl k) ?_
  show own_Ends _ _ _ _ _ _ _ T42 (mkF m 127 #[.val (.int p1), .val (.ref b1), .val (.ref b32), .val (.int ((p1 &&& (2147483647 : Int32)) % (10 : Int32)))] [])
  rcases own_ten p1 with hq | hq | hq | hq | hq | hq | hq | hq | hq | hq
  · rw [hq]
    show own_Ends _ _ _ _ _ _ _ T42 (mkF m 127 #[.val (.int p1), .val (.ref b1), .val (.ref b32), .val (.int (0 : Int32))] [])
    refine own_step (fun _ k => XS.aloadN X42.here hx rfl (hb hby at_127) rfl rfl k) ?_
    show own_Ends _ _ _ _ _ _ _ T42 (mkF m 128 #[.val (.int p1), .val (.ref b1), .val (.ref b32), .val (.int (0 : Int32))] [(.ref b1)])
    refine own_step (fun _ k => XS.iloadN X42.here hx rfl (hb hby at_128) rfl k) ?_
    show own_Ends _ _ _ _ _ _ _ T42 (mkF m 129 #[.val (.int p1), .val (.ref b1), .val (.ref b32), .val (.int (0 : Int32))] [(.int (0 : Int32)), (.ref b1)])
    have Q43 := (((((((((((V_b1_31.ext E32).other W33 ne_b1_b32).other W34 ne_b1_b32).other W35 ne_b1_b32).other W36 ne_b1_b32).other W37 ne_b1_b32).other W38 ne_b1_b32).other W39 ne_b1_b32).other W40 ne_b1_b32).other W41 ne_b1_b32).other W42 ne_b1_b32)
    refine own_step (own_ldA X42 hx hZ e42 Q43 rfl (j := (0 : Int32)) (v := (.ref t0)) ⟨by decide, by decide⟩ rfl (g := (mkF m 129 #[.val (.int p1), .val (.ref b1), .val (.ref b32), .val (.int (0 : Int32))] [(.int (0 : Int32)), (.ref b1)])) rfl rfl (hb hby at_129)) ?_
    show own_Ends _ _ _ _ _ _ _ T42 (mkF m 130 #[.val (.int p1), .val (.ref b1), .val (.ref b32), .val (.int (0 : Int32))] [(.ref t0)])
    have Q44 := ((((((((((((Q30.wr W31 g_b1).ext E32).wr W33 g_b32).wr W34 g_b32).wr W35 g_b32).wr W36 g_b32).wr W37 g_b32).wr W38 g_b32).wr W39 g_b32).wr W40 g_b32).wr W41 g_b32).wr W42 g_b32)
    refine own_callV X42 hx hZ (y := (⟨"com/example/annotary/annotary/scoring/Metric", "overWords", "()Z"⟩ : MethodName)) (z := (⟨"com/example/annotary/annotary/scoring/Metric", "overWords", "()Z"⟩ : MethodName)) hown (hw _ (List.mem_of_getElem? (i := 26) rfl)) (hw _ (List.mem_of_getElem? (i := 27) rfl)) (hw _ (List.mem_of_getElem? (i := 29) rfl)) (hw _ (List.mem_of_getElem? (i := 29) rfl)) (hw _ (List.mem_of_getElem? (i := 28) rfl)) (hw _ (List.mem_of_getElem? (i := 3) rfl)) (hw _ (List.mem_of_getElem? (i := 30) rfl)) (by decide) (rm1 l Z a0 hw [] t0 t0 t1 h42 n0 Z42 Q44 S_t0 S_t1) e42 (b := t0) (E_t0.ext Q44.2) 0 (by decide) (by decide) (by decide) (by decide) (g := (mkF m 130 #[.val (.int p1), .val (.ref b1), .val (.ref b32), .val (.int (0 : Int32))] [(.ref t0)])) rfl (by rw [hml]; rfl) [] [] pd_0 rfl rfl rfl (by show 2 * 0 + _ ≤ _; exact Nat.le_of_eq rfl) (hb hby at_130) ?_
    rintro v45 T45 L45 X45 ⟨rfl, Nq45, e45⟩
    have N45 := Fr.app N42 Nq45
    show own_Ends _ _ _ _ _ _ _ T45 (mkF m 133 #[.val (.int p1), .val (.ref b1), .val (.ref b32), .val (.int (0 : Int32))] [(.int (own_ow t0 t0 t1))])
    refine own_step (fun _ k => XS.aloadN X45.here hx rfl (hb hby at_133) rfl rfl k) ?_
    show own_Ends _ _ _ _ _ _ _ T45 (mkF m 134 #[.val (.int p1), .val (.ref b1), .val (.ref b32), .val (.int (0 : Int32))] [(.ref b32), (.int (own_ow t0 t0 t1))])
    refine own_step (fun _ k => XS.iloadN X45.here hx rfl (hb hby at_134) rfl k) ?_
    show own_Ends _ _ _ _ _ _ _ T45 (mkF m 135 #[.val (.int p1), .val (.ref b1), .val (.ref b32), .val (.int (0 : Int32))] [(.int (0 : Int32)), (.ref b32), (.int (own_ow t0 t0 t1))])
    refine own_step (own_ldZ X45 hx hZ e45 V_b32_42 (j := (0 : Int32)) (v := (.int (0 : Int32))) ⟨by decide, by decide⟩ rfl (g := (mkF m 135 #[.val (.int p1), .val (.ref b1), .val (.ref b32), .val (.int (0 : Int32))] [(.int (0 : Int32)), (.ref b32), (.int (own_ow t0 t0 t1))])) rfl rfl (hb hby at_135)) ?_
    show own_Ends _ _ _ _ _ _ _ T45 (mkF m 136 #[.val (.int p1), .val (.ref b1), .val (.ref b32), .val (.int (0 : Int32))] [(.int (0 : Int32)), (.int (own_ow t0 t0 t1))])
    refine own_step (fun _ k => XS.icmpNo X45.here hx rfl (hb hby at_136) rfl (teq (show own_ow t0 t0 t1 = (0 : Int32) from if_pos rfl)).2 k) ?_
    show own_Ends _ _ _ _ _ _ _ T45 (mkF m 139 #[.val (.int p1), .val (.ref b1), .val (.ref b32), .val (.int (0 : Int32))] [])
    refine own_step (fun _ k => XS.iconst X45.here hx rfl (hb hby at_139) k) ?_
    show own_Ends _ _ _ _ _ _ _ T45 (mkF m 140 #[.val (.int p1), .val (.ref b1), .val (.ref b32), .val (.int (0 : Int32))] [(.int (1 : Int32))])
    refine own_step (fun _ k => XS.goto X45.here hx rfl (pc0 := 140) (pc' := 144) rfl (hb hby at_140) (by decide) (by decide) k) ?_
    show own_Ends _ _ _ _ _ _ _ T45 (mkF m 144 #[.val (.int p1), .val (.ref b1), .val (.ref b32), .val (.int (0 : Int32))] [(.int (1 : Int32))])
    exact own_retN X45 hx (t := .boolean) hret (by simp) hlk (hb hby at_144) rfl ⟨rfl, N45⟩ (by decide) (by decide)
  · rw [hq]
    show own_Ends _ _ _ _ _ _ _ T42 (mkF m 127 #[.val (.int p1), .val (.ref b1), .val (.ref b32), .val (.int (1 : Int32))] [])
    refine own_step (fun _ k => XS.aloadN X42.here hx rfl (hb hby at_127) rfl rfl k) ?_
    show own_Ends _ _ _ _ _ _ _ T42 (mkF m 128 #[.val (.int p1), .val (.ref b1), .val (.ref b32), .val (.int (1 : Int32))] [(.ref b1)])
    refine own_step (fun _ k => XS.iloadN X42.here hx rfl (hb hby at_128) rfl k) ?_
    show own_Ends _ _ _ _ _ _ _ T42 (mkF m 129 #[.val (.int p1), .val (.ref b1), .val (.ref b32), .val (.int (1 : Int32))] [(.int (1 : Int32)), (.ref b1)])
    have Q46 := (((((((((((V_b1_31.ext E32).other W33 ne_b1_b32).other W34 ne_b1_b32).other W35 ne_b1_b32).other W36 ne_b1_b32).other W37 ne_b1_b32).other W38 ne_b1_b32).other W39 ne_b1_b32).other W40 ne_b1_b32).other W41 ne_b1_b32).other W42 ne_b1_b32)
    refine own_step (own_ldA X42 hx hZ e42 Q46 rfl (j := (1 : Int32)) (v := (.ref t1)) ⟨by decide, by decide⟩ rfl (g := (mkF m 129 #[.val (.int p1), .val (.ref b1), .val (.ref b32), .val (.int (1 : Int32))] [(.int (1 : Int32)), (.ref b1)])) rfl rfl (hb hby at_129)) ?_
    show own_Ends _ _ _ _ _ _ _ T42 (mkF m 130 #[.val (.int p1), .val (.ref b1), .val (.ref b32), .val (.int (1 : Int32))] [(.ref t1)])
    have Q47 := ((((((((((((Q30.wr W31 g_b1).ext E32).wr W33 g_b32).wr W34 g_b32).wr W35 g_b32).wr W36 g_b32).wr W37 g_b32).wr W38 g_b32).wr W39 g_b32).wr W40 g_b32).wr W41 g_b32).wr W42 g_b32)
    refine own_callV X42 hx hZ (y := (⟨"com/example/annotary/annotary/scoring/Metric", "overWords", "()Z"⟩ : MethodName)) (z := (⟨"com/example/annotary/annotary/scoring/Metric", "overWords", "()Z"⟩ : MethodName)) hown (hw _ (List.mem_of_getElem? (i := 26) rfl)) (hw _ (List.mem_of_getElem? (i := 27) rfl)) (hw _ (List.mem_of_getElem? (i := 29) rfl)) (hw _ (List.mem_of_getElem? (i := 29) rfl)) (hw _ (List.mem_of_getElem? (i := 28) rfl)) (hw _ (List.mem_of_getElem? (i := 3) rfl)) (hw _ (List.mem_of_getElem? (i := 30) rfl)) (by decide) (rm1 l Z a0 hw [] t1 t0 t1 h42 n0 Z42 Q47 S_t0 S_t1) e42 (b := t1) (E_t1.ext Q47.2) 0 (by decide) (by decide) (by decide) (by decide) (g := (mkF m 130 #[.val (.int p1), .val (.ref b1), .val (.ref b32), .val (.int (1 : Int32))] [(.ref t1)])) rfl (by rw [hml]; rfl) [] [] pd_0 rfl rfl rfl (by show 2 * 0 + _ ≤ _; exact Nat.le_of_eq rfl) (hb hby at_130) ?_
    rintro v48 T48 L48 X48 ⟨rfl, Nq48, e48⟩
    have N48 := Fr.app N42 Nq48
    show own_Ends _ _ _ _ _ _ _ T48 (mkF m 133 #[.val (.int p1), .val (.ref b1), .val (.ref b32), .val (.int (1 : Int32))] [(.int (own_ow t1 t0 t1))])
    refine own_step (fun _ k => XS.aloadN X48.here hx rfl (hb hby at_133) rfl rfl k) ?_
    show own_Ends _ _ _ _ _ _ _ T48 (mkF m 134 #[.val (.int p1), .val (.ref b1), .val (.ref b32), .val (.int (1 : Int32))] [(.ref b32), (.int (own_ow t1 t0 t1))])
    refine own_step (fun _ k => XS.iloadN X48.here hx rfl (hb hby at_134) rfl k) ?_
    show own_Ends _ _ _ _ _ _ _ T48 (mkF m 135 #[.val (.int p1), .val (.ref b1), .val (.ref b32), .val (.int (1 : Int32))] [(.int (1 : Int32)), (.ref b32), (.int (own_ow t1 t0 t1))])
    refine own_step (own_ldZ X48 hx hZ e48 V_b32_42 (j := (1 : Int32)) (v := (.int (0 : Int32))) ⟨by decide, by decide⟩ rfl (g := (mkF m 135 #[.val (.int p1), .val (.ref b1), .val (.ref b32), .val (.int (1 : Int32))] [(.int (1 : Int32)), (.ref b32), (.int (own_ow t1 t0 t1))])) rfl rfl (hb hby at_135)) ?_
    show own_Ends _ _ _ _ _ _ _ T48 (mkF m 136 #[.val (.int p1), .val (.ref b1), .val (.ref b32), .val (.int (1 : Int32))] [(.int (0 : Int32)), (.int (own_ow t1 t0 t1))])
    refine own_step (fun _ k => XS.icmpNo X48.here hx rfl (hb hby at_136) rfl (teq (show own_ow t1 t0 t1 = (0 : Int32) from (if_neg n1_0).trans (if_pos rfl))).2 k) ?_
    show own_Ends _ _ _ _ _ _ _ T48 (mkF m 139 #[.val (.int p1), .val (.ref b1), .val (.ref b32), .val (.int (1 : Int32))] [])
    refine own_step (fun _ k => XS.iconst X48.here hx rfl (hb hby at_139) k) ?_
    show own_Ends _ _ _ _ _ _ _ T48 (mkF m 140 #[.val (.int p1), .val (.ref b1), .val (.ref b32), .val (.int (1 : Int32))] [(.int (1 : Int32))])
    refine own_step (fun _ k => XS.goto X48.here hx rfl (pc0 := 140) (pc' := 144) rfl (hb hby at_140) (by decide) (by decide) k) ?_
    show own_Ends _ _ _ _ _ _ _ T48 (mkF m 144 #[.val (.int p1), .val (.ref b1), .val (.ref b32), .val (.int (1 : Int32))] [(.int (1 : Int32))])
    exact own_retN X48 hx (t := .boolean) hret (by simp) hlk (hb hby at_144) rfl ⟨rfl, N48⟩ (by decide) (by decide)
  · rw [hq]
    show own_Ends _ _ _ _ _ _ _ T42 (mkF m 127 #[.val (.int p1), .val (.ref b1), .val (.ref b32), .val (.int (2 : Int32))] [])
    refine own_step (fun _ k => XS.aloadN X42.here hx rfl (hb hby at_127) rfl rfl k) ?_
    show own_Ends _ _ _ _ _ _ _ T42 (mkF m 128 #[.val (.int p1), .val (.ref b1), .val (.ref b32), .val (.int (2 : Int32))] [(.ref b1)])
    refine own_step (fun _ k => XS.iloadN X42.here hx rfl (hb hby at_128) rfl k) ?_
    show own_Ends _ _ _ _ _ _ _ T42 (mkF m 129 #[.val (.int p1), .val (.ref b1), .val (.ref b32), .val (.int (2 : Int32))] [(.int (2 : Int32)), (.ref b1)])
    have Q49 := (((((((((((V_b1_31.ext E32).other W33 ne_b1_b32).other W34 ne_b1_b32).other W35 ne_b1_b32).other W36 ne_b1_b32).other W37 ne_b1_b32).other W38 ne_b1_b32).other W39 ne_b1_b32).other W40 ne_b1_b32).other W41 ne_b1_b32).other W42 ne_b1_b32)
    refine own_step (own_ldA X42 hx hZ e42 Q49 rfl (j := (2 : Int32)) (v := (.ref t2)) ⟨by decide, by decide⟩ rfl (g := (mkF m 129 #[.val (.int p1), .val (.ref b1), .val (.ref b32), .val (.int (2 : Int32))] [(.int (2 : Int32)), (.ref b1)])) rfl rfl (hb hby at_129)) ?_
    show own_Ends _ _ _ _ _ _ _ T42 (mkF m 130 #[.val (.int p1), .val (.ref b1), .val (.ref b32), .val (.int (2 : Int32))] [(.ref t2)])
    have Q50 := ((((((((((((Q30.wr W31 g_b1).ext E32).wr W33 g_b32).wr W34 g_b32).wr W35 g_b32).wr W36 g_b32).wr W37 g_b32).wr W38 g_b32).wr W39 g_b32).wr W40 g_b32).wr W41 g_b32).wr W42 g_b32)
    refine own_callV X42 hx hZ (y := (⟨"com/example/annotary/annotary/scoring/Metric", "overWords", "()Z"⟩ : MethodName)) (z := (⟨"com/example/annotary/annotary/scoring/Metric", "overWords", "()Z"⟩ : MethodName)) hown (hw _ (List.mem_of_getElem? (i := 26) rfl)) (hw _ (List.mem_of_getElem? (i := 27) rfl)) (hw _ (List.mem_of_getElem? (i := 29) rfl)) (hw _ (List.mem_of_getElem? (i := 29) rfl)) (hw _ (List.mem_of_getElem? (i := 28) rfl)) (hw _ (List.mem_of_getElem? (i := 3) rfl)) (hw _ (List.mem_of_getElem? (i := 30) rfl)) (by decide) (rm1 l Z a0 hw [] t2 t0 t1 h42 n0 Z42 Q50 S_t0 S_t1) e42 (b := t2) (E_t2.ext Q50.2) 0 (by decide) (by decide) (by decide) (by decide) (g := (mkF m 130 #[.val (.int p1), .val (.ref b1), .val (.ref b32), .val (.int (2 : Int32))] [(.ref t2)])) rfl (by rw [hml]; rfl) [] [] pd_0 rfl rfl rfl (by show 2 * 0 + _ ≤ _; exact Nat.le_of_eq rfl) (hb hby at_130) ?_
    rintro v51 T51 L51 X51 ⟨rfl, Nq51, e51⟩
    have N51 := Fr.app N42 Nq51
    show own_Ends _ _ _ _ _ _ _ T51 (mkF m 133 #[.val (.int p1), .val (.ref b1), .val (.ref b32), .val (.int (2 : Int32))] [(.int (own_ow t2 t0 t1))])
    refine own_step (fun _ k => XS.aloadN X51.here hx rfl (hb hby at_133) rfl rfl k) ?_
    show own_Ends _ _ _ _ _ _ _ T51 (mkF m 134 #[.val (.int p1), .val (.ref b1), .val (.ref b32), .val (.int (2 : Int32))] [(.ref b32), (.int (own_ow t2 t0 t1))])
    refine own_step (fun _ k => XS.iloadN X51.here hx rfl (hb hby at_134) rfl k) ?_
    show own_Ends _ _ _ _ _ _ _ T51 (mkF m 135 #[.val (.int p1), .val (.ref b1), .val (.ref b32), .val (.int (2 : Int32))] [(.int (2 : Int32)), (.ref b32), (.int (own_ow t2 t0 t1))])
    refine own_step (own_ldZ X51 hx hZ e51 V_b32_42 (j := (2 : Int32)) (v := (.int (1 : Int32))) ⟨by decide, by decide⟩ rfl (g := (mkF m 135 #[.val (.int p1), .val (.ref b1), .val (.ref b32), .val (.int (2 : Int32))] [(.int (2 : Int32)), (.ref b32), (.int (own_ow t2 t0 t1))])) rfl rfl (hb hby at_135)) ?_
    show own_Ends _ _ _ _ _ _ _ T51 (mkF m 136 #[.val (.int p1), .val (.ref b1), .val (.ref b32), .val (.int (2 : Int32))] [(.int (1 : Int32)), (.int (own_ow t2 t0 t1))])
    refine own_step (fun _ k => XS.icmpNo X51.here hx rfl (hb hby at_136) rfl (teq (show own_ow t2 t0 t1 = (1 : Int32) from (if_neg n2_0).trans (if_neg n2_1))).2 k) ?_
    show own_Ends _ _ _ _ _ _ _ T51 (mkF m 139 #[.val (.int p1), .val (.ref b1), .val (.ref b32), .val (.int (2 : Int32))] [])
    refine own_step (fun _ k => XS.iconst X51.here hx rfl (hb hby at_139) k) ?_
    show own_Ends _ _ _ _ _ _ _ T51 (mkF m 140 #[.val (.int p1), .val (.ref b1), .val (.ref b32), .val (.int (2 : Int32))] [(.int (1 : Int32))])
    refine own_step (fun _ k => XS.goto X51.here hx rfl (pc0 := 140) (pc' := 144) rfl (hb hby at_140) (by decide) (by decide) k) ?_
    show own_Ends _ _ _ _ _ _ _ T51 (mkF m 144 #[.val (.int p1), .val (.ref b1), .val (.ref b32), .val (.int (2 : Int32))] [(.int (1 : Int32))])
    exact own_retN X51 hx (t := .boolean) hret (by simp) hlk (hb hby at_144) rfl ⟨rfl, N51⟩ (by decide) (by decide)
  · rw [hq]
    show own_Ends _ _ _ _ _ _ _ T42 (mkF m 127 #[.val (.int p1), .val (.ref b1), .val (.ref b32), .val (.int (3 : Int32))] [])
    refine own_step (fun _ k => XS.aloadN X42.here hx rfl (hb hby at_127) rfl rfl k) ?_
    show own_Ends _ _ _ _ _ _ _ T42 (mkF m 128 #[.val (.int p1), .val (.ref b1), .val (.ref b32), .val (.int (3 : Int32))] [(.ref b1)])
    refine own_step (fun _ k => XS.iloadN X42.here hx rfl (hb hby at_128) rfl k) ?_
    show own_Ends _ _ _ _ _ _ _ T42 (mkF m 129 #[.val (.int p1), .val (.ref b1), .val (.ref b32), .val (.int (3 : Int32))] [(.int (3 : Int32)), (.ref b1)])
    have Q52 := (((((((((((V_b1_31.ext E32).other W33 ne_b1_b32).other W34 ne_b1_b32).other W35 ne_b1_b32).other W36 ne_b1_b32).other W37 ne_b1_b32).other W38 ne_b1_b32).other W39 ne_b1_b32).other W40 ne_b1_b32).other W41 ne_b1_b32).other W42 ne_b1_b32)
    refine own_step (own_ldA X42 hx hZ e42 Q52 rfl (j := (3 : Int32)) (v := (.ref t3)) ⟨by decide, by decide⟩ rfl (g := (mkF m 129 #[.val (.int p1), .val (.ref b1), .val (.ref b32), .val (.int (3 : Int32))] [(.int (3 : Int32)), (.ref b1)])) rfl rfl (hb hby at_129)) ?_
    show own_Ends _ _ _ _ _ _ _ T42 (mkF m 130 #[.val (.int p1), .val (.ref b1), .val (.ref b32), .val (.int (3 : Int32))] [(.ref t3)])
    have Q53 := ((((((((((((Q30.wr W31 g_b1).ext E32).wr W33 g_b32).wr W34 g_b32).wr W35 g_b32).wr W36 g_b32).wr W37 g_b32).wr W38 g_b32).wr W39 g_b32).wr W40 g_b32).wr W41 g_b32).wr W42 g_b32)
    refine own_callV X42 hx hZ (y := (⟨"com/example/annotary/annotary/scoring/Metric", "overWords", "()Z"⟩ : MethodName)) (z := (⟨"com/example/annotary/annotary/scoring/Metric", "overWords", "()Z"⟩ : MethodName)) hown (hw _ (List.mem_of_getElem? (i := 26) rfl)) (hw _ (List.mem_of_getElem? (i := 27) rfl)) (hw _ (List.mem_of_getElem? (i := 29) rfl)) (hw _ (List.mem_of_getElem? (i := 29) rfl)) (hw _ (List.mem_of_getElem? (i := 28) rfl)) (hw _ (List.mem_of_getElem? (i := 3) rfl)) (hw _ (List.mem_of_getElem? (i := 30) rfl)) (by decide) (rm1 l Z a0 hw [] t3 t0 t1 h42 n0 Z42 Q53 S_t0 S_t1) e42 (b := t3) (E_t3.ext Q53.2) 0 (by decide) (by decide) (by decide) (by decide) (g := (mkF m 130 #[.val (.int p1), .val (.ref b1), .val (.ref b32), .val (.int (3 : Int32))] [(.ref t3)])) rfl (by rw [hml]; rfl) [] [] pd_0 rfl rfl rfl (by show 2 * 0 + _ ≤ _; exact Nat.le_of_eq rfl) (hb hby at_130) ?_
    rintro v54 T54 L54 X54 ⟨rfl, Nq54, e54⟩
    have N54 := Fr.app N42 Nq54
    show own_Ends _ _ _ _ _ _ _ T54 (mkF m 133 #[.val (.int p1), .val (.ref b1), .val (.ref b32), .val (.int (3 : Int32))] [(.int (own_ow t3 t0 t1))])
    refine own_step (fun _ k => XS.aloadN X54.here hx rfl (hb hby at_133) rfl rfl k) ?_
    show own_Ends _ _ _ _ _ _ _ T54 (mkF m 134 #[.val (.int p1), .val (.ref b1), .val (.ref b32), .val (.int (3 : Int32))] [(.ref b32), (.int (own_ow t3 t0 t1))])
    refine own_step (fun _ k => XS.iloadN X54.here hx rfl (hb hby at_134) rfl k) ?_
    show own_Ends _ _ _ _ _ _ _ T54 (mkF m 135 #[.val (.int p1), .val (.ref b1), .val (.ref b32), .val (.int (3 : Int32))] [(.int (3 : Int32)), (.ref b32), (.int (own_ow t3 t0 t1))])
    refine own_step (own_ldZ X54 hx hZ e54 V_b32_42 (j := (3 : Int32)) (v := (.int (1 : Int32))) ⟨by decide, by decide⟩ rfl (g := (mkF m 135 #[.val (.int p1), .val (.ref b1), .val (.ref b32), .val (.int (3 : Int32))] [(.int (3 : Int32)), (.ref b32), (.int (own_ow t3 t0 t1))])) rfl rfl (hb hby at_135)) ?_
    show own_Ends _ _ _ _ _ _ _ T54 (mkF m 136 #[.val (.int p1), .val (.ref b1), .val (.ref b32), .val (.int (3 : Int32))] [(.int (1 : Int32)), (.int (own_ow t3 t0 t1))])
    refine own_step (fun _ k => XS.icmpNo X54.here hx rfl (hb hby at_136) rfl (teq (show own_ow t3 t0 t1 = (1 : Int32) from (if_neg n3_0).trans (if_neg n3_1))).2 k) ?_
    show own_Ends _ _ _ _ _ _ _ T54 (mkF m 139 #[.val (.int p1), .val (.ref b1), .val (.ref b32), .val (.int (3 : Int32))] [])
    refine own_step (fun _ k => XS.iconst X54.here hx rfl (hb hby at_139) k) ?_
    show own_Ends _ _ _ _ _ _ _ T54 (mkF m 140 #[.val (.int p1), .val (.ref b1), .val (.ref b32), .val (.int (3 : Int32))] [(.int (1 : Int32))])
    refine own_step (fun _ k => XS.goto X54.here hx rfl (pc0 := 140) (pc' := 144) rfl (hb hby at_140) (by decide) (by decide) k) ?_
    show own_Ends _ _ _ _ _ _ _ T54 (mkF m 144 #[.val (.int p1), .val (.ref b1), .val (.ref b32), .val (.int (3 : Int32))] [(.int (1 : Int32))])
    exact own_retN X54 hx (t := .boolean) hret (by simp) hlk (hb hby at_144) rfl ⟨rfl, N54⟩ (by decide) (by decide)
  · rw [hq]
    show own_Ends _ _ _ _ _ _ _ T42 (mkF m 127 #[.val (.int p1), .val (.ref b1), .val (.ref b32), .val (.int (4 : Int32))] [])
    refine own_step (fun _ k => XS.aloadN X42.here hx rfl (hb hby at_127) rfl rfl k) ?_
    show own_Ends _ _ _ _ _ _ _ T42 (mkF m 128 #[.val (.int p1), .val (.ref b1), .val (.ref b32), .val (.int (4 : Int32))] [(.ref b1)])
    refine own_step (fun _ k => XS.iloadN X42.here hx rfl (hb hby at_128) rfl k) ?_
    show own_Ends _ _ _ _ _ _ _ T42 (mkF m 129 #[.val (.int p1), .val (.ref b1), .val (.ref b32), .val (.int (4 : Int32))] [(.int (4 : Int32)), (.ref b1)])
    have Q55 := (((((((((((V_b1_31.ext E32).other W33 ne_b1_b32).other W34 ne_b1_b32).other W35 ne_b1_b32).other W36 ne_b1_b32).other W37 ne_b1_b32).other W38 ne_b1_b32).other W39 ne_b1_b32).other W40 ne_b1_b32).other W41 ne_b1_b32).other W42 ne_b1_b32)
    refine own_step (own_ldA X42 hx hZ e42 Q55 rfl (j := (4 : Int32)) (v := (.ref t4)) ⟨by decide, by decide⟩ rfl (g := (mkF m 129 #[.val (.int p1), .val (.ref b1), .val (.ref b32), .val (.int (4 : Int32))] [(.int (4 : Int32)), (.ref b1)])) rfl rfl (hb hby at_129)) ?_
    show own_Ends _ _ _ _ _ _ _ T42 (mkF m 130 #[.val (.int p1), .val (.ref b1), .val (.ref b32), .val (.int (4 : Int32))] [(.ref t4)])
    have Q56 := ((((((((((((Q30.wr W31 g_b1).ext E32).wr W33 g_b32).wr W34 g_b32).wr W35 g_b32).wr W36 g_b32).wr W37 g_b32).wr W38 g_b32).wr W39 g_b32).wr W40 g_b32).wr W41 g_b32).wr W42 g_b32)
    refine own_callV X42 hx hZ (y := (⟨"com/example/annotary/annotary/scoring/Metric", "overWords", "()Z"⟩ : MethodName)) (z := (⟨"com/example/annotary/annotary/scoring/Metric", "overWords", "()Z"⟩ : MethodName)) hown (hw _ (List.mem_of_getElem? (i := 26) rfl)) (hw _ (List.mem_of_getElem? (i := 27) rfl)) (hw _ (List.mem_of_getElem? (i := 29) rfl)) (hw _ (List.mem_of_getElem? (i := 29) rfl)) (hw _ (List.mem_of_getElem? (i := 28) rfl)) (hw _ (List.mem_of_getElem? (i := 3) rfl)) (hw _ (List.mem_of_getElem? (i := 30) rfl)) (by decide) (rm1 l Z a0 hw [] t4 t0 t1 h42 n0 Z42 Q56 S_t0 S_t1) e42 (b := t4) (E_t4.ext Q56.2) 0 (by decide) (by decide) (by decide) (by decide) (g := (mkF m 130 #[.val (.int p1), .val (.ref b1), .val (.ref b32), .val (.int (4 : Int32))] [(.ref t4)])) rfl (by rw [hml]; rfl) [] [] pd_0 rfl rfl rfl (by show 2 * 0 + _ ≤ _; exact Nat.le_of_eq rfl) (hb hby at_130) ?_
    rintro v57 T57 L57 X57 ⟨rfl, Nq57, e57⟩
    have N57 := Fr.app N42 Nq57
    show own_Ends _ _ _ _ _ _ _ T57 (mkF m 133 #[.val (.int p1), .val (.ref b1), .val (.ref b32), .val (.int (4 : Int32))] [(.int (own_ow t4 t0 t1))])
    refine own_step (fun _ k => XS.aloadN X57.here hx rfl (hb hby at_133) rfl rfl k) ?_
    show own_Ends _ _ _ _ _ _ _ T57 (mkF m 134 #[.val (.int p1), .val (.ref b1), .val (.ref b32), .val (.int (4 : Int32))] [(.ref b32), (.int (own_ow t4 t0 t1))])
    refine own_step (fun _ k => XS.iloadN X57.here hx rfl (hb hby at_134) rfl k) ?_
    show own_Ends _ _ _ _ _ _ _ T57 (mkF m 135 #[.val (.int p1), .val (.ref b1), .val (.ref b32), .val (.int (4 : Int32))] [(.int (4 : Int32)), (.ref b32), (.int (own_ow t4 t0 t1))])
    refine own_step (own_ldZ X57 hx hZ e57 V_b32_42 (j := (4 : Int32)) (v := (.int (1 : Int32))) ⟨by decide, by decide⟩ rfl (g := (mkF m 135 #[.val (.int p1), .val (.ref b1), .val (.ref b32), .val (.int (4 : Int32))] [(.int (4 : Int32)), (.ref b32), (.int (own_ow t4 t0 t1))])) rfl rfl (hb hby at_135)) ?_
    show own_Ends _ _ _ _ _ _ _ T57 (mkF m 136 #[.val (.int p1), .val (.ref b1), .val (.ref b32), .val (.int (4 : Int32))] [(.int (1 : Int32)), (.int (own_ow t4 t0 t1))])
    refine own_step (fun _ k => XS.icmpNo X57.here hx rfl (hb hby at_136) rfl (teq (show own_ow t4 t0 t1 = (1 : Int32) from (if_neg n4_0).trans (if_neg n4_1))).2 k) ?_
    show own_Ends _ _ _ _ _ _ _ T57 (mkF m 139 #[.val (.int p1), .val (.ref b1), .val (.ref b32), .val (.int (4 : Int32))] [])
    refine own_step (fun _ k => XS.iconst X57.here hx rfl (hb hby at_139) k) ?_
    show own_Ends _ _ _ _ _ _ _ T57 (mkF m 140 #[.val (.int p1), .val (.ref b1), .val (.ref b32), .val (.int (4 : Int32))] [(.int (1 : Int32))])
    refine own_step (fun _ k => XS.goto X57.here hx rfl (pc0 := 140) (pc' := 144) rfl (hb hby at_140) (by decide) (by decide) k) ?_
    show own_Ends _ _ _ _ _ _ _ T57 (mkF m 144 #[.val (.int p1), .val (.ref b1), .val (.ref b32), .val (.int (4 : Int32))] [(.int (1 : Int32))])
    exact own_retN X57 hx (t := .boolean) hret (by simp) hlk (hb hby at_144) rfl ⟨rfl, N57⟩ (by decide) (by decide)
  · rw [hq]
    show own_Ends _ _ _ _ _ _ _ T42 (mkF m 127 #[.val (.int p1), .val (.ref b1), .val (.ref b32), .val (.int (5 : Int32))] [])
    refine own_step (fun _ k => XS.aloadN X42.here hx rfl (hb hby at_127) rfl rfl k) ?_
    show own_Ends _ _ _ _ _ _ _ T42 (mkF m 128 #[.val (.int p1), .val (.ref b1), .val (.ref b32), .val (.int (5 : Int32))] [(.ref b1)])
    refine own_step (fun _ k => XS.iloadN X42.here hx rfl (hb hby at_128) rfl k) ?_
    show own_Ends _ _ _ _ _ _ _ T42 (mkF m 129 #[.val (.int p1), .val (.ref b1), .val (.ref b32), .val (.int (5 : Int32))] [(.int (5 : Int32)), (.ref b1)])
    have Q58 := (((((((((((V_b1_31.ext E32).other W33 ne_b1_b32).other W34 ne_b1_b32).other W35 ne_b1_b32).other W36 ne_b1_b32).other W37 ne_b1_b32).other W38 ne_b1_b32).other W39 ne_b1_b32).other W40 ne_b1_b32).other W41 ne_b1_b32).other W42 ne_b1_b32)
    refine own_step (own_ldA X42 hx hZ e42 Q58 rfl (j := (5 : Int32)) (v := (.ref t5)) ⟨by decide, by decide⟩ rfl (g := (mkF m 129 #[.val (.int p1), .val (.ref b1), .val (.ref b32), .val (.int (5 : Int32))] [(.int (5 : Int32)), (.ref b1)])) rfl rfl (hb hby at_129)) ?_
    show own_Ends _ _ _ _ _ _ _ T42 (mkF m 130 #[.val (.int p1), .val (.ref b1), .val (.ref b32), .val (.int (5 : Int32))] [(.ref t5)])
    have Q59 := ((((((((((((Q30.wr W31 g_b1).ext E32).wr W33 g_b32).wr W34 g_b32).wr W35 g_b32).wr W36 g_b32).wr W37 g_b32).wr W38 g_b32).wr W39 g_b32).wr W40 g_b32).wr W41 g_b32).wr W42 g_b32)
    refine own_callV X42 hx hZ (y := (⟨"com/example/annotary/annotary/scoring/Metric", "overWords", "()Z"⟩ : MethodName)) (z := (⟨"com/example/annotary/annotary/scoring/Metric", "overWords", "()Z"⟩ : MethodName)) hown (hw _ (List.mem_of_getElem? (i := 26) rfl)) (hw _ (List.mem_of_getElem? (i := 27) rfl)) (hw _ (List.mem_of_getElem? (i := 29) rfl)) (hw _ (List.mem_of_getElem? (i := 29) rfl)) (hw _ (List.mem_of_getElem? (i := 28) rfl)) (hw _ (List.mem_of_getElem? (i := 3) rfl)) (hw _ (List.mem_of_getElem? (i := 30) rfl)) (by decide) (rm1 l Z a0 hw [] t5 t0 t1 h42 n0 Z42 Q59 S_t0 S_t1) e42 (b := t5) (E_t5.ext Q59.2) 0 (by decide) (by decide) (by decide) (by decide) (g := (mkF m 130 #[.val (.int p1), .val (.ref b1), .val (.ref b32), .val (.int (5 : Int32))] [(.ref t5)])) rfl (by rw [hml]; rfl) [] [] pd_0 rfl rfl rfl (by show 2 * 0 + _ ≤ _; exact Nat.le_of_eq rfl) (hb hby at_130) ?_
    rintro v60 T60 L60 X60 ⟨rfl, Nq60, e60⟩
    have N60 := Fr.app N42 Nq60
    show own_Ends _ _ _ _ _ _ _ T60 (mkF m 133 #[.val (.int p1), .val (.ref b1), .val (.ref b32), .val (.int (5 : Int32))] [(.int (own_ow t5 t0 t1))])
    refine own_step (fun _ k => XS.aloadN X60.here hx rfl (hb hby at_133) rfl rfl k) ?_
    show own_Ends _ _ _ _ _ _ _ T60 (mkF m 134 #[.val (.int p1), .val (.ref b1), .val (.ref b32), .val (.int (5 : Int32))] [(.ref b32), (.int (own_ow t5 t0 t1))])
    refine own_step (fun _ k => XS.iloadN X60.here hx rfl (hb hby at_134) rfl k) ?_
    show own_Ends _ _ _ _ _ _ _ T60 (mkF m 135 #[.val (.int p1), .val (.ref b1), .val (.ref b32), .val (.int (5 : Int32))] [(.int (5 : Int32)), (.ref b32), (.int (own_ow t5 t0 t1))])
    refine own_step (own_ldZ X60 hx hZ e60 V_b32_42 (j := (5 : Int32)) (v := (.int (1 : Int32))) ⟨by decide, by decide⟩ rfl (g := (mkF m 135 #[.val (.int p1), .val (.ref b1), .val (.ref b32), .val (.int (5 : Int32))] [(.int (5 : Int32)), (.ref b32), (.int (own_ow t5 t0 t1))])) rfl rfl (hb hby at_135)) ?_
    show own_Ends _ _ _ _ _ _ _ T60 (mkF m 136 #[.val (.int p1), .val (.ref b1), .val (.ref b32), .val (.int (5 : Int32))] [(.int (1 : Int32)), (.int (own_ow t5 t0 t1))])
    refine own_step (fun _ k => XS.icmpNo X60.here hx rfl (hb hby at_136) rfl (teq (show own_ow t5 t0 t1 = (1 : Int32) from (if_neg n5_0).trans (if_neg n5_1))).2 k) ?_
    show own_Ends _ _ _ _ _ _ _ T60 (mkF m 139 #[.val (.int p1), .val (.ref b1), .val (.ref b32), .val (.int (5 : Int32))] [])
    refine own_step (fun _ k => XS.iconst X60.here hx rfl (hb hby at_139) k) ?_
    show own_Ends _ _ _ _ _ _ _ T60 (mkF m 140 #[.val (.int p1), .val (.ref b1), .val (.ref b32), .val (.int (5 : Int32))] [(.int (1 : Int32))])
    refine own_step (fun _ k => XS.goto X60.here hx rfl (pc0 := 140) (pc' := 144) rfl (hb hby at_140) (by decide) (by decide) k) ?_
    show own_Ends _ _ _ _ _ _ _ T60 (mkF m 144 #[.val (.int p1), .val (.ref b1), .val (.ref b32), .val (.int (5 : Int32))] [(.int (1 : Int32))])
    exact own_retN X60 hx (t := .boolean) hret (by simp) hlk (hb hby at_144) rfl ⟨rfl, N60⟩ (by decide) (by decide)
  · rw [hq]
    show own_Ends _ _ _ _ _ _ _ T42 (mkF m 127 #[.val (.int p1), .val (.ref b1), .val (.ref b32), .val (.int (6 : Int32))] [])
    refine own_step (fun _ k => XS.aloadN X42.here hx rfl (hb hby at_127) rfl rfl k) ?_
    show own_Ends _ _ _ _ _ _ _ T42 (mkF m 128 #[.val (.int p1), .val (.ref b1), .val (.ref b32), .val (.int (6 : Int32))] [(.ref b1)])
    refine own_step (fun _ k => XS.iloadN X42.here hx rfl (hb hby at_128) rfl k) ?_
    show own_Ends _ _ _ _ _ _ _ T42 (mkF m 129 #[.val (.int p1), .val (.ref b1), .val (.ref b32), .val (.int (6 : Int32))] [(.int (6 : Int32)), (.ref b1)])
    have Q61 := (((((((((((V_b1_31.ext E32).other W33 ne_b1_b32).other W34 ne_b1_b32).other W35 ne_b1_b32).other W36 ne_b1_b32).other W37 ne_b1_b32).other W38 ne_b1_b32).other W39 ne_b1_b32).other W40 ne_b1_b32).other W41 ne_b1_b32).other W42 ne_b1_b32)
    refine own_step (own_ldA X42 hx hZ e42 Q61 rfl (j := (6 : Int32)) (v := (.ref t6)) ⟨by decide, by decide⟩ rfl (g := (mkF m 129 #[.val (.int p1), .val (.ref b1), .val (.ref b32), .val (.int (6 : Int32))] [(.int (6 : Int32)), (.ref b1)])) rfl rfl (hb hby at_129)) ?_
    show own_Ends _ _ _ _ _ _ _ T42 (mkF m 130 #[.val (.int p1), .val (.ref b1), .val (.ref b32), .val (.int (6 : Int32))] [(.ref t6)])
    have Q62 := ((((((((((((Q30.wr W31 g_b1).ext E32).wr W33 g_b32).wr W34 g_b32).wr W35 g_b32).wr W36 g_b32).wr W37 g_b32).wr W38 g_b32).wr W39 g_b32).wr W40 g_b32).wr W41 g_b32).wr W42 g_b32)
    refine own_callV X42 hx hZ (y := (⟨"com/example/annotary/annotary/scoring/Metric", "overWords", "()Z"⟩ : MethodName)) (z := (⟨"com/example/annotary/annotary/scoring/Metric", "overWords", "()Z"⟩ : MethodName)) hown (hw _ (List.mem_of_getElem? (i := 26) rfl)) (hw _ (List.mem_of_getElem? (i := 27) rfl)) (hw _ (List.mem_of_getElem? (i := 29) rfl)) (hw _ (List.mem_of_getElem? (i := 29) rfl)) (hw _ (List.mem_of_getElem? (i := 28) rfl)) (hw _ (List.mem_of_getElem? (i := 3) rfl)) (hw _ (List.mem_of_getElem? (i := 30) rfl)) (by decide) (rm1 l Z a0 hw [] t6 t0 t1 h42 n0 Z42 Q62 S_t0 S_t1) e42 (b := t6) (E_t6.ext Q62.2) 0 (by decide) (by decide) (by decide) (by decide) (g := (mkF m 130 #[.val (.int p1), .val (.ref b1), .val (.ref b32), .val (.int (6 : Int32))] [(.ref t6)])) rfl (by rw [hml]; rfl) [] [] pd_0 rfl rfl rfl (by show 2 * 0 + _ ≤ _; exact Nat.le_of_eq rfl) (hb hby at_130) ?_
    rintro v63 T63 L63 X63 ⟨rfl, Nq63, e63⟩
    have N63 := Fr.app N42 Nq63
    show own_Ends _ _ _ _ _ _ _ T63 (mkF m 133 #[.val (.int p1), .val (.ref b1), .val (.ref b32), .val (.int (6 : Int32))] [(.int (own_ow t6 t0 t1))])
    refine own_step (fun _ k => XS.aloadN X63.here hx rfl (hb hby at_133) rfl rfl k) ?_
    show own_Ends _ _ _ _ _ _ _ T63 (mkF m 134 #[.val (.int p1), .val (.ref b1), .val (.ref b32), .val (.int (6 : Int32))] [(.ref b32), (.int (own_ow t6 t0 t1))])
    refine own_step (fun _ k => XS.iloadN X63.here hx rfl (hb hby at_134) rfl k) ?_
    show own_Ends _ _ _ _ _ _ _ T63 (mkF m 135 #[.val (.int p1), .val (.ref b1), .val (.ref b32), .val (.int (6 : Int32))] [(.int (6 : Int32)), (.ref b32), (.int (own_ow t6 t0 t1))])
    refine own_step (own_ldZ X63 hx hZ e63 V_b32_42 (j := (6 : Int32)) (v := (.int (1 : Int32))) ⟨by decide, by decide⟩ rfl (g := (mkF m 135 #[.val (.int p1), .val (.ref b1), .val (.ref b32), .val (.int (6 : Int32))] [(.int (6 : Int32)), (.ref b32), (.int (own_ow t6 t0 t1))])) rfl rfl (hb hby at_135)) ?_
    show own_Ends _ _ _ _ _ _ _ T63 (mkF m 136 #[.val (.int p1), .val (.ref b1), .val (.ref b32), .val (.int (6 : Int32))] [(.int (1 : Int32)), (.int (own_ow t6 t0 t1))])
    refine own_step (fun _ k => XS.icmpNo X63.here hx rfl (hb hby at_136) rfl (teq (show own_ow t6 t0 t1 = (1 : Int32) from (if_neg n6_0).trans (if_neg n6_1))).2 k) ?_
    show own_Ends _ _ _ _ _ _ _ T63 (mkF m 139 #[.val (.int p1), .val (.ref b1), .val (.ref b32), .val (.int (6 : Int32))] [])
    refine own_step (fun _ k => XS.iconst X63.here hx rfl (hb hby at_139) k) ?_
    show own_Ends _ _ _ _ _ _ _ T63 (mkF m 140 #[.val (.int p1), .val (.ref b1), .val (.ref b32), .val (.int (6 : Int32))] [(.int (1 : Int32))])
    refine own_step (fun _ k => XS.goto X63.here hx rfl (pc0 := 140) (pc' := 144) rfl (hb hby at_140) (by decide) (by decide) k) ?_
    show own_Ends _ _ _ _ _ _ _ T63 (mkF m 144 #[.val (.int p1), .val (.ref b1), .val (.ref b32), .val (.int (6 : Int32))] [(.int (1 : Int32))])
    exact own_retN X63 hx (t := .boolean) hret (by simp) hlk (hb hby at_144) rfl ⟨rfl, N63⟩ (by decide) (by decide)
  · rw [hq]
    show own_Ends _ _ _ _ _ _ _ T42 (mkF m 127 #[.val (.int p1), .val (.ref b1), .val (.ref b32), .val (.int (7 : Int32))] [])
    refine own_step (fun _ k => XS.aloadN X42.here hx rfl (hb hby at_127) rfl rfl k) ?_
    show own_Ends _ _ _ _ _ _ _ T42 (mkF m 128 #[.val (.int p1), .val (.ref b1), .val (.ref b32), .val (.int (7 : Int32))] [(.ref b1)])
    refine own_step (fun _ k => XS.iloadN X42.here hx rfl (hb hby at_128) rfl k) ?_
    show own_Ends _ _ _ _ _ _ _ T42 (mkF m 129 #[.val (.int p1), .val (.ref b1), .val (.ref b32), .val (.int (7 : Int32))] [(.int (7 : Int32)), (.ref b1)])
    have Q64 := (((((((((((V_b1_31.ext E32).other W33 ne_b1_b32).other W34 ne_b1_b32).other W35 ne_b1_b32).other W36 ne_b1_b32).other W37 ne_b1_b32).other W38 ne_b1_b32).other W39 ne_b1_b32).other W40 ne_b1_b32).other W41 ne_b1_b32).other W42 ne_b1_b32)
    refine own_step (own_ldA X42 hx hZ e42 Q64 rfl (j := (7 : Int32)) (v := (.ref t7)) ⟨by decide, by decide⟩ rfl (g := (mkF m 129 #[.val (.int p1), .val (.ref b1), .val (.ref b32), .val (.int (7 : Int32))] [(.int (7 : Int32)), (.ref b1)])) rfl rfl (hb hby at_129)) ?_
    show own_Ends _ _ _ _ _ _ _ T42 (mkF m 130 #[.val (.int p1), .val (.ref b1), .val (.ref b32), .val (.int (7 : Int32))] [(.ref t7)])
    have Q65 := ((((((((((((Q30.wr W31 g_b1).ext E32).wr W33 g_b32).wr W34 g_b32).wr W35 g_b32).wr W36 g_b32).wr W37 g_b32).wr W38 g_b32).wr W39 g_b32).wr W40 g_b32).wr W41 g_b32).wr W42 g_b32)
    refine own_callV X42 hx hZ (y := (⟨"com/example/annotary/annotary/scoring/Metric", "overWords", "()Z"⟩ : MethodName)) (z := (⟨"com/example/annotary/annotary/scoring/Metric", "overWords", "()Z"⟩ : MethodName)) hown (hw _ (List.mem_of_getElem? (i := 26) rfl)) (hw _ (List.mem_of_getElem? (i := 27) rfl)) (hw _ (List.mem_of_getElem? (i := 29) rfl)) (hw _ (List.mem_of_getElem? (i := 29) rfl)) (hw _ (List.mem_of_getElem? (i := 28) rfl)) (hw _ (List.mem_of_getElem? (i := 3) rfl)) (hw _ (List.mem_of_getElem? (i := 30) rfl)) (by decide) (rm1 l Z a0 hw [] t7 t0 t1 h42 n0 Z42 Q65 S_t0 S_t1) e42 (b := t7) (E_t7.ext Q65.2) 0 (by decide) (by decide) (by decide) (by decide) (g := (mkF m 130 #[.val (.int p1), .val (.ref b1), .val (.ref b32), .val (.int (7 : Int32))] [(.ref t7)])) rfl (by rw [hml]; rfl) [] [] pd_0 rfl rfl rfl (by show 2 * 0 + _ ≤ _; exact Nat.le_of_eq rfl) (hb hby at_130) ?_
    rintro v66 T66 L66 X66 ⟨rfl, Nq66, e66⟩
    have N66 := Fr.app N42 Nq66
    show own_Ends _ _ _ _ _ _ _ T66 (mkF m 133 #[.val (.int p1), .val (.ref b1), .val (.ref b32), .val (.int (7 : Int32))] [(.int (own_ow t7 t0 t1))])
    refine own_step (fun _ k => XS.aloadN X66.here hx rfl (hb hby at_133) rfl rfl k) ?_
    show own_Ends _ _ _ _ _ _ _ T66 (mkF m 134 #[.val (.int p1), .val (.ref b1), .val (.ref b32), .val (.int (7 : Int32))] [(.ref b32), (.int (own_ow t7 t0 t1))])
    refine own_step (fun _ k => XS.iloadN X66.here hx rfl (hb hby at_134) rfl k) ?_
    show own_Ends _ _ _ _ _ _ _ T66 (mkF m 135 #[.val (.int p1), .val (.ref b1), .val (.ref b32), .val (.int (7 : Int32))] [(.int (7 : Int32)), (.ref b32), (.int (own_ow t7 t0 t1))])
    refine own_step (own_ldZ X66 hx hZ e66 V_b32_42 (j := (7 : Int32)) (v := (.int (1 : Int32))) ⟨by decide, by decide⟩ rfl (g := (mkF m 135 #[.val (.int p1), .val (.ref b1), .val (.ref b32), .val (.int (7 : Int32))] [(.int (7 : Int32)), (.ref b32), (.int (own_ow t7 t0 t1))])) rfl rfl (hb hby at_135)) ?_
    show own_Ends _ _ _ _ _ _ _ T66 (mkF m 136 #[.val (.int p1), .val (.ref b1), .val (.ref b32), .val (.int (7 : Int32))] [(.int (1 : Int32)), (.int (own_ow t7 t0 t1))])
    refine own_step (fun _ k => XS.icmpNo X66.here hx rfl (hb hby at_136) rfl (teq (show own_ow t7 t0 t1 = (1 : Int32) from (if_neg n7_0).trans (if_neg n7_1))).2 k) ?_
    show own_Ends _ _ _ _ _ _ _ T66 (mkF m 139 #[.val (.int p1), .val (.ref b1), .val (.ref b32), .val (.int (7 : Int32))] [])
    refine own_step (fun _ k => XS.iconst X66.here hx rfl (hb hby at_139) k) ?_
    show own_Ends _ _ _ _ _ _ _ T66 (mkF m 140 #[.val (.int p1), .val (.ref b1), .val (.ref b32), .val (.int (7 : Int32))] [(.int (1 : Int32))])
    refine own_step (fun _ k => XS.goto X66.here hx rfl (pc0 := 140) (pc' := 144) rfl (hb hby at_140) (by decide) (by decide) k) ?_
    show own_Ends _ _ _ _ _ _ _ T66 (mkF m 144 #[.val (.int p1), .val (.ref b1), .val (.ref b32), .val (.int (7 : Int32))] [(.int (1 : Int32))])
    exact own_retN X66 hx (t := .boolean) hret (by simp) hlk (hb hby at_144) rfl ⟨rfl, N66⟩ (by decide) (by decide)
  · rw [hq]
    show own_Ends _ _ _ _ _ _ _ T42 (mkF m 127 #[.val (.int p1), .val (.ref b1), .val (.ref b32), .val (.int (8 : Int32))] [])
    refine own_step (fun _ k => XS.aloadN X42.here hx rfl (hb hby at_127) rfl rfl k) ?_
    show own_Ends _ _ _ _ _ _ _ T42 (mkF m 128 #[.val (.int p1), .val (.ref b1), .val (.ref b32), .val (.int (8 : Int32))] [(.ref b1)])
    refine own_step (fun _ k => XS.iloadN X42.here hx rfl (hb hby at_128) rfl k) ?_
    show own_Ends _ _ _ _ _ _ _ T42 (mkF m 129 #[.val (.int p1), .val (.ref b1), .val (.ref b32), .val (.int (8 : Int32))] [(.int (8 : Int32)), (.ref b1)])
    have Q67 := (((((((((((V_b1_31.ext E32).other W33 ne_b1_b32).other W34 ne_b1_b32).other W35 ne_b1_b32).other W36 ne_b1_b32).other W37 ne_b1_b32).other W38 ne_b1_b32).other W39 ne_b1_b32).other W40 ne_b1_b32).other W41 ne_b1_b32).other W42 ne_b1_b32)
    refine own_step (own_ldA X42 hx hZ e42 Q67 rfl (j := (8 : Int32)) (v := (.ref t8)) ⟨by decide, by decide⟩ rfl (g := (mkF m 129 #[.val (.int p1), .val (.ref b1), .val (.ref b32), .val (.int (8 : Int32))] [(.int (8 : Int32)), (.ref b1)])) rfl rfl (hb hby at_129)) ?_
    show own_Ends _ _ _ _ _ _ _ T42 (mkF m 130 #[.val (.int p1), .val (.ref b1), .val (.ref b32), .val (.int (8 : Int32))] [(.ref t8)])
    have Q68 := ((((((((((((Q30.wr W31 g_b1).ext E32).wr W33 g_b32).wr W34 g_b32).wr W35 g_b32).wr W36 g_b32).wr W37 g_b32).wr W38 g_b32).wr W39 g_b32).wr W40 g_b32).wr W41 g_b32).wr W42 g_b32)
    refine own_callV X42 hx hZ (y := (⟨"com/example/annotary/annotary/scoring/Metric", "overWords", "()Z"⟩ : MethodName)) (z := (⟨"com/example/annotary/annotary/scoring/Metric", "overWords", "()Z"⟩ : MethodName)) hown (hw _ (List.mem_of_getElem? (i := 26) rfl)) (hw _ (List.mem_of_getElem? (i := 27) rfl)) (hw _ (List.mem_of_getElem? (i := 29) rfl)) (hw _ (List.mem_of_getElem? (i := 29) rfl)) (hw _ (List.mem_of_getElem? (i := 28) rfl)) (hw _ (List.mem_of_getElem? (i := 3) rfl)) (hw _ (List.mem_of_getElem? (i := 30) rfl)) (by decide) (rm1 l Z a0 hw [] t8 t0 t1 h42 n0 Z42 Q68 S_t0 S_t1) e42 (b := t8) (E_t8.ext Q68.2) 0 (by decide) (by decide) (by decide) (by decide) (g := (mkF m 130 #[.val (.int p1), .val (.ref b1), .val (.ref b32), .val (.int (8 : Int32))] [(.ref t8)])) rfl (by rw [hml]; rfl) [] [] pd_0 rfl rfl rfl (by show 2 * 0 + _ ≤ _; exact Nat.le_of_eq rfl) (hb hby at_130) ?_
    rintro v69 T69 L69 X69 ⟨rfl, Nq69, e69⟩
    have N69 := Fr.app N42 Nq69
    show own_Ends _ _ _ _ _ _ _ T69 (mkF m 133 #[.val (.int p1), .val (.ref b1), .val (.ref b32), .val (.int (8 : Int32))] [(.int (own_ow t8 t0 t1))])
    refine own_step (fun _ k => XS.aloadN X69.here hx rfl (hb hby at_133) rfl rfl k) ?_
    show own_Ends _ _ _ _ _ _ _ T69 (mkF m 134 #[.val (.int p1), .val (.ref b1), .val (.ref b32), .val (.int (8 : Int32))] [(.ref b32), (.int (own_ow t8 t0 t1))])
    refine own_step (fun _ k => XS.iloadN X69.here hx rfl (hb hby at_134) rfl k) ?_
    show own_Ends _ _ _ _ _ _ _ T69 (mkF m 135 #[.val (.int p1), .val (.ref b1), .val (.ref b32), .val (.int (8 : Int32))] [(.int (8 : Int32)), (.ref b32), (.int (own_ow t8 t0 t1))])
    refine own_step (own_ldZ X69 hx hZ e69 V_b32_42 (j := (8 : Int32)) (v := (.int (1 : Int32))) ⟨by decide, by decide⟩ rfl (g := (mkF m 135 #[.val (.int p1), .val (.ref b1), .val (.ref b32), .val (.int (8 : Int32))] [(.int (8 : Int32)), (.ref b32), (.int (own_ow t8 t0 t1))])) rfl rfl (hb hby at_135)) ?_
    show own_Ends _ _ _ _ _ _ _ T69 (mkF m 136 #[.val (.int p1), .val (.ref b1), .val (.ref b32), .val (.int (8 : Int32))] [(.int (1 : Int32)), (.int (own_ow t8 t0 t1))])
    refine own_step (fun _ k => XS.icmpNo X69.here hx rfl (hb hby at_136) rfl (teq (show own_ow t8 t0 t1 = (1 : Int32) from (if_neg n8_0).trans (if_neg n8_1))).2 k) ?_
    show own_Ends _ _ _ _ _ _ _ T69 (mkF m 139 #[.val (.int p1), .val (.ref b1), .val (.ref b32), .val (.int (8 : Int32))] [])
    refine own_step (fun _ k => XS.iconst X69.here hx rfl (hb hby at_139) k) ?_
    show own_Ends _ _ _ _ _ _ _ T69 (mkF m 140 #[.val (.int p1), .val (.ref b1), .val (.ref b32), .val (.int (8 : Int32))] [(.int (1 : Int32))])
    refine own_step (fun _ k => XS.goto X69.here hx rfl (pc0 := 140) (pc' := 144) rfl (hb hby at_140) (by decide) (by decide) k) ?_
    show own_Ends _ _ _ _ _ _ _ T69 (mkF m 144 #[.val (.int p1), .val (.ref b1), .val (.ref b32), .val (.int (8 : Int32))] [(.int (1 : Int32))])
    exact own_retN X69 hx (t := .boolean) hret (by simp) hlk (hb hby at_144) rfl ⟨rfl, N69⟩ (by decide) (by decide)
  · rw [hq]
    show own_Ends _ _ _ _ _ _ _ T42 (mkF m 127 #[.val (.int p1), .val (.ref b1), .val (.ref b32), .val (.int (9 : Int32))] [])
    refine own_step (fun _ k => XS.aloadN X42.here hx rfl (hb hby at_127) rfl rfl k) ?_
    show own_Ends _ _ _ _ _ _ _ T42 (mkF m 128 #[.val (.int p1), .val (.ref b1), .val (.ref b32), .val (.int (9 : Int32))] [(.ref b1)])
    refine own_step (fun _ k => XS.iloadN X42.here hx rfl (hb hby at_128) rfl k) ?_
    show own_Ends _ _ _ _ _ _ _ T42 (mkF m 129 #[.val (.int p1), .val (.ref b1), .val (.ref b32), .val (.int (9 : Int32))] [(.int (9 : Int32)), (.ref b1)])
    have Q70 := (((((((((((V_b1_31.ext E32).other W33 ne_b1_b32).other W34 ne_b1_b32).other W35 ne_b1_b32).other W36 ne_b1_b32).other W37 ne_b1_b32).other W38 ne_b1_b32).other W39 ne_b1_b32).other W40 ne_b1_b32).other W41 ne_b1_b32).other W42 ne_b1_b32)
    refine own_step (own_ldA X42 hx hZ e42 Q70 rfl (j := (9 : Int32)) (v := (.ref t9)) ⟨by decide, by decide⟩ rfl (g := (mkF m 129 #[.val (.int p1), .val (.ref b1), .val (.ref b32), .val (.int (9 : Int32))] [(.int (9 : Int32)), (.ref b1)])) rfl rfl (hb hby at_129)) ?_
    show own_Ends _ _ _ _ _ _ _ T42 (mkF m 130 #[.val (.int p1), .val (.ref b1), .val (.ref b32), .val (.int (9 : Int32))] [(.ref t9)])
    have Q71 := ((((((((((((Q30.wr W31 g_b1).ext E32).wr W33 g_b32).wr W34 g_b32).wr W35 g_b32).wr W36 g_b32).wr W37 g_b32).wr W38 g_b32).wr W39 g_b32).wr W40 g_b32).wr W41 g_b32).wr W42 g_b32)
    refine own_callV X42 hx hZ (y := (⟨"com/example/annotary/annotary/scoring/Metric", "overWords", "()Z"⟩ : MethodName)) (z := (⟨"com/example/annotary/annotary/scoring/Metric", "overWords", "()Z"⟩ : MethodName)) hown (hw _ (List.mem_of_getElem? (i := 26) rfl)) (hw _ (List.mem_of_getElem? (i := 27) rfl)) (hw _ (List.mem_of_getElem? (i := 29) rfl)) (hw _ (List.mem_of_getElem? (i := 29) rfl)) (hw _ (List.mem_of_getElem? (i := 28) rfl)) (hw _ (List.mem_of_getElem? (i := 3) rfl)) (hw _ (List.mem_of_getElem? (i := 30) rfl)) (by decide) (rm1 l Z a0 hw [] t9 t0 t1 h42 n0 Z42 Q71 S_t0 S_t1) e42 (b := t9) (E_t9.ext Q71.2) 0 (by decide) (by decide) (by decide) (by decide) (g := (mkF m 130 #[.val (.int p1), .val (.ref b1), .val (.ref b32), .val (.int (9 : Int32))] [(.ref t9)])) rfl (by rw [hml]; rfl) [] [] pd_0 rfl rfl rfl (by show 2 * 0 + _ ≤ _; exact Nat.le_of_eq rfl) (hb hby at_130) ?_
    rintro v72 T72 L72 X72 ⟨rfl, Nq72, e72⟩
    have N72 := Fr.app N42 Nq72
    show own_Ends _ _ _ _ _ _ _ T72 (mkF m 133 #[.val (.int p1), .val (.ref b1), .val (.ref b32), .val (.int (9 : Int32))] [(.int (own_ow t9 t0 t1))])
    refine own_step (fun _ k => XS.aloadN X72.here hx rfl (hb hby at_133) rfl rfl k) ?_
    show own_Ends _ _ _ _ _ _ _ T72 (mkF m 134 #[.val (.int p1), .val (.ref b1), .val (.ref b32), .val (.int (9 : Int32))] [(.ref b32), (.int (own_ow t9 t0 t1))])
    refine own_step (fun _ k => XS.iloadN X72.here hx rfl (hb hby at_134) rfl k) ?_
    show own_Ends _ _ _ _ _ _ _ T72 (mkF m 135 #[.val (.int p1), .val (.ref b1), .val (.ref b32), .val (.int (9 : Int32))] [(.int (9 : Int32)), (.ref b32), (.int (own_ow t9 t0 t1))])
    refine own_step (own_ldZ X72 hx hZ e72 V_b32_42 (j := (9 : Int32)) (v := (.int (1 : Int32))) ⟨by decide, by decide⟩ rfl (g := (mkF m 135 #[.val (.int p1), .val (.ref b1), .val (.ref b32), .val (.int (9 : Int32))] [(.int (9 : Int32)), (.ref b32), (.int (own_ow t9 t0 t1))])) rfl rfl (hb hby at_135)) ?_
    show own_Ends _ _ _ _ _ _ _ T72 (mkF m 136 #[.val (.int p1), .val (.ref b1), .val (.ref b32), .val (.int (9 : Int32))] [(.int (1 : Int32)), (.int (own_ow t9 t0 t1))])
    refine own_step (fun _ k => XS.icmpNo X72.here hx rfl (hb hby at_136) rfl (teq (show own_ow t9 t0 t1 = (1 : Int32) from (if_neg n9_0).trans (if_neg n9_1))).2 k) ?_
    show own_Ends _ _ _ _ _ _ _ T72 (mkF m 139 #[.val (.int p1), .val (.ref b1), .val (.ref b32), .val (.int (9 : Int32))] [])
    refine own_step (fun _ k => XS.iconst X72.here hx rfl (hb hby at_139) k) ?_
    show own_Ends _ _ _ _ _ _ _ T72 (mkF m 140 #[.val (.int p1), .val (.ref b1), .val (.ref b32), .val (.int (9 : Int32))] [(.int (1 : Int32))])
    refine own_step (fun _ k => XS.goto X72.here hx rfl (pc0 := 140) (pc' := 144) rfl (hb hby at_140) (by decide) (by decide) k) ?_
    show own_Ends _ _ _ _ _ _ _ T72 (mkF m 144 #[.val (.int p1), .val (.ref b1), .val (.ref b32), .val (.int (9 : Int32))] [(.int (1 : Int32))])
    exact own_retN X72 hx (t := .boolean) hret (by simp) hlk (hb hby at_144) rfl ⟨rfl, N72⟩ (by decide) (by decide)
set_option maxRecDepth 65536 in
set_option maxHeartbeats 40000000 in
theorem comes_1 {Post : Tables → Env → Array Value → State → Outcome → State → Prop} (hpost : ∀ tb e args s v u, (limb_1_1.after args s (.returned v) u = true ∧ limb_1_2.after args s (.returned v) u = true ∧ True) → FrameEnd s (.returned v) u (Jvm.fieldLocs frame_1_writes args s ++ Jvm.arrayLocs frame_1_arrays args s ++ Jvm.staticLocs frame_1_statics s) 16 128 → Post tb e args s (.returned v) u) :
    ArmFor flags0 classFile x code maxLocals ret World_1 tables_1 room_1 Calls_1 rest_1 Pre_1 Post := by
  intro l hfl _ _ p e ha hc hk s m args below hf hA hF happ hP
  obtain ⟨hcalls, hrest, hpre⟩ := hP
  obtain ⟨-, -, -, hnamed, -, -, -, hat⟩ := (Spec.applies_iff hf).mp happ
  obtain ⟨hg, hn⟩ := and_e (Cond.before_iff.mp (show (Jvm.Cond.and given_1 narrow_1).before args s = true from hpre))
  obtain ⟨gc, g0⟩ := and_e hg
  have h0 := g0
  obtain ⟨w0, rfl⟩ : ∃ w0 : Value, args = #[w0] := by
    have hs : args.size = 1 := by simpa [Cond.value, given_1] using gc
    obtain ⟨L⟩ := args
    match L, hs with
    | [w0], _ => exact ⟨w0, rfl⟩
  have hw := fun d (hd : d ∈ tables_1) => atoms_spec (ws := Jvm.Cond.code x code maxLocals ret :: tables_1) hat d (List.mem_cons_of_mem _ hd)
  have hfit : Fit s := fun {y c} hc i hi => by
    obtain ⟨ha, rfl⟩ := Array.getElem?_eq_some_iff.mp hc
    have q := List.all_eq_true.mp ((Array.all_eq_true_iff_forall_mem.mp hF) _ (Array.getElem_mem ha)) i (List.mem_range.mpr hi)
    simpa [Array.getElem?_eq_getElem hi] using q
  obtain ⟨i0, ei0⟩ := is_v h0
  obtain rfl : w0 = (.int i0) := Option.some.inj ei0
  obtain ⟨x0, y0⟩ := and_e hn
  obtain ⟨x1, y1⟩ := and_e y0
  obtain ⟨x2, y2⟩ := and_e y1
  obtain ⟨x3, y3⟩ := and_e y2
  obtain ⟨x4, y4⟩ := and_e y3
  obtain ⟨x5, y5⟩ := and_e y4
  obtain ⟨x6, y6⟩ := and_e y5
  obtain ⟨x7, y7⟩ := and_e y6
  obtain ⟨x8, y8⟩ := and_e y7
  obtain ⟨x9, y9⟩ := and_e y8
  obtain ⟨x10, y10⟩ := and_e y9
  obtain ⟨x11, y11⟩ := and_e y10
  obtain ⟨x12, y12⟩ := and_e y11
  obtain ⟨x13, y13⟩ := and_e y12
  obtain ⟨x14, y14⟩ := and_e y13
  obtain ⟨x15, y15⟩ := and_e y14
  obtain ⟨x16, y16⟩ := and_e y15
  obtain ⟨x17, y17⟩ := and_e y16
  obtain ⟨x18, y18⟩ := and_e y17
  have x19 := y18
  obtain ⟨t0, v0⟩ := exa_v x0
  have E0 := Exa.start v0 x0
  have S0 := Sta.start v0 (Or.inr ⟨hw _ (List.mem_of_getElem? (i := 3) rfl), hw _ (List.mem_of_getElem? (i := 4) rfl)⟩)
  obtain ⟨t1, v1⟩ := exa_v x1
  have E1 := Exa.start v1 x1
  have S1 := Sta.start v1 (Or.inr ⟨hw _ (List.mem_of_getElem? (i := 3) rfl), hw _ (List.mem_of_getElem? (i := 7) rfl)⟩)
  obtain ⟨t2, v2⟩ := exa_v x2
  have E2 := Exa.start v2 x2
  have S2 := Sta.start v2 (Or.inr ⟨hw _ (List.mem_of_getElem? (i := 3) rfl), hw _ (List.mem_of_getElem? (i := 9) rfl)⟩)
  obtain ⟨t3, v3⟩ := exa_v x3
  have E3 := Exa.start v3 x3
  have S3 := Sta.start v3 (Or.inr ⟨hw _ (List.mem_of_getElem? (i := 3) rfl), hw _ (List.mem_of_getElem? (i := 11) rfl)⟩)
  obtain ⟨t4, v4⟩ := exa_v x4
  have E4 := Exa.start v4 x4
  have S4 := Sta.start v4 (Or.inr ⟨hw _ (List.mem_of_getElem? (i := 3) rfl), hw _ (List.mem_of_getElem? (i := 13) rfl)⟩)
  obtain ⟨t5, v5⟩ := exa_v x5
  have E5 := Exa.start v5 x5
  have S5 := Sta.start v5 (Or.inr ⟨hw _ (List.mem_of_getElem? (i := 3) rfl), hw _ (List.mem_of_getElem? (i := 15) rfl)⟩)
  obtain ⟨t6, v6⟩ := exa_v x6
  have E6 := Exa.start v6 x6
  have S6 := Sta.start v6 (Or.inr ⟨hw _ (List.mem_of_getElem? (i := 3) rfl), hw _ (List.mem_of_getElem? (i := 17) rfl)⟩)
  obtain ⟨t7, v7⟩ := exa_v x7
  have E7 := Exa.start v7 x7
  have S7 := Sta.start v7 (Or.inr ⟨hw _ (List.mem_of_getElem? (i := 3) rfl), hw _ (List.mem_of_getElem? (i := 19) rfl)⟩)
  obtain ⟨t8, v8⟩ := exa_v x8
  have E8 := Exa.start v8 x8
  have S8 := Sta.start v8 (Or.inr ⟨hw _ (List.mem_of_getElem? (i := 3) rfl), hw _ (List.mem_of_getElem? (i := 21) rfl)⟩)
  obtain ⟨t9, v9⟩ := exa_v x9
  have E9 := Exa.start v9 x9
  have S9 := Sta.start v9 (Or.inr ⟨hw _ (List.mem_of_getElem? (i := 3) rfl), hw _ (List.mem_of_getElem? (i := 23) rfl)⟩)
  have f3 := Fld.start ((fld_at v3).symm.trans (own_eqI x10))
  have f0 := Fld.start ((fld_at v0).symm.trans (own_eqI x11))
  have f1 := Fld.start ((fld_at v1).symm.trans (own_eqI x12))
  have f4 := Fld.start ((fld_at v4).symm.trans (own_eqI x13))
  have f7 := Fld.start ((fld_at v7).symm.trans (own_eqI x14))
  have f2 := Fld.start ((fld_at v2).symm.trans (own_eqI x15))
  have f8 := Fld.start ((fld_at v8).symm.trans (own_eqI x16))
  have f9 := Fld.start ((fld_at v9).symm.trans (own_eqI x17))
  have f5 := Fld.start ((fld_at v5).symm.trans (own_eqI x18))
  have f6 := Fld.start ((fld_at v6).symm.trans (own_eqI x19))
  have z1 : t1 ≠ t0 := Fld.ne f1 f0 (by decide)
  have z2a : t2 ≠ t0 := Fld.ne f2 f0 (by decide)
  have z2b : t2 ≠ t1 := Fld.ne f2 f1 (by decide)
  have z3a : t3 ≠ t0 := Fld.ne f3 f0 (by decide)
  have z3b : t3 ≠ t1 := Fld.ne f3 f1 (by decide)
  have z4a : t4 ≠ t0 := Fld.ne f4 f0 (by decide)
  have z4b : t4 ≠ t1 := Fld.ne f4 f1 (by decide)
  have z5a : t5 ≠ t0 := Fld.ne f5 f0 (by decide)
  have z5b : t5 ≠ t1 := Fld.ne f5 f1 (by decide)
  have z6a : t6 ≠ t0 := Fld.ne f6 f0 (by decide)
  have z6b : t6 ≠ t1 := Fld.ne f6 f1 (by decide)
  have z7a : t7 ≠ t0 := Fld.ne f7 f0 (by decide)
  have z7b : t7 ≠ t1 := Fld.ne f7 f1 (by decide)
  have z8a : t8 ≠ t0 := Fld.ne f8 f0 (by decide)
  have z8b : t8 ≠ t1 := Fld.ne f8 f1 (by decide)
  have z9a : t9 ≠ t0 := Fld.ne f9 f0 (by decide)
  have z9b : t9 ≠ t1 := Fld.ne f9 f1 (by decide)
  obtain ⟨n, o, h1, h2, h3, _, L, rfl, ⟨rfl, N⟩, hq⟩ := rm0 l s _ hw tables_1 i0 t0 t1 t2 t3 t4 t5 t6 t7 t8 t9 s.heap s.heap.size (Nat.le_refl _) (Old.start s) S0 E0 S1 E1 S2 E2 S3 E3 S4 E4 S5 E5 S6 E6 S7 E7 S8 E8 S9 E9 z1 z2a z2b z3a z3b z4a z4b z5a z5b z6a z6b z7a z7b z8a z8b z9a z9b p e ha hc hk s m _ below hf ((Spec.applies_iff_loose hf).mp happ).1 ⟨rfl, State.Warmed39.refl s, rfl⟩ trivial
  refine ⟨n, _, h1, h2, h3, hpost _ _ _ _ _ _ ⟨Cond.after_iff.mpr rfl, Cond.after_iff.mpr (eq_i res_at (Term.int_eval (1)) rfl), trivial⟩ ⟨hq.1, hq.2.1, (hq.2.2.sift fun y hy => Or.inr (N y hy)).mono (by decide) (by decide)⟩⟩
theorem main_1_1 : Claimed_1_1 := comes_1 fun _ _ _ _ _ _ h hF => ⟨h.1, hF⟩
theorem main_1_2 : Claimed_1_2 := comes_1 fun _ _ _ _ _ _ h hF => ⟨h.2.1, hF⟩
end Jvm.Pilot.@@N@@
namespace Jvm.Pilot.@@N@@
open Jvm Jvm.ClassFile Sem Op Lib Jvm.Free Jvm.Stand Jvm.Pilot.@@N@@.Jvm.D
/-! MADE BY PROGRAM (witnessworld.py) out of the Statement's table words and the real class files: 15 classes; the members and pool entries that the words name. The judged class is class 1, her method 1. -/
namespace start1
open Jvm.ClassFile
def u (s : String) : CpInfo := .utf8 (stringToUtf16 s)
/-- a pool by its gaps: so many unusable entries, then the entry; so many at the end -/
def gap : Nat → List CpInfo → List CpInfo
  | 0, r => r
  | n + 1, r => .unusable :: gap n r
def poolList (es : List (Nat × CpInfo)) (last : Nat) : List CpInfo := es.foldr (fun e r => gap e.1 (e.2 :: r)) (gap last [])
def pool (es : List (Nat × CpInfo)) (last : Nat) : Array CpInfo := ⟨poolList es last⟩
def fileOf (pool : Array CpInfo) (this : Nat) (attrs : Array Attribute := #[]) (ms : Array MethodInfo := #[]) (fl : Nat := 33) (sup : Nat := 0) (ifs : Array Nat := #[]) (fds : Array FieldInfo := #[]) : ClassFile where
  minorVersion := 0
  majorVersion := 65
  constantPool := pool
  accessFlags := fl
  thisClass := this
  superClass := sup
  interfaces := ifs
  fields := fds
  methods := ms
  attributes := attrs
def plain (name : String) (sup : Option ClassId) : Class where
  name := name
  kind := .ordinary
  loader := none
  accessFlags := 33
  super := sup
  interfaces := #[]
  cf := none
  fields := #[]
  methods := #[]
  instanceTypes := #[]
  staticTypes := #[]
  resolved := #[]
  callSites := []
  init := .initialized
  statics := none
  mirror := none

def pool0 : Array CpInfo := pool [(5, u "<init>"), (0, u "()V"), (1, .class_ 10), (1, u "java/lang/Object")] 113

def k0m0 : Method := { name := "<init>", desc := "()V", sig := { parameters := [], returnType := none }, accessFlags := 1, code := none }
/-- java/lang/Object -/
def k0 : Class := { plain "java/lang/Object" none with
  accessFlags := 33
  interfaces := #[]
  cf := some (fileOf pool0 8 #[] #[{ accessFlags := 1, nameIndex := 5, descriptorIndex := 6, attributes := #[] }] 33 0 #[] #[])
  fields := #[]
  methods := #[k0m0]
  instanceTypes := #[]
  staticTypes := #[]
  resolved := Array.replicate 124 none
  statics := none }

def pool1 : Array CpInfo := pool [(2, .class_ 4), (1, u "java/lang/Object"), (0, u "<init>"), (0, u "()V"), (0, .class_ 8), (0, u "com/example/annotary/annotary/scoring/Metric"), (0, .fieldref 7 10), (0, .nameAndType 11 12), (0, u "TOKENS"), (0, u "Lcom/example/annotary/annotary/scoring/Metric;"), (0, .fieldref 7 14), (0, .nameAndType 15 12), (0, u "SENTENCES"), (0, .fieldref 7 17), (0, .nameAndType 18 12), (0, u "WORDS"), (0, .fieldref 7 20), (0, .nameAndType 21 12), (0, u "UPOS"), (0, .fieldref 7 23), (0, .nameAndType 24 12), (0, u "XPOS"), (0, .fieldref 7 26), (0, .nameAndType 27 12), (0, u "UFEATS"), (0, .fieldref 7 29), (0, .nameAndType 30 12), (0, u "ALL_TAGS"), (0, .fieldref 7 32), (0, .nameAndType 33 12), (0, u "LEMMAS"), (0, .fieldref 7 35), (0, .nameAndType 36 12), (0, u "UAS"), (0, .fieldref 7 38), (0, .nameAndType 39 12), (0, u "LAS"), (0, .integer 2147483647), (0, .methodref 7 42), (0, .nameAndType 43 44), (0, u "overWords"), (0, u "()Z"), (0, .class_ 46), (0, u "com/example/annotary/annotary/scoring/MetricOverWordsPinLaw"), (2, u "law"), (0, u "(I)Z")] 7

def k1m0 : Method := { name := "<init>", desc := "()V", sig := { parameters := [], returnType := none }, accessFlags := 2, code := none }
def k1c1 : Code := { maxStack := 4, maxLocals := 4, code := code, exceptionTable := #[], attributes := #[] }
def k1m1 : Method := { name := "law", desc := "(I)Z", sig := { parameters := [.int], returnType := some .boolean }, accessFlags := 9, code := some k1c1 }
/-- com/example/annotary/annotary/scoring/MetricOverWordsPinLaw -/
def k1 : Class := { plain "com/example/annotary/annotary/scoring/MetricOverWordsPinLaw" (some 0) with
  accessFlags := 49
  interfaces := #[]
  cf := some (fileOf pool1 45 #[] #[{ accessFlags := 2, nameIndex := 5, descriptorIndex := 6, attributes := #[] }, { accessFlags := 9, nameIndex := 49, descriptorIndex := 50, attributes := #[] }] 49 2 #[] #[])
  fields := #[]
  methods := #[k1m0, k1m1]
  instanceTypes := #[]
  staticTypes := #[]
  resolved := Array.replicate 58 none
  statics := none }

def pool2 : Array CpInfo := pool [(1, .class_ 2), (0, u "java/lang/constant/Constable"), (0, .class_ 4), (0, u "java/lang/Object")] 6

/-- java/lang/constant/Constable -/
def k2 : Class := { plain "java/lang/constant/Constable" (some 0) with
  accessFlags := 1537
  interfaces := #[]
  cf := some (fileOf pool2 1 #[] #[] 1537 3 #[] #[])
  fields := #[]
  methods := #[]
  instanceTypes := #[]
  staticTypes := #[]
  resolved := Array.replicate 11 none
  statics := none }

def pool3 : Array CpInfo := pool [(1, .class_ 2), (0, u "java/lang/Comparable"), (0, .class_ 4), (0, u "java/lang/Object")] 7

/-- java/lang/Comparable -/
def k3 : Class := { plain "java/lang/Comparable" (some 0) with
  accessFlags := 1537
  interfaces := #[]
  cf := some (fileOf pool3 1 #[] #[] 1537 3 #[] #[])
  fields := #[]
  methods := #[]
  instanceTypes := #[]
  staticTypes := #[]
  resolved := Array.replicate 12 none
  statics := none }

def pool4 : Array CpInfo := pool [(1, .class_ 2), (0, u "java/io/Serializable"), (0, .class_ 4), (0, u "java/lang/Object")] 2

/-- java/io/Serializable -/
def k4 : Class := { plain "java/io/Serializable" (some 0) with
  accessFlags := 1537
  interfaces := #[]
  cf := some (fileOf pool4 1 #[] #[] 1537 3 #[] #[])
  fields := #[]
  methods := #[]
  instanceTypes := #[]
  staticTypes := #[]
  resolved := Array.replicate 7 none
  statics := none }

def pool5 : Array CpInfo := pool [(2, .class_ 4), (1, u "java/lang/Enum"), (0, u "name"), (0, u "Ljava/lang/String;"), (2, u "ordinal"), (0, u "I"), (1, .class_ 14), (1, u "java/lang/Object"), (4, u "hash"), (86, .class_ 108), (1, u "java/lang/Enum$EnumDesc"), (2, .class_ 112), (0, u "java/lang/constant/Constable"), (0, .class_ 114), (0, u "java/lang/Comparable"), (0, .class_ 116), (0, u "java/io/Serializable")] 87

/-- java/lang/Enum -/
def k5 : Class := { plain "java/lang/Enum" (some 0) with
  accessFlags := 1057
  interfaces := #[2, 3, 4]
  cf := some (fileOf pool5 2 #[.nestMembers #[106]] #[] 1057 12 #[111, 113, 115] #[{ accessFlags := 18, nameIndex := 5, descriptorIndex := 6, attributes := #[] }, { accessFlags := 18, nameIndex := 9, descriptorIndex := 10, attributes := #[] }, { accessFlags := 2, nameIndex := 19, descriptorIndex := 10, attributes := #[] }])
  fields := #[{ name := "name", type := (.object "java/lang/String"), accessFlags := 18, slot := 0, constantValue := 0 }, { name := "ordinal", type := .int, accessFlags := 18, slot := 1, constantValue := 0 }, { name := "hash", type := .int, accessFlags := 2, slot := 2, constantValue := 0 }]
  methods := #[]
  instanceTypes := #[(.object "java/lang/String"), .int, .int]
  staticTypes := #[]
  resolved := Array.replicate 204 none
  statics := none }

def pool6 : Array CpInfo := pool [(1, .class_ 2), (0, u "com/example/annotary/annotary/scoring/Metric"), (0, .fieldref 1 4), (0, .nameAndType 5 6), (0, u "TOKENS"), (0, u "Lcom/example/annotary/annotary/scoring/Metric;"), (0, .fieldref 1 8), (0, .nameAndType 9 6), (0, u "SENTENCES"), (2, u "WORDS"), (2, u "UPOS"), (2, u "XPOS"), (2, u "UFEATS"), (2, u "ALL_TAGS"), (2, u "LEMMAS"), (2, u "UAS"), (2, u "LAS"), (2, u "$VALUES"), (0, u "[Lcom/example/annotary/annotary/scoring/Metric;"), (6, .class_ 46), (1, u "java/lang/Enum"), (8, u "label"), (0, u "Ljava/lang/String;"), (2, u "overWords"), (0, u "()Z")] 117

def k6c0 : Code := { maxStack := 2, maxLocals := 1, code := prog_66_method_5_code, exceptionTable := #[], attributes := #[] }
def k6m0 : Method := { name := "overWords", desc := "()Z", sig := { parameters := [], returnType := some .boolean }, accessFlags := 0, code := some k6c0 }
/-- com/example/annotary/annotary/scoring/Metric -/
def k6 : Class := { plain "com/example/annotary/annotary/scoring/Metric" (some 5) with
  accessFlags := 16432
  interfaces := #[]
  cf := some (fileOf pool6 1 #[] #[{ accessFlags := 0, nameIndex := 59, descriptorIndex := 60, attributes := #[] }] 16432 44 #[] #[{ accessFlags := 16409, nameIndex := 5, descriptorIndex := 6, attributes := #[] }, { accessFlags := 16409, nameIndex := 9, descriptorIndex := 6, attributes := #[] }, { accessFlags := 16409, nameIndex := 12, descriptorIndex := 6, attributes := #[] }, { accessFlags := 16409, nameIndex := 15, descriptorIndex := 6, attributes := #[] }, { accessFlags := 16409, nameIndex := 18, descriptorIndex := 6, attributes := #[] }, { accessFlags := 16409, nameIndex := 21, descriptorIndex := 6, attributes := #[] }, { accessFlags := 16409, nameIndex := 24, descriptorIndex := 6, attributes := #[] }, { accessFlags := 16409, nameIndex := 27, descriptorIndex := 6, attributes := #[] }, { accessFlags := 16409, nameIndex := 30, descriptorIndex := 6, attributes := #[] }, { accessFlags := 16409, nameIndex := 33, descriptorIndex := 6, attributes := #[] }, { accessFlags := 18, nameIndex := 55, descriptorIndex := 56, attributes := #[] }, { accessFlags := 4122, nameIndex := 36, descriptorIndex := 37, attributes := #[] }])
  fields := #[{ name := "TOKENS", type := (.object "com/example/annotary/annotary/scoring/Metric"), accessFlags := 16409, slot := 0, constantValue := 0 }, { name := "SENTENCES", type := (.object "com/example/annotary/annotary/scoring/Metric"), accessFlags := 16409, slot := 1, constantValue := 0 }, { name := "WORDS", type := (.object "com/example/annotary/annotary/scoring/Metric"), accessFlags := 16409, slot := 2, constantValue := 0 }, { name := "UPOS", type := (.object "com/example/annotary/annotary/scoring/Metric"), accessFlags := 16409, slot := 3, constantValue := 0 }, { name := "XPOS", type := (.object "com/example/annotary/annotary/scoring/Metric"), accessFlags := 16409, slot := 4, constantValue := 0 }, { name := "UFEATS", type := (.object "com/example/annotary/annotary/scoring/Metric"), accessFlags := 16409, slot := 5, constantValue := 0 }, { name := "ALL_TAGS", type := (.object "com/example/annotary/annotary/scoring/Metric"), accessFlags := 16409, slot := 6, constantValue := 0 }, { name := "LEMMAS", type := (.object "com/example/annotary/annotary/scoring/Metric"), accessFlags := 16409, slot := 7, constantValue := 0 }, { name := "UAS", type := (.object "com/example/annotary/annotary/scoring/Metric"), accessFlags := 16409, slot := 8, constantValue := 0 }, { name := "LAS", type := (.object "com/example/annotary/annotary/scoring/Metric"), accessFlags := 16409, slot := 9, constantValue := 0 }, { name := "label", type := (.object "java/lang/String"), accessFlags := 18, slot := 3, constantValue := 0 }, { name := "$VALUES", type := (.array (.object "com/example/annotary/annotary/scoring/Metric")), accessFlags := 4122, slot := 10, constantValue := 0 }]
  methods := #[k6m0]
  instanceTypes := #[(.object "java/lang/String"), .int, .int, (.object "java/lang/String")]
  staticTypes := #[(.object "com/example/annotary/annotary/scoring/Metric"), (.object "com/example/annotary/annotary/scoring/Metric"), (.object "com/example/annotary/annotary/scoring/Metric"), (.object "com/example/annotary/annotary/scoring/Metric"), (.object "com/example/annotary/annotary/scoring/Metric"), (.object "com/example/annotary/annotary/scoring/Metric"), (.object "com/example/annotary/annotary/scoring/Metric"), (.object "com/example/annotary/annotary/scoring/Metric"), (.object "com/example/annotary/annotary/scoring/Metric"), (.object "com/example/annotary/annotary/scoring/Metric"), (.array (.object "com/example/annotary/annotary/scoring/Metric"))]
  resolved := Array.replicate 178 none
  statics := some 0 }

def pool7 : Array CpInfo := pool [(1, u "java/lang/Cloneable"), (0, .class_ 1), (0, u "java/lang/Object"), (0, .class_ 3)] 3

/-- java/lang/Cloneable -/
def k7 : Class := { plain "java/lang/Cloneable" (some 0) with
  accessFlags := 1537
  interfaces := #[]
  cf := some (fileOf pool7 2 #[] #[] 1537 4 #[] #[])
  fields := #[]
  methods := #[]
  instanceTypes := #[]
  staticTypes := #[]
  resolved := Array.replicate 8 none
  statics := none }

/-- the primitive boolean -/
def k8 : Class := { plain "boolean" none with kind := .primitive 'Z', accessFlags := 0x411 }
/-- [Z -/
def k9 : Class := { plain "[Z" (some 0) with kind := .array 8 .boolean, interfaces := #[7, 4], accessFlags := 1041 }

/-- the primitive byte -/
def k10 : Class := { plain "byte" none with kind := .primitive 'B', accessFlags := 0x411 }
/-- [B -/
def k11 : Class := { plain "[B" (some 0) with kind := .array 10 .byte, interfaces := #[7, 4], accessFlags := 1041 }

/-- the primitive int -/
def k12 : Class := { plain "int" none with kind := .primitive 'I', accessFlags := 0x411 }
/-- [I -/
def k13 : Class := { plain "[I" (some 0) with kind := .array 12 .int, interfaces := #[7, 4], accessFlags := 1041 }

/-- [Lcom/example/annotary/annotary/scoring/Metric; -/
def k14 : Class := { plain "[Lcom/example/annotary/annotary/scoring/Metric;" (some 0) with kind := .array 6 (.object "com/example/annotary/annotary/scoring/Metric"), interfaces := #[7, 4], accessFlags := 1041 }

def heap : Heap := #[{ cls := 6, slots := #[.ref 1, .ref 2, .ref 3, .ref 4, .ref 5, .ref 6, .ref 7, .ref 8, .ref 9, .ref 10, .null], vm := .statics 6 },
  { cls := 6, slots := #[.null, .int 0, .int 0, .null], vm := .none },
  { cls := 6, slots := #[.null, .int 1, .int 0, .null], vm := .none },
  { cls := 6, slots := #[.null, .int 2, .int 0, .null], vm := .none },
  { cls := 6, slots := #[.null, .int 3, .int 0, .null], vm := .none },
  { cls := 6, slots := #[.null, .int 4, .int 0, .null], vm := .none },
  { cls := 6, slots := #[.null, .int 5, .int 0, .null], vm := .none },
  { cls := 6, slots := #[.null, .int 6, .int 0, .null], vm := .none },
  { cls := 6, slots := #[.null, .int 7, .int 0, .null], vm := .none },
  { cls := 6, slots := #[.null, .int 8, .int 0, .null], vm := .none },
  { cls := 6, slots := #[.null, .int 9, .int 0, .null], vm := .none }]
def classes : Array Class := #[k0, k1, k2, k3, k4, k5, k6, k7, k8, k9, k10, k11, k12, k13, k14]
def interned : List (Array UInt16 × Addr) := []
def slotsUsed : Nat := 51
def theMethod : MethodId := ⟨1, 1⟩
def args0 : Array Value := #[.int 65]
def aboutOver (below : List Frame) : State where
  vm := { classes := classes, interned := interned.toArray }
  heap := heap
  slotsUsed := slotsUsed
  threads := #[{ frames := .invoking theMethod args0 :: below }]
def below0 : List Frame := [.native { method := ⟨0, 0⟩, args := #[] }]
def about1 : State := aboutOver below0
def p0 : Program := .bare "" "" ""
def e0 : Env := launch0.env 0 0 0
theorem w_frames : about1.frames = Frame.invoking theMethod args0 :: below0 := rfl
set_option maxRecDepth 65536 in
theorem w_args : argsFit about1.vm theMethod args0 = true := by decide +kernel
set_option maxRecDepth 65536 in
theorem w_heap : heapFits about1 = true := by decide +kernel
set_option maxRecDepth 65536 in
theorem w_runnable : about1.curStatus? = some .runnable := by decide +kernel
set_option maxRecDepth 65536 in
theorem w_alone : about1.alone = true := by decide +kernel
set_option maxRecDepth 65536 in
theorem w_named : about1.methodNamed? x = some theMethod := by decide +kernel
set_option maxRecDepth 65536 in
theorem w_hears : about1.hears theMethod below0 = true := by decide +kernel
set_option maxRecDepth 65536 in
theorem w_ripe : about1.ripe theMethod args0 below0 = true := by decide +kernel
theorem w_running : about1.status = .running := rfl
set_option maxRecDepth 65536 in
theorem w_room : about1.hasRoom e0.platform room_1 = true :=
  launch0.hasRoom_least _ room_1 (by decide +kernel) (by decide +kernel) (by decide +kernel) (by decide +kernel) (by decide +kernel) (by decide +kernel)
theorem allAtoms_all (ts : List Jvm.Cond) (a : Array Jvm.Value) (st : Jvm.State) : (allAtoms ts).before a st = ts.all (fun c => c.before a st) := by
  induction ts with
  | nil => rfl
  | cons c t ih =>
    show (Jvm.Cond.and c (allAtoms t)).before a st = _
    rw [Jvm.Cond.before_and, ih, List.all_cons]
def words1 : List Jvm.Cond := Jvm.Cond.code x code maxLocals ret :: tables_1
/-- a 'code' word, met by the world's own term for the bytes: nothing is compared byte by byte -/
theorem code_word {y : MethodName} {bytes : ByteArray} {mx : Nat} {rt : Option FieldType} {a : Array Value} {s : State} {m : MethodId} {meth : Method} {c : Code} (h1 : s.methodNamed? y = some m) (h2 : s.vm.method? m = some meth) (h3 : meth.code = some c) (h4 : c.code = bytes)
    (h5 : (c.maxLocals == mx && c.exceptionTable.isEmpty && decide (c.maxStack ≤ mostOperands) && decide (meth.sig.returnType = rt) && !meth.locks && decide (parseMethodDescriptor y.desc = some meth.sig)) = true) : (Jvm.Cond.code y bytes mx rt).before a s = true := by
  simp only [Bool.and_eq_true, beq_iff_eq, Bool.not_eq_true', decide_eq_true_eq] at h5
  obtain ⟨⟨⟨⟨⟨g1, g2⟩, g3⟩, g4⟩, g5⟩, g6⟩ := h5
  simp [Cond.before, Cond.holds, Cond.value, h1, h2, h3, h4, g1, g2, g3, g4, g5, g6]
def isCode : Jvm.Cond → Bool
  | .code _ _ _ _ => true
  | _ => false
theorem all_split {L : List Jvm.Cond} {P : Jvm.Cond → Bool} (h1 : L.all (fun c => isCode c || P c) = true) (h2 : ∀ c ∈ L.filter isCode, P c = true) : L.all P = true := by
  refine List.all_eq_true.mpr fun c hc => ?_
  have h := List.all_eq_true.mp h1 c hc
  rcases Bool.eq_false_or_eq_true (isCode c) with hi | hi
  · exact h2 c (List.mem_filter.mpr ⟨hc, hi⟩)
  · simpa [hi] using h
set_option maxRecDepth 65536 in
theorem w_c0 : (Jvm.Cond.code x code maxLocals ret).before args0 about1 = true := code_word (m := ⟨1, 1⟩) (meth := k1m1) (c := k1c1) (by decide +kernel) rfl rfl rfl (by decide +kernel)
set_option maxRecDepth 65536 in
theorem w_c1 : (Jvm.Cond.code ({ cls := "com/example/annotary/annotary/scoring/Metric", name := "overWords", desc := "()Z" } : Jvm.MethodName) prog_66_method_5_code (1 : Nat) (Option.some Jvm.ClassFile.FieldType.boolean)).before args0 about1 = true := code_word (m := ⟨6, 0⟩) (meth := k6m0) (c := k6c0) (by decide +kernel) rfl rfl rfl (by decide +kernel)
def codes1 : List Jvm.Cond := [Jvm.Cond.code x code maxLocals ret, Jvm.Cond.code ({ cls := "com/example/annotary/annotary/scoring/Metric", name := "overWords", desc := "()Z" } : Jvm.MethodName) prog_66_method_5_code (1 : Nat) (Option.some Jvm.ClassFile.FieldType.boolean)]
set_option maxRecDepth 65536 in
theorem codes_eq : words1.filter isCode = codes1 := rfl
theorem w_codes : ∀ c ∈ words1.filter isCode, c.before args0 about1 = true := by
  rw [codes_eq]
  intro c hc
  simp only [codes1, List.mem_cons, List.not_mem_nil, or_false] at hc
  rcases hc with rfl | rfl
  · exact w_c0
  · exact w_c1
set_option maxRecDepth 65536 in
theorem w_t1 : (words1.take 24).all (fun c => isCode c || c.before args0 about1) = true := by decide +kernel
set_option maxRecDepth 65536 in
theorem w_t2 : (words1.drop 24).all (fun c => isCode c || c.before args0 about1) = true := by decide +kernel
theorem w_tables : (allAtoms (Jvm.Cond.code x code maxLocals ret :: tables_1)).before args0 about1 = true := by
  rw [allAtoms_all]
  show words1.all (fun c => c.before args0 about1) = true
  refine all_split ?_ w_codes
  rw [← List.take_append_drop 24 words1, List.all_append, w_t1, w_t2]
  rfl
set_option maxRecDepth 65536 in
theorem w_case : (Jvm.Cond.and given_1 narrow_1).before args0 about1 = true := by decide +kernel
theorem w_applies : (headSpec (Jvm.Cond.code x code maxLocals ret :: tables_1) room_1).applies x e0.platform about1 = true :=
  (Spec.applies_iff w_frames).mpr ⟨w_running, w_runnable, w_alone, w_named, w_hears, w_ripe, w_room, w_tables⟩
theorem atStart : AtStart classFile x code maxLocals ret World_1 tables_1 room_1 Calls_1 rest_1 Pre_1 launch0 p0 e0 about1 theMethod args0 below0 :=
  ⟨lists_1, trivial, launch0.admits_env _ _ _, launch0.least_env, fairChoices_fair.cas, fairChoices_fair.clock, w_frames, w_args, w_heap, w_applies, trivial, trivial, w_case⟩
end start1
theorem witness_1 : WitnessClaimed_1 := ⟨start1.p0, start1.e0, start1.about1, start1.theMethod, start1.args0, start1.below0, start1.atStart⟩
end Jvm.Pilot.@@N@@
