import JvmDerived
import JvmDerived.Pilot.@@N@@Statement
import JvmDerived.Pilot.@@N@@Code
set_option linter.unusedVariables false
set_option linter.unusedSimpArgs false
namespace Jvm.RoadKit
open Sem ClassFile Op Lib Jvm.Stand Jvm.Free Jvm.LawKit
section Own
variable {p : Program} {l : Launch} {e : Env} {R : Room} {s : State} {m : MethodId} {args : Array Value} {below : List Frame} {meth : Method} {c : Code} {T : State} {locs : List Loc} {cells slots : Nat} {Z : State} {a0 : Array Value} {h : Heap}
/-- from T, with g on top, this invocation comes to its return and Q holds of what it leaves -/
def own_Ends (p : Program) (e : Env) (below : List Frame) (s : State) (Q : Option Value → Heap → List Loc → Prop) (k n : Nat) (T : State) (g : JFrame) : Prop :=
  ∃ s₂ o, Steps p.tables e below (T.setTop g) s₂ ∧ s₂.status = .running ∧ Ended s₂ below o ∧ ∃ v L, o = .returned v ∧ Q v s₂.heap L ∧ FrameEnd s o s₂ L k n
theorem own_step {Q : Option Value → Heap → List Loc → Prop} {k n : Nat} {T' : State} {g g' : JFrame} (h : ∀ t, Steps p.tables e below (T'.setTop g') t → Steps p.tables e below (T.setTop g) t) (H : own_Ends p e below s Q k n T' g') : own_Ends p e below s Q k n T g := by
  obtain ⟨s₂, o, h1, r⟩ := H
  exact ⟨s₂, o, h _ h1, r⟩
theorem own_ret (X : Stand p l e R s m args below meth c T locs cells slots) {v : Option Value} (hv : meth.sig.returnType = none → v = none) (hlk : meth.locks = false) {g : JFrame} {Q : Option Value → Heap → List Loc → Prop} {k n : Nat}
    (st : ∀ fs, (∀ (f : JFrame) (acts : List Action), f.method = m → f.locked = none → f.entered = [] → (doReturn e (T.setTop f) acts v).1 = T.setFrames fs) → Steps p.tables e below (T.setTop g) (T.setFrames fs))
    (hQ : Q v T.heap locs) (hk : cells ≤ k) (hn : slots ≤ n) : own_Ends p e below s Q k n T g := by
  obtain ⟨fs, hr, hrun, hended, hW, hsame⟩ := X.leave (v := v) hv hlk
  exact ⟨_, _, st fs hr, hrun, hended, v, locs, rfl, hQ, ⟨_, rfl⟩, hW, hsame.mono hk hn⟩
theorem own_retI (X : Stand p l e R s m args below meth c T locs cells slots) (hx : p.tables.exec = Jvm.exec) (hret : meth.sig.returnType = some .int) (hlk : meth.locks = false) {pc : Nat} {Ls : Array Slot} {z : Int32} {rest : List Value} (hd : decode c.code pc = .ok (.ireturn, 1)) {Q : Option Value → Heap → List Loc → Prop} {k n : Nat}
    (hQ : Q (some (.int z)) T.heap locs) (hk : cells ≤ k) (hn : slots ≤ n) : own_Ends p e below s Q k n T (mkF m pc Ls (.int z :: rest)) :=
  own_ret X (fun q => by rw [hret] at q; cases q) hlk (fun fs hr => retOut X hx hret rfl (Or.inl ⟨rfl, Or.inl rfl, z, rfl⟩) hd hr) hQ hk hn
theorem own_retN (X : Stand p l e R s m args below meth c T locs cells slots) (hx : p.tables.exec = Jvm.exec) {t : FieldType} (hret : meth.sig.returnType = some t) (ht : t = .boolean ∨ t = .byte ∨ t = .char ∨ t = .short) (hlk : meth.locks = false) {pc : Nat} {Ls : Array Slot} {z v : Int32} {rest : List Value} (hd : decode c.code pc = .ok (.ireturn, 1)) {Q : Option Value → Heap → List Loc → Prop} {k n : Nat}
    (hv : nar t z = v) (hQ : Q (some (.int v)) T.heap locs) (hk : cells ≤ k) (hn : slots ≤ n) : own_Ends p e below s Q k n T (mkF m pc Ls (.int z :: rest)) :=
  own_ret X (v := some (.int v)) (fun q => by rw [hret] at q; cases q) hlk (fun fs hr => retN X hx hret ht hd (by rw [hv]; exact hr)) hQ hk hn
theorem own_retL (X : Stand p l e R s m args below meth c T locs cells slots) (hx : p.tables.exec = Jvm.exec) (hret : meth.sig.returnType = some .long) (hlk : meth.locks = false) {pc : Nat} {Ls : Array Slot} {z : Int64} {rest : List Value} (hd : decode c.code pc = .ok (.lreturn, 1)) {Q : Option Value → Heap → List Loc → Prop} {k n : Nat}
    (hQ : Q (some (.long z)) T.heap locs) (hk : cells ≤ k) (hn : slots ≤ n) : own_Ends p e below s Q k n T (mkF m pc Ls (.long z :: rest)) :=
  own_ret X (fun q => by rw [hret] at q; cases q) hlk (fun fs hr => retOut X hx hret rfl (Or.inr (Or.inl ⟨rfl, rfl, z, rfl⟩)) hd hr) hQ hk hn
theorem own_retA (X : Stand p l e R s m args below meth c T locs cells slots) (hx : p.tables.exec = Jvm.exec) {t : FieldType} (hret : meth.sig.returnType = some t) (ht : t.isReference = true) (hlk : meth.locks = false) {pc : Nat} {Ls : Array Slot} {z : Value} {rest : List Value} (hz : z.isRef = true) (hn0 : narrow t z = z) (hd : decode c.code pc = .ok (.areturn, 1)) {Q : Option Value → Heap → List Loc → Prop} {k n : Nat}
    (hQ : Q (some z) T.heap locs) (hk : cells ≤ k) (hn : slots ≤ n) : own_Ends p e below s Q k n T (mkF m pc Ls (z :: rest)) :=
  own_ret X (fun q => by rw [hret] at q; cases q) hlk (fun fs hr => retOut X hx hret hn0 (Or.inr (Or.inr (Or.inr (Or.inr ⟨rfl, ht, hz⟩)))) hd hr) hQ hk hn
theorem own_retV (X : Stand p l e R s m args below meth c T locs cells slots) (hx : p.tables.exec = Jvm.exec) (hret : meth.sig.returnType = none) (hlk : meth.locks = false) {pc : Nat} {Ls : Array Slot} (hd : decode c.code pc = .ok (.return_, 1)) {Q : Option Value → Heap → List Loc → Prop} {k n : Nat}
    (hQ : Q none T.heap locs) (hk : cells ≤ k) (hn : slots ≤ n) : own_Ends p e below s Q k n T (mkF m pc Ls []) :=
  own_ret X (fun _ => rfl) hlk (fun fs hr => X.returnOut hx hret hd hr) hQ hk hn
/-- a contract: called with as' over the heap h0, the method comes back and Q holds -/
def own_Met (l : Launch) (y : MethodName) (bytes : ByteArray) (maxL : Nat) (ret : Option FieldType) (ws : List Jvm.Cond) (rm : Room) (as' : Array Value) (Z : State) (h0 : Heap) (Q : Option Value → Heap → List Loc → Prop) : Prop :=
  MetFree l y (head1 (Jvm.Cond.code y bytes maxL ret :: ws) rm) (fun a U => a = as' ∧ Z.Warmed39 U.vm ∧ U.heap = h0) (fun _ _ _ _ _ => True) (fun _ U o U' => ∃ v L, o = .returned v ∧ Q v U'.heap L ∧ FrameEnd U o U' L rm.cells rm.slots)
theorem own_body {y : MethodName} {bytes : ByteArray} {maxL : Nat} {ret : Option FieldType} {ws : List Jvm.Cond} {rm : Room} {as' : Array Value} {h0 : Heap} {Q : Option Value → Heap → List Loc → Prop} (hy : plainFor y = true) {g0 : MethodId → JFrame} (ef : ∀ m, entryFrame m as' maxL = g0 m)
    (body : ∀ (p : Program) (e : Env) (s : State) (m : MethodId) (below : List Frame) (meth : Method) (c : Code) (T : State), Stand p l e rm s m as' below meth c T [] 0 0 → p.tables.exec = Jvm.exec → c.code = bytes → c.maxLocals = maxL → meth.sig.returnType = ret → meth.locks = false → meth.name = y.name → s.vm.findClass y.cls = some m.cls → Z.Warmed39 s.vm → T.heap = h0 → own_Ends p e below s Q rm.cells rm.slots T (g0 m)) :
    own_Met l y bytes maxL ret ws rm as' Z h0 Q := by
  refine MetFree.of_bodySF hy hisR ?_
  intro p e s m args below meth c s₁ Bd hml hP hK
  obtain ⟨ha, hZ, hh⟩ := hP
  subst ha
  have q := body p e s m below meth c s₁ (Stand.of_body Bd) Bd.exec Bd.bytes hml Bd.returns Bd.notSynchronized (name_of_methodNamed Bd.named Bd.method).1 (findClass_of_methodNamed Bd.named) hZ (by rw [← hh, Bd.state]; rfl)
  rw [← ef m] at q
  exact q
theorem own_callS (X : Stand p l e R s m args below meth c T locs cells slots) (hx : p.tables.exec = Jvm.exec) (hZ : Z.Warmed39 s.vm) {own : String} {index : Nat} {y : MethodName} {bytes : ByteArray} {maxL : Nat} {ret : Option FieldType}
    (hown : s.vm.findClass own = some m.cls) (wl : (Jvm.Cond.methodLink own index y).before a0 Z = true) (wst : (Jvm.Cond.static y).before a0 Z = true) (wi : (Jvm.Cond.initialized y.cls).before a0 Z = true) (wc : (Jvm.Cond.code y bytes maxL ret).before a0 Z = true)
    (hy : y.cls ≠ "java/lang/invoke/MethodHandle" ∧ y.cls ≠ "java/lang/invoke/VarHandle") {rm : Room} {as' : Array Value} {Qc : Option Value → Heap → List Loc → Prop} (hM : own_Met l y bytes maxL ret [] rm as' Z h Qc) (eT : T.heap = h) (W : Nat)
    (hf : rm.frames + 1 ≤ R.frames) (hlo : W + (maxL + 11) + rm.locals ≤ R.locals) (hcl : cells + rm.cells ≤ R.cells) (hsl : slots + rm.slots ≤ R.slots)
    {g : JFrame} (hg : g.method = m) (hsize : g.locals.size = c.maxLocals) (argsL rest : List Value) {ps : List FieldType} {r : Option FieldType} (hpd : parseMethodDescriptor y.desc = some ⟨ps, r⟩) (hlen : argsL.length = ps.length) (has : argsL.toArray = as')
    (hstack : g.stack = argsL.reverse ++ rest) (hW : 2 * g.monitorRoom + (rest.map fun v => v.category).sum ≤ W) (hdg : decode c.code g.pc = .ok (.invokestatic index, 3)) {Q : Option Value → Heap → List Loc → Prop} {k n : Nat}
    (cont : ∀ v T' L, Stand p l e R s m args below meth c T' (locs ++ L) (cells + rm.cells) (slots + rm.slots) → Qc v T'.heap L → own_Ends p e below s Q k n T' { g with pc := g.pc + 3, stack := v.toList ++ rest }) : own_Ends p e below s Q k n T g := by
  obtain ⟨v, _, ⟨T2, L2, k2, n2⟩, -, X2, ⟨Lc, hQ, l2, y2, z2⟩, st⟩ := Jvm.LawKit.callS X hx (y := y) hown (mvT hZ wl) (mvT hZ wst) (mvT hZ wi) (mvT hZ wc) hy (backOf (W := W) hM hZ wc wi hf hlo) hg hsize (argsL := argsL) (rest := rest) (lenOf hpd hlen) hstack hW hdg (fun _ _ => ⟨has, eT, hcl, hsl⟩)
  dsimp only [Pt.U, Pt.locs, Pt.cells, Pt.slots] at X2 l2 y2 z2 st hQ
  subst l2 y2 z2
  exact own_step st (cont v T2 Lc X2 hQ)
theorem own_callV (X : Stand p l e R s m args below meth c T locs cells slots) (hx : p.tables.exec = Jvm.exec) (hZ : Z.Warmed39 s.vm) {own C : String} {index : Nat} {y z : MethodName} {bytes : ByteArray} {maxL : Nat} {ret : Option FieldType}
    (hown : s.vm.findClass own = some m.cls) (wl : (Jvm.Cond.methodLink own index y).before a0 Z = true) (wd : (Jvm.Cond.declares y).before a0 Z = true) (wf : (Jvm.Cond.selects y.cls y y).before a0 Z = true) (ws : (Jvm.Cond.selects C y z).before a0 Z = true) (wm : (Jvm.Cond.instanceMethod z).before a0 Z = true) (wi : (Jvm.Cond.initialized z.cls).before a0 Z = true) (wc : (Jvm.Cond.code z bytes maxL ret).before a0 Z = true)
    (hy : y.cls ≠ "java/lang/invoke/MethodHandle" ∧ y.cls ≠ "java/lang/invoke/VarHandle") {rm : Room} {as' : Array Value} {Qc : Option Value → Heap → List Loc → Prop} (hM : own_Met l z bytes maxL ret [] rm as' Z h Qc) (eT : T.heap = h) {b : Addr} (hE : Exa Z h b C) (W : Nat)
    (hf : rm.frames + 1 ≤ R.frames) (hlo : W + (maxL + 11) + rm.locals ≤ R.locals) (hcl : cells + rm.cells ≤ R.cells) (hsl : slots + rm.slots ≤ R.slots)
    {g : JFrame} (hg : g.method = m) (hsize : g.locals.size = c.maxLocals) (argsL rest : List Value) {ps : List FieldType} {r : Option FieldType} (hpd : parseMethodDescriptor y.desc = some ⟨ps, r⟩) (hlen : argsL.length = ps.length) (has : (Value.ref b :: argsL).toArray = as')
    (hstack : g.stack = argsL.reverse ++ .ref b :: rest) (hW : 2 * g.monitorRoom + (rest.map fun v => v.category).sum ≤ W) (hdg : decode c.code g.pc = .ok (.invokevirtual index, 3)) {Q : Option Value → Heap → List Loc → Prop} {k n : Nat}
    (cont : ∀ v T' L, Stand p l e R s m args below meth c T' (locs ++ L) (cells + rm.cells) (slots + rm.slots) → Qc v T'.heap L → own_Ends p e below s Q k n T' { g with pc := g.pc + 3, stack := v.toList ++ rest }) : own_Ends p e below s Q k n T g := by
  obtain ⟨cq, kq, q1, q2, q3⟩ := isOf hZ eT hE
  obtain ⟨v, _, ⟨T2, L2, k2, n2⟩, -, X2, ⟨Lc, hQ, l2, y2, z2⟩, st⟩ := X.virtualBack hx (y := y) (z := z) hown (mvT hZ wl) (mvT hZ wd) (notFace_of_selects (args := #[]) (mvT hZ wf)) (mvT hZ ws) (mvT hZ wm) hy (backOf (W := W) hM hZ wc wi hf hlo) q1 q3 hg hsize (Steps.refl _) (argsL := argsL) (rest := rest) (lenOf hpd hlen) hstack hW hdg (fun _ _ => ⟨has, eT, hcl, hsl⟩)
  dsimp only [Pt.U, Pt.locs, Pt.cells, Pt.slots] at X2 l2 y2 z2 st hQ
  subst l2 y2 z2
  exact own_step (fun _ k => st.trans k) (cont v T2 Lc X2 hQ)
theorem own_callC (X : Stand p l e R s m args below meth c T locs cells slots) (hx : p.tables.exec = Jvm.exec) (hZ : Z.Warmed39 s.vm) {own : String} {index : Nat} {y : MethodName} {bytes : ByteArray} {maxL : Nat} (hy1 : y.name = "<init>")
    (hown : s.vm.findClass own = some m.cls) (wl : (Jvm.Cond.methodLink own index y).before a0 Z = true) (wm : (Jvm.Cond.instanceMethod y).before a0 Z = true) (wi : (Jvm.Cond.initialized y.cls).before a0 Z = true) (wc : (Jvm.Cond.code y bytes maxL none).before a0 Z = true)
    (hy : y.cls ≠ "java/lang/invoke/MethodHandle" ∧ y.cls ≠ "java/lang/invoke/VarHandle") {rm : Room} {as' : Array Value} {Qc : Option Value → Heap → List Loc → Prop} (hM : own_Met l y bytes maxL none [] rm as' Z h Qc) (eT : T.heap = h) {b : Addr} (W : Nat)
    (hf : rm.frames + 1 ≤ R.frames) (hlo : W + (maxL + 11) + rm.locals ≤ R.locals) (hcl : cells + rm.cells ≤ R.cells) (hsl : slots + rm.slots ≤ R.slots)
    {g : JFrame} (hg : g.method = m) (hsize : g.locals.size = c.maxLocals) (argsL rest : List Value) {ps : List FieldType} {r : Option FieldType} (hpd : parseMethodDescriptor y.desc = some ⟨ps, r⟩) (hlen : argsL.length = ps.length) (has : (Value.ref b :: argsL).toArray = as')
    (hstack : g.stack = argsL.reverse ++ .ref b :: rest) (hW : 2 * g.monitorRoom + (rest.map fun v => v.category).sum ≤ W) (hdg : decode c.code g.pc = .ok (.invokespecial index, 3)) {Q : Option Value → Heap → List Loc → Prop} {k n : Nat}
    (cont : ∀ v T' L, Stand p l e R s m args below meth c T' (locs ++ L) (cells + rm.cells) (slots + rm.slots) → Qc v T'.heap L → own_Ends p e below s Q k n T' { g with pc := g.pc + 3, stack := v.toList ++ rest }) : own_Ends p e below s Q k n T g := by
  obtain ⟨v, _, ⟨T2, L2, k2, n2⟩, -, X2, ⟨Lc, hQ, l2, y2, z2⟩, st⟩ := X.specialBack hx (y := y) hy1 hown (mvT hZ wl) (mvT hZ wm) (mvT hZ wc) hy (backOf (W := W) hM hZ wc wi hf hlo) hg hsize (Steps.refl _) (a := b) (argsL := argsL) (rest := rest) (lenOf hpd hlen) hstack hW hdg (fun _ _ => ⟨has, eT, hcl, hsl⟩)
  dsimp only [Pt.U, Pt.locs, Pt.cells, Pt.slots] at X2 l2 y2 z2 st hQ
  subst l2 y2 z2
  exact own_step (fun _ k => st.trans k) (cont v T2 Lc X2 hQ)
/-! arrays by their lists -/
variable {a b : Addr} {kA : ClassId} {ty : FieldType} {z : Int32} {vs : List Value} {dv : Value}
theorem own_newA (X : Stand p l e R s m args below meth c T locs cells slots) (hx : p.tables.exec = Jvm.exec) (hZ : Z.Warmed39 s.vm) {aty : ArrayType} (w : (Jvm.Cond.arrayClass (newarray.typeOf aty)).before a0 Z = true) (eT : T.heap = h) {g : JFrame} (hg : g.method = m) (hd : decode c.code g.pc = .ok (.newarray aty, 2)) {n : Int32} {rest : List Value} (hs : g.stack = .int n :: rest)
    (hn : ¬ n < 0) {cap : Nat} (hcap : n.toNatClampNeg ≤ cap) (hb : cap * 8 ≤ 536870912) (hc : cells + 1 ≤ R.cells) (hl : slots + cap ≤ R.slots) :
    ∃ T' h' cA b, b = h.size ∧ Stand p l e R s m args below meth c T' locs (cells + 1) (slots + cap) ∧ T'.heap = h' ∧ Ext h h' ∧ Arv Z h' b cA (newarray.typeOf aty) n (List.replicate cap (defaultValue (newarray.typeOf aty))) (defaultValue (newarray.typeOf aty)) ∧
      ∀ target, Steps p.tables e below (T'.setTop { g with pc := g.pc + 2, stack := .ref b :: rest }) target → Steps p.tables e below (T.setTop g) target := by
  obtain ⟨T', h', cA, X', e', E, A, st⟩ := newP X hx hZ w eT hg hd hs hn hcap hb hc hl
  exact ⟨T', h', cA, _, rfl, X', e', E, (Arv.new A hn).pad (pad_rep [] _ cap), st⟩
theorem own_stB (X : Stand p l e R s m args below meth c T locs cells slots) (hx : p.tables.exec = Jvm.exec) (hZ : Z.Warmed39 s.vm) (eT : T.heap = h) (V : Arv Z h a kA .byte z vs dv) {j x : Int32} (hj : ¬ j < 0 ∧ j < z) (i : Nat) (hi : j.toNatClampNeg = i) (hl : i < vs.length) {g : JFrame} (hg : g.method = m) {rest : List Value} (hs : g.stack = .int x :: .int j :: .ref a :: rest) (hd : decode c.code g.pc = .ok (.bastore, 1)) :
    ∃ T' h' L, Stand p l e R s m args below meth c T' (locs ++ [⟨a, L⟩]) cells slots ∧ T'.heap = h' ∧ Wr h h' a L (.int x.toInt8.toInt32) ∧ Arv Z h' a kA .byte z (vs.set i (.int x.toInt8.toInt32)) dv ∧ ∀ target, Steps p.tables e below (T'.setTop { g with pc := g.pc + 1, stack := rest }) target → Steps p.tables e below (T.setTop g) target := by
  obtain ⟨cl, Ar, q, S, N, H, G⟩ := V
  obtain ⟨T', h', X', e', W, st⟩ := stB X hx hZ eT Ar (inb_of S hj) hg hs hd
  exact ⟨T', h', _, X', e', W, Arv.set Ar q S N H G (fits_nar_byte _) W i hi hl, st⟩
theorem own_stZ (X : Stand p l e R s m args below meth c T locs cells slots) (hx : p.tables.exec = Jvm.exec) (hZ : Z.Warmed39 s.vm) (eT : T.heap = h) (V : Arv Z h a kA .boolean z vs dv) {j x : Int32} (hj : ¬ j < 0 ∧ j < z) (i : Nat) (hi : j.toNatClampNeg = i) (hl : i < vs.length) {g : JFrame} (hg : g.method = m) {rest : List Value} (hs : g.stack = .int x :: .int j :: .ref a :: rest) (hd : decode c.code g.pc = .ok (.bastore, 1)) :
    ∃ T' h' L, Stand p l e R s m args below meth c T' (locs ++ [⟨a, L⟩]) cells slots ∧ T'.heap = h' ∧ Wr h h' a L (.int (nar .boolean x)) ∧ Arv Z h' a kA .boolean z (vs.set i (.int (nar .boolean x))) dv ∧ ∀ target, Steps p.tables e below (T'.setTop { g with pc := g.pc + 1, stack := rest }) target → Steps p.tables e below (T.setTop g) target := by
  obtain ⟨cl, Ar, q, S, N, H, G⟩ := V
  obtain ⟨T', h', X', e', W, st⟩ := stZ X hx hZ eT Ar (inb_of S hj) hg hs hd
  exact ⟨T', h', _, X', e', W, Arv.set Ar q S N H G (fits_nar_bool _) W i hi hl, st⟩
theorem own_stC (X : Stand p l e R s m args below meth c T locs cells slots) (hx : p.tables.exec = Jvm.exec) (hZ : Z.Warmed39 s.vm) (eT : T.heap = h) (V : Arv Z h a kA .char z vs dv) {j x : Int32} (hj : ¬ j < 0 ∧ j < z) (i : Nat) (hi : j.toNatClampNeg = i) (hl : i < vs.length) {g : JFrame} (hg : g.method = m) {rest : List Value} (hs : g.stack = .int x :: .int j :: .ref a :: rest) (hd : decode c.code g.pc = .ok (.castore, 1)) :
    ∃ T' h' L, Stand p l e R s m args below meth c T' (locs ++ [⟨a, L⟩]) cells slots ∧ T'.heap = h' ∧ Wr h h' a L (.int (nar .char x)) ∧ Arv Z h' a kA .char z (vs.set i (.int (nar .char x))) dv ∧ ∀ target, Steps p.tables e below (T'.setTop { g with pc := g.pc + 1, stack := rest }) target → Steps p.tables e below (T.setTop g) target := by
  obtain ⟨cl, Ar, q, S, N, H, G⟩ := V
  obtain ⟨T', h', X', e', W, st⟩ := stC X hx hZ eT Ar (inb_of S hj) hg hs hd
  exact ⟨T', h', _, X', e', W, Arv.set Ar q S N H G (fits_nar_char _) W i hi hl, st⟩
theorem own_stI (X : Stand p l e R s m args below meth c T locs cells slots) (hx : p.tables.exec = Jvm.exec) (hZ : Z.Warmed39 s.vm) (eT : T.heap = h) (V : Arv Z h a kA .int z vs dv) {j x : Int32} (hj : ¬ j < 0 ∧ j < z) (i : Nat) (hi : j.toNatClampNeg = i) (hl : i < vs.length) {g : JFrame} (hg : g.method = m) {rest : List Value} (hs : g.stack = .int x :: .int j :: .ref a :: rest) (hd : decode c.code g.pc = .ok (.iastore, 1)) :
    ∃ T' h' L, Stand p l e R s m args below meth c T' (locs ++ [⟨a, L⟩]) cells slots ∧ T'.heap = h' ∧ Wr h h' a L (.int x) ∧ Arv Z h' a kA .int z (vs.set i (.int x)) dv ∧ ∀ target, Steps p.tables e below (T'.setTop { g with pc := g.pc + 1, stack := rest }) target → Steps p.tables e below (T.setTop g) target := by
  obtain ⟨cl, Ar, q, S, N, H, G⟩ := V
  obtain ⟨T', h', X', e', W, st⟩ := stI X hx hZ eT Ar (inb_of S hj) hg hs hd
  exact ⟨T', h', _, X', e', W, Arv.set Ar q S N H G rfl W i hi hl, st⟩
theorem own_stJ (X : Stand p l e R s m args below meth c T locs cells slots) (hx : p.tables.exec = Jvm.exec) (hZ : Z.Warmed39 s.vm) (eT : T.heap = h) (V : Arv Z h a kA .long z vs dv) {j : Int32} {x : Int64} (hj : ¬ j < 0 ∧ j < z) (i : Nat) (hi : j.toNatClampNeg = i) (hl : i < vs.length) {g : JFrame} (hg : g.method = m) {rest : List Value} (hs : g.stack = .long x :: .int j :: .ref a :: rest) (hd : decode c.code g.pc = .ok (.lastore, 1)) :
    ∃ T' h' L, Stand p l e R s m args below meth c T' (locs ++ [⟨a, L⟩]) cells slots ∧ T'.heap = h' ∧ Wr h h' a L (.long x) ∧ Arv Z h' a kA .long z (vs.set i (.long x)) dv ∧ ∀ target, Steps p.tables e below (T'.setTop { g with pc := g.pc + 1, stack := rest }) target → Steps p.tables e below (T.setTop g) target := by
  obtain ⟨cl, Ar, q, S, N, H, G⟩ := V
  obtain ⟨T', h', X', e', W, st⟩ := stJ X hx hZ eT Ar (inb_of S hj) hg hs hd
  exact ⟨T', h', _, X', e', W, Arv.set Ar q S N H G rfl W i hi hl, st⟩
theorem own_ldB (X : Stand p l e R s m args below meth c T locs cells slots) (hx : p.tables.exec = Jvm.exec) (hZ : Z.Warmed39 s.vm) (eT : T.heap = h) (V : Arv Z h a kA .byte z vs dv) {j : Int32} {v : Value} (hj : ¬ j < 0 ∧ j < z) (hv : vs.getD j.toNatClampNeg dv = v) {g : JFrame} (hg : g.method = m) {rest : List Value} (hs : g.stack = .int j :: .ref a :: rest) (hd : decode c.code g.pc = .ok (.baload, 1)) :
    ∀ t, Steps p.tables e below (T.setTop { g with pc := g.pc + 1, stack := v :: rest }) t → Steps p.tables e below (T.setTop g) t := by
  obtain ⟨cl, Ar, q, S, N, H, G⟩ := V
  exact fun t k => X.baloadBytes hx (by rw [eT]; exact Ar.1) (State.isArrayOf_alike hZ.alike Ar.2.1) Ar.2.2 (inb_of S hj) (Has.at H (inb_of S hj) hv) hg hs hd _ k
theorem own_ldZ (X : Stand p l e R s m args below meth c T locs cells slots) (hx : p.tables.exec = Jvm.exec) (hZ : Z.Warmed39 s.vm) (eT : T.heap = h) (V : Arv Z h a kA .boolean z vs dv) {j : Int32} {v : Value} (hj : ¬ j < 0 ∧ j < z) (hv : vs.getD j.toNatClampNeg dv = v) {g : JFrame} (hg : g.method = m) {rest : List Value} (hs : g.stack = .int j :: .ref a :: rest) (hd : decode c.code g.pc = .ok (.baload, 1)) :
    ∀ t, Steps p.tables e below (T.setTop { g with pc := g.pc + 1, stack := v :: rest }) t → Steps p.tables e below (T.setTop g) t := by
  obtain ⟨cl, Ar, q, S, N, H, G⟩ := V
  exact fun t k => X.baloadBooleans hx (by rw [eT]; exact Ar.1) (State.isArrayOf_alike hZ.alike Ar.2.1) Ar.2.2 (inb_of S hj) (Has.at H (inb_of S hj) hv) hg hs hd _ k
theorem own_ldC (X : Stand p l e R s m args below meth c T locs cells slots) (hx : p.tables.exec = Jvm.exec) (hZ : Z.Warmed39 s.vm) (eT : T.heap = h) (V : Arv Z h a kA .char z vs dv) {j : Int32} {v : Value} (hj : ¬ j < 0 ∧ j < z) (hv : vs.getD j.toNatClampNeg dv = v) {g : JFrame} (hg : g.method = m) {rest : List Value} (hs : g.stack = .int j :: .ref a :: rest) (hd : decode c.code g.pc = .ok (.caload, 1)) :
    ∀ t, Steps p.tables e below (T.setTop { g with pc := g.pc + 1, stack := v :: rest }) t → Steps p.tables e below (T.setTop g) t := by
  obtain ⟨cl, Ar, q, S, N, H, G⟩ := V
  exact fun t k => X.caload hx (by rw [eT]; exact Ar.1) (State.isArrayOf_alike hZ.alike Ar.2.1) Ar.2.2 (inb_of S hj) (Has.at H (inb_of S hj) hv) hg hs hd _ k
theorem own_ldI (X : Stand p l e R s m args below meth c T locs cells slots) (hx : p.tables.exec = Jvm.exec) (hZ : Z.Warmed39 s.vm) (eT : T.heap = h) (V : Arv Z h a kA .int z vs dv) {j : Int32} {v : Value} (hj : ¬ j < 0 ∧ j < z) (hv : vs.getD j.toNatClampNeg dv = v) {g : JFrame} (hg : g.method = m) {rest : List Value} (hs : g.stack = .int j :: .ref a :: rest) (hd : decode c.code g.pc = .ok (.iaload, 1)) :
    ∀ t, Steps p.tables e below (T.setTop { g with pc := g.pc + 1, stack := v :: rest }) t → Steps p.tables e below (T.setTop g) t := by
  obtain ⟨cl, Ar, q, S, N, H, G⟩ := V
  exact fun t k => X.iaload hx (by rw [eT]; exact Ar.1) (State.isArrayOf_alike hZ.alike Ar.2.1) Ar.2.2 (inb_of S hj) (Has.at H (inb_of S hj) hv) hg hs hd _ k
theorem own_ldJ (X : Stand p l e R s m args below meth c T locs cells slots) (hx : p.tables.exec = Jvm.exec) (hZ : Z.Warmed39 s.vm) (eT : T.heap = h) (V : Arv Z h a kA .long z vs dv) {j : Int32} {v : Value} (hj : ¬ j < 0 ∧ j < z) (hv : vs.getD j.toNatClampNeg dv = v) {g : JFrame} (hg : g.method = m) {rest : List Value} (hs : g.stack = .int j :: .ref a :: rest) (hd : decode c.code g.pc = .ok (.laload, 1)) :
    ∀ t, Steps p.tables e below (T.setTop { g with pc := g.pc + 1, stack := v :: rest }) t → Steps p.tables e below (T.setTop g) t := by
  obtain ⟨cl, Ar, q, S, N, H, G⟩ := V
  exact fun t k => X.laload hx (by rw [eT]; exact Ar.1) (State.isArrayOf_alike hZ.alike Ar.2.1) Ar.2.2 (inb_of S hj) (Has.at H (inb_of S hj) hv) hg hs hd _ k
theorem own_ldA (X : Stand p l e R s m args below meth c T locs cells slots) (hx : p.tables.exec = Jvm.exec) (hZ : Z.Warmed39 s.vm) (eT : T.heap = h) (V : Arv Z h a kA ty z vs dv) (hty : ty.isReference = true) {j : Int32} {v : Value} (hj : ¬ j < 0 ∧ j < z) (hv : vs.getD j.toNatClampNeg dv = v) {g : JFrame} (hg : g.method = m) {rest : List Value} (hs : g.stack = .int j :: .ref a :: rest) (hd : decode c.code g.pc = .ok (.aaload, 1)) :
    ∀ t, Steps p.tables e below (T.setTop { g with pc := g.pc + 1, stack := v :: rest }) t → Steps p.tables e below (T.setTop g) t := by
  obtain ⟨cl, Ar, q, S, N, H, G⟩ := V
  exact fun t k => X.aaload hx (by rw [eT]; exact Ar.1) (State.isArrayOf_alike hZ.alike Ar.2.1) hty Ar.2.2 (inb_of S hj) (Has.at H (inb_of S hj) hv) hg hs hd _ k
theorem own_len (X : Stand p l e R s m args below meth c T locs cells slots) (hx : p.tables.exec = Jvm.exec) (hZ : Z.Warmed39 s.vm) (eT : T.heap = h) (V : Arv Z h a kA ty z vs dv) {g : JFrame} (hg : g.method = m) {rest : List Value} (hs : g.stack = .ref a :: rest) (hd : decode c.code g.pc = .ok (.arraylength, 1)) :
    ∀ t, Steps p.tables e below (T.setTop { g with pc := g.pc + 1, stack := .int z :: rest }) t → Steps p.tables e below (T.setTop g) t := by
  obtain ⟨cl, Ar, q, S, N, H, G⟩ := V
  refine fun t k => X.arraylength hx (by rw [eT]; exact Ar.1) (State.isArrayOf_alike hZ.alike Ar.2.1) hg hs hd _ ?_
  rw [len_of S N]; exact k
theorem own_newR (X : Stand p l e R s m args below meth c T locs cells slots) (hx : p.tables.exec = Jvm.exec) (hZ : Z.Warmed39 s.vm) {own C : String} {index : Nat} (hown : s.vm.findClass own = some m.cls) (w1 : (Jvm.Cond.classLink own index C).before a0 Z = true) (w2 : (Jvm.Cond.arrayOver (.object C)).before a0 Z = true)
    (eT : T.heap = h) {g : JFrame} (hg : g.method = m) (hd : decode c.code g.pc = .ok (.anewarray index, 3)) {n : Int32} {rest : List Value} (hs : g.stack = .int n :: rest) (hn : ¬ n < 0) {cap : Nat} (hcap : n.toNatClampNeg ≤ cap) (hb : cap * 8 ≤ 536870912) (hc : cells + 1 ≤ R.cells) (hl : slots + cap ≤ R.slots) :
    ∃ T' h' cA b, b = h.size ∧ Stand p l e R s m args below meth c T' locs (cells + 1) (slots + cap) ∧ T'.heap = h' ∧ Ext h h' ∧ Arv Z h' b cA (.object C) n (List.replicate cap .null) .null ∧ Ovr Z cA C ∧
      ∀ target, Steps p.tables e below (T'.setTop { g with pc := g.pc + 3, stack := .ref b :: rest }) target → Steps p.tables e below (T.setTop g) target := by
  obtain ⟨T', h', cA, X', e', E, A, O, st⟩ := newR X hx hZ hown w1 w2 eT hg hd hs hn hcap hb hc hl
  exact ⟨T', h', cA, _, rfl, X', e', E, (Arv.new A hn).pad (pad_rep [] _ cap), O, st⟩
theorem own_stA (X : Stand p l e R s m args below meth c T locs cells slots) (hx : p.tables.exec = Jvm.exec) (hZ : Z.Warmed39 s.vm) (eT : T.heap = h) {C : String} {y : Addr} (V : Arv Z h a kA (.object C) z vs dv) (O : Ovr Z kA C) (I : Ins Z h y C true) {j : Int32} (hj : ¬ j < 0 ∧ j < z) (i : Nat) (hi : j.toNatClampNeg = i) (hl : i < vs.length) {g : JFrame} (hg : g.method = m) {rest : List Value} (hs : g.stack = .ref y :: .int j :: .ref a :: rest) (hd : decode c.code g.pc = .ok (.aastore, 1)) :
    ∃ T' h' L, Stand p l e R s m args below meth c T' (locs ++ [⟨a, L⟩]) cells slots ∧ T'.heap = h' ∧ Wr h h' a L (.ref y) ∧ Arv Z h' a kA (.object C) z (vs.set i (.ref y)) dv ∧ ∀ target, Steps p.tables e below (T'.setTop { g with pc := g.pc + 1, stack := rest }) target → Steps p.tables e below (T.setTop g) target := by
  obtain ⟨cl, Ar, q, S, N, H, G⟩ := V
  obtain ⟨T', h', X', e', W, st⟩ := stR X hx hZ eT Ar (inb_of S hj) rfl (Sto.ofV Ar q O I) hg hs hd
  exact ⟨T', h', _, X', e', W, Arv.set Ar q S N H G rfl W i hi hl, st⟩
/-! what the case's words say of statics -/
theorem own_eqI {t : Term} {n : Int32} {args : Array Value} {s : State} (q : (Jvm.Cond.eq t (.int n)).value args s none s [] = some true) : t.eval args s none [] s = some (.int n) := by
  cases ht : t.eval args s none [] s with
  | none => simp [Jvm.Cond.value, ht] at q
  | some v => cases v <;> simp [Jvm.Cond.value, ht, Term.eval, Value.isRef] at q ⊢ <;> exact q
theorem own_eqJ {t : Term} {n : Int64} {args : Array Value} {s : State} (q : (Jvm.Cond.eq t (.long n)).value args s none s [] = some true) : t.eval args s none [] s = some (.long n) := by
  cases ht : t.eval args s none [] s with
  | none => simp [Jvm.Cond.value, ht] at q
  | some v => cases v <;> simp [Jvm.Cond.value, ht, Term.eval, Value.isRef] at q ⊢ <;> exact q
theorem own_eqR {t u : Term} {x : Addr} {args : Array Value} {s : State} (hu : u.eval args s none [] s = some (.ref x)) (q : (Jvm.Cond.eq t u).value args s none s [] = some true) : t.eval args s none [] s = some (.ref x) := by
  cases ht : t.eval args s none [] s with
  | none => simp [Jvm.Cond.value, ht] at q
  | some v => cases v <;> simp [Jvm.Cond.value, ht, hu, Value.isRef] at q ⊢ <;> exact q
theorem own_lenT {t : Term} {a : Addr} {cl : Cell} {ty : FieldType} {z : Int32} {args : Array Value} {s : State} (ht : t.eval args s none [] s = some (.ref a)) (A : Arr s s.heap a cl ty) (q : (Term.length t).eval args s none [] s = some (.int z)) : cl.slots.size < 2 ^ 31 ∧ cl.slots.size.toInt32 = z := by
  have ha : s.arrayAt? a = some cl := Arr.fin (Vm.Alike.refl _) A
  by_cases hl : cl.slots.size < 2 ^ 31
  · rw [len_f ht ha hl] at q; cases q; exact ⟨hl, rfl⟩
  · simp [Term.eval, ht, ha, hl] at q
end Own
end Jvm.RoadKit
namespace Jvm.Pilot.@@N@@
open Jvm Jvm.ClassFile Sem Op Lib Jvm.Free Jvm.Stand Jvm.LawKit Jvm.RoadKit Bundle Jvm.Pilot.@@N@@.Jvm.D
theorem own_leafI {x y : Int32} (q : y = x) : some (Value.int x) = some (.int y) := by rw [q]
theorem own_leafJ {x y : Int64} (q : y = x) : some (Value.long x) = some (.long y) := by rw [q]
theorem own_bb (x : Int32) : x.toInt8.toInt32.toInt8.toInt32 = x.toInt8.toInt32 := by
  have h1 := c_i2b x; have h2 := c_i2b x.toInt8.toInt32
  rw [← Int32.toInt_inj]; omega
theorem own_lt {x y : Int32} {n k : Nat} (hx : x.toInt = n) (hy : y.toInt = k) : x < y ↔ n < k := by rw [Int32.lt_iff_toInt_lt]; omega
theorem own_add {x y : Int32} {n k : Nat} (hx : x.toInt = n) (hy : y.toInt = k) (h : n + k < 2147483648) : (x + y).toInt = (n + k : Nat) := by
  have h1 := c_iadd x y; have h2 := rng32 (x + y); omega
theorem own_nn {x : Int32} {n : Nat} (hx : x.toInt = n) : ¬ x < 0 := by
  rw [Int32.lt_iff_toInt_lt]; have e0 : (0 : Int32).toInt = 0 := rfl; omega
theorem own_clamp {x : Int32} {n : Nat} (hx : x.toInt = n) : x.toNatClampNeg = n := by simp only [Int32.toNatClampNeg]; omega
theorem own_lit32 {x : Int32} {n : Nat} (h : x.toInt = n) : x = Int32.ofInt n := by
  rw [← Int32.toInt_inj, Int32.toInt_ofInt, h]
  have := x.toInt_lt
  have es : Int32.size = 4294967296 := rfl
  rw [Int.bmod_eq_of_le (by omega) (by omega)]
theorem d3_0 : decode prog_6_method_5_code 0 = .ok (.iload_n 0, 1) := by decide +kernel
theorem d3_1 : decode prog_6_method_5_code 1 = .ok (.sipush 255, 3) := by decide +kernel
theorem d3_4 : decode prog_6_method_5_code 4 = .ok (.iand, 1) := by decide +kernel
theorem d3_5 : decode prog_6_method_5_code 5 = .ok (.istore_n 1, 1) := by decide +kernel
theorem d3_6 : decode prog_6_method_5_code 6 = .ok (.iload_n 1, 1) := by decide +kernel
theorem d3_7 : decode prog_6_method_5_code 7 = .ok (.bipush 32, 2) := by decide +kernel
theorem d3_9 : decode prog_6_method_5_code 9 = .ok (.if_icmp .le 21, 3) := by decide +kernel
theorem d3_12 : decode prog_6_method_5_code 12 = .ok (.iload_n 1, 1) := by decide +kernel
theorem d3_13 : decode prog_6_method_5_code 13 = .ok (.bipush 127, 2) := by decide +kernel
theorem d3_15 : decode prog_6_method_5_code 15 = .ok (.if_icmp .ge 15, 3) := by decide +kernel
theorem d3_18 : decode prog_6_method_5_code 18 = .ok (.iload_n 1, 1) := by decide +kernel
theorem d3_19 : decode prog_6_method_5_code 19 = .ok (.bipush 35, 2) := by decide +kernel
theorem d3_21 : decode prog_6_method_5_code 21 = .ok (.if_icmp .eq 9, 3) := by decide +kernel
theorem d3_24 : decode prog_6_method_5_code 24 = .ok (.iload_n 1, 1) := by decide +kernel
theorem d3_25 : decode prog_6_method_5_code 25 = .ok (.bipush 37, 2) := by decide +kernel
theorem d3_27 : decode prog_6_method_5_code 27 = .ok (.if_icmp .ne 7, 3) := by decide +kernel
theorem d3_30 : decode prog_6_method_5_code 30 = .ok (.iconst 1, 1) := by decide +kernel
theorem d3_31 : decode prog_6_method_5_code 31 = .ok (.goto 4, 3) := by decide +kernel
theorem d3_34 : decode prog_6_method_5_code 34 = .ok (.iconst 0, 1) := by decide +kernel
theorem d3_35 : decode prog_6_method_5_code 35 = .ok (.ireturn, 1) := by decide +kernel
theorem ef_3 (p1 : Int32) (m : MethodId) : entryFrame m #[(.int p1)] 2 = mkF m 0 #[.val (.int p1), .unset] [] := by first | (simp [entryFrame, mkF, argsToLocals, Value.category]; done) | rfl
def own_f3 (p1 : Int32) : Int32 := (if (32 : Int32) < (p1 &&& (255 : Int32)) then (if (p1 &&& (255 : Int32)) < (127 : Int32) then (if (p1 &&& (255 : Int32)) = (35 : Int32) then (1 : Int32) else (if (p1 &&& (255 : Int32)) = (37 : Int32) then (1 : Int32) else (0 : Int32))) else (1 : Int32)) else (1 : Int32))
theorem pn_0 : plainName "com/example/gist_hash/gisthash/PercentCoding" = true := by first | (simp [plainName, overriddenIn]; done) | decide +kernel
set_option maxRecDepth 65536 in
set_option maxHeartbeats 40000000 in
theorem rm3 (l : Launch) (Z : State) (a0 : Array Value) (hw : ∀ d ∈ tables_1, d.before a0 Z = true) (ws : List Jvm.Cond) (p1 : Int32) (h0 : Heap) (n0 : Nat) (Z0 : n0 ≤ h0.size) :
    own_Met l (⟨"com/example/gist_hash/gisthash/PercentCoding", "isEscaped", "(B)Z"⟩ : MethodName) prog_6_method_5_code 2 (some .boolean) ws ({ frames := 0, cells := 0, slots := 0, locals := 0 } : Room) #[(.int p1)] Z h0 (fun v h L => v = some (.int (own_f3 p1)) ∧ Fr n0 L ∧ h = h0) := by
  refine own_body (plainFor_of_name pn_0) (ef_3 p1) ?_
  intro p e s m below meth c T0 X0 hx hby hml0 hret hlk hnm hown hZ e0
  have hml : c.maxLocals = 2 := hml0
  have N0 := Fr.nil n0
  refine own_step (fun _ k => XS.iloadN X0.here hx rfl (hb hby d3_0) rfl k) ?_
  show own_Ends _ _ _ _ _ _ _ T0 (mkF m 1 #[.val (.int p1), .unset] [(.int p1)])
  refine own_step (fun _ k => XS.sipush X0.here hx rfl (hb hby d3_1) k) ?_
  show own_Ends _ _ _ _ _ _ _ T0 (mkF m 4 #[.val (.int p1), .unset] [(.int (255 : Int32)), (.int p1)])
  refine own_step (fun _ k => XS.iand X0.here hx rfl (hb hby d3_4) rfl k) ?_
  show own_Ends _ _ _ _ _ _ _ T0 (mkF m 5 #[.val (.int p1), .unset] [(.int (p1 &&& (255 : Int32)))])
  refine own_step (fun _ k => XS.istoreN X0.here hx rfl (hb hby d3_5) rfl (l' := #[.val (.int p1), .val (.int (p1 &&& (255 : Int32)))]) rfl k) ?_
  show own_Ends _ _ _ _ _ _ _ T0 (mkF m 6 #[.val (.int p1), .val (.int (p1 &&& (255 : Int32)))] [])
  refine own_step (fun _ k => XS.iloadN X0.here hx rfl (hb hby d3_6) rfl k) ?_
  show own_Ends _ _ _ _ _ _ _ T0 (mkF m 7 #[.val (.int p1), .val (.int (p1 &&& (255 : Int32)))] [(.int (p1 &&& (255 : Int32)))])
  refine own_step (fun _ k => XS.bipush X0.here hx rfl (hb hby d3_7) k) ?_
  show own_Ends _ _ _ _ _ _ _ T0 (mkF m 9 #[.val (.int p1), .val (.int (p1 &&& (255 : Int32)))] [(.int (32 : Int32)), (.int (p1 &&& (255 : Int32)))])
  by_cases hc1 : (32 : Int32) < (p1 &&& (255 : Int32))
  · refine own_step (fun _ k => XS.icmpNo X0.here hx rfl (hb hby d3_9) rfl (tlt hc1).2.2.2 k) ?_
    show own_Ends _ _ _ _ _ _ _ T0 (mkF m 12 #[.val (.int p1), .val (.int (p1 &&& (255 : Int32)))] [])
    refine own_step (fun _ k => XS.iloadN X0.here hx rfl (hb hby d3_12) rfl k) ?_
    show own_Ends _ _ _ _ _ _ _ T0 (mkF m 13 #[.val (.int p1), .val (.int (p1 &&& (255 : Int32)))] [(.int (p1 &&& (255 : Int32)))])
    refine own_step (fun _ k => XS.bipush X0.here hx rfl (hb hby d3_13) k) ?_
    show own_Ends _ _ _ _ _ _ _ T0 (mkF m 15 #[.val (.int p1), .val (.int (p1 &&& (255 : Int32)))] [(.int (127 : Int32)), (.int (p1 &&& (255 : Int32)))])
    by_cases hc2 : (p1 &&& (255 : Int32)) < (127 : Int32)
    · refine own_step (fun _ k => XS.icmpNo X0.here hx rfl (hb hby d3_15) rfl (tlt hc2).2.1 k) ?_
      show own_Ends _ _ _ _ _ _ _ T0 (mkF m 18 #[.val (.int p1), .val (.int (p1 &&& (255 : Int32)))] [])
      refine own_step (fun _ k => XS.iloadN X0.here hx rfl (hb hby d3_18) rfl k) ?_
      show own_Ends _ _ _ _ _ _ _ T0 (mkF m 19 #[.val (.int p1), .val (.int (p1 &&& (255 : Int32)))] [(.int (p1 &&& (255 : Int32)))])
      refine own_step (fun _ k => XS.bipush X0.here hx rfl (hb hby d3_19) k) ?_
      show own_Ends _ _ _ _ _ _ _ T0 (mkF m 21 #[.val (.int p1), .val (.int (p1 &&& (255 : Int32)))] [(.int (35 : Int32)), (.int (p1 &&& (255 : Int32)))])
      by_cases hc3 : (p1 &&& (255 : Int32)) = (35 : Int32)
      · refine own_step (fun _ k => XS.icmpYes X0.here hx rfl (pc0 := 21) (pc' := 30) rfl (hb hby d3_21) rfl (teq hc3).1 (by decide) (by decide) k) ?_
        show own_Ends _ _ _ _ _ _ _ T0 (mkF m 30 #[.val (.int p1), .val (.int (p1 &&& (255 : Int32)))] [])
        refine own_step (fun _ k => XS.iconst X0.here hx rfl (hb hby d3_30) k) ?_
        show own_Ends _ _ _ _ _ _ _ T0 (mkF m 31 #[.val (.int p1), .val (.int (p1 &&& (255 : Int32)))] [(.int (1 : Int32))])
        refine own_step (fun _ k => XS.goto X0.here hx rfl (pc0 := 31) (pc' := 35) rfl (hb hby d3_31) (by decide) (by decide) k) ?_
        show own_Ends _ _ _ _ _ _ _ T0 (mkF m 35 #[.val (.int p1), .val (.int (p1 &&& (255 : Int32)))] [(.int (1 : Int32))])
        exact own_retN X0 hx (t := .boolean) hret (by simp) hlk (hb hby d3_35) rfl ⟨own_leafI ((if_pos hc1).trans ((if_pos hc2).trans (if_pos hc3))), N0, e0⟩ (by decide) (by decide)
      · refine own_step (fun _ k => XS.icmpNo X0.here hx rfl (hb hby d3_21) rfl (feq hc3).1 k) ?_
        show own_Ends _ _ _ _ _ _ _ T0 (mkF m 24 #[.val (.int p1), .val (.int (p1 &&& (255 : Int32)))] [])
        refine own_step (fun _ k => XS.iloadN X0.here hx rfl (hb hby d3_24) rfl k) ?_
        show own_Ends _ _ _ _ _ _ _ T0 (mkF m 25 #[.val (.int p1), .val (.int (p1 &&& (255 : Int32)))] [(.int (p1 &&& (255 : Int32)))])
        refine own_step (fun _ k => XS.bipush X0.here hx rfl (hb hby d3_25) k) ?_
        show own_Ends _ _ _ _ _ _ _ T0 (mkF m 27 #[.val (.int p1), .val (.int (p1 &&& (255 : Int32)))] [(.int (37 : Int32)), (.int (p1 &&& (255 : Int32)))])
        by_cases hc4 : (p1 &&& (255 : Int32)) = (37 : Int32)
        · refine own_step (fun _ k => XS.icmpNo X0.here hx rfl (hb hby d3_27) rfl (teq hc4).2 k) ?_
          show own_Ends _ _ _ _ _ _ _ T0 (mkF m 30 #[.val (.int p1), .val (.int (p1 &&& (255 : Int32)))] [])
          refine own_step (fun _ k => XS.iconst X0.here hx rfl (hb hby d3_30) k) ?_
          show own_Ends _ _ _ _ _ _ _ T0 (mkF m 31 #[.val (.int p1), .val (.int (p1 &&& (255 : Int32)))] [(.int (1 : Int32))])
          refine own_step (fun _ k => XS.goto X0.here hx rfl (pc0 := 31) (pc' := 35) rfl (hb hby d3_31) (by decide) (by decide) k) ?_
          show own_Ends _ _ _ _ _ _ _ T0 (mkF m 35 #[.val (.int p1), .val (.int (p1 &&& (255 : Int32)))] [(.int (1 : Int32))])
          exact own_retN X0 hx (t := .boolean) hret (by simp) hlk (hb hby d3_35) rfl ⟨own_leafI ((if_pos hc1).trans ((if_pos hc2).trans ((if_neg hc3).trans (if_pos hc4)))), N0, e0⟩ (by decide) (by decide)
        · refine own_step (fun _ k => XS.icmpYes X0.here hx rfl (pc0 := 27) (pc' := 34) rfl (hb hby d3_27) rfl (feq hc4).2 (by decide) (by decide) k) ?_
          show own_Ends _ _ _ _ _ _ _ T0 (mkF m 34 #[.val (.int p1), .val (.int (p1 &&& (255 : Int32)))] [])
          refine own_step (fun _ k => XS.iconst X0.here hx rfl (hb hby d3_34) k) ?_
          show own_Ends _ _ _ _ _ _ _ T0 (mkF m 35 #[.val (.int p1), .val (.int (p1 &&& (255 : Int32)))] [(.int (0 : Int32))])
          exact own_retN X0 hx (t := .boolean) hret (by simp) hlk (hb hby d3_35) rfl ⟨own_leafI ((if_pos hc1).trans ((if_pos hc2).trans ((if_neg hc3).trans (if_neg hc4)))), N0, e0⟩ (by decide) (by decide)
    · refine own_step (fun _ k => XS.icmpYes X0.here hx rfl (pc0 := 15) (pc' := 30) rfl (hb hby d3_15) rfl (flt hc2).2.1 (by decide) (by decide) k) ?_
      show own_Ends _ _ _ _ _ _ _ T0 (mkF m 30 #[.val (.int p1), .val (.int (p1 &&& (255 : Int32)))] [])
      refine own_step (fun _ k => XS.iconst X0.here hx rfl (hb hby d3_30) k) ?_
      show own_Ends _ _ _ _ _ _ _ T0 (mkF m 31 #[.val (.int p1), .val (.int (p1 &&& (255 : Int32)))] [(.int (1 : Int32))])
      refine own_step (fun _ k => XS.goto X0.here hx rfl (pc0 := 31) (pc' := 35) rfl (hb hby d3_31) (by decide) (by decide) k) ?_
      show own_Ends _ _ _ _ _ _ _ T0 (mkF m 35 #[.val (.int p1), .val (.int (p1 &&& (255 : Int32)))] [(.int (1 : Int32))])
      exact own_retN X0 hx (t := .boolean) hret (by simp) hlk (hb hby d3_35) rfl ⟨own_leafI ((if_pos hc1).trans (if_neg hc2)), N0, e0⟩ (by decide) (by decide)
  · refine own_step (fun _ k => XS.icmpYes X0.here hx rfl (pc0 := 9) (pc' := 30) rfl (hb hby d3_9) rfl (flt hc1).2.2.2 (by decide) (by decide) k) ?_
    show own_Ends _ _ _ _ _ _ _ T0 (mkF m 30 #[.val (.int p1), .val (.int (p1 &&& (255 : Int32)))] [])
    refine own_step (fun _ k => XS.iconst X0.here hx rfl (hb hby d3_30) k) ?_
    show own_Ends _ _ _ _ _ _ _ T0 (mkF m 31 #[.val (.int p1), .val (.int (p1 &&& (255 : Int32)))] [(.int (1 : Int32))])
    refine own_step (fun _ k => XS.goto X0.here hx rfl (pc0 := 31) (pc' := 35) rfl (hb hby d3_31) (by decide) (by decide) k) ?_
    show own_Ends _ _ _ _ _ _ _ T0 (mkF m 35 #[.val (.int p1), .val (.int (p1 &&& (255 : Int32)))] [(.int (1 : Int32))])
    exact own_retN X0 hx (t := .boolean) hret (by simp) hlk (hb hby d3_35) rfl ⟨own_leafI (if_neg hc1), N0, e0⟩ (by decide) (by decide)
theorem d1_0 : decode method_2_code 0 = .ok (.iload_n 1, 1) := by decide +kernel
theorem d1_1 : decode method_2_code 1 = .ok (.iload_n 2, 1) := by decide +kernel
theorem d1_2 : decode method_2_code 2 = .ok (.if_icmp .lt 5, 3) := by decide +kernel
theorem d1_5 : decode method_2_code 5 = .ok (.lconst 0, 1) := by decide +kernel
theorem d1_6 : decode method_2_code 6 = .ok (.lreturn, 1) := by decide +kernel
theorem d1_7 : decode method_2_code 7 = .ok (.iload_n 0, 1) := by decide +kernel
theorem d1_8 : decode method_2_code 8 = .ok (.sipush 255, 3) := by decide +kernel
theorem d1_11 : decode method_2_code 11 = .ok (.iand, 1) := by decide +kernel
theorem d1_12 : decode method_2_code 12 = .ok (.istore_n 3, 1) := by decide +kernel
theorem d1_13 : decode method_2_code 13 = .ok (.iload_n 3, 1) := by decide +kernel
theorem d1_14 : decode method_2_code 14 = .ok (.bipush 33, 2) := by decide +kernel
theorem d1_16 : decode method_2_code 16 = .ok (.if_icmp .lt 13, 3) := by decide +kernel
theorem d1_19 : decode method_2_code 19 = .ok (.iload_n 3, 1) := by decide +kernel
theorem d1_20 : decode method_2_code 20 = .ok (.bipush 126, 2) := by decide +kernel
theorem d1_22 : decode method_2_code 22 = .ok (.if_icmp .gt 7, 3) := by decide +kernel
theorem d1_25 : decode method_2_code 25 = .ok (.iconst 1, 1) := by decide +kernel
theorem d1_26 : decode method_2_code 26 = .ok (.goto 4, 3) := by decide +kernel
theorem d1_29 : decode method_2_code 29 = .ok (.iconst 0, 1) := by decide +kernel
theorem d1_30 : decode method_2_code 30 = .ok (.istore 4, 2) := by decide +kernel
theorem d1_32 : decode method_2_code 32 = .ok (.iload 4, 2) := by decide +kernel
theorem d1_34 : decode method_2_code 34 = .ok (.ifCond .eq 19, 3) := by decide +kernel
theorem d1_37 : decode method_2_code 37 = .ok (.iload_n 3, 1) := by decide +kernel
theorem d1_38 : decode method_2_code 38 = .ok (.bipush 35, 2) := by decide +kernel
theorem d1_40 : decode method_2_code 40 = .ok (.if_icmp .eq 13, 3) := by decide +kernel
theorem d1_43 : decode method_2_code 43 = .ok (.iload_n 3, 1) := by decide +kernel
theorem d1_44 : decode method_2_code 44 = .ok (.bipush 37, 2) := by decide +kernel
theorem d1_46 : decode method_2_code 46 = .ok (.if_icmp .eq 7, 3) := by decide +kernel
theorem d1_49 : decode method_2_code 49 = .ok (.iconst 1, 1) := by decide +kernel
theorem d1_50 : decode method_2_code 50 = .ok (.goto 4, 3) := by decide +kernel
theorem d1_53 : decode method_2_code 53 = .ok (.iconst 0, 1) := by decide +kernel
theorem d1_54 : decode method_2_code 54 = .ok (.istore 5, 2) := by decide +kernel
theorem d1_56 : decode method_2_code 56 = .ok (.iload 5, 2) := by decide +kernel
theorem d1_58 : decode method_2_code 58 = .ok (.ifCond .eq 5, 3) := by decide +kernel
theorem d1_61 : decode method_2_code 61 = .ok (.lconst 0, 1) := by decide +kernel
theorem d1_62 : decode method_2_code 62 = .ok (.lreturn, 1) := by decide +kernel
theorem d1_63 : decode method_2_code 63 = .ok (.ldc2_w 7, 3) := by decide +kernel
theorem d1_66 : decode method_2_code 66 = .ok (.lreturn, 1) := by decide +kernel
theorem ef_1 (p1 : Int32) (p2 : Int32) (p3 : Int32) (m : MethodId) : entryFrame m #[(.int p1), (.int p2), (.int p3)] 6 = mkF m 0 #[.val (.int p1), .val (.int p2), .val (.int p3), .unset, .unset, .unset] [] := by first | (simp [entryFrame, mkF, argsToLocals, Value.category]; done) | rfl
def own_f1 (p1 : Int32) (p2 : Int32) (p3 : Int32) : Int64 := (if p2 < p3 then (if (p1 &&& (255 : Int32)) < (33 : Int32) then (2 : Int64) else (if (126 : Int32) < (p1 &&& (255 : Int32)) then (2 : Int64) else (if (p1 &&& (255 : Int32)) = (35 : Int32) then (2 : Int64) else (if (p1 &&& (255 : Int32)) = (37 : Int32) then (2 : Int64) else (0 : Int64))))) else (0 : Int64))
theorem pn_1 : plainName "com/example/gist_hash/gisthash/PercentCodingEscapedLengthPinLaw" = true := by first | (simp [plainName, overriddenIn]; done) | decide +kernel
set_option maxRecDepth 65536 in
set_option maxHeartbeats 40000000 in
theorem rm1 (l : Launch) (Z : State) (a0 : Array Value) (hw : ∀ d ∈ tables_1, d.before a0 Z = true) (ws : List Jvm.Cond) (p1 : Int32) (p2 : Int32) (p3 : Int32) (h0 : Heap) (n0 : Nat) (Z0 : n0 ≤ h0.size) :
    own_Met l (⟨"com/example/gist_hash/gisthash/PercentCodingEscapedLengthPinLaw", "extra", "(III)J"⟩ : MethodName) method_2_code 6 (some .long) ws ({ frames := 0, cells := 0, slots := 0, locals := 0 } : Room) #[(.int p1), (.int p2), (.int p3)] Z h0 (fun v h L => v = some (.long (own_f1 p1 p2 p3)) ∧ Fr n0 L ∧ h = h0) := by
  refine own_body (plainFor_of_name pn_1) (ef_1 p1 p2 p3) ?_
  intro p e s m below meth c T0 X0 hx hby hml0 hret hlk hnm hown hZ e0
  have hml : c.maxLocals = 6 := hml0
  have N0 := Fr.nil n0
  refine own_step (fun _ k => XS.iloadN X0.here hx rfl (hb hby d1_0) rfl k) ?_
  show own_Ends _ _ _ _ _ _ _ T0 (mkF m 1 #[.val (.int p1), .val (.int p2), .val (.int p3), .unset, .unset, .unset] [(.int p2)])
  refine own_step (fun _ k => XS.iloadN X0.here hx rfl (hb hby d1_1) rfl k) ?_
  show own_Ends _ _ _ _ _ _ _ T0 (mkF m 2 #[.val (.int p1), .val (.int p2), .val (.int p3), .unset, .unset, .unset] [(.int p3), (.int p2)])
  by_cases hc1 : p2 < p3
  · refine own_step (fun _ k => XS.icmpYes X0.here hx rfl (pc0 := 2) (pc' := 7) rfl (hb hby d1_2) rfl (tlt hc1).1 (by decide) (by decide) k) ?_
    show own_Ends _ _ _ _ _ _ _ T0 (mkF m 7 #[.val (.int p1), .val (.int p2), .val (.int p3), .unset, .unset, .unset] [])
    refine own_step (fun _ k => XS.iloadN X0.here hx rfl (hb hby d1_7) rfl k) ?_
    show own_Ends _ _ _ _ _ _ _ T0 (mkF m 8 #[.val (.int p1), .val (.int p2), .val (.int p3), .unset, .unset, .unset] [(.int p1)])
    refine own_step (fun _ k => XS.sipush X0.here hx rfl (hb hby d1_8) k) ?_
    show own_Ends _ _ _ _ _ _ _ T0 (mkF m 11 #[.val (.int p1), .val (.int p2), .val (.int p3), .unset, .unset, .unset] [(.int (255 : Int32)), (.int p1)])
    refine own_step (fun _ k => XS.iand X0.here hx rfl (hb hby d1_11) rfl k) ?_
    show own_Ends _ _ _ _ _ _ _ T0 (mkF m 12 #[.val (.int p1), .val (.int p2), .val (.int p3), .unset, .unset, .unset] [(.int (p1 &&& (255 : Int32)))])
    refine own_step (fun _ k => XS.istoreN X0.here hx rfl (hb hby d1_12) rfl (l' := #[.val (.int p1), .val (.int p2), .val (.int p3), .val (.int (p1 &&& (255 : Int32))), .unset, .unset]) rfl k) ?_
    show own_Ends _ _ _ _ _ _ _ T0 (mkF m 13 #[.val (.int p1), .val (.int p2), .val (.int p3), .val (.int (p1 &&& (255 : Int32))), .unset, .unset] [])
    refine own_step (fun _ k => XS.iloadN X0.here hx rfl (hb hby d1_13) rfl k) ?_
    show own_Ends _ _ _ _ _ _ _ T0 (mkF m 14 #[.val (.int p1), .val (.int p2), .val (.int p3), .val (.int (p1 &&& (255 : Int32))), .unset, .unset] [(.int (p1 &&& (255 : Int32)))])
    refine own_step (fun _ k => XS.bipush X0.here hx rfl (hb hby d1_14) k) ?_
    show own_Ends _ _ _ _ _ _ _ T0 (mkF m 16 #[.val (.int p1), .val (.int p2), .val (.int p3), .val (.int (p1 &&& (255 : Int32))), .unset, .unset] [(.int (33 : Int32)), (.int (p1 &&& (255 : Int32)))])
    by_cases hc2 : (p1 &&& (255 : Int32)) < (33 : Int32)
    · refine own_step (fun _ k => XS.icmpYes X0.here hx rfl (pc0 := 16) (pc' := 29) rfl (hb hby d1_16) rfl (tlt hc2).1 (by decide) (by decide) k) ?_
      show own_Ends _ _ _ _ _ _ _ T0 (mkF m 29 #[.val (.int p1), .val (.int p2), .val (.int p3), .val (.int (p1 &&& (255 : Int32))), .unset, .unset] [])
      refine own_step (fun _ k => XS.iconst X0.here hx rfl (hb hby d1_29) k) ?_
      show own_Ends _ _ _ _ _ _ _ T0 (mkF m 30 #[.val (.int p1), .val (.int p2), .val (.int p3), .val (.int (p1 &&& (255 : Int32))), .unset, .unset] [(.int (0 : Int32))])
      refine own_step (fun _ k => XS.istore X0.here hx rfl (hb hby d1_30) rfl (l' := #[.val (.int p1), .val (.int p2), .val (.int p3), .val (.int (p1 &&& (255 : Int32))), .val (.int (0 : Int32)), .unset]) rfl k) ?_
      show own_Ends _ _ _ _ _ _ _ T0 (mkF m 32 #[.val (.int p1), .val (.int p2), .val (.int p3), .val (.int (p1 &&& (255 : Int32))), .val (.int (0 : Int32)), .unset] [])
      refine own_step (fun _ k => XS.iload X0.here hx rfl (hb hby d1_32) rfl k) ?_
      show own_Ends _ _ _ _ _ _ _ T0 (mkF m 34 #[.val (.int p1), .val (.int p2), .val (.int p3), .val (.int (p1 &&& (255 : Int32))), .val (.int (0 : Int32)), .unset] [(.int (0 : Int32))])
      refine own_step (fun _ k => XS.ifYes X0.here hx rfl (pc0 := 34) (pc' := 53) rfl (hb hby d1_34) rfl ((if0 _ _).trans (teq (by decide : (0 : Int32) = (0 : Int32))).1) (by decide) (by decide) k) ?_
      show own_Ends _ _ _ _ _ _ _ T0 (mkF m 53 #[.val (.int p1), .val (.int p2), .val (.int p3), .val (.int (p1 &&& (255 : Int32))), .val (.int (0 : Int32)), .unset] [])
      refine own_step (fun _ k => XS.iconst X0.here hx rfl (hb hby d1_53) k) ?_
      show own_Ends _ _ _ _ _ _ _ T0 (mkF m 54 #[.val (.int p1), .val (.int p2), .val (.int p3), .val (.int (p1 &&& (255 : Int32))), .val (.int (0 : Int32)), .unset] [(.int (0 : Int32))])
      refine own_step (fun _ k => XS.istore X0.here hx rfl (hb hby d1_54) rfl (l' := #[.val (.int p1), .val (.int p2), .val (.int p3), .val (.int (p1 &&& (255 : Int32))), .val (.int (0 : Int32)), .val (.int (0 : Int32))]) rfl k) ?_
      show own_Ends _ _ _ _ _ _ _ T0 (mkF m 56 #[.val (.int p1), .val (.int p2), .val (.int p3), .val (.int (p1 &&& (255 : Int32))), .val (.int (0 : Int32)), .val (.int (0 : Int32))] [])
      refine own_step (fun _ k => XS.iload X0.here hx rfl (hb hby d1_56) rfl k) ?_
      show own_Ends _ _ _ _ _ _ _ T0 (mkF m 58 #[.val (.int p1), .val (.int p2), .val (.int p3), .val (.int (p1 &&& (255 : Int32))), .val (.int (0 : Int32)), .val (.int (0 : Int32))] [(.int (0 : Int32))])
      refine own_step (fun _ k => XS.ifYes X0.here hx rfl (pc0 := 58) (pc' := 63) rfl (hb hby d1_58) rfl ((if0 _ _).trans (teq (by decide : (0 : Int32) = (0 : Int32))).1) (by decide) (by decide) k) ?_
      show own_Ends _ _ _ _ _ _ _ T0 (mkF m 63 #[.val (.int p1), .val (.int p2), .val (.int p3), .val (.int (p1 &&& (255 : Int32))), .val (.int (0 : Int32)), .val (.int (0 : Int32))] [])
      refine own_step (X0.ldc2Long hx hown (mvT hZ (hw _ (List.mem_of_getElem? (i := 10) rfl))) (g := (mkF m 63 #[.val (.int p1), .val (.int p2), .val (.int p3), .val (.int (p1 &&& (255 : Int32))), .val (.int (0 : Int32)), .val (.int (0 : Int32))] [])) rfl (hb hby d1_63)) ?_
      show own_Ends _ _ _ _ _ _ _ T0 (mkF m 66 #[.val (.int p1), .val (.int p2), .val (.int p3), .val (.int (p1 &&& (255 : Int32))), .val (.int (0 : Int32)), .val (.int (0 : Int32))] [(.long (2 : Int64))])
      exact own_retL X0 hx hret hlk (hb hby d1_66) ⟨own_leafJ ((if_pos hc1).trans (if_pos hc2)), N0, e0⟩ (by decide) (by decide)
    · refine own_step (fun _ k => XS.icmpNo X0.here hx rfl (hb hby d1_16) rfl (flt hc2).1 k) ?_
      show own_Ends _ _ _ _ _ _ _ T0 (mkF m 19 #[.val (.int p1), .val (.int p2), .val (.int p3), .val (.int (p1 &&& (255 : Int32))), .unset, .unset] [])
      refine own_step (fun _ k => XS.iloadN X0.here hx rfl (hb hby d1_19) rfl k) ?_
      show own_Ends _ _ _ _ _ _ _ T0 (mkF m 20 #[.val (.int p1), .val (.int p2), .val (.int p3), .val (.int (p1 &&& (255 : Int32))), .unset, .unset] [(.int (p1 &&& (255 : Int32)))])
      refine own_step (fun _ k => XS.bipush X0.here hx rfl (hb hby d1_20) k) ?_
      show own_Ends _ _ _ _ _ _ _ T0 (mkF m 22 #[.val (.int p1), .val (.int p2), .val (.int p3), .val (.int (p1 &&& (255 : Int32))), .unset, .unset] [(.int (126 : Int32)), (.int (p1 &&& (255 : Int32)))])
      by_cases hc3 : (126 : Int32) < (p1 &&& (255 : Int32))
      · refine own_step (fun _ k => XS.icmpYes X0.here hx rfl (pc0 := 22) (pc' := 29) rfl (hb hby d1_22) rfl (tlt hc3).2.2.1 (by decide) (by decide) k) ?_
        show own_Ends _ _ _ _ _ _ _ T0 (mkF m 29 #[.val (.int p1), .val (.int p2), .val (.int p3), .val (.int (p1 &&& (255 : Int32))), .unset, .unset] [])
        refine own_step (fun _ k => XS.iconst X0.here hx rfl (hb hby d1_29) k) ?_
        show own_Ends _ _ _ _ _ _ _ T0 (mkF m 30 #[.val (.int p1), .val (.int p2), .val (.int p3), .val (.int (p1 &&& (255 : Int32))), .unset, .unset] [(.int (0 : Int32))])
        refine own_step (fun _ k => XS.istore X0.here hx rfl (hb hby d1_30) rfl (l' := #[.val (.int p1), .val (.int p2), .val (.int p3), .val (.int (p1 &&& (255 : Int32))), .val (.int (0 : Int32)), .unset]) rfl k) ?_
        show own_Ends _ _ _ _ _ _ _ T0 (mkF m 32 #[.val (.int p1), .val (.int p2), .val (.int p3), .val (.int (p1 &&& (255 : Int32))), .val (.int (0 : Int32)), .unset] [])
        refine own_step (fun _ k => XS.iload X0.here hx rfl (hb hby d1_32) rfl k) ?_
        show own_Ends _ _ _ _ _ _ _ T0 (mkF m 34 #[.val (.int p1), .val (.int p2), .val (.int p3), .val (.int (p1 &&& (255 : Int32))), .val (.int (0 : Int32)), .unset] [(.int (0 : Int32))])
        refine own_step (fun _ k => XS.ifYes X0.here hx rfl (pc0 := 34) (pc' := 53) rfl (hb hby d1_34) rfl ((if0 _ _).trans (teq (by decide : (0 : Int32) = (0 : Int32))).1) (by decide) (by decide) k) ?_
        show own_Ends _ _ _ _ _ _ _ T0 (mkF m 53 #[.val (.int p1), .val (.int p2), .val (.int p3), .val (.int (p1 &&& (255 : Int32))), .val (.int (0 : Int32)), .unset] [])
        refine own_step (fun _ k => XS.iconst X0.here hx rfl (hb hby d1_53) k) ?_
        show own_Ends _ _ _ _ _ _ _ T0 (mkF m 54 #[.val (.int p1), .val (.int p2), .val (.int p3), .val (.int (p1 &&& (255 : Int32))), .val (.int (0 : Int32)), .unset] [(.int (0 : Int32))])
        refine own_step (fun _ k => XS.istore X0.here hx rfl (hb hby d1_54) rfl (l' := #[.val (.int p1), .val (.int p2), .val (.int p3), .val (.int (p1 &&& (255 : Int32))), .val (.int (0 : Int32)), .val (.int (0 : Int32))]) rfl k) ?_
        show own_Ends _ _ _ _ _ _ _ T0 (mkF m 56 #[.val (.int p1), .val (.int p2), .val (.int p3), .val (.int (p1 &&& (255 : Int32))), .val (.int (0 : Int32)), .val (.int (0 : Int32))] [])
        refine own_step (fun _ k => XS.iload X0.here hx rfl (hb hby d1_56) rfl k) ?_
        show own_Ends _ _ _ _ _ _ _ T0 (mkF m 58 #[.val (.int p1), .val (.int p2), .val (.int p3), .val (.int (p1 &&& (255 : Int32))), .val (.int (0 : Int32)), .val (.int (0 : Int32))] [(.int (0 : Int32))])
        refine own_step (fun _ k => XS.ifYes X0.here hx rfl (pc0 := 58) (pc' := 63) rfl (hb hby d1_58) rfl ((if0 _ _).trans (teq (by decide : (0 : Int32) = (0 : Int32))).1) (by decide) (by decide) k) ?_
        show own_Ends _ _ _ _ _ _ _ T0 (mkF m 63 #[.val (.int p1), .val (.int p2), .val (.int p3), .val (.int (p1 &&& (255 : Int32))), .val (.int (0 : Int32)), .val (.int (0 : Int32))] [])
        refine own_step (X0.ldc2Long hx hown (mvT hZ (hw _ (List.mem_of_getElem? (i := 10) rfl))) (g := (mkF m 63 #[.val (.int p1), .val (.int p2), .val (.int p3), .val (.int (p1 &&& (255 : Int32))), .val (.int (0 : Int32)), .val (.int (0 : Int32))] [])) rfl (hb hby d1_63)) ?_
        show own_Ends _ _ _ _ _ _ _ T0 (mkF m 66 #[.val (.int p1), .val (.int p2), .val (.int p3), .val (.int (p1 &&& (255 : Int32))), .val (.int (0 : Int32)), .val (.int (0 : Int32))] [(.long (2 : Int64))])
        exact own_retL X0 hx hret hlk (hb hby d1_66) ⟨own_leafJ ((if_pos hc1).trans ((if_neg hc2).trans (if_pos hc3))), N0, e0⟩ (by decide) (by decide)
      · refine own_step (fun _ k => XS.icmpNo X0.here hx rfl (hb hby d1_22) rfl (flt hc3).2.2.1 k) ?_
        show own_Ends _ _ _ _ _ _ _ T0 (mkF m 25 #[.val (.int p1), .val (.int p2), .val (.int p3), .val (.int (p1 &&& (255 : Int32))), .unset, .unset] [])
        refine own_step (fun _ k => XS.iconst X0.here hx rfl (hb hby d1_25) k) ?_
        show own_Ends _ _ _ _ _ _ _ T0 (mkF m 26 #[.val (.int p1), .val (.int p2), .val (.int p3), .val (.int (p1 &&& (255 : Int32))), .unset, .unset] [(.int (1 : Int32))])
        refine own_step (fun _ k => XS.goto X0.here hx rfl (pc0 := 26) (pc' := 30) rfl (hb hby d1_26) (by decide) (by decide) k) ?_
        show own_Ends _ _ _ _ _ _ _ T0 (mkF m 30 #[.val (.int p1), .val (.int p2), .val (.int p3), .val (.int (p1 &&& (255 : Int32))), .unset, .unset] [(.int (1 : Int32))])
        refine own_step (fun _ k => XS.istore X0.here hx rfl (hb hby d1_30) rfl (l' := #[.val (.int p1), .val (.int p2), .val (.int p3), .val (.int (p1 &&& (255 : Int32))), .val (.int (1 : Int32)), .unset]) rfl k) ?_
        show own_Ends _ _ _ _ _ _ _ T0 (mkF m 32 #[.val (.int p1), .val (.int p2), .val (.int p3), .val (.int (p1 &&& (255 : Int32))), .val (.int (1 : Int32)), .unset] [])
        refine own_step (fun _ k => XS.iload X0.here hx rfl (hb hby d1_32) rfl k) ?_
        show own_Ends _ _ _ _ _ _ _ T0 (mkF m 34 #[.val (.int p1), .val (.int p2), .val (.int p3), .val (.int (p1 &&& (255 : Int32))), .val (.int (1 : Int32)), .unset] [(.int (1 : Int32))])
        refine own_step (fun _ k => XS.ifNo X0.here hx rfl (hb hby d1_34) rfl ((if0 _ _).trans (feq (by decide : ¬ ((1 : Int32) = (0 : Int32)))).1) k) ?_
        show own_Ends _ _ _ _ _ _ _ T0 (mkF m 37 #[.val (.int p1), .val (.int p2), .val (.int p3), .val (.int (p1 &&& (255 : Int32))), .val (.int (1 : Int32)), .unset] [])
        refine own_step (fun _ k => XS.iloadN X0.here hx rfl (hb hby d1_37) rfl k) ?_
        show own_Ends _ _ _ _ _ _ _ T0 (mkF m 38 #[.val (.int p1), .val (.int p2), .val (.int p3), .val (.int (p1 &&& (255 : Int32))), .val (.int (1 : Int32)), .unset] [(.int (p1 &&& (255 : Int32)))])
        refine own_step (fun _ k => XS.bipush X0.here hx rfl (hb hby d1_38) k) ?_
        show own_Ends _ _ _ _ _ _ _ T0 (mkF m 40 #[.val (.int p1), .val (.int p2), .val (.int p3), .val (.int (p1 &&& (255 : Int32))), .val (.int (1 : Int32)), .unset] [(.int (35 : Int32)), (.int (p1 &&& (255 : Int32)))])
        by_cases hc4 : (p1 &&& (255 : Int32)) = (35 : Int32)
        · refine own_step (fun _ k => XS.icmpYes X0.here hx rfl (pc0 := 40) (pc' := 53) rfl (hb hby d1_40) rfl (teq hc4).1 (by decide) (by decide) k) ?_
          show own_Ends _ _ _ _ _ _ _ T0 (mkF m 53 #[.val (.int p1), .val (.int p2), .val (.int p3), .val (.int (p1 &&& (255 : Int32))), .val (.int (1 : Int32)), .unset] [])
          refine own_step (fun _ k => XS.iconst X0.here hx rfl (hb hby d1_53) k) ?_
          show own_Ends _ _ _ _ _ _ _ T0 (mkF m 54 #[.val (.int p1), .val (.int p2), .val (.int p3), .val (.int (p1 &&& (255 : Int32))), .val (.int (1 : Int32)), .unset] [(.int (0 : Int32))])
          refine own_step (fun _ k => XS.istore X0.here hx rfl (hb hby d1_54) rfl (l' := #[.val (.int p1), .val (.int p2), .val (.int p3), .val (.int (p1 &&& (255 : Int32))), .val (.int (1 : Int32)), .val (.int (0 : Int32))]) rfl k) ?_
          show own_Ends _ _ _ _ _ _ _ T0 (mkF m 56 #[.val (.int p1), .val (.int p2), .val (.int p3), .val (.int (p1 &&& (255 : Int32))), .val (.int (1 : Int32)), .val (.int (0 : Int32))] [])
          refine own_step (fun _ k => XS.iload X0.here hx rfl (hb hby d1_56) rfl k) ?_
          show own_Ends _ _ _ _ _ _ _ T0 (mkF m 58 #[.val (.int p1), .val (.int p2), .val (.int p3), .val (.int (p1 &&& (255 : Int32))), .val (.int (1 : Int32)), .val (.int (0 : Int32))] [(.int (0 : Int32))])
          refine own_step (fun _ k => XS.ifYes X0.here hx rfl (pc0 := 58) (pc' := 63) rfl (hb hby d1_58) rfl ((if0 _ _).trans (teq (by decide : (0 : Int32) = (0 : Int32))).1) (by decide) (by decide) k) ?_
          show own_Ends _ _ _ _ _ _ _ T0 (mkF m 63 #[.val (.int p1), .val (.int p2), .val (.int p3), .val (.int (p1 &&& (255 : Int32))), .val (.int (1 : Int32)), .val (.int (0 : Int32))] [])
          refine own_step (X0.ldc2Long hx hown (mvT hZ (hw _ (List.mem_of_getElem? (i := 10) rfl))) (g := (mkF m 63 #[.val (.int p1), .val (.int p2), .val (.int p3), .val (.int (p1 &&& (255 : Int32))), .val (.int (1 : Int32)), .val (.int (0 : Int32))] [])) rfl (hb hby d1_63)) ?_
          show own_Ends _ _ _ _ _ _ _ T0 (mkF m 66 #[.val (.int p1), .val (.int p2), .val (.int p3), .val (.int (p1 &&& (255 : Int32))), .val (.int (1 : Int32)), .val (.int (0 : Int32))] [(.long (2 : Int64))])
          exact own_retL X0 hx hret hlk (hb hby d1_66) ⟨own_leafJ ((if_pos hc1).trans ((if_neg hc2).trans ((if_neg hc3).trans (if_pos hc4)))), N0, e0⟩ (by decide) (by decide)
        · refine own_step (fun _ k => XS.icmpNo X0.here hx rfl (hb hby d1_40) rfl (feq hc4).1 k) ?_
          show own_Ends _ _ _ _ _ _ _ T0 (mkF m 43 #[.val (.int p1), .val (.int p2), .val (.int p3), .val (.int (p1 &&& (255 : Int32))), .val (.int (1 : Int32)), .unset] [])
          refine own_step (fun _ k => XS.iloadN X0.here hx rfl (hb hby d1_43) rfl k) ?_
          show own_Ends _ _ _ _ _ _ _ T0 (mkF m 44 #[.val (.int p1), .val (.int p2), .val (.int p3), .val (.int (p1 &&& (255 : Int32))), .val (.int (1 : Int32)), .unset] [(.int (p1 &&& (255 : Int32)))])
          refine own_step (fun _ k => XS.bipush X0.here hx rfl (hb hby d1_44) k) ?_
          show own_Ends _ _ _ _ _ _ _ T0 (mkF m 46 #[.val (.int p1), .val (.int p2), .val (.int p3), .val (.int (p1 &&& (255 : Int32))), .val (.int (1 : Int32)), .unset] [(.int (37 : Int32)), (.int (p1 &&& (255 : Int32)))])
          by_cases hc5 : (p1 &&& (255 : Int32)) = (37 : Int32)
          · refine own_step (fun _ k => XS.icmpYes X0.here hx rfl (pc0 := 46) (pc' := 53) rfl (hb hby d1_46) rfl (teq hc5).1 (by decide) (by decide) k) ?_
            show own_Ends _ _ _ _ _ _ _ T0 (mkF m 53 #[.val (.int p1), .val (.int p2), .val (.int p3), .val (.int (p1 &&& (255 : Int32))), .val (.int (1 : Int32)), .unset] [])
            refine own_step (fun _ k => XS.iconst X0.here hx rfl (hb hby d1_53) k) ?_
            show own_Ends _ _ _ _ _ _ _ T0 (mkF m 54 #[.val (.int p1), .val (.int p2), .val (.int p3), .val (.int (p1 &&& (255 : Int32))), .val (.int (1 : Int32)), .unset] [(.int (0 : Int32))])
            refine own_step (fun _ k => XS.istore X0.here hx rfl (hb hby d1_54) rfl (l' := #[.val (.int p1), .val (.int p2), .val (.int p3), .val (.int (p1 &&& (255 : Int32))), .val (.int (1 : Int32)), .val (.int (0 : Int32))]) rfl k) ?_
            show own_Ends _ _ _ _ _ _ _ T0 (mkF m 56 #[.val (.int p1), .val (.int p2), .val (.int p3), .val (.int (p1 &&& (255 : Int32))), .val (.int (1 : Int32)), .val (.int (0 : Int32))] [])
            refine own_step (fun _ k => XS.iload X0.here hx rfl (hb hby d1_56) rfl k) ?_
            show own_Ends _ _ _ _ _ _ _ T0 (mkF m 58 #[.val (.int p1), .val (.int p2), .val (.int p3), .val (.int (p1 &&& (255 : Int32))), .val (.int (1 : Int32)), .val (.int (0 : Int32))] [(.int (0 : Int32))])
            refine own_step (fun _ k => XS.ifYes X0.here hx rfl (pc0 := 58) (pc' := 63) rfl (hb hby d1_58) rfl ((if0 _ _).trans (teq (by decide : (0 : Int32) = (0 : Int32))).1) (by decide) (by decide) k) ?_
            show own_Ends _ _ _ _ _ _ _ T0 (mkF m 63 #[.val (.int p1), .val (.int p2), .val (.int p3), .val (.int (p1 &&& (255 : Int32))), .val (.int (1 : Int32)), .val (.int (0 : Int32))] [])
            refine own_step (X0.ldc2Long hx hown (mvT hZ (hw _ (List.mem_of_getElem? (i := 10) rfl))) (g := (mkF m 63 #[.val (.int p1), .val (.int p2), .val (.int p3), .val (.int (p1 &&& (255 : Int32))), .val (.int (1 : Int32)), .val (.int (0 : Int32))] [])) rfl (hb hby d1_63)) ?_
            show own_Ends _ _ _ _ _ _ _ T0 (mkF m 66 #[.val (.int p1), .val (.int p2), .val (.int p3), .val (.int (p1 &&& (255 : Int32))), .val (.int (1 : Int32)), .val (.int (0 : Int32))] [(.long (2 : Int64))])
            exact own_retL X0 hx hret hlk (hb hby d1_66) ⟨own_leafJ ((if_pos hc1).trans ((if_neg hc2).trans ((if_neg hc3).trans ((if_neg hc4).trans (if_pos hc5))))), N0, e0⟩ (by decide) (by decide)
          · refine own_step (fun _ k => XS.icmpNo X0.here hx rfl (hb hby d1_46) rfl (feq hc5).1 k) ?_
            show own_Ends _ _ _ _ _ _ _ T0 (mkF m 49 #[.val (.int p1), .val (.int p2), .val (.int p3), .val (.int (p1 &&& (255 : Int32))), .val (.int (1 : Int32)), .unset] [])
            refine own_step (fun _ k => XS.iconst X0.here hx rfl (hb hby d1_49) k) ?_
            show own_Ends _ _ _ _ _ _ _ T0 (mkF m 50 #[.val (.int p1), .val (.int p2), .val (.int p3), .val (.int (p1 &&& (255 : Int32))), .val (.int (1 : Int32)), .unset] [(.int (1 : Int32))])
            refine own_step (fun _ k => XS.goto X0.here hx rfl (pc0 := 50) (pc' := 54) rfl (hb hby d1_50) (by decide) (by decide) k) ?_
            show own_Ends _ _ _ _ _ _ _ T0 (mkF m 54 #[.val (.int p1), .val (.int p2), .val (.int p3), .val (.int (p1 &&& (255 : Int32))), .val (.int (1 : Int32)), .unset] [(.int (1 : Int32))])
            refine own_step (fun _ k => XS.istore X0.here hx rfl (hb hby d1_54) rfl (l' := #[.val (.int p1), .val (.int p2), .val (.int p3), .val (.int (p1 &&& (255 : Int32))), .val (.int (1 : Int32)), .val (.int (1 : Int32))]) rfl k) ?_
            show own_Ends _ _ _ _ _ _ _ T0 (mkF m 56 #[.val (.int p1), .val (.int p2), .val (.int p3), .val (.int (p1 &&& (255 : Int32))), .val (.int (1 : Int32)), .val (.int (1 : Int32))] [])
            refine own_step (fun _ k => XS.iload X0.here hx rfl (hb hby d1_56) rfl k) ?_
            show own_Ends _ _ _ _ _ _ _ T0 (mkF m 58 #[.val (.int p1), .val (.int p2), .val (.int p3), .val (.int (p1 &&& (255 : Int32))), .val (.int (1 : Int32)), .val (.int (1 : Int32))] [(.int (1 : Int32))])
            refine own_step (fun _ k => XS.ifNo X0.here hx rfl (hb hby d1_58) rfl ((if0 _ _).trans (feq (by decide : ¬ ((1 : Int32) = (0 : Int32)))).1) k) ?_
            show own_Ends _ _ _ _ _ _ _ T0 (mkF m 61 #[.val (.int p1), .val (.int p2), .val (.int p3), .val (.int (p1 &&& (255 : Int32))), .val (.int (1 : Int32)), .val (.int (1 : Int32))] [])
            refine own_step (fun _ k => XS.lconst X0.here hx rfl (hb hby d1_61) k) ?_
            show own_Ends _ _ _ _ _ _ _ T0 (mkF m 62 #[.val (.int p1), .val (.int p2), .val (.int p3), .val (.int (p1 &&& (255 : Int32))), .val (.int (1 : Int32)), .val (.int (1 : Int32))] [(.long (0 : Int64))])
            exact own_retL X0 hx hret hlk (hb hby d1_62) ⟨own_leafJ ((if_pos hc1).trans ((if_neg hc2).trans ((if_neg hc3).trans ((if_neg hc4).trans (if_neg hc5))))), N0, e0⟩ (by decide) (by decide)
  · refine own_step (fun _ k => XS.icmpNo X0.here hx rfl (hb hby d1_2) rfl (flt hc1).1 k) ?_
    show own_Ends _ _ _ _ _ _ _ T0 (mkF m 5 #[.val (.int p1), .val (.int p2), .val (.int p3), .unset, .unset, .unset] [])
    refine own_step (fun _ k => XS.lconst X0.here hx rfl (hb hby d1_5) k) ?_
    show own_Ends _ _ _ _ _ _ _ T0 (mkF m 6 #[.val (.int p1), .val (.int p2), .val (.int p3), .unset, .unset, .unset] [(.long (0 : Int64))])
    exact own_retL X0 hx hret hlk (hb hby d1_6) ⟨own_leafJ (if_neg hc1), N0, e0⟩ (by decide) (by decide)
def own_tot (f : Nat → Int32) (t : Int64) : Nat → Int64
  | 0 => t
  | j + 1 => if (own_f3 (f j)) = (0 : Int32) then own_tot f t j else (own_tot f t j + (2 : Int64))
theorem d2_0 : decode prog_6_method_3_code 0 = .ok (.iload_n 1, 1) := by decide +kernel
theorem d2_1 : decode prog_6_method_3_code 1 = .ok (.i2l, 1) := by decide +kernel
theorem d2_2 : decode prog_6_method_3_code 2 = .ok (.lstore_n 2, 1) := by decide +kernel
theorem d2_3 : decode prog_6_method_3_code 3 = .ok (.iconst 0, 1) := by decide +kernel
theorem d2_4 : decode prog_6_method_3_code 4 = .ok (.istore 4, 2) := by decide +kernel
theorem d2_6 : decode prog_6_method_3_code 6 = .ok (.iload 4, 2) := by decide +kernel
theorem d2_8 : decode prog_6_method_3_code 8 = .ok (.iload_n 1, 1) := by decide +kernel
theorem d2_9 : decode prog_6_method_3_code 9 = .ok (.if_icmp .ge 25, 3) := by decide +kernel
theorem d2_12 : decode prog_6_method_3_code 12 = .ok (.aload_n 0, 1) := by decide +kernel
theorem d2_13 : decode prog_6_method_3_code 13 = .ok (.iload 4, 2) := by decide +kernel
theorem d2_15 : decode prog_6_method_3_code 15 = .ok (.baload, 1) := by decide +kernel
theorem d2_16 : decode prog_6_method_3_code 16 = .ok (.invokestatic 25, 3) := by decide +kernel
theorem d2_19 : decode prog_6_method_3_code 19 = .ok (.ifCond .eq 9, 3) := by decide +kernel
theorem d2_22 : decode prog_6_method_3_code 22 = .ok (.lload_n 2, 1) := by decide +kernel
theorem d2_23 : decode prog_6_method_3_code 23 = .ok (.ldc2_w 29, 3) := by decide +kernel
theorem d2_26 : decode prog_6_method_3_code 26 = .ok (.ladd, 1) := by decide +kernel
theorem d2_27 : decode prog_6_method_3_code 27 = .ok (.lstore_n 2, 1) := by decide +kernel
theorem d2_28 : decode prog_6_method_3_code 28 = .ok (.iinc 4 1, 3) := by decide +kernel
theorem d2_31 : decode prog_6_method_3_code 31 = .ok (.goto (-25), 3) := by decide +kernel
theorem d2_34 : decode prog_6_method_3_code 34 = .ok (.lload_n 2, 1) := by decide +kernel
theorem d2_35 : decode prog_6_method_3_code 35 = .ok (.lreturn, 1) := by decide +kernel
theorem ef_2 (a1 : Addr) (p2 : Int32) (m : MethodId) : entryFrame m #[(.ref a1), (.int p2)] 5 = mkF m 0 #[.val (.ref a1), .val (.int p2), .unset, .unset, .unset] [] := by first | (simp [entryFrame, mkF, argsToLocals, Value.category]; done) | rfl
theorem pd_0 : parseMethodDescriptor "(B)Z" = some ⟨[.byte], some .boolean⟩ := by decide +kernel
set_option maxRecDepth 65536 in
set_option maxHeartbeats 40000000 in
theorem rm2 (l : Launch) (Z : State) (a0 : Array Value) (hw : ∀ d ∈ tables_1, d.before a0 Z = true) (ws : List Jvm.Cond) (a1 : Addr) (p2 : Int32) (kA : ClassId) (vs : List Value) (f : Nat → Int32) (N : Nat) (h0 : Heap) (n0 : Nat) (Z0 : n0 ≤ h0.size) (V : Arv Z h0 a1 kA .byte (4 : Int32) vs (.int (0 : Int32))) (hf : ∀ i, i < 4 → vs.getD i (.int (0 : Int32)) = .int (f i)) (hN : p2.toInt = N) (hle : N ≤ 4) :
    own_Met l (⟨"com/example/gist_hash/gisthash/PercentCoding", "escapedLength", "([BI)J"⟩ : MethodName) prog_6_method_3_code 5 (some .long) ws ({ frames := 1, cells := 0, slots := 0, locals := 13 } : Room) #[(.ref a1), (.int p2)] Z h0 (fun v h L => v = some (.long (own_tot f (p2.toInt64) N)) ∧ Fr n0 L ∧ h = h0) := by
  refine own_body (plainFor_of_name pn_0) (ef_2 a1 p2) ?_
  intro p e s m below meth c T0 X0 hx hby hml0 hret hlk hnm hown hZ e0
  have hml : c.maxLocals = 5 := hml0
  have N0 := Fr.nil n0
  refine own_step (fun _ k => XS.iloadN X0.here hx rfl (hb hby d2_0) rfl k) ?_
  show own_Ends _ _ _ _ _ _ _ T0 (mkF m 1 #[.val (.ref a1), .val (.int p2), .unset, .unset, .unset] [(.int p2)])
  refine own_step (fun _ k => XS.i2l X0.here hx rfl (hb hby d2_1) rfl k) ?_
  show own_Ends _ _ _ _ _ _ _ T0 (mkF m 2 #[.val (.ref a1), .val (.int p2), .unset, .unset, .unset] [(.long (p2.toInt64))])
  refine own_step (fun _ k => XS.lstoreN X0.here hx rfl (hb hby d2_2) rfl (l' := #[.val (.ref a1), .val (.int p2), .val (.long (p2.toInt64)), .second, .unset]) rfl k) ?_
  show own_Ends _ _ _ _ _ _ _ T0 (mkF m 3 #[.val (.ref a1), .val (.int p2), .val (.long (p2.toInt64)), .second, .unset] [])
  refine own_step (fun _ k => XS.iconst X0.here hx rfl (hb hby d2_3) k) ?_
  show own_Ends _ _ _ _ _ _ _ T0 (mkF m 4 #[.val (.ref a1), .val (.int p2), .val (.long (p2.toInt64)), .second, .unset] [(.int (0 : Int32))])
  refine own_step (fun _ k => XS.istore X0.here hx rfl (hb hby d2_4) rfl (l' := #[.val (.ref a1), .val (.int p2), .val (.long (p2.toInt64)), .second, .val (.int (0 : Int32))]) rfl k) ?_
  show own_Ends _ _ _ _ _ _ _ T0 (mkF m 6 #[.val (.ref a1), .val (.int p2), .val (.long (p2.toInt64)), .second, .val (.int (0 : Int32))] [])
  have e_4 : (4 : Int32).toInt = (4 : Nat) := by decide
  have e_1 : (1 : Int32).toInt = (1 : Nat) := by decide
  have loop : ∀ (k j : Nat) (i : Int32) (T : State) (locs : List Loc), Stand p l e ({ frames := 1, cells := 0, slots := 0, locals := 13 } : Room) s m #[(.ref a1), (.int p2)] below meth c T locs 0 0 → T.heap = h0 → Fr n0 locs → j + k = N → i.toInt = (j : Nat) → own_Ends p e below s (fun v h L => v = some (.long (own_tot f (p2.toInt64) N)) ∧ Fr n0 L ∧ h = h0) ({ frames := 1, cells := 0, slots := 0, locals := 13 } : Room).cells ({ frames := 1, cells := 0, slots := 0, locals := 13 } : Room).slots T (mkF m 6 #[.val (.ref a1), .val (.int p2), .val (.long (own_tot f (p2.toInt64) j)), .second, .val (.int i)] []) := by
    intro k
    induction k with
    | zero =>
      intro j i T locs X e' N' hj hi
      have hc : ¬ i < p2 := fun q => by have := (own_lt hi hN).mp q; omega
      obtain rfl : j = N := by omega
      refine own_step (fun _ k => XS.iload X.here hx rfl (hb hby d2_6) rfl k) ?_
      show own_Ends _ _ _ _ _ _ _ T (mkF m 8 #[.val (.ref a1), .val (.int p2), .val (.long (own_tot f (p2.toInt64) j)), .second, .val (.int i)] [(.int i)])
      refine own_step (fun _ k => XS.iloadN X.here hx rfl (hb hby d2_8) rfl k) ?_
      show own_Ends _ _ _ _ _ _ _ T (mkF m 9 #[.val (.ref a1), .val (.int p2), .val (.long (own_tot f (p2.toInt64) j)), .second, .val (.int i)] [(.int p2), (.int i)])
      refine own_step (fun _ k => XS.icmpYes X.here hx rfl (pc0 := 9) (pc' := 34) rfl (hb hby d2_9) rfl (flt hc).2.1 (by decide) (by decide) k) ?_
      show own_Ends _ _ _ _ _ _ _ T (mkF m 34 #[.val (.ref a1), .val (.int p2), .val (.long (own_tot f (p2.toInt64) j)), .second, .val (.int i)] [])
      refine own_step (fun _ k => XS.lloadN X.here hx rfl (hb hby d2_34) rfl k) ?_
      show own_Ends _ _ _ _ _ _ _ T (mkF m 35 #[.val (.ref a1), .val (.int p2), .val (.long (own_tot f (p2.toInt64) j)), .second, .val (.int i)] [(.long (own_tot f (p2.toInt64) j))])
      exact own_retL X hx hret hlk (hb hby d2_35) ⟨rfl, N', e'⟩ (by decide) (by decide)
    | succ k ih =>
      intro j i T locs X e' N' hj hi
      have hc : i < p2 := (own_lt hi hN).mpr (by omega)
      refine own_step (fun _ k => XS.iload X.here hx rfl (hb hby d2_6) rfl k) ?_
      show own_Ends _ _ _ _ _ _ _ T (mkF m 8 #[.val (.ref a1), .val (.int p2), .val (.long (own_tot f (p2.toInt64) j)), .second, .val (.int i)] [(.int i)])
      refine own_step (fun _ k => XS.iloadN X.here hx rfl (hb hby d2_8) rfl k) ?_
      show own_Ends _ _ _ _ _ _ _ T (mkF m 9 #[.val (.ref a1), .val (.int p2), .val (.long (own_tot f (p2.toInt64) j)), .second, .val (.int i)] [(.int p2), (.int i)])
      refine own_step (fun _ k => XS.icmpNo X.here hx rfl (hb hby d2_9) rfl (tlt hc).2.1 k) ?_
      show own_Ends _ _ _ _ _ _ _ T (mkF m 12 #[.val (.ref a1), .val (.int p2), .val (.long (own_tot f (p2.toInt64) j)), .second, .val (.int i)] [])
      refine own_step (fun _ k => XS.aloadN X.here hx rfl (hb hby d2_12) rfl rfl k) ?_
      show own_Ends _ _ _ _ _ _ _ T (mkF m 13 #[.val (.ref a1), .val (.int p2), .val (.long (own_tot f (p2.toInt64) j)), .second, .val (.int i)] [(.ref a1)])
      refine own_step (fun _ k => XS.iload X.here hx rfl (hb hby d2_13) rfl k) ?_
      show own_Ends _ _ _ _ _ _ _ T (mkF m 15 #[.val (.ref a1), .val (.int p2), .val (.long (own_tot f (p2.toInt64) j)), .second, .val (.int i)] [(.int i), (.ref a1)])
      refine own_step (own_ldB X hx hZ e' V (j := i) (v := (.int (f j))) ⟨own_nn hi, (own_lt hi e_4).mpr (by omega)⟩ (by rw [own_clamp hi]; exact hf j (by omega)) (g := (mkF m 15 #[.val (.ref a1), .val (.int p2), .val (.long (own_tot f (p2.toInt64) j)), .second, .val (.int i)] [(.int i), (.ref a1)])) rfl rfl (hb hby d2_15)) ?_
      show own_Ends _ _ _ _ _ _ _ T (mkF m 16 #[.val (.ref a1), .val (.int p2), .val (.long (own_tot f (p2.toInt64) j)), .second, .val (.int i)] [(.int (f j))])
      refine own_callS X hx hZ (y := (⟨"com/example/gist_hash/gisthash/PercentCoding", "isEscaped", "(B)Z"⟩ : MethodName)) hown (hw _ (List.mem_of_getElem? (i := 11) rfl)) (hw _ (List.mem_of_getElem? (i := 12) rfl)) (hw _ (List.mem_of_getElem? (i := 8) rfl)) (hw _ (List.mem_of_getElem? (i := 13) rfl)) (by decide) (rm3 l Z a0 hw [] (f j) h0 n0 Z0) e' 0 (by decide) (by decide) (by decide) (by decide) (g := (mkF m 16 #[.val (.ref a1), .val (.int p2), .val (.long (own_tot f (p2.toInt64) j)), .second, .val (.int i)] [(.int (f j))])) rfl (by rw [hml]; rfl) [(.int (f j))] [] pd_0 rfl rfl rfl (by show 2 * 0 + _ ≤ _; exact Nat.le_of_eq rfl) (hb hby d2_16) ?_
      rintro v1 T1 L1 X1 ⟨rfl, Nq1, e1⟩
      have N1 := Fr.app N' Nq1
      show own_Ends _ _ _ _ _ _ _ T1 (mkF m 19 #[.val (.ref a1), .val (.int p2), .val (.long (own_tot f (p2.toInt64) j)), .second, .val (.int i)] [(.int (own_f3 (f j)))])
      by_cases hq : (own_f3 (f j)) = (0 : Int32)
      · refine own_step (fun _ k => XS.ifYes X1.here hx rfl (pc0 := 19) (pc' := 28) rfl (hb hby d2_19) rfl ((if0 _ _).trans (teq hq).1) (by decide) (by decide) k) ?_
        show own_Ends _ _ _ _ _ _ _ T1 (mkF m 28 #[.val (.ref a1), .val (.int p2), .val (.long (own_tot f (p2.toInt64) j)), .second, .val (.int i)] [])
        refine own_step (fun _ k => XS.iinc X1.here hx rfl (hb hby d2_28) rfl (l' := #[.val (.ref a1), .val (.int p2), .val (.long (own_tot f (p2.toInt64) j)), .second, .val (.int (i + (1 : Int32)))]) rfl k) ?_
        show own_Ends _ _ _ _ _ _ _ T1 (mkF m 31 #[.val (.ref a1), .val (.int p2), .val (.long (own_tot f (p2.toInt64) j)), .second, .val (.int (i + (1 : Int32)))] [])
        refine own_step (fun _ k => XS.goto X1.here hx rfl (pc0 := 31) (pc' := 6) rfl (hb hby d2_31) (by decide) (by decide) k) ?_
        show own_Ends _ _ _ _ _ _ _ T1 (mkF m 6 #[.val (.ref a1), .val (.int p2), .val (.long (own_tot f (p2.toInt64) j)), .second, .val (.int (i + (1 : Int32)))] [])
        have qi := ih (j + 1) (i + (1 : Int32)) T1 _ X1 e1 N1 (by omega) (own_add hi e_1 (by omega))
        rw [show own_tot f (p2.toInt64) (j + 1) = _ from if_pos hq] at qi
        exact qi
      · refine own_step (fun _ k => XS.ifNo X1.here hx rfl (hb hby d2_19) rfl ((if0 _ _).trans (feq hq).1) k) ?_
        show own_Ends _ _ _ _ _ _ _ T1 (mkF m 22 #[.val (.ref a1), .val (.int p2), .val (.long (own_tot f (p2.toInt64) j)), .second, .val (.int i)] [])
        refine own_step (fun _ k => XS.lloadN X1.here hx rfl (hb hby d2_22) rfl k) ?_
        show own_Ends _ _ _ _ _ _ _ T1 (mkF m 23 #[.val (.ref a1), .val (.int p2), .val (.long (own_tot f (p2.toInt64) j)), .second, .val (.int i)] [(.long (own_tot f (p2.toInt64) j))])
        refine own_step (X1.ldc2Long hx hown (mvT hZ (hw _ (List.mem_of_getElem? (i := 14) rfl))) (g := (mkF m 23 #[.val (.ref a1), .val (.int p2), .val (.long (own_tot f (p2.toInt64) j)), .second, .val (.int i)] [(.long (own_tot f (p2.toInt64) j))])) rfl (hb hby d2_23)) ?_
        show own_Ends _ _ _ _ _ _ _ T1 (mkF m 26 #[.val (.ref a1), .val (.int p2), .val (.long (own_tot f (p2.toInt64) j)), .second, .val (.int i)] [(.long (2 : Int64)), (.long (own_tot f (p2.toInt64) j))])
        refine own_step (fun _ k => XS.ladd X1.here hx rfl (hb hby d2_26) rfl k) ?_
        show own_Ends _ _ _ _ _ _ _ T1 (mkF m 27 #[.val (.ref a1), .val (.int p2), .val (.long (own_tot f (p2.toInt64) j)), .second, .val (.int i)] [(.long ((own_tot f (p2.toInt64) j) + (2 : Int64)))])
        refine own_step (fun _ k => XS.lstoreN X1.here hx rfl (hb hby d2_27) rfl (l' := #[.val (.ref a1), .val (.int p2), .val (.long ((own_tot f (p2.toInt64) j) + (2 : Int64))), .second, .val (.int i)]) rfl k) ?_
        show own_Ends _ _ _ _ _ _ _ T1 (mkF m 28 #[.val (.ref a1), .val (.int p2), .val (.long ((own_tot f (p2.toInt64) j) + (2 : Int64))), .second, .val (.int i)] [])
        refine own_step (fun _ k => XS.iinc X1.here hx rfl (hb hby d2_28) rfl (l' := #[.val (.ref a1), .val (.int p2), .val (.long ((own_tot f (p2.toInt64) j) + (2 : Int64))), .second, .val (.int (i + (1 : Int32)))]) rfl k) ?_
        show own_Ends _ _ _ _ _ _ _ T1 (mkF m 31 #[.val (.ref a1), .val (.int p2), .val (.long ((own_tot f (p2.toInt64) j) + (2 : Int64))), .second, .val (.int (i + (1 : Int32)))] [])
        refine own_step (fun _ k => XS.goto X1.here hx rfl (pc0 := 31) (pc' := 6) rfl (hb hby d2_31) (by decide) (by decide) k) ?_
        show own_Ends _ _ _ _ _ _ _ T1 (mkF m 6 #[.val (.ref a1), .val (.int p2), .val (.long ((own_tot f (p2.toInt64) j) + (2 : Int64))), .second, .val (.int (i + (1 : Int32)))] [])
        have qi := ih (j + 1) (i + (1 : Int32)) T1 _ X1 e1 N1 (by omega) (own_add hi e_1 (by omega))
        rw [show own_tot f (p2.toInt64) (j + 1) = _ from if_neg hq] at qi
        exact qi
  exact loop N 0 (0 : Int32) T0 [] X0 e0 N0 (by omega) rfl
def own_len_ (p5 : Int32) : Int32 := (p5 &&& (2147483647 : Int32)) % (5 : Int32)
def own_N (p5 : Int32) : Nat := (own_len_ p5).toInt.toNat
def own_by (p1 p2 p3 p4 : Int32) (i : Nat) : Int32 := [(p1.toInt8.toInt32), (p2.toInt8.toInt32), (p3.toInt8.toInt32), (p4.toInt8.toInt32)].getD i (0 : Int32)
theorem own_bys (p1 p2 p3 p4 : Int32) : ∀ i, i < 4 → List.getD ([(.int (p1.toInt8.toInt32)), (.int (p2.toInt8.toInt32)), (.int (p3.toInt8.toInt32)), (.int (p4.toInt8.toInt32))] : List Value) i (.int (0 : Int32)) = .int (own_by p1 p2 p3 p4 i) := by
  intro i hi
  match i, hi with
  | 0, _ => rfl
  | 1, _ => rfl
  | 2, _ => rfl
  | 3, _ => rfl
theorem own_lenN (p5 : Int32) : (own_len_ p5).toInt = own_N p5 ∧ own_N p5 ≤ 4 := by
  have h1 := c_and p5 (2147483647 : Int32) (by decide)
  have h2 := (c_irem (p5 &&& (2147483647 : Int32)) (5 : Int32) 5 (by decide)).1 h1.1
  unfold own_N own_len_ at *
  omega
theorem own_zero (x j n : Int32) (h : ¬ j < n) : own_f1 x j n = 0 := by unfold own_f1; exact if_neg h
theorem own_m (x : Int32) : ((x.toInt8.toInt32) &&& (255 : Int32)) = (x &&& (255 : Int32)) := by
  have h1 := c_i2b x
  rw [← Int32.toInt_inj, c_mask _ (255 : Int32) 8 (by decide) (by decide), c_mask _ (255 : Int32) 8 (by decide) (by decide)]
  omega
theorem own_key (x j n : Int32) (h : j < n) : own_f1 x j n = (if (own_f3 (x.toInt8.toInt32)) = (0 : Int32) then (0 : Int64) else (2 : Int64)) := by
  have e1 : (32 : Int32).toInt = 32 := by decide
  have e2 : (33 : Int32).toInt = 33 := by decide
  have e3 : (35 : Int32).toInt = 35 := by decide
  have e4 : (37 : Int32).toInt = 37 := by decide
  have e5 : (126 : Int32).toInt = 126 := by decide
  have e6 : (127 : Int32).toInt = 127 := by decide
  have z1 : ¬ ((1 : Int32) = (0 : Int32)) := by decide
  simp only [own_f1, own_f3, own_m, if_pos h]
  generalize (x &&& (255 : Int32)) = v
  simp only [Int32.lt_iff_toInt_lt, ← Int32.toInt_inj (y := (35 : Int32)), ← Int32.toInt_inj (y := (37 : Int32)), e1, e2, e3, e4, e5, e6]
  generalize v.toInt = n
  repeat' split
  all_goals first | rfl | (exfalso; omega) | contradiction
theorem own_law (p1 p2 p3 p4 p5 : Int32) : (own_tot (own_by p1 p2 p3 p4) ((own_len_ p5).toInt64) (own_N p5)) = ((((((own_len_ p5).toInt64) + (own_f1 p1 (0 : Int32) (own_len_ p5))) + (own_f1 p2 (1 : Int32) (own_len_ p5))) + (own_f1 p3 (2 : Int32) (own_len_ p5))) + (own_f1 p4 (3 : Int32) (own_len_ p5))) := by
  obtain ⟨h1, h2⟩ := own_lenN p5
  generalize own_N p5 = N at *
  generalize own_len_ p5 = x at *
  rw [own_lit32 h1]
  match N, h2 with
  | 0, _ => rw [own_zero _ _ _ (by decide), own_zero _ _ _ (by decide), own_zero _ _ _ (by decide), own_zero _ _ _ (by decide)]; rfl
  | 1, _ => rw [own_key _ _ _ (by decide), own_zero _ _ _ (by decide), own_zero _ _ _ (by decide), own_zero _ _ _ (by decide)]; simp only [own_tot, own_by, List.getD_cons_zero]; split <;> simp
  | 2, _ => rw [own_key _ _ _ (by decide), own_key _ _ _ (by decide), own_zero _ _ _ (by decide), own_zero _ _ _ (by decide)]; simp only [own_tot, own_by, List.getD_cons_zero, List.getD_cons_succ]; repeat' split <;> simp
  | 3, _ => rw [own_key _ _ _ (by decide), own_key _ _ _ (by decide), own_key _ _ _ (by decide), own_zero _ _ _ (by decide)]; simp only [own_tot, own_by, List.getD_cons_zero, List.getD_cons_succ]; repeat' split <;> simp
  | 4, _ => rw [own_key _ _ _ (by decide), own_key _ _ _ (by decide), own_key _ _ _ (by decide), own_key _ _ _ (by decide)]; simp only [own_tot, own_by, List.getD_cons_zero, List.getD_cons_succ]; repeat' split <;> simp
theorem ef_0 (p1 : Int32) (p2 : Int32) (p3 : Int32) (p4 : Int32) (p5 : Int32) (m : MethodId) : entryFrame m #[(.int p1), (.int p2), (.int p3), (.int p4), (.int p5)] maxLocals = mkF m 0 #[.val (.int p1), .val (.int p2), .val (.int p3), .val (.int p4), .val (.int p5), .unset, .unset, .unset, .unset, .unset, .unset] [] := by first | (simp [entryFrame, mkF, argsToLocals, Value.category, maxLocals]; done) | rfl
theorem pd_1 : parseMethodDescriptor "(III)J" = some ⟨[.int, .int, .int], some .long⟩ := by decide +kernel
theorem pd_2 : parseMethodDescriptor "([BI)J" = some ⟨[(.array .byte), .int], some .long⟩ := by decide +kernel
set_option maxRecDepth 65536 in
set_option maxHeartbeats 40000000 in
theorem rm0 (l : Launch) (Z : State) (a0 : Array Value) (hw : ∀ d ∈ tables_1, d.before a0 Z = true) (ws : List Jvm.Cond) (p1 : Int32) (p2 : Int32) (p3 : Int32) (p4 : Int32) (p5 : Int32) (h0 : Heap) (n0 : Nat) (Z0 : n0 ≤ h0.size) :
    own_Met l x code maxLocals ret ws room_1 #[(.int p1), (.int p2), (.int p3), (.int p4), (.int p5)] Z h0 (fun v h L => v = some (.int (1 : Int32)) ∧ Fr n0 L) := by
  refine own_body (plainFor_of_name pn_1) (ef_0 p1 p2 p3 p4 p5) ?_
  intro p e s m below meth c T0 X0 hx hby hml0 hret hlk hnm hown hZ e0
  have hml : c.maxLocals = 11 := hml0
  have N0 := Fr.nil n0
  refine own_step (fun _ k => XS.iload X0.here hx rfl (hb hby at_0) rfl k) ?_
  show own_Ends _ _ _ _ _ _ _ T0 (mkF m 2 #[.val (.int p1), .val (.int p2), .val (.int p3), .val (.int p4), .val (.int p5), .unset, .unset, .unset, .unset, .unset, .unset] [(.int p5)])
  refine own_step (X0.ldcInt hx hown (mvT hZ (hw _ (List.mem_of_getElem? (i := 0) rfl))) (g := (mkF m 2 #[.val (.int p1), .val (.int p2), .val (.int p3), .val (.int p4), .val (.int p5), .unset, .unset, .unset, .unset, .unset, .unset] [(.int p5)])) rfl (hb hby at_2)) ?_
  show own_Ends _ _ _ _ _ _ _ T0 (mkF m 4 #[.val (.int p1), .val (.int p2), .val (.int p3), .val (.int p4), .val (.int p5), .unset, .unset, .unset, .unset, .unset, .unset] [(.int (2147483647 : Int32)), (.int p5)])
  refine own_step (fun _ k => XS.iand X0.here hx rfl (hb hby at_4) rfl k) ?_
  show own_Ends _ _ _ _ _ _ _ T0 (mkF m 5 #[.val (.int p1), .val (.int p2), .val (.int p3), .val (.int p4), .val (.int p5), .unset, .unset, .unset, .unset, .unset, .unset] [(.int (p5 &&& (2147483647 : Int32)))])
  refine own_step (fun _ k => XS.iconst X0.here hx rfl (hb hby at_5) k) ?_
  show own_Ends _ _ _ _ _ _ _ T0 (mkF m 6 #[.val (.int p1), .val (.int p2), .val (.int p3), .val (.int p4), .val (.int p5), .unset, .unset, .unset, .unset, .unset, .unset] [(.int (5 : Int32)), (.int (p5 &&& (2147483647 : Int32)))])
  refine own_step (fun _ k => iremM X0 hx rfl (hb hby at_6) rfl (by decide) k) ?_
  show own_Ends _ _ _ _ _ _ _ T0 (mkF m 7 #[.val (.int p1), .val (.int p2), .val (.int p3), .val (.int p4), .val (.int p5), .unset, .unset, .unset, .unset, .unset, .unset] [(.int ((p5 &&& (2147483647 : Int32)) % (5 : Int32)))])
  show own_Ends _ _ _ _ _ _ _ T0 (mkF m 7 #[.val (.int p1), .val (.int p2), .val (.int p3), .val (.int p4), .val (.int p5), .unset, .unset, .unset, .unset, .unset, .unset] [(.int (own_len_ p5))])
  refine own_step (fun _ k => XS.istore X0.here hx rfl (hb hby at_7) rfl (l' := #[.val (.int p1), .val (.int p2), .val (.int p3), .val (.int p4), .val (.int p5), .val (.int (own_len_ p5)), .unset, .unset, .unset, .unset, .unset]) rfl k) ?_
  show own_Ends _ _ _ _ _ _ _ T0 (mkF m 9 #[.val (.int p1), .val (.int p2), .val (.int p3), .val (.int p4), .val (.int p5), .val (.int (own_len_ p5)), .unset, .unset, .unset, .unset, .unset] [])
  refine own_step (fun _ k => XS.iconst X0.here hx rfl (hb hby at_9) k) ?_
  show own_Ends _ _ _ _ _ _ _ T0 (mkF m 10 #[.val (.int p1), .val (.int p2), .val (.int p3), .val (.int p4), .val (.int p5), .val (.int (own_len_ p5)), .unset, .unset, .unset, .unset, .unset] [(.int (4 : Int32))])
  obtain ⟨T1, h1, k1, b1, g1, X1, e1, E1, V1, st1⟩ := own_newA X0 hx hZ (hw _ (List.mem_of_getElem? (i := 1) rfl)) e0 (g := (mkF m 10 #[.val (.int p1), .val (.int p2), .val (.int p3), .val (.int p4), .val (.int p5), .val (.int (own_len_ p5)), .unset, .unset, .unset, .unset, .unset] [(.int (4 : Int32))])) rfl (hb hby at_10) rfl (by decide) (cap := 4) (by decide) (by decide) (by decide) (by decide)
  have g_b1 : n0 ≤ b1 := Nat.le_trans Z0 (Nat.le_of_eq g1.symm)
  refine own_step st1 ?_
  have Z1 := Nat.le_trans Z0 E1.1
  have V_b1 : Arv Z h1 b1 k1 .byte (4 : Int32) [(.int (0 : Int32)), (.int (0 : Int32)), (.int (0 : Int32)), (.int (0 : Int32))] (.int (0 : Int32)) := V1
  show own_Ends _ _ _ _ _ _ _ T1 (mkF m 12 #[.val (.int p1), .val (.int p2), .val (.int p3), .val (.int p4), .val (.int p5), .val (.int (own_len_ p5)), .unset, .unset, .unset, .unset, .unset] [(.ref b1)])
  refine own_step (fun _ k => XS.astore X1.here hx rfl (hb hby at_12) rfl rfl (l' := #[.val (.int p1), .val (.int p2), .val (.int p3), .val (.int p4), .val (.int p5), .val (.int (own_len_ p5)), .val (.ref b1), .unset, .unset, .unset, .unset]) rfl k) ?_
  show own_Ends _ _ _ _ _ _ _ T1 (mkF m 14 #[.val (.int p1), .val (.int p2), .val (.int p3), .val (.int p4), .val (.int p5), .val (.int (own_len_ p5)), .val (.ref b1), .unset, .unset, .unset, .unset] [])
  refine own_step (fun _ k => XS.aload X1.here hx rfl (hb hby at_14) rfl rfl k) ?_
  show own_Ends _ _ _ _ _ _ _ T1 (mkF m 16 #[.val (.int p1), .val (.int p2), .val (.int p3), .val (.int p4), .val (.int p5), .val (.int (own_len_ p5)), .val (.ref b1), .unset, .unset, .unset, .unset] [(.ref b1)])
  refine own_step (fun _ k => XS.iconst X1.here hx rfl (hb hby at_16) k) ?_
  show own_Ends _ _ _ _ _ _ _ T1 (mkF m 17 #[.val (.int p1), .val (.int p2), .val (.int p3), .val (.int p4), .val (.int p5), .val (.int (own_len_ p5)), .val (.ref b1), .unset, .unset, .unset, .unset] [(.int (0 : Int32)), (.ref b1)])
  refine own_step (fun _ k => XS.iloadN X1.here hx rfl (hb hby at_17) rfl k) ?_
  show own_Ends _ _ _ _ _ _ _ T1 (mkF m 18 #[.val (.int p1), .val (.int p2), .val (.int p3), .val (.int p4), .val (.int p5), .val (.int (own_len_ p5)), .val (.ref b1), .unset, .unset, .unset, .unset] [(.int p1), (.int (0 : Int32)), (.ref b1)])
  refine own_step (fun _ k => XS.i2b X1.here hx rfl (hb hby at_18) rfl k) ?_
  show own_Ends _ _ _ _ _ _ _ T1 (mkF m 19 #[.val (.int p1), .val (.int p2), .val (.int p3), .val (.int p4), .val (.int p5), .val (.int (own_len_ p5)), .val (.ref b1), .unset, .unset, .unset, .unset] [(.int (p1.toInt8.toInt32)), (.int (0 : Int32)), (.ref b1)])
  obtain ⟨T2, h2, l2, X2, e2, W2, V2, st2⟩ := own_stB X1 hx hZ e1 V_b1 (j := (0 : Int32)) ⟨by decide, by decide⟩ 0 rfl (Nat.le_of_ble_eq_true rfl) (g := (mkF m 19 #[.val (.int p1), .val (.int p2), .val (.int p3), .val (.int p4), .val (.int p5), .val (.int (own_len_ p5)), .val (.ref b1), .unset, .unset, .unset, .unset] [(.int (p1.toInt8.toInt32)), (.int (0 : Int32)), (.ref b1)])) rfl rfl (hb hby at_19)
  refine own_step st2 ?_
  have N2 := Fr.snoc X2 N0 g_b1
  have Z2 := Nat.le_trans Z1 (Keep.of_wr W2).1
  rw [own_bb] at V2
  have V_b1_2 : Arv Z h2 b1 k1 .byte (4 : Int32) [(.int (p1.toInt8.toInt32)), (.int (0 : Int32)), (.int (0 : Int32)), (.int (0 : Int32))] (.int (0 : Int32)) := V2
  show own_Ends _ _ _ _ _ _ _ T2 (mkF m 20 #[.val (.int p1), .val (.int p2), .val (.int p3), .val (.int p4), .val (.int p5), .val (.int (own_len_ p5)), .val (.ref b1), .unset, .unset, .unset, .unset] [])
  refine own_step (fun _ k => XS.aload X2.here hx rfl (hb hby at_20) rfl rfl k) ?_
  show own_Ends _ _ _ _ _ _ _ T2 (mkF m 22 #[.val (.int p1), .val (.int p2), .val (.int p3), .val (.int p4), .val (.int p5), .val (.int (own_len_ p5)), .val (.ref b1), .unset, .unset, .unset, .unset] [(.ref b1)])
  refine own_step (fun _ k => XS.iconst X2.here hx rfl (hb hby at_22) k) ?_
  show own_Ends _ _ _ _ _ _ _ T2 (mkF m 23 #[.val (.int p1), .val (.int p2), .val (.int p3), .val (.int p4), .val (.int p5), .val (.int (own_len_ p5)), .val (.ref b1), .unset, .unset, .unset, .unset] [(.int (1 : Int32)), (.ref b1)])
  refine own_step (fun _ k => XS.iloadN X2.here hx rfl (hb hby at_23) rfl k) ?_
  show own_Ends _ _ _ _ _ _ _ T2 (mkF m 24 #[.val (.int p1), .val (.int p2), .val (.int p3), .val (.int p4), .val (.int p5), .val (.int (own_len_ p5)), .val (.ref b1), .unset, .unset, .unset, .unset] [(.int p2), (.int (1 : Int32)), (.ref b1)])
  refine own_step (fun _ k => XS.i2b X2.here hx rfl (hb hby at_24) rfl k) ?_
  show own_Ends _ _ _ _ _ _ _ T2 (mkF m 25 #[.val (.int p1), .val (.int p2), .val (.int p3), .val (.int p4), .val (.int p5), .val (.int (own_len_ p5)), .val (.ref b1), .unset, .unset, .unset, .unset] [(.int (p2.toInt8.toInt32)), (.int (1 : Int32)), (.ref b1)])
  obtain ⟨T3, h3, l3, X3, e3, W3, V3, st3⟩ := own_stB X2 hx hZ e2 V_b1_2 (j := (1 : Int32)) ⟨by decide, by decide⟩ 1 rfl (Nat.le_of_ble_eq_true rfl) (g := (mkF m 25 #[.val (.int p1), .val (.int p2), .val (.int p3), .val (.int p4), .val (.int p5), .val (.int (own_len_ p5)), .val (.ref b1), .unset, .unset, .unset, .unset] [(.int (p2.toInt8.toInt32)), (.int (1 : Int32)), (.ref b1)])) rfl rfl (hb hby at_25)
  refine own_step st3 ?_
  have N3 := Fr.snoc X3 N2 g_b1
  have Z3 := Nat.le_trans Z2 (Keep.of_wr W3).1
  rw [own_bb] at V3
  have V_b1_3 : Arv Z h3 b1 k1 .byte (4 : Int32) [(.int (p1.toInt8.toInt32)), (.int (p2.toInt8.toInt32)), (.int (0 : Int32)), (.int (0 : Int32))] (.int (0 : Int32)) := V3
  show own_Ends _ _ _ _ _ _ _ T3 (mkF m 26 #[.val (.int p1), .val (.int p2), .val (.int p3), .val (.int p4), .val (.int p5), .val (.int (own_len_ p5)), .val (.ref b1), .unset, .unset, .unset, .unset] [])
  refine own_step (fun _ k => XS.aload X3.here hx rfl (hb hby at_26) rfl rfl k) ?_
  show own_Ends _ _ _ _ _ _ _ T3 (mkF m 28 #[.val (.int p1), .val (.int p2), .val (.int p3), .val (.int p4), .val (.int p5), .val (.int (own_len_ p5)), .val (.ref b1), .unset, .unset, .unset, .unset] [(.ref b1)])
  refine own_step (fun _ k => XS.iconst X3.here hx rfl (hb hby at_28) k) ?_
  show own_Ends _ _ _ _ _ _ _ T3 (mkF m 29 #[.val (.int p1), .val (.int p2), .val (.int p3), .val (.int p4), .val (.int p5), .val (.int (own_len_ p5)), .val (.ref b1), .unset, .unset, .unset, .unset] [(.int (2 : Int32)), (.ref b1)])
  refine own_step (fun _ k => XS.iloadN X3.here hx rfl (hb hby at_29) rfl k) ?_
  show own_Ends _ _ _ _ _ _ _ T3 (mkF m 30 #[.val (.int p1), .val (.int p2), .val (.int p3), .val (.int p4), .val (.int p5), .val (.int (own_len_ p5)), .val (.ref b1), .unset, .unset, .unset, .unset] [(.int p3), (.int (2 : Int32)), (.ref b1)])
  refine own_step (fun _ k => XS.i2b X3.here hx rfl (hb hby at_30) rfl k) ?_
  show own_Ends _ _ _ _ _ _ _ T3 (mkF m 31 #[.val (.int p1), .val (.int p2), .val (.int p3), .val (.int p4), .val (.int p5), .val (.int (own_len_ p5)), .val (.ref b1), .unset, .unset, .unset, .unset] [(.int (p3.toInt8.toInt32)), (.int (2 : Int32)), (.ref b1)])
  obtain ⟨T4, h4, l4, X4, e4, W4, V4, st4⟩ := own_stB X3 hx hZ e3 V_b1_3 (j := (2 : Int32)) ⟨by decide, by decide⟩ 2 rfl (Nat.le_of_ble_eq_true rfl) (g := (mkF m 31 #[.val (.int p1), .val (.int p2), .val (.int p3), .val (.int p4), .val (.int p5), .val (.int (own_len_ p5)), .val (.ref b1), .unset, .unset, .unset, .unset] [(.int (p3.toInt8.toInt32)), (.int (2 : Int32)), (.ref b1)])) rfl rfl (hb hby at_31)
  refine own_step st4 ?_
  have N4 := Fr.snoc X4 N3 g_b1
  have Z4 := Nat.le_trans Z3 (Keep.of_wr W4).1
  rw [own_bb] at V4
  have V_b1_4 : Arv Z h4 b1 k1 .byte (4 : Int32) [(.int (p1.toInt8.toInt32)), (.int (p2.toInt8.toInt32)), (.int (p3.toInt8.toInt32)), (.int (0 : Int32))] (.int (0 : Int32)) := V4
  show own_Ends _ _ _ _ _ _ _ T4 (mkF m 32 #[.val (.int p1), .val (.int p2), .val (.int p3), .val (.int p4), .val (.int p5), .val (.int (own_len_ p5)), .val (.ref b1), .unset, .unset, .unset, .unset] [])
  refine own_step (fun _ k => XS.aload X4.here hx rfl (hb hby at_32) rfl rfl k) ?_
  show own_Ends _ _ _ _ _ _ _ T4 (mkF m 34 #[.val (.int p1), .val (.int p2), .val (.int p3), .val (.int p4), .val (.int p5), .val (.int (own_len_ p5)), .val (.ref b1), .unset, .unset, .unset, .unset] [(.ref b1)])
  refine own_step (fun _ k => XS.iconst X4.here hx rfl (hb hby at_34) k) ?_
  show own_Ends _ _ _ _ _ _ _ T4 (mkF m 35 #[.val (.int p1), .val (.int p2), .val (.int p3), .val (.int p4), .val (.int p5), .val (.int (own_len_ p5)), .val (.ref b1), .unset, .unset, .unset, .unset] [(.int (3 : Int32)), (.ref b1)])
  refine own_step (fun _ k => XS.iloadN X4.here hx rfl (hb hby at_35) rfl k) ?_
  show own_Ends _ _ _ _ _ _ _ T4 (mkF m 36 #[.val (.int p1), .val (.int p2), .val (.int p3), .val (.int p4), .val (.int p5), .val (.int (own_len_ p5)), .val (.ref b1), .unset, .unset, .unset, .unset] [(.int p4), (.int (3 : Int32)), (.ref b1)])
  refine own_step (fun _ k => XS.i2b X4.here hx rfl (hb hby at_36) rfl k) ?_
  show own_Ends _ _ _ _ _ _ _ T4 (mkF m 37 #[.val (.int p1), .val (.int p2), .val (.int p3), .val (.int p4), .val (.int p5), .val (.int (own_len_ p5)), .val (.ref b1), .unset, .unset, .unset, .unset] [(.int (p4.toInt8.toInt32)), (.int (3 : Int32)), (.ref b1)])
  obtain ⟨T5, h5, l5, X5, e5, W5, V5, st5⟩ := own_stB X4 hx hZ e4 V_b1_4 (j := (3 : Int32)) ⟨by decide, by decide⟩ 3 rfl (Nat.le_of_ble_eq_true rfl) (g := (mkF m 37 #[.val (.int p1), .val (.int p2), .val (.int p3), .val (.int p4), .val (.int p5), .val (.int (own_len_ p5)), .val (.ref b1), .unset, .unset, .unset, .unset] [(.int (p4.toInt8.toInt32)), (.int (3 : Int32)), (.ref b1)])) rfl rfl (hb hby at_37)
  refine own_step st5 ?_
  have N5 := Fr.snoc X5 N4 g_b1
  have Z5 := Nat.le_trans Z4 (Keep.of_wr W5).1
  rw [own_bb] at V5
  have V_b1_5 : Arv Z h5 b1 k1 .byte (4 : Int32) [(.int (p1.toInt8.toInt32)), (.int (p2.toInt8.toInt32)), (.int (p3.toInt8.toInt32)), (.int (p4.toInt8.toInt32))] (.int (0 : Int32)) := V5
  show own_Ends _ _ _ _ _ _ _ T5 (mkF m 38 #[.val (.int p1), .val (.int p2), .val (.int p3), .val (.int p4), .val (.int p5), .val (.int (own_len_ p5)), .val (.ref b1), .unset, .unset, .unset, .unset] [])
  refine own_step (fun _ k => XS.iload X5.here hx rfl (hb hby at_38) rfl k) ?_
  show own_Ends _ _ _ _ _ _ _ T5 (mkF m 40 #[.val (.int p1), .val (.int p2), .val (.int p3), .val (.int p4), .val (.int p5), .val (.int (own_len_ p5)), .val (.ref b1), .unset, .unset, .unset, .unset] [(.int (own_len_ p5))])
  refine own_step (fun _ k => XS.i2l X5.here hx rfl (hb hby at_40) rfl k) ?_
  show own_Ends _ _ _ _ _ _ _ T5 (mkF m 41 #[.val (.int p1), .val (.int p2), .val (.int p3), .val (.int p4), .val (.int p5), .val (.int (own_len_ p5)), .val (.ref b1), .unset, .unset, .unset, .unset] [(.long ((own_len_ p5).toInt64))])
  refine own_step (fun _ k => XS.iloadN X5.here hx rfl (hb hby at_41) rfl k) ?_
  show own_Ends _ _ _ _ _ _ _ T5 (mkF m 42 #[.val (.int p1), .val (.int p2), .val (.int p3), .val (.int p4), .val (.int p5), .val (.int (own_len_ p5)), .val (.ref b1), .unset, .unset, .unset, .unset] [(.int p1), (.long ((own_len_ p5).toInt64))])
  refine own_step (fun _ k => XS.iconst X5.here hx rfl (hb hby at_42) k) ?_
  show own_Ends _ _ _ _ _ _ _ T5 (mkF m 43 #[.val (.int p1), .val (.int p2), .val (.int p3), .val (.int p4), .val (.int p5), .val (.int (own_len_ p5)), .val (.ref b1), .unset, .unset, .unset, .unset] [(.int (0 : Int32)), (.int p1), (.long ((own_len_ p5).toInt64))])
  refine own_step (fun _ k => XS.iload X5.here hx rfl (hb hby at_43) rfl k) ?_
  show own_Ends _ _ _ _ _ _ _ T5 (mkF m 45 #[.val (.int p1), .val (.int p2), .val (.int p3), .val (.int p4), .val (.int p5), .val (.int (own_len_ p5)), .val (.ref b1), .unset, .unset, .unset, .unset] [(.int (own_len_ p5)), (.int (0 : Int32)), (.int p1), (.long ((own_len_ p5).toInt64))])
  refine own_callS X5 hx hZ (y := (⟨"com/example/gist_hash/gisthash/PercentCodingEscapedLengthPinLaw", "extra", "(III)J"⟩ : MethodName)) hown (hw _ (List.mem_of_getElem? (i := 2) rfl)) (hw _ (List.mem_of_getElem? (i := 3) rfl)) (hw _ (List.mem_of_getElem? (i := 4) rfl)) (hw _ (List.mem_of_getElem? (i := 5) rfl)) (by decide) (rm1 l Z a0 hw [] p1 (0 : Int32) (own_len_ p5) h5 n0 Z5) e5 2 (by decide) (by decide) (by decide) (by decide) (g := (mkF m 45 #[.val (.int p1), .val (.int p2), .val (.int p3), .val (.int p4), .val (.int p5), .val (.int (own_len_ p5)), .val (.ref b1), .unset, .unset, .unset, .unset] [(.int (own_len_ p5)), (.int (0 : Int32)), (.int p1), (.long ((own_len_ p5).toInt64))])) rfl (by rw [hml]; rfl) [(.int p1), (.int (0 : Int32)), (.int (own_len_ p5))] [(.long ((own_len_ p5).toInt64))] pd_1 rfl rfl rfl (by show 2 * 0 + _ ≤ _; exact Nat.le_of_eq rfl) (hb hby at_45) ?_
  rintro v6 T6 L6 X6 ⟨rfl, Nq6, e6⟩
  have N6 := Fr.app N5 Nq6
  show own_Ends _ _ _ _ _ _ _ T6 (mkF m 48 #[.val (.int p1), .val (.int p2), .val (.int p3), .val (.int p4), .val (.int p5), .val (.int (own_len_ p5)), .val (.ref b1), .unset, .unset, .unset, .unset] [(.long (own_f1 p1 (0 : Int32) (own_len_ p5))), (.long ((own_len_ p5).toInt64))])
  refine own_step (fun _ k => XS.ladd X6.here hx rfl (hb hby at_48) rfl k) ?_
  show own_Ends _ _ _ _ _ _ _ T6 (mkF m 49 #[.val (.int p1), .val (.int p2), .val (.int p3), .val (.int p4), .val (.int p5), .val (.int (own_len_ p5)), .val (.ref b1), .unset, .unset, .unset, .unset] [(.long (((own_len_ p5).toInt64) + (own_f1 p1 (0 : Int32) (own_len_ p5))))])
  refine own_step (fun _ k => XS.iloadN X6.here hx rfl (hb hby at_49) rfl k) ?_
  show own_Ends _ _ _ _ _ _ _ T6 (mkF m 50 #[.val (.int p1), .val (.int p2), .val (.int p3), .val (.int p4), .val (.int p5), .val (.int (own_len_ p5)), .val (.ref b1), .unset, .unset, .unset, .unset] [(.int p2), (.long (((own_len_ p5).toInt64) + (own_f1 p1 (0 : Int32) (own_len_ p5))))])
  refine own_step (fun _ k => XS.iconst X6.here hx rfl (hb hby at_50) k) ?_
  show own_Ends _ _ _ _ _ _ _ T6 (mkF m 51 #[.val (.int p1), .val (.int p2), .val (.int p3), .val (.int p4), .val (.int p5), .val (.int (own_len_ p5)), .val (.ref b1), .unset, .unset, .unset, .unset] [(.int (1 : Int32)), (.int p2), (.long (((own_len_ p5).toInt64) + (own_f1 p1 (0 : Int32) (own_len_ p5))))])
  refine own_step (fun _ k => XS.iload X6.here hx rfl (hb hby at_51) rfl k) ?_
  show own_Ends _ _ _ _ _ _ _ T6 (mkF m 53 #[.val (.int p1), .val (.int p2), .val (.int p3), .val (.int p4), .val (.int p5), .val (.int (own_len_ p5)), .val (.ref b1), .unset, .unset, .unset, .unset] [(.int (own_len_ p5)), (.int (1 : Int32)), (.int p2), (.long (((own_len_ p5).toInt64) + (own_f1 p1 (0 : Int32) (own_len_ p5))))])
  refine own_callS X6 hx hZ (y := (⟨"com/example/gist_hash/gisthash/PercentCodingEscapedLengthPinLaw", "extra", "(III)J"⟩ : MethodName)) hown (hw _ (List.mem_of_getElem? (i := 2) rfl)) (hw _ (List.mem_of_getElem? (i := 3) rfl)) (hw _ (List.mem_of_getElem? (i := 4) rfl)) (hw _ (List.mem_of_getElem? (i := 5) rfl)) (by decide) (rm1 l Z a0 hw [] p2 (1 : Int32) (own_len_ p5) h5 n0 Z5) e6 2 (by decide) (by decide) (by decide) (by decide) (g := (mkF m 53 #[.val (.int p1), .val (.int p2), .val (.int p3), .val (.int p4), .val (.int p5), .val (.int (own_len_ p5)), .val (.ref b1), .unset, .unset, .unset, .unset] [(.int (own_len_ p5)), (.int (1 : Int32)), (.int p2), (.long (((own_len_ p5).toInt64) + (own_f1 p1 (0 : Int32) (own_len_ p5))))])) rfl (by rw [hml]; rfl) [(.int p2), (.int (1 : Int32)), (.int (own_len_ p5))] [(.long (((own_len_ p5).toInt64) + (own_f1 p1 (0 : Int32) (own_len_ p5))))] pd_1 rfl rfl rfl (by show 2 * 0 + _ ≤ _; exact Nat.le_of_eq rfl) (hb hby at_53) ?_
  rintro v7 T7 L7 X7 ⟨rfl, Nq7, e7⟩
  have N7 := Fr.app N6 Nq7
  show own_Ends _ _ _ _ _ _ _ T7 (mkF m 56 #[.val (.int p1), .val (.int p2), .val (.int p3), .val (.int p4), .val (.int p5), .val (.int (own_len_ p5)), .val (.ref b1), .unset, .unset, .unset, .unset] [(.long (own_f1 p2 (1 : Int32) (own_len_ p5))), (.long (((own_len_ p5).toInt64) + (own_f1 p1 (0 : Int32) (own_len_ p5))))])
  refine own_step (fun _ k => XS.ladd X7.here hx rfl (hb hby at_56) rfl k) ?_
  show own_Ends _ _ _ _ _ _ _ T7 (mkF m 57 #[.val (.int p1), .val (.int p2), .val (.int p3), .val (.int p4), .val (.int p5), .val (.int (own_len_ p5)), .val (.ref b1), .unset, .unset, .unset, .unset] [(.long ((((own_len_ p5).toInt64) + (own_f1 p1 (0 : Int32) (own_len_ p5))) + (own_f1 p2 (1 : Int32) (own_len_ p5))))])
  refine own_step (fun _ k => XS.iloadN X7.here hx rfl (hb hby at_57) rfl k) ?_
  show own_Ends _ _ _ _ _ _ _ T7 (mkF m 58 #[.val (.int p1), .val (.int p2), .val (.int p3), .val (.int p4), .val (.int p5), .val (.int (own_len_ p5)), .val (.ref b1), .unset, .unset, .unset, .unset] [(.int p3), (.long ((((own_len_ p5).toInt64) + (own_f1 p1 (0 : Int32) (own_len_ p5))) + (own_f1 p2 (1 : Int32) (own_len_ p5))))])
  refine own_step (fun _ k => XS.iconst X7.here hx rfl (hb hby at_58) k) ?_
  show own_Ends _ _ _ _ _ _ _ T7 (mkF m 59 #[.val (.int p1), .val (.int p2), .val (.int p3), .val (.int p4), .val (.int p5), .val (.int (own_len_ p5)), .val (.ref b1), .unset, .unset, .unset, .unset] [(.int (2 : Int32)), (.int p3), (.long ((((own_len_ p5).toInt64) + (own_f1 p1 (0 : Int32) (own_len_ p5))) + (own_f1 p2 (1 : Int32) (own_len_ p5))))])
  refine own_step (fun _ k => XS.iload X7.here hx rfl (hb hby at_59) rfl k) ?_
  show own_Ends _ _ _ _ _ _ _ T7 (mkF m 61 #[.val (.int p1), .val (.int p2), .val (.int p3), .val (.int p4), .val (.int p5), .val (.int (own_len_ p5)), .val (.ref b1), .unset, .unset, .unset, .unset] [(.int (own_len_ p5)), (.int (2 : Int32)), (.int p3), (.long ((((own_len_ p5).toInt64) + (own_f1 p1 (0 : Int32) (own_len_ p5))) + (own_f1 p2 (1 : Int32) (own_len_ p5))))])
  refine own_callS X7 hx hZ (y := (⟨"com/example/gist_hash/gisthash/PercentCodingEscapedLengthPinLaw", "extra", "(III)J"⟩ : MethodName)) hown (hw _ (List.mem_of_getElem? (i := 2) rfl)) (hw _ (List.mem_of_getElem? (i := 3) rfl)) (hw _ (List.mem_of_getElem? (i := 4) rfl)) (hw _ (List.mem_of_getElem? (i := 5) rfl)) (by decide) (rm1 l Z a0 hw [] p3 (2 : Int32) (own_len_ p5) h5 n0 Z5) e7 2 (by decide) (by decide) (by decide) (by decide) (g := (mkF m 61 #[.val (.int p1), .val (.int p2), .val (.int p3), .val (.int p4), .val (.int p5), .val (.int (own_len_ p5)), .val (.ref b1), .unset, .unset, .unset, .unset] [(.int (own_len_ p5)), (.int (2 : Int32)), (.int p3), (.long ((((own_len_ p5).toInt64) + (own_f1 p1 (0 : Int32) (own_len_ p5))) + (own_f1 p2 (1 : Int32) (own_len_ p5))))])) rfl (by rw [hml]; rfl) [(.int p3), (.int (2 : Int32)), (.int (own_len_ p5))] [(.long ((((own_len_ p5).toInt64) + (own_f1 p1 (0 : Int32) (own_len_ p5))) + (own_f1 p2 (1 : Int32) (own_len_ p5))))] pd_1 rfl rfl rfl (by show 2 * 0 + _ ≤ _; exact Nat.le_of_eq rfl) (hb hby at_61) ?_
  rintro v8 T8 L8 X8 ⟨rfl, Nq8, e8⟩
  have N8 := Fr.app N7 Nq8
  show own_Ends _ _ _ _ _ _ _ T8 (mkF m 64 #[.val (.int p1), .val (.int p2), .val (.int p3), .val (.int p4), .val (.int p5), .val (.int (own_len_ p5)), .val (.ref b1), .unset, .unset, .unset, .unset] [(.long (own_f1 p3 (2 : Int32) (own_len_ p5))), (.long ((((own_len_ p5).toInt64) + (own_f1 p1 (0 : Int32) (own_len_ p5))) + (own_f1 p2 (1 : Int32) (own_len_ p5))))])
  refine own_step (fun _ k => XS.ladd X8.here hx rfl (hb hby at_64) rfl k) ?_
  show own_Ends _ _ _ _ _ _ _ T8 (mkF m 65 #[.val (.int p1), .val (.int p2), .val (.int p3), .val (.int p4), .val (.int p5), .val (.int (own_len_ p5)), .val (.ref b1), .unset, .unset, .unset, .unset] [(.long (((((own_len_ p5).toInt64) + (own_f1 p1 (0 : Int32) (own_len_ p5))) + (own_f1 p2 (1 : Int32) (own_len_ p5))) + (own_f1 p3 (2 : Int32) (own_len_ p5))))])
  refine own_step (fun _ k => XS.iloadN X8.here hx rfl (hb hby at_65) rfl k) ?_
  show own_Ends _ _ _ _ _ _ _ T8 (mkF m 66 #[.val (.int p1), .val (.int p2), .val (.int p3), .val (.int p4), .val (.int p5), .val (.int (own_len_ p5)), .val (.ref b1), .unset, .unset, .unset, .unset] [(.int p4), (.long (((((own_len_ p5).toInt64) + (own_f1 p1 (0 : Int32) (own_len_ p5))) + (own_f1 p2 (1 : Int32) (own_len_ p5))) + (own_f1 p3 (2 : Int32) (own_len_ p5))))])
  refine own_step (fun _ k => XS.iconst X8.here hx rfl (hb hby at_66) k) ?_
  show own_Ends _ _ _ _ _ _ _ T8 (mkF m 67 #[.val (.int p1), .val (.int p2), .val (.int p3), .val (.int p4), .val (.int p5), .val (.int (own_len_ p5)), .val (.ref b1), .unset, .unset, .unset, .unset] [(.int (3 : Int32)), (.int p4), (.long (((((own_len_ p5).toInt64) + (own_f1 p1 (0 : Int32) (own_len_ p5))) + (own_f1 p2 (1 : Int32) (own_len_ p5))) + (own_f1 p3 (2 : Int32) (own_len_ p5))))])
  refine own_step (fun _ k => XS.iload X8.here hx rfl (hb hby at_67) rfl k) ?_
  show own_Ends _ _ _ _ _ _ _ T8 (mkF m 69 #[.val (.int p1), .val (.int p2), .val (.int p3), .val (.int p4), .val (.int p5), .val (.int (own_len_ p5)), .val (.ref b1), .unset, .unset, .unset, .unset] [(.int (own_len_ p5)), (.int (3 : Int32)), (.int p4), (.long (((((own_len_ p5).toInt64) + (own_f1 p1 (0 : Int32) (own_len_ p5))) + (own_f1 p2 (1 : Int32) (own_len_ p5))) + (own_f1 p3 (2 : Int32) (own_len_ p5))))])
  refine own_callS X8 hx hZ (y := (⟨"com/example/gist_hash/gisthash/PercentCodingEscapedLengthPinLaw", "extra", "(III)J"⟩ : MethodName)) hown (hw _ (List.mem_of_getElem? (i := 2) rfl)) (hw _ (List.mem_of_getElem? (i := 3) rfl)) (hw _ (List.mem_of_getElem? (i := 4) rfl)) (hw _ (List.mem_of_getElem? (i := 5) rfl)) (by decide) (rm1 l Z a0 hw [] p4 (3 : Int32) (own_len_ p5) h5 n0 Z5) e8 2 (by decide) (by decide) (by decide) (by decide) (g := (mkF m 69 #[.val (.int p1), .val (.int p2), .val (.int p3), .val (.int p4), .val (.int p5), .val (.int (own_len_ p5)), .val (.ref b1), .unset, .unset, .unset, .unset] [(.int (own_len_ p5)), (.int (3 : Int32)), (.int p4), (.long (((((own_len_ p5).toInt64) + (own_f1 p1 (0 : Int32) (own_len_ p5))) + (own_f1 p2 (1 : Int32) (own_len_ p5))) + (own_f1 p3 (2 : Int32) (own_len_ p5))))])) rfl (by rw [hml]; rfl) [(.int p4), (.int (3 : Int32)), (.int (own_len_ p5))] [(.long (((((own_len_ p5).toInt64) + (own_f1 p1 (0 : Int32) (own_len_ p5))) + (own_f1 p2 (1 : Int32) (own_len_ p5))) + (own_f1 p3 (2 : Int32) (own_len_ p5))))] pd_1 rfl rfl rfl (by show 2 * 0 + _ ≤ _; exact Nat.le_of_eq rfl) (hb hby at_69) ?_
  rintro v9 T9 L9 X9 ⟨rfl, Nq9, e9⟩
  have N9 := Fr.app N8 Nq9
  show own_Ends _ _ _ _ _ _ _ T9 (mkF m 72 #[.val (.int p1), .val (.int p2), .val (.int p3), .val (.int p4), .val (.int p5), .val (.int (own_len_ p5)), .val (.ref b1), .unset, .unset, .unset, .unset] [(.long (own_f1 p4 (3 : Int32) (own_len_ p5))), (.long (((((own_len_ p5).toInt64) + (own_f1 p1 (0 : Int32) (own_len_ p5))) + (own_f1 p2 (1 : Int32) (own_len_ p5))) + (own_f1 p3 (2 : Int32) (own_len_ p5))))])
  refine own_step (fun _ k => XS.ladd X9.here hx rfl (hb hby at_72) rfl k) ?_
  show own_Ends _ _ _ _ _ _ _ T9 (mkF m 73 #[.val (.int p1), .val (.int p2), .val (.int p3), .val (.int p4), .val (.int p5), .val (.int (own_len_ p5)), .val (.ref b1), .unset, .unset, .unset, .unset] [(.long ((((((own_len_ p5).toInt64) + (own_f1 p1 (0 : Int32) (own_len_ p5))) + (own_f1 p2 (1 : Int32) (own_len_ p5))) + (own_f1 p3 (2 : Int32) (own_len_ p5))) + (own_f1 p4 (3 : Int32) (own_len_ p5))))])
  refine own_step (fun _ k => XS.lstore X9.here hx rfl (hb hby at_73) rfl (l' := #[.val (.int p1), .val (.int p2), .val (.int p3), .val (.int p4), .val (.int p5), .val (.int (own_len_ p5)), .val (.ref b1), .val (.long ((((((own_len_ p5).toInt64) + (own_f1 p1 (0 : Int32) (own_len_ p5))) + (own_f1 p2 (1 : Int32) (own_len_ p5))) + (own_f1 p3 (2 : Int32) (own_len_ p5))) + (own_f1 p4 (3 : Int32) (own_len_ p5)))), .second, .unset, .unset]) rfl k) ?_
  show own_Ends _ _ _ _ _ _ _ T9 (mkF m 75 #[.val (.int p1), .val (.int p2), .val (.int p3), .val (.int p4), .val (.int p5), .val (.int (own_len_ p5)), .val (.ref b1), .val (.long ((((((own_len_ p5).toInt64) + (own_f1 p1 (0 : Int32) (own_len_ p5))) + (own_f1 p2 (1 : Int32) (own_len_ p5))) + (own_f1 p3 (2 : Int32) (own_len_ p5))) + (own_f1 p4 (3 : Int32) (own_len_ p5)))), .second, .unset, .unset] [])
  refine own_step (fun _ k => XS.aload X9.here hx rfl (hb hby at_75) rfl rfl k) ?_
  show own_Ends _ _ _ _ _ _ _ T9 (mkF m 77 #[.val (.int p1), .val (.int p2), .val (.int p3), .val (.int p4), .val (.int p5), .val (.int (own_len_ p5)), .val (.ref b1), .val (.long ((((((own_len_ p5).toInt64) + (own_f1 p1 (0 : Int32) (own_len_ p5))) + (own_f1 p2 (1 : Int32) (own_len_ p5))) + (own_f1 p3 (2 : Int32) (own_len_ p5))) + (own_f1 p4 (3 : Int32) (own_len_ p5)))), .second, .unset, .unset] [(.ref b1)])
  refine own_step (fun _ k => XS.iload X9.here hx rfl (hb hby at_77) rfl k) ?_
  show own_Ends _ _ _ _ _ _ _ T9 (mkF m 79 #[.val (.int p1), .val (.int p2), .val (.int p3), .val (.int p4), .val (.int p5), .val (.int (own_len_ p5)), .val (.ref b1), .val (.long ((((((own_len_ p5).toInt64) + (own_f1 p1 (0 : Int32) (own_len_ p5))) + (own_f1 p2 (1 : Int32) (own_len_ p5))) + (own_f1 p3 (2 : Int32) (own_len_ p5))) + (own_f1 p4 (3 : Int32) (own_len_ p5)))), .second, .unset, .unset] [(.int (own_len_ p5)), (.ref b1)])
  refine own_callS X9 hx hZ (y := (⟨"com/example/gist_hash/gisthash/PercentCoding", "escapedLength", "([BI)J"⟩ : MethodName)) hown (hw _ (List.mem_of_getElem? (i := 6) rfl)) (hw _ (List.mem_of_getElem? (i := 7) rfl)) (hw _ (List.mem_of_getElem? (i := 8) rfl)) (hw _ (List.mem_of_getElem? (i := 9) rfl)) (by decide) (rm2 l Z a0 hw [] b1 (own_len_ p5) k1 [(.int (p1.toInt8.toInt32)), (.int (p2.toInt8.toInt32)), (.int (p3.toInt8.toInt32)), (.int (p4.toInt8.toInt32))] (own_by p1 p2 p3 p4) _ h5 n0 Z5 V_b1_5 (own_bys p1 p2 p3 p4) (own_lenN p5).1 (own_lenN p5).2) e9 0 (by decide) (by decide) (by decide) (by decide) (g := (mkF m 79 #[.val (.int p1), .val (.int p2), .val (.int p3), .val (.int p4), .val (.int p5), .val (.int (own_len_ p5)), .val (.ref b1), .val (.long ((((((own_len_ p5).toInt64) + (own_f1 p1 (0 : Int32) (own_len_ p5))) + (own_f1 p2 (1 : Int32) (own_len_ p5))) + (own_f1 p3 (2 : Int32) (own_len_ p5))) + (own_f1 p4 (3 : Int32) (own_len_ p5)))), .second, .unset, .unset] [(.int (own_len_ p5)), (.ref b1)])) rfl (by rw [hml]; rfl) [(.ref b1), (.int (own_len_ p5))] [] pd_2 rfl rfl rfl (by show 2 * 0 + _ ≤ _; exact Nat.le_of_eq rfl) (hb hby at_79) ?_
  rintro v10 T10 L10 X10 ⟨rfl, Nq10, e10⟩
  have N10 := Fr.app N9 Nq10
  show own_Ends _ _ _ _ _ _ _ T10 (mkF m 82 #[.val (.int p1), .val (.int p2), .val (.int p3), .val (.int p4), .val (.int p5), .val (.int (own_len_ p5)), .val (.ref b1), .val (.long ((((((own_len_ p5).toInt64) + (own_f1 p1 (0 : Int32) (own_len_ p5))) + (own_f1 p2 (1 : Int32) (own_len_ p5))) + (own_f1 p3 (2 : Int32) (own_len_ p5))) + (own_f1 p4 (3 : Int32) (own_len_ p5)))), .second, .unset, .unset] [(.long (own_tot (own_by p1 p2 p3 p4) ((own_len_ p5).toInt64) (own_N p5)))])
  refine own_step (fun _ k => XS.lstore X10.here hx rfl (hb hby at_82) rfl (l' := #[.val (.int p1), .val (.int p2), .val (.int p3), .val (.int p4), .val (.int p5), .val (.int (own_len_ p5)), .val (.ref b1), .val (.long ((((((own_len_ p5).toInt64) + (own_f1 p1 (0 : Int32) (own_len_ p5))) + (own_f1 p2 (1 : Int32) (own_len_ p5))) + (own_f1 p3 (2 : Int32) (own_len_ p5))) + (own_f1 p4 (3 : Int32) (own_len_ p5)))), .second, .val (.long (own_tot (own_by p1 p2 p3 p4) ((own_len_ p5).toInt64) (own_N p5))), .second]) rfl k) ?_
  show own_Ends _ _ _ _ _ _ _ T10 (mkF m 84 #[.val (.int p1), .val (.int p2), .val (.int p3), .val (.int p4), .val (.int p5), .val (.int (own_len_ p5)), .val (.ref b1), .val (.long ((((((own_len_ p5).toInt64) + (own_f1 p1 (0 : Int32) (own_len_ p5))) + (own_f1 p2 (1 : Int32) (own_len_ p5))) + (own_f1 p3 (2 : Int32) (own_len_ p5))) + (own_f1 p4 (3 : Int32) (own_len_ p5)))), .second, .val (.long (own_tot (own_by p1 p2 p3 p4) ((own_len_ p5).toInt64) (own_N p5))), .second] [])
  refine own_step (fun _ k => XS.lload X10.here hx rfl (hb hby at_84) rfl k) ?_
  show own_Ends _ _ _ _ _ _ _ T10 (mkF m 86 #[.val (.int p1), .val (.int p2), .val (.int p3), .val (.int p4), .val (.int p5), .val (.int (own_len_ p5)), .val (.ref b1), .val (.long ((((((own_len_ p5).toInt64) + (own_f1 p1 (0 : Int32) (own_len_ p5))) + (own_f1 p2 (1 : Int32) (own_len_ p5))) + (own_f1 p3 (2 : Int32) (own_len_ p5))) + (own_f1 p4 (3 : Int32) (own_len_ p5)))), .second, .val (.long (own_tot (own_by p1 p2 p3 p4) ((own_len_ p5).toInt64) (own_N p5))), .second] [(.long (own_tot (own_by p1 p2 p3 p4) ((own_len_ p5).toInt64) (own_N p5)))])
  refine own_step (fun _ k => XS.lload X10.here hx rfl (hb hby at_86) rfl k) ?_
  show own_Ends _ _ _ _ _ _ _ T10 (mkF m 88 #[.val (.int p1), .val (.int p2), .val (.int p3), .val (.int p4), .val (.int p5), .val (.int (own_len_ p5)), .val (.ref b1), .val (.long ((((((own_len_ p5).toInt64) + (own_f1 p1 (0 : Int32) (own_len_ p5))) + (own_f1 p2 (1 : Int32) (own_len_ p5))) + (own_f1 p3 (2 : Int32) (own_len_ p5))) + (own_f1 p4 (3 : Int32) (own_len_ p5)))), .second, .val (.long (own_tot (own_by p1 p2 p3 p4) ((own_len_ p5).toInt64) (own_N p5))), .second] [(.long ((((((own_len_ p5).toInt64) + (own_f1 p1 (0 : Int32) (own_len_ p5))) + (own_f1 p2 (1 : Int32) (own_len_ p5))) + (own_f1 p3 (2 : Int32) (own_len_ p5))) + (own_f1 p4 (3 : Int32) (own_len_ p5)))), (.long (own_tot (own_by p1 p2 p3 p4) ((own_len_ p5).toInt64) (own_N p5)))])
  refine own_step (fun _ k => XS.lcmp X10.here hx rfl (hb hby at_88) rfl k) ?_
  show own_Ends _ _ _ _ _ _ _ T10 (mkF m 89 #[.val (.int p1), .val (.int p2), .val (.int p3), .val (.int p4), .val (.int p5), .val (.int (own_len_ p5)), .val (.ref b1), .val (.long ((((((own_len_ p5).toInt64) + (own_f1 p1 (0 : Int32) (own_len_ p5))) + (own_f1 p2 (1 : Int32) (own_len_ p5))) + (own_f1 p3 (2 : Int32) (own_len_ p5))) + (own_f1 p4 (3 : Int32) (own_len_ p5)))), .second, .val (.long (own_tot (own_by p1 p2 p3 p4) ((own_len_ p5).toInt64) (own_N p5))), .second] [(.int (lcmpW (own_tot (own_by p1 p2 p3 p4) ((own_len_ p5).toInt64) (own_N p5)) ((((((own_len_ p5).toInt64) + (own_f1 p1 (0 : Int32) (own_len_ p5))) + (own_f1 p2 (1 : Int32) (own_len_ p5))) + (own_f1 p3 (2 : Int32) (own_len_ p5))) + (own_f1 p4 (3 : Int32) (own_len_ p5)))))])
  refine own_step (fun _ k => XS.ifNo X10.here hx rfl (hb hby at_89) rfl ((if0 _ _).trans (teq ((lw_eq (own_tot (own_by p1 p2 p3 p4) ((own_len_ p5).toInt64) (own_N p5)) ((((((own_len_ p5).toInt64) + (own_f1 p1 (0 : Int32) (own_len_ p5))) + (own_f1 p2 (1 : Int32) (own_len_ p5))) + (own_f1 p3 (2 : Int32) (own_len_ p5))) + (own_f1 p4 (3 : Int32) (own_len_ p5)))).mpr (own_law p1 p2 p3 p4 p5))).2) k) ?_
  show own_Ends _ _ _ _ _ _ _ T10 (mkF m 92 #[.val (.int p1), .val (.int p2), .val (.int p3), .val (.int p4), .val (.int p5), .val (.int (own_len_ p5)), .val (.ref b1), .val (.long ((((((own_len_ p5).toInt64) + (own_f1 p1 (0 : Int32) (own_len_ p5))) + (own_f1 p2 (1 : Int32) (own_len_ p5))) + (own_f1 p3 (2 : Int32) (own_len_ p5))) + (own_f1 p4 (3 : Int32) (own_len_ p5)))), .second, .val (.long (own_tot (own_by p1 p2 p3 p4) ((own_len_ p5).toInt64) (own_N p5))), .second] [])
  refine own_step (fun _ k => XS.iconst X10.here hx rfl (hb hby at_92) k) ?_
  show own_Ends _ _ _ _ _ _ _ T10 (mkF m 93 #[.val (.int p1), .val (.int p2), .val (.int p3), .val (.int p4), .val (.int p5), .val (.int (own_len_ p5)), .val (.ref b1), .val (.long ((((((own_len_ p5).toInt64) + (own_f1 p1 (0 : Int32) (own_len_ p5))) + (own_f1 p2 (1 : Int32) (own_len_ p5))) + (own_f1 p3 (2 : Int32) (own_len_ p5))) + (own_f1 p4 (3 : Int32) (own_len_ p5)))), .second, .val (.long (own_tot (own_by p1 p2 p3 p4) ((own_len_ p5).toInt64) (own_N p5))), .second] [(.int (1 : Int32))])
  refine own_step (fun _ k => XS.goto X10.here hx rfl (pc0 := 93) (pc' := 97) rfl (hb hby at_93) (by decide) (by decide) k) ?_
  show own_Ends _ _ _ _ _ _ _ T10 (mkF m 97 #[.val (.int p1), .val (.int p2), .val (.int p3), .val (.int p4), .val (.int p5), .val (.int (own_len_ p5)), .val (.ref b1), .val (.long ((((((own_len_ p5).toInt64) + (own_f1 p1 (0 : Int32) (own_len_ p5))) + (own_f1 p2 (1 : Int32) (own_len_ p5))) + (own_f1 p3 (2 : Int32) (own_len_ p5))) + (own_f1 p4 (3 : Int32) (own_len_ p5)))), .second, .val (.long (own_tot (own_by p1 p2 p3 p4) ((own_len_ p5).toInt64) (own_N p5))), .second] [(.int (1 : Int32))])
  exact own_retN X10 hx (t := .boolean) hret (by simp) hlk (hb hby at_97) rfl ⟨rfl, N10⟩ (by decide) (by decide)
set_option maxRecDepth 65536 in
set_option maxHeartbeats 40000000 in
theorem comes_1 {Post : Tables → Env → Array Value → State → Outcome → State → Prop} (hpost : ∀ tb e args s v u, (limb_1_1.after args s (.returned v) u = true ∧ limb_1_2.after args s (.returned v) u = true ∧ True) → FrameEnd s (.returned v) u (Jvm.fieldLocs frame_1_writes args s ++ Jvm.arrayLocs frame_1_arrays args s ++ Jvm.staticLocs frame_1_statics s) 16 128 → Post tb e args s (.returned v) u) :
    ArmFor flags0 classFile x code maxLocals ret World_1 tables_1 room_1 Calls_1 rest_1 Pre_1 Post := by
  intro l hfl _ _ p e ha hc hk s m args below hf hA hF happ hP
  obtain ⟨hcalls, hrest, hpre⟩ := hP
  obtain ⟨-, -, -, hnamed, -, -, -, hat⟩ := (Spec.applies_iff hf).mp happ
  obtain ⟨hg, hn⟩ := and_e (Cond.before_iff.mp (show (Jvm.Cond.and given_1 narrow_1).before args s = true from hpre))
  obtain ⟨gc, g0⟩ := and_e hg
  obtain ⟨h0, g1⟩ := and_e g0
  obtain ⟨h1, g2⟩ := and_e g1
  obtain ⟨h2, g3⟩ := and_e g2
  obtain ⟨h3, g4⟩ := and_e g3
  have h4 := g4
  obtain ⟨w0, w1, w2, w3, w4, rfl⟩ : ∃ w0 w1 w2 w3 w4 : Value, args = #[w0, w1, w2, w3, w4] := by
    have hs : args.size = 5 := by simpa [Cond.value, given_1] using gc
    obtain ⟨L⟩ := args
    match L, hs with
    | [w0, w1, w2, w3, w4], _ => exact ⟨w0, w1, w2, w3, w4, rfl⟩
  have hw := fun d (hd : d ∈ tables_1) => atoms_spec (ws := Jvm.Cond.code x code maxLocals ret :: tables_1) hat d (List.mem_cons_of_mem _ hd)
  have hfit : Fit s := fun {y c} hc i hi => by
    obtain ⟨ha, rfl⟩ := Array.getElem?_eq_some_iff.mp hc
    have q := List.all_eq_true.mp ((Array.all_eq_true_iff_forall_mem.mp hF) _ (Array.getElem_mem ha)) i (List.mem_range.mpr hi)
    simpa [Array.getElem?_eq_getElem hi] using q
  obtain ⟨i0, ei0⟩ := is_v h0
  obtain rfl : w0 = (.int i0) := Option.some.inj ei0
  obtain ⟨i1, ei1⟩ := is_v h1
  obtain rfl : w1 = (.int i1) := Option.some.inj ei1
  obtain ⟨i2, ei2⟩ := is_v h2
  obtain rfl : w2 = (.int i2) := Option.some.inj ei2
  obtain ⟨i3, ei3⟩ := is_v h3
  obtain rfl : w3 = (.int i3) := Option.some.inj ei3
  obtain ⟨i4, ei4⟩ := is_v h4
  obtain rfl : w4 = (.int i4) := Option.some.inj ei4
  obtain ⟨n, o, h1, h2, h3, _, L, rfl, ⟨rfl, N⟩, hq⟩ := rm0 l s _ hw tables_1 i0 i1 i2 i3 i4 s.heap s.heap.size (Nat.le_refl _) p e ha hc hk s m _ below hf ((Spec.applies_iff_loose hf).mp happ).1 ⟨rfl, State.Warmed39.refl s, rfl⟩ trivial
  refine ⟨n, _, h1, h2, h3, hpost _ _ _ _ _ _ ⟨Cond.after_iff.mpr rfl, Cond.after_iff.mpr (eq_i res_at (Term.int_eval (1)) rfl), trivial⟩ ⟨hq.1, hq.2.1, (hq.2.2.sift fun y hy => Or.inr (N y hy)).mono (by decide) (by decide)⟩⟩
theorem main_1_1 : Claimed_1_1 := comes_1 fun _ _ _ _ _ _ h hF => ⟨h.1, hF⟩
theorem main_1_2 : Claimed_1_2 := comes_1 fun _ _ _ _ _ _ h hF => ⟨h.2.1, hF⟩
end Jvm.Pilot.@@N@@
namespace Jvm.Pilot.@@N@@
open Jvm Jvm.ClassFile Sem Op Lib Jvm.Free Jvm.Stand Jvm.Pilot.@@N@@.Jvm.D
/-! MADE BY PROGRAM (witnessworld.py) out of the Statement's table words and the real class files: 9 classes; the members and pool entries that the words name. The judged class is class 1, her method 2. -/
namespace start1
open Jvm.ClassFile
def u (s : String) : CpInfo := .utf8 (stringToUtf16 s)
/-- a pool by its gaps: so many unusable entries, then the entry; so many at the end -/
def gap : Nat → List CpInfo → List CpInfo
  | 0, r => r
  | n + 1, r => .unusable :: gap n r
def poolList (es : List (Nat × CpInfo)) (last : Nat) : List CpInfo := es.foldr (fun e r => gap e.1 (e.2 :: r)) (gap last [])
def pool (es : List (Nat × CpInfo)) (last : Nat) : Array CpInfo := ⟨poolList es last⟩
def fileOf (pool : Array CpInfo) (this : Nat) (attrs : Array Attribute := #[]) (ms : Array MethodInfo := #[]) (fl : Nat := 33) (sup : Nat := 0) (ifs : Array Nat := #[]) (fds : Array FieldInfo := #[]) : ClassFile where
  minorVersion := 0
  majorVersion := 65
  constantPool := pool
  accessFlags := fl
  thisClass := this
  superClass := sup
  interfaces := ifs
  fields := fds
  methods := ms
  attributes := attrs
def plain (name : String) (sup : Option ClassId) : Class where
  name := name
  kind := .ordinary
  loader := none
  accessFlags := 33
  super := sup
  interfaces := #[]
  cf := none
  fields := #[]
  methods := #[]
  instanceTypes := #[]
  staticTypes := #[]
  resolved := #[]
  callSites := []
  init := .initialized
  statics := none
  mirror := none

def pool0 : Array CpInfo := pool [(5, u "<init>"), (0, u "()V"), (1, .class_ 10), (1, u "java/lang/Object")] 113

def k0m0 : Method := { name := "<init>", desc := "()V", sig := { parameters := [], returnType := none }, accessFlags := 1, code := none }
/-- java/lang/Object -/
def k0 : Class := { plain "java/lang/Object" none with
  accessFlags := 33
  interfaces := #[]
  cf := some (fileOf pool0 8 #[] #[{ accessFlags := 1, nameIndex := 5, descriptorIndex := 6, attributes := #[] }] 33 0 #[] #[])
  fields := #[]
  methods := #[k0m0]
  instanceTypes := #[]
  staticTypes := #[]
  resolved := Array.replicate 124 none
  statics := none }

def pool1 : Array CpInfo := pool [(2, .class_ 4), (1, u "java/lang/Object"), (0, u "<init>"), (0, u "()V"), (0, .long 2), (1, .integer 2147483647), (0, .methodref 11 12), (0, .class_ 13), (0, .nameAndType 14 15), (0, u "com/example/gist_hash/gisthash/PercentCodingEscapedLengthPinLaw"), (0, u "extra"), (0, u "(III)J"), (0, .methodref 17 18), (0, .class_ 19), (0, .nameAndType 20 21), (0, u "com/example/gist_hash/gisthash/PercentCoding"), (0, u "escapedLength"), (0, u "([BI)J"), (3, u "law"), (0, u "(IIIII)Z")] 4

def k1m0 : Method := { name := "<init>", desc := "()V", sig := { parameters := [], returnType := none }, accessFlags := 2, code := none }
def k1c1 : Code := { maxStack := 2, maxLocals := 6, code := method_2_code, exceptionTable := #[], attributes := #[] }
def k1m1 : Method := { name := "extra", desc := "(III)J", sig := { parameters := [.int, .int, .int], returnType := some .long }, accessFlags := 10, code := some k1c1 }
def k1c2 : Code := { maxStack := 5, maxLocals := 11, code := code, exceptionTable := #[], attributes := #[] }
def k1m2 : Method := { name := "law", desc := "(IIIII)Z", sig := { parameters := [.int, .int, .int, .int, .int], returnType := some .boolean }, accessFlags := 9, code := some k1c2 }
/-- com/example/gist_hash/gisthash/PercentCodingEscapedLengthPinLaw -/
def k1 : Class := { plain "com/example/gist_hash/gisthash/PercentCodingEscapedLengthPinLaw" (some 0) with
  accessFlags := 49
  interfaces := #[]
  cf := some (fileOf pool1 11 #[] #[{ accessFlags := 2, nameIndex := 5, descriptorIndex := 6, attributes := #[] }, { accessFlags := 10, nameIndex := 14, descriptorIndex := 15, attributes := #[] }, { accessFlags := 9, nameIndex := 25, descriptorIndex := 26, attributes := #[] }] 49 2 #[] #[])
  fields := #[]
  methods := #[k1m0, k1m1, k1m2]
  instanceTypes := #[]
  staticTypes := #[]
  resolved := Array.replicate 31 none
  statics := none }

def pool2 : Array CpInfo := pool [(2, .class_ 4), (1, u "java/lang/Object"), (0, u "<init>"), (0, u "()V"), (7, .class_ 16), (1, u "com/example/gist_hash/gisthash/PercentCoding"), (8, .methodref 14 26), (0, .nameAndType 27 28), (0, u "isEscaped"), (0, u "(B)Z"), (0, .long 2), (3, u "UPPER_HEX"), (0, u "[B"), (20, u "escapedLength"), (0, u "([BI)J")] 5

def k2m0 : Method := { name := "<init>", desc := "()V", sig := { parameters := [], returnType := none }, accessFlags := 2, code := none }
def k2c1 : Code := { maxStack := 4, maxLocals := 5, code := prog_6_method_3_code, exceptionTable := #[], attributes := #[] }
def k2m1 : Method := { name := "escapedLength", desc := "([BI)J", sig := { parameters := [(.array .byte), .int], returnType := some .long }, accessFlags := 8, code := some k2c1 }
def k2c2 : Code := { maxStack := 2, maxLocals := 2, code := prog_6_method_5_code, exceptionTable := #[], attributes := #[] }
def k2m2 : Method := { name := "isEscaped", desc := "(B)Z", sig := { parameters := [.byte], returnType := some .boolean }, accessFlags := 10, code := some k2c2 }
/-- com/example/gist_hash/gisthash/PercentCoding -/
def k2 : Class := { plain "com/example/gist_hash/gisthash/PercentCoding" (some 0) with
  accessFlags := 48
  interfaces := #[]
  cf := some (fileOf pool2 14 #[] #[{ accessFlags := 2, nameIndex := 5, descriptorIndex := 6, attributes := #[] }, { accessFlags := 8, nameIndex := 55, descriptorIndex := 56, attributes := #[] }, { accessFlags := 10, nameIndex := 27, descriptorIndex := 28, attributes := #[] }] 48 2 #[] #[{ accessFlags := 26, nameIndex := 33, descriptorIndex := 34, attributes := #[] }])
  fields := #[{ name := "UPPER_HEX", type := (.array .byte), accessFlags := 26, slot := 0, constantValue := 0 }]
  methods := #[k2m0, k2m1, k2m2]
  instanceTypes := #[]
  staticTypes := #[(.array .byte)]
  resolved := Array.replicate 62 none
  statics := none }

def pool3 : Array CpInfo := pool [(1, u "java/lang/Cloneable"), (0, .class_ 1), (0, u "java/lang/Object"), (0, .class_ 3)] 3

/-- java/lang/Cloneable -/
def k3 : Class := { plain "java/lang/Cloneable" (some 0) with
  accessFlags := 1537
  interfaces := #[]
  cf := some (fileOf pool3 2 #[] #[] 1537 4 #[] #[])
  fields := #[]
  methods := #[]
  instanceTypes := #[]
  staticTypes := #[]
  resolved := Array.replicate 8 none
  statics := none }

def pool4 : Array CpInfo := pool [(1, u "java/io/Serializable"), (0, .class_ 1), (0, u "java/lang/Object"), (0, .class_ 3)] 3

/-- java/io/Serializable -/
def k4 : Class := { plain "java/io/Serializable" (some 0) with
  accessFlags := 1537
  interfaces := #[]
  cf := some (fileOf pool4 2 #[] #[] 1537 4 #[] #[])
  fields := #[]
  methods := #[]
  instanceTypes := #[]
  staticTypes := #[]
  resolved := Array.replicate 8 none
  statics := none }

/-- the primitive byte -/
def k5 : Class := { plain "byte" none with kind := .primitive 'B', accessFlags := 0x411 }
/-- [B -/
def k6 : Class := { plain "[B" (some 0) with kind := .array 5 .byte, interfaces := #[3, 4], accessFlags := 1041 }

/-- the primitive int -/
def k7 : Class := { plain "int" none with kind := .primitive 'I', accessFlags := 0x411 }
/-- [I -/
def k8 : Class := { plain "[I" (some 0) with kind := .array 7 .int, interfaces := #[3, 4], accessFlags := 1041 }

def heap : Heap := #[]
def classes : Array Class := #[k0, k1, k2, k3, k4, k5, k6, k7, k8]
def interned : List (Array UInt16 × Addr) := []
def slotsUsed : Nat := 0
def theMethod : MethodId := ⟨1, 2⟩
def args0 : Array Value := #[.int 65, .int 3, .int 3, .int 9, .int 4]
def aboutOver (below : List Frame) : State where
  vm := { classes := classes, interned := interned.toArray }
  heap := heap
  slotsUsed := slotsUsed
  threads := #[{ frames := .invoking theMethod args0 :: below }]
def below0 : List Frame := [.native { method := ⟨0, 0⟩, args := #[] }]
def about1 : State := aboutOver below0
def p0 : Program := .bare "" "" ""
def e0 : Env := launch0.env 0 0 0
theorem w_frames : about1.frames = Frame.invoking theMethod args0 :: below0 := rfl
set_option maxRecDepth 65536 in
theorem w_args : argsFit about1.vm theMethod args0 = true := by decide +kernel
set_option maxRecDepth 65536 in
theorem w_heap : heapFits about1 = true := by decide +kernel
set_option maxRecDepth 65536 in
theorem w_runnable : about1.curStatus? = some .runnable := by decide +kernel
set_option maxRecDepth 65536 in
theorem w_alone : about1.alone = true := by decide +kernel
set_option maxRecDepth 65536 in
theorem w_named : about1.methodNamed? x = some theMethod := by decide +kernel
set_option maxRecDepth 65536 in
theorem w_hears : about1.hears theMethod below0 = true := by decide +kernel
set_option maxRecDepth 65536 in
theorem w_ripe : about1.ripe theMethod args0 below0 = true := by decide +kernel
theorem w_running : about1.status = .running := rfl
set_option maxRecDepth 65536 in
theorem w_room : about1.hasRoom e0.platform room_1 = true :=
  launch0.hasRoom_least _ room_1 (by decide +kernel) (by decide +kernel) (by decide +kernel) (by decide +kernel) (by decide +kernel) (by decide +kernel)
theorem allAtoms_all (ts : List Jvm.Cond) (a : Array Jvm.Value) (st : Jvm.State) : (allAtoms ts).before a st = ts.all (fun c => c.before a st) := by
  induction ts with
  | nil => rfl
  | cons c t ih =>
    show (Jvm.Cond.and c (allAtoms t)).before a st = _
    rw [Jvm.Cond.before_and, ih, List.all_cons]
def words1 : List Jvm.Cond := Jvm.Cond.code x code maxLocals ret :: tables_1
/-- a 'code' word, met by the world's own term for the bytes: nothing is compared byte by byte -/
theorem code_word {y : MethodName} {bytes : ByteArray} {mx : Nat} {rt : Option FieldType} {a : Array Value} {s : State} {m : MethodId} {meth : Method} {c : Code} (h1 : s.methodNamed? y = some m) (h2 : s.vm.method? m = some meth) (h3 : meth.code = some c) (h4 : c.code = bytes)
    (h5 : (c.maxLocals == mx && c.exceptionTable.isEmpty && decide (c.maxStack ≤ mostOperands) && decide (meth.sig.returnType = rt) && !meth.locks && decide (parseMethodDescriptor y.desc = some meth.sig)) = true) : (Jvm.Cond.code y bytes mx rt).before a s = true := by
  simp only [Bool.and_eq_true, beq_iff_eq, Bool.not_eq_true', decide_eq_true_eq] at h5
  obtain ⟨⟨⟨⟨⟨g1, g2⟩, g3⟩, g4⟩, g5⟩, g6⟩ := h5
  simp [Cond.before, Cond.holds, Cond.value, h1, h2, h3, h4, g1, g2, g3, g4, g5, g6]
def isCode : Jvm.Cond → Bool
  | .code _ _ _ _ => true
  | _ => false
theorem all_split {L : List Jvm.Cond} {P : Jvm.Cond → Bool} (h1 : L.all (fun c => isCode c || P c) = true) (h2 : ∀ c ∈ L.filter isCode, P c = true) : L.all P = true := by
  refine List.all_eq_true.mpr fun c hc => ?_
  have h := List.all_eq_true.mp h1 c hc
  rcases Bool.eq_false_or_eq_true (isCode c) with hi | hi
  · exact h2 c (List.mem_filter.mpr ⟨hc, hi⟩)
  · simpa [hi] using h
set_option maxRecDepth 65536 in
theorem w_c0 : (Jvm.Cond.code x code maxLocals ret).before args0 about1 = true := code_word (m := ⟨1, 2⟩) (meth := k1m2) (c := k1c2) (by decide +kernel) rfl rfl rfl (by decide +kernel)
set_option maxRecDepth 65536 in
theorem w_c1 : (Jvm.Cond.code ({ cls := "com/example/gist_hash/gisthash/PercentCodingEscapedLengthPinLaw", name := "extra", desc := "(III)J" } : Jvm.MethodName) method_2_code (6 : Nat) (Option.some Jvm.ClassFile.FieldType.long)).before args0 about1 = true := code_word (m := ⟨1, 1⟩) (meth := k1m1) (c := k1c1) (by decide +kernel) rfl rfl rfl (by decide +kernel)
set_option maxRecDepth 65536 in
theorem w_c2 : (Jvm.Cond.code ({ cls := "com/example/gist_hash/gisthash/PercentCoding", name := "escapedLength", desc := "([BI)J" } : Jvm.MethodName) prog_6_method_3_code (5 : Nat) (Option.some Jvm.ClassFile.FieldType.long)).before args0 about1 = true := code_word (m := ⟨2, 1⟩) (meth := k2m1) (c := k2c1) (by decide +kernel) rfl rfl rfl (by decide +kernel)
set_option maxRecDepth 65536 in
theorem w_c3 : (Jvm.Cond.code ({ cls := "com/example/gist_hash/gisthash/PercentCoding", name := "isEscaped", desc := "(B)Z" } : Jvm.MethodName) prog_6_method_5_code (2 : Nat) (Option.some Jvm.ClassFile.FieldType.boolean)).before args0 about1 = true := code_word (m := ⟨2, 2⟩) (meth := k2m2) (c := k2c2) (by decide +kernel) rfl rfl rfl (by decide +kernel)
def codes1 : List Jvm.Cond := [Jvm.Cond.code x code maxLocals ret, Jvm.Cond.code ({ cls := "com/example/gist_hash/gisthash/PercentCodingEscapedLengthPinLaw", name := "extra", desc := "(III)J" } : Jvm.MethodName) method_2_code (6 : Nat) (Option.some Jvm.ClassFile.FieldType.long), Jvm.Cond.code ({ cls := "com/example/gist_hash/gisthash/PercentCoding", name := "escapedLength", desc := "([BI)J" } : Jvm.MethodName) prog_6_method_3_code (5 : Nat) (Option.some Jvm.ClassFile.FieldType.long), Jvm.Cond.code ({ cls := "com/example/gist_hash/gisthash/PercentCoding", name := "isEscaped", desc := "(B)Z" } : Jvm.MethodName) prog_6_method_5_code (2 : Nat) (Option.some Jvm.ClassFile.FieldType.boolean)]
set_option maxRecDepth 65536 in
theorem codes_eq : words1.filter isCode = codes1 := rfl
theorem w_codes : ∀ c ∈ words1.filter isCode, c.before args0 about1 = true := by
  rw [codes_eq]
  intro c hc
  simp only [codes1, List.mem_cons, List.not_mem_nil, or_false] at hc
  rcases hc with rfl | rfl | rfl | rfl
  · exact w_c0
  · exact w_c1
  · exact w_c2
  · exact w_c3
set_option maxRecDepth 65536 in
theorem w_t1 : words1.all (fun c => isCode c || c.before args0 about1) = true := by decide +kernel
theorem w_tables : (allAtoms (Jvm.Cond.code x code maxLocals ret :: tables_1)).before args0 about1 = true := by
  rw [allAtoms_all]
  show words1.all (fun c => c.before args0 about1) = true
  refine all_split ?_ w_codes
  rw [w_t1]
set_option maxRecDepth 65536 in
theorem w_case : (Jvm.Cond.and given_1 narrow_1).before args0 about1 = true := by decide +kernel
theorem w_applies : (headSpec (Jvm.Cond.code x code maxLocals ret :: tables_1) room_1).applies x e0.platform about1 = true :=
  (Spec.applies_iff w_frames).mpr ⟨w_running, w_runnable, w_alone, w_named, w_hears, w_ripe, w_room, w_tables⟩
theorem atStart : AtStart classFile x code maxLocals ret World_1 tables_1 room_1 Calls_1 rest_1 Pre_1 launch0 p0 e0 about1 theMethod args0 below0 :=
  ⟨lists_1, trivial, launch0.admits_env _ _ _, launch0.least_env, fairChoices_fair.cas, fairChoices_fair.clock, w_frames, w_args, w_heap, w_applies, trivial, trivial, w_case⟩
end start1
theorem witness_1 : WitnessClaimed_1 := ⟨start1.p0, start1.e0, start1.about1, start1.theMethod, start1.args0, start1.below0, start1.atStart⟩
end Jvm.Pilot.@@N@@
