import JvmDerived
import JvmDerived.Pilot.@@N@@Statement
import JvmDerived.Pilot.@@N@@Code
set_option linter.unusedVariables false
set_option linter.unusedSimpArgs false
namespace Jvm.RoadKit
open Sem ClassFile Op Lib Jvm.Stand Jvm.Free Jvm.LawKit
section Own
variable {p : Program} {l : Launch} {e : Env} {R : Room} {s : State} {m : MethodId} {args : Array Value} {below : List Frame} {meth : Method} {c : Code} {T : State} {locs : List Loc} {cells slots : Nat} {Z : State} {a0 : Array Value} {h : Heap}
/-- from T, with g on top, this invocation comes to its return and Q holds of what it leaves -/
def own_Ends (p : Program) (e : Env) (below : List Frame) (s : State) (Q : Option Value → Heap → List Loc → Prop) (k n : Nat) (T : State) (g : JFrame) : Prop :=
  ∃ s₂ o, Steps p.tables e below (T.setTop g) s₂ ∧ s₂.status = .running ∧ Ended s₂ below o ∧ ∃ v L, o = .returned v ∧ Q v s₂.heap L ∧ FrameEnd s o s₂ L k n
theorem own_step {Q : Option Value → Heap → List Loc → Prop} {k n : Nat} {T' : State} {g g' : JFrame} (h : ∀ t, Steps p.tables e below (T'.setTop g') t → Steps p.tables e below (T.setTop g) t) (H : own_Ends p e below s Q k n T' g') : own_Ends p e below s Q k n T g := by
  obtain ⟨s₂, o, h1, r⟩ := H
  exact ⟨s₂, o, h _ h1, r⟩
theorem own_ret (X : Stand p l e R s m args below meth c T locs cells slots) {v : Option Value} (hv : meth.sig.returnType = none → v = none) (hlk : meth.locks = false) {g : JFrame} {Q : Option Value → Heap → List Loc → Prop} {k n : Nat}
    (st : ∀ fs, (∀ (f : JFrame) (acts : List Action), f.method = m → f.locked = none → f.entered = [] → (doReturn e (T.setTop f) acts v).1 = T.setFrames fs) → Steps p.tables e below (T.setTop g) (T.setFrames fs))
    (hQ : Q v T.heap locs) (hk : cells ≤ k) (hn : slots ≤ n) : own_Ends p e below s Q k n T g := by
  obtain ⟨fs, hr, hrun, hended, hW, hsame⟩ := X.leave (v := v) hv hlk
  exact ⟨_, _, st fs hr, hrun, hended, v, locs, rfl, hQ, ⟨_, rfl⟩, hW, hsame.mono hk hn⟩
theorem own_retI (X : Stand p l e R s m args below meth c T locs cells slots) (hx : p.tables.exec = Jvm.exec) (hret : meth.sig.returnType = some .int) (hlk : meth.locks = false) {pc : Nat} {Ls : Array Slot} {z : Int32} {rest : List Value} (hd : decode c.code pc = .ok (.ireturn, 1)) {Q : Option Value → Heap → List Loc → Prop} {k n : Nat}
    (hQ : Q (some (.int z)) T.heap locs) (hk : cells ≤ k) (hn : slots ≤ n) : own_Ends p e below s Q k n T (mkF m pc Ls (.int z :: rest)) :=
  own_ret X (fun q => by rw [hret] at q; cases q) hlk (fun fs hr => retOut X hx hret rfl (Or.inl ⟨rfl, Or.inl rfl, z, rfl⟩) hd hr) hQ hk hn
theorem own_retN (X : Stand p l e R s m args below meth c T locs cells slots) (hx : p.tables.exec = Jvm.exec) {t : FieldType} (hret : meth.sig.returnType = some t) (ht : t = .boolean ∨ t = .byte ∨ t = .char ∨ t = .short) (hlk : meth.locks = false) {pc : Nat} {Ls : Array Slot} {z v : Int32} {rest : List Value} (hd : decode c.code pc = .ok (.ireturn, 1)) {Q : Option Value → Heap → List Loc → Prop} {k n : Nat}
    (hv : nar t z = v) (hQ : Q (some (.int v)) T.heap locs) (hk : cells ≤ k) (hn : slots ≤ n) : own_Ends p e below s Q k n T (mkF m pc Ls (.int z :: rest)) :=
  own_ret X (v := some (.int v)) (fun q => by rw [hret] at q; cases q) hlk (fun fs hr => retN X hx hret ht hd (by rw [hv]; exact hr)) hQ hk hn
theorem own_retL (X : Stand p l e R s m args below meth c T locs cells slots) (hx : p.tables.exec = Jvm.exec) (hret : meth.sig.returnType = some .long) (hlk : meth.locks = false) {pc : Nat} {Ls : Array Slot} {z : Int64} {rest : List Value} (hd : decode c.code pc = .ok (.lreturn, 1)) {Q : Option Value → Heap → List Loc → Prop} {k n : Nat}
    (hQ : Q (some (.long z)) T.heap locs) (hk : cells ≤ k) (hn : slots ≤ n) : own_Ends p e below s Q k n T (mkF m pc Ls (.long z :: rest)) :=
  own_ret X (fun q => by rw [hret] at q; cases q) hlk (fun fs hr => retOut X hx hret rfl (Or.inr (Or.inl ⟨rfl, rfl, z, rfl⟩)) hd hr) hQ hk hn
theorem own_retA (X : Stand p l e R s m args below meth c T locs cells slots) (hx : p.tables.exec = Jvm.exec) {t : FieldType} (hret : meth.sig.returnType = some t) (ht : t.isReference = true) (hlk : meth.locks = false) {pc : Nat} {Ls : Array Slot} {z : Value} {rest : List Value} (hz : z.isRef = true) (hn0 : narrow t z = z) (hd : decode c.code pc = .ok (.areturn, 1)) {Q : Option Value → Heap → List Loc → Prop} {k n : Nat}
    (hQ : Q (some z) T.heap locs) (hk : cells ≤ k) (hn : slots ≤ n) : own_Ends p e below s Q k n T (mkF m pc Ls (z :: rest)) :=
  own_ret X (fun q => by rw [hret] at q; cases q) hlk (fun fs hr => retOut X hx hret hn0 (Or.inr (Or.inr (Or.inr (Or.inr ⟨rfl, ht, hz⟩)))) hd hr) hQ hk hn
theorem own_retV (X : Stand p l e R s m args below meth c T locs cells slots) (hx : p.tables.exec = Jvm.exec) (hret : meth.sig.returnType = none) (hlk : meth.locks = false) {pc : Nat} {Ls : Array Slot} (hd : decode c.code pc = .ok (.return_, 1)) {Q : Option Value → Heap → List Loc → Prop} {k n : Nat}
    (hQ : Q none T.heap locs) (hk : cells ≤ k) (hn : slots ≤ n) : own_Ends p e below s Q k n T (mkF m pc Ls []) :=
  own_ret X (fun _ => rfl) hlk (fun fs hr => X.returnOut hx hret hd hr) hQ hk hn
/-- a contract: called with as' over the heap h0, the method comes back and Q holds -/
def own_Met (l : Launch) (y : MethodName) (bytes : ByteArray) (maxL : Nat) (ret : Option FieldType) (ws : List Jvm.Cond) (rm : Room) (as' : Array Value) (Z : State) (h0 : Heap) (Q : Option Value → Heap → List Loc → Prop) : Prop :=
  MetFree l y (head1 (Jvm.Cond.code y bytes maxL ret :: ws) rm) (fun a U => a = as' ∧ Z.Warmed39 U.vm ∧ U.heap = h0) (fun _ _ _ _ _ => True) (fun _ U o U' => ∃ v L, o = .returned v ∧ Q v U'.heap L ∧ FrameEnd U o U' L rm.cells rm.slots)
theorem own_body {y : MethodName} {bytes : ByteArray} {maxL : Nat} {ret : Option FieldType} {ws : List Jvm.Cond} {rm : Room} {as' : Array Value} {h0 : Heap} {Q : Option Value → Heap → List Loc → Prop} (hy : plainFor y = true) {g0 : MethodId → JFrame} (ef : ∀ m, entryFrame m as' maxL = g0 m)
    (body : ∀ (p : Program) (e : Env) (s : State) (m : MethodId) (below : List Frame) (meth : Method) (c : Code) (T : State), Stand p l e rm s m as' below meth c T [] 0 0 → p.tables.exec = Jvm.exec → c.code = bytes → c.maxLocals = maxL → meth.sig.returnType = ret → meth.locks = false → meth.name = y.name → s.vm.findClass y.cls = some m.cls → Z.Warmed39 s.vm → T.heap = h0 → own_Ends p e below s Q rm.cells rm.slots T (g0 m)) :
    own_Met l y bytes maxL ret ws rm as' Z h0 Q := by
  refine MetFree.of_bodySF hy hisR ?_
  intro p e s m args below meth c s₁ Bd hml hP hK
  obtain ⟨ha, hZ, hh⟩ := hP
  subst ha
  have q := body p e s m below meth c s₁ (Stand.of_body Bd) Bd.exec Bd.bytes hml Bd.returns Bd.notSynchronized (name_of_methodNamed Bd.named Bd.method).1 (findClass_of_methodNamed Bd.named) hZ (by rw [← hh, Bd.state]; rfl)
  rw [← ef m] at q
  exact q
theorem own_callS (X : Stand p l e R s m args below meth c T locs cells slots) (hx : p.tables.exec = Jvm.exec) (hZ : Z.Warmed39 s.vm) {own : String} {index : Nat} {y : MethodName} {bytes : ByteArray} {maxL : Nat} {ret : Option FieldType}
    (hown : s.vm.findClass own = some m.cls) (wl : (Jvm.Cond.methodLink own index y).before a0 Z = true) (wst : (Jvm.Cond.static y).before a0 Z = true) (wi : (Jvm.Cond.initialized y.cls).before a0 Z = true) (wc : (Jvm.Cond.code y bytes maxL ret).before a0 Z = true)
    (hy : y.cls ≠ "java/lang/invoke/MethodHandle" ∧ y.cls ≠ "java/lang/invoke/VarHandle") {rm : Room} {as' : Array Value} {Qc : Option Value → Heap → List Loc → Prop} (hM : own_Met l y bytes maxL ret [] rm as' Z h Qc) (eT : T.heap = h) (W : Nat)
    (hf : rm.frames + 1 ≤ R.frames) (hlo : W + (maxL + 11) + rm.locals ≤ R.locals) (hcl : cells + rm.cells ≤ R.cells) (hsl : slots + rm.slots ≤ R.slots)
    {g : JFrame} (hg : g.method = m) (hsize : g.locals.size = c.maxLocals) (argsL rest : List Value) {ps : List FieldType} {r : Option FieldType} (hpd : parseMethodDescriptor y.desc = some ⟨ps, r⟩) (hlen : argsL.length = ps.length) (has : argsL.toArray = as')
    (hstack : g.stack = argsL.reverse ++ rest) (hW : 2 * g.monitorRoom + (rest.map fun v => v.category).sum ≤ W) (hdg : decode c.code g.pc = .ok (.invokestatic index, 3)) {Q : Option Value → Heap → List Loc → Prop} {k n : Nat}
    (cont : ∀ v T' L, Stand p l e R s m args below meth c T' (locs ++ L) (cells + rm.cells) (slots + rm.slots) → Qc v T'.heap L → own_Ends p e below s Q k n T' { g with pc := g.pc + 3, stack := v.toList ++ rest }) : own_Ends p e below s Q k n T g := by
  obtain ⟨v, _, ⟨T2, L2, k2, n2⟩, -, X2, ⟨Lc, hQ, l2, y2, z2⟩, st⟩ := Jvm.LawKit.callS X hx (y := y) hown (mvT hZ wl) (mvT hZ wst) (mvT hZ wi) (mvT hZ wc) hy (backOf (W := W) hM hZ wc wi hf hlo) hg hsize (argsL := argsL) (rest := rest) (lenOf hpd hlen) hstack hW hdg (fun _ _ => ⟨has, eT, hcl, hsl⟩)
  dsimp only [Pt.U, Pt.locs, Pt.cells, Pt.slots] at X2 l2 y2 z2 st hQ
  subst l2 y2 z2
  exact own_step st (cont v T2 Lc X2 hQ)
theorem own_callV (X : Stand p l e R s m args below meth c T locs cells slots) (hx : p.tables.exec = Jvm.exec) (hZ : Z.Warmed39 s.vm) {own C : String} {index : Nat} {y z : MethodName} {bytes : ByteArray} {maxL : Nat} {ret : Option FieldType}
    (hown : s.vm.findClass own = some m.cls) (wl : (Jvm.Cond.methodLink own index y).before a0 Z = true) (wd : (Jvm.Cond.declares y).before a0 Z = true) (wf : (Jvm.Cond.selects y.cls y y).before a0 Z = true) (ws : (Jvm.Cond.selects C y z).before a0 Z = true) (wm : (Jvm.Cond.instanceMethod z).before a0 Z = true) (wi : (Jvm.Cond.initialized z.cls).before a0 Z = true) (wc : (Jvm.Cond.code z bytes maxL ret).before a0 Z = true)
    (hy : y.cls ≠ "java/lang/invoke/MethodHandle" ∧ y.cls ≠ "java/lang/invoke/VarHandle") {rm : Room} {as' : Array Value} {Qc : Option Value → Heap → List Loc → Prop} (hM : own_Met l z bytes maxL ret [] rm as' Z h Qc) (eT : T.heap = h) {b : Addr} (hE : Exa Z h b C) (W : Nat)
    (hf : rm.frames + 1 ≤ R.frames) (hlo : W + (maxL + 11) + rm.locals ≤ R.locals) (hcl : cells + rm.cells ≤ R.cells) (hsl : slots + rm.slots ≤ R.slots)
    {g : JFrame} (hg : g.method = m) (hsize : g.locals.size = c.maxLocals) (argsL rest : List Value) {ps : List FieldType} {r : Option FieldType} (hpd : parseMethodDescriptor y.desc = some ⟨ps, r⟩) (hlen : argsL.length = ps.length) (has : (Value.ref b :: argsL).toArray = as')
    (hstack : g.stack = argsL.reverse ++ .ref b :: rest) (hW : 2 * g.monitorRoom + (rest.map fun v => v.category).sum ≤ W) (hdg : decode c.code g.pc = .ok (.invokevirtual index, 3)) {Q : Option Value → Heap → List Loc → Prop} {k n : Nat}
    (cont : ∀ v T' L, Stand p l e R s m args below meth c T' (locs ++ L) (cells + rm.cells) (slots + rm.slots) → Qc v T'.heap L → own_Ends p e below s Q k n T' { g with pc := g.pc + 3, stack := v.toList ++ rest }) : own_Ends p e below s Q k n T g := by
  obtain ⟨cq, kq, q1, q2, q3⟩ := isOf hZ eT hE
  obtain ⟨v, _, ⟨T2, L2, k2, n2⟩, -, X2, ⟨Lc, hQ, l2, y2, z2⟩, st⟩ := X.virtualBack hx (y := y) (z := z) hown (mvT hZ wl) (mvT hZ wd) (notFace_of_selects (args := #[]) (mvT hZ wf)) (mvT hZ ws) (mvT hZ wm) hy (backOf (W := W) hM hZ wc wi hf hlo) q1 q3 hg hsize (Steps.refl _) (argsL := argsL) (rest := rest) (lenOf hpd hlen) hstack hW hdg (fun _ _ => ⟨has, eT, hcl, hsl⟩)
  dsimp only [Pt.U, Pt.locs, Pt.cells, Pt.slots] at X2 l2 y2 z2 st hQ
  subst l2 y2 z2
  exact own_step (fun _ k => st.trans k) (cont v T2 Lc X2 hQ)
theorem own_callC (X : Stand p l e R s m args below meth c T locs cells slots) (hx : p.tables.exec = Jvm.exec) (hZ : Z.Warmed39 s.vm) {own : String} {index : Nat} {y : MethodName} {bytes : ByteArray} {maxL : Nat} (hy1 : y.name = "<init>")
    (hown : s.vm.findClass own = some m.cls) (wl : (Jvm.Cond.methodLink own index y).before a0 Z = true) (wm : (Jvm.Cond.instanceMethod y).before a0 Z = true) (wi : (Jvm.Cond.initialized y.cls).before a0 Z = true) (wc : (Jvm.Cond.code y bytes maxL none).before a0 Z = true)
    (hy : y.cls ≠ "java/lang/invoke/MethodHandle" ∧ y.cls ≠ "java/lang/invoke/VarHandle") {rm : Room} {as' : Array Value} {Qc : Option Value → Heap → List Loc → Prop} (hM : own_Met l y bytes maxL none [] rm as' Z h Qc) (eT : T.heap = h) {b : Addr} (W : Nat)
    (hf : rm.frames + 1 ≤ R.frames) (hlo : W + (maxL + 11) + rm.locals ≤ R.locals) (hcl : cells + rm.cells ≤ R.cells) (hsl : slots + rm.slots ≤ R.slots)
    {g : JFrame} (hg : g.method = m) (hsize : g.locals.size = c.maxLocals) (argsL rest : List Value) {ps : List FieldType} {r : Option FieldType} (hpd : parseMethodDescriptor y.desc = some ⟨ps, r⟩) (hlen : argsL.length = ps.length) (has : (Value.ref b :: argsL).toArray = as')
    (hstack : g.stack = argsL.reverse ++ .ref b :: rest) (hW : 2 * g.monitorRoom + (rest.map fun v => v.category).sum ≤ W) (hdg : decode c.code g.pc = .ok (.invokespecial index, 3)) {Q : Option Value → Heap → List Loc → Prop} {k n : Nat}
    (cont : ∀ v T' L, Stand p l e R s m args below meth c T' (locs ++ L) (cells + rm.cells) (slots + rm.slots) → Qc v T'.heap L → own_Ends p e below s Q k n T' { g with pc := g.pc + 3, stack := v.toList ++ rest }) : own_Ends p e below s Q k n T g := by
  obtain ⟨v, _, ⟨T2, L2, k2, n2⟩, -, X2, ⟨Lc, hQ, l2, y2, z2⟩, st⟩ := X.specialBack hx (y := y) hy1 hown (mvT hZ wl) (mvT hZ wm) (mvT hZ wc) hy (backOf (W := W) hM hZ wc wi hf hlo) hg hsize (Steps.refl _) (a := b) (argsL := argsL) (rest := rest) (lenOf hpd hlen) hstack hW hdg (fun _ _ => ⟨has, eT, hcl, hsl⟩)
  dsimp only [Pt.U, Pt.locs, Pt.cells, Pt.slots] at X2 l2 y2 z2 st hQ
  subst l2 y2 z2
  exact own_step (fun _ k => st.trans k) (cont v T2 Lc X2 hQ)
/-! arrays by their lists -/
variable {a b : Addr} {kA : ClassId} {ty : FieldType} {z : Int32} {vs : List Value} {dv : Value}
theorem own_newA (X : Stand p l e R s m args below meth c T locs cells slots) (hx : p.tables.exec = Jvm.exec) (hZ : Z.Warmed39 s.vm) {aty : ArrayType} (w : (Jvm.Cond.arrayClass (newarray.typeOf aty)).before a0 Z = true) (eT : T.heap = h) {g : JFrame} (hg : g.method = m) (hd : decode c.code g.pc = .ok (.newarray aty, 2)) {n : Int32} {rest : List Value} (hs : g.stack = .int n :: rest)
    (hn : ¬ n < 0) {cap : Nat} (hcap : n.toNatClampNeg ≤ cap) (hb : cap * 8 ≤ 536870912) (hc : cells + 1 ≤ R.cells) (hl : slots + cap ≤ R.slots) :
    ∃ T' h' cA b, b = h.size ∧ Stand p l e R s m args below meth c T' locs (cells + 1) (slots + cap) ∧ T'.heap = h' ∧ Ext h h' ∧ Arv Z h' b cA (newarray.typeOf aty) n (List.replicate cap (defaultValue (newarray.typeOf aty))) (defaultValue (newarray.typeOf aty)) ∧
      ∀ target, Steps p.tables e below (T'.setTop { g with pc := g.pc + 2, stack := .ref b :: rest }) target → Steps p.tables e below (T.setTop g) target := by
  obtain ⟨T', h', cA, X', e', E, A, st⟩ := newP X hx hZ w eT hg hd hs hn hcap hb hc hl
  exact ⟨T', h', cA, _, rfl, X', e', E, (Arv.new A hn).pad (pad_rep [] _ cap), st⟩
theorem own_stB (X : Stand p l e R s m args below meth c T locs cells slots) (hx : p.tables.exec = Jvm.exec) (hZ : Z.Warmed39 s.vm) (eT : T.heap = h) (V : Arv Z h a kA .byte z vs dv) {j x : Int32} (hj : ¬ j < 0 ∧ j < z) (i : Nat) (hi : j.toNatClampNeg = i) (hl : i < vs.length) {g : JFrame} (hg : g.method = m) {rest : List Value} (hs : g.stack = .int x :: .int j :: .ref a :: rest) (hd : decode c.code g.pc = .ok (.bastore, 1)) :
    ∃ T' h' L, Stand p l e R s m args below meth c T' (locs ++ [⟨a, L⟩]) cells slots ∧ T'.heap = h' ∧ Wr h h' a L (.int x.toInt8.toInt32) ∧ Arv Z h' a kA .byte z (vs.set i (.int x.toInt8.toInt32)) dv ∧ ∀ target, Steps p.tables e below (T'.setTop { g with pc := g.pc + 1, stack := rest }) target → Steps p.tables e below (T.setTop g) target := by
  obtain ⟨cl, Ar, q, S, N, H, G⟩ := V
  obtain ⟨T', h', X', e', W, st⟩ := stB X hx hZ eT Ar (inb_of S hj) hg hs hd
  exact ⟨T', h', _, X', e', W, Arv.set Ar q S N H G (fits_nar_byte _) W i hi hl, st⟩
theorem own_stZ (X : Stand p l e R s m args below meth c T locs cells slots) (hx : p.tables.exec = Jvm.exec) (hZ : Z.Warmed39 s.vm) (eT : T.heap = h) (V : Arv Z h a kA .boolean z vs dv) {j x : Int32} (hj : ¬ j < 0 ∧ j < z) (i : Nat) (hi : j.toNatClampNeg = i) (hl : i < vs.length) {g : JFrame} (hg : g.method = m) {rest : List Value} (hs : g.stack = .int x :: .int j :: .ref a :: rest) (hd : decode c.code g.pc = .ok (.bastore, 1)) :
    ∃ T' h' L, Stand p l e R s m args below meth c T' (locs ++ [⟨a, L⟩]) cells slots ∧ T'.heap = h' ∧ Wr h h' a L (.int (nar .boolean x)) ∧ Arv Z h' a kA .boolean z (vs.set i (.int (nar .boolean x))) dv ∧ ∀ target, Steps p.tables e below (T'.setTop { g with pc := g.pc + 1, stack := rest }) target → Steps p.tables e below (T.setTop g) target := by
  obtain ⟨cl, Ar, q, S, N, H, G⟩ := V
  obtain ⟨T', h', X', e', W, st⟩ := stZ X hx hZ eT Ar (inb_of S hj) hg hs hd
  exact ⟨T', h', _, X', e', W, Arv.set Ar q S N H G (fits_nar_bool _) W i hi hl, st⟩
theorem own_stC (X : Stand p l e R s m args below meth c T locs cells slots) (hx : p.tables.exec = Jvm.exec) (hZ : Z.Warmed39 s.vm) (eT : T.heap = h) (V : Arv Z h a kA .char z vs dv) {j x : Int32} (hj : ¬ j < 0 ∧ j < z) (i : Nat) (hi : j.toNatClampNeg = i) (hl : i < vs.length) {g : JFrame} (hg : g.method = m) {rest : List Value} (hs : g.stack = .int x :: .int j :: .ref a :: rest) (hd : decode c.code g.pc = .ok (.castore, 1)) :
    ∃ T' h' L, Stand p l e R s m args below meth c T' (locs ++ [⟨a, L⟩]) cells slots ∧ T'.heap = h' ∧ Wr h h' a L (.int (nar .char x)) ∧ Arv Z h' a kA .char z (vs.set i (.int (nar .char x))) dv ∧ ∀ target, Steps p.tables e below (T'.setTop { g with pc := g.pc + 1, stack := rest }) target → Steps p.tables e below (T.setTop g) target := by
  obtain ⟨cl, Ar, q, S, N, H, G⟩ := V
  obtain ⟨T', h', X', e', W, st⟩ := stC X hx hZ eT Ar (inb_of S hj) hg hs hd
  exact ⟨T', h', _, X', e', W, Arv.set Ar q S N H G (fits_nar_char _) W i hi hl, st⟩
theorem own_stI (X : Stand p l e R s m args below meth c T locs cells slots) (hx : p.tables.exec = Jvm.exec) (hZ : Z.Warmed39 s.vm) (eT : T.heap = h) (V : Arv Z h a kA .int z vs dv) {j x : Int32} (hj : ¬ j < 0 ∧ j < z) (i : Nat) (hi : j.toNatClampNeg = i) (hl : i < vs.length) {g : JFrame} (hg : g.method = m) {rest : List Value} (hs : g.stack = .int x :: .int j :: .ref a :: rest) (hd : decode c.code g.pc = .ok (.iastore, 1)) :
    ∃ T' h' L, Stand p l e R s m args below meth c T' (locs ++ [⟨a, L⟩]) cells slots ∧ T'.heap = h' ∧ Wr h h' a L (.int x) ∧ Arv Z h' a kA .int z (vs.set i (.int x)) dv ∧ ∀ target, Steps p.tables e below (T'.setTop { g with pc := g.pc + 1, stack := rest }) target → Steps p.tables e below (T.setTop g) target := by
  obtain ⟨cl, Ar, q, S, N, H, G⟩ := V
  obtain ⟨T', h', X', e', W, st⟩ := stI X hx hZ eT Ar (inb_of S hj) hg hs hd
  exact ⟨T', h', _, X', e', W, Arv.set Ar q S N H G rfl W i hi hl, st⟩
theorem own_stJ (X : Stand p l e R s m args below meth c T locs cells slots) (hx : p.tables.exec = Jvm.exec) (hZ : Z.Warmed39 s.vm) (eT : T.heap = h) (V : Arv Z h a kA .long z vs dv) {j : Int32} {x : Int64} (hj : ¬ j < 0 ∧ j < z) (i : Nat) (hi : j.toNatClampNeg = i) (hl : i < vs.length) {g : JFrame} (hg : g.method = m) {rest : List Value} (hs : g.stack = .long x :: .int j :: .ref a :: rest) (hd : decode c.code g.pc = .ok (.lastore, 1)) :
    ∃ T' h' L, Stand p l e R s m args below meth c T' (locs ++ [⟨a, L⟩]) cells slots ∧ T'.heap = h' ∧ Wr h h' a L (.long x) ∧ Arv Z h' a kA .long z (vs.set i (.long x)) dv ∧ ∀ target, Steps p.tables e below (T'.setTop { g with pc := g.pc + 1, stack := rest }) target → Steps p.tables e below (T.setTop g) target := by
  obtain ⟨cl, Ar, q, S, N, H, G⟩ := V
  obtain ⟨T', h', X', e', W, st⟩ := stJ X hx hZ eT Ar (inb_of S hj) hg hs hd
  exact ⟨T', h', _, X', e', W, Arv.set Ar q S N H G rfl W i hi hl, st⟩
theorem own_ldB (X : Stand p l e R s m args below meth c T locs cells slots) (hx : p.tables.exec = Jvm.exec) (hZ : Z.Warmed39 s.vm) (eT : T.heap = h) (V : Arv Z h a kA .byte z vs dv) {j : Int32} {v : Value} (hj : ¬ j < 0 ∧ j < z) (hv : vs.getD j.toNatClampNeg dv = v) {g : JFrame} (hg : g.method = m) {rest : List Value} (hs : g.stack = .int j :: .ref a :: rest) (hd : decode c.code g.pc = .ok (.baload, 1)) :
    ∀ t, Steps p.tables e below (T.setTop { g with pc := g.pc + 1, stack := v :: rest }) t → Steps p.tables e below (T.setTop g) t := by
  obtain ⟨cl, Ar, q, S, N, H, G⟩ := V
  exact fun t k => X.baloadBytes hx (by rw [eT]; exact Ar.1) (State.isArrayOf_alike hZ.alike Ar.2.1) Ar.2.2 (inb_of S hj) (Has.at H (inb_of S hj) hv) hg hs hd _ k
theorem own_ldZ (X : Stand p l e R s m args below meth c T locs cells slots) (hx : p.tables.exec = Jvm.exec) (hZ : Z.Warmed39 s.vm) (eT : T.heap = h) (V : Arv Z h a kA .boolean z vs dv) {j : Int32} {v : Value} (hj : ¬ j < 0 ∧ j < z) (hv : vs.getD j.toNatClampNeg dv = v) {g : JFrame} (hg : g.method = m) {rest : List Value} (hs : g.stack = .int j :: .ref a :: rest) (hd : decode c.code g.pc = .ok (.baload, 1)) :
    ∀ t, Steps p.tables e below (T.setTop { g with pc := g.pc + 1, stack := v :: rest }) t → Steps p.tables e below (T.setTop g) t := by
  obtain ⟨cl, Ar, q, S, N, H, G⟩ := V
  exact fun t k => X.baloadBooleans hx (by rw [eT]; exact Ar.1) (State.isArrayOf_alike hZ.alike Ar.2.1) Ar.2.2 (inb_of S hj) (Has.at H (inb_of S hj) hv) hg hs hd _ k
theorem own_ldC (X : Stand p l e R s m args below meth c T locs cells slots) (hx : p.tables.exec = Jvm.exec) (hZ : Z.Warmed39 s.vm) (eT : T.heap = h) (V : Arv Z h a kA .char z vs dv) {j : Int32} {v : Value} (hj : ¬ j < 0 ∧ j < z) (hv : vs.getD j.toNatClampNeg dv = v) {g : JFrame} (hg : g.method = m) {rest : List Value} (hs : g.stack = .int j :: .ref a :: rest) (hd : decode c.code g.pc = .ok (.caload, 1)) :
    ∀ t, Steps p.tables e below (T.setTop { g with pc := g.pc + 1, stack := v :: rest }) t → Steps p.tables e below (T.setTop g) t := by
  obtain ⟨cl, Ar, q, S, N, H, G⟩ := V
  exact fun t k => X.caload hx (by rw [eT]; exact Ar.1) (State.isArrayOf_alike hZ.alike Ar.2.1) Ar.2.2 (inb_of S hj) (Has.at H (inb_of S hj) hv) hg hs hd _ k
theorem own_ldI (X : Stand p l e R s m args below meth c T locs cells slots) (hx : p.tables.exec = Jvm.exec) (hZ : Z.Warmed39 s.vm) (eT : T.heap = h) (V : Arv Z h a kA .int z vs dv) {j : Int32} {v : Value} (hj : ¬ j < 0 ∧ j < z) (hv : vs.getD j.toNatClampNeg dv = v) {g : JFrame} (hg : g.method = m) {rest : List Value} (hs : g.stack = .int j :: .ref a :: rest) (hd : decode c.code g.pc = .ok (.iaload, 1)) :
    ∀ t, Steps p.tables e below (T.setTop { g with pc := g.pc + 1, stack := v :: rest }) t → Steps p.tables e below (T.setTop g) t := by
  obtain ⟨cl, Ar, q, S, N, H, G⟩ := V
  exact fun t k => X.iaload hx (by rw [eT]; exact Ar.1) (State.isArrayOf_alike hZ.alike Ar.2.1) Ar.2.2 (inb_of S hj) (Has.at H (inb_of S hj) hv) hg hs hd _ k
theorem own_ldJ (X : Stand p l e R s m args below meth c T locs cells slots) (hx : p.tables.exec = Jvm.exec) (hZ : Z.Warmed39 s.vm) (eT : T.heap = h) (V : Arv Z h a kA .long z vs dv) {j : Int32} {v : Value} (hj : ¬ j < 0 ∧ j < z) (hv : vs.getD j.toNatClampNeg dv = v) {g : JFrame} (hg : g.method = m) {rest : List Value} (hs : g.stack = .int j :: .ref a :: rest) (hd : decode c.code g.pc = .ok (.laload, 1)) :
    ∀ t, Steps p.tables e below (T.setTop { g with pc := g.pc + 1, stack := v :: rest }) t → Steps p.tables e below (T.setTop g) t := by
  obtain ⟨cl, Ar, q, S, N, H, G⟩ := V
  exact fun t k => X.laload hx (by rw [eT]; exact Ar.1) (State.isArrayOf_alike hZ.alike Ar.2.1) Ar.2.2 (inb_of S hj) (Has.at H (inb_of S hj) hv) hg hs hd _ k
theorem own_ldA (X : Stand p l e R s m args below meth c T locs cells slots) (hx : p.tables.exec = Jvm.exec) (hZ : Z.Warmed39 s.vm) (eT : T.heap = h) (V : Arv Z h a kA ty z vs dv) (hty : ty.isReference = true) {j : Int32} {v : Value} (hj : ¬ j < 0 ∧ j < z) (hv : vs.getD j.toNatClampNeg dv = v) {g : JFrame} (hg : g.method = m) {rest : List Value} (hs : g.stack = .int j :: .ref a :: rest) (hd : decode c.code g.pc = .ok (.aaload, 1)) :
    ∀ t, Steps p.tables e below (T.setTop { g with pc := g.pc + 1, stack := v :: rest }) t → Steps p.tables e below (T.setTop g) t := by
  obtain ⟨cl, Ar, q, S, N, H, G⟩ := V
  exact fun t k => X.aaload hx (by rw [eT]; exact Ar.1) (State.isArrayOf_alike hZ.alike Ar.2.1) hty Ar.2.2 (inb_of S hj) (Has.at H (inb_of S hj) hv) hg hs hd _ k
theorem own_len (X : Stand p l e R s m args below meth c T locs cells slots) (hx : p.tables.exec = Jvm.exec) (hZ : Z.Warmed39 s.vm) (eT : T.heap = h) (V : Arv Z h a kA ty z vs dv) {g : JFrame} (hg : g.method = m) {rest : List Value} (hs : g.stack = .ref a :: rest) (hd : decode c.code g.pc = .ok (.arraylength, 1)) :
    ∀ t, Steps p.tables e below (T.setTop { g with pc := g.pc + 1, stack := .int z :: rest }) t → Steps p.tables e below (T.setTop g) t := by
  obtain ⟨cl, Ar, q, S, N, H, G⟩ := V
  refine fun t k => X.arraylength hx (by rw [eT]; exact Ar.1) (State.isArrayOf_alike hZ.alike Ar.2.1) hg hs hd _ ?_
  rw [len_of S N]; exact k
theorem own_newR (X : Stand p l e R s m args below meth c T locs cells slots) (hx : p.tables.exec = Jvm.exec) (hZ : Z.Warmed39 s.vm) {own C : String} {index : Nat} (hown : s.vm.findClass own = some m.cls) (w1 : (Jvm.Cond.classLink own index C).before a0 Z = true) (w2 : (Jvm.Cond.arrayOver (.object C)).before a0 Z = true)
    (eT : T.heap = h) {g : JFrame} (hg : g.method = m) (hd : decode c.code g.pc = .ok (.anewarray index, 3)) {n : Int32} {rest : List Value} (hs : g.stack = .int n :: rest) (hn : ¬ n < 0) {cap : Nat} (hcap : n.toNatClampNeg ≤ cap) (hb : cap * 8 ≤ 536870912) (hc : cells + 1 ≤ R.cells) (hl : slots + cap ≤ R.slots) :
    ∃ T' h' cA b, b = h.size ∧ Stand p l e R s m args below meth c T' locs (cells + 1) (slots + cap) ∧ T'.heap = h' ∧ Ext h h' ∧ Arv Z h' b cA (.object C) n (List.replicate cap .null) .null ∧ Ovr Z cA C ∧
      ∀ target, Steps p.tables e below (T'.setTop { g with pc := g.pc + 3, stack := .ref b :: rest }) target → Steps p.tables e below (T.setTop g) target := by
  obtain ⟨T', h', cA, X', e', E, A, O, st⟩ := newR X hx hZ hown w1 w2 eT hg hd hs hn hcap hb hc hl
  exact ⟨T', h', cA, _, rfl, X', e', E, (Arv.new A hn).pad (pad_rep [] _ cap), O, st⟩
theorem own_stA (X : Stand p l e R s m args below meth c T locs cells slots) (hx : p.tables.exec = Jvm.exec) (hZ : Z.Warmed39 s.vm) (eT : T.heap = h) {C : String} {y : Addr} (V : Arv Z h a kA (.object C) z vs dv) (O : Ovr Z kA C) (I : Ins Z h y C true) {j : Int32} (hj : ¬ j < 0 ∧ j < z) (i : Nat) (hi : j.toNatClampNeg = i) (hl : i < vs.length) {g : JFrame} (hg : g.method = m) {rest : List Value} (hs : g.stack = .ref y :: .int j :: .ref a :: rest) (hd : decode c.code g.pc = .ok (.aastore, 1)) :
    ∃ T' h' L, Stand p l e R s m args below meth c T' (locs ++ [⟨a, L⟩]) cells slots ∧ T'.heap = h' ∧ Wr h h' a L (.ref y) ∧ Arv Z h' a kA (.object C) z (vs.set i (.ref y)) dv ∧ ∀ target, Steps p.tables e below (T'.setTop { g with pc := g.pc + 1, stack := rest }) target → Steps p.tables e below (T.setTop g) target := by
  obtain ⟨cl, Ar, q, S, N, H, G⟩ := V
  obtain ⟨T', h', X', e', W, st⟩ := stR X hx hZ eT Ar (inb_of S hj) rfl (Sto.ofV Ar q O I) hg hs hd
  exact ⟨T', h', _, X', e', W, Arv.set Ar q S N H G rfl W i hi hl, st⟩
/-! what the case's words say of statics -/
theorem own_eqI {t : Term} {n : Int32} {args : Array Value} {s : State} (q : (Jvm.Cond.eq t (.int n)).value args s none s [] = some true) : t.eval args s none [] s = some (.int n) := by
  cases ht : t.eval args s none [] s with
  | none => simp [Jvm.Cond.value, ht] at q
  | some v => cases v <;> simp [Jvm.Cond.value, ht, Term.eval, Value.isRef] at q ⊢ <;> exact q
theorem own_eqJ {t : Term} {n : Int64} {args : Array Value} {s : State} (q : (Jvm.Cond.eq t (.long n)).value args s none s [] = some true) : t.eval args s none [] s = some (.long n) := by
  cases ht : t.eval args s none [] s with
  | none => simp [Jvm.Cond.value, ht] at q
  | some v => cases v <;> simp [Jvm.Cond.value, ht, Term.eval, Value.isRef] at q ⊢ <;> exact q
theorem own_eqR {t u : Term} {x : Addr} {args : Array Value} {s : State} (hu : u.eval args s none [] s = some (.ref x)) (q : (Jvm.Cond.eq t u).value args s none s [] = some true) : t.eval args s none [] s = some (.ref x) := by
  cases ht : t.eval args s none [] s with
  | none => simp [Jvm.Cond.value, ht] at q
  | some v => cases v <;> simp [Jvm.Cond.value, ht, hu, Value.isRef] at q ⊢ <;> exact q
theorem own_lenT {t : Term} {a : Addr} {cl : Cell} {ty : FieldType} {z : Int32} {args : Array Value} {s : State} (ht : t.eval args s none [] s = some (.ref a)) (A : Arr s s.heap a cl ty) (q : (Term.length t).eval args s none [] s = some (.int z)) : cl.slots.size < 2 ^ 31 ∧ cl.slots.size.toInt32 = z := by
  have ha : s.arrayAt? a = some cl := Arr.fin (Vm.Alike.refl _) A
  by_cases hl : cl.slots.size < 2 ^ 31
  · rw [len_f ht ha hl] at q; cases q; exact ⟨hl, rfl⟩
  · simp [Term.eval, ht, ha, hl] at q
end Own
end Jvm.RoadKit
namespace Jvm.Pilot.@@N@@
open Jvm Jvm.ClassFile Sem Op Lib Jvm.Free Jvm.Stand Jvm.LawKit Jvm.RoadKit Bundle Jvm.Pilot.@@N@@.Jvm.D
theorem own_leafI {x y : Int32} (q : y = x) : some (Value.int x) = some (.int y) := by rw [q]
theorem own_leafJ {x y : Int64} (q : y = x) : some (Value.long x) = some (.long y) := by rw [q]
theorem own_bb (x : Int32) : x.toInt8.toInt32.toInt8.toInt32 = x.toInt8.toInt32 := by
  have h1 := c_i2b x; have h2 := c_i2b x.toInt8.toInt32
  rw [← Int32.toInt_inj]; omega
theorem own_lt {x y : Int32} {n k : Nat} (hx : x.toInt = n) (hy : y.toInt = k) : x < y ↔ n < k := by rw [Int32.lt_iff_toInt_lt]; omega
theorem own_add {x y : Int32} {n k : Nat} (hx : x.toInt = n) (hy : y.toInt = k) (h : n + k < 2147483648) : (x + y).toInt = (n + k : Nat) := by
  have h1 := c_iadd x y; have h2 := rng32 (x + y); omega
theorem own_nn {x : Int32} {n : Nat} (hx : x.toInt = n) : ¬ x < 0 := by
  rw [Int32.lt_iff_toInt_lt]; have e0 : (0 : Int32).toInt = 0 := rfl; omega
theorem own_clamp {x : Int32} {n : Nat} (hx : x.toInt = n) : x.toNatClampNeg = n := by simp only [Int32.toNatClampNeg]; omega
theorem own_lit32 {x : Int32} {n : Nat} (h : x.toInt = n) : x = Int32.ofInt n := by
  rw [← Int32.toInt_inj, Int32.toInt_ofInt, h]
  have := x.toInt_lt
  have es : Int32.size = 4294967296 := rfl
  rw [Int.bmod_eq_of_le (by omega) (by omega)]
theorem own_getI (xs : List Int32) (d : Int32) : ∀ j : Nat, (xs.map Value.int).getD j (.int d) = .int (xs.getD j d) := by
  induction xs with
  | nil => intro j; rfl
  | cons y r ih => intro j; cases j with
    | zero => rfl
    | succ j => exact ih j
def own_wr (xs : List Int32) (P : Nat) : List Int32 → List Int32
  | [] => xs
  | y :: r => own_wr (xs.set P y) (P + 1) r
theorem own_wr_app (ys : List Int32) : ∀ (xs : List Int32) (P : Nat) (zs : List Int32), own_wr xs P (ys ++ zs) = own_wr (own_wr xs P ys) (P + ys.length) zs := by
  induction ys with
  | nil => intro xs P zs; rfl
  | cons y r ih => intro xs P zs; show own_wr (xs.set P y) (P + 1) (r ++ zs) = _; rw [ih]; show _ = own_wr (own_wr (xs.set P y) (P + 1) r) (P + (r.length + 1)) zs; rw [show P + 1 + r.length = P + (r.length + 1) by omega]
theorem own_wr_len (ys : List Int32) : ∀ (xs : List Int32) (P : Nat), (own_wr xs P ys).length = xs.length := by
  induction ys with
  | nil => intro xs P; rfl
  | cons y r ih => intro xs P; show (own_wr (xs.set P y) (P + 1) r).length = _; rw [ih, List.length_set]
theorem own_wr_eq (ys : List Int32) : ∀ (xs : List Int32) (P : Nat), P + ys.length ≤ xs.length → own_wr xs P ys = xs.take P ++ ys ++ xs.drop (P + ys.length) := by
  induction ys with
  | nil => intro xs P h; simp [own_wr]
  | cons y r ih =>
    intro xs P h
    rw [List.length_cons] at h
    show own_wr (xs.set P y) (P + 1) r = _
    rw [ih _ _ (by rw [List.length_set]; omega)]
    have h1 : (xs.set P y).take (P + 1) = xs.take P ++ [y] := by
      rw [List.set_eq_take_append_cons_drop, if_pos (by omega)]
      rw [List.take_append, List.length_take, Nat.min_eq_left (by omega)]
      rw [show P + 1 - P = 1 by omega, List.take_of_length_le (by rw [List.length_take]; omega)]
      rfl
    have h2 : (xs.set P y).drop (P + 1 + r.length) = xs.drop (P + (r.length + 1)) := by
      rw [List.drop_set, if_pos (by omega), show P + 1 + r.length = P + (r.length + 1) by omega]
    rw [h1, h2, List.length_cons, List.append_assoc, List.append_assoc, List.append_assoc]
    rfl
theorem d4_0 : decode prog_6_method_5_code 0 = .ok (.iload_n 0, 1) := by decide +kernel
theorem d4_1 : decode prog_6_method_5_code 1 = .ok (.sipush 255, 3) := by decide +kernel
theorem d4_4 : decode prog_6_method_5_code 4 = .ok (.iand, 1) := by decide +kernel
theorem d4_5 : decode prog_6_method_5_code 5 = .ok (.istore_n 1, 1) := by decide +kernel
theorem d4_6 : decode prog_6_method_5_code 6 = .ok (.iload_n 1, 1) := by decide +kernel
theorem d4_7 : decode prog_6_method_5_code 7 = .ok (.bipush 32, 2) := by decide +kernel
theorem d4_9 : decode prog_6_method_5_code 9 = .ok (.if_icmp .le 21, 3) := by decide +kernel
theorem d4_12 : decode prog_6_method_5_code 12 = .ok (.iload_n 1, 1) := by decide +kernel
theorem d4_13 : decode prog_6_method_5_code 13 = .ok (.bipush 127, 2) := by decide +kernel
theorem d4_15 : decode prog_6_method_5_code 15 = .ok (.if_icmp .ge 15, 3) := by decide +kernel
theorem d4_18 : decode prog_6_method_5_code 18 = .ok (.iload_n 1, 1) := by decide +kernel
theorem d4_19 : decode prog_6_method_5_code 19 = .ok (.bipush 35, 2) := by decide +kernel
theorem d4_21 : decode prog_6_method_5_code 21 = .ok (.if_icmp .eq 9, 3) := by decide +kernel
theorem d4_24 : decode prog_6_method_5_code 24 = .ok (.iload_n 1, 1) := by decide +kernel
theorem d4_25 : decode prog_6_method_5_code 25 = .ok (.bipush 37, 2) := by decide +kernel
theorem d4_27 : decode prog_6_method_5_code 27 = .ok (.if_icmp .ne 7, 3) := by decide +kernel
theorem d4_30 : decode prog_6_method_5_code 30 = .ok (.iconst 1, 1) := by decide +kernel
theorem d4_31 : decode prog_6_method_5_code 31 = .ok (.goto 4, 3) := by decide +kernel
theorem d4_34 : decode prog_6_method_5_code 34 = .ok (.iconst 0, 1) := by decide +kernel
theorem d4_35 : decode prog_6_method_5_code 35 = .ok (.ireturn, 1) := by decide +kernel
theorem ef_4 (p1 : Int32) (m : MethodId) : entryFrame m #[(.int p1)] 2 = mkF m 0 #[.val (.int p1), .unset] [] := by first | (simp [entryFrame, mkF, argsToLocals, Value.category]; done) | rfl
def own_f4 (p1 : Int32) : Int32 := (if (32 : Int32) < (p1 &&& (255 : Int32)) then (if (p1 &&& (255 : Int32)) < (127 : Int32) then (if (p1 &&& (255 : Int32)) = (35 : Int32) then (1 : Int32) else (if (p1 &&& (255 : Int32)) = (37 : Int32) then (1 : Int32) else (0 : Int32))) else (1 : Int32)) else (1 : Int32))
theorem pn_0 : plainName "com/example/gist_hash/gisthash/PercentCoding" = true := by first | (simp [plainName, overriddenIn]; done) | decide +kernel
set_option maxRecDepth 65536 in
set_option maxHeartbeats 40000000 in
theorem rm4 (l : Launch) (Z : State) (a0 : Array Value) (hw : ∀ d ∈ tables_1, d.before a0 Z = true) (ws : List Jvm.Cond) (p1 : Int32) (h0 : Heap) (n0 : Nat) (Z0 : n0 ≤ h0.size) :
    own_Met l (⟨"com/example/gist_hash/gisthash/PercentCoding", "isEscaped", "(B)Z"⟩ : MethodName) prog_6_method_5_code 2 (some .boolean) ws ({ frames := 0, cells := 0, slots := 0, locals := 0 } : Room) #[(.int p1)] Z h0 (fun v h L => v = some (.int (own_f4 p1)) ∧ Fr n0 L ∧ h = h0) := by
  refine own_body (plainFor_of_name pn_0) (ef_4 p1) ?_
  intro p e s m below meth c T0 X0 hx hby hml0 hret hlk hnm hown hZ e0
  have hml : c.maxLocals = 2 := hml0
  have N0 := Fr.nil n0
  refine own_step (fun _ k => XS.iloadN X0.here hx rfl (hb hby d4_0) rfl k) ?_
  show own_Ends _ _ _ _ _ _ _ T0 (mkF m 1 #[.val (.int p1), .unset] [(.int p1)])
  refine own_step (fun _ k => XS.sipush X0.here hx rfl (hb hby d4_1) k) ?_
  show own_Ends _ _ _ _ _ _ _ T0 (mkF m 4 #[.val (.int p1), .unset] [(.int (255 : Int32)), (.int p1)])
  refine own_step (fun _ k => XS.iand X0.here hx rfl (hb hby d4_4) rfl k) ?_
  show own_Ends _ _ _ _ _ _ _ T0 (mkF m 5 #[.val (.int p1), .unset] [(.int (p1 &&& (255 : Int32)))])
  refine own_step (fun _ k => XS.istoreN X0.here hx rfl (hb hby d4_5) rfl (l' := #[.val (.int p1), .val (.int (p1 &&& (255 : Int32)))]) rfl k) ?_
  show own_Ends _ _ _ _ _ _ _ T0 (mkF m 6 #[.val (.int p1), .val (.int (p1 &&& (255 : Int32)))] [])
  refine own_step (fun _ k => XS.iloadN X0.here hx rfl (hb hby d4_6) rfl k) ?_
  show own_Ends _ _ _ _ _ _ _ T0 (mkF m 7 #[.val (.int p1), .val (.int (p1 &&& (255 : Int32)))] [(.int (p1 &&& (255 : Int32)))])
  refine own_step (fun _ k => XS.bipush X0.here hx rfl (hb hby d4_7) k) ?_
  show own_Ends _ _ _ _ _ _ _ T0 (mkF m 9 #[.val (.int p1), .val (.int (p1 &&& (255 : Int32)))] [(.int (32 : Int32)), (.int (p1 &&& (255 : Int32)))])
  by_cases hc1 : (32 : Int32) < (p1 &&& (255 : Int32))
  · refine own_step (fun _ k => XS.icmpNo X0.here hx rfl (hb hby d4_9) rfl (tlt hc1).2.2.2 k) ?_
    show own_Ends _ _ _ _ _ _ _ T0 (mkF m 12 #[.val (.int p1), .val (.int (p1 &&& (255 : Int32)))] [])
    refine own_step (fun _ k => XS.iloadN X0.here hx rfl (hb hby d4_12) rfl k) ?_
    show own_Ends _ _ _ _ _ _ _ T0 (mkF m 13 #[.val (.int p1), .val (.int (p1 &&& (255 : Int32)))] [(.int (p1 &&& (255 : Int32)))])
    refine own_step (fun _ k => XS.bipush X0.here hx rfl (hb hby d4_13) k) ?_
    show own_Ends _ _ _ _ _ _ _ T0 (mkF m 15 #[.val (.int p1), .val (.int (p1 &&& (255 : Int32)))] [(.int (127 : Int32)), (.int (p1 &&& (255 : Int32)))])
    by_cases hc2 : (p1 &&& (255 : Int32)) < (127 : Int32)
    · refine own_step (fun _ k => XS.icmpNo X0.here hx rfl (hb hby d4_15) rfl (tlt hc2).2.1 k) ?_
      show own_Ends _ _ _ _ _ _ _ T0 (mkF m 18 #[.val (.int p1), .val (.int (p1 &&& (255 : Int32)))] [])
      refine own_step (fun _ k => XS.iloadN X0.here hx rfl (hb hby d4_18) rfl k) ?_
      show own_Ends _ _ _ _ _ _ _ T0 (mkF m 19 #[.val (.int p1), .val (.int (p1 &&& (255 : Int32)))] [(.int (p1 &&& (255 : Int32)))])
      refine own_step (fun _ k => XS.bipush X0.here hx rfl (hb hby d4_19) k) ?_
      show own_Ends _ _ _ _ _ _ _ T0 (mkF m 21 #[.val (.int p1), .val (.int (p1 &&& (255 : Int32)))] [(.int (35 : Int32)), (.int (p1 &&& (255 : Int32)))])
      by_cases hc3 : (p1 &&& (255 : Int32)) = (35 : Int32)
      · refine own_step (fun _ k => XS.icmpYes X0.here hx rfl (pc0 := 21) (pc' := 30) rfl (hb hby d4_21) rfl (teq hc3).1 (by decide) (by decide) k) ?_
        show own_Ends _ _ _ _ _ _ _ T0 (mkF m 30 #[.val (.int p1), .val (.int (p1 &&& (255 : Int32)))] [])
        refine own_step (fun _ k => XS.iconst X0.here hx rfl (hb hby d4_30) k) ?_
        show own_Ends _ _ _ _ _ _ _ T0 (mkF m 31 #[.val (.int p1), .val (.int (p1 &&& (255 : Int32)))] [(.int (1 : Int32))])
        refine own_step (fun _ k => XS.goto X0.here hx rfl (pc0 := 31) (pc' := 35) rfl (hb hby d4_31) (by decide) (by decide) k) ?_
        show own_Ends _ _ _ _ _ _ _ T0 (mkF m 35 #[.val (.int p1), .val (.int (p1 &&& (255 : Int32)))] [(.int (1 : Int32))])
        exact own_retN X0 hx (t := .boolean) hret (by simp) hlk (hb hby d4_35) rfl ⟨own_leafI ((if_pos hc1).trans ((if_pos hc2).trans (if_pos hc3))), N0, e0⟩ (by decide) (by decide)
      · refine own_step (fun _ k => XS.icmpNo X0.here hx rfl (hb hby d4_21) rfl (feq hc3).1 k) ?_
        show own_Ends _ _ _ _ _ _ _ T0 (mkF m 24 #[.val (.int p1), .val (.int (p1 &&& (255 : Int32)))] [])
        refine own_step (fun _ k => XS.iloadN X0.here hx rfl (hb hby d4_24) rfl k) ?_
        show own_Ends _ _ _ _ _ _ _ T0 (mkF m 25 #[.val (.int p1), .val (.int (p1 &&& (255 : Int32)))] [(.int (p1 &&& (255 : Int32)))])
        refine own_step (fun _ k => XS.bipush X0.here hx rfl (hb hby d4_25) k) ?_
        show own_Ends _ _ _ _ _ _ _ T0 (mkF m 27 #[.val (.int p1), .val (.int (p1 &&& (255 : Int32)))] [(.int (37 : Int32)), (.int (p1 &&& (255 : Int32)))])
        by_cases hc4 : (p1 &&& (255 : Int32)) = (37 : Int32)
        · refine own_step (fun _ k => XS.icmpNo X0.here hx rfl (hb hby d4_27) rfl (teq hc4).2 k) ?_
          show own_Ends _ _ _ _ _ _ _ T0 (mkF m 30 #[.val (.int p1), .val (.int (p1 &&& (255 : Int32)))] [])
          refine own_step (fun _ k => XS.iconst X0.here hx rfl (hb hby d4_30) k) ?_
          show own_Ends _ _ _ _ _ _ _ T0 (mkF m 31 #[.val (.int p1), .val (.int (p1 &&& (255 : Int32)))] [(.int (1 : Int32))])
          refine own_step (fun _ k => XS.goto X0.here hx rfl (pc0 := 31) (pc' := 35) rfl (hb hby d4_31) (by decide) (by decide) k) ?_
          show own_Ends _ _ _ _ _ _ _ T0 (mkF m 35 #[.val (.int p1), .val (.int (p1 &&& (255 : Int32)))] [(.int (1 : Int32))])
          exact own_retN X0 hx (t := .boolean) hret (by simp) hlk (hb hby d4_35) rfl ⟨own_leafI ((if_pos hc1).trans ((if_pos hc2).trans ((if_neg hc3).trans (if_pos hc4)))), N0, e0⟩ (by decide) (by decide)
        · refine own_step (fun _ k => XS.icmpYes X0.here hx rfl (pc0 := 27) (pc' := 34) rfl (hb hby d4_27) rfl (feq hc4).2 (by decide) (by decide) k) ?_
          show own_Ends _ _ _ _ _ _ _ T0 (mkF m 34 #[.val (.int p1), .val (.int (p1 &&& (255 : Int32)))] [])
          refine own_step (fun _ k => XS.iconst X0.here hx rfl (hb hby d4_34) k) ?_
          show own_Ends _ _ _ _ _ _ _ T0 (mkF m 35 #[.val (.int p1), .val (.int (p1 &&& (255 : Int32)))] [(.int (0 : Int32))])
          exact own_retN X0 hx (t := .boolean) hret (by simp) hlk (hb hby d4_35) rfl ⟨own_leafI ((if_pos hc1).trans ((if_pos hc2).trans ((if_neg hc3).trans (if_neg hc4)))), N0, e0⟩ (by decide) (by decide)
    · refine own_step (fun _ k => XS.icmpYes X0.here hx rfl (pc0 := 15) (pc' := 30) rfl (hb hby d4_15) rfl (flt hc2).2.1 (by decide) (by decide) k) ?_
      show own_Ends _ _ _ _ _ _ _ T0 (mkF m 30 #[.val (.int p1), .val (.int (p1 &&& (255 : Int32)))] [])
      refine own_step (fun _ k => XS.iconst X0.here hx rfl (hb hby d4_30) k) ?_
      show own_Ends _ _ _ _ _ _ _ T0 (mkF m 31 #[.val (.int p1), .val (.int (p1 &&& (255 : Int32)))] [(.int (1 : Int32))])
      refine own_step (fun _ k => XS.goto X0.here hx rfl (pc0 := 31) (pc' := 35) rfl (hb hby d4_31) (by decide) (by decide) k) ?_
      show own_Ends _ _ _ _ _ _ _ T0 (mkF m 35 #[.val (.int p1), .val (.int (p1 &&& (255 : Int32)))] [(.int (1 : Int32))])
      exact own_retN X0 hx (t := .boolean) hret (by simp) hlk (hb hby d4_35) rfl ⟨own_leafI ((if_pos hc1).trans (if_neg hc2)), N0, e0⟩ (by decide) (by decide)
  · refine own_step (fun _ k => XS.icmpYes X0.here hx rfl (pc0 := 9) (pc' := 30) rfl (hb hby d4_9) rfl (flt hc1).2.2.2 (by decide) (by decide) k) ?_
    show own_Ends _ _ _ _ _ _ _ T0 (mkF m 30 #[.val (.int p1), .val (.int (p1 &&& (255 : Int32)))] [])
    refine own_step (fun _ k => XS.iconst X0.here hx rfl (hb hby d4_30) k) ?_
    show own_Ends _ _ _ _ _ _ _ T0 (mkF m 31 #[.val (.int p1), .val (.int (p1 &&& (255 : Int32)))] [(.int (1 : Int32))])
    refine own_step (fun _ k => XS.goto X0.here hx rfl (pc0 := 31) (pc' := 35) rfl (hb hby d4_31) (by decide) (by decide) k) ?_
    show own_Ends _ _ _ _ _ _ _ T0 (mkF m 35 #[.val (.int p1), .val (.int (p1 &&& (255 : Int32)))] [(.int (1 : Int32))])
    exact own_retN X0 hx (t := .boolean) hret (by simp) hlk (hb hby d4_35) rfl ⟨own_leafI (if_neg hc1), N0, e0⟩ (by decide) (by decide)
theorem d2_0 : decode method_4_code 0 = .ok (.iload_n 0, 1) := by decide +kernel
theorem d2_1 : decode method_4_code 1 = .ok (.bipush 10, 2) := by decide +kernel
theorem d2_3 : decode method_4_code 3 = .ok (.if_icmp .ge 9, 3) := by decide +kernel
theorem d2_6 : decode method_4_code 6 = .ok (.bipush 48, 2) := by decide +kernel
theorem d2_8 : decode method_4_code 8 = .ok (.iload_n 0, 1) := by decide +kernel
theorem d2_9 : decode method_4_code 9 = .ok (.iadd, 1) := by decide +kernel
theorem d2_10 : decode method_4_code 10 = .ok (.i2b, 1) := by decide +kernel
theorem d2_11 : decode method_4_code 11 = .ok (.ireturn, 1) := by decide +kernel
theorem d2_12 : decode method_4_code 12 = .ok (.bipush 65, 2) := by decide +kernel
theorem d2_14 : decode method_4_code 14 = .ok (.iload_n 0, 1) := by decide +kernel
theorem d2_15 : decode method_4_code 15 = .ok (.bipush 10, 2) := by decide +kernel
theorem d2_17 : decode method_4_code 17 = .ok (.isub, 1) := by decide +kernel
theorem d2_18 : decode method_4_code 18 = .ok (.iadd, 1) := by decide +kernel
theorem d2_19 : decode method_4_code 19 = .ok (.i2b, 1) := by decide +kernel
theorem d2_20 : decode method_4_code 20 = .ok (.ireturn, 1) := by decide +kernel
theorem ef_2 (p1 : Int32) (m : MethodId) : entryFrame m #[(.int p1)] 1 = mkF m 0 #[.val (.int p1)] [] := by first | (simp [entryFrame, mkF, argsToLocals, Value.category]; done) | rfl
def own_f2 (p1 : Int32) : Int32 := (if p1 < (10 : Int32) then ((((48 : Int32) + p1).toInt8.toInt32).toInt8.toInt32) else ((((65 : Int32) + (p1 - (10 : Int32))).toInt8.toInt32).toInt8.toInt32))
theorem pn_1 : plainName "com/example/gist_hash/gisthash/PercentCodingEscapePinLaw" = true := by first | (simp [plainName, overriddenIn]; done) | decide +kernel
set_option maxRecDepth 65536 in
set_option maxHeartbeats 40000000 in
theorem rm2 (l : Launch) (Z : State) (a0 : Array Value) (hw : ∀ d ∈ tables_1, d.before a0 Z = true) (ws : List Jvm.Cond) (p1 : Int32) (h0 : Heap) (n0 : Nat) (Z0 : n0 ≤ h0.size) :
    own_Met l (⟨"com/example/gist_hash/gisthash/PercentCodingEscapePinLaw", "hex", "(I)B"⟩ : MethodName) method_4_code 1 (some .byte) ws ({ frames := 0, cells := 0, slots := 0, locals := 0 } : Room) #[(.int p1)] Z h0 (fun v h L => v = some (.int (own_f2 p1)) ∧ Fr n0 L ∧ h = h0) := by
  refine own_body (plainFor_of_name pn_1) (ef_2 p1) ?_
  intro p e s m below meth c T0 X0 hx hby hml0 hret hlk hnm hown hZ e0
  have hml : c.maxLocals = 1 := hml0
  have N0 := Fr.nil n0
  refine own_step (fun _ k => XS.iloadN X0.here hx rfl (hb hby d2_0) rfl k) ?_
  show own_Ends _ _ _ _ _ _ _ T0 (mkF m 1 #[.val (.int p1)] [(.int p1)])
  refine own_step (fun _ k => XS.bipush X0.here hx rfl (hb hby d2_1) k) ?_
  show own_Ends _ _ _ _ _ _ _ T0 (mkF m 3 #[.val (.int p1)] [(.int (10 : Int32)), (.int p1)])
  by_cases hc1 : p1 < (10 : Int32)
  · refine own_step (fun _ k => XS.icmpNo X0.here hx rfl (hb hby d2_3) rfl (tlt hc1).2.1 k) ?_
    show own_Ends _ _ _ _ _ _ _ T0 (mkF m 6 #[.val (.int p1)] [])
    refine own_step (fun _ k => XS.bipush X0.here hx rfl (hb hby d2_6) k) ?_
    show own_Ends _ _ _ _ _ _ _ T0 (mkF m 8 #[.val (.int p1)] [(.int (48 : Int32))])
    refine own_step (fun _ k => XS.iloadN X0.here hx rfl (hb hby d2_8) rfl k) ?_
    show own_Ends _ _ _ _ _ _ _ T0 (mkF m 9 #[.val (.int p1)] [(.int p1), (.int (48 : Int32))])
    refine own_step (fun _ k => XS.iadd X0.here hx rfl (hb hby d2_9) rfl k) ?_
    show own_Ends _ _ _ _ _ _ _ T0 (mkF m 10 #[.val (.int p1)] [(.int ((48 : Int32) + p1))])
    refine own_step (fun _ k => XS.i2b X0.here hx rfl (hb hby d2_10) rfl k) ?_
    show own_Ends _ _ _ _ _ _ _ T0 (mkF m 11 #[.val (.int p1)] [(.int (((48 : Int32) + p1).toInt8.toInt32))])
    exact own_retN X0 hx (t := .byte) hret (by simp) hlk (hb hby d2_11) rfl ⟨own_leafI (if_pos hc1), N0, e0⟩ (by decide) (by decide)
  · refine own_step (fun _ k => XS.icmpYes X0.here hx rfl (pc0 := 3) (pc' := 12) rfl (hb hby d2_3) rfl (flt hc1).2.1 (by decide) (by decide) k) ?_
    show own_Ends _ _ _ _ _ _ _ T0 (mkF m 12 #[.val (.int p1)] [])
    refine own_step (fun _ k => XS.bipush X0.here hx rfl (hb hby d2_12) k) ?_
    show own_Ends _ _ _ _ _ _ _ T0 (mkF m 14 #[.val (.int p1)] [(.int (65 : Int32))])
    refine own_step (fun _ k => XS.iloadN X0.here hx rfl (hb hby d2_14) rfl k) ?_
    show own_Ends _ _ _ _ _ _ _ T0 (mkF m 15 #[.val (.int p1)] [(.int p1), (.int (65 : Int32))])
    refine own_step (fun _ k => XS.bipush X0.here hx rfl (hb hby d2_15) k) ?_
    show own_Ends _ _ _ _ _ _ _ T0 (mkF m 17 #[.val (.int p1)] [(.int (10 : Int32)), (.int p1), (.int (65 : Int32))])
    refine own_step (fun _ k => XS.isub X0.here hx rfl (hb hby d2_17) rfl k) ?_
    show own_Ends _ _ _ _ _ _ _ T0 (mkF m 18 #[.val (.int p1)] [(.int (p1 - (10 : Int32))), (.int (65 : Int32))])
    refine own_step (fun _ k => XS.iadd X0.here hx rfl (hb hby d2_18) rfl k) ?_
    show own_Ends _ _ _ _ _ _ _ T0 (mkF m 19 #[.val (.int p1)] [(.int ((65 : Int32) + (p1 - (10 : Int32))))])
    refine own_step (fun _ k => XS.i2b X0.here hx rfl (hb hby d2_19) rfl k) ?_
    show own_Ends _ _ _ _ _ _ _ T0 (mkF m 20 #[.val (.int p1)] [(.int (((65 : Int32) + (p1 - (10 : Int32))).toInt8.toInt32))])
    exact own_retN X0 hx (t := .byte) hret (by simp) hlk (hb hby d2_20) rfl ⟨own_leafI (if_neg hc1), N0, e0⟩ (by decide) (by decide)
theorem own_hb (x : Int32) : (own_f2 x).toInt8.toInt32 = own_f2 x := by
  unfold own_f2; split <;> exact own_bb _
theorem own_esc (p : Int32) : (own_f4 p) = (0 : Int32) ↔ (¬ (p &&& (255 : Int32)) < (33 : Int32) ∧ ¬ (126 : Int32) < (p &&& (255 : Int32)) ∧ ¬ (p &&& (255 : Int32)) = (35 : Int32) ∧ ¬ (p &&& (255 : Int32)) = (37 : Int32)) := by
  have e1 : (32 : Int32).toInt = 32 := by decide
  have e2 : (33 : Int32).toInt = 33 := by decide
  have e3 : (35 : Int32).toInt = 35 := by decide
  have e4 : (37 : Int32).toInt = 37 := by decide
  have e5 : (126 : Int32).toInt = 126 := by decide
  have e6 : (127 : Int32).toInt = 127 := by decide
  have z1 : ¬ ((1 : Int32) = (0 : Int32)) := by decide
  unfold own_f4
  generalize (p &&& (255 : Int32)) = v
  simp only [Int32.lt_iff_toInt_lt, ← Int32.toInt_inj (y := (35 : Int32)), ← Int32.toInt_inj (y := (37 : Int32)), e1, e2, e3, e4, e5, e6]
  generalize v.toInt = n
  repeat' split
  all_goals (constructor <;> intro q <;> first | contradiction | omega | (exfalso; omega) | rfl)
def own_enc (b : Int32) : List Int32 := if (own_f4 b) = (0 : Int32) then [b] else [(37 : Int32), own_f2 ((b &&& (255 : Int32)) >>> ((4 : Int32) &&& 31)), own_f2 ((b &&& (255 : Int32)) &&& (15 : Int32))]
theorem own_enc3 (b : Int32) : (own_enc b).length ≤ 3 := by unfold own_enc; split <;> simp
def own_all (f : Nat → Int32) : Nat → List Int32
  | 0 => []
  | j + 1 => own_all f j ++ own_enc (f j)
theorem own_all3 (f : Nat → Int32) : ∀ j, (own_all f j).length ≤ 3 * j := by
  intro j
  induction j with
  | zero => simp [own_all]
  | succ j ih => have := own_enc3 (f j); simp only [own_all, List.length_append]; omega
theorem own_pref (f : Nat → Int32) : ∀ k, (∀ t, t < k → (own_f4 (f t)) = (0 : Int32)) → own_all f k = (List.range k).map f := by
  intro k
  induction k with
  | zero => intro _; rfl
  | succ k ih => intro h; rw [List.range_succ, List.map_append, ← ih (fun t ht => h t (by omega))]; show own_all f k ++ own_enc (f k) = _; rw [own_enc, if_pos (h k (by omega))]; rfl
theorem own_byteR (b : Int32) (h : b.toInt8.toInt32 = b) : ((b &&& (255 : Int32)).toInt8.toInt32) = b := by
  have h1 := c_i2b b; have h2 := c_i2b (b &&& (255 : Int32))
  have h3 := c_mask b (255 : Int32) 8 (by decide) (by decide)
  rw [h] at h1
  rw [← Int32.toInt_inj]; omega
theorem own_fill {xs : List Int32} {P k : Nat} {us : List Value} {ys : List Int32} (hu : us = ys.map Value.int) (hk : ys.length = k) (hl : P + k ≤ xs.length) : ((xs.map Value.int).take P ++ us ++ (xs.map Value.int).drop (P + k)) = (own_wr xs P ys).map Value.int := by
  subst hu hk
  rw [own_wr_eq _ _ _ hl, List.map_append, List.map_append, List.map_take, List.map_drop]
theorem d1_0 : decode method_3_code 0 = .ok (.iload_n 2, 1) := by decide +kernel
theorem d1_1 : decode method_3_code 1 = .ok (.sipush 255, 3) := by decide +kernel
theorem d1_4 : decode method_3_code 4 = .ok (.iand, 1) := by decide +kernel
theorem d1_5 : decode method_3_code 5 = .ok (.istore_n 3, 1) := by decide +kernel
theorem d1_6 : decode method_3_code 6 = .ok (.iload_n 3, 1) := by decide +kernel
theorem d1_7 : decode method_3_code 7 = .ok (.bipush 33, 2) := by decide +kernel
theorem d1_9 : decode method_3_code 9 = .ok (.if_icmp .lt 25, 3) := by decide +kernel
theorem d1_12 : decode method_3_code 12 = .ok (.iload_n 3, 1) := by decide +kernel
theorem d1_13 : decode method_3_code 13 = .ok (.bipush 126, 2) := by decide +kernel
theorem d1_15 : decode method_3_code 15 = .ok (.if_icmp .gt 19, 3) := by decide +kernel
theorem d1_18 : decode method_3_code 18 = .ok (.iload_n 3, 1) := by decide +kernel
theorem d1_19 : decode method_3_code 19 = .ok (.bipush 35, 2) := by decide +kernel
theorem d1_21 : decode method_3_code 21 = .ok (.if_icmp .eq 13, 3) := by decide +kernel
theorem d1_24 : decode method_3_code 24 = .ok (.iload_n 3, 1) := by decide +kernel
theorem d1_25 : decode method_3_code 25 = .ok (.bipush 37, 2) := by decide +kernel
theorem d1_27 : decode method_3_code 27 = .ok (.if_icmp .eq 7, 3) := by decide +kernel
theorem d1_30 : decode method_3_code 30 = .ok (.iconst 1, 1) := by decide +kernel
theorem d1_31 : decode method_3_code 31 = .ok (.goto 4, 3) := by decide +kernel
theorem d1_34 : decode method_3_code 34 = .ok (.iconst 0, 1) := by decide +kernel
theorem d1_35 : decode method_3_code 35 = .ok (.istore 4, 2) := by decide +kernel
theorem d1_37 : decode method_3_code 37 = .ok (.iload 4, 2) := by decide +kernel
theorem d1_39 : decode method_3_code 39 = .ok (.ifCond .eq 11, 3) := by decide +kernel
theorem d1_42 : decode method_3_code 42 = .ok (.aload_n 0, 1) := by decide +kernel
theorem d1_43 : decode method_3_code 43 = .ok (.iload_n 1, 1) := by decide +kernel
theorem d1_44 : decode method_3_code 44 = .ok (.iload_n 2, 1) := by decide +kernel
theorem d1_45 : decode method_3_code 45 = .ok (.bastore, 1) := by decide +kernel
theorem d1_46 : decode method_3_code 46 = .ok (.iload_n 1, 1) := by decide +kernel
theorem d1_47 : decode method_3_code 47 = .ok (.iconst 1, 1) := by decide +kernel
theorem d1_48 : decode method_3_code 48 = .ok (.iadd, 1) := by decide +kernel
theorem d1_49 : decode method_3_code 49 = .ok (.ireturn, 1) := by decide +kernel
theorem d1_50 : decode method_3_code 50 = .ok (.aload_n 0, 1) := by decide +kernel
theorem d1_51 : decode method_3_code 51 = .ok (.iload_n 1, 1) := by decide +kernel
theorem d1_52 : decode method_3_code 52 = .ok (.bipush 37, 2) := by decide +kernel
theorem d1_54 : decode method_3_code 54 = .ok (.bastore, 1) := by decide +kernel
theorem d1_55 : decode method_3_code 55 = .ok (.aload_n 0, 1) := by decide +kernel
theorem d1_56 : decode method_3_code 56 = .ok (.iload_n 1, 1) := by decide +kernel
theorem d1_57 : decode method_3_code 57 = .ok (.iconst 1, 1) := by decide +kernel
theorem d1_58 : decode method_3_code 58 = .ok (.iadd, 1) := by decide +kernel
theorem d1_59 : decode method_3_code 59 = .ok (.iload_n 3, 1) := by decide +kernel
theorem d1_60 : decode method_3_code 60 = .ok (.iconst 4, 1) := by decide +kernel
theorem d1_61 : decode method_3_code 61 = .ok (.ishr, 1) := by decide +kernel
theorem d1_62 : decode method_3_code 62 = .ok (.invokestatic 23, 3) := by decide +kernel
theorem d1_65 : decode method_3_code 65 = .ok (.bastore, 1) := by decide +kernel
theorem d1_66 : decode method_3_code 66 = .ok (.aload_n 0, 1) := by decide +kernel
theorem d1_67 : decode method_3_code 67 = .ok (.iload_n 1, 1) := by decide +kernel
theorem d1_68 : decode method_3_code 68 = .ok (.iconst 2, 1) := by decide +kernel
theorem d1_69 : decode method_3_code 69 = .ok (.iadd, 1) := by decide +kernel
theorem d1_70 : decode method_3_code 70 = .ok (.iload_n 3, 1) := by decide +kernel
theorem d1_71 : decode method_3_code 71 = .ok (.bipush 15, 2) := by decide +kernel
theorem d1_73 : decode method_3_code 73 = .ok (.iand, 1) := by decide +kernel
theorem d1_74 : decode method_3_code 74 = .ok (.invokestatic 23, 3) := by decide +kernel
theorem d1_77 : decode method_3_code 77 = .ok (.bastore, 1) := by decide +kernel
theorem d1_78 : decode method_3_code 78 = .ok (.iload_n 1, 1) := by decide +kernel
theorem d1_79 : decode method_3_code 79 = .ok (.iconst 3, 1) := by decide +kernel
theorem d1_80 : decode method_3_code 80 = .ok (.iadd, 1) := by decide +kernel
theorem d1_81 : decode method_3_code 81 = .ok (.ireturn, 1) := by decide +kernel
theorem ef_1 (a1 : Addr) (p2 : Int32) (p3 : Int32) (m : MethodId) : entryFrame m #[(.ref a1), (.int p2), (.int p3)] 5 = mkF m 0 #[.val (.ref a1), .val (.int p2), .val (.int p3), .unset, .unset] [] := by first | (simp [entryFrame, mkF, argsToLocals, Value.category]; done) | rfl
theorem pd_0 : parseMethodDescriptor "(I)B" = some ⟨[.int], some .byte⟩ := by decide +kernel
set_option maxRecDepth 65536 in
set_option maxHeartbeats 40000000 in
theorem rm1 (l : Launch) (Z : State) (a0 : Array Value) (hw : ∀ d ∈ tables_1, d.before a0 Z = true) (ws : List Jvm.Cond) (a1 : Addr) (p2 : Int32) (p3 : Int32) (kA : ClassId) (xs : List Int32) (P : Nat) (h0 : Heap) (n0 : Nat) (Z0 : n0 ≤ h0.size) (VA : Arv Z h0 a1 kA .byte (14 : Int32) (xs.map Value.int) (.int (0 : Int32))) (hxs : xs.length = 14) (hP : p2.toInt = P) (hle : P + 3 ≤ 14) (hb3 : p3.toInt8.toInt32 = p3) (g_a1 : n0 ≤ a1) :
    own_Met l (⟨"com/example/gist_hash/gisthash/PercentCodingEscapePinLaw", "put", "([BIB)I"⟩ : MethodName) method_3_code 5 (some .int) ws ({ frames := 1, cells := 0, slots := 0, locals := 14 } : Room) #[(.ref a1), (.int p2), (.int p3)] Z h0 (fun v h L => ∃ r : Int32, r.toInt = (P + (own_enc p3).length : Nat) ∧ v = some (.int r) ∧ Fr n0 L ∧ Keep h0 h [a1] ∧ Arv Z h a1 kA .byte (14 : Int32) ((own_wr xs P (own_enc p3)).map Value.int) (.int (0 : Int32))) := by
  refine own_body (plainFor_of_name pn_1) (ef_1 a1 p2 p3) ?_
  intro p e s m below meth c T0 X0 hx hby hml0 hret hlk hnm hown hZ e0
  have hml : c.maxLocals = 5 := hml0
  have N0 := Fr.nil n0
  have e_14 : (14 : Int32).toInt = (14 : Nat) := by decide
  have e_1 : (1 : Int32).toInt = (1 : Nat) := by decide
  have e_2 : (2 : Int32).toInt = (2 : Nat) := by decide
  have e_3 : (3 : Int32).toInt = (3 : Nat) := by decide
  have hl : (xs.map Value.int).length = 14 := by rw [List.length_map]; exact hxs
  have key : ¬ (own_f4 p3) = (0 : Int32) → own_Ends p e below s (fun v h L => ∃ r : Int32, r.toInt = (P + (own_enc p3).length : Nat) ∧ v = some (.int r) ∧ Fr n0 L ∧ Keep h0 h [a1] ∧ Arv Z h a1 kA .byte (14 : Int32) ((own_wr xs P (own_enc p3)).map Value.int) (.int (0 : Int32))) ({ frames := 1, cells := 0, slots := 0, locals := 14 } : Room).cells ({ frames := 1, cells := 0, slots := 0, locals := 14 } : Room).slots T0 (mkF m 50 #[.val (.ref a1), .val (.int p2), .val (.int p3), .val (.int (p3 &&& (255 : Int32))), .val (.int (0 : Int32))] []) := by
    intro hq
    have hen : own_enc p3 = [(37 : Int32), own_f2 ((p3 &&& (255 : Int32)) >>> ((4 : Int32) &&& 31)), own_f2 ((p3 &&& (255 : Int32)) &&& (15 : Int32))] := if_neg hq
    have hP1 := own_add hP e_1 (by omega)
    have hP2 := own_add hP e_2 (by omega)
    have hP3 := own_add hP e_3 (by omega)
    refine own_step (fun _ k => XS.aloadN X0.here hx rfl (hb hby d1_50) rfl rfl k) ?_
    show own_Ends _ _ _ _ _ _ _ T0 (mkF m 51 #[.val (.ref a1), .val (.int p2), .val (.int p3), .val (.int (p3 &&& (255 : Int32))), .val (.int (0 : Int32))] [(.ref a1)])
    refine own_step (fun _ k => XS.iloadN X0.here hx rfl (hb hby d1_51) rfl k) ?_
    show own_Ends _ _ _ _ _ _ _ T0 (mkF m 52 #[.val (.ref a1), .val (.int p2), .val (.int p3), .val (.int (p3 &&& (255 : Int32))), .val (.int (0 : Int32))] [(.int p2), (.ref a1)])
    refine own_step (fun _ k => XS.bipush X0.here hx rfl (hb hby d1_52) k) ?_
    show own_Ends _ _ _ _ _ _ _ T0 (mkF m 54 #[.val (.ref a1), .val (.int p2), .val (.int p3), .val (.int (p3 &&& (255 : Int32))), .val (.int (0 : Int32))] [(.int (37 : Int32)), (.int p2), (.ref a1)])
    obtain ⟨T1, h1, l1, X1, e1, W1, V1, st1⟩ := own_stB X0 hx hZ e0 VA (j := p2) ⟨own_nn hP, (own_lt hP e_14).mpr (by omega)⟩ P (own_clamp hP) (by omega) (g := (mkF m 54 #[.val (.ref a1), .val (.int p2), .val (.int p3), .val (.int (p3 &&& (255 : Int32))), .val (.int (0 : Int32))] [(.int (37 : Int32)), (.int p2), (.ref a1)])) rfl rfl (hb hby d1_54)
    refine own_step st1 ?_
    have N1 := Fr.snoc X1 N0 g_a1
    have Z1 := Nat.le_trans Z0 (Keep.of_wr W1).1
    have KK1 := (Keep.refl h0 [a1]).wr W1 (Or.inl (List.mem_of_getElem? (i := 0) rfl))
    rw [← List.map_set] at V1
    have V_a1_1 : Arv Z h1 a1 kA .byte (14 : Int32) ((xs.set P (37 : Int32)).map Value.int) (.int (0 : Int32)) := V1
    show own_Ends _ _ _ _ _ _ _ T1 (mkF m 55 #[.val (.ref a1), .val (.int p2), .val (.int p3), .val (.int (p3 &&& (255 : Int32))), .val (.int (0 : Int32))] [])
    refine own_step (fun _ k => XS.aloadN X1.here hx rfl (hb hby d1_55) rfl rfl k) ?_
    show own_Ends _ _ _ _ _ _ _ T1 (mkF m 56 #[.val (.ref a1), .val (.int p2), .val (.int p3), .val (.int (p3 &&& (255 : Int32))), .val (.int (0 : Int32))] [(.ref a1)])
    refine own_step (fun _ k => XS.iloadN X1.here hx rfl (hb hby d1_56) rfl k) ?_
    show own_Ends _ _ _ _ _ _ _ T1 (mkF m 57 #[.val (.ref a1), .val (.int p2), .val (.int p3), .val (.int (p3 &&& (255 : Int32))), .val (.int (0 : Int32))] [(.int p2), (.ref a1)])
    refine own_step (fun _ k => XS.iconst X1.here hx rfl (hb hby d1_57) k) ?_
    show own_Ends _ _ _ _ _ _ _ T1 (mkF m 58 #[.val (.ref a1), .val (.int p2), .val (.int p3), .val (.int (p3 &&& (255 : Int32))), .val (.int (0 : Int32))] [(.int (1 : Int32)), (.int p2), (.ref a1)])
    refine own_step (fun _ k => XS.iadd X1.here hx rfl (hb hby d1_58) rfl k) ?_
    show own_Ends _ _ _ _ _ _ _ T1 (mkF m 59 #[.val (.ref a1), .val (.int p2), .val (.int p3), .val (.int (p3 &&& (255 : Int32))), .val (.int (0 : Int32))] [(.int (p2 + (1 : Int32))), (.ref a1)])
    refine own_step (fun _ k => XS.iloadN X1.here hx rfl (hb hby d1_59) rfl k) ?_
    show own_Ends _ _ _ _ _ _ _ T1 (mkF m 60 #[.val (.ref a1), .val (.int p2), .val (.int p3), .val (.int (p3 &&& (255 : Int32))), .val (.int (0 : Int32))] [(.int (p3 &&& (255 : Int32))), (.int (p2 + (1 : Int32))), (.ref a1)])
    refine own_step (fun _ k => XS.iconst X1.here hx rfl (hb hby d1_60) k) ?_
    show own_Ends _ _ _ _ _ _ _ T1 (mkF m 61 #[.val (.ref a1), .val (.int p2), .val (.int p3), .val (.int (p3 &&& (255 : Int32))), .val (.int (0 : Int32))] [(.int (4 : Int32)), (.int (p3 &&& (255 : Int32))), (.int (p2 + (1 : Int32))), (.ref a1)])
    refine own_step (fun _ k => XS.ishr X1.here hx rfl (hb hby d1_61) rfl k) ?_
    show own_Ends _ _ _ _ _ _ _ T1 (mkF m 62 #[.val (.ref a1), .val (.int p2), .val (.int p3), .val (.int (p3 &&& (255 : Int32))), .val (.int (0 : Int32))] [(.int ((p3 &&& (255 : Int32)) >>> ((4 : Int32) &&& 31))), (.int (p2 + (1 : Int32))), (.ref a1)])
    refine own_callS X1 hx hZ (y := (⟨"com/example/gist_hash/gisthash/PercentCodingEscapePinLaw", "hex", "(I)B"⟩ : MethodName)) hown (hw _ (List.mem_of_getElem? (i := 5) rfl)) (hw _ (List.mem_of_getElem? (i := 6) rfl)) (hw _ (List.mem_of_getElem? (i := 3) rfl)) (hw _ (List.mem_of_getElem? (i := 7) rfl)) (by decide) (rm2 l Z a0 hw [] ((p3 &&& (255 : Int32)) >>> ((4 : Int32) &&& 31)) h1 n0 Z1) e1 2 (by decide) (by decide) (by decide) (by decide) (g := (mkF m 62 #[.val (.ref a1), .val (.int p2), .val (.int p3), .val (.int (p3 &&& (255 : Int32))), .val (.int (0 : Int32))] [(.int ((p3 &&& (255 : Int32)) >>> ((4 : Int32) &&& 31))), (.int (p2 + (1 : Int32))), (.ref a1)])) rfl (by rw [hml]; rfl) [(.int ((p3 &&& (255 : Int32)) >>> ((4 : Int32) &&& 31)))] [(.int (p2 + (1 : Int32))), (.ref a1)] pd_0 rfl rfl rfl (by show 2 * 0 + _ ≤ _; exact Nat.le_of_eq rfl) (hb hby d1_62) ?_
    rintro v2 T2 L2 X2 ⟨rfl, Nq2, e2⟩
    have N2 := Fr.app N1 Nq2
    show own_Ends _ _ _ _ _ _ _ T2 (mkF m 65 #[.val (.ref a1), .val (.int p2), .val (.int p3), .val (.int (p3 &&& (255 : Int32))), .val (.int (0 : Int32))] [(.int (own_f2 ((p3 &&& (255 : Int32)) >>> ((4 : Int32) &&& 31)))), (.int (p2 + (1 : Int32))), (.ref a1)])
    obtain ⟨T3, h3, l3, X3, e3, W3, V3, st3⟩ := own_stB X2 hx hZ e2 V_a1_1 (j := (p2 + (1 : Int32))) ⟨own_nn hP1, (own_lt hP1 e_14).mpr (by omega)⟩ (P + 1) (own_clamp hP1) (by rw [List.length_map, List.length_set]; omega) (g := (mkF m 65 #[.val (.ref a1), .val (.int p2), .val (.int p3), .val (.int (p3 &&& (255 : Int32))), .val (.int (0 : Int32))] [(.int (own_f2 ((p3 &&& (255 : Int32)) >>> ((4 : Int32) &&& 31)))), (.int (p2 + (1 : Int32))), (.ref a1)])) rfl rfl (hb hby d1_65)
    refine own_step st3 ?_
    have N3 := Fr.snoc X3 N2 g_a1
    have Z3 := Nat.le_trans Z1 (Keep.of_wr W3).1
    have KK3 := KK1.wr W3 (Or.inl (List.mem_of_getElem? (i := 0) rfl))
    rw [own_hb, ← List.map_set] at V3
    have V_a1_3 : Arv Z h3 a1 kA .byte (14 : Int32) (((xs.set P (37 : Int32)).set (P + 1) (own_f2 ((p3 &&& (255 : Int32)) >>> ((4 : Int32) &&& 31)))).map Value.int) (.int (0 : Int32)) := V3
    show own_Ends _ _ _ _ _ _ _ T3 (mkF m 66 #[.val (.ref a1), .val (.int p2), .val (.int p3), .val (.int (p3 &&& (255 : Int32))), .val (.int (0 : Int32))] [])
    refine own_step (fun _ k => XS.aloadN X3.here hx rfl (hb hby d1_66) rfl rfl k) ?_
    show own_Ends _ _ _ _ _ _ _ T3 (mkF m 67 #[.val (.ref a1), .val (.int p2), .val (.int p3), .val (.int (p3 &&& (255 : Int32))), .val (.int (0 : Int32))] [(.ref a1)])
    refine own_step (fun _ k => XS.iloadN X3.here hx rfl (hb hby d1_67) rfl k) ?_
    show own_Ends _ _ _ _ _ _ _ T3 (mkF m 68 #[.val (.ref a1), .val (.int p2), .val (.int p3), .val (.int (p3 &&& (255 : Int32))), .val (.int (0 : Int32))] [(.int p2), (.ref a1)])
    refine own_step (fun _ k => XS.iconst X3.here hx rfl (hb hby d1_68) k) ?_
    show own_Ends _ _ _ _ _ _ _ T3 (mkF m 69 #[.val (.ref a1), .val (.int p2), .val (.int p3), .val (.int (p3 &&& (255 : Int32))), .val (.int (0 : Int32))] [(.int (2 : Int32)), (.int p2), (.ref a1)])
    refine own_step (fun _ k => XS.iadd X3.here hx rfl (hb hby d1_69) rfl k) ?_
    show own_Ends _ _ _ _ _ _ _ T3 (mkF m 70 #[.val (.ref a1), .val (.int p2), .val (.int p3), .val (.int (p3 &&& (255 : Int32))), .val (.int (0 : Int32))] [(.int (p2 + (2 : Int32))), (.ref a1)])
    refine own_step (fun _ k => XS.iloadN X3.here hx rfl (hb hby d1_70) rfl k) ?_
    show own_Ends _ _ _ _ _ _ _ T3 (mkF m 71 #[.val (.ref a1), .val (.int p2), .val (.int p3), .val (.int (p3 &&& (255 : Int32))), .val (.int (0 : Int32))] [(.int (p3 &&& (255 : Int32))), (.int (p2 + (2 : Int32))), (.ref a1)])
    refine own_step (fun _ k => XS.bipush X3.here hx rfl (hb hby d1_71) k) ?_
    show own_Ends _ _ _ _ _ _ _ T3 (mkF m 73 #[.val (.ref a1), .val (.int p2), .val (.int p3), .val (.int (p3 &&& (255 : Int32))), .val (.int (0 : Int32))] [(.int (15 : Int32)), (.int (p3 &&& (255 : Int32))), (.int (p2 + (2 : Int32))), (.ref a1)])
    refine own_step (fun _ k => XS.iand X3.here hx rfl (hb hby d1_73) rfl k) ?_
    show own_Ends _ _ _ _ _ _ _ T3 (mkF m 74 #[.val (.ref a1), .val (.int p2), .val (.int p3), .val (.int (p3 &&& (255 : Int32))), .val (.int (0 : Int32))] [(.int ((p3 &&& (255 : Int32)) &&& (15 : Int32))), (.int (p2 + (2 : Int32))), (.ref a1)])
    refine own_callS X3 hx hZ (y := (⟨"com/example/gist_hash/gisthash/PercentCodingEscapePinLaw", "hex", "(I)B"⟩ : MethodName)) hown (hw _ (List.mem_of_getElem? (i := 5) rfl)) (hw _ (List.mem_of_getElem? (i := 6) rfl)) (hw _ (List.mem_of_getElem? (i := 3) rfl)) (hw _ (List.mem_of_getElem? (i := 7) rfl)) (by decide) (rm2 l Z a0 hw [] ((p3 &&& (255 : Int32)) &&& (15 : Int32)) h3 n0 Z3) e3 2 (by decide) (by decide) (by decide) (by decide) (g := (mkF m 74 #[.val (.ref a1), .val (.int p2), .val (.int p3), .val (.int (p3 &&& (255 : Int32))), .val (.int (0 : Int32))] [(.int ((p3 &&& (255 : Int32)) &&& (15 : Int32))), (.int (p2 + (2 : Int32))), (.ref a1)])) rfl (by rw [hml]; rfl) [(.int ((p3 &&& (255 : Int32)) &&& (15 : Int32)))] [(.int (p2 + (2 : Int32))), (.ref a1)] pd_0 rfl rfl rfl (by show 2 * 0 + _ ≤ _; exact Nat.le_of_eq rfl) (hb hby d1_74) ?_
    rintro v4 T4 L4 X4 ⟨rfl, Nq4, e4⟩
    have N4 := Fr.app N3 Nq4
    show own_Ends _ _ _ _ _ _ _ T4 (mkF m 77 #[.val (.ref a1), .val (.int p2), .val (.int p3), .val (.int (p3 &&& (255 : Int32))), .val (.int (0 : Int32))] [(.int (own_f2 ((p3 &&& (255 : Int32)) &&& (15 : Int32)))), (.int (p2 + (2 : Int32))), (.ref a1)])
    obtain ⟨T5, h5, l5, X5, e5, W5, V5, st5⟩ := own_stB X4 hx hZ e4 V_a1_3 (j := (p2 + (2 : Int32))) ⟨own_nn hP2, (own_lt hP2 e_14).mpr (by omega)⟩ (P + 2) (own_clamp hP2) (by rw [List.length_map, List.length_set, List.length_set]; omega) (g := (mkF m 77 #[.val (.ref a1), .val (.int p2), .val (.int p3), .val (.int (p3 &&& (255 : Int32))), .val (.int (0 : Int32))] [(.int (own_f2 ((p3 &&& (255 : Int32)) &&& (15 : Int32)))), (.int (p2 + (2 : Int32))), (.ref a1)])) rfl rfl (hb hby d1_77)
    refine own_step st5 ?_
    have N5 := Fr.snoc X5 N4 g_a1
    have Z5 := Nat.le_trans Z3 (Keep.of_wr W5).1
    have KK5 := KK3.wr W5 (Or.inl (List.mem_of_getElem? (i := 0) rfl))
    rw [own_hb, ← List.map_set] at V5
    have V_a1_5 : Arv Z h5 a1 kA .byte (14 : Int32) ((((xs.set P (37 : Int32)).set (P + 1) (own_f2 ((p3 &&& (255 : Int32)) >>> ((4 : Int32) &&& 31)))).set (P + 2) (own_f2 ((p3 &&& (255 : Int32)) &&& (15 : Int32)))).map Value.int) (.int (0 : Int32)) := V5
    show own_Ends _ _ _ _ _ _ _ T5 (mkF m 78 #[.val (.ref a1), .val (.int p2), .val (.int p3), .val (.int (p3 &&& (255 : Int32))), .val (.int (0 : Int32))] [])
    refine own_step (fun _ k => XS.iloadN X5.here hx rfl (hb hby d1_78) rfl k) ?_
    show own_Ends _ _ _ _ _ _ _ T5 (mkF m 79 #[.val (.ref a1), .val (.int p2), .val (.int p3), .val (.int (p3 &&& (255 : Int32))), .val (.int (0 : Int32))] [(.int p2)])
    refine own_step (fun _ k => XS.iconst X5.here hx rfl (hb hby d1_79) k) ?_
    show own_Ends _ _ _ _ _ _ _ T5 (mkF m 80 #[.val (.ref a1), .val (.int p2), .val (.int p3), .val (.int (p3 &&& (255 : Int32))), .val (.int (0 : Int32))] [(.int (3 : Int32)), (.int p2)])
    refine own_step (fun _ k => XS.iadd X5.here hx rfl (hb hby d1_80) rfl k) ?_
    show own_Ends _ _ _ _ _ _ _ T5 (mkF m 81 #[.val (.ref a1), .val (.int p2), .val (.int p3), .val (.int (p3 &&& (255 : Int32))), .val (.int (0 : Int32))] [(.int (p2 + (3 : Int32)))])
    exact own_retI X5 hx hret hlk (hb hby d1_81) (by rw [e5]; exact ⟨_, by rw [hen]; exact hP3, rfl, N5, KK5, by rw [hen]; exact V_a1_5⟩) (by decide) (by decide)
  refine own_step (fun _ k => XS.iloadN X0.here hx rfl (hb hby d1_0) rfl k) ?_
  show own_Ends _ _ _ _ _ _ _ T0 (mkF m 1 #[.val (.ref a1), .val (.int p2), .val (.int p3), .unset, .unset] [(.int p3)])
  refine own_step (fun _ k => XS.sipush X0.here hx rfl (hb hby d1_1) k) ?_
  show own_Ends _ _ _ _ _ _ _ T0 (mkF m 4 #[.val (.ref a1), .val (.int p2), .val (.int p3), .unset, .unset] [(.int (255 : Int32)), (.int p3)])
  refine own_step (fun _ k => XS.iand X0.here hx rfl (hb hby d1_4) rfl k) ?_
  show own_Ends _ _ _ _ _ _ _ T0 (mkF m 5 #[.val (.ref a1), .val (.int p2), .val (.int p3), .unset, .unset] [(.int (p3 &&& (255 : Int32)))])
  refine own_step (fun _ k => XS.istoreN X0.here hx rfl (hb hby d1_5) rfl (l' := #[.val (.ref a1), .val (.int p2), .val (.int p3), .val (.int (p3 &&& (255 : Int32))), .unset]) rfl k) ?_
  show own_Ends _ _ _ _ _ _ _ T0 (mkF m 6 #[.val (.ref a1), .val (.int p2), .val (.int p3), .val (.int (p3 &&& (255 : Int32))), .unset] [])
  refine own_step (fun _ k => XS.iloadN X0.here hx rfl (hb hby d1_6) rfl k) ?_
  show own_Ends _ _ _ _ _ _ _ T0 (mkF m 7 #[.val (.ref a1), .val (.int p2), .val (.int p3), .val (.int (p3 &&& (255 : Int32))), .unset] [(.int (p3 &&& (255 : Int32)))])
  refine own_step (fun _ k => XS.bipush X0.here hx rfl (hb hby d1_7) k) ?_
  show own_Ends _ _ _ _ _ _ _ T0 (mkF m 9 #[.val (.ref a1), .val (.int p2), .val (.int p3), .val (.int (p3 &&& (255 : Int32))), .unset] [(.int (33 : Int32)), (.int (p3 &&& (255 : Int32)))])
  by_cases hc6 : (p3 &&& (255 : Int32)) < (33 : Int32)
  · refine own_step (fun _ k => XS.icmpYes X0.here hx rfl (pc0 := 9) (pc' := 34) rfl (hb hby d1_9) rfl (tlt hc6).1 (by decide) (by decide) k) ?_
    show own_Ends _ _ _ _ _ _ _ T0 (mkF m 34 #[.val (.ref a1), .val (.int p2), .val (.int p3), .val (.int (p3 &&& (255 : Int32))), .unset] [])
    refine own_step (fun _ k => XS.iconst X0.here hx rfl (hb hby d1_34) k) ?_
    show own_Ends _ _ _ _ _ _ _ T0 (mkF m 35 #[.val (.ref a1), .val (.int p2), .val (.int p3), .val (.int (p3 &&& (255 : Int32))), .unset] [(.int (0 : Int32))])
    refine own_step (fun _ k => XS.istore X0.here hx rfl (hb hby d1_35) rfl (l' := #[.val (.ref a1), .val (.int p2), .val (.int p3), .val (.int (p3 &&& (255 : Int32))), .val (.int (0 : Int32))]) rfl k) ?_
    show own_Ends _ _ _ _ _ _ _ T0 (mkF m 37 #[.val (.ref a1), .val (.int p2), .val (.int p3), .val (.int (p3 &&& (255 : Int32))), .val (.int (0 : Int32))] [])
    refine own_step (fun _ k => XS.iload X0.here hx rfl (hb hby d1_37) rfl k) ?_
    show own_Ends _ _ _ _ _ _ _ T0 (mkF m 39 #[.val (.ref a1), .val (.int p2), .val (.int p3), .val (.int (p3 &&& (255 : Int32))), .val (.int (0 : Int32))] [(.int (0 : Int32))])
    refine own_step (fun _ k => XS.ifYes X0.here hx rfl (pc0 := 39) (pc' := 50) rfl (hb hby d1_39) rfl ((if0 _ _).trans (teq (by decide : (0 : Int32) = (0 : Int32))).1) (by decide) (by decide) k) ?_
    show own_Ends _ _ _ _ _ _ _ T0 (mkF m 50 #[.val (.ref a1), .val (.int p2), .val (.int p3), .val (.int (p3 &&& (255 : Int32))), .val (.int (0 : Int32))] [])
    exact key (fun q => ((own_esc p3).mp q).1 hc6)
  · refine own_step (fun _ k => XS.icmpNo X0.here hx rfl (hb hby d1_9) rfl (flt hc6).1 k) ?_
    show own_Ends _ _ _ _ _ _ _ T0 (mkF m 12 #[.val (.ref a1), .val (.int p2), .val (.int p3), .val (.int (p3 &&& (255 : Int32))), .unset] [])
    refine own_step (fun _ k => XS.iloadN X0.here hx rfl (hb hby d1_12) rfl k) ?_
    show own_Ends _ _ _ _ _ _ _ T0 (mkF m 13 #[.val (.ref a1), .val (.int p2), .val (.int p3), .val (.int (p3 &&& (255 : Int32))), .unset] [(.int (p3 &&& (255 : Int32)))])
    refine own_step (fun _ k => XS.bipush X0.here hx rfl (hb hby d1_13) k) ?_
    show own_Ends _ _ _ _ _ _ _ T0 (mkF m 15 #[.val (.ref a1), .val (.int p2), .val (.int p3), .val (.int (p3 &&& (255 : Int32))), .unset] [(.int (126 : Int32)), (.int (p3 &&& (255 : Int32)))])
    by_cases hc7 : (126 : Int32) < (p3 &&& (255 : Int32))
    · refine own_step (fun _ k => XS.icmpYes X0.here hx rfl (pc0 := 15) (pc' := 34) rfl (hb hby d1_15) rfl (tlt hc7).2.2.1 (by decide) (by decide) k) ?_
      show own_Ends _ _ _ _ _ _ _ T0 (mkF m 34 #[.val (.ref a1), .val (.int p2), .val (.int p3), .val (.int (p3 &&& (255 : Int32))), .unset] [])
      refine own_step (fun _ k => XS.iconst X0.here hx rfl (hb hby d1_34) k) ?_
      show own_Ends _ _ _ _ _ _ _ T0 (mkF m 35 #[.val (.ref a1), .val (.int p2), .val (.int p3), .val (.int (p3 &&& (255 : Int32))), .unset] [(.int (0 : Int32))])
      refine own_step (fun _ k => XS.istore X0.here hx rfl (hb hby d1_35) rfl (l' := #[.val (.ref a1), .val (.int p2), .val (.int p3), .val (.int (p3 &&& (255 : Int32))), .val (.int (0 : Int32))]) rfl k) ?_
      show own_Ends _ _ _ _ _ _ _ T0 (mkF m 37 #[.val (.ref a1), .val (.int p2), .val (.int p3), .val (.int (p3 &&& (255 : Int32))), .val (.int (0 : Int32))] [])
      refine own_step (fun _ k => XS.iload X0.here hx rfl (hb hby d1_37) rfl k) ?_
      show own_Ends _ _ _ _ _ _ _ T0 (mkF m 39 #[.val (.ref a1), .val (.int p2), .val (.int p3), .val (.int (p3 &&& (255 : Int32))), .val (.int (0 : Int32))] [(.int (0 : Int32))])
      refine own_step (fun _ k => XS.ifYes X0.here hx rfl (pc0 := 39) (pc' := 50) rfl (hb hby d1_39) rfl ((if0 _ _).trans (teq (by decide : (0 : Int32) = (0 : Int32))).1) (by decide) (by decide) k) ?_
      show own_Ends _ _ _ _ _ _ _ T0 (mkF m 50 #[.val (.ref a1), .val (.int p2), .val (.int p3), .val (.int (p3 &&& (255 : Int32))), .val (.int (0 : Int32))] [])
      exact key (fun q => ((own_esc p3).mp q).2.1 hc7)
    · refine own_step (fun _ k => XS.icmpNo X0.here hx rfl (hb hby d1_15) rfl (flt hc7).2.2.1 k) ?_
      show own_Ends _ _ _ _ _ _ _ T0 (mkF m 18 #[.val (.ref a1), .val (.int p2), .val (.int p3), .val (.int (p3 &&& (255 : Int32))), .unset] [])
      refine own_step (fun _ k => XS.iloadN X0.here hx rfl (hb hby d1_18) rfl k) ?_
      show own_Ends _ _ _ _ _ _ _ T0 (mkF m 19 #[.val (.ref a1), .val (.int p2), .val (.int p3), .val (.int (p3 &&& (255 : Int32))), .unset] [(.int (p3 &&& (255 : Int32)))])
      refine own_step (fun _ k => XS.bipush X0.here hx rfl (hb hby d1_19) k) ?_
      show own_Ends _ _ _ _ _ _ _ T0 (mkF m 21 #[.val (.ref a1), .val (.int p2), .val (.int p3), .val (.int (p3 &&& (255 : Int32))), .unset] [(.int (35 : Int32)), (.int (p3 &&& (255 : Int32)))])
      by_cases hc8 : (p3 &&& (255 : Int32)) = (35 : Int32)
      · refine own_step (fun _ k => XS.icmpYes X0.here hx rfl (pc0 := 21) (pc' := 34) rfl (hb hby d1_21) rfl (teq hc8).1 (by decide) (by decide) k) ?_
        show own_Ends _ _ _ _ _ _ _ T0 (mkF m 34 #[.val (.ref a1), .val (.int p2), .val (.int p3), .val (.int (p3 &&& (255 : Int32))), .unset] [])
        refine own_step (fun _ k => XS.iconst X0.here hx rfl (hb hby d1_34) k) ?_
        show own_Ends _ _ _ _ _ _ _ T0 (mkF m 35 #[.val (.ref a1), .val (.int p2), .val (.int p3), .val (.int (p3 &&& (255 : Int32))), .unset] [(.int (0 : Int32))])
        refine own_step (fun _ k => XS.istore X0.here hx rfl (hb hby d1_35) rfl (l' := #[.val (.ref a1), .val (.int p2), .val (.int p3), .val (.int (p3 &&& (255 : Int32))), .val (.int (0 : Int32))]) rfl k) ?_
        show own_Ends _ _ _ _ _ _ _ T0 (mkF m 37 #[.val (.ref a1), .val (.int p2), .val (.int p3), .val (.int (p3 &&& (255 : Int32))), .val (.int (0 : Int32))] [])
        refine own_step (fun _ k => XS.iload X0.here hx rfl (hb hby d1_37) rfl k) ?_
        show own_Ends _ _ _ _ _ _ _ T0 (mkF m 39 #[.val (.ref a1), .val (.int p2), .val (.int p3), .val (.int (p3 &&& (255 : Int32))), .val (.int (0 : Int32))] [(.int (0 : Int32))])
        refine own_step (fun _ k => XS.ifYes X0.here hx rfl (pc0 := 39) (pc' := 50) rfl (hb hby d1_39) rfl ((if0 _ _).trans (teq (by decide : (0 : Int32) = (0 : Int32))).1) (by decide) (by decide) k) ?_
        show own_Ends _ _ _ _ _ _ _ T0 (mkF m 50 #[.val (.ref a1), .val (.int p2), .val (.int p3), .val (.int (p3 &&& (255 : Int32))), .val (.int (0 : Int32))] [])
        exact key (fun q => ((own_esc p3).mp q).2.2.1 hc8)
      · refine own_step (fun _ k => XS.icmpNo X0.here hx rfl (hb hby d1_21) rfl (feq hc8).1 k) ?_
        show own_Ends _ _ _ _ _ _ _ T0 (mkF m 24 #[.val (.ref a1), .val (.int p2), .val (.int p3), .val (.int (p3 &&& (255 : Int32))), .unset] [])
        refine own_step (fun _ k => XS.iloadN X0.here hx rfl (hb hby d1_24) rfl k) ?_
        show own_Ends _ _ _ _ _ _ _ T0 (mkF m 25 #[.val (.ref a1), .val (.int p2), .val (.int p3), .val (.int (p3 &&& (255 : Int32))), .unset] [(.int (p3 &&& (255 : Int32)))])
        refine own_step (fun _ k => XS.bipush X0.here hx rfl (hb hby d1_25) k) ?_
        show own_Ends _ _ _ _ _ _ _ T0 (mkF m 27 #[.val (.ref a1), .val (.int p2), .val (.int p3), .val (.int (p3 &&& (255 : Int32))), .unset] [(.int (37 : Int32)), (.int (p3 &&& (255 : Int32)))])
        by_cases hc9 : (p3 &&& (255 : Int32)) = (37 : Int32)
        · refine own_step (fun _ k => XS.icmpYes X0.here hx rfl (pc0 := 27) (pc' := 34) rfl (hb hby d1_27) rfl (teq hc9).1 (by decide) (by decide) k) ?_
          show own_Ends _ _ _ _ _ _ _ T0 (mkF m 34 #[.val (.ref a1), .val (.int p2), .val (.int p3), .val (.int (p3 &&& (255 : Int32))), .unset] [])
          refine own_step (fun _ k => XS.iconst X0.here hx rfl (hb hby d1_34) k) ?_
          show own_Ends _ _ _ _ _ _ _ T0 (mkF m 35 #[.val (.ref a1), .val (.int p2), .val (.int p3), .val (.int (p3 &&& (255 : Int32))), .unset] [(.int (0 : Int32))])
          refine own_step (fun _ k => XS.istore X0.here hx rfl (hb hby d1_35) rfl (l' := #[.val (.ref a1), .val (.int p2), .val (.int p3), .val (.int (p3 &&& (255 : Int32))), .val (.int (0 : Int32))]) rfl k) ?_
          show own_Ends _ _ _ _ _ _ _ T0 (mkF m 37 #[.val (.ref a1), .val (.int p2), .val (.int p3), .val (.int (p3 &&& (255 : Int32))), .val (.int (0 : Int32))] [])
          refine own_step (fun _ k => XS.iload X0.here hx rfl (hb hby d1_37) rfl k) ?_
          show own_Ends _ _ _ _ _ _ _ T0 (mkF m 39 #[.val (.ref a1), .val (.int p2), .val (.int p3), .val (.int (p3 &&& (255 : Int32))), .val (.int (0 : Int32))] [(.int (0 : Int32))])
          refine own_step (fun _ k => XS.ifYes X0.here hx rfl (pc0 := 39) (pc' := 50) rfl (hb hby d1_39) rfl ((if0 _ _).trans (teq (by decide : (0 : Int32) = (0 : Int32))).1) (by decide) (by decide) k) ?_
          show own_Ends _ _ _ _ _ _ _ T0 (mkF m 50 #[.val (.ref a1), .val (.int p2), .val (.int p3), .val (.int (p3 &&& (255 : Int32))), .val (.int (0 : Int32))] [])
          exact key (fun q => ((own_esc p3).mp q).2.2.2 hc9)
        · refine own_step (fun _ k => XS.icmpNo X0.here hx rfl (hb hby d1_27) rfl (feq hc9).1 k) ?_
          show own_Ends _ _ _ _ _ _ _ T0 (mkF m 30 #[.val (.ref a1), .val (.int p2), .val (.int p3), .val (.int (p3 &&& (255 : Int32))), .unset] [])
          refine own_step (fun _ k => XS.iconst X0.here hx rfl (hb hby d1_30) k) ?_
          show own_Ends _ _ _ _ _ _ _ T0 (mkF m 31 #[.val (.ref a1), .val (.int p2), .val (.int p3), .val (.int (p3 &&& (255 : Int32))), .unset] [(.int (1 : Int32))])
          refine own_step (fun _ k => XS.goto X0.here hx rfl (pc0 := 31) (pc' := 35) rfl (hb hby d1_31) (by decide) (by decide) k) ?_
          show own_Ends _ _ _ _ _ _ _ T0 (mkF m 35 #[.val (.ref a1), .val (.int p2), .val (.int p3), .val (.int (p3 &&& (255 : Int32))), .unset] [(.int (1 : Int32))])
          refine own_step (fun _ k => XS.istore X0.here hx rfl (hb hby d1_35) rfl (l' := #[.val (.ref a1), .val (.int p2), .val (.int p3), .val (.int (p3 &&& (255 : Int32))), .val (.int (1 : Int32))]) rfl k) ?_
          show own_Ends _ _ _ _ _ _ _ T0 (mkF m 37 #[.val (.ref a1), .val (.int p2), .val (.int p3), .val (.int (p3 &&& (255 : Int32))), .val (.int (1 : Int32))] [])
          refine own_step (fun _ k => XS.iload X0.here hx rfl (hb hby d1_37) rfl k) ?_
          show own_Ends _ _ _ _ _ _ _ T0 (mkF m 39 #[.val (.ref a1), .val (.int p2), .val (.int p3), .val (.int (p3 &&& (255 : Int32))), .val (.int (1 : Int32))] [(.int (1 : Int32))])
          refine own_step (fun _ k => XS.ifNo X0.here hx rfl (hb hby d1_39) rfl ((if0 _ _).trans (feq (by decide : ¬ ((1 : Int32) = (0 : Int32)))).1) k) ?_
          show own_Ends _ _ _ _ _ _ _ T0 (mkF m 42 #[.val (.ref a1), .val (.int p2), .val (.int p3), .val (.int (p3 &&& (255 : Int32))), .val (.int (1 : Int32))] [])
          refine own_step (fun _ k => XS.aloadN X0.here hx rfl (hb hby d1_42) rfl rfl k) ?_
          show own_Ends _ _ _ _ _ _ _ T0 (mkF m 43 #[.val (.ref a1), .val (.int p2), .val (.int p3), .val (.int (p3 &&& (255 : Int32))), .val (.int (1 : Int32))] [(.ref a1)])
          refine own_step (fun _ k => XS.iloadN X0.here hx rfl (hb hby d1_43) rfl k) ?_
          show own_Ends _ _ _ _ _ _ _ T0 (mkF m 44 #[.val (.ref a1), .val (.int p2), .val (.int p3), .val (.int (p3 &&& (255 : Int32))), .val (.int (1 : Int32))] [(.int p2), (.ref a1)])
          refine own_step (fun _ k => XS.iloadN X0.here hx rfl (hb hby d1_44) rfl k) ?_
          show own_Ends _ _ _ _ _ _ _ T0 (mkF m 45 #[.val (.ref a1), .val (.int p2), .val (.int p3), .val (.int (p3 &&& (255 : Int32))), .val (.int (1 : Int32))] [(.int p3), (.int p2), (.ref a1)])
          have hq : (own_f4 p3) = (0 : Int32) := (own_esc p3).mpr ⟨hc6, hc7, hc8, hc9⟩
          have hen : own_enc p3 = [p3] := if_pos hq
          have hP1 := own_add hP e_1 (by omega)
          obtain ⟨T10, h10, l10, X10, e10, W10, V10, st10⟩ := own_stB X0 hx hZ e0 VA (j := p2) ⟨own_nn hP, (own_lt hP e_14).mpr (by omega)⟩ P (own_clamp hP) (by omega) (g := (mkF m 45 #[.val (.ref a1), .val (.int p2), .val (.int p3), .val (.int (p3 &&& (255 : Int32))), .val (.int (1 : Int32))] [(.int p3), (.int p2), (.ref a1)])) rfl rfl (hb hby d1_45)
          refine own_step st10 ?_
          have N10 := Fr.snoc X10 N0 g_a1
          have Z10 := Nat.le_trans Z0 (Keep.of_wr W10).1
          have KK10 := (Keep.refl h0 [a1]).wr W10 (Or.inl (List.mem_of_getElem? (i := 0) rfl))
          rw [hb3, ← List.map_set] at V10
          have V_a1_10 : Arv Z h10 a1 kA .byte (14 : Int32) ((xs.set P p3).map Value.int) (.int (0 : Int32)) := V10
          show own_Ends _ _ _ _ _ _ _ T10 (mkF m 46 #[.val (.ref a1), .val (.int p2), .val (.int p3), .val (.int (p3 &&& (255 : Int32))), .val (.int (1 : Int32))] [])
          refine own_step (fun _ k => XS.iloadN X10.here hx rfl (hb hby d1_46) rfl k) ?_
          show own_Ends _ _ _ _ _ _ _ T10 (mkF m 47 #[.val (.ref a1), .val (.int p2), .val (.int p3), .val (.int (p3 &&& (255 : Int32))), .val (.int (1 : Int32))] [(.int p2)])
          refine own_step (fun _ k => XS.iconst X10.here hx rfl (hb hby d1_47) k) ?_
          show own_Ends _ _ _ _ _ _ _ T10 (mkF m 48 #[.val (.ref a1), .val (.int p2), .val (.int p3), .val (.int (p3 &&& (255 : Int32))), .val (.int (1 : Int32))] [(.int (1 : Int32)), (.int p2)])
          refine own_step (fun _ k => XS.iadd X10.here hx rfl (hb hby d1_48) rfl k) ?_
          show own_Ends _ _ _ _ _ _ _ T10 (mkF m 49 #[.val (.ref a1), .val (.int p2), .val (.int p3), .val (.int (p3 &&& (255 : Int32))), .val (.int (1 : Int32))] [(.int (p2 + (1 : Int32)))])
          exact own_retI X10 hx hret hlk (hb hby d1_49) (by rw [e10]; exact ⟨_, by rw [hen]; exact hP1, rfl, N10, KK10, by rw [hen]; exact V_a1_10⟩) (by decide) (by decide)
theorem d5_0 : decode method_5_code 0 = .ok (.aload_n 0, 1) := by decide +kernel
theorem d5_1 : decode method_5_code 1 = .ok (.iconst 0, 1) := by decide +kernel
theorem d5_2 : decode method_5_code 2 = .ok (.baload, 1) := by decide +kernel
theorem d5_3 : decode method_5_code 3 = .ok (.aload_n 1, 1) := by decide +kernel
theorem d5_4 : decode method_5_code 4 = .ok (.iconst 0, 1) := by decide +kernel
theorem d5_5 : decode method_5_code 5 = .ok (.baload, 1) := by decide +kernel
theorem d5_6 : decode method_5_code 6 = .ok (.if_icmp .ne 140, 3) := by decide +kernel
theorem d5_9 : decode method_5_code 9 = .ok (.aload_n 0, 1) := by decide +kernel
theorem d5_10 : decode method_5_code 10 = .ok (.iconst 1, 1) := by decide +kernel
theorem d5_11 : decode method_5_code 11 = .ok (.baload, 1) := by decide +kernel
theorem d5_12 : decode method_5_code 12 = .ok (.aload_n 1, 1) := by decide +kernel
theorem d5_13 : decode method_5_code 13 = .ok (.iconst 1, 1) := by decide +kernel
theorem d5_14 : decode method_5_code 14 = .ok (.baload, 1) := by decide +kernel
theorem d5_15 : decode method_5_code 15 = .ok (.if_icmp .ne 131, 3) := by decide +kernel
theorem d5_18 : decode method_5_code 18 = .ok (.aload_n 0, 1) := by decide +kernel
theorem d5_19 : decode method_5_code 19 = .ok (.iconst 2, 1) := by decide +kernel
theorem d5_20 : decode method_5_code 20 = .ok (.baload, 1) := by decide +kernel
theorem d5_21 : decode method_5_code 21 = .ok (.aload_n 1, 1) := by decide +kernel
theorem d5_22 : decode method_5_code 22 = .ok (.iconst 2, 1) := by decide +kernel
theorem d5_23 : decode method_5_code 23 = .ok (.baload, 1) := by decide +kernel
theorem d5_24 : decode method_5_code 24 = .ok (.if_icmp .ne 122, 3) := by decide +kernel
theorem d5_27 : decode method_5_code 27 = .ok (.aload_n 0, 1) := by decide +kernel
theorem d5_28 : decode method_5_code 28 = .ok (.iconst 3, 1) := by decide +kernel
theorem d5_29 : decode method_5_code 29 = .ok (.baload, 1) := by decide +kernel
theorem d5_30 : decode method_5_code 30 = .ok (.aload_n 1, 1) := by decide +kernel
theorem d5_31 : decode method_5_code 31 = .ok (.iconst 3, 1) := by decide +kernel
theorem d5_32 : decode method_5_code 32 = .ok (.baload, 1) := by decide +kernel
theorem d5_33 : decode method_5_code 33 = .ok (.if_icmp .ne 113, 3) := by decide +kernel
theorem d5_36 : decode method_5_code 36 = .ok (.aload_n 0, 1) := by decide +kernel
theorem d5_37 : decode method_5_code 37 = .ok (.iconst 4, 1) := by decide +kernel
theorem d5_38 : decode method_5_code 38 = .ok (.baload, 1) := by decide +kernel
theorem d5_39 : decode method_5_code 39 = .ok (.aload_n 1, 1) := by decide +kernel
theorem d5_40 : decode method_5_code 40 = .ok (.iconst 4, 1) := by decide +kernel
theorem d5_41 : decode method_5_code 41 = .ok (.baload, 1) := by decide +kernel
theorem d5_42 : decode method_5_code 42 = .ok (.if_icmp .ne 104, 3) := by decide +kernel
theorem d5_45 : decode method_5_code 45 = .ok (.aload_n 0, 1) := by decide +kernel
theorem d5_46 : decode method_5_code 46 = .ok (.iconst 5, 1) := by decide +kernel
theorem d5_47 : decode method_5_code 47 = .ok (.baload, 1) := by decide +kernel
theorem d5_48 : decode method_5_code 48 = .ok (.aload_n 1, 1) := by decide +kernel
theorem d5_49 : decode method_5_code 49 = .ok (.iconst 5, 1) := by decide +kernel
theorem d5_50 : decode method_5_code 50 = .ok (.baload, 1) := by decide +kernel
theorem d5_51 : decode method_5_code 51 = .ok (.if_icmp .ne 95, 3) := by decide +kernel
theorem d5_54 : decode method_5_code 54 = .ok (.aload_n 0, 1) := by decide +kernel
theorem d5_55 : decode method_5_code 55 = .ok (.bipush 6, 2) := by decide +kernel
theorem d5_57 : decode method_5_code 57 = .ok (.baload, 1) := by decide +kernel
theorem d5_58 : decode method_5_code 58 = .ok (.aload_n 1, 1) := by decide +kernel
theorem d5_59 : decode method_5_code 59 = .ok (.bipush 6, 2) := by decide +kernel
theorem d5_61 : decode method_5_code 61 = .ok (.baload, 1) := by decide +kernel
theorem d5_62 : decode method_5_code 62 = .ok (.if_icmp .ne 84, 3) := by decide +kernel
theorem d5_65 : decode method_5_code 65 = .ok (.aload_n 0, 1) := by decide +kernel
theorem d5_66 : decode method_5_code 66 = .ok (.bipush 7, 2) := by decide +kernel
theorem d5_68 : decode method_5_code 68 = .ok (.baload, 1) := by decide +kernel
theorem d5_69 : decode method_5_code 69 = .ok (.aload_n 1, 1) := by decide +kernel
theorem d5_70 : decode method_5_code 70 = .ok (.bipush 7, 2) := by decide +kernel
theorem d5_72 : decode method_5_code 72 = .ok (.baload, 1) := by decide +kernel
theorem d5_73 : decode method_5_code 73 = .ok (.if_icmp .ne 73, 3) := by decide +kernel
theorem d5_76 : decode method_5_code 76 = .ok (.aload_n 0, 1) := by decide +kernel
theorem d5_77 : decode method_5_code 77 = .ok (.bipush 8, 2) := by decide +kernel
theorem d5_79 : decode method_5_code 79 = .ok (.baload, 1) := by decide +kernel
theorem d5_80 : decode method_5_code 80 = .ok (.aload_n 1, 1) := by decide +kernel
theorem d5_81 : decode method_5_code 81 = .ok (.bipush 8, 2) := by decide +kernel
theorem d5_83 : decode method_5_code 83 = .ok (.baload, 1) := by decide +kernel
theorem d5_84 : decode method_5_code 84 = .ok (.if_icmp .ne 62, 3) := by decide +kernel
theorem d5_87 : decode method_5_code 87 = .ok (.aload_n 0, 1) := by decide +kernel
theorem d5_88 : decode method_5_code 88 = .ok (.bipush 9, 2) := by decide +kernel
theorem d5_90 : decode method_5_code 90 = .ok (.baload, 1) := by decide +kernel
theorem d5_91 : decode method_5_code 91 = .ok (.aload_n 1, 1) := by decide +kernel
theorem d5_92 : decode method_5_code 92 = .ok (.bipush 9, 2) := by decide +kernel
theorem d5_94 : decode method_5_code 94 = .ok (.baload, 1) := by decide +kernel
theorem d5_95 : decode method_5_code 95 = .ok (.if_icmp .ne 51, 3) := by decide +kernel
theorem d5_98 : decode method_5_code 98 = .ok (.aload_n 0, 1) := by decide +kernel
theorem d5_99 : decode method_5_code 99 = .ok (.bipush 10, 2) := by decide +kernel
theorem d5_101 : decode method_5_code 101 = .ok (.baload, 1) := by decide +kernel
theorem d5_102 : decode method_5_code 102 = .ok (.aload_n 1, 1) := by decide +kernel
theorem d5_103 : decode method_5_code 103 = .ok (.bipush 10, 2) := by decide +kernel
theorem d5_105 : decode method_5_code 105 = .ok (.baload, 1) := by decide +kernel
theorem d5_106 : decode method_5_code 106 = .ok (.if_icmp .ne 40, 3) := by decide +kernel
theorem d5_109 : decode method_5_code 109 = .ok (.aload_n 0, 1) := by decide +kernel
theorem d5_110 : decode method_5_code 110 = .ok (.bipush 11, 2) := by decide +kernel
theorem d5_112 : decode method_5_code 112 = .ok (.baload, 1) := by decide +kernel
theorem d5_113 : decode method_5_code 113 = .ok (.aload_n 1, 1) := by decide +kernel
theorem d5_114 : decode method_5_code 114 = .ok (.bipush 11, 2) := by decide +kernel
theorem d5_116 : decode method_5_code 116 = .ok (.baload, 1) := by decide +kernel
theorem d5_117 : decode method_5_code 117 = .ok (.if_icmp .ne 29, 3) := by decide +kernel
theorem d5_120 : decode method_5_code 120 = .ok (.aload_n 0, 1) := by decide +kernel
theorem d5_121 : decode method_5_code 121 = .ok (.bipush 12, 2) := by decide +kernel
theorem d5_123 : decode method_5_code 123 = .ok (.baload, 1) := by decide +kernel
theorem d5_124 : decode method_5_code 124 = .ok (.aload_n 1, 1) := by decide +kernel
theorem d5_125 : decode method_5_code 125 = .ok (.bipush 12, 2) := by decide +kernel
theorem d5_127 : decode method_5_code 127 = .ok (.baload, 1) := by decide +kernel
theorem d5_128 : decode method_5_code 128 = .ok (.if_icmp .ne 18, 3) := by decide +kernel
theorem d5_131 : decode method_5_code 131 = .ok (.aload_n 0, 1) := by decide +kernel
theorem d5_132 : decode method_5_code 132 = .ok (.bipush 13, 2) := by decide +kernel
theorem d5_134 : decode method_5_code 134 = .ok (.baload, 1) := by decide +kernel
theorem d5_135 : decode method_5_code 135 = .ok (.aload_n 1, 1) := by decide +kernel
theorem d5_136 : decode method_5_code 136 = .ok (.bipush 13, 2) := by decide +kernel
theorem d5_138 : decode method_5_code 138 = .ok (.baload, 1) := by decide +kernel
theorem d5_139 : decode method_5_code 139 = .ok (.if_icmp .ne 7, 3) := by decide +kernel
theorem d5_142 : decode method_5_code 142 = .ok (.iconst 1, 1) := by decide +kernel
theorem d5_143 : decode method_5_code 143 = .ok (.goto 4, 3) := by decide +kernel
theorem d5_146 : decode method_5_code 146 = .ok (.iconst 0, 1) := by decide +kernel
theorem d5_147 : decode method_5_code 147 = .ok (.ireturn, 1) := by decide +kernel
theorem ef_5 (a1 : Addr) (a2 : Addr) (m : MethodId) : entryFrame m #[(.ref a1), (.ref a2)] 2 = mkF m 0 #[.val (.ref a1), .val (.ref a2)] [] := by first | (simp [entryFrame, mkF, argsToLocals, Value.category]; done) | rfl
set_option maxRecDepth 65536 in
set_option maxHeartbeats 40000000 in
theorem rm5 (l : Launch) (Z : State) (a0 : Array Value) (hw : ∀ d ∈ tables_1, d.before a0 Z = true) (ws : List Jvm.Cond) (a1 : Addr) (a2 : Addr) (k1 k2 : ClassId) (xs : List Int32) (h0 : Heap) (n0 : Nat) (Z0 : n0 ≤ h0.size) (V1 : Arv Z h0 a1 k1 .byte (14 : Int32) (xs.map Value.int) (.int (0 : Int32))) (V2 : Arv Z h0 a2 k2 .byte (14 : Int32) (xs.map Value.int) (.int (0 : Int32))) :
    own_Met l (⟨"com/example/gist_hash/gisthash/PercentCodingEscapePinLaw", "same", "([B[B)Z"⟩ : MethodName) method_5_code 2 (some .boolean) ws ({ frames := 0, cells := 0, slots := 0, locals := 0 } : Room) #[(.ref a1), (.ref a2)] Z h0 (fun v h L => v = some (.int (1 : Int32)) ∧ Fr n0 L ∧ h = h0) := by
  refine own_body (plainFor_of_name pn_1) (ef_5 a1 a2) ?_
  intro p e s m below meth c T0 X0 hx hby hml0 hret hlk hnm hown hZ e0
  have hml : c.maxLocals = 2 := hml0
  have N0 := Fr.nil n0
  refine own_step (fun _ k => XS.aloadN X0.here hx rfl (hb hby d5_0) rfl rfl k) ?_
  show own_Ends _ _ _ _ _ _ _ T0 (mkF m 1 #[.val (.ref a1), .val (.ref a2)] [(.ref a1)])
  refine own_step (fun _ k => XS.iconst X0.here hx rfl (hb hby d5_1) k) ?_
  show own_Ends _ _ _ _ _ _ _ T0 (mkF m 2 #[.val (.ref a1), .val (.ref a2)] [(.int (0 : Int32)), (.ref a1)])
  refine own_step (own_ldB X0 hx hZ e0 V1 (j := (0 : Int32)) (v := (.int (xs.getD 0 (0 : Int32)))) ⟨by decide, by decide⟩ (own_getI xs _ 0) (g := (mkF m 2 #[.val (.ref a1), .val (.ref a2)] [(.int (0 : Int32)), (.ref a1)])) rfl rfl (hb hby d5_2)) ?_
  show own_Ends _ _ _ _ _ _ _ T0 (mkF m 3 #[.val (.ref a1), .val (.ref a2)] [(.int (xs.getD 0 (0 : Int32)))])
  refine own_step (fun _ k => XS.aloadN X0.here hx rfl (hb hby d5_3) rfl rfl k) ?_
  show own_Ends _ _ _ _ _ _ _ T0 (mkF m 4 #[.val (.ref a1), .val (.ref a2)] [(.ref a2), (.int (xs.getD 0 (0 : Int32)))])
  refine own_step (fun _ k => XS.iconst X0.here hx rfl (hb hby d5_4) k) ?_
  show own_Ends _ _ _ _ _ _ _ T0 (mkF m 5 #[.val (.ref a1), .val (.ref a2)] [(.int (0 : Int32)), (.ref a2), (.int (xs.getD 0 (0 : Int32)))])
  refine own_step (own_ldB X0 hx hZ e0 V2 (j := (0 : Int32)) (v := (.int (xs.getD 0 (0 : Int32)))) ⟨by decide, by decide⟩ (own_getI xs _ 0) (g := (mkF m 5 #[.val (.ref a1), .val (.ref a2)] [(.int (0 : Int32)), (.ref a2), (.int (xs.getD 0 (0 : Int32)))])) rfl rfl (hb hby d5_5)) ?_
  show own_Ends _ _ _ _ _ _ _ T0 (mkF m 6 #[.val (.ref a1), .val (.ref a2)] [(.int (xs.getD 0 (0 : Int32))), (.int (xs.getD 0 (0 : Int32)))])
  refine own_step (fun _ k => XS.icmpNo X0.here hx rfl (hb hby d5_6) rfl (teq (rfl : (xs.getD 0 (0 : Int32)) = (xs.getD 0 (0 : Int32)))).2 k) ?_
  show own_Ends _ _ _ _ _ _ _ T0 (mkF m 9 #[.val (.ref a1), .val (.ref a2)] [])
  refine own_step (fun _ k => XS.aloadN X0.here hx rfl (hb hby d5_9) rfl rfl k) ?_
  show own_Ends _ _ _ _ _ _ _ T0 (mkF m 10 #[.val (.ref a1), .val (.ref a2)] [(.ref a1)])
  refine own_step (fun _ k => XS.iconst X0.here hx rfl (hb hby d5_10) k) ?_
  show own_Ends _ _ _ _ _ _ _ T0 (mkF m 11 #[.val (.ref a1), .val (.ref a2)] [(.int (1 : Int32)), (.ref a1)])
  refine own_step (own_ldB X0 hx hZ e0 V1 (j := (1 : Int32)) (v := (.int (xs.getD 1 (0 : Int32)))) ⟨by decide, by decide⟩ (own_getI xs _ 1) (g := (mkF m 11 #[.val (.ref a1), .val (.ref a2)] [(.int (1 : Int32)), (.ref a1)])) rfl rfl (hb hby d5_11)) ?_
  show own_Ends _ _ _ _ _ _ _ T0 (mkF m 12 #[.val (.ref a1), .val (.ref a2)] [(.int (xs.getD 1 (0 : Int32)))])
  refine own_step (fun _ k => XS.aloadN X0.here hx rfl (hb hby d5_12) rfl rfl k) ?_
  show own_Ends _ _ _ _ _ _ _ T0 (mkF m 13 #[.val (.ref a1), .val (.ref a2)] [(.ref a2), (.int (xs.getD 1 (0 : Int32)))])
  refine own_step (fun _ k => XS.iconst X0.here hx rfl (hb hby d5_13) k) ?_
  show own_Ends _ _ _ _ _ _ _ T0 (mkF m 14 #[.val (.ref a1), .val (.ref a2)] [(.int (1 : Int32)), (.ref a2), (.int (xs.getD 1 (0 : Int32)))])
  refine own_step (own_ldB X0 hx hZ e0 V2 (j := (1 : Int32)) (v := (.int (xs.getD 1 (0 : Int32)))) ⟨by decide, by decide⟩ (own_getI xs _ 1) (g := (mkF m 14 #[.val (.ref a1), .val (.ref a2)] [(.int (1 : Int32)), (.ref a2), (.int (xs.getD 1 (0 : Int32)))])) rfl rfl (hb hby d5_14)) ?_
  show own_Ends _ _ _ _ _ _ _ T0 (mkF m 15 #[.val (.ref a1), .val (.ref a2)] [(.int (xs.getD 1 (0 : Int32))), (.int (xs.getD 1 (0 : Int32)))])
  refine own_step (fun _ k => XS.icmpNo X0.here hx rfl (hb hby d5_15) rfl (teq (rfl : (xs.getD 1 (0 : Int32)) = (xs.getD 1 (0 : Int32)))).2 k) ?_
  show own_Ends _ _ _ _ _ _ _ T0 (mkF m 18 #[.val (.ref a1), .val (.ref a2)] [])
  refine own_step (fun _ k => XS.aloadN X0.here hx rfl (hb hby d5_18) rfl rfl k) ?_
  show own_Ends _ _ _ _ _ _ _ T0 (mkF m 19 #[.val (.ref a1), .val (.ref a2)] [(.ref a1)])
  refine own_step (fun _ k => XS.iconst X0.here hx rfl (hb hby d5_19) k) ?_
  show own_Ends _ _ _ _ _ _ _ T0 (mkF m 20 #[.val (.ref a1), .val (.ref a2)] [(.int (2 : Int32)), (.ref a1)])
  refine own_step (own_ldB X0 hx hZ e0 V1 (j := (2 : Int32)) (v := (.int (xs.getD 2 (0 : Int32)))) ⟨by decide, by decide⟩ (own_getI xs _ 2) (g := (mkF m 20 #[.val (.ref a1), .val (.ref a2)] [(.int (2 : Int32)), (.ref a1)])) rfl rfl (hb hby d5_20)) ?_
  show own_Ends _ _ _ _ _ _ _ T0 (mkF m 21 #[.val (.ref a1), .val (.ref a2)] [(.int (xs.getD 2 (0 : Int32)))])
  refine own_step (fun _ k => XS.aloadN X0.here hx rfl (hb hby d5_21) rfl rfl k) ?_
  show own_Ends _ _ _ _ _ _ _ T0 (mkF m 22 #[.val (.ref a1), .val (.ref a2)] [(.ref a2), (.int (xs.getD 2 (0 : Int32)))])
  refine own_step (fun _ k => XS.iconst X0.here hx rfl (hb hby d5_22) k) ?_
  show own_Ends _ _ _ _ _ _ _ T0 (mkF m 23 #[.val (.ref a1), .val (.ref a2)] [(.int (2 : Int32)), (.ref a2), (.int (xs.getD 2 (0 : Int32)))])
  refine own_step (own_ldB X0 hx hZ e0 V2 (j := (2 : Int32)) (v := (.int (xs.getD 2 (0 : Int32)))) ⟨by decide, by decide⟩ (own_getI xs _ 2) (g := (mkF m 23 #[.val (.ref a1), .val (.ref a2)] [(.int (2 : Int32)), (.ref a2), (.int (xs.getD 2 (0 : Int32)))])) rfl rfl (hb hby d5_23)) ?_
  show own_Ends _ _ _ _ _ _ _ T0 (mkF m 24 #[.val (.ref a1), .val (.ref a2)] [(.int (xs.getD 2 (0 : Int32))), (.int (xs.getD 2 (0 : Int32)))])
  refine own_step (fun _ k => XS.icmpNo X0.here hx rfl (hb hby d5_24) rfl (teq (rfl : (xs.getD 2 (0 : Int32)) = (xs.getD 2 (0 : Int32)))).2 k) ?_
  show own_Ends _ _ _ _ _ _ _ T0 (mkF m 27 #[.val (.ref a1), .val (.ref a2)] [])
  refine own_step (fun _ k => XS.aloadN X0.here hx rfl (hb hby d5_27) rfl rfl k) ?_
  show own_Ends _ _ _ _ _ _ _ T0 (mkF m 28 #[.val (.ref a1), .val (.ref a2)] [(.ref a1)])
  refine own_step (fun _ k => XS.iconst X0.here hx rfl (hb hby d5_28) k) ?_
  show own_Ends _ _ _ _ _ _ _ T0 (mkF m 29 #[.val (.ref a1), .val (.ref a2)] [(.int (3 : Int32)), (.ref a1)])
  refine own_step (own_ldB X0 hx hZ e0 V1 (j := (3 : Int32)) (v := (.int (xs.getD 3 (0 : Int32)))) ⟨by decide, by decide⟩ (own_getI xs _ 3) (g := (mkF m 29 #[.val (.ref a1), .val (.ref a2)] [(.int (3 : Int32)), (.ref a1)])) rfl rfl (hb hby d5_29)) ?_
  show own_Ends _ _ _ _ _ _ _ T0 (mkF m 30 #[.val (.ref a1), .val (.ref a2)] [(.int (xs.getD 3 (0 : Int32)))])
  refine own_step (fun _ k => XS.aloadN X0.here hx rfl (hb hby d5_30) rfl rfl k) ?_
  show own_Ends _ _ _ _ _ _ _ T0 (mkF m 31 #[.val (.ref a1), .val (.ref a2)] [(.ref a2), (.int (xs.getD 3 (0 : Int32)))])
  refine own_step (fun _ k => XS.iconst X0.here hx rfl (hb hby d5_31) k) ?_
  show own_Ends _ _ _ _ _ _ _ T0 (mkF m 32 #[.val (.ref a1), .val (.ref a2)] [(.int (3 : Int32)), (.ref a2), (.int (xs.getD 3 (0 : Int32)))])
  refine own_step (own_ldB X0 hx hZ e0 V2 (j := (3 : Int32)) (v := (.int (xs.getD 3 (0 : Int32)))) ⟨by decide, by decide⟩ (own_getI xs _ 3) (g := (mkF m 32 #[.val (.ref a1), .val (.ref a2)] [(.int (3 : Int32)), (.ref a2), (.int (xs.getD 3 (0 : Int32)))])) rfl rfl (hb hby d5_32)) ?_
  show own_Ends _ _ _ _ _ _ _ T0 (mkF m 33 #[.val (.ref a1), .val (.ref a2)] [(.int (xs.getD 3 (0 : Int32))), (.int (xs.getD 3 (0 : Int32)))])
  refine own_step (fun _ k => XS.icmpNo X0.here hx rfl (hb hby d5_33) rfl (teq (rfl : (xs.getD 3 (0 : Int32)) = (xs.getD 3 (0 : Int32)))).2 k) ?_
  show own_Ends _ _ _ _ _ _ _ T0 (mkF m 36 #[.val (.ref a1), .val (.ref a2)] [])
  refine own_step (fun _ k => XS.aloadN X0.here hx rfl (hb hby d5_36) rfl rfl k) ?_
  show own_Ends _ _ _ _ _ _ _ T0 (mkF m 37 #[.val (.ref a1), .val (.ref a2)] [(.ref a1)])
  refine own_step (fun _ k => XS.iconst X0.here hx rfl (hb hby d5_37) k) ?_
  show own_Ends _ _ _ _ _ _ _ T0 (mkF m 38 #[.val (.ref a1), .val (.ref a2)] [(.int (4 : Int32)), (.ref a1)])
  refine own_step (own_ldB X0 hx hZ e0 V1 (j := (4 : Int32)) (v := (.int (xs.getD 4 (0 : Int32)))) ⟨by decide, by decide⟩ (own_getI xs _ 4) (g := (mkF m 38 #[.val (.ref a1), .val (.ref a2)] [(.int (4 : Int32)), (.ref a1)])) rfl rfl (hb hby d5_38)) ?_
  show own_Ends _ _ _ _ _ _ _ T0 (mkF m 39 #[.val (.ref a1), .val (.ref a2)] [(.int (xs.getD 4 (0 : Int32)))])
  refine own_step (fun _ k => XS.aloadN X0.here hx rfl (hb hby d5_39) rfl rfl k) ?_
  show own_Ends _ _ _ _ _ _ _ T0 (mkF m 40 #[.val (.ref a1), .val (.ref a2)] [(.ref a2), (.int (xs.getD 4 (0 : Int32)))])
  refine own_step (fun _ k => XS.iconst X0.here hx rfl (hb hby d5_40) k) ?_
  show own_Ends _ _ _ _ _ _ _ T0 (mkF m 41 #[.val (.ref a1), .val (.ref a2)] [(.int (4 : Int32)), (.ref a2), (.int (xs.getD 4 (0 : Int32)))])
  refine own_step (own_ldB X0 hx hZ e0 V2 (j := (4 : Int32)) (v := (.int (xs.getD 4 (0 : Int32)))) ⟨by decide, by decide⟩ (own_getI xs _ 4) (g := (mkF m 41 #[.val (.ref a1), .val (.ref a2)] [(.int (4 : Int32)), (.ref a2), (.int (xs.getD 4 (0 : Int32)))])) rfl rfl (hb hby d5_41)) ?_
  show own_Ends _ _ _ _ _ _ _ T0 (mkF m 42 #[.val (.ref a1), .val (.ref a2)] [(.int (xs.getD 4 (0 : Int32))), (.int (xs.getD 4 (0 : Int32)))])
  refine own_step (fun _ k => XS.icmpNo X0.here hx rfl (hb hby d5_42) rfl (teq (rfl : (xs.getD 4 (0 : Int32)) = (xs.getD 4 (0 : Int32)))).2 k) ?_
  show own_Ends _ _ _ _ _ _ _ T0 (mkF m 45 #[.val (.ref a1), .val (.ref a2)] [])
  refine own_step (fun _ k => XS.aloadN X0.here hx rfl (hb hby d5_45) rfl rfl k) ?_
  show own_Ends _ _ _ _ _ _ _ T0 (mkF m 46 #[.val (.ref a1), .val (.ref a2)] [(.ref a1)])
  refine own_step (fun _ k => XS.iconst X0.here hx rfl (hb hby d5_46) k) ?_
  show own_Ends _ _ _ _ _ _ _ T0 (mkF m 47 #[.val (.ref a1), .val (.ref a2)] [(.int (5 : Int32)), (.ref a1)])
  refine own_step (own_ldB X0 hx hZ e0 V1 (j := (5 : Int32)) (v := (.int (xs.getD 5 (0 : Int32)))) ⟨by decide, by decide⟩ (own_getI xs _ 5) (g := (mkF m 47 #[.val (.ref a1), .val (.ref a2)] [(.int (5 : Int32)), (.ref a1)])) rfl rfl (hb hby d5_47)) ?_
  show own_Ends _ _ _ _ _ _ _ T0 (mkF m 48 #[.val (.ref a1), .val (.ref a2)] [(.int (xs.getD 5 (0 : Int32)))])
  refine own_step (fun _ k => XS.aloadN X0.here hx rfl (hb hby d5_48) rfl rfl k) ?_
  show own_Ends _ _ _ _ _ _ _ T0 (mkF m 49 #[.val (.ref a1), .val (.ref a2)] [(.ref a2), (.int (xs.getD 5 (0 : Int32)))])
  refine own_step (fun _ k => XS.iconst X0.here hx rfl (hb hby d5_49) k) ?_
  show own_Ends _ _ _ _ _ _ _ T0 (mkF m 50 #[.val (.ref a1), .val (.ref a2)] [(.int (5 : Int32)), (.ref a2), (.int (xs.getD 5 (0 : Int32)))])
  refine own_step (own_ldB X0 hx hZ e0 V2 (j := (5 : Int32)) (v := (.int (xs.getD 5 (0 : Int32)))) ⟨by decide, by decide⟩ (own_getI xs _ 5) (g := (mkF m 50 #[.val (.ref a1), .val (.ref a2)] [(.int (5 : Int32)), (.ref a2), (.int (xs.getD 5 (0 : Int32)))])) rfl rfl (hb hby d5_50)) ?_
  show own_Ends _ _ _ _ _ _ _ T0 (mkF m 51 #[.val (.ref a1), .val (.ref a2)] [(.int (xs.getD 5 (0 : Int32))), (.int (xs.getD 5 (0 : Int32)))])
  refine own_step (fun _ k => XS.icmpNo X0.here hx rfl (hb hby d5_51) rfl (teq (rfl : (xs.getD 5 (0 : Int32)) = (xs.getD 5 (0 : Int32)))).2 k) ?_
  show own_Ends _ _ _ _ _ _ _ T0 (mkF m 54 #[.val (.ref a1), .val (.ref a2)] [])
  refine own_step (fun _ k => XS.aloadN X0.here hx rfl (hb hby d5_54) rfl rfl k) ?_
  show own_Ends _ _ _ _ _ _ _ T0 (mkF m 55 #[.val (.ref a1), .val (.ref a2)] [(.ref a1)])
  refine own_step (fun _ k => XS.bipush X0.here hx rfl (hb hby d5_55) k) ?_
  show own_Ends _ _ _ _ _ _ _ T0 (mkF m 57 #[.val (.ref a1), .val (.ref a2)] [(.int (6 : Int32)), (.ref a1)])
  refine own_step (own_ldB X0 hx hZ e0 V1 (j := (6 : Int32)) (v := (.int (xs.getD 6 (0 : Int32)))) ⟨by decide, by decide⟩ (own_getI xs _ 6) (g := (mkF m 57 #[.val (.ref a1), .val (.ref a2)] [(.int (6 : Int32)), (.ref a1)])) rfl rfl (hb hby d5_57)) ?_
  show own_Ends _ _ _ _ _ _ _ T0 (mkF m 58 #[.val (.ref a1), .val (.ref a2)] [(.int (xs.getD 6 (0 : Int32)))])
  refine own_step (fun _ k => XS.aloadN X0.here hx rfl (hb hby d5_58) rfl rfl k) ?_
  show own_Ends _ _ _ _ _ _ _ T0 (mkF m 59 #[.val (.ref a1), .val (.ref a2)] [(.ref a2), (.int (xs.getD 6 (0 : Int32)))])
  refine own_step (fun _ k => XS.bipush X0.here hx rfl (hb hby d5_59) k) ?_
  show own_Ends _ _ _ _ _ _ _ T0 (mkF m 61 #[.val (.ref a1), .val (.ref a2)] [(.int (6 : Int32)), (.ref a2), (.int (xs.getD 6 (0 : Int32)))])
  refine own_step (own_ldB X0 hx hZ e0 V2 (j := (6 : Int32)) (v := (.int (xs.getD 6 (0 : Int32)))) ⟨by decide, by decide⟩ (own_getI xs _ 6) (g := (mkF m 61 #[.val (.ref a1), .val (.ref a2)] [(.int (6 : Int32)), (.ref a2), (.int (xs.getD 6 (0 : Int32)))])) rfl rfl (hb hby d5_61)) ?_
  show own_Ends _ _ _ _ _ _ _ T0 (mkF m 62 #[.val (.ref a1), .val (.ref a2)] [(.int (xs.getD 6 (0 : Int32))), (.int (xs.getD 6 (0 : Int32)))])
  refine own_step (fun _ k => XS.icmpNo X0.here hx rfl (hb hby d5_62) rfl (teq (rfl : (xs.getD 6 (0 : Int32)) = (xs.getD 6 (0 : Int32)))).2 k) ?_
  show own_Ends _ _ _ _ _ _ _ T0 (mkF m 65 #[.val (.ref a1), .val (.ref a2)] [])
  refine own_step (fun _ k => XS.aloadN X0.here hx rfl (hb hby d5_65) rfl rfl k) ?_
  show own_Ends _ _ _ _ _ _ _ T0 (mkF m 66 #[.val (.ref a1), .val (.ref a2)] [(.ref a1)])
  refine own_step (fun _ k => XS.bipush X0.here hx rfl (hb hby d5_66) k) ?_
  show own_Ends _ _ _ _ _ _ _ T0 (mkF m 68 #[.val (.ref a1), .val (.ref a2)] [(.int (7 : Int32)), (.ref a1)])
  refine own_step (own_ldB X0 hx hZ e0 V1 (j := (7 : Int32)) (v := (.int (xs.getD 7 (0 : Int32)))) ⟨by decide, by decide⟩ (own_getI xs _ 7) (g := (mkF m 68 #[.val (.ref a1), .val (.ref a2)] [(.int (7 : Int32)), (.ref a1)])) rfl rfl (hb hby d5_68)) ?_
  show own_Ends _ _ _ _ _ _ _ T0 (mkF m 69 #[.val (.ref a1), .val (.ref a2)] [(.int (xs.getD 7 (0 : Int32)))])
  refine own_step (fun _ k => XS.aloadN X0.here hx rfl (hb hby d5_69) rfl rfl k) ?_
  show own_Ends _ _ _ _ _ _ _ T0 (mkF m 70 #[.val (.ref a1), .val (.ref a2)] [(.ref a2), (.int (xs.getD 7 (0 : Int32)))])
  refine own_step (fun _ k => XS.bipush X0.here hx rfl (hb hby d5_70) k) ?_
  show own_Ends _ _ _ _ _ _ _ T0 (mkF m 72 #[.val (.ref a1), .val (.ref a2)] [(.int (7 : Int32)), (.ref a2), (.int (xs.getD 7 (0 : Int32)))])
  refine own_step (own_ldB X0 hx hZ e0 V2 (j := (7 : Int32)) (v := (.int (xs.getD 7 (0 : Int32)))) ⟨by decide, by decide⟩ (own_getI xs _ 7) (g := (mkF m 72 #[.val (.ref a1), .val (.ref a2)] [(.int (7 : Int32)), (.ref a2), (.int (xs.getD 7 (0 : Int32)))])) rfl rfl (hb hby d5_72)) ?_
  show own_Ends _ _ _ _ _ _ _ T0 (mkF m 73 #[.val (.ref a1), .val (.ref a2)] [(.int (xs.getD 7 (0 : Int32))), (.int (xs.getD 7 (0 : Int32)))])
  refine own_step (fun _ k => XS.icmpNo X0.here hx rfl (hb hby d5_73) rfl (teq (rfl : (xs.getD 7 (0 : Int32)) = (xs.getD 7 (0 : Int32)))).2 k) ?_
  show own_Ends _ _ _ _ _ _ _ T0 (mkF m 76 #[.val (.ref a1), .val (.ref a2)] [])
  refine own_step (fun _ k => XS.aloadN X0.here hx rfl (hb hby d5_76) rfl rfl k) ?_
  show own_Ends _ _ _ _ _ _ _ T0 (mkF m 77 #[.val (.ref a1), .val (.ref a2)] [(.ref a1)])
  refine own_step (fun _ k => XS.bipush X0.here hx rfl (hb hby d5_77) k) ?_
  show own_Ends _ _ _ _ _ _ _ T0 (mkF m 79 #[.val (.ref a1), .val (.ref a2)] [(.int (8 : Int32)), (.ref a1)])
  refine own_step (own_ldB X0 hx hZ e0 V1 (j := (8 : Int32)) (v := (.int (xs.getD 8 (0 : Int32)))) ⟨by decide, by decide⟩ (own_getI xs _ 8) (g := (mkF m 79 #[.val (.ref a1), .val (.ref a2)] [(.int (8 : Int32)), (.ref a1)])) rfl rfl (hb hby d5_79)) ?_
  show own_Ends _ _ _ _ _ _ _ T0 (mkF m 80 #[.val (.ref a1), .val (.ref a2)] [(.int (xs.getD 8 (0 : Int32)))])
  refine own_step (fun _ k => XS.aloadN X0.here hx rfl (hb hby d5_80) rfl rfl k) ?_
  show own_Ends _ _ _ _ _ _ _ T0 (mkF m 81 #[.val (.ref a1), .val (.ref a2)] [(.ref a2), (.int (xs.getD 8 (0 : Int32)))])
  refine own_step (fun _ k => XS.bipush X0.here hx rfl (hb hby d5_81) k) ?_
  show own_Ends _ _ _ _ _ _ _ T0 (mkF m 83 #[.val (.ref a1), .val (.ref a2)] [(.int (8 : Int32)), (.ref a2), (.int (xs.getD 8 (0 : Int32)))])
  refine own_step (own_ldB X0 hx hZ e0 V2 (j := (8 : Int32)) (v := (.int (xs.getD 8 (0 : Int32)))) ⟨by decide, by decide⟩ (own_getI xs _ 8) (g := (mkF m 83 #[.val (.ref a1), .val (.ref a2)] [(.int (8 : Int32)), (.ref a2), (.int (xs.getD 8 (0 : Int32)))])) rfl rfl (hb hby d5_83)) ?_
  show own_Ends _ _ _ _ _ _ _ T0 (mkF m 84 #[.val (.ref a1), .val (.ref a2)] [(.int (xs.getD 8 (0 : Int32))), (.int (xs.getD 8 (0 : Int32)))])
  refine own_step (fun _ k => XS.icmpNo X0.here hx rfl (hb hby d5_84) rfl (teq (rfl : (xs.getD 8 (0 : Int32)) = (xs.getD 8 (0 : Int32)))).2 k) ?_
  show own_Ends _ _ _ _ _ _ _ T0 (mkF m 87 #[.val (.ref a1), .val (.ref a2)] [])
  refine own_step (fun _ k => XS.aloadN X0.here hx rfl (hb hby d5_87) rfl rfl k) ?_
  show own_Ends _ _ _ _ _ _ _ T0 (mkF m 88 #[.val (.ref a1), .val (.ref a2)] [(.ref a1)])
  refine own_step (fun _ k => XS.bipush X0.here hx rfl (hb hby d5_88) k) ?_
  show own_Ends _ _ _ _ _ _ _ T0 (mkF m 90 #[.val (.ref a1), .val (.ref a2)] [(.int (9 : Int32)), (.ref a1)])
  refine own_step (own_ldB X0 hx hZ e0 V1 (j := (9 : Int32)) (v := (.int (xs.getD 9 (0 : Int32)))) ⟨by decide, by decide⟩ (own_getI xs _ 9) (g := (mkF m 90 #[.val (.ref a1), .val (.ref a2)] [(.int (9 : Int32)), (.ref a1)])) rfl rfl (hb hby d5_90)) ?_
  show own_Ends _ _ _ _ _ _ _ T0 (mkF m 91 #[.val (.ref a1), .val (.ref a2)] [(.int (xs.getD 9 (0 : Int32)))])
  refine own_step (fun _ k => XS.aloadN X0.here hx rfl (hb hby d5_91) rfl rfl k) ?_
  show own_Ends _ _ _ _ _ _ _ T0 (mkF m 92 #[.val (.ref a1), .val (.ref a2)] [(.ref a2), (.int (xs.getD 9 (0 : Int32)))])
  refine own_step (fun _ k => XS.bipush X0.here hx rfl (hb hby d5_92) k) ?_
  show own_Ends _ _ _ _ _ _ _ T0 (mkF m 94 #[.val (.ref a1), .val (.ref a2)] [(.int (9 : Int32)), (.ref a2), (.int (xs.getD 9 (0 : Int32)))])
  refine own_step (own_ldB X0 hx hZ e0 V2 (j := (9 : Int32)) (v := (.int (xs.getD 9 (0 : Int32)))) ⟨by decide, by decide⟩ (own_getI xs _ 9) (g := (mkF m 94 #[.val (.ref a1), .val (.ref a2)] [(.int (9 : Int32)), (.ref a2), (.int (xs.getD 9 (0 : Int32)))])) rfl rfl (hb hby d5_94)) ?_
  show own_Ends _ _ _ _ _ _ _ T0 (mkF m 95 #[.val (.ref a1), .val (.ref a2)] [(.int (xs.getD 9 (0 : Int32))), (.int (xs.getD 9 (0 : Int32)))])
  refine own_step (fun _ k => XS.icmpNo X0.here hx rfl (hb hby d5_95) rfl (teq (rfl : (xs.getD 9 (0 : Int32)) = (xs.getD 9 (0 : Int32)))).2 k) ?_
  show own_Ends _ _ _ _ _ _ _ T0 (mkF m 98 #[.val (.ref a1), .val (.ref a2)] [])
  refine own_step (fun _ k => XS.aloadN X0.here hx rfl (hb hby d5_98) rfl rfl k) ?_
  show own_Ends _ _ _ _ _ _ _ T0 (mkF m 99 #[.val (.ref a1), .val (.ref a2)] [(.ref a1)])
  refine own_step (fun _ k => XS.bipush X0.here hx rfl (hb hby d5_99) k) ?_
  show own_Ends _ _ _ _ _ _ _ T0 (mkF m 101 #[.val (.ref a1), .val (.ref a2)] [(.int (10 : Int32)), (.ref a1)])
  refine own_step (own_ldB X0 hx hZ e0 V1 (j := (10 : Int32)) (v := (.int (xs.getD 10 (0 : Int32)))) ⟨by decide, by decide⟩ (own_getI xs _ 10) (g := (mkF m 101 #[.val (.ref a1), .val (.ref a2)] [(.int (10 : Int32)), (.ref a1)])) rfl rfl (hb hby d5_101)) ?_
  show own_Ends _ _ _ _ _ _ _ T0 (mkF m 102 #[.val (.ref a1), .val (.ref a2)] [(.int (xs.getD 10 (0 : Int32)))])
  refine own_step (fun _ k => XS.aloadN X0.here hx rfl (hb hby d5_102) rfl rfl k) ?_
  show own_Ends _ _ _ _ _ _ _ T0 (mkF m 103 #[.val (.ref a1), .val (.ref a2)] [(.ref a2), (.int (xs.getD 10 (0 : Int32)))])
  refine own_step (fun _ k => XS.bipush X0.here hx rfl (hb hby d5_103) k) ?_
  show own_Ends _ _ _ _ _ _ _ T0 (mkF m 105 #[.val (.ref a1), .val (.ref a2)] [(.int (10 : Int32)), (.ref a2), (.int (xs.getD 10 (0 : Int32)))])
  refine own_step (own_ldB X0 hx hZ e0 V2 (j := (10 : Int32)) (v := (.int (xs.getD 10 (0 : Int32)))) ⟨by decide, by decide⟩ (own_getI xs _ 10) (g := (mkF m 105 #[.val (.ref a1), .val (.ref a2)] [(.int (10 : Int32)), (.ref a2), (.int (xs.getD 10 (0 : Int32)))])) rfl rfl (hb hby d5_105)) ?_
  show own_Ends _ _ _ _ _ _ _ T0 (mkF m 106 #[.val (.ref a1), .val (.ref a2)] [(.int (xs.getD 10 (0 : Int32))), (.int (xs.getD 10 (0 : Int32)))])
  refine own_step (fun _ k => XS.icmpNo X0.here hx rfl (hb hby d5_106) rfl (teq (rfl : (xs.getD 10 (0 : Int32)) = (xs.getD 10 (0 : Int32)))).2 k) ?_
  show own_Ends _ _ _ _ _ _ _ T0 (mkF m 109 #[.val (.ref a1), .val (.ref a2)] [])
  refine own_step (fun _ k => XS.aloadN X0.here hx rfl (hb hby d5_109) rfl rfl k) ?_
  show own_Ends _ _ _ _ _ _ _ T0 (mkF m 110 #[.val (.ref a1), .val (.ref a2)] [(.ref a1)])
  refine own_step (fun _ k => XS.bipush X0.here hx rfl (hb hby d5_110) k) ?_
  show own_Ends _ _ _ _ _ _ _ T0 (mkF m 112 #[.val (.ref a1), .val (.ref a2)] [(.int (11 : Int32)), (.ref a1)])
  refine own_step (own_ldB X0 hx hZ e0 V1 (j := (11 : Int32)) (v := (.int (xs.getD 11 (0 : Int32)))) ⟨by decide, by decide⟩ (own_getI xs _ 11) (g := (mkF m 112 #[.val (.ref a1), .val (.ref a2)] [(.int (11 : Int32)), (.ref a1)])) rfl rfl (hb hby d5_112)) ?_
  show own_Ends _ _ _ _ _ _ _ T0 (mkF m 113 #[.val (.ref a1), .val (.ref a2)] [(.int (xs.getD 11 (0 : Int32)))])
  refine own_step (fun _ k => XS.aloadN X0.here hx rfl (hb hby d5_113) rfl rfl k) ?_
  show own_Ends _ _ _ _ _ _ _ T0 (mkF m 114 #[.val (.ref a1), .val (.ref a2)] [(.ref a2), (.int (xs.getD 11 (0 : Int32)))])
  refine own_step (fun _ k => XS.bipush X0.here hx rfl (hb hby d5_114) k) ?_
  show own_Ends _ _ _ _ _ _ _ T0 (mkF m 116 #[.val (.ref a1), .val (.ref a2)] [(.int (11 : Int32)), (.ref a2), (.int (xs.getD 11 (0 : Int32)))])
  refine own_step (own_ldB X0 hx hZ e0 V2 (j := (11 : Int32)) (v := (.int (xs.getD 11 (0 : Int32)))) ⟨by decide, by decide⟩ (own_getI xs _ 11) (g := (mkF m 116 #[.val (.ref a1), .val (.ref a2)] [(.int (11 : Int32)), (.ref a2), (.int (xs.getD 11 (0 : Int32)))])) rfl rfl (hb hby d5_116)) ?_
  show own_Ends _ _ _ _ _ _ _ T0 (mkF m 117 #[.val (.ref a1), .val (.ref a2)] [(.int (xs.getD 11 (0 : Int32))), (.int (xs.getD 11 (0 : Int32)))])
  refine own_step (fun _ k => XS.icmpNo X0.here hx rfl (hb hby d5_117) rfl (teq (rfl : (xs.getD 11 (0 : Int32)) = (xs.getD 11 (0 : Int32)))).2 k) ?_
  show own_Ends _ _ _ _ _ _ _ T0 (mkF m 120 #[.val (.ref a1), .val (.ref a2)] [])
  refine own_step (fun _ k => XS.aloadN X0.here hx rfl (hb hby d5_120) rfl rfl k) ?_
  show own_Ends _ _ _ _ _ _ _ T0 (mkF m 121 #[.val (.ref a1), .val (.ref a2)] [(.ref a1)])
  refine own_step (fun _ k => XS.bipush X0.here hx rfl (hb hby d5_121) k) ?_
  show own_Ends _ _ _ _ _ _ _ T0 (mkF m 123 #[.val (.ref a1), .val (.ref a2)] [(.int (12 : Int32)), (.ref a1)])
  refine own_step (own_ldB X0 hx hZ e0 V1 (j := (12 : Int32)) (v := (.int (xs.getD 12 (0 : Int32)))) ⟨by decide, by decide⟩ (own_getI xs _ 12) (g := (mkF m 123 #[.val (.ref a1), .val (.ref a2)] [(.int (12 : Int32)), (.ref a1)])) rfl rfl (hb hby d5_123)) ?_
  show own_Ends _ _ _ _ _ _ _ T0 (mkF m 124 #[.val (.ref a1), .val (.ref a2)] [(.int (xs.getD 12 (0 : Int32)))])
  refine own_step (fun _ k => XS.aloadN X0.here hx rfl (hb hby d5_124) rfl rfl k) ?_
  show own_Ends _ _ _ _ _ _ _ T0 (mkF m 125 #[.val (.ref a1), .val (.ref a2)] [(.ref a2), (.int (xs.getD 12 (0 : Int32)))])
  refine own_step (fun _ k => XS.bipush X0.here hx rfl (hb hby d5_125) k) ?_
  show own_Ends _ _ _ _ _ _ _ T0 (mkF m 127 #[.val (.ref a1), .val (.ref a2)] [(.int (12 : Int32)), (.ref a2), (.int (xs.getD 12 (0 : Int32)))])
  refine own_step (own_ldB X0 hx hZ e0 V2 (j := (12 : Int32)) (v := (.int (xs.getD 12 (0 : Int32)))) ⟨by decide, by decide⟩ (own_getI xs _ 12) (g := (mkF m 127 #[.val (.ref a1), .val (.ref a2)] [(.int (12 : Int32)), (.ref a2), (.int (xs.getD 12 (0 : Int32)))])) rfl rfl (hb hby d5_127)) ?_
  show own_Ends _ _ _ _ _ _ _ T0 (mkF m 128 #[.val (.ref a1), .val (.ref a2)] [(.int (xs.getD 12 (0 : Int32))), (.int (xs.getD 12 (0 : Int32)))])
  refine own_step (fun _ k => XS.icmpNo X0.here hx rfl (hb hby d5_128) rfl (teq (rfl : (xs.getD 12 (0 : Int32)) = (xs.getD 12 (0 : Int32)))).2 k) ?_
  show own_Ends _ _ _ _ _ _ _ T0 (mkF m 131 #[.val (.ref a1), .val (.ref a2)] [])
  refine own_step (fun _ k => XS.aloadN X0.here hx rfl (hb hby d5_131) rfl rfl k) ?_
  show own_Ends _ _ _ _ _ _ _ T0 (mkF m 132 #[.val (.ref a1), .val (.ref a2)] [(.ref a1)])
  refine own_step (fun _ k => XS.bipush X0.here hx rfl (hb hby d5_132) k) ?_
  show own_Ends _ _ _ _ _ _ _ T0 (mkF m 134 #[.val (.ref a1), .val (.ref a2)] [(.int (13 : Int32)), (.ref a1)])
  refine own_step (own_ldB X0 hx hZ e0 V1 (j := (13 : Int32)) (v := (.int (xs.getD 13 (0 : Int32)))) ⟨by decide, by decide⟩ (own_getI xs _ 13) (g := (mkF m 134 #[.val (.ref a1), .val (.ref a2)] [(.int (13 : Int32)), (.ref a1)])) rfl rfl (hb hby d5_134)) ?_
  show own_Ends _ _ _ _ _ _ _ T0 (mkF m 135 #[.val (.ref a1), .val (.ref a2)] [(.int (xs.getD 13 (0 : Int32)))])
  refine own_step (fun _ k => XS.aloadN X0.here hx rfl (hb hby d5_135) rfl rfl k) ?_
  show own_Ends _ _ _ _ _ _ _ T0 (mkF m 136 #[.val (.ref a1), .val (.ref a2)] [(.ref a2), (.int (xs.getD 13 (0 : Int32)))])
  refine own_step (fun _ k => XS.bipush X0.here hx rfl (hb hby d5_136) k) ?_
  show own_Ends _ _ _ _ _ _ _ T0 (mkF m 138 #[.val (.ref a1), .val (.ref a2)] [(.int (13 : Int32)), (.ref a2), (.int (xs.getD 13 (0 : Int32)))])
  refine own_step (own_ldB X0 hx hZ e0 V2 (j := (13 : Int32)) (v := (.int (xs.getD 13 (0 : Int32)))) ⟨by decide, by decide⟩ (own_getI xs _ 13) (g := (mkF m 138 #[.val (.ref a1), .val (.ref a2)] [(.int (13 : Int32)), (.ref a2), (.int (xs.getD 13 (0 : Int32)))])) rfl rfl (hb hby d5_138)) ?_
  show own_Ends _ _ _ _ _ _ _ T0 (mkF m 139 #[.val (.ref a1), .val (.ref a2)] [(.int (xs.getD 13 (0 : Int32))), (.int (xs.getD 13 (0 : Int32)))])
  refine own_step (fun _ k => XS.icmpNo X0.here hx rfl (hb hby d5_139) rfl (teq (rfl : (xs.getD 13 (0 : Int32)) = (xs.getD 13 (0 : Int32)))).2 k) ?_
  show own_Ends _ _ _ _ _ _ _ T0 (mkF m 142 #[.val (.ref a1), .val (.ref a2)] [])
  refine own_step (fun _ k => XS.iconst X0.here hx rfl (hb hby d5_142) k) ?_
  show own_Ends _ _ _ _ _ _ _ T0 (mkF m 143 #[.val (.ref a1), .val (.ref a2)] [(.int (1 : Int32))])
  refine own_step (fun _ k => XS.goto X0.here hx rfl (pc0 := 143) (pc' := 147) rfl (hb hby d5_143) (by decide) (by decide) k) ?_
  show own_Ends _ _ _ _ _ _ _ T0 (mkF m 147 #[.val (.ref a1), .val (.ref a2)] [(.int (1 : Int32))])
  exact own_retN X0 hx (t := .boolean) hret (by simp) hlk (hb hby d5_147) rfl ⟨rfl, N0, e0⟩ (by decide) (by decide)
def own_hx : List Int32 := [48, 49, 50, 51, 52, 53, 54, 55, 56, 57, 65, 66, 67, 68, 69, 70]
theorem own_small {K : Nat} {x : Int32} (h0 : 0 ≤ x.toInt) (h1 : x.toInt < K) : ∃ n : Fin K, x = Int32.ofInt (n.1 : Int) := by
  refine ⟨⟨x.toInt.toNat, by omega⟩, ?_⟩
  have h2 : x.toInt = ((x.toInt.toNat : Nat) : Int) := by omega
  exact own_lit32 h2
theorem own_v256 (b : Int32) : ∃ n : Fin 256, (b &&& (255 : Int32)) = Int32.ofInt (n.1 : Int) := by
  have h := c_and b (255 : Int32) (by decide)
  have e : (255 : Int32).toInt = 255 := by decide
  exact own_small h.1 (by omega)
set_option maxRecDepth 65536 in
theorem own_hx1t : ∀ n : Fin 256, own_hx.getD (((Int32.ofInt (n.1 : Int)).toUInt32 >>> ((4 : Int32) &&& 31).toUInt32).toInt32).toNatClampNeg (0 : Int32) = own_f2 ((Int32.ofInt (n.1 : Int)) >>> ((4 : Int32) &&& 31)) := by decide +kernel
set_option maxRecDepth 65536 in
theorem own_hx2t : ∀ n : Fin 256, own_hx.getD ((Int32.ofInt (n.1 : Int)) &&& (15 : Int32)).toNatClampNeg (0 : Int32) = own_f2 ((Int32.ofInt (n.1 : Int)) &&& (15 : Int32)) := by decide +kernel
set_option maxRecDepth 65536 in
theorem own_hx3t : ∀ n : Fin 256, ¬ (((Int32.ofInt (n.1 : Int)).toUInt32 >>> ((4 : Int32) &&& 31).toUInt32).toInt32) < (0 : Int32) ∧ (((Int32.ofInt (n.1 : Int)).toUInt32 >>> ((4 : Int32) &&& 31).toUInt32).toInt32) < (16 : Int32) ∧ ¬ ((Int32.ofInt (n.1 : Int)) &&& (15 : Int32)) < (0 : Int32) ∧ ((Int32.ofInt (n.1 : Int)) &&& (15 : Int32)) < (16 : Int32) := by decide +kernel
theorem own_hx1 (b : Int32) : own_hx.getD (((b &&& (255 : Int32)).toUInt32 >>> ((4 : Int32) &&& 31).toUInt32).toInt32).toNatClampNeg (0 : Int32) = own_f2 ((b &&& (255 : Int32)) >>> ((4 : Int32) &&& 31)) := by obtain ⟨n, q⟩ := own_v256 b; rw [q]; exact own_hx1t n
theorem own_hx2 (b : Int32) : own_hx.getD ((b &&& (255 : Int32)) &&& (15 : Int32)).toNatClampNeg (0 : Int32) = own_f2 ((b &&& (255 : Int32)) &&& (15 : Int32)) := by obtain ⟨n, q⟩ := own_v256 b; rw [q]; exact own_hx2t n
theorem own_hx3 (b : Int32) : ¬ (((b &&& (255 : Int32)).toUInt32 >>> ((4 : Int32) &&& 31).toUInt32).toInt32) < (0 : Int32) ∧ (((b &&& (255 : Int32)).toUInt32 >>> ((4 : Int32) &&& 31).toUInt32).toInt32) < (16 : Int32) ∧ ¬ ((b &&& (255 : Int32)) &&& (15 : Int32)) < (0 : Int32) ∧ ((b &&& (255 : Int32)) &&& (15 : Int32)) < (16 : Int32) := by obtain ⟨n, q⟩ := own_v256 b; rw [q]; exact own_hx3t n
theorem d3_0 : decode prog_6_method_4_code 0 = .ok (.iconst 0, 1) := by decide +kernel
theorem d3_1 : decode prog_6_method_4_code 1 = .ok (.istore 4, 2) := by decide +kernel
theorem d3_3 : decode prog_6_method_4_code 3 = .ok (.iload 4, 2) := by decide +kernel
theorem d3_5 : decode prog_6_method_4_code 5 = .ok (.iload_n 1, 1) := by decide +kernel
theorem d3_6 : decode prog_6_method_4_code 6 = .ok (.if_icmp .ge 19, 3) := by decide +kernel
theorem d3_9 : decode prog_6_method_4_code 9 = .ok (.aload_n 0, 1) := by decide +kernel
theorem d3_10 : decode prog_6_method_4_code 10 = .ok (.iload 4, 2) := by decide +kernel
theorem d3_12 : decode prog_6_method_4_code 12 = .ok (.baload, 1) := by decide +kernel
theorem d3_13 : decode prog_6_method_4_code 13 = .ok (.invokestatic 25, 3) := by decide +kernel
theorem d3_16 : decode prog_6_method_4_code 16 = .ok (.ifCond .ne 9, 3) := by decide +kernel
theorem d3_19 : decode prog_6_method_4_code 19 = .ok (.iinc 4 1, 3) := by decide +kernel
theorem d3_22 : decode prog_6_method_4_code 22 = .ok (.goto (-19), 3) := by decide +kernel
theorem d3_25 : decode prog_6_method_4_code 25 = .ok (.aload_n 0, 1) := by decide +kernel
theorem d3_26 : decode prog_6_method_4_code 26 = .ok (.iconst 0, 1) := by decide +kernel
theorem d3_27 : decode prog_6_method_4_code 27 = .ok (.aload_n 2, 1) := by decide +kernel
theorem d3_28 : decode prog_6_method_4_code 28 = .ok (.iload_n 3, 1) := by decide +kernel
theorem d3_29 : decode prog_6_method_4_code 29 = .ok (.iload 4, 2) := by decide +kernel
theorem d3_31 : decode prog_6_method_4_code 31 = .ok (.invokestatic 7, 3) := by decide +kernel
theorem d3_34 : decode prog_6_method_4_code 34 = .ok (.iload_n 3, 1) := by decide +kernel
theorem d3_35 : decode prog_6_method_4_code 35 = .ok (.iload 4, 2) := by decide +kernel
theorem d3_37 : decode prog_6_method_4_code 37 = .ok (.iadd, 1) := by decide +kernel
theorem d3_38 : decode prog_6_method_4_code 38 = .ok (.istore 5, 2) := by decide +kernel
theorem d3_40 : decode prog_6_method_4_code 40 = .ok (.iload 4, 2) := by decide +kernel
theorem d3_42 : decode prog_6_method_4_code 42 = .ok (.istore 6, 2) := by decide +kernel
theorem d3_44 : decode prog_6_method_4_code 44 = .ok (.iload 6, 2) := by decide +kernel
theorem d3_46 : decode prog_6_method_4_code 46 = .ok (.iload_n 1, 1) := by decide +kernel
theorem d3_47 : decode prog_6_method_4_code 47 = .ok (.if_icmp .ge 82, 3) := by decide +kernel
theorem d3_50 : decode prog_6_method_4_code 50 = .ok (.aload_n 0, 1) := by decide +kernel
theorem d3_51 : decode prog_6_method_4_code 51 = .ok (.iload 6, 2) := by decide +kernel
theorem d3_53 : decode prog_6_method_4_code 53 = .ok (.baload, 1) := by decide +kernel
theorem d3_54 : decode prog_6_method_4_code 54 = .ok (.sipush 255, 3) := by decide +kernel
theorem d3_57 : decode prog_6_method_4_code 57 = .ok (.iand, 1) := by decide +kernel
theorem d3_58 : decode prog_6_method_4_code 58 = .ok (.istore 7, 2) := by decide +kernel
theorem d3_60 : decode prog_6_method_4_code 60 = .ok (.aload_n 0, 1) := by decide +kernel
theorem d3_61 : decode prog_6_method_4_code 61 = .ok (.iload 6, 2) := by decide +kernel
theorem d3_63 : decode prog_6_method_4_code 63 = .ok (.baload, 1) := by decide +kernel
theorem d3_64 : decode prog_6_method_4_code 64 = .ok (.invokestatic 25, 3) := by decide +kernel
theorem d3_67 : decode prog_6_method_4_code 67 = .ok (.ifCond .eq 46, 3) := by decide +kernel
theorem d3_70 : decode prog_6_method_4_code 70 = .ok (.aload_n 2, 1) := by decide +kernel
theorem d3_71 : decode prog_6_method_4_code 71 = .ok (.iload 5, 2) := by decide +kernel
theorem d3_73 : decode prog_6_method_4_code 73 = .ok (.iinc 5 1, 3) := by decide +kernel
theorem d3_76 : decode prog_6_method_4_code 76 = .ok (.bipush 37, 2) := by decide +kernel
theorem d3_78 : decode prog_6_method_4_code 78 = .ok (.bastore, 1) := by decide +kernel
theorem d3_79 : decode prog_6_method_4_code 79 = .ok (.aload_n 2, 1) := by decide +kernel
theorem d3_80 : decode prog_6_method_4_code 80 = .ok (.iload 5, 2) := by decide +kernel
theorem d3_82 : decode prog_6_method_4_code 82 = .ok (.iinc 5 1, 3) := by decide +kernel
theorem d3_85 : decode prog_6_method_4_code 85 = .ok (.getstatic 31, 3) := by decide +kernel
theorem d3_88 : decode prog_6_method_4_code 88 = .ok (.iload 7, 2) := by decide +kernel
theorem d3_90 : decode prog_6_method_4_code 90 = .ok (.iconst 4, 1) := by decide +kernel
theorem d3_91 : decode prog_6_method_4_code 91 = .ok (.iushr, 1) := by decide +kernel
theorem d3_92 : decode prog_6_method_4_code 92 = .ok (.baload, 1) := by decide +kernel
theorem d3_93 : decode prog_6_method_4_code 93 = .ok (.bastore, 1) := by decide +kernel
theorem d3_94 : decode prog_6_method_4_code 94 = .ok (.aload_n 2, 1) := by decide +kernel
theorem d3_95 : decode prog_6_method_4_code 95 = .ok (.iload 5, 2) := by decide +kernel
theorem d3_97 : decode prog_6_method_4_code 97 = .ok (.iinc 5 1, 3) := by decide +kernel
theorem d3_100 : decode prog_6_method_4_code 100 = .ok (.getstatic 31, 3) := by decide +kernel
theorem d3_103 : decode prog_6_method_4_code 103 = .ok (.iload 7, 2) := by decide +kernel
theorem d3_105 : decode prog_6_method_4_code 105 = .ok (.bipush 15, 2) := by decide +kernel
theorem d3_107 : decode prog_6_method_4_code 107 = .ok (.iand, 1) := by decide +kernel
theorem d3_108 : decode prog_6_method_4_code 108 = .ok (.baload, 1) := by decide +kernel
theorem d3_109 : decode prog_6_method_4_code 109 = .ok (.bastore, 1) := by decide +kernel
theorem d3_110 : decode prog_6_method_4_code 110 = .ok (.goto 13, 3) := by decide +kernel
theorem d3_113 : decode prog_6_method_4_code 113 = .ok (.aload_n 2, 1) := by decide +kernel
theorem d3_114 : decode prog_6_method_4_code 114 = .ok (.iload 5, 2) := by decide +kernel
theorem d3_116 : decode prog_6_method_4_code 116 = .ok (.iinc 5 1, 3) := by decide +kernel
theorem d3_119 : decode prog_6_method_4_code 119 = .ok (.iload 7, 2) := by decide +kernel
theorem d3_121 : decode prog_6_method_4_code 121 = .ok (.i2b, 1) := by decide +kernel
theorem d3_122 : decode prog_6_method_4_code 122 = .ok (.bastore, 1) := by decide +kernel
theorem d3_123 : decode prog_6_method_4_code 123 = .ok (.iinc 6 1, 3) := by decide +kernel
theorem d3_126 : decode prog_6_method_4_code 126 = .ok (.goto (-82), 3) := by decide +kernel
theorem d3_129 : decode prog_6_method_4_code 129 = .ok (.iload 5, 2) := by decide +kernel
theorem d3_131 : decode prog_6_method_4_code 131 = .ok (.ireturn, 1) := by decide +kernel
theorem ef_3 (a1 : Addr) (p2 : Int32) (a3 : Addr) (p4 : Int32) (m : MethodId) : entryFrame m #[(.ref a1), (.int p2), (.ref a3), (.int p4)] 8 = mkF m 0 #[.val (.ref a1), .val (.int p2), .val (.ref a3), .val (.int p4), .unset, .unset, .unset, .unset] [] := by first | (simp [entryFrame, mkF, argsToLocals, Value.category]; done) | rfl
theorem pd_1 : parseMethodDescriptor "(B)Z" = some ⟨[.byte], some .boolean⟩ := by decide +kernel
set_option maxRecDepth 65536 in
set_option maxHeartbeats 40000000 in
theorem rm3 (l : Launch) (Z : State) (a0 : Array Value) (hw : ∀ d ∈ tables_1, d.before a0 Z = true) (ws : List Jvm.Cond) (a1 : Addr) (p2 : Int32) (a3 : Addr) (p4 : Int32) (kB kO : ClassId) (uh : Addr) (ku : ClassId) (bs xs : List Int32) (N A : Nat) (h0 : Heap) (n0 : Nat) (Z0 : n0 ≤ h0.size) (O0 : Old Z n0 h0) (SH : Sta Z Z.heap "com/example/gist_hash/gisthash/PercentCoding" "UPPER_HEX" "[B" (.ref uh)) (VH : Arv Z Z.heap uh ku .byte (16 : Int32) (own_hx.map Value.int) (.int (0 : Int32))) (VB : Arv Z h0 a1 kB .byte (3 : Int32) (bs.map Value.int) (.int (0 : Int32))) (VO : Arv Z h0 a3 kO .byte (14 : Int32) (xs.map Value.int) (.int (0 : Int32))) (hxs : xs.length = 14) (hne : a1 ≠ a3) (hN : p2.toInt = N) (hN3 : N ≤ 3) (hA : p4.toInt = A) (hA3 : A + 9 ≤ 14) (hbs : ∀ t, (bs.getD t (0 : Int32)).toInt8.toInt32 = bs.getD t (0 : Int32)) (g_a3 : n0 ≤ a3) :
    own_Met l (⟨"com/example/gist_hash/gisthash/PercentCoding", "escape", "([BI[BI)I"⟩ : MethodName) prog_6_method_4_code 8 (some .int) ws ({ frames := 1, cells := 0, slots := 0, locals := 40 } : Room) #[(.ref a1), (.int p2), (.ref a3), (.int p4)] Z h0 (fun v h L => ∃ r : Int32, r.toInt = (A + (own_all (fun t => bs.getD t (0 : Int32)) N).length : Nat) ∧ v = some (.int r) ∧ Fr n0 L ∧ Keep h0 h [a3] ∧ Arv Z h a3 kO .byte (14 : Int32) ((own_wr xs A (own_all (fun t => bs.getD t (0 : Int32)) N)).map Value.int) (.int (0 : Int32))) := by
  refine own_body (plainFor_of_name pn_0) (ef_3 a1 p2 a3 p4) ?_
  intro p e s m below meth c T0 X0 hx hby hml0 hret hlk hnm hown hZ e0
  have hml : c.maxLocals = 8 := hml0
  have N0 := Fr.nil n0
  have e_14 : (14 : Int32).toInt = (14 : Nat) := by decide
  have e_1 : (1 : Int32).toInt = (1 : Nat) := by decide
  have e_3 : (3 : Int32).toInt = (3 : Nat) := by decide
  have e_16 : (16 : Int32).toInt = (16 : Nat) := by decide
  refine own_step (fun _ k => XS.iconst X0.here hx rfl (hb hby d3_0) k) ?_
  show own_Ends _ _ _ _ _ _ _ T0 (mkF m 1 #[.val (.ref a1), .val (.int p2), .val (.ref a3), .val (.int p4), .unset, .unset, .unset, .unset] [(.int (0 : Int32))])
  refine own_step (fun _ k => XS.istore X0.here hx rfl (hb hby d3_1) rfl (l' := #[.val (.ref a1), .val (.int p2), .val (.ref a3), .val (.int p4), .val (.int (0 : Int32)), .unset, .unset, .unset]) rfl k) ?_
  show own_Ends _ _ _ _ _ _ _ T0 (mkF m 3 #[.val (.ref a1), .val (.int p2), .val (.ref a3), .val (.int p4), .val (.int (0 : Int32)), .unset, .unset, .unset] [])
  have loop2 : ∀ (k j : Nat) (i4 pos i : Int32) (s7 : Slot) (T : State) (hp : Heap) (locs : List Loc), Stand p l e ({ frames := 1, cells := 0, slots := 0, locals := 40 } : Room) s m #[(.ref a1), (.int p2), (.ref a3), (.int p4)] below meth c T locs 0 0 → T.heap = hp → Fr n0 locs → Keep h0 hp [a3] → Arv Z hp a3 kO .byte (14 : Int32) ((own_wr xs A (own_all (fun t => bs.getD t (0 : Int32)) j)).map Value.int) (.int (0 : Int32)) → j + k = N → i.toInt = (j : Nat) → pos.toInt = (A + (own_all (fun t => bs.getD t (0 : Int32)) j).length : Nat) → (s7 = .unset ∨ ∃ w, s7 = .val w ∧ w.category = 1) → own_Ends p e below s (fun v h L => ∃ r : Int32, r.toInt = (A + (own_all (fun t => bs.getD t (0 : Int32)) N).length : Nat) ∧ v = some (.int r) ∧ Fr n0 L ∧ Keep h0 h [a3] ∧ Arv Z h a3 kO .byte (14 : Int32) ((own_wr xs A (own_all (fun t => bs.getD t (0 : Int32)) N)).map Value.int) (.int (0 : Int32))) ({ frames := 1, cells := 0, slots := 0, locals := 40 } : Room).cells ({ frames := 1, cells := 0, slots := 0, locals := 40 } : Room).slots T (mkF m 44 #[.val (.ref a1), .val (.int p2), .val (.ref a3), .val (.int p4), .val (.int i4), .val (.int pos), .val (.int i), s7] []) := by
    intro k
    induction k with
    | zero =>
      intro j i4 pos i s7 T hp locs X e' N' K' V' hj hi hps h7
      have hc : ¬ i < p2 := fun q => by have := (own_lt hi hN).mp q; omega
      obtain rfl : j = N := by omega
      have Zp := Nat.le_trans Z0 K'.1
      refine own_step (fun _ k => XS.iload X.here hx rfl (hb hby d3_44) rfl k) ?_
      show own_Ends _ _ _ _ _ _ _ T (mkF m 46 #[.val (.ref a1), .val (.int p2), .val (.ref a3), .val (.int p4), .val (.int i4), .val (.int pos), .val (.int i), s7] [(.int i)])
      refine own_step (fun _ k => XS.iloadN X.here hx rfl (hb hby d3_46) rfl k) ?_
      show own_Ends _ _ _ _ _ _ _ T (mkF m 47 #[.val (.ref a1), .val (.int p2), .val (.ref a3), .val (.int p4), .val (.int i4), .val (.int pos), .val (.int i), s7] [(.int p2), (.int i)])
      refine own_step (fun _ k => XS.icmpYes X.here hx rfl (pc0 := 47) (pc' := 129) rfl (hb hby d3_47) rfl (flt hc).2.1 (by decide) (by decide) k) ?_
      show own_Ends _ _ _ _ _ _ _ T (mkF m 129 #[.val (.ref a1), .val (.int p2), .val (.ref a3), .val (.int p4), .val (.int i4), .val (.int pos), .val (.int i), s7] [])
      refine own_step (fun _ k => XS.iload X.here hx rfl (hb hby d3_129) rfl k) ?_
      show own_Ends _ _ _ _ _ _ _ T (mkF m 131 #[.val (.ref a1), .val (.int p2), .val (.ref a3), .val (.int p4), .val (.int i4), .val (.int pos), .val (.int i), s7] [(.int pos)])
      exact own_retI X hx hret hlk (hb hby d3_131) (by rw [e']; exact ⟨_, hps, rfl, N', K', V'⟩) (by decide) (by decide)
    | succ k ih =>
      intro j i4 pos i s7 T hp locs X e' N' K' V' hj hi hps h7
      have hc : i < p2 := (own_lt hi hN).mpr (by omega)
      have ha3 := own_all3 (fun t => bs.getD t (0 : Int32)) j
      have hlen : ((own_wr xs A (own_all (fun t => bs.getD t (0 : Int32)) j)).map Value.int).length = 14 := by rw [List.length_map, own_wr_len]; exact hxs
      have Zp := Nat.le_trans Z0 K'.1
      refine own_step (fun _ k => XS.iload X.here hx rfl (hb hby d3_44) rfl k) ?_
      show own_Ends _ _ _ _ _ _ _ T (mkF m 46 #[.val (.ref a1), .val (.int p2), .val (.ref a3), .val (.int p4), .val (.int i4), .val (.int pos), .val (.int i), s7] [(.int i)])
      refine own_step (fun _ k => XS.iloadN X.here hx rfl (hb hby d3_46) rfl k) ?_
      show own_Ends _ _ _ _ _ _ _ T (mkF m 47 #[.val (.ref a1), .val (.int p2), .val (.ref a3), .val (.int p4), .val (.int i4), .val (.int pos), .val (.int i), s7] [(.int p2), (.int i)])
      refine own_step (fun _ k => XS.icmpNo X.here hx rfl (hb hby d3_47) rfl (tlt hc).2.1 k) ?_
      show own_Ends _ _ _ _ _ _ _ T (mkF m 50 #[.val (.ref a1), .val (.int p2), .val (.ref a3), .val (.int p4), .val (.int i4), .val (.int pos), .val (.int i), s7] [])
      refine own_step (fun _ k => XS.aloadN X.here hx rfl (hb hby d3_50) rfl rfl k) ?_
      show own_Ends _ _ _ _ _ _ _ T (mkF m 51 #[.val (.ref a1), .val (.int p2), .val (.ref a3), .val (.int p4), .val (.int i4), .val (.int pos), .val (.int i), s7] [(.ref a1)])
      refine own_step (fun _ k => XS.iload X.here hx rfl (hb hby d3_51) rfl k) ?_
      show own_Ends _ _ _ _ _ _ _ T (mkF m 53 #[.val (.ref a1), .val (.int p2), .val (.ref a3), .val (.int p4), .val (.int i4), .val (.int pos), .val (.int i), s7] [(.int i), (.ref a1)])
      have Q1 := (VB.keep K' (ninS hne nin0))
      refine own_step (own_ldB X hx hZ e' Q1 (j := i) (v := (.int (bs.getD j (0 : Int32)))) ⟨own_nn hi, (own_lt hi e_3).mpr (by omega)⟩ (by rw [own_clamp hi]; exact own_getI bs _ j) (g := (mkF m 53 #[.val (.ref a1), .val (.int p2), .val (.ref a3), .val (.int p4), .val (.int i4), .val (.int pos), .val (.int i), s7] [(.int i), (.ref a1)])) rfl rfl (hb hby d3_53)) ?_
      show own_Ends _ _ _ _ _ _ _ T (mkF m 54 #[.val (.ref a1), .val (.int p2), .val (.ref a3), .val (.int p4), .val (.int i4), .val (.int pos), .val (.int i), s7] [(.int (bs.getD j (0 : Int32)))])
      refine own_step (fun _ k => XS.sipush X.here hx rfl (hb hby d3_54) k) ?_
      show own_Ends _ _ _ _ _ _ _ T (mkF m 57 #[.val (.ref a1), .val (.int p2), .val (.ref a3), .val (.int p4), .val (.int i4), .val (.int pos), .val (.int i), s7] [(.int (255 : Int32)), (.int (bs.getD j (0 : Int32)))])
      refine own_step (fun _ k => XS.iand X.here hx rfl (hb hby d3_57) rfl k) ?_
      show own_Ends _ _ _ _ _ _ _ T (mkF m 58 #[.val (.ref a1), .val (.int p2), .val (.ref a3), .val (.int p4), .val (.int i4), .val (.int pos), .val (.int i), s7] [(.int ((bs.getD j (0 : Int32)) &&& (255 : Int32)))])
      -- general slot
      refine own_step (fun _ k => XS.istore X.here hx rfl (hb hby d3_58) rfl (l' := #[.val (.ref a1), .val (.int p2), .val (.ref a3), .val (.int p4), .val (.int i4), .val (.int pos), .val (.int i), .val (.int ((bs.getD j (0 : Int32)) &&& (255 : Int32)))]) (XS.store1 (o := s7) rfl h7 rfl) k) ?_
      show own_Ends _ _ _ _ _ _ _ T (mkF m 60 #[.val (.ref a1), .val (.int p2), .val (.ref a3), .val (.int p4), .val (.int i4), .val (.int pos), .val (.int i), .val (.int ((bs.getD j (0 : Int32)) &&& (255 : Int32)))] [])
      refine own_step (fun _ k => XS.aloadN X.here hx rfl (hb hby d3_60) rfl rfl k) ?_
      show own_Ends _ _ _ _ _ _ _ T (mkF m 61 #[.val (.ref a1), .val (.int p2), .val (.ref a3), .val (.int p4), .val (.int i4), .val (.int pos), .val (.int i), .val (.int ((bs.getD j (0 : Int32)) &&& (255 : Int32)))] [(.ref a1)])
      refine own_step (fun _ k => XS.iload X.here hx rfl (hb hby d3_61) rfl k) ?_
      show own_Ends _ _ _ _ _ _ _ T (mkF m 63 #[.val (.ref a1), .val (.int p2), .val (.ref a3), .val (.int p4), .val (.int i4), .val (.int pos), .val (.int i), .val (.int ((bs.getD j (0 : Int32)) &&& (255 : Int32)))] [(.int i), (.ref a1)])
      refine own_step (own_ldB X hx hZ e' Q1 (j := i) (v := (.int (bs.getD j (0 : Int32)))) ⟨own_nn hi, (own_lt hi e_3).mpr (by omega)⟩ (by rw [own_clamp hi]; exact own_getI bs _ j) (g := (mkF m 63 #[.val (.ref a1), .val (.int p2), .val (.ref a3), .val (.int p4), .val (.int i4), .val (.int pos), .val (.int i), .val (.int ((bs.getD j (0 : Int32)) &&& (255 : Int32)))] [(.int i), (.ref a1)])) rfl rfl (hb hby d3_63)) ?_
      show own_Ends _ _ _ _ _ _ _ T (mkF m 64 #[.val (.ref a1), .val (.int p2), .val (.ref a3), .val (.int p4), .val (.int i4), .val (.int pos), .val (.int i), .val (.int ((bs.getD j (0 : Int32)) &&& (255 : Int32)))] [(.int (bs.getD j (0 : Int32)))])
      refine own_callS X hx hZ (y := (⟨"com/example/gist_hash/gisthash/PercentCoding", "isEscaped", "(B)Z"⟩ : MethodName)) hown (hw _ (List.mem_of_getElem? (i := 12) rfl)) (hw _ (List.mem_of_getElem? (i := 13) rfl)) (hw _ (List.mem_of_getElem? (i := 10) rfl)) (hw _ (List.mem_of_getElem? (i := 14) rfl)) (by decide) (rm4 l Z a0 hw [] (bs.getD j (0 : Int32)) hp n0 Zp) e' 0 (by decide) (by decide) (by decide) (by decide) (g := (mkF m 64 #[.val (.ref a1), .val (.int p2), .val (.ref a3), .val (.int p4), .val (.int i4), .val (.int pos), .val (.int i), .val (.int ((bs.getD j (0 : Int32)) &&& (255 : Int32)))] [(.int (bs.getD j (0 : Int32)))])) rfl (by rw [hml]; rfl) [(.int (bs.getD j (0 : Int32)))] [] pd_1 rfl rfl rfl (by show 2 * 0 + _ ≤ _; exact Nat.le_of_eq rfl) (hb hby d3_64) ?_
      rintro v2 T2 L2 X2 ⟨rfl, Nq2, e2⟩
      have N2 := Fr.app N' Nq2
      show own_Ends _ _ _ _ _ _ _ T2 (mkF m 67 #[.val (.ref a1), .val (.int p2), .val (.ref a3), .val (.int p4), .val (.int i4), .val (.int pos), .val (.int i), .val (.int ((bs.getD j (0 : Int32)) &&& (255 : Int32)))] [(.int (own_f4 (bs.getD j (0 : Int32))))])
      by_cases hq : (own_f4 (bs.getD j (0 : Int32))) = (0 : Int32)
      · refine own_step (fun _ k => XS.ifYes X2.here hx rfl (pc0 := 67) (pc' := 113) rfl (hb hby d3_67) rfl ((if0 _ _).trans (teq hq).1) (by decide) (by decide) k) ?_
        show own_Ends _ _ _ _ _ _ _ T2 (mkF m 113 #[.val (.ref a1), .val (.int p2), .val (.ref a3), .val (.int p4), .val (.int i4), .val (.int pos), .val (.int i), .val (.int ((bs.getD j (0 : Int32)) &&& (255 : Int32)))] [])
        have hen : own_all (fun t => bs.getD t (0 : Int32)) (j + 1) = own_all (fun t => bs.getD t (0 : Int32)) j ++ [(bs.getD j (0 : Int32))] := congrArg (own_all (fun t => bs.getD t (0 : Int32)) j ++ ·) (if_pos hq)
        have hP1 := own_add hps e_1 (by omega)
        refine own_step (fun _ k => XS.aloadN X2.here hx rfl (hb hby d3_113) rfl rfl k) ?_
        show own_Ends _ _ _ _ _ _ _ T2 (mkF m 114 #[.val (.ref a1), .val (.int p2), .val (.ref a3), .val (.int p4), .val (.int i4), .val (.int pos), .val (.int i), .val (.int ((bs.getD j (0 : Int32)) &&& (255 : Int32)))] [(.ref a3)])
        refine own_step (fun _ k => XS.iload X2.here hx rfl (hb hby d3_114) rfl k) ?_
        show own_Ends _ _ _ _ _ _ _ T2 (mkF m 116 #[.val (.ref a1), .val (.int p2), .val (.ref a3), .val (.int p4), .val (.int i4), .val (.int pos), .val (.int i), .val (.int ((bs.getD j (0 : Int32)) &&& (255 : Int32)))] [(.int pos), (.ref a3)])
        refine own_step (fun _ k => XS.iinc X2.here hx rfl (hb hby d3_116) rfl (l' := #[.val (.ref a1), .val (.int p2), .val (.ref a3), .val (.int p4), .val (.int i4), .val (.int (pos + (1 : Int32))), .val (.int i), .val (.int ((bs.getD j (0 : Int32)) &&& (255 : Int32)))]) rfl k) ?_
        show own_Ends _ _ _ _ _ _ _ T2 (mkF m 119 #[.val (.ref a1), .val (.int p2), .val (.ref a3), .val (.int p4), .val (.int i4), .val (.int (pos + (1 : Int32))), .val (.int i), .val (.int ((bs.getD j (0 : Int32)) &&& (255 : Int32)))] [(.int pos), (.ref a3)])
        refine own_step (fun _ k => XS.iload X2.here hx rfl (hb hby d3_119) rfl k) ?_
        show own_Ends _ _ _ _ _ _ _ T2 (mkF m 121 #[.val (.ref a1), .val (.int p2), .val (.ref a3), .val (.int p4), .val (.int i4), .val (.int (pos + (1 : Int32))), .val (.int i), .val (.int ((bs.getD j (0 : Int32)) &&& (255 : Int32)))] [(.int ((bs.getD j (0 : Int32)) &&& (255 : Int32))), (.int pos), (.ref a3)])
        refine own_step (fun _ k => XS.i2b X2.here hx rfl (hb hby d3_121) rfl k) ?_
        show own_Ends _ _ _ _ _ _ _ T2 (mkF m 122 #[.val (.ref a1), .val (.int p2), .val (.ref a3), .val (.int p4), .val (.int i4), .val (.int (pos + (1 : Int32))), .val (.int i), .val (.int ((bs.getD j (0 : Int32)) &&& (255 : Int32)))] [(.int (((bs.getD j (0 : Int32)) &&& (255 : Int32)).toInt8.toInt32)), (.int pos), (.ref a3)])
        obtain ⟨T3, h3, l3, X3, e3, W3, V3, st3⟩ := own_stB X2 hx hZ e2 V' (j := pos) ⟨own_nn hps, (own_lt hps e_14).mpr (by omega)⟩ (A + (own_all (fun t => bs.getD t (0 : Int32)) j).length) (own_clamp hps) (by omega) (g := (mkF m 122 #[.val (.ref a1), .val (.int p2), .val (.ref a3), .val (.int p4), .val (.int i4), .val (.int (pos + (1 : Int32))), .val (.int i), .val (.int ((bs.getD j (0 : Int32)) &&& (255 : Int32)))] [(.int (((bs.getD j (0 : Int32)) &&& (255 : Int32)).toInt8.toInt32)), (.int pos), (.ref a3)])) rfl rfl (hb hby d3_122)
        refine own_step st3 ?_
        have N3 := Fr.snoc X3 N2 g_a3
        have Z3 := Nat.le_trans Zp (Keep.of_wr W3).1
        have KK3 := K'.wr W3 (Or.inl (List.mem_of_getElem? (i := 0) rfl))
        rw [own_bb] at V3
        rw [own_byteR (bs.getD j (0 : Int32)) (hbs j), ← List.map_set] at V3
        have V_a3_3 : Arv Z h3 a3 kO .byte (14 : Int32) (((own_wr xs A (own_all (fun t => bs.getD t (0 : Int32)) j)).set (A + (own_all (fun t => bs.getD t (0 : Int32)) j).length) (bs.getD j (0 : Int32))).map Value.int) (.int (0 : Int32)) := V3
        show own_Ends _ _ _ _ _ _ _ T3 (mkF m 123 #[.val (.ref a1), .val (.int p2), .val (.ref a3), .val (.int p4), .val (.int i4), .val (.int (pos + (1 : Int32))), .val (.int i), .val (.int ((bs.getD j (0 : Int32)) &&& (255 : Int32)))] [])
        refine own_step (fun _ k => XS.iinc X3.here hx rfl (hb hby d3_123) rfl (l' := #[.val (.ref a1), .val (.int p2), .val (.ref a3), .val (.int p4), .val (.int i4), .val (.int (pos + (1 : Int32))), .val (.int (i + (1 : Int32))), .val (.int ((bs.getD j (0 : Int32)) &&& (255 : Int32)))]) rfl k) ?_
        show own_Ends _ _ _ _ _ _ _ T3 (mkF m 126 #[.val (.ref a1), .val (.int p2), .val (.ref a3), .val (.int p4), .val (.int i4), .val (.int (pos + (1 : Int32))), .val (.int (i + (1 : Int32))), .val (.int ((bs.getD j (0 : Int32)) &&& (255 : Int32)))] [])
        refine own_step (fun _ k => XS.goto X3.here hx rfl (pc0 := 126) (pc' := 44) rfl (hb hby d3_126) (by decide) (by decide) k) ?_
        show own_Ends _ _ _ _ _ _ _ T3 (mkF m 44 #[.val (.ref a1), .val (.int p2), .val (.ref a3), .val (.int p4), .val (.int i4), .val (.int (pos + (1 : Int32))), .val (.int (i + (1 : Int32))), .val (.int ((bs.getD j (0 : Int32)) &&& (255 : Int32)))] [])
        refine ih (j + 1) _ _ (i + (1 : Int32)) _ T3 _ _ X3 e3 N3 KK3 ?_ (by omega) (own_add hi e_1 (by omega)) ?_ (Or.inr ⟨_, rfl, rfl⟩)
        · rw [hen, own_wr_app]; exact V_a3_3
        · rw [hen, List.length_append, ← Nat.add_assoc]; exact hP1
      · refine own_step (fun _ k => XS.ifNo X2.here hx rfl (hb hby d3_67) rfl ((if0 _ _).trans (feq hq).1) k) ?_
        show own_Ends _ _ _ _ _ _ _ T2 (mkF m 70 #[.val (.ref a1), .val (.int p2), .val (.ref a3), .val (.int p4), .val (.int i4), .val (.int pos), .val (.int i), .val (.int ((bs.getD j (0 : Int32)) &&& (255 : Int32)))] [])
        have hen : own_all (fun t => bs.getD t (0 : Int32)) (j + 1) = own_all (fun t => bs.getD t (0 : Int32)) j ++ [(37 : Int32), (own_f2 (((bs.getD j (0 : Int32)) &&& (255 : Int32)) >>> ((4 : Int32) &&& 31))), (own_f2 (((bs.getD j (0 : Int32)) &&& (255 : Int32)) &&& (15 : Int32)))] := congrArg (own_all (fun t => bs.getD t (0 : Int32)) j ++ ·) (if_neg hq)
        have hP1 := own_add hps e_1 (by omega)
        have hP2 := own_add hP1 e_1 (by omega)
        have hP3 := own_add hP2 e_1 (by omega)
        refine own_step (fun _ k => XS.aloadN X2.here hx rfl (hb hby d3_70) rfl rfl k) ?_
        show own_Ends _ _ _ _ _ _ _ T2 (mkF m 71 #[.val (.ref a1), .val (.int p2), .val (.ref a3), .val (.int p4), .val (.int i4), .val (.int pos), .val (.int i), .val (.int ((bs.getD j (0 : Int32)) &&& (255 : Int32)))] [(.ref a3)])
        refine own_step (fun _ k => XS.iload X2.here hx rfl (hb hby d3_71) rfl k) ?_
        show own_Ends _ _ _ _ _ _ _ T2 (mkF m 73 #[.val (.ref a1), .val (.int p2), .val (.ref a3), .val (.int p4), .val (.int i4), .val (.int pos), .val (.int i), .val (.int ((bs.getD j (0 : Int32)) &&& (255 : Int32)))] [(.int pos), (.ref a3)])
        refine own_step (fun _ k => XS.iinc X2.here hx rfl (hb hby d3_73) rfl (l' := #[.val (.ref a1), .val (.int p2), .val (.ref a3), .val (.int p4), .val (.int i4), .val (.int (pos + (1 : Int32))), .val (.int i), .val (.int ((bs.getD j (0 : Int32)) &&& (255 : Int32)))]) rfl k) ?_
        show own_Ends _ _ _ _ _ _ _ T2 (mkF m 76 #[.val (.ref a1), .val (.int p2), .val (.ref a3), .val (.int p4), .val (.int i4), .val (.int (pos + (1 : Int32))), .val (.int i), .val (.int ((bs.getD j (0 : Int32)) &&& (255 : Int32)))] [(.int pos), (.ref a3)])
        refine own_step (fun _ k => XS.bipush X2.here hx rfl (hb hby d3_76) k) ?_
        show own_Ends _ _ _ _ _ _ _ T2 (mkF m 78 #[.val (.ref a1), .val (.int p2), .val (.ref a3), .val (.int p4), .val (.int i4), .val (.int (pos + (1 : Int32))), .val (.int i), .val (.int ((bs.getD j (0 : Int32)) &&& (255 : Int32)))] [(.int (37 : Int32)), (.int pos), (.ref a3)])
        obtain ⟨T4, h4, l4, X4, e4, W4, V4, st4⟩ := own_stB X2 hx hZ e2 V' (j := pos) ⟨own_nn hps, (own_lt hps e_14).mpr (by omega)⟩ (A + (own_all (fun t => bs.getD t (0 : Int32)) j).length) (own_clamp hps) (by omega) (g := (mkF m 78 #[.val (.ref a1), .val (.int p2), .val (.ref a3), .val (.int p4), .val (.int i4), .val (.int (pos + (1 : Int32))), .val (.int i), .val (.int ((bs.getD j (0 : Int32)) &&& (255 : Int32)))] [(.int (37 : Int32)), (.int pos), (.ref a3)])) rfl rfl (hb hby d3_78)
        refine own_step st4 ?_
        have N4 := Fr.snoc X4 N2 g_a3
        have Z4 := Nat.le_trans Zp (Keep.of_wr W4).1
        have KK4 := K'.wr W4 (Or.inl (List.mem_of_getElem? (i := 0) rfl))
        rw [← List.map_set] at V4
        have V_a3_4 : Arv Z h4 a3 kO .byte (14 : Int32) (((own_wr xs A (own_all (fun t => bs.getD t (0 : Int32)) j)).set (A + (own_all (fun t => bs.getD t (0 : Int32)) j).length) (37 : Int32)).map Value.int) (.int (0 : Int32)) := V4
        show own_Ends _ _ _ _ _ _ _ T4 (mkF m 79 #[.val (.ref a1), .val (.int p2), .val (.ref a3), .val (.int p4), .val (.int i4), .val (.int (pos + (1 : Int32))), .val (.int i), .val (.int ((bs.getD j (0 : Int32)) &&& (255 : Int32)))] [])
        refine own_step (fun _ k => XS.aloadN X4.here hx rfl (hb hby d3_79) rfl rfl k) ?_
        show own_Ends _ _ _ _ _ _ _ T4 (mkF m 80 #[.val (.ref a1), .val (.int p2), .val (.ref a3), .val (.int p4), .val (.int i4), .val (.int (pos + (1 : Int32))), .val (.int i), .val (.int ((bs.getD j (0 : Int32)) &&& (255 : Int32)))] [(.ref a3)])
        refine own_step (fun _ k => XS.iload X4.here hx rfl (hb hby d3_80) rfl k) ?_
        show own_Ends _ _ _ _ _ _ _ T4 (mkF m 82 #[.val (.ref a1), .val (.int p2), .val (.ref a3), .val (.int p4), .val (.int i4), .val (.int (pos + (1 : Int32))), .val (.int i), .val (.int ((bs.getD j (0 : Int32)) &&& (255 : Int32)))] [(.int (pos + (1 : Int32))), (.ref a3)])
        refine own_step (fun _ k => XS.iinc X4.here hx rfl (hb hby d3_82) rfl (l' := #[.val (.ref a1), .val (.int p2), .val (.ref a3), .val (.int p4), .val (.int i4), .val (.int ((pos + (1 : Int32)) + (1 : Int32))), .val (.int i), .val (.int ((bs.getD j (0 : Int32)) &&& (255 : Int32)))]) rfl k) ?_
        show own_Ends _ _ _ _ _ _ _ T4 (mkF m 85 #[.val (.ref a1), .val (.int p2), .val (.ref a3), .val (.int p4), .val (.int i4), .val (.int ((pos + (1 : Int32)) + (1 : Int32))), .val (.int i), .val (.int ((bs.getD j (0 : Int32)) &&& (255 : Int32)))] [(.int (pos + (1 : Int32))), (.ref a3)])
        have Q6 := ((O0.keep K' (allS g_a3 all0)).wr W4 g_a3)
        obtain ⟨T5, X5, e5, st5⟩ := getS2 X4 hx hZ hown (host := "") (Or.inl (hw _ (List.mem_of_getElem? (i := 19) rfl))) Via.refl e4 (SH.ext Q6.2) (g := (mkF m 85 #[.val (.ref a1), .val (.int p2), .val (.ref a3), .val (.int p4), .val (.int i4), .val (.int ((pos + (1 : Int32)) + (1 : Int32))), .val (.int i), .val (.int ((bs.getD j (0 : Int32)) &&& (255 : Int32)))] [(.int (pos + (1 : Int32))), (.ref a3)])) rfl (hb hby d3_85)
        refine own_step st5 ?_
        show own_Ends _ _ _ _ _ _ _ T5 (mkF m 88 #[.val (.ref a1), .val (.int p2), .val (.ref a3), .val (.int p4), .val (.int i4), .val (.int ((pos + (1 : Int32)) + (1 : Int32))), .val (.int i), .val (.int ((bs.getD j (0 : Int32)) &&& (255 : Int32)))] [(.ref uh), (.int (pos + (1 : Int32))), (.ref a3)])
        refine own_step (fun _ k => XS.iload X5.here hx rfl (hb hby d3_88) rfl k) ?_
        show own_Ends _ _ _ _ _ _ _ T5 (mkF m 90 #[.val (.ref a1), .val (.int p2), .val (.ref a3), .val (.int p4), .val (.int i4), .val (.int ((pos + (1 : Int32)) + (1 : Int32))), .val (.int i), .val (.int ((bs.getD j (0 : Int32)) &&& (255 : Int32)))] [(.int ((bs.getD j (0 : Int32)) &&& (255 : Int32))), (.ref uh), (.int (pos + (1 : Int32))), (.ref a3)])
        refine own_step (fun _ k => XS.iconst X5.here hx rfl (hb hby d3_90) k) ?_
        show own_Ends _ _ _ _ _ _ _ T5 (mkF m 91 #[.val (.ref a1), .val (.int p2), .val (.ref a3), .val (.int p4), .val (.int i4), .val (.int ((pos + (1 : Int32)) + (1 : Int32))), .val (.int i), .val (.int ((bs.getD j (0 : Int32)) &&& (255 : Int32)))] [(.int (4 : Int32)), (.int ((bs.getD j (0 : Int32)) &&& (255 : Int32))), (.ref uh), (.int (pos + (1 : Int32))), (.ref a3)])
        refine own_step (fun _ k => XS.iushr X5.here hx rfl (hb hby d3_91) rfl k) ?_
        show own_Ends _ _ _ _ _ _ _ T5 (mkF m 92 #[.val (.ref a1), .val (.int p2), .val (.ref a3), .val (.int p4), .val (.int i4), .val (.int ((pos + (1 : Int32)) + (1 : Int32))), .val (.int i), .val (.int ((bs.getD j (0 : Int32)) &&& (255 : Int32)))] [(.int ((((bs.getD j (0 : Int32)) &&& (255 : Int32)).toUInt32 >>> ((4 : Int32) &&& 31).toUInt32).toInt32)), (.ref uh), (.int (pos + (1 : Int32))), (.ref a3)])
        refine own_step (own_ldB X5 hx hZ e5 (VH.ext Q6.2) (j := ((((bs.getD j (0 : Int32)) &&& (255 : Int32)).toUInt32 >>> ((4 : Int32) &&& 31).toUInt32).toInt32)) (v := (.int (own_f2 (((bs.getD j (0 : Int32)) &&& (255 : Int32)) >>> ((4 : Int32) &&& 31))))) ⟨(own_hx3 (bs.getD j (0 : Int32))).1, (own_hx3 (bs.getD j (0 : Int32))).2.1⟩ ((own_getI own_hx _ _).trans (congrArg Value.int (own_hx1 (bs.getD j (0 : Int32))))) (g := (mkF m 92 #[.val (.ref a1), .val (.int p2), .val (.ref a3), .val (.int p4), .val (.int i4), .val (.int ((pos + (1 : Int32)) + (1 : Int32))), .val (.int i), .val (.int ((bs.getD j (0 : Int32)) &&& (255 : Int32)))] [(.int ((((bs.getD j (0 : Int32)) &&& (255 : Int32)).toUInt32 >>> ((4 : Int32) &&& 31).toUInt32).toInt32)), (.ref uh), (.int (pos + (1 : Int32))), (.ref a3)])) rfl rfl (hb hby d3_92)) ?_
        show own_Ends _ _ _ _ _ _ _ T5 (mkF m 93 #[.val (.ref a1), .val (.int p2), .val (.ref a3), .val (.int p4), .val (.int i4), .val (.int ((pos + (1 : Int32)) + (1 : Int32))), .val (.int i), .val (.int ((bs.getD j (0 : Int32)) &&& (255 : Int32)))] [(.int (own_f2 (((bs.getD j (0 : Int32)) &&& (255 : Int32)) >>> ((4 : Int32) &&& 31)))), (.int (pos + (1 : Int32))), (.ref a3)])
        obtain ⟨T7, h7, l7, X7, e7, W7, V7, st7⟩ := own_stB X5 hx hZ e5 V_a3_4 (j := (pos + (1 : Int32))) ⟨own_nn hP1, (own_lt hP1 e_14).mpr (by omega)⟩ ((A + (own_all (fun t => bs.getD t (0 : Int32)) j).length) + 1) (own_clamp hP1) (by rw [List.length_map, List.length_set, own_wr_len]; omega) (g := (mkF m 93 #[.val (.ref a1), .val (.int p2), .val (.ref a3), .val (.int p4), .val (.int i4), .val (.int ((pos + (1 : Int32)) + (1 : Int32))), .val (.int i), .val (.int ((bs.getD j (0 : Int32)) &&& (255 : Int32)))] [(.int (own_f2 (((bs.getD j (0 : Int32)) &&& (255 : Int32)) >>> ((4 : Int32) &&& 31)))), (.int (pos + (1 : Int32))), (.ref a3)])) rfl rfl (hb hby d3_93)
        refine own_step st7 ?_
        have N7 := Fr.snoc X7 N4 g_a3
        have Z7 := Nat.le_trans Z4 (Keep.of_wr W7).1
        have KK7 := KK4.wr W7 (Or.inl (List.mem_of_getElem? (i := 0) rfl))
        rw [own_hb, ← List.map_set] at V7
        have V_a3_7 : Arv Z h7 a3 kO .byte (14 : Int32) ((((own_wr xs A (own_all (fun t => bs.getD t (0 : Int32)) j)).set (A + (own_all (fun t => bs.getD t (0 : Int32)) j).length) (37 : Int32)).set ((A + (own_all (fun t => bs.getD t (0 : Int32)) j).length) + 1) (own_f2 (((bs.getD j (0 : Int32)) &&& (255 : Int32)) >>> ((4 : Int32) &&& 31)))).map Value.int) (.int (0 : Int32)) := V7
        show own_Ends _ _ _ _ _ _ _ T7 (mkF m 94 #[.val (.ref a1), .val (.int p2), .val (.ref a3), .val (.int p4), .val (.int i4), .val (.int ((pos + (1 : Int32)) + (1 : Int32))), .val (.int i), .val (.int ((bs.getD j (0 : Int32)) &&& (255 : Int32)))] [])
        refine own_step (fun _ k => XS.aloadN X7.here hx rfl (hb hby d3_94) rfl rfl k) ?_
        show own_Ends _ _ _ _ _ _ _ T7 (mkF m 95 #[.val (.ref a1), .val (.int p2), .val (.ref a3), .val (.int p4), .val (.int i4), .val (.int ((pos + (1 : Int32)) + (1 : Int32))), .val (.int i), .val (.int ((bs.getD j (0 : Int32)) &&& (255 : Int32)))] [(.ref a3)])
        refine own_step (fun _ k => XS.iload X7.here hx rfl (hb hby d3_95) rfl k) ?_
        show own_Ends _ _ _ _ _ _ _ T7 (mkF m 97 #[.val (.ref a1), .val (.int p2), .val (.ref a3), .val (.int p4), .val (.int i4), .val (.int ((pos + (1 : Int32)) + (1 : Int32))), .val (.int i), .val (.int ((bs.getD j (0 : Int32)) &&& (255 : Int32)))] [(.int ((pos + (1 : Int32)) + (1 : Int32))), (.ref a3)])
        refine own_step (fun _ k => XS.iinc X7.here hx rfl (hb hby d3_97) rfl (l' := #[.val (.ref a1), .val (.int p2), .val (.ref a3), .val (.int p4), .val (.int i4), .val (.int (((pos + (1 : Int32)) + (1 : Int32)) + (1 : Int32))), .val (.int i), .val (.int ((bs.getD j (0 : Int32)) &&& (255 : Int32)))]) rfl k) ?_
        show own_Ends _ _ _ _ _ _ _ T7 (mkF m 100 #[.val (.ref a1), .val (.int p2), .val (.ref a3), .val (.int p4), .val (.int i4), .val (.int (((pos + (1 : Int32)) + (1 : Int32)) + (1 : Int32))), .val (.int i), .val (.int ((bs.getD j (0 : Int32)) &&& (255 : Int32)))] [(.int ((pos + (1 : Int32)) + (1 : Int32))), (.ref a3)])
        have Q9 := (Q6.wr W7 g_a3)
        obtain ⟨T8, X8, e8, st8⟩ := getS2 X7 hx hZ hown (host := "") (Or.inl (hw _ (List.mem_of_getElem? (i := 19) rfl))) Via.refl e7 (SH.ext Q9.2) (g := (mkF m 100 #[.val (.ref a1), .val (.int p2), .val (.ref a3), .val (.int p4), .val (.int i4), .val (.int (((pos + (1 : Int32)) + (1 : Int32)) + (1 : Int32))), .val (.int i), .val (.int ((bs.getD j (0 : Int32)) &&& (255 : Int32)))] [(.int ((pos + (1 : Int32)) + (1 : Int32))), (.ref a3)])) rfl (hb hby d3_100)
        refine own_step st8 ?_
        show own_Ends _ _ _ _ _ _ _ T8 (mkF m 103 #[.val (.ref a1), .val (.int p2), .val (.ref a3), .val (.int p4), .val (.int i4), .val (.int (((pos + (1 : Int32)) + (1 : Int32)) + (1 : Int32))), .val (.int i), .val (.int ((bs.getD j (0 : Int32)) &&& (255 : Int32)))] [(.ref uh), (.int ((pos + (1 : Int32)) + (1 : Int32))), (.ref a3)])
        refine own_step (fun _ k => XS.iload X8.here hx rfl (hb hby d3_103) rfl k) ?_
        show own_Ends _ _ _ _ _ _ _ T8 (mkF m 105 #[.val (.ref a1), .val (.int p2), .val (.ref a3), .val (.int p4), .val (.int i4), .val (.int (((pos + (1 : Int32)) + (1 : Int32)) + (1 : Int32))), .val (.int i), .val (.int ((bs.getD j (0 : Int32)) &&& (255 : Int32)))] [(.int ((bs.getD j (0 : Int32)) &&& (255 : Int32))), (.ref uh), (.int ((pos + (1 : Int32)) + (1 : Int32))), (.ref a3)])
        refine own_step (fun _ k => XS.bipush X8.here hx rfl (hb hby d3_105) k) ?_
        show own_Ends _ _ _ _ _ _ _ T8 (mkF m 107 #[.val (.ref a1), .val (.int p2), .val (.ref a3), .val (.int p4), .val (.int i4), .val (.int (((pos + (1 : Int32)) + (1 : Int32)) + (1 : Int32))), .val (.int i), .val (.int ((bs.getD j (0 : Int32)) &&& (255 : Int32)))] [(.int (15 : Int32)), (.int ((bs.getD j (0 : Int32)) &&& (255 : Int32))), (.ref uh), (.int ((pos + (1 : Int32)) + (1 : Int32))), (.ref a3)])
        refine own_step (fun _ k => XS.iand X8.here hx rfl (hb hby d3_107) rfl k) ?_
        show own_Ends _ _ _ _ _ _ _ T8 (mkF m 108 #[.val (.ref a1), .val (.int p2), .val (.ref a3), .val (.int p4), .val (.int i4), .val (.int (((pos + (1 : Int32)) + (1 : Int32)) + (1 : Int32))), .val (.int i), .val (.int ((bs.getD j (0 : Int32)) &&& (255 : Int32)))] [(.int (((bs.getD j (0 : Int32)) &&& (255 : Int32)) &&& (15 : Int32))), (.ref uh), (.int ((pos + (1 : Int32)) + (1 : Int32))), (.ref a3)])
        refine own_step (own_ldB X8 hx hZ e8 (VH.ext Q9.2) (j := (((bs.getD j (0 : Int32)) &&& (255 : Int32)) &&& (15 : Int32))) (v := (.int (own_f2 (((bs.getD j (0 : Int32)) &&& (255 : Int32)) &&& (15 : Int32))))) (own_hx3 (bs.getD j (0 : Int32))).2.2 ((own_getI own_hx _ _).trans (congrArg Value.int (own_hx2 (bs.getD j (0 : Int32))))) (g := (mkF m 108 #[.val (.ref a1), .val (.int p2), .val (.ref a3), .val (.int p4), .val (.int i4), .val (.int (((pos + (1 : Int32)) + (1 : Int32)) + (1 : Int32))), .val (.int i), .val (.int ((bs.getD j (0 : Int32)) &&& (255 : Int32)))] [(.int (((bs.getD j (0 : Int32)) &&& (255 : Int32)) &&& (15 : Int32))), (.ref uh), (.int ((pos + (1 : Int32)) + (1 : Int32))), (.ref a3)])) rfl rfl (hb hby d3_108)) ?_
        show own_Ends _ _ _ _ _ _ _ T8 (mkF m 109 #[.val (.ref a1), .val (.int p2), .val (.ref a3), .val (.int p4), .val (.int i4), .val (.int (((pos + (1 : Int32)) + (1 : Int32)) + (1 : Int32))), .val (.int i), .val (.int ((bs.getD j (0 : Int32)) &&& (255 : Int32)))] [(.int (own_f2 (((bs.getD j (0 : Int32)) &&& (255 : Int32)) &&& (15 : Int32)))), (.int ((pos + (1 : Int32)) + (1 : Int32))), (.ref a3)])
        obtain ⟨T10, h10, l10, X10, e10, W10, V10, st10⟩ := own_stB X8 hx hZ e8 V_a3_7 (j := ((pos + (1 : Int32)) + (1 : Int32))) ⟨own_nn hP2, (own_lt hP2 e_14).mpr (by omega)⟩ ((A + (own_all (fun t => bs.getD t (0 : Int32)) j).length) + 1 + 1) (own_clamp hP2) (by rw [List.length_map, List.length_set, List.length_set, own_wr_len]; omega) (g := (mkF m 109 #[.val (.ref a1), .val (.int p2), .val (.ref a3), .val (.int p4), .val (.int i4), .val (.int (((pos + (1 : Int32)) + (1 : Int32)) + (1 : Int32))), .val (.int i), .val (.int ((bs.getD j (0 : Int32)) &&& (255 : Int32)))] [(.int (own_f2 (((bs.getD j (0 : Int32)) &&& (255 : Int32)) &&& (15 : Int32)))), (.int ((pos + (1 : Int32)) + (1 : Int32))), (.ref a3)])) rfl rfl (hb hby d3_109)
        refine own_step st10 ?_
        have N10 := Fr.snoc X10 N7 g_a3
        have Z10 := Nat.le_trans Z7 (Keep.of_wr W10).1
        have KK10 := KK7.wr W10 (Or.inl (List.mem_of_getElem? (i := 0) rfl))
        rw [own_hb, ← List.map_set] at V10
        have V_a3_10 : Arv Z h10 a3 kO .byte (14 : Int32) (((((own_wr xs A (own_all (fun t => bs.getD t (0 : Int32)) j)).set (A + (own_all (fun t => bs.getD t (0 : Int32)) j).length) (37 : Int32)).set ((A + (own_all (fun t => bs.getD t (0 : Int32)) j).length) + 1) (own_f2 (((bs.getD j (0 : Int32)) &&& (255 : Int32)) >>> ((4 : Int32) &&& 31)))).set ((A + (own_all (fun t => bs.getD t (0 : Int32)) j).length) + 1 + 1) (own_f2 (((bs.getD j (0 : Int32)) &&& (255 : Int32)) &&& (15 : Int32)))).map Value.int) (.int (0 : Int32)) := V10
        show own_Ends _ _ _ _ _ _ _ T10 (mkF m 110 #[.val (.ref a1), .val (.int p2), .val (.ref a3), .val (.int p4), .val (.int i4), .val (.int (((pos + (1 : Int32)) + (1 : Int32)) + (1 : Int32))), .val (.int i), .val (.int ((bs.getD j (0 : Int32)) &&& (255 : Int32)))] [])
        refine own_step (fun _ k => XS.goto X10.here hx rfl (pc0 := 110) (pc' := 123) rfl (hb hby d3_110) (by decide) (by decide) k) ?_
        show own_Ends _ _ _ _ _ _ _ T10 (mkF m 123 #[.val (.ref a1), .val (.int p2), .val (.ref a3), .val (.int p4), .val (.int i4), .val (.int (((pos + (1 : Int32)) + (1 : Int32)) + (1 : Int32))), .val (.int i), .val (.int ((bs.getD j (0 : Int32)) &&& (255 : Int32)))] [])
        refine own_step (fun _ k => XS.iinc X10.here hx rfl (hb hby d3_123) rfl (l' := #[.val (.ref a1), .val (.int p2), .val (.ref a3), .val (.int p4), .val (.int i4), .val (.int (((pos + (1 : Int32)) + (1 : Int32)) + (1 : Int32))), .val (.int (i + (1 : Int32))), .val (.int ((bs.getD j (0 : Int32)) &&& (255 : Int32)))]) rfl k) ?_
        show own_Ends _ _ _ _ _ _ _ T10 (mkF m 126 #[.val (.ref a1), .val (.int p2), .val (.ref a3), .val (.int p4), .val (.int i4), .val (.int (((pos + (1 : Int32)) + (1 : Int32)) + (1 : Int32))), .val (.int (i + (1 : Int32))), .val (.int ((bs.getD j (0 : Int32)) &&& (255 : Int32)))] [])
        refine own_step (fun _ k => XS.goto X10.here hx rfl (pc0 := 126) (pc' := 44) rfl (hb hby d3_126) (by decide) (by decide) k) ?_
        show own_Ends _ _ _ _ _ _ _ T10 (mkF m 44 #[.val (.ref a1), .val (.int p2), .val (.ref a3), .val (.int p4), .val (.int i4), .val (.int (((pos + (1 : Int32)) + (1 : Int32)) + (1 : Int32))), .val (.int (i + (1 : Int32))), .val (.int ((bs.getD j (0 : Int32)) &&& (255 : Int32)))] [])
        refine ih (j + 1) _ _ (i + (1 : Int32)) _ T10 _ _ X10 e10 N10 KK10 ?_ (by omega) (own_add hi e_1 (by omega)) ?_ (Or.inr ⟨_, rfl, rfl⟩)
        · rw [hen, own_wr_app]; exact V_a3_10
        · rw [hen, List.length_append, ← Nat.add_assoc]; exact hP3
  have key : ∀ (j : Nat) (i : Int32) (T : State) (locs : List Loc), Stand p l e ({ frames := 1, cells := 0, slots := 0, locals := 40 } : Room) s m #[(.ref a1), (.int p2), (.ref a3), (.int p4)] below meth c T locs 0 0 → T.heap = h0 → Fr n0 locs → j ≤ N → i.toInt = (j : Nat) → (∀ t, t < j → (own_f4 (bs.getD t (0 : Int32))) = (0 : Int32)) → own_Ends p e below s (fun v h L => ∃ r : Int32, r.toInt = (A + (own_all (fun t => bs.getD t (0 : Int32)) N).length : Nat) ∧ v = some (.int r) ∧ Fr n0 L ∧ Keep h0 h [a3] ∧ Arv Z h a3 kO .byte (14 : Int32) ((own_wr xs A (own_all (fun t => bs.getD t (0 : Int32)) N)).map Value.int) (.int (0 : Int32))) ({ frames := 1, cells := 0, slots := 0, locals := 40 } : Room).cells ({ frames := 1, cells := 0, slots := 0, locals := 40 } : Room).slots T (mkF m 25 #[.val (.ref a1), .val (.int p2), .val (.ref a3), .val (.int p4), .val (.int i), .unset, .unset, .unset] []) := by
    intro j i T locs X e' N' hj hi hun
    refine own_step (fun _ k => XS.aloadN X.here hx rfl (hb hby d3_25) rfl rfl k) ?_
    show own_Ends _ _ _ _ _ _ _ T (mkF m 26 #[.val (.ref a1), .val (.int p2), .val (.ref a3), .val (.int p4), .val (.int i), .unset, .unset, .unset] [(.ref a1)])
    refine own_step (fun _ k => XS.iconst X.here hx rfl (hb hby d3_26) k) ?_
    show own_Ends _ _ _ _ _ _ _ T (mkF m 27 #[.val (.ref a1), .val (.int p2), .val (.ref a3), .val (.int p4), .val (.int i), .unset, .unset, .unset] [(.int (0 : Int32)), (.ref a1)])
    refine own_step (fun _ k => XS.aloadN X.here hx rfl (hb hby d3_27) rfl rfl k) ?_
    show own_Ends _ _ _ _ _ _ _ T (mkF m 28 #[.val (.ref a1), .val (.int p2), .val (.ref a3), .val (.int p4), .val (.int i), .unset, .unset, .unset] [(.ref a3), (.int (0 : Int32)), (.ref a1)])
    refine own_step (fun _ k => XS.iloadN X.here hx rfl (hb hby d3_28) rfl k) ?_
    show own_Ends _ _ _ _ _ _ _ T (mkF m 29 #[.val (.ref a1), .val (.int p2), .val (.ref a3), .val (.int p4), .val (.int i), .unset, .unset, .unset] [(.int p4), (.ref a3), (.int (0 : Int32)), (.ref a1)])
    refine own_step (fun _ k => XS.iload X.here hx rfl (hb hby d3_29) rfl k) ?_
    show own_Ends _ _ _ _ _ _ _ T (mkF m 31 #[.val (.ref a1), .val (.int p2), .val (.ref a3), .val (.int p4), .val (.int i), .unset, .unset, .unset] [(.int i), (.int p4), (.ref a3), (.int (0 : Int32)), (.ref a1)])
    have hci := own_clamp hi
    have hcA := own_clamp hA
    have h14 : (14 : Int32).toNatClampNeg = 14 := rfl
    have h3 : (3 : Int32).toNatClampNeg = 3 := rfl
    have h00 : (0 : Int32).toNatClampNeg = 0 := rfl
    obtain ⟨T11, h11, L11, X11, e11, N11, K11, V11, st11⟩ := cpA X hx hZ hown (hw _ (List.mem_of_getElem? (i := 15) rfl)) (hw _ (List.mem_of_getElem? (i := 18) rfl)) (hw _ (List.mem_of_getElem? (i := 16) rfl)) (hw _ (List.mem_of_getElem? (i := 17) rfl)) e' VB VO (sp := (0 : Int32)) (dp := p4) (nn := i) (Or.inl ⟨rfl, rfl⟩) (by decide) (own_nn hA) (own_nn hi) (by rw [hci, h00, h3]; omega) (by rw [hci, hcA, h14]; omega) rfl (by rw [hci, hcA, List.length_map, hxs]; omega) N' g_a3 (g := (mkF m 31 #[.val (.ref a1), .val (.int p2), .val (.ref a3), .val (.int p4), .val (.int i), .unset, .unset, .unset] [(.int i), (.int p4), (.ref a3), (.int (0 : Int32)), (.ref a1)])) rfl (by rw [hml]; rfl) rfl (hb hby d3_31) (by decide) (W := 0) (by show 2 * 0 + _ ≤ _; exact Nat.le_of_eq rfl) (by decide)
    have hV : Arv Z h11 a3 kO .byte (14 : Int32) ((own_wr xs A (own_all (fun t => bs.getD t (0 : Int32)) j)).map Value.int) (.int (0 : Int32)) := by
      rw [own_pref (fun t => bs.getD t (0 : Int32)) j hun, ← own_fill (us := (List.range i.toNatClampNeg).map fun t => (bs.map Value.int).getD ((0 : Int32).toNatClampNeg + t) (.int (0 : Int32))) ?_ (by rw [List.length_map, List.length_range]) (by rw [hxs]; omega)]
      · rw [hcA, hci] at V11; rw [hci]; exact V11
      · rw [hci, List.map_map]; refine List.map_congr_left fun t ht => ?_; rw [h00, Nat.zero_add]; exact own_getI bs _ t
    refine own_step st11 ?_
    have Z11 := Nat.le_trans Z0 K11.1
    have KK11 := (Keep.refl h0 [a3]).trans K11 (allS (P := fun x => x ∈ [a3] ∨ h0.size ≤ x) (Or.inl (List.mem_of_getElem? (i := 0) rfl)) all0)
    show own_Ends _ _ _ _ _ _ _ T11 (mkF m 34 #[.val (.ref a1), .val (.int p2), .val (.ref a3), .val (.int p4), .val (.int i), .unset, .unset, .unset] [])
    refine own_step (fun _ k => XS.iloadN X11.here hx rfl (hb hby d3_34) rfl k) ?_
    show own_Ends _ _ _ _ _ _ _ T11 (mkF m 35 #[.val (.ref a1), .val (.int p2), .val (.ref a3), .val (.int p4), .val (.int i), .unset, .unset, .unset] [(.int p4)])
    refine own_step (fun _ k => XS.iload X11.here hx rfl (hb hby d3_35) rfl k) ?_
    show own_Ends _ _ _ _ _ _ _ T11 (mkF m 37 #[.val (.ref a1), .val (.int p2), .val (.ref a3), .val (.int p4), .val (.int i), .unset, .unset, .unset] [(.int i), (.int p4)])
    refine own_step (fun _ k => XS.iadd X11.here hx rfl (hb hby d3_37) rfl k) ?_
    show own_Ends _ _ _ _ _ _ _ T11 (mkF m 38 #[.val (.ref a1), .val (.int p2), .val (.ref a3), .val (.int p4), .val (.int i), .unset, .unset, .unset] [(.int (p4 + i))])
    refine own_step (fun _ k => XS.istore X11.here hx rfl (hb hby d3_38) rfl (l' := #[.val (.ref a1), .val (.int p2), .val (.ref a3), .val (.int p4), .val (.int i), .val (.int (p4 + i)), .unset, .unset]) rfl k) ?_
    show own_Ends _ _ _ _ _ _ _ T11 (mkF m 40 #[.val (.ref a1), .val (.int p2), .val (.ref a3), .val (.int p4), .val (.int i), .val (.int (p4 + i)), .unset, .unset] [])
    refine own_step (fun _ k => XS.iload X11.here hx rfl (hb hby d3_40) rfl k) ?_
    show own_Ends _ _ _ _ _ _ _ T11 (mkF m 42 #[.val (.ref a1), .val (.int p2), .val (.ref a3), .val (.int p4), .val (.int i), .val (.int (p4 + i)), .unset, .unset] [(.int i)])
    refine own_step (fun _ k => XS.istore X11.here hx rfl (hb hby d3_42) rfl (l' := #[.val (.ref a1), .val (.int p2), .val (.ref a3), .val (.int p4), .val (.int i), .val (.int (p4 + i)), .val (.int i), .unset]) rfl k) ?_
    show own_Ends _ _ _ _ _ _ _ T11 (mkF m 44 #[.val (.ref a1), .val (.int p2), .val (.ref a3), .val (.int p4), .val (.int i), .val (.int (p4 + i)), .val (.int i), .unset] [])
    refine loop2 (N - j) j i (p4 + i) i .unset T11 _ _ X11 e11 N11 KK11 hV (by omega) hi ?_ (Or.inl rfl)
    rw [own_pref (fun t => bs.getD t (0 : Int32)) j hun, List.length_map, List.length_range]; exact own_add hA hi (by omega)
  have loop1 : ∀ (k j : Nat) (i : Int32) (T : State) (locs : List Loc), Stand p l e ({ frames := 1, cells := 0, slots := 0, locals := 40 } : Room) s m #[(.ref a1), (.int p2), (.ref a3), (.int p4)] below meth c T locs 0 0 → T.heap = h0 → Fr n0 locs → j + k = N → i.toInt = (j : Nat) → (∀ t, t < j → (own_f4 (bs.getD t (0 : Int32))) = (0 : Int32)) → own_Ends p e below s (fun v h L => ∃ r : Int32, r.toInt = (A + (own_all (fun t => bs.getD t (0 : Int32)) N).length : Nat) ∧ v = some (.int r) ∧ Fr n0 L ∧ Keep h0 h [a3] ∧ Arv Z h a3 kO .byte (14 : Int32) ((own_wr xs A (own_all (fun t => bs.getD t (0 : Int32)) N)).map Value.int) (.int (0 : Int32))) ({ frames := 1, cells := 0, slots := 0, locals := 40 } : Room).cells ({ frames := 1, cells := 0, slots := 0, locals := 40 } : Room).slots T (mkF m 3 #[.val (.ref a1), .val (.int p2), .val (.ref a3), .val (.int p4), .val (.int i), .unset, .unset, .unset] []) := by
    intro k
    induction k with
    | zero =>
      intro j i T locs X e' N' hj hi hun
      have hc : ¬ i < p2 := fun q => by have := (own_lt hi hN).mp q; omega
      refine own_step (fun _ k => XS.iload X.here hx rfl (hb hby d3_3) rfl k) ?_
      show own_Ends _ _ _ _ _ _ _ T (mkF m 5 #[.val (.ref a1), .val (.int p2), .val (.ref a3), .val (.int p4), .val (.int i), .unset, .unset, .unset] [(.int i)])
      refine own_step (fun _ k => XS.iloadN X.here hx rfl (hb hby d3_5) rfl k) ?_
      show own_Ends _ _ _ _ _ _ _ T (mkF m 6 #[.val (.ref a1), .val (.int p2), .val (.ref a3), .val (.int p4), .val (.int i), .unset, .unset, .unset] [(.int p2), (.int i)])
      refine own_step (fun _ k => XS.icmpYes X.here hx rfl (pc0 := 6) (pc' := 25) rfl (hb hby d3_6) rfl (flt hc).2.1 (by decide) (by decide) k) ?_
      show own_Ends _ _ _ _ _ _ _ T (mkF m 25 #[.val (.ref a1), .val (.int p2), .val (.ref a3), .val (.int p4), .val (.int i), .unset, .unset, .unset] [])
      exact key j i T _ X e' N' (by omega) hi hun
    | succ k ih =>
      intro j i T locs X e' N' hj hi hun
      have hc : i < p2 := (own_lt hi hN).mpr (by omega)
      refine own_step (fun _ k => XS.iload X.here hx rfl (hb hby d3_3) rfl k) ?_
      show own_Ends _ _ _ _ _ _ _ T (mkF m 5 #[.val (.ref a1), .val (.int p2), .val (.ref a3), .val (.int p4), .val (.int i), .unset, .unset, .unset] [(.int i)])
      refine own_step (fun _ k => XS.iloadN X.here hx rfl (hb hby d3_5) rfl k) ?_
      show own_Ends _ _ _ _ _ _ _ T (mkF m 6 #[.val (.ref a1), .val (.int p2), .val (.ref a3), .val (.int p4), .val (.int i), .unset, .unset, .unset] [(.int p2), (.int i)])
      refine own_step (fun _ k => XS.icmpNo X.here hx rfl (hb hby d3_6) rfl (tlt hc).2.1 k) ?_
      show own_Ends _ _ _ _ _ _ _ T (mkF m 9 #[.val (.ref a1), .val (.int p2), .val (.ref a3), .val (.int p4), .val (.int i), .unset, .unset, .unset] [])
      refine own_step (fun _ k => XS.aloadN X.here hx rfl (hb hby d3_9) rfl rfl k) ?_
      show own_Ends _ _ _ _ _ _ _ T (mkF m 10 #[.val (.ref a1), .val (.int p2), .val (.ref a3), .val (.int p4), .val (.int i), .unset, .unset, .unset] [(.ref a1)])
      refine own_step (fun _ k => XS.iload X.here hx rfl (hb hby d3_10) rfl k) ?_
      show own_Ends _ _ _ _ _ _ _ T (mkF m 12 #[.val (.ref a1), .val (.int p2), .val (.ref a3), .val (.int p4), .val (.int i), .unset, .unset, .unset] [(.int i), (.ref a1)])
      refine own_step (own_ldB X hx hZ e' VB (j := i) (v := (.int (bs.getD j (0 : Int32)))) ⟨own_nn hi, (own_lt hi e_3).mpr (by omega)⟩ (by rw [own_clamp hi]; exact own_getI bs _ j) (g := (mkF m 12 #[.val (.ref a1), .val (.int p2), .val (.ref a3), .val (.int p4), .val (.int i), .unset, .unset, .unset] [(.int i), (.ref a1)])) rfl rfl (hb hby d3_12)) ?_
      show own_Ends _ _ _ _ _ _ _ T (mkF m 13 #[.val (.ref a1), .val (.int p2), .val (.ref a3), .val (.int p4), .val (.int i), .unset, .unset, .unset] [(.int (bs.getD j (0 : Int32)))])
      refine own_callS X hx hZ (y := (⟨"com/example/gist_hash/gisthash/PercentCoding", "isEscaped", "(B)Z"⟩ : MethodName)) hown (hw _ (List.mem_of_getElem? (i := 12) rfl)) (hw _ (List.mem_of_getElem? (i := 13) rfl)) (hw _ (List.mem_of_getElem? (i := 10) rfl)) (hw _ (List.mem_of_getElem? (i := 14) rfl)) (by decide) (rm4 l Z a0 hw [] (bs.getD j (0 : Int32)) h0 n0 Z0) e' 0 (by decide) (by decide) (by decide) (by decide) (g := (mkF m 13 #[.val (.ref a1), .val (.int p2), .val (.ref a3), .val (.int p4), .val (.int i), .unset, .unset, .unset] [(.int (bs.getD j (0 : Int32)))])) rfl (by rw [hml]; rfl) [(.int (bs.getD j (0 : Int32)))] [] pd_1 rfl rfl rfl (by show 2 * 0 + _ ≤ _; exact Nat.le_of_eq rfl) (hb hby d3_13) ?_
      rintro v12 T12 L12 X12 ⟨rfl, Nq12, e12⟩
      have N12 := Fr.app N' Nq12
      show own_Ends _ _ _ _ _ _ _ T12 (mkF m 16 #[.val (.ref a1), .val (.int p2), .val (.ref a3), .val (.int p4), .val (.int i), .unset, .unset, .unset] [(.int (own_f4 (bs.getD j (0 : Int32))))])
      by_cases hq : (own_f4 (bs.getD j (0 : Int32))) = (0 : Int32)
      · refine own_step (fun _ k => XS.ifNo X12.here hx rfl (hb hby d3_16) rfl ((if0 _ _).trans (teq hq).2) k) ?_
        show own_Ends _ _ _ _ _ _ _ T12 (mkF m 19 #[.val (.ref a1), .val (.int p2), .val (.ref a3), .val (.int p4), .val (.int i), .unset, .unset, .unset] [])
        refine own_step (fun _ k => XS.iinc X12.here hx rfl (hb hby d3_19) rfl (l' := #[.val (.ref a1), .val (.int p2), .val (.ref a3), .val (.int p4), .val (.int (i + (1 : Int32))), .unset, .unset, .unset]) rfl k) ?_
        show own_Ends _ _ _ _ _ _ _ T12 (mkF m 22 #[.val (.ref a1), .val (.int p2), .val (.ref a3), .val (.int p4), .val (.int (i + (1 : Int32))), .unset, .unset, .unset] [])
        refine own_step (fun _ k => XS.goto X12.here hx rfl (pc0 := 22) (pc' := 3) rfl (hb hby d3_22) (by decide) (by decide) k) ?_
        show own_Ends _ _ _ _ _ _ _ T12 (mkF m 3 #[.val (.ref a1), .val (.int p2), .val (.ref a3), .val (.int p4), .val (.int (i + (1 : Int32))), .unset, .unset, .unset] [])
        exact ih (j + 1) (i + (1 : Int32)) T12 _ X12 e12 N12 (by omega) (own_add hi e_1 (by omega)) (fun t ht => by rcases Nat.lt_succ_iff_lt_or_eq.mp ht with q | q; exact hun t q; subst q; exact hq)
      · refine own_step (fun _ k => XS.ifYes X12.here hx rfl (pc0 := 16) (pc' := 25) rfl (hb hby d3_16) rfl ((if0 _ _).trans (feq hq).2) (by decide) (by decide) k) ?_
        show own_Ends _ _ _ _ _ _ _ T12 (mkF m 25 #[.val (.ref a1), .val (.int p2), .val (.ref a3), .val (.int p4), .val (.int i), .unset, .unset, .unset] [])
        exact key j i T12 _ X12 e12 N12 (by omega) hi hun
  exact loop1 N 0 (0 : Int32) T0 [] X0 e0 N0 (by omega) rfl (fun t ht => absurd ht (Nat.not_lt_zero t))
def own_A (p5 : Int32) : Nat := (p5 &&& (3 : Int32)).toInt.toNat
theorem own_Ar (p5 : Int32) : (p5 &&& (3 : Int32)).toInt = own_A p5 ∧ own_A p5 ≤ 3 := by
  have h := c_and p5 (3 : Int32) (by decide)
  have e : (3 : Int32).toInt = 3 := by decide
  unfold own_A; omega
theorem own_four (p4 : Int32) : (p4 &&& (3 : Int32)) = (0 : Int32) ∨ (p4 &&& (3 : Int32)) = (1 : Int32) ∨ (p4 &&& (3 : Int32)) = (2 : Int32) ∨ (p4 &&& (3 : Int32)) = (3 : Int32) := by
  have h := c_and p4 (3 : Int32) (by decide)
  have e : (0 : Int32).toInt = 0 ∧ (1 : Int32).toInt = 1 ∧ (2 : Int32).toInt = 2 ∧ (3 : Int32).toInt = 3 := by decide
  simp only [← Int32.toInt_inj]; omega
theorem own_bs3 (p1 p2 p3 : Int32) : ∀ t, (List.getD [(p1.toInt8.toInt32), (p2.toInt8.toInt32), (p3.toInt8.toInt32)] t (0 : Int32)).toInt8.toInt32 = List.getD [(p1.toInt8.toInt32), (p2.toInt8.toInt32), (p3.toInt8.toInt32)] t (0 : Int32) := by
  intro t
  match t with
  | 0 => exact own_bb _
  | 1 => exact own_bb _
  | 2 => exact own_bb _
  | _ + 3 => rfl
theorem ef_0 (p1 : Int32) (p2 : Int32) (p3 : Int32) (p4 : Int32) (p5 : Int32) (p6 : Int32) (m : MethodId) : entryFrame m #[(.int p1), (.int p2), (.int p3), (.int p4), (.int p5), (.int p6)] maxLocals = mkF m 0 #[.val (.int p1), .val (.int p2), .val (.int p3), .val (.int p4), .val (.int p5), .val (.int p6), .unset, .unset, .unset, .unset, .unset, .unset, .unset, .unset] [] := by first | (simp [entryFrame, mkF, argsToLocals, Value.category, maxLocals]; done) | rfl
theorem pd_2 : parseMethodDescriptor "([BI[BI)I" = some ⟨[(.array .byte), .int, (.array .byte), .int], some .int⟩ := by decide +kernel
theorem pd_3 : parseMethodDescriptor "([B[B)Z" = some ⟨[(.array .byte), (.array .byte)], some .boolean⟩ := by decide +kernel
theorem pd_4 : parseMethodDescriptor "([BIB)I" = some ⟨[(.array .byte), .int, .byte], some .int⟩ := by decide +kernel
set_option maxRecDepth 65536 in
set_option maxHeartbeats 40000000 in
theorem rm0 (l : Launch) (Z : State) (a0 : Array Value) (hw : ∀ d ∈ tables_1, d.before a0 Z = true) (ws : List Jvm.Cond) (p1 : Int32) (p2 : Int32) (p3 : Int32) (p4 : Int32) (p5 : Int32) (p6 : Int32) (uh : Addr) (ku : ClassId) (h0 : Heap) (n0 : Nat) (Z0 : n0 ≤ h0.size) (O0 : Old Z n0 h0) (SH : Sta Z Z.heap "com/example/gist_hash/gisthash/PercentCoding" "UPPER_HEX" "[B" (.ref uh)) (VH : Arv Z Z.heap uh ku .byte (16 : Int32) (own_hx.map Value.int) (.int (0 : Int32))) :
    own_Met l x code maxLocals ret ws room_1 #[(.int p1), (.int p2), (.int p3), (.int p4), (.int p5), (.int p6)] Z h0 (fun v h L => v = some (.int (1 : Int32)) ∧ Fr n0 L) := by
  refine own_body (plainFor_of_name pn_1) (ef_0 p1 p2 p3 p4 p5 p6) ?_
  intro p e s m below meth c T0 X0 hx hby hml0 hret hlk hnm hown hZ e0
  have hml : c.maxLocals = 14 := hml0
  have N0 := Fr.nil n0
  refine own_step (fun _ k => XS.iconst X0.here hx rfl (hb hby at_0) k) ?_
  show own_Ends _ _ _ _ _ _ _ T0 (mkF m 1 #[.val (.int p1), .val (.int p2), .val (.int p3), .val (.int p4), .val (.int p5), .val (.int p6), .unset, .unset, .unset, .unset, .unset, .unset, .unset, .unset] [(.int (3 : Int32))])
  obtain ⟨T1, h1, k1, bb, g1, X1, e1, E1, V1, st1⟩ := own_newA X0 hx hZ (hw _ (List.mem_of_getElem? (i := 0) rfl)) e0 (g := (mkF m 1 #[.val (.int p1), .val (.int p2), .val (.int p3), .val (.int p4), .val (.int p5), .val (.int p6), .unset, .unset, .unset, .unset, .unset, .unset, .unset, .unset] [(.int (3 : Int32))])) rfl (hb hby at_1) rfl (by decide) (cap := 3) (by decide) (by decide) (by decide) (by decide)
  have g_bb : n0 ≤ bb := Nat.le_trans Z0 (Nat.le_of_eq g1.symm)
  refine own_step st1 ?_
  have Z1 := Nat.le_trans Z0 E1.1
  have V_bb : Arv Z h1 bb k1 .byte (3 : Int32) [(.int (0 : Int32)), (.int (0 : Int32)), (.int (0 : Int32))] (.int (0 : Int32)) := V1
  show own_Ends _ _ _ _ _ _ _ T1 (mkF m 3 #[.val (.int p1), .val (.int p2), .val (.int p3), .val (.int p4), .val (.int p5), .val (.int p6), .unset, .unset, .unset, .unset, .unset, .unset, .unset, .unset] [(.ref bb)])
  refine own_step (fun _ k => XS.dup X1.here hx rfl (hb hby at_3) rfl rfl k) ?_
  show own_Ends _ _ _ _ _ _ _ T1 (mkF m 4 #[.val (.int p1), .val (.int p2), .val (.int p3), .val (.int p4), .val (.int p5), .val (.int p6), .unset, .unset, .unset, .unset, .unset, .unset, .unset, .unset] [(.ref bb), (.ref bb)])
  refine own_step (fun _ k => XS.iconst X1.here hx rfl (hb hby at_4) k) ?_
  show own_Ends _ _ _ _ _ _ _ T1 (mkF m 5 #[.val (.int p1), .val (.int p2), .val (.int p3), .val (.int p4), .val (.int p5), .val (.int p6), .unset, .unset, .unset, .unset, .unset, .unset, .unset, .unset] [(.int (0 : Int32)), (.ref bb), (.ref bb)])
  refine own_step (fun _ k => XS.iloadN X1.here hx rfl (hb hby at_5) rfl k) ?_
  show own_Ends _ _ _ _ _ _ _ T1 (mkF m 6 #[.val (.int p1), .val (.int p2), .val (.int p3), .val (.int p4), .val (.int p5), .val (.int p6), .unset, .unset, .unset, .unset, .unset, .unset, .unset, .unset] [(.int p1), (.int (0 : Int32)), (.ref bb), (.ref bb)])
  refine own_step (fun _ k => XS.i2b X1.here hx rfl (hb hby at_6) rfl k) ?_
  show own_Ends _ _ _ _ _ _ _ T1 (mkF m 7 #[.val (.int p1), .val (.int p2), .val (.int p3), .val (.int p4), .val (.int p5), .val (.int p6), .unset, .unset, .unset, .unset, .unset, .unset, .unset, .unset] [(.int (p1.toInt8.toInt32)), (.int (0 : Int32)), (.ref bb), (.ref bb)])
  obtain ⟨T2, h2, l2, X2, e2, W2, V2, st2⟩ := own_stB X1 hx hZ e1 V_bb (j := (0 : Int32)) ⟨by decide, by decide⟩ 0 rfl (Nat.le_of_ble_eq_true rfl) (g := (mkF m 7 #[.val (.int p1), .val (.int p2), .val (.int p3), .val (.int p4), .val (.int p5), .val (.int p6), .unset, .unset, .unset, .unset, .unset, .unset, .unset, .unset] [(.int (p1.toInt8.toInt32)), (.int (0 : Int32)), (.ref bb), (.ref bb)])) rfl rfl (hb hby at_7)
  refine own_step st2 ?_
  have N2 := Fr.snoc X2 N0 g_bb
  have Z2 := Nat.le_trans Z1 (Keep.of_wr W2).1
  rw [own_bb] at V2
  have V_bb_2 : Arv Z h2 bb k1 .byte (3 : Int32) [(.int (p1.toInt8.toInt32)), (.int (0 : Int32)), (.int (0 : Int32))] (.int (0 : Int32)) := V2
  show own_Ends _ _ _ _ _ _ _ T2 (mkF m 8 #[.val (.int p1), .val (.int p2), .val (.int p3), .val (.int p4), .val (.int p5), .val (.int p6), .unset, .unset, .unset, .unset, .unset, .unset, .unset, .unset] [(.ref bb)])
  refine own_step (fun _ k => XS.dup X2.here hx rfl (hb hby at_8) rfl rfl k) ?_
  show own_Ends _ _ _ _ _ _ _ T2 (mkF m 9 #[.val (.int p1), .val (.int p2), .val (.int p3), .val (.int p4), .val (.int p5), .val (.int p6), .unset, .unset, .unset, .unset, .unset, .unset, .unset, .unset] [(.ref bb), (.ref bb)])
  refine own_step (fun _ k => XS.iconst X2.here hx rfl (hb hby at_9) k) ?_
  show own_Ends _ _ _ _ _ _ _ T2 (mkF m 10 #[.val (.int p1), .val (.int p2), .val (.int p3), .val (.int p4), .val (.int p5), .val (.int p6), .unset, .unset, .unset, .unset, .unset, .unset, .unset, .unset] [(.int (1 : Int32)), (.ref bb), (.ref bb)])
  refine own_step (fun _ k => XS.iloadN X2.here hx rfl (hb hby at_10) rfl k) ?_
  show own_Ends _ _ _ _ _ _ _ T2 (mkF m 11 #[.val (.int p1), .val (.int p2), .val (.int p3), .val (.int p4), .val (.int p5), .val (.int p6), .unset, .unset, .unset, .unset, .unset, .unset, .unset, .unset] [(.int p2), (.int (1 : Int32)), (.ref bb), (.ref bb)])
  refine own_step (fun _ k => XS.i2b X2.here hx rfl (hb hby at_11) rfl k) ?_
  show own_Ends _ _ _ _ _ _ _ T2 (mkF m 12 #[.val (.int p1), .val (.int p2), .val (.int p3), .val (.int p4), .val (.int p5), .val (.int p6), .unset, .unset, .unset, .unset, .unset, .unset, .unset, .unset] [(.int (p2.toInt8.toInt32)), (.int (1 : Int32)), (.ref bb), (.ref bb)])
  obtain ⟨T3, h3, l3, X3, e3, W3, V3, st3⟩ := own_stB X2 hx hZ e2 V_bb_2 (j := (1 : Int32)) ⟨by decide, by decide⟩ 1 rfl (Nat.le_of_ble_eq_true rfl) (g := (mkF m 12 #[.val (.int p1), .val (.int p2), .val (.int p3), .val (.int p4), .val (.int p5), .val (.int p6), .unset, .unset, .unset, .unset, .unset, .unset, .unset, .unset] [(.int (p2.toInt8.toInt32)), (.int (1 : Int32)), (.ref bb), (.ref bb)])) rfl rfl (hb hby at_12)
  refine own_step st3 ?_
  have N3 := Fr.snoc X3 N2 g_bb
  have Z3 := Nat.le_trans Z2 (Keep.of_wr W3).1
  rw [own_bb] at V3
  have V_bb_3 : Arv Z h3 bb k1 .byte (3 : Int32) [(.int (p1.toInt8.toInt32)), (.int (p2.toInt8.toInt32)), (.int (0 : Int32))] (.int (0 : Int32)) := V3
  show own_Ends _ _ _ _ _ _ _ T3 (mkF m 13 #[.val (.int p1), .val (.int p2), .val (.int p3), .val (.int p4), .val (.int p5), .val (.int p6), .unset, .unset, .unset, .unset, .unset, .unset, .unset, .unset] [(.ref bb)])
  refine own_step (fun _ k => XS.dup X3.here hx rfl (hb hby at_13) rfl rfl k) ?_
  show own_Ends _ _ _ _ _ _ _ T3 (mkF m 14 #[.val (.int p1), .val (.int p2), .val (.int p3), .val (.int p4), .val (.int p5), .val (.int p6), .unset, .unset, .unset, .unset, .unset, .unset, .unset, .unset] [(.ref bb), (.ref bb)])
  refine own_step (fun _ k => XS.iconst X3.here hx rfl (hb hby at_14) k) ?_
  show own_Ends _ _ _ _ _ _ _ T3 (mkF m 15 #[.val (.int p1), .val (.int p2), .val (.int p3), .val (.int p4), .val (.int p5), .val (.int p6), .unset, .unset, .unset, .unset, .unset, .unset, .unset, .unset] [(.int (2 : Int32)), (.ref bb), (.ref bb)])
  refine own_step (fun _ k => XS.iloadN X3.here hx rfl (hb hby at_15) rfl k) ?_
  show own_Ends _ _ _ _ _ _ _ T3 (mkF m 16 #[.val (.int p1), .val (.int p2), .val (.int p3), .val (.int p4), .val (.int p5), .val (.int p6), .unset, .unset, .unset, .unset, .unset, .unset, .unset, .unset] [(.int p3), (.int (2 : Int32)), (.ref bb), (.ref bb)])
  refine own_step (fun _ k => XS.i2b X3.here hx rfl (hb hby at_16) rfl k) ?_
  show own_Ends _ _ _ _ _ _ _ T3 (mkF m 17 #[.val (.int p1), .val (.int p2), .val (.int p3), .val (.int p4), .val (.int p5), .val (.int p6), .unset, .unset, .unset, .unset, .unset, .unset, .unset, .unset] [(.int (p3.toInt8.toInt32)), (.int (2 : Int32)), (.ref bb), (.ref bb)])
  obtain ⟨T4, h4, l4, X4, e4, W4, V4, st4⟩ := own_stB X3 hx hZ e3 V_bb_3 (j := (2 : Int32)) ⟨by decide, by decide⟩ 2 rfl (Nat.le_of_ble_eq_true rfl) (g := (mkF m 17 #[.val (.int p1), .val (.int p2), .val (.int p3), .val (.int p4), .val (.int p5), .val (.int p6), .unset, .unset, .unset, .unset, .unset, .unset, .unset, .unset] [(.int (p3.toInt8.toInt32)), (.int (2 : Int32)), (.ref bb), (.ref bb)])) rfl rfl (hb hby at_17)
  refine own_step st4 ?_
  have N4 := Fr.snoc X4 N3 g_bb
  have Z4 := Nat.le_trans Z3 (Keep.of_wr W4).1
  rw [own_bb] at V4
  have V_bb_4 : Arv Z h4 bb k1 .byte (3 : Int32) [(.int (p1.toInt8.toInt32)), (.int (p2.toInt8.toInt32)), (.int (p3.toInt8.toInt32))] (.int (0 : Int32)) := V4
  show own_Ends _ _ _ _ _ _ _ T4 (mkF m 18 #[.val (.int p1), .val (.int p2), .val (.int p3), .val (.int p4), .val (.int p5), .val (.int p6), .unset, .unset, .unset, .unset, .unset, .unset, .unset, .unset] [(.ref bb)])
  refine own_step (fun _ k => XS.astore X4.here hx rfl (hb hby at_18) rfl rfl (l' := #[.val (.int p1), .val (.int p2), .val (.int p3), .val (.int p4), .val (.int p5), .val (.int p6), .val (.ref bb), .unset, .unset, .unset, .unset, .unset, .unset, .unset]) rfl k) ?_
  show own_Ends _ _ _ _ _ _ _ T4 (mkF m 20 #[.val (.int p1), .val (.int p2), .val (.int p3), .val (.int p4), .val (.int p5), .val (.int p6), .val (.ref bb), .unset, .unset, .unset, .unset, .unset, .unset, .unset] [])
  refine own_step (fun _ k => XS.iloadN X4.here hx rfl (hb hby at_20) rfl k) ?_
  show own_Ends _ _ _ _ _ _ _ T4 (mkF m 21 #[.val (.int p1), .val (.int p2), .val (.int p3), .val (.int p4), .val (.int p5), .val (.int p6), .val (.ref bb), .unset, .unset, .unset, .unset, .unset, .unset, .unset] [(.int p4)])
  refine own_step (fun _ k => XS.iconst X4.here hx rfl (hb hby at_21) k) ?_
  show own_Ends _ _ _ _ _ _ _ T4 (mkF m 22 #[.val (.int p1), .val (.int p2), .val (.int p3), .val (.int p4), .val (.int p5), .val (.int p6), .val (.ref bb), .unset, .unset, .unset, .unset, .unset, .unset, .unset] [(.int (3 : Int32)), (.int p4)])
  refine own_step (fun _ k => XS.iand X4.here hx rfl (hb hby at_22) rfl k) ?_
  show own_Ends _ _ _ _ _ _ _ T4 (mkF m 23 #[.val (.int p1), .val (.int p2), .val (.int p3), .val (.int p4), .val (.int p5), .val (.int p6), .val (.ref bb), .unset, .unset, .unset, .unset, .unset, .unset, .unset] [(.int (p4 &&& (3 : Int32)))])
  refine own_step (fun _ k => XS.istore X4.here hx rfl (hb hby at_23) rfl (l' := #[.val (.int p1), .val (.int p2), .val (.int p3), .val (.int p4), .val (.int p5), .val (.int p6), .val (.ref bb), .val (.int (p4 &&& (3 : Int32))), .unset, .unset, .unset, .unset, .unset, .unset]) rfl k) ?_
  show own_Ends _ _ _ _ _ _ _ T4 (mkF m 25 #[.val (.int p1), .val (.int p2), .val (.int p3), .val (.int p4), .val (.int p5), .val (.int p6), .val (.ref bb), .val (.int (p4 &&& (3 : Int32))), .unset, .unset, .unset, .unset, .unset, .unset] [])
  refine own_step (fun _ k => XS.iload X4.here hx rfl (hb hby at_25) rfl k) ?_
  show own_Ends _ _ _ _ _ _ _ T4 (mkF m 27 #[.val (.int p1), .val (.int p2), .val (.int p3), .val (.int p4), .val (.int p5), .val (.int p6), .val (.ref bb), .val (.int (p4 &&& (3 : Int32))), .unset, .unset, .unset, .unset, .unset, .unset] [(.int p5)])
  refine own_step (fun _ k => XS.iconst X4.here hx rfl (hb hby at_27) k) ?_
  show own_Ends _ _ _ _ _ _ _ T4 (mkF m 28 #[.val (.int p1), .val (.int p2), .val (.int p3), .val (.int p4), .val (.int p5), .val (.int p6), .val (.ref bb), .val (.int (p4 &&& (3 : Int32))), .unset, .unset, .unset, .unset, .unset, .unset] [(.int (3 : Int32)), (.int p5)])
  refine own_step (fun _ k => XS.iand X4.here hx rfl (hb hby at_28) rfl k) ?_
  show own_Ends _ _ _ _ _ _ _ T4 (mkF m 29 #[.val (.int p1), .val (.int p2), .val (.int p3), .val (.int p4), .val (.int p5), .val (.int p6), .val (.ref bb), .val (.int (p4 &&& (3 : Int32))), .unset, .unset, .unset, .unset, .unset, .unset] [(.int (p5 &&& (3 : Int32)))])
  refine own_step (fun _ k => XS.istore X4.here hx rfl (hb hby at_29) rfl (l' := #[.val (.int p1), .val (.int p2), .val (.int p3), .val (.int p4), .val (.int p5), .val (.int p6), .val (.ref bb), .val (.int (p4 &&& (3 : Int32))), .val (.int (p5 &&& (3 : Int32))), .unset, .unset, .unset, .unset, .unset]) rfl k) ?_
  show own_Ends _ _ _ _ _ _ _ T4 (mkF m 31 #[.val (.int p1), .val (.int p2), .val (.int p3), .val (.int p4), .val (.int p5), .val (.int p6), .val (.ref bb), .val (.int (p4 &&& (3 : Int32))), .val (.int (p5 &&& (3 : Int32))), .unset, .unset, .unset, .unset, .unset] [])
  refine own_step (fun _ k => XS.iload X4.here hx rfl (hb hby at_31) rfl k) ?_
  show own_Ends _ _ _ _ _ _ _ T4 (mkF m 33 #[.val (.int p1), .val (.int p2), .val (.int p3), .val (.int p4), .val (.int p5), .val (.int p6), .val (.ref bb), .val (.int (p4 &&& (3 : Int32))), .val (.int (p5 &&& (3 : Int32))), .unset, .unset, .unset, .unset, .unset] [(.int p6)])
  refine own_step (fun _ k => XS.i2b X4.here hx rfl (hb hby at_33) rfl k) ?_
  show own_Ends _ _ _ _ _ _ _ T4 (mkF m 34 #[.val (.int p1), .val (.int p2), .val (.int p3), .val (.int p4), .val (.int p5), .val (.int p6), .val (.ref bb), .val (.int (p4 &&& (3 : Int32))), .val (.int (p5 &&& (3 : Int32))), .unset, .unset, .unset, .unset, .unset] [(.int (p6.toInt8.toInt32))])
  refine own_step (fun _ k => XS.istore X4.here hx rfl (hb hby at_34) rfl (l' := #[.val (.int p1), .val (.int p2), .val (.int p3), .val (.int p4), .val (.int p5), .val (.int p6), .val (.ref bb), .val (.int (p4 &&& (3 : Int32))), .val (.int (p5 &&& (3 : Int32))), .val (.int (p6.toInt8.toInt32)), .unset, .unset, .unset, .unset]) rfl k) ?_
  show own_Ends _ _ _ _ _ _ _ T4 (mkF m 36 #[.val (.int p1), .val (.int p2), .val (.int p3), .val (.int p4), .val (.int p5), .val (.int p6), .val (.ref bb), .val (.int (p4 &&& (3 : Int32))), .val (.int (p5 &&& (3 : Int32))), .val (.int (p6.toInt8.toInt32)), .unset, .unset, .unset, .unset] [])
  refine own_step (fun _ k => XS.bipush X4.here hx rfl (hb hby at_36) k) ?_
  show own_Ends _ _ _ _ _ _ _ T4 (mkF m 38 #[.val (.int p1), .val (.int p2), .val (.int p3), .val (.int p4), .val (.int p5), .val (.int p6), .val (.ref bb), .val (.int (p4 &&& (3 : Int32))), .val (.int (p5 &&& (3 : Int32))), .val (.int (p6.toInt8.toInt32)), .unset, .unset, .unset, .unset] [(.int (14 : Int32))])
  obtain ⟨T5, h5, k5, ou, g5, X5, e5, E5, V5, st5⟩ := own_newA X4 hx hZ (hw _ (List.mem_of_getElem? (i := 0) rfl)) e4 (g := (mkF m 38 #[.val (.int p1), .val (.int p2), .val (.int p3), .val (.int p4), .val (.int p5), .val (.int p6), .val (.ref bb), .val (.int (p4 &&& (3 : Int32))), .val (.int (p5 &&& (3 : Int32))), .val (.int (p6.toInt8.toInt32)), .unset, .unset, .unset, .unset] [(.int (14 : Int32))])) rfl (hb hby at_38) rfl (by decide) (cap := 14) (by decide) (by decide) (by decide) (by decide)
  have ne_bb_ou : bb ≠ ou := Nat.ne_of_lt (Nat.lt_of_lt_of_eq V_bb_4.lt g5.symm)
  have g_ou : n0 ≤ ou := Nat.le_trans Z4 (Nat.le_of_eq g5.symm)
  refine own_step st5 ?_
  have Z5 := Nat.le_trans Z4 E5.1
  have V_ou : Arv Z h5 ou k5 .byte (14 : Int32) [(.int (0 : Int32)), (.int (0 : Int32)), (.int (0 : Int32)), (.int (0 : Int32)), (.int (0 : Int32)), (.int (0 : Int32)), (.int (0 : Int32)), (.int (0 : Int32)), (.int (0 : Int32)), (.int (0 : Int32)), (.int (0 : Int32)), (.int (0 : Int32)), (.int (0 : Int32)), (.int (0 : Int32))] (.int (0 : Int32)) := V5
  show own_Ends _ _ _ _ _ _ _ T5 (mkF m 40 #[.val (.int p1), .val (.int p2), .val (.int p3), .val (.int p4), .val (.int p5), .val (.int p6), .val (.ref bb), .val (.int (p4 &&& (3 : Int32))), .val (.int (p5 &&& (3 : Int32))), .val (.int (p6.toInt8.toInt32)), .unset, .unset, .unset, .unset] [(.ref ou)])
  refine own_step (fun _ k => XS.dup X5.here hx rfl (hb hby at_40) rfl rfl k) ?_
  show own_Ends _ _ _ _ _ _ _ T5 (mkF m 41 #[.val (.int p1), .val (.int p2), .val (.int p3), .val (.int p4), .val (.int p5), .val (.int p6), .val (.ref bb), .val (.int (p4 &&& (3 : Int32))), .val (.int (p5 &&& (3 : Int32))), .val (.int (p6.toInt8.toInt32)), .unset, .unset, .unset, .unset] [(.ref ou), (.ref ou)])
  refine own_step (fun _ k => XS.iconst X5.here hx rfl (hb hby at_41) k) ?_
  show own_Ends _ _ _ _ _ _ _ T5 (mkF m 42 #[.val (.int p1), .val (.int p2), .val (.int p3), .val (.int p4), .val (.int p5), .val (.int p6), .val (.ref bb), .val (.int (p4 &&& (3 : Int32))), .val (.int (p5 &&& (3 : Int32))), .val (.int (p6.toInt8.toInt32)), .unset, .unset, .unset, .unset] [(.int (0 : Int32)), (.ref ou), (.ref ou)])
  refine own_step (fun _ k => XS.iload X5.here hx rfl (hb hby at_42) rfl k) ?_
  show own_Ends _ _ _ _ _ _ _ T5 (mkF m 44 #[.val (.int p1), .val (.int p2), .val (.int p3), .val (.int p4), .val (.int p5), .val (.int p6), .val (.ref bb), .val (.int (p4 &&& (3 : Int32))), .val (.int (p5 &&& (3 : Int32))), .val (.int (p6.toInt8.toInt32)), .unset, .unset, .unset, .unset] [(.int (p6.toInt8.toInt32)), (.int (0 : Int32)), (.ref ou), (.ref ou)])
  obtain ⟨T6, h6, l6, X6, e6, W6, V6, st6⟩ := own_stB X5 hx hZ e5 V_ou (j := (0 : Int32)) ⟨by decide, by decide⟩ 0 rfl (Nat.le_of_ble_eq_true rfl) (g := (mkF m 44 #[.val (.int p1), .val (.int p2), .val (.int p3), .val (.int p4), .val (.int p5), .val (.int p6), .val (.ref bb), .val (.int (p4 &&& (3 : Int32))), .val (.int (p5 &&& (3 : Int32))), .val (.int (p6.toInt8.toInt32)), .unset, .unset, .unset, .unset] [(.int (p6.toInt8.toInt32)), (.int (0 : Int32)), (.ref ou), (.ref ou)])) rfl rfl (hb hby at_44)
  refine own_step st6 ?_
  have N6 := Fr.snoc X6 N4 g_ou
  have Z6 := Nat.le_trans Z5 (Keep.of_wr W6).1
  rw [own_bb] at V6
  have V_ou_6 : Arv Z h6 ou k5 .byte (14 : Int32) [(.int (p6.toInt8.toInt32)), (.int (0 : Int32)), (.int (0 : Int32)), (.int (0 : Int32)), (.int (0 : Int32)), (.int (0 : Int32)), (.int (0 : Int32)), (.int (0 : Int32)), (.int (0 : Int32)), (.int (0 : Int32)), (.int (0 : Int32)), (.int (0 : Int32)), (.int (0 : Int32)), (.int (0 : Int32))] (.int (0 : Int32)) := V6
  show own_Ends _ _ _ _ _ _ _ T6 (mkF m 45 #[.val (.int p1), .val (.int p2), .val (.int p3), .val (.int p4), .val (.int p5), .val (.int p6), .val (.ref bb), .val (.int (p4 &&& (3 : Int32))), .val (.int (p5 &&& (3 : Int32))), .val (.int (p6.toInt8.toInt32)), .unset, .unset, .unset, .unset] [(.ref ou)])
  refine own_step (fun _ k => XS.dup X6.here hx rfl (hb hby at_45) rfl rfl k) ?_
  show own_Ends _ _ _ _ _ _ _ T6 (mkF m 46 #[.val (.int p1), .val (.int p2), .val (.int p3), .val (.int p4), .val (.int p5), .val (.int p6), .val (.ref bb), .val (.int (p4 &&& (3 : Int32))), .val (.int (p5 &&& (3 : Int32))), .val (.int (p6.toInt8.toInt32)), .unset, .unset, .unset, .unset] [(.ref ou), (.ref ou)])
  refine own_step (fun _ k => XS.iconst X6.here hx rfl (hb hby at_46) k) ?_
  show own_Ends _ _ _ _ _ _ _ T6 (mkF m 47 #[.val (.int p1), .val (.int p2), .val (.int p3), .val (.int p4), .val (.int p5), .val (.int p6), .val (.ref bb), .val (.int (p4 &&& (3 : Int32))), .val (.int (p5 &&& (3 : Int32))), .val (.int (p6.toInt8.toInt32)), .unset, .unset, .unset, .unset] [(.int (1 : Int32)), (.ref ou), (.ref ou)])
  refine own_step (fun _ k => XS.iload X6.here hx rfl (hb hby at_47) rfl k) ?_
  show own_Ends _ _ _ _ _ _ _ T6 (mkF m 49 #[.val (.int p1), .val (.int p2), .val (.int p3), .val (.int p4), .val (.int p5), .val (.int p6), .val (.ref bb), .val (.int (p4 &&& (3 : Int32))), .val (.int (p5 &&& (3 : Int32))), .val (.int (p6.toInt8.toInt32)), .unset, .unset, .unset, .unset] [(.int (p6.toInt8.toInt32)), (.int (1 : Int32)), (.ref ou), (.ref ou)])
  obtain ⟨T7, h7, l7, X7, e7, W7, V7, st7⟩ := own_stB X6 hx hZ e6 V_ou_6 (j := (1 : Int32)) ⟨by decide, by decide⟩ 1 rfl (Nat.le_of_ble_eq_true rfl) (g := (mkF m 49 #[.val (.int p1), .val (.int p2), .val (.int p3), .val (.int p4), .val (.int p5), .val (.int p6), .val (.ref bb), .val (.int (p4 &&& (3 : Int32))), .val (.int (p5 &&& (3 : Int32))), .val (.int (p6.toInt8.toInt32)), .unset, .unset, .unset, .unset] [(.int (p6.toInt8.toInt32)), (.int (1 : Int32)), (.ref ou), (.ref ou)])) rfl rfl (hb hby at_49)
  refine own_step st7 ?_
  have N7 := Fr.snoc X7 N6 g_ou
  have Z7 := Nat.le_trans Z6 (Keep.of_wr W7).1
  rw [own_bb] at V7
  have V_ou_7 : Arv Z h7 ou k5 .byte (14 : Int32) [(.int (p6.toInt8.toInt32)), (.int (p6.toInt8.toInt32)), (.int (0 : Int32)), (.int (0 : Int32)), (.int (0 : Int32)), (.int (0 : Int32)), (.int (0 : Int32)), (.int (0 : Int32)), (.int (0 : Int32)), (.int (0 : Int32)), (.int (0 : Int32)), (.int (0 : Int32)), (.int (0 : Int32)), (.int (0 : Int32))] (.int (0 : Int32)) := V7
  show own_Ends _ _ _ _ _ _ _ T7 (mkF m 50 #[.val (.int p1), .val (.int p2), .val (.int p3), .val (.int p4), .val (.int p5), .val (.int p6), .val (.ref bb), .val (.int (p4 &&& (3 : Int32))), .val (.int (p5 &&& (3 : Int32))), .val (.int (p6.toInt8.toInt32)), .unset, .unset, .unset, .unset] [(.ref ou)])
  refine own_step (fun _ k => XS.dup X7.here hx rfl (hb hby at_50) rfl rfl k) ?_
  show own_Ends _ _ _ _ _ _ _ T7 (mkF m 51 #[.val (.int p1), .val (.int p2), .val (.int p3), .val (.int p4), .val (.int p5), .val (.int p6), .val (.ref bb), .val (.int (p4 &&& (3 : Int32))), .val (.int (p5 &&& (3 : Int32))), .val (.int (p6.toInt8.toInt32)), .unset, .unset, .unset, .unset] [(.ref ou), (.ref ou)])
  refine own_step (fun _ k => XS.iconst X7.here hx rfl (hb hby at_51) k) ?_
  show own_Ends _ _ _ _ _ _ _ T7 (mkF m 52 #[.val (.int p1), .val (.int p2), .val (.int p3), .val (.int p4), .val (.int p5), .val (.int p6), .val (.ref bb), .val (.int (p4 &&& (3 : Int32))), .val (.int (p5 &&& (3 : Int32))), .val (.int (p6.toInt8.toInt32)), .unset, .unset, .unset, .unset] [(.int (2 : Int32)), (.ref ou), (.ref ou)])
  refine own_step (fun _ k => XS.iload X7.here hx rfl (hb hby at_52) rfl k) ?_
  show own_Ends _ _ _ _ _ _ _ T7 (mkF m 54 #[.val (.int p1), .val (.int p2), .val (.int p3), .val (.int p4), .val (.int p5), .val (.int p6), .val (.ref bb), .val (.int (p4 &&& (3 : Int32))), .val (.int (p5 &&& (3 : Int32))), .val (.int (p6.toInt8.toInt32)), .unset, .unset, .unset, .unset] [(.int (p6.toInt8.toInt32)), (.int (2 : Int32)), (.ref ou), (.ref ou)])
  obtain ⟨T8, h8, l8, X8, e8, W8, V8, st8⟩ := own_stB X7 hx hZ e7 V_ou_7 (j := (2 : Int32)) ⟨by decide, by decide⟩ 2 rfl (Nat.le_of_ble_eq_true rfl) (g := (mkF m 54 #[.val (.int p1), .val (.int p2), .val (.int p3), .val (.int p4), .val (.int p5), .val (.int p6), .val (.ref bb), .val (.int (p4 &&& (3 : Int32))), .val (.int (p5 &&& (3 : Int32))), .val (.int (p6.toInt8.toInt32)), .unset, .unset, .unset, .unset] [(.int (p6.toInt8.toInt32)), (.int (2 : Int32)), (.ref ou), (.ref ou)])) rfl rfl (hb hby at_54)
  refine own_step st8 ?_
  have N8 := Fr.snoc X8 N7 g_ou
  have Z8 := Nat.le_trans Z7 (Keep.of_wr W8).1
  rw [own_bb] at V8
  have V_ou_8 : Arv Z h8 ou k5 .byte (14 : Int32) [(.int (p6.toInt8.toInt32)), (.int (p6.toInt8.toInt32)), (.int (p6.toInt8.toInt32)), (.int (0 : Int32)), (.int (0 : Int32)), (.int (0 : Int32)), (.int (0 : Int32)), (.int (0 : Int32)), (.int (0 : Int32)), (.int (0 : Int32)), (.int (0 : Int32)), (.int (0 : Int32)), (.int (0 : Int32)), (.int (0 : Int32))] (.int (0 : Int32)) := V8
  show own_Ends _ _ _ _ _ _ _ T8 (mkF m 55 #[.val (.int p1), .val (.int p2), .val (.int p3), .val (.int p4), .val (.int p5), .val (.int p6), .val (.ref bb), .val (.int (p4 &&& (3 : Int32))), .val (.int (p5 &&& (3 : Int32))), .val (.int (p6.toInt8.toInt32)), .unset, .unset, .unset, .unset] [(.ref ou)])
  refine own_step (fun _ k => XS.dup X8.here hx rfl (hb hby at_55) rfl rfl k) ?_
  show own_Ends _ _ _ _ _ _ _ T8 (mkF m 56 #[.val (.int p1), .val (.int p2), .val (.int p3), .val (.int p4), .val (.int p5), .val (.int p6), .val (.ref bb), .val (.int (p4 &&& (3 : Int32))), .val (.int (p5 &&& (3 : Int32))), .val (.int (p6.toInt8.toInt32)), .unset, .unset, .unset, .unset] [(.ref ou), (.ref ou)])
  refine own_step (fun _ k => XS.iconst X8.here hx rfl (hb hby at_56) k) ?_
  show own_Ends _ _ _ _ _ _ _ T8 (mkF m 57 #[.val (.int p1), .val (.int p2), .val (.int p3), .val (.int p4), .val (.int p5), .val (.int p6), .val (.ref bb), .val (.int (p4 &&& (3 : Int32))), .val (.int (p5 &&& (3 : Int32))), .val (.int (p6.toInt8.toInt32)), .unset, .unset, .unset, .unset] [(.int (3 : Int32)), (.ref ou), (.ref ou)])
  refine own_step (fun _ k => XS.iload X8.here hx rfl (hb hby at_57) rfl k) ?_
  show own_Ends _ _ _ _ _ _ _ T8 (mkF m 59 #[.val (.int p1), .val (.int p2), .val (.int p3), .val (.int p4), .val (.int p5), .val (.int p6), .val (.ref bb), .val (.int (p4 &&& (3 : Int32))), .val (.int (p5 &&& (3 : Int32))), .val (.int (p6.toInt8.toInt32)), .unset, .unset, .unset, .unset] [(.int (p6.toInt8.toInt32)), (.int (3 : Int32)), (.ref ou), (.ref ou)])
  obtain ⟨T9, h9, l9, X9, e9, W9, V9, st9⟩ := own_stB X8 hx hZ e8 V_ou_8 (j := (3 : Int32)) ⟨by decide, by decide⟩ 3 rfl (Nat.le_of_ble_eq_true rfl) (g := (mkF m 59 #[.val (.int p1), .val (.int p2), .val (.int p3), .val (.int p4), .val (.int p5), .val (.int p6), .val (.ref bb), .val (.int (p4 &&& (3 : Int32))), .val (.int (p5 &&& (3 : Int32))), .val (.int (p6.toInt8.toInt32)), .unset, .unset, .unset, .unset] [(.int (p6.toInt8.toInt32)), (.int (3 : Int32)), (.ref ou), (.ref ou)])) rfl rfl (hb hby at_59)
  refine own_step st9 ?_
  have N9 := Fr.snoc X9 N8 g_ou
  have Z9 := Nat.le_trans Z8 (Keep.of_wr W9).1
  rw [own_bb] at V9
  have V_ou_9 : Arv Z h9 ou k5 .byte (14 : Int32) [(.int (p6.toInt8.toInt32)), (.int (p6.toInt8.toInt32)), (.int (p6.toInt8.toInt32)), (.int (p6.toInt8.toInt32)), (.int (0 : Int32)), (.int (0 : Int32)), (.int (0 : Int32)), (.int (0 : Int32)), (.int (0 : Int32)), (.int (0 : Int32)), (.int (0 : Int32)), (.int (0 : Int32)), (.int (0 : Int32)), (.int (0 : Int32))] (.int (0 : Int32)) := V9
  show own_Ends _ _ _ _ _ _ _ T9 (mkF m 60 #[.val (.int p1), .val (.int p2), .val (.int p3), .val (.int p4), .val (.int p5), .val (.int p6), .val (.ref bb), .val (.int (p4 &&& (3 : Int32))), .val (.int (p5 &&& (3 : Int32))), .val (.int (p6.toInt8.toInt32)), .unset, .unset, .unset, .unset] [(.ref ou)])
  refine own_step (fun _ k => XS.dup X9.here hx rfl (hb hby at_60) rfl rfl k) ?_
  show own_Ends _ _ _ _ _ _ _ T9 (mkF m 61 #[.val (.int p1), .val (.int p2), .val (.int p3), .val (.int p4), .val (.int p5), .val (.int p6), .val (.ref bb), .val (.int (p4 &&& (3 : Int32))), .val (.int (p5 &&& (3 : Int32))), .val (.int (p6.toInt8.toInt32)), .unset, .unset, .unset, .unset] [(.ref ou), (.ref ou)])
  refine own_step (fun _ k => XS.iconst X9.here hx rfl (hb hby at_61) k) ?_
  show own_Ends _ _ _ _ _ _ _ T9 (mkF m 62 #[.val (.int p1), .val (.int p2), .val (.int p3), .val (.int p4), .val (.int p5), .val (.int p6), .val (.ref bb), .val (.int (p4 &&& (3 : Int32))), .val (.int (p5 &&& (3 : Int32))), .val (.int (p6.toInt8.toInt32)), .unset, .unset, .unset, .unset] [(.int (4 : Int32)), (.ref ou), (.ref ou)])
  refine own_step (fun _ k => XS.iload X9.here hx rfl (hb hby at_62) rfl k) ?_
  show own_Ends _ _ _ _ _ _ _ T9 (mkF m 64 #[.val (.int p1), .val (.int p2), .val (.int p3), .val (.int p4), .val (.int p5), .val (.int p6), .val (.ref bb), .val (.int (p4 &&& (3 : Int32))), .val (.int (p5 &&& (3 : Int32))), .val (.int (p6.toInt8.toInt32)), .unset, .unset, .unset, .unset] [(.int (p6.toInt8.toInt32)), (.int (4 : Int32)), (.ref ou), (.ref ou)])
  obtain ⟨T10, h10, l10, X10, e10, W10, V10, st10⟩ := own_stB X9 hx hZ e9 V_ou_9 (j := (4 : Int32)) ⟨by decide, by decide⟩ 4 rfl (Nat.le_of_ble_eq_true rfl) (g := (mkF m 64 #[.val (.int p1), .val (.int p2), .val (.int p3), .val (.int p4), .val (.int p5), .val (.int p6), .val (.ref bb), .val (.int (p4 &&& (3 : Int32))), .val (.int (p5 &&& (3 : Int32))), .val (.int (p6.toInt8.toInt32)), .unset, .unset, .unset, .unset] [(.int (p6.toInt8.toInt32)), (.int (4 : Int32)), (.ref ou), (.ref ou)])) rfl rfl (hb hby at_64)
  refine own_step st10 ?_
  have N10 := Fr.snoc X10 N9 g_ou
  have Z10 := Nat.le_trans Z9 (Keep.of_wr W10).1
  rw [own_bb] at V10
  have V_ou_10 : Arv Z h10 ou k5 .byte (14 : Int32) [(.int (p6.toInt8.toInt32)), (.int (p6.toInt8.toInt32)), (.int (p6.toInt8.toInt32)), (.int (p6.toInt8.toInt32)), (.int (p6.toInt8.toInt32)), (.int (0 : Int32)), (.int (0 : Int32)), (.int (0 : Int32)), (.int (0 : Int32)), (.int (0 : Int32)), (.int (0 : Int32)), (.int (0 : Int32)), (.int (0 : Int32)), (.int (0 : Int32))] (.int (0 : Int32)) := V10
  show own_Ends _ _ _ _ _ _ _ T10 (mkF m 65 #[.val (.int p1), .val (.int p2), .val (.int p3), .val (.int p4), .val (.int p5), .val (.int p6), .val (.ref bb), .val (.int (p4 &&& (3 : Int32))), .val (.int (p5 &&& (3 : Int32))), .val (.int (p6.toInt8.toInt32)), .unset, .unset, .unset, .unset] [(.ref ou)])
  refine own_step (fun _ k => XS.dup X10.here hx rfl (hb hby at_65) rfl rfl k) ?_
  show own_Ends _ _ _ _ _ _ _ T10 (mkF m 66 #[.val (.int p1), .val (.int p2), .val (.int p3), .val (.int p4), .val (.int p5), .val (.int p6), .val (.ref bb), .val (.int (p4 &&& (3 : Int32))), .val (.int (p5 &&& (3 : Int32))), .val (.int (p6.toInt8.toInt32)), .unset, .unset, .unset, .unset] [(.ref ou), (.ref ou)])
  refine own_step (fun _ k => XS.iconst X10.here hx rfl (hb hby at_66) k) ?_
  show own_Ends _ _ _ _ _ _ _ T10 (mkF m 67 #[.val (.int p1), .val (.int p2), .val (.int p3), .val (.int p4), .val (.int p5), .val (.int p6), .val (.ref bb), .val (.int (p4 &&& (3 : Int32))), .val (.int (p5 &&& (3 : Int32))), .val (.int (p6.toInt8.toInt32)), .unset, .unset, .unset, .unset] [(.int (5 : Int32)), (.ref ou), (.ref ou)])
  refine own_step (fun _ k => XS.iload X10.here hx rfl (hb hby at_67) rfl k) ?_
  show own_Ends _ _ _ _ _ _ _ T10 (mkF m 69 #[.val (.int p1), .val (.int p2), .val (.int p3), .val (.int p4), .val (.int p5), .val (.int p6), .val (.ref bb), .val (.int (p4 &&& (3 : Int32))), .val (.int (p5 &&& (3 : Int32))), .val (.int (p6.toInt8.toInt32)), .unset, .unset, .unset, .unset] [(.int (p6.toInt8.toInt32)), (.int (5 : Int32)), (.ref ou), (.ref ou)])
  obtain ⟨T11, h11, l11, X11, e11, W11, V11, st11⟩ := own_stB X10 hx hZ e10 V_ou_10 (j := (5 : Int32)) ⟨by decide, by decide⟩ 5 rfl (Nat.le_of_ble_eq_true rfl) (g := (mkF m 69 #[.val (.int p1), .val (.int p2), .val (.int p3), .val (.int p4), .val (.int p5), .val (.int p6), .val (.ref bb), .val (.int (p4 &&& (3 : Int32))), .val (.int (p5 &&& (3 : Int32))), .val (.int (p6.toInt8.toInt32)), .unset, .unset, .unset, .unset] [(.int (p6.toInt8.toInt32)), (.int (5 : Int32)), (.ref ou), (.ref ou)])) rfl rfl (hb hby at_69)
  refine own_step st11 ?_
  have N11 := Fr.snoc X11 N10 g_ou
  have Z11 := Nat.le_trans Z10 (Keep.of_wr W11).1
  rw [own_bb] at V11
  have V_ou_11 : Arv Z h11 ou k5 .byte (14 : Int32) [(.int (p6.toInt8.toInt32)), (.int (p6.toInt8.toInt32)), (.int (p6.toInt8.toInt32)), (.int (p6.toInt8.toInt32)), (.int (p6.toInt8.toInt32)), (.int (p6.toInt8.toInt32)), (.int (0 : Int32)), (.int (0 : Int32)), (.int (0 : Int32)), (.int (0 : Int32)), (.int (0 : Int32)), (.int (0 : Int32)), (.int (0 : Int32)), (.int (0 : Int32))] (.int (0 : Int32)) := V11
  show own_Ends _ _ _ _ _ _ _ T11 (mkF m 70 #[.val (.int p1), .val (.int p2), .val (.int p3), .val (.int p4), .val (.int p5), .val (.int p6), .val (.ref bb), .val (.int (p4 &&& (3 : Int32))), .val (.int (p5 &&& (3 : Int32))), .val (.int (p6.toInt8.toInt32)), .unset, .unset, .unset, .unset] [(.ref ou)])
  refine own_step (fun _ k => XS.dup X11.here hx rfl (hb hby at_70) rfl rfl k) ?_
  show own_Ends _ _ _ _ _ _ _ T11 (mkF m 71 #[.val (.int p1), .val (.int p2), .val (.int p3), .val (.int p4), .val (.int p5), .val (.int p6), .val (.ref bb), .val (.int (p4 &&& (3 : Int32))), .val (.int (p5 &&& (3 : Int32))), .val (.int (p6.toInt8.toInt32)), .unset, .unset, .unset, .unset] [(.ref ou), (.ref ou)])
  refine own_step (fun _ k => XS.bipush X11.here hx rfl (hb hby at_71) k) ?_
  show own_Ends _ _ _ _ _ _ _ T11 (mkF m 73 #[.val (.int p1), .val (.int p2), .val (.int p3), .val (.int p4), .val (.int p5), .val (.int p6), .val (.ref bb), .val (.int (p4 &&& (3 : Int32))), .val (.int (p5 &&& (3 : Int32))), .val (.int (p6.toInt8.toInt32)), .unset, .unset, .unset, .unset] [(.int (6 : Int32)), (.ref ou), (.ref ou)])
  refine own_step (fun _ k => XS.iload X11.here hx rfl (hb hby at_73) rfl k) ?_
  show own_Ends _ _ _ _ _ _ _ T11 (mkF m 75 #[.val (.int p1), .val (.int p2), .val (.int p3), .val (.int p4), .val (.int p5), .val (.int p6), .val (.ref bb), .val (.int (p4 &&& (3 : Int32))), .val (.int (p5 &&& (3 : Int32))), .val (.int (p6.toInt8.toInt32)), .unset, .unset, .unset, .unset] [(.int (p6.toInt8.toInt32)), (.int (6 : Int32)), (.ref ou), (.ref ou)])
  obtain ⟨T12, h12, l12, X12, e12, W12, V12, st12⟩ := own_stB X11 hx hZ e11 V_ou_11 (j := (6 : Int32)) ⟨by decide, by decide⟩ 6 rfl (Nat.le_of_ble_eq_true rfl) (g := (mkF m 75 #[.val (.int p1), .val (.int p2), .val (.int p3), .val (.int p4), .val (.int p5), .val (.int p6), .val (.ref bb), .val (.int (p4 &&& (3 : Int32))), .val (.int (p5 &&& (3 : Int32))), .val (.int (p6.toInt8.toInt32)), .unset, .unset, .unset, .unset] [(.int (p6.toInt8.toInt32)), (.int (6 : Int32)), (.ref ou), (.ref ou)])) rfl rfl (hb hby at_75)
  refine own_step st12 ?_
  have N12 := Fr.snoc X12 N11 g_ou
  have Z12 := Nat.le_trans Z11 (Keep.of_wr W12).1
  rw [own_bb] at V12
  have V_ou_12 : Arv Z h12 ou k5 .byte (14 : Int32) [(.int (p6.toInt8.toInt32)), (.int (p6.toInt8.toInt32)), (.int (p6.toInt8.toInt32)), (.int (p6.toInt8.toInt32)), (.int (p6.toInt8.toInt32)), (.int (p6.toInt8.toInt32)), (.int (p6.toInt8.toInt32)), (.int (0 : Int32)), (.int (0 : Int32)), (.int (0 : Int32)), (.int (0 : Int32)), (.int (0 : Int32)), (.int (0 : Int32)), (.int (0 : Int32))] (.int (0 : Int32)) := V12
  show own_Ends _ _ _ _ _ _ _ T12 (mkF m 76 #[.val (.int p1), .val (.int p2), .val (.int p3), .val (.int p4), .val (.int p5), .val (.int p6), .val (.ref bb), .val (.int (p4 &&& (3 : Int32))), .val (.int (p5 &&& (3 : Int32))), .val (.int (p6.toInt8.toInt32)), .unset, .unset, .unset, .unset] [(.ref ou)])
  refine own_step (fun _ k => XS.dup X12.here hx rfl (hb hby at_76) rfl rfl k) ?_
  show own_Ends _ _ _ _ _ _ _ T12 (mkF m 77 #[.val (.int p1), .val (.int p2), .val (.int p3), .val (.int p4), .val (.int p5), .val (.int p6), .val (.ref bb), .val (.int (p4 &&& (3 : Int32))), .val (.int (p5 &&& (3 : Int32))), .val (.int (p6.toInt8.toInt32)), .unset, .unset, .unset, .unset] [(.ref ou), (.ref ou)])
  refine own_step (fun _ k => XS.bipush X12.here hx rfl (hb hby at_77) k) ?_
  show own_Ends _ _ _ _ _ _ _ T12 (mkF m 79 #[.val (.int p1), .val (.int p2), .val (.int p3), .val (.int p4), .val (.int p5), .val (.int p6), .val (.ref bb), .val (.int (p4 &&& (3 : Int32))), .val (.int (p5 &&& (3 : Int32))), .val (.int (p6.toInt8.toInt32)), .unset, .unset, .unset, .unset] [(.int (7 : Int32)), (.ref ou), (.ref ou)])
  refine own_step (fun _ k => XS.iload X12.here hx rfl (hb hby at_79) rfl k) ?_
  show own_Ends _ _ _ _ _ _ _ T12 (mkF m 81 #[.val (.int p1), .val (.int p2), .val (.int p3), .val (.int p4), .val (.int p5), .val (.int p6), .val (.ref bb), .val (.int (p4 &&& (3 : Int32))), .val (.int (p5 &&& (3 : Int32))), .val (.int (p6.toInt8.toInt32)), .unset, .unset, .unset, .unset] [(.int (p6.toInt8.toInt32)), (.int (7 : Int32)), (.ref ou), (.ref ou)])
  obtain ⟨T13, h13, l13, X13, e13, W13, V13, st13⟩ := own_stB X12 hx hZ e12 V_ou_12 (j := (7 : Int32)) ⟨by decide, by decide⟩ 7 rfl (Nat.le_of_ble_eq_true rfl) (g := (mkF m 81 #[.val (.int p1), .val (.int p2), .val (.int p3), .val (.int p4), .val (.int p5), .val (.int p6), .val (.ref bb), .val (.int (p4 &&& (3 : Int32))), .val (.int (p5 &&& (3 : Int32))), .val (.int (p6.toInt8.toInt32)), .unset, .unset, .unset, .unset] [(.int (p6.toInt8.toInt32)), (.int (7 : Int32)), (.ref ou), (.ref ou)])) rfl rfl (hb hby at_81)
  refine own_step st13 ?_
  have N13 := Fr.snoc X13 N12 g_ou
  have Z13 := Nat.le_trans Z12 (Keep.of_wr W13).1
  rw [own_bb] at V13
  have V_ou_13 : Arv Z h13 ou k5 .byte (14 : Int32) [(.int (p6.toInt8.toInt32)), (.int (p6.toInt8.toInt32)), (.int (p6.toInt8.toInt32)), (.int (p6.toInt8.toInt32)), (.int (p6.toInt8.toInt32)), (.int (p6.toInt8.toInt32)), (.int (p6.toInt8.toInt32)), (.int (p6.toInt8.toInt32)), (.int (0 : Int32)), (.int (0 : Int32)), (.int (0 : Int32)), (.int (0 : Int32)), (.int (0 : Int32)), (.int (0 : Int32))] (.int (0 : Int32)) := V13
  show own_Ends _ _ _ _ _ _ _ T13 (mkF m 82 #[.val (.int p1), .val (.int p2), .val (.int p3), .val (.int p4), .val (.int p5), .val (.int p6), .val (.ref bb), .val (.int (p4 &&& (3 : Int32))), .val (.int (p5 &&& (3 : Int32))), .val (.int (p6.toInt8.toInt32)), .unset, .unset, .unset, .unset] [(.ref ou)])
  refine own_step (fun _ k => XS.dup X13.here hx rfl (hb hby at_82) rfl rfl k) ?_
  show own_Ends _ _ _ _ _ _ _ T13 (mkF m 83 #[.val (.int p1), .val (.int p2), .val (.int p3), .val (.int p4), .val (.int p5), .val (.int p6), .val (.ref bb), .val (.int (p4 &&& (3 : Int32))), .val (.int (p5 &&& (3 : Int32))), .val (.int (p6.toInt8.toInt32)), .unset, .unset, .unset, .unset] [(.ref ou), (.ref ou)])
  refine own_step (fun _ k => XS.bipush X13.here hx rfl (hb hby at_83) k) ?_
  show own_Ends _ _ _ _ _ _ _ T13 (mkF m 85 #[.val (.int p1), .val (.int p2), .val (.int p3), .val (.int p4), .val (.int p5), .val (.int p6), .val (.ref bb), .val (.int (p4 &&& (3 : Int32))), .val (.int (p5 &&& (3 : Int32))), .val (.int (p6.toInt8.toInt32)), .unset, .unset, .unset, .unset] [(.int (8 : Int32)), (.ref ou), (.ref ou)])
  refine own_step (fun _ k => XS.iload X13.here hx rfl (hb hby at_85) rfl k) ?_
  show own_Ends _ _ _ _ _ _ _ T13 (mkF m 87 #[.val (.int p1), .val (.int p2), .val (.int p3), .val (.int p4), .val (.int p5), .val (.int p6), .val (.ref bb), .val (.int (p4 &&& (3 : Int32))), .val (.int (p5 &&& (3 : Int32))), .val (.int (p6.toInt8.toInt32)), .unset, .unset, .unset, .unset] [(.int (p6.toInt8.toInt32)), (.int (8 : Int32)), (.ref ou), (.ref ou)])
  obtain ⟨T14, h14, l14, X14, e14, W14, V14, st14⟩ := own_stB X13 hx hZ e13 V_ou_13 (j := (8 : Int32)) ⟨by decide, by decide⟩ 8 rfl (Nat.le_of_ble_eq_true rfl) (g := (mkF m 87 #[.val (.int p1), .val (.int p2), .val (.int p3), .val (.int p4), .val (.int p5), .val (.int p6), .val (.ref bb), .val (.int (p4 &&& (3 : Int32))), .val (.int (p5 &&& (3 : Int32))), .val (.int (p6.toInt8.toInt32)), .unset, .unset, .unset, .unset] [(.int (p6.toInt8.toInt32)), (.int (8 : Int32)), (.ref ou), (.ref ou)])) rfl rfl (hb hby at_87)
  refine own_step st14 ?_
  have N14 := Fr.snoc X14 N13 g_ou
  have Z14 := Nat.le_trans Z13 (Keep.of_wr W14).1
  rw [own_bb] at V14
  have V_ou_14 : Arv Z h14 ou k5 .byte (14 : Int32) [(.int (p6.toInt8.toInt32)), (.int (p6.toInt8.toInt32)), (.int (p6.toInt8.toInt32)), (.int (p6.toInt8.toInt32)), (.int (p6.toInt8.toInt32)), (.int (p6.toInt8.toInt32)), (.int (p6.toInt8.toInt32)), (.int (p6.toInt8.toInt32)), (.int (p6.toInt8.toInt32)), (.int (0 : Int32)), (.int (0 : Int32)), (.int (0 : Int32)), (.int (0 : Int32)), (.int (0 : Int32))] (.int (0 : Int32)) := V14
  show own_Ends _ _ _ _ _ _ _ T14 (mkF m 88 #[.val (.int p1), .val (.int p2), .val (.int p3), .val (.int p4), .val (.int p5), .val (.int p6), .val (.ref bb), .val (.int (p4 &&& (3 : Int32))), .val (.int (p5 &&& (3 : Int32))), .val (.int (p6.toInt8.toInt32)), .unset, .unset, .unset, .unset] [(.ref ou)])
  refine own_step (fun _ k => XS.dup X14.here hx rfl (hb hby at_88) rfl rfl k) ?_
  show own_Ends _ _ _ _ _ _ _ T14 (mkF m 89 #[.val (.int p1), .val (.int p2), .val (.int p3), .val (.int p4), .val (.int p5), .val (.int p6), .val (.ref bb), .val (.int (p4 &&& (3 : Int32))), .val (.int (p5 &&& (3 : Int32))), .val (.int (p6.toInt8.toInt32)), .unset, .unset, .unset, .unset] [(.ref ou), (.ref ou)])
  refine own_step (fun _ k => XS.bipush X14.here hx rfl (hb hby at_89) k) ?_
  show own_Ends _ _ _ _ _ _ _ T14 (mkF m 91 #[.val (.int p1), .val (.int p2), .val (.int p3), .val (.int p4), .val (.int p5), .val (.int p6), .val (.ref bb), .val (.int (p4 &&& (3 : Int32))), .val (.int (p5 &&& (3 : Int32))), .val (.int (p6.toInt8.toInt32)), .unset, .unset, .unset, .unset] [(.int (9 : Int32)), (.ref ou), (.ref ou)])
  refine own_step (fun _ k => XS.iload X14.here hx rfl (hb hby at_91) rfl k) ?_
  show own_Ends _ _ _ _ _ _ _ T14 (mkF m 93 #[.val (.int p1), .val (.int p2), .val (.int p3), .val (.int p4), .val (.int p5), .val (.int p6), .val (.ref bb), .val (.int (p4 &&& (3 : Int32))), .val (.int (p5 &&& (3 : Int32))), .val (.int (p6.toInt8.toInt32)), .unset, .unset, .unset, .unset] [(.int (p6.toInt8.toInt32)), (.int (9 : Int32)), (.ref ou), (.ref ou)])
  obtain ⟨T15, h15, l15, X15, e15, W15, V15, st15⟩ := own_stB X14 hx hZ e14 V_ou_14 (j := (9 : Int32)) ⟨by decide, by decide⟩ 9 rfl (Nat.le_of_ble_eq_true rfl) (g := (mkF m 93 #[.val (.int p1), .val (.int p2), .val (.int p3), .val (.int p4), .val (.int p5), .val (.int p6), .val (.ref bb), .val (.int (p4 &&& (3 : Int32))), .val (.int (p5 &&& (3 : Int32))), .val (.int (p6.toInt8.toInt32)), .unset, .unset, .unset, .unset] [(.int (p6.toInt8.toInt32)), (.int (9 : Int32)), (.ref ou), (.ref ou)])) rfl rfl (hb hby at_93)
  refine own_step st15 ?_
  have N15 := Fr.snoc X15 N14 g_ou
  have Z15 := Nat.le_trans Z14 (Keep.of_wr W15).1
  rw [own_bb] at V15
  have V_ou_15 : Arv Z h15 ou k5 .byte (14 : Int32) [(.int (p6.toInt8.toInt32)), (.int (p6.toInt8.toInt32)), (.int (p6.toInt8.toInt32)), (.int (p6.toInt8.toInt32)), (.int (p6.toInt8.toInt32)), (.int (p6.toInt8.toInt32)), (.int (p6.toInt8.toInt32)), (.int (p6.toInt8.toInt32)), (.int (p6.toInt8.toInt32)), (.int (p6.toInt8.toInt32)), (.int (0 : Int32)), (.int (0 : Int32)), (.int (0 : Int32)), (.int (0 : Int32))] (.int (0 : Int32)) := V15
  show own_Ends _ _ _ _ _ _ _ T15 (mkF m 94 #[.val (.int p1), .val (.int p2), .val (.int p3), .val (.int p4), .val (.int p5), .val (.int p6), .val (.ref bb), .val (.int (p4 &&& (3 : Int32))), .val (.int (p5 &&& (3 : Int32))), .val (.int (p6.toInt8.toInt32)), .unset, .unset, .unset, .unset] [(.ref ou)])
  refine own_step (fun _ k => XS.dup X15.here hx rfl (hb hby at_94) rfl rfl k) ?_
  show own_Ends _ _ _ _ _ _ _ T15 (mkF m 95 #[.val (.int p1), .val (.int p2), .val (.int p3), .val (.int p4), .val (.int p5), .val (.int p6), .val (.ref bb), .val (.int (p4 &&& (3 : Int32))), .val (.int (p5 &&& (3 : Int32))), .val (.int (p6.toInt8.toInt32)), .unset, .unset, .unset, .unset] [(.ref ou), (.ref ou)])
  refine own_step (fun _ k => XS.bipush X15.here hx rfl (hb hby at_95) k) ?_
  show own_Ends _ _ _ _ _ _ _ T15 (mkF m 97 #[.val (.int p1), .val (.int p2), .val (.int p3), .val (.int p4), .val (.int p5), .val (.int p6), .val (.ref bb), .val (.int (p4 &&& (3 : Int32))), .val (.int (p5 &&& (3 : Int32))), .val (.int (p6.toInt8.toInt32)), .unset, .unset, .unset, .unset] [(.int (10 : Int32)), (.ref ou), (.ref ou)])
  refine own_step (fun _ k => XS.iload X15.here hx rfl (hb hby at_97) rfl k) ?_
  show own_Ends _ _ _ _ _ _ _ T15 (mkF m 99 #[.val (.int p1), .val (.int p2), .val (.int p3), .val (.int p4), .val (.int p5), .val (.int p6), .val (.ref bb), .val (.int (p4 &&& (3 : Int32))), .val (.int (p5 &&& (3 : Int32))), .val (.int (p6.toInt8.toInt32)), .unset, .unset, .unset, .unset] [(.int (p6.toInt8.toInt32)), (.int (10 : Int32)), (.ref ou), (.ref ou)])
  obtain ⟨T16, h16, l16, X16, e16, W16, V16, st16⟩ := own_stB X15 hx hZ e15 V_ou_15 (j := (10 : Int32)) ⟨by decide, by decide⟩ 10 rfl (Nat.le_of_ble_eq_true rfl) (g := (mkF m 99 #[.val (.int p1), .val (.int p2), .val (.int p3), .val (.int p4), .val (.int p5), .val (.int p6), .val (.ref bb), .val (.int (p4 &&& (3 : Int32))), .val (.int (p5 &&& (3 : Int32))), .val (.int (p6.toInt8.toInt32)), .unset, .unset, .unset, .unset] [(.int (p6.toInt8.toInt32)), (.int (10 : Int32)), (.ref ou), (.ref ou)])) rfl rfl (hb hby at_99)
  refine own_step st16 ?_
  have N16 := Fr.snoc X16 N15 g_ou
  have Z16 := Nat.le_trans Z15 (Keep.of_wr W16).1
  rw [own_bb] at V16
  have V_ou_16 : Arv Z h16 ou k5 .byte (14 : Int32) [(.int (p6.toInt8.toInt32)), (.int (p6.toInt8.toInt32)), (.int (p6.toInt8.toInt32)), (.int (p6.toInt8.toInt32)), (.int (p6.toInt8.toInt32)), (.int (p6.toInt8.toInt32)), (.int (p6.toInt8.toInt32)), (.int (p6.toInt8.toInt32)), (.int (p6.toInt8.toInt32)), (.int (p6.toInt8.toInt32)), (.int (p6.toInt8.toInt32)), (.int (0 : Int32)), (.int (0 : Int32)), (.int (0 : Int32))] (.int (0 : Int32)) := V16
  show own_Ends _ _ _ _ _ _ _ T16 (mkF m 100 #[.val (.int p1), .val (.int p2), .val (.int p3), .val (.int p4), .val (.int p5), .val (.int p6), .val (.ref bb), .val (.int (p4 &&& (3 : Int32))), .val (.int (p5 &&& (3 : Int32))), .val (.int (p6.toInt8.toInt32)), .unset, .unset, .unset, .unset] [(.ref ou)])
  refine own_step (fun _ k => XS.dup X16.here hx rfl (hb hby at_100) rfl rfl k) ?_
  show own_Ends _ _ _ _ _ _ _ T16 (mkF m 101 #[.val (.int p1), .val (.int p2), .val (.int p3), .val (.int p4), .val (.int p5), .val (.int p6), .val (.ref bb), .val (.int (p4 &&& (3 : Int32))), .val (.int (p5 &&& (3 : Int32))), .val (.int (p6.toInt8.toInt32)), .unset, .unset, .unset, .unset] [(.ref ou), (.ref ou)])
  refine own_step (fun _ k => XS.bipush X16.here hx rfl (hb hby at_101) k) ?_
  show own_Ends _ _ _ _ _ _ _ T16 (mkF m 103 #[.val (.int p1), .val (.int p2), .val (.int p3), .val (.int p4), .val (.int p5), .val (.int p6), .val (.ref bb), .val (.int (p4 &&& (3 : Int32))), .val (.int (p5 &&& (3 : Int32))), .val (.int (p6.toInt8.toInt32)), .unset, .unset, .unset, .unset] [(.int (11 : Int32)), (.ref ou), (.ref ou)])
  refine own_step (fun _ k => XS.iload X16.here hx rfl (hb hby at_103) rfl k) ?_
  show own_Ends _ _ _ _ _ _ _ T16 (mkF m 105 #[.val (.int p1), .val (.int p2), .val (.int p3), .val (.int p4), .val (.int p5), .val (.int p6), .val (.ref bb), .val (.int (p4 &&& (3 : Int32))), .val (.int (p5 &&& (3 : Int32))), .val (.int (p6.toInt8.toInt32)), .unset, .unset, .unset, .unset] [(.int (p6.toInt8.toInt32)), (.int (11 : Int32)), (.ref ou), (.ref ou)])
  obtain ⟨T17, h17, l17, X17, e17, W17, V17, st17⟩ := own_stB X16 hx hZ e16 V_ou_16 (j := (11 : Int32)) ⟨by decide, by decide⟩ 11 rfl (Nat.le_of_ble_eq_true rfl) (g := (mkF m 105 #[.val (.int p1), .val (.int p2), .val (.int p3), .val (.int p4), .val (.int p5), .val (.int p6), .val (.ref bb), .val (.int (p4 &&& (3 : Int32))), .val (.int (p5 &&& (3 : Int32))), .val (.int (p6.toInt8.toInt32)), .unset, .unset, .unset, .unset] [(.int (p6.toInt8.toInt32)), (.int (11 : Int32)), (.ref ou), (.ref ou)])) rfl rfl (hb hby at_105)
  refine own_step st17 ?_
  have N17 := Fr.snoc X17 N16 g_ou
  have Z17 := Nat.le_trans Z16 (Keep.of_wr W17).1
  rw [own_bb] at V17
  have V_ou_17 : Arv Z h17 ou k5 .byte (14 : Int32) [(.int (p6.toInt8.toInt32)), (.int (p6.toInt8.toInt32)), (.int (p6.toInt8.toInt32)), (.int (p6.toInt8.toInt32)), (.int (p6.toInt8.toInt32)), (.int (p6.toInt8.toInt32)), (.int (p6.toInt8.toInt32)), (.int (p6.toInt8.toInt32)), (.int (p6.toInt8.toInt32)), (.int (p6.toInt8.toInt32)), (.int (p6.toInt8.toInt32)), (.int (p6.toInt8.toInt32)), (.int (0 : Int32)), (.int (0 : Int32))] (.int (0 : Int32)) := V17
  show own_Ends _ _ _ _ _ _ _ T17 (mkF m 106 #[.val (.int p1), .val (.int p2), .val (.int p3), .val (.int p4), .val (.int p5), .val (.int p6), .val (.ref bb), .val (.int (p4 &&& (3 : Int32))), .val (.int (p5 &&& (3 : Int32))), .val (.int (p6.toInt8.toInt32)), .unset, .unset, .unset, .unset] [(.ref ou)])
  refine own_step (fun _ k => XS.dup X17.here hx rfl (hb hby at_106) rfl rfl k) ?_
  show own_Ends _ _ _ _ _ _ _ T17 (mkF m 107 #[.val (.int p1), .val (.int p2), .val (.int p3), .val (.int p4), .val (.int p5), .val (.int p6), .val (.ref bb), .val (.int (p4 &&& (3 : Int32))), .val (.int (p5 &&& (3 : Int32))), .val (.int (p6.toInt8.toInt32)), .unset, .unset, .unset, .unset] [(.ref ou), (.ref ou)])
  refine own_step (fun _ k => XS.bipush X17.here hx rfl (hb hby at_107) k) ?_
  show own_Ends _ _ _ _ _ _ _ T17 (mkF m 109 #[.val (.int p1), .val (.int p2), .val (.int p3), .val (.int p4), .val (.int p5), .val (.int p6), .val (.ref bb), .val (.int (p4 &&& (3 : Int32))), .val (.int (p5 &&& (3 : Int32))), .val (.int (p6.toInt8.toInt32)), .unset, .unset, .unset, .unset] [(.int (12 : Int32)), (.ref ou), (.ref ou)])
  refine own_step (fun _ k => XS.iload X17.here hx rfl (hb hby at_109) rfl k) ?_
  show own_Ends _ _ _ _ _ _ _ T17 (mkF m 111 #[.val (.int p1), .val (.int p2), .val (.int p3), .val (.int p4), .val (.int p5), .val (.int p6), .val (.ref bb), .val (.int (p4 &&& (3 : Int32))), .val (.int (p5 &&& (3 : Int32))), .val (.int (p6.toInt8.toInt32)), .unset, .unset, .unset, .unset] [(.int (p6.toInt8.toInt32)), (.int (12 : Int32)), (.ref ou), (.ref ou)])
  obtain ⟨T18, h18, l18, X18, e18, W18, V18, st18⟩ := own_stB X17 hx hZ e17 V_ou_17 (j := (12 : Int32)) ⟨by decide, by decide⟩ 12 rfl (Nat.le_of_ble_eq_true rfl) (g := (mkF m 111 #[.val (.int p1), .val (.int p2), .val (.int p3), .val (.int p4), .val (.int p5), .val (.int p6), .val (.ref bb), .val (.int (p4 &&& (3 : Int32))), .val (.int (p5 &&& (3 : Int32))), .val (.int (p6.toInt8.toInt32)), .unset, .unset, .unset, .unset] [(.int (p6.toInt8.toInt32)), (.int (12 : Int32)), (.ref ou), (.ref ou)])) rfl rfl (hb hby at_111)
  refine own_step st18 ?_
  have N18 := Fr.snoc X18 N17 g_ou
  have Z18 := Nat.le_trans Z17 (Keep.of_wr W18).1
  rw [own_bb] at V18
  have V_ou_18 : Arv Z h18 ou k5 .byte (14 : Int32) [(.int (p6.toInt8.toInt32)), (.int (p6.toInt8.toInt32)), (.int (p6.toInt8.toInt32)), (.int (p6.toInt8.toInt32)), (.int (p6.toInt8.toInt32)), (.int (p6.toInt8.toInt32)), (.int (p6.toInt8.toInt32)), (.int (p6.toInt8.toInt32)), (.int (p6.toInt8.toInt32)), (.int (p6.toInt8.toInt32)), (.int (p6.toInt8.toInt32)), (.int (p6.toInt8.toInt32)), (.int (p6.toInt8.toInt32)), (.int (0 : Int32))] (.int (0 : Int32)) := V18
  show own_Ends _ _ _ _ _ _ _ T18 (mkF m 112 #[.val (.int p1), .val (.int p2), .val (.int p3), .val (.int p4), .val (.int p5), .val (.int p6), .val (.ref bb), .val (.int (p4 &&& (3 : Int32))), .val (.int (p5 &&& (3 : Int32))), .val (.int (p6.toInt8.toInt32)), .unset, .unset, .unset, .unset] [(.ref ou)])
  refine own_step (fun _ k => XS.dup X18.here hx rfl (hb hby at_112) rfl rfl k) ?_
  show own_Ends _ _ _ _ _ _ _ T18 (mkF m 113 #[.val (.int p1), .val (.int p2), .val (.int p3), .val (.int p4), .val (.int p5), .val (.int p6), .val (.ref bb), .val (.int (p4 &&& (3 : Int32))), .val (.int (p5 &&& (3 : Int32))), .val (.int (p6.toInt8.toInt32)), .unset, .unset, .unset, .unset] [(.ref ou), (.ref ou)])
  refine own_step (fun _ k => XS.bipush X18.here hx rfl (hb hby at_113) k) ?_
  show own_Ends _ _ _ _ _ _ _ T18 (mkF m 115 #[.val (.int p1), .val (.int p2), .val (.int p3), .val (.int p4), .val (.int p5), .val (.int p6), .val (.ref bb), .val (.int (p4 &&& (3 : Int32))), .val (.int (p5 &&& (3 : Int32))), .val (.int (p6.toInt8.toInt32)), .unset, .unset, .unset, .unset] [(.int (13 : Int32)), (.ref ou), (.ref ou)])
  refine own_step (fun _ k => XS.iload X18.here hx rfl (hb hby at_115) rfl k) ?_
  show own_Ends _ _ _ _ _ _ _ T18 (mkF m 117 #[.val (.int p1), .val (.int p2), .val (.int p3), .val (.int p4), .val (.int p5), .val (.int p6), .val (.ref bb), .val (.int (p4 &&& (3 : Int32))), .val (.int (p5 &&& (3 : Int32))), .val (.int (p6.toInt8.toInt32)), .unset, .unset, .unset, .unset] [(.int (p6.toInt8.toInt32)), (.int (13 : Int32)), (.ref ou), (.ref ou)])
  obtain ⟨T19, h19, l19, X19, e19, W19, V19, st19⟩ := own_stB X18 hx hZ e18 V_ou_18 (j := (13 : Int32)) ⟨by decide, by decide⟩ 13 rfl (Nat.le_of_ble_eq_true rfl) (g := (mkF m 117 #[.val (.int p1), .val (.int p2), .val (.int p3), .val (.int p4), .val (.int p5), .val (.int p6), .val (.ref bb), .val (.int (p4 &&& (3 : Int32))), .val (.int (p5 &&& (3 : Int32))), .val (.int (p6.toInt8.toInt32)), .unset, .unset, .unset, .unset] [(.int (p6.toInt8.toInt32)), (.int (13 : Int32)), (.ref ou), (.ref ou)])) rfl rfl (hb hby at_117)
  refine own_step st19 ?_
  have N19 := Fr.snoc X19 N18 g_ou
  have Z19 := Nat.le_trans Z18 (Keep.of_wr W19).1
  rw [own_bb] at V19
  have V_ou_19 : Arv Z h19 ou k5 .byte (14 : Int32) [(.int (p6.toInt8.toInt32)), (.int (p6.toInt8.toInt32)), (.int (p6.toInt8.toInt32)), (.int (p6.toInt8.toInt32)), (.int (p6.toInt8.toInt32)), (.int (p6.toInt8.toInt32)), (.int (p6.toInt8.toInt32)), (.int (p6.toInt8.toInt32)), (.int (p6.toInt8.toInt32)), (.int (p6.toInt8.toInt32)), (.int (p6.toInt8.toInt32)), (.int (p6.toInt8.toInt32)), (.int (p6.toInt8.toInt32)), (.int (p6.toInt8.toInt32))] (.int (0 : Int32)) := V19
  show own_Ends _ _ _ _ _ _ _ T19 (mkF m 118 #[.val (.int p1), .val (.int p2), .val (.int p3), .val (.int p4), .val (.int p5), .val (.int p6), .val (.ref bb), .val (.int (p4 &&& (3 : Int32))), .val (.int (p5 &&& (3 : Int32))), .val (.int (p6.toInt8.toInt32)), .unset, .unset, .unset, .unset] [(.ref ou)])
  refine own_step (fun _ k => XS.astore X19.here hx rfl (hb hby at_118) rfl rfl (l' := #[.val (.int p1), .val (.int p2), .val (.int p3), .val (.int p4), .val (.int p5), .val (.int p6), .val (.ref bb), .val (.int (p4 &&& (3 : Int32))), .val (.int (p5 &&& (3 : Int32))), .val (.int (p6.toInt8.toInt32)), .val (.ref ou), .unset, .unset, .unset]) rfl k) ?_
  show own_Ends _ _ _ _ _ _ _ T19 (mkF m 120 #[.val (.int p1), .val (.int p2), .val (.int p3), .val (.int p4), .val (.int p5), .val (.int p6), .val (.ref bb), .val (.int (p4 &&& (3 : Int32))), .val (.int (p5 &&& (3 : Int32))), .val (.int (p6.toInt8.toInt32)), .val (.ref ou), .unset, .unset, .unset] [])
  refine own_step (fun _ k => XS.bipush X19.here hx rfl (hb hby at_120) k) ?_
  show own_Ends _ _ _ _ _ _ _ T19 (mkF m 122 #[.val (.int p1), .val (.int p2), .val (.int p3), .val (.int p4), .val (.int p5), .val (.int p6), .val (.ref bb), .val (.int (p4 &&& (3 : Int32))), .val (.int (p5 &&& (3 : Int32))), .val (.int (p6.toInt8.toInt32)), .val (.ref ou), .unset, .unset, .unset] [(.int (14 : Int32))])
  obtain ⟨T20, h20, k20, ex, g20, X20, e20, E20, V20, st20⟩ := own_newA X19 hx hZ (hw _ (List.mem_of_getElem? (i := 0) rfl)) e19 (g := (mkF m 122 #[.val (.int p1), .val (.int p2), .val (.int p3), .val (.int p4), .val (.int p5), .val (.int p6), .val (.ref bb), .val (.int (p4 &&& (3 : Int32))), .val (.int (p5 &&& (3 : Int32))), .val (.int (p6.toInt8.toInt32)), .val (.ref ou), .unset, .unset, .unset] [(.int (14 : Int32))])) rfl (hb hby at_122) rfl (by decide) (cap := 14) (by decide) (by decide) (by decide) (by decide)
  have Q21 := (((((((((((((((V_bb_4.ext E5).other W6 ne_bb_ou).other W7 ne_bb_ou).other W8 ne_bb_ou).other W9 ne_bb_ou).other W10 ne_bb_ou).other W11 ne_bb_ou).other W12 ne_bb_ou).other W13 ne_bb_ou).other W14 ne_bb_ou).other W15 ne_bb_ou).other W16 ne_bb_ou).other W17 ne_bb_ou).other W18 ne_bb_ou).other W19 ne_bb_ou)
  have ne_bb_ex : bb ≠ ex := Nat.ne_of_lt (Nat.lt_of_lt_of_eq Q21.lt g20.symm)
  have ne_ou_ex : ou ≠ ex := Nat.ne_of_lt (Nat.lt_of_lt_of_eq V_ou_19.lt g20.symm)
  have g_ex : n0 ≤ ex := Nat.le_trans Z19 (Nat.le_of_eq g20.symm)
  refine own_step st20 ?_
  have Z20 := Nat.le_trans Z19 E20.1
  have V_ex : Arv Z h20 ex k20 .byte (14 : Int32) [(.int (0 : Int32)), (.int (0 : Int32)), (.int (0 : Int32)), (.int (0 : Int32)), (.int (0 : Int32)), (.int (0 : Int32)), (.int (0 : Int32)), (.int (0 : Int32)), (.int (0 : Int32)), (.int (0 : Int32)), (.int (0 : Int32)), (.int (0 : Int32)), (.int (0 : Int32)), (.int (0 : Int32))] (.int (0 : Int32)) := V20
  show own_Ends _ _ _ _ _ _ _ T20 (mkF m 124 #[.val (.int p1), .val (.int p2), .val (.int p3), .val (.int p4), .val (.int p5), .val (.int p6), .val (.ref bb), .val (.int (p4 &&& (3 : Int32))), .val (.int (p5 &&& (3 : Int32))), .val (.int (p6.toInt8.toInt32)), .val (.ref ou), .unset, .unset, .unset] [(.ref ex)])
  refine own_step (fun _ k => XS.dup X20.here hx rfl (hb hby at_124) rfl rfl k) ?_
  show own_Ends _ _ _ _ _ _ _ T20 (mkF m 125 #[.val (.int p1), .val (.int p2), .val (.int p3), .val (.int p4), .val (.int p5), .val (.int p6), .val (.ref bb), .val (.int (p4 &&& (3 : Int32))), .val (.int (p5 &&& (3 : Int32))), .val (.int (p6.toInt8.toInt32)), .val (.ref ou), .unset, .unset, .unset] [(.ref ex), (.ref ex)])
  refine own_step (fun _ k => XS.iconst X20.here hx rfl (hb hby at_125) k) ?_
  show own_Ends _ _ _ _ _ _ _ T20 (mkF m 126 #[.val (.int p1), .val (.int p2), .val (.int p3), .val (.int p4), .val (.int p5), .val (.int p6), .val (.ref bb), .val (.int (p4 &&& (3 : Int32))), .val (.int (p5 &&& (3 : Int32))), .val (.int (p6.toInt8.toInt32)), .val (.ref ou), .unset, .unset, .unset] [(.int (0 : Int32)), (.ref ex), (.ref ex)])
  refine own_step (fun _ k => XS.iload X20.here hx rfl (hb hby at_126) rfl k) ?_
  show own_Ends _ _ _ _ _ _ _ T20 (mkF m 128 #[.val (.int p1), .val (.int p2), .val (.int p3), .val (.int p4), .val (.int p5), .val (.int p6), .val (.ref bb), .val (.int (p4 &&& (3 : Int32))), .val (.int (p5 &&& (3 : Int32))), .val (.int (p6.toInt8.toInt32)), .val (.ref ou), .unset, .unset, .unset] [(.int (p6.toInt8.toInt32)), (.int (0 : Int32)), (.ref ex), (.ref ex)])
  obtain ⟨T22, h22, l22, X22, e22, W22, V22, st22⟩ := own_stB X20 hx hZ e20 V_ex (j := (0 : Int32)) ⟨by decide, by decide⟩ 0 rfl (Nat.le_of_ble_eq_true rfl) (g := (mkF m 128 #[.val (.int p1), .val (.int p2), .val (.int p3), .val (.int p4), .val (.int p5), .val (.int p6), .val (.ref bb), .val (.int (p4 &&& (3 : Int32))), .val (.int (p5 &&& (3 : Int32))), .val (.int (p6.toInt8.toInt32)), .val (.ref ou), .unset, .unset, .unset] [(.int (p6.toInt8.toInt32)), (.int (0 : Int32)), (.ref ex), (.ref ex)])) rfl rfl (hb hby at_128)
  refine own_step st22 ?_
  have N22 := Fr.snoc X22 N19 g_ex
  have Z22 := Nat.le_trans Z20 (Keep.of_wr W22).1
  rw [own_bb] at V22
  have V_ex_22 : Arv Z h22 ex k20 .byte (14 : Int32) [(.int (p6.toInt8.toInt32)), (.int (0 : Int32)), (.int (0 : Int32)), (.int (0 : Int32)), (.int (0 : Int32)), (.int (0 : Int32)), (.int (0 : Int32)), (.int (0 : Int32)), (.int (0 : Int32)), (.int (0 : Int32)), (.int (0 : Int32)), (.int (0 : Int32)), (.int (0 : Int32)), (.int (0 : Int32))] (.int (0 : Int32)) := V22
  show own_Ends _ _ _ _ _ _ _ T22 (mkF m 129 #[.val (.int p1), .val (.int p2), .val (.int p3), .val (.int p4), .val (.int p5), .val (.int p6), .val (.ref bb), .val (.int (p4 &&& (3 : Int32))), .val (.int (p5 &&& (3 : Int32))), .val (.int (p6.toInt8.toInt32)), .val (.ref ou), .unset, .unset, .unset] [(.ref ex)])
  refine own_step (fun _ k => XS.dup X22.here hx rfl (hb hby at_129) rfl rfl k) ?_
  show own_Ends _ _ _ _ _ _ _ T22 (mkF m 130 #[.val (.int p1), .val (.int p2), .val (.int p3), .val (.int p4), .val (.int p5), .val (.int p6), .val (.ref bb), .val (.int (p4 &&& (3 : Int32))), .val (.int (p5 &&& (3 : Int32))), .val (.int (p6.toInt8.toInt32)), .val (.ref ou), .unset, .unset, .unset] [(.ref ex), (.ref ex)])
  refine own_step (fun _ k => XS.iconst X22.here hx rfl (hb hby at_130) k) ?_
  show own_Ends _ _ _ _ _ _ _ T22 (mkF m 131 #[.val (.int p1), .val (.int p2), .val (.int p3), .val (.int p4), .val (.int p5), .val (.int p6), .val (.ref bb), .val (.int (p4 &&& (3 : Int32))), .val (.int (p5 &&& (3 : Int32))), .val (.int (p6.toInt8.toInt32)), .val (.ref ou), .unset, .unset, .unset] [(.int (1 : Int32)), (.ref ex), (.ref ex)])
  refine own_step (fun _ k => XS.iload X22.here hx rfl (hb hby at_131) rfl k) ?_
  show own_Ends _ _ _ _ _ _ _ T22 (mkF m 133 #[.val (.int p1), .val (.int p2), .val (.int p3), .val (.int p4), .val (.int p5), .val (.int p6), .val (.ref bb), .val (.int (p4 &&& (3 : Int32))), .val (.int (p5 &&& (3 : Int32))), .val (.int (p6.toInt8.toInt32)), .val (.ref ou), .unset, .unset, .unset] [(.int (p6.toInt8.toInt32)), (.int (1 : Int32)), (.ref ex), (.ref ex)])
  obtain ⟨T23, h23, l23, X23, e23, W23, V23, st23⟩ := own_stB X22 hx hZ e22 V_ex_22 (j := (1 : Int32)) ⟨by decide, by decide⟩ 1 rfl (Nat.le_of_ble_eq_true rfl) (g := (mkF m 133 #[.val (.int p1), .val (.int p2), .val (.int p3), .val (.int p4), .val (.int p5), .val (.int p6), .val (.ref bb), .val (.int (p4 &&& (3 : Int32))), .val (.int (p5 &&& (3 : Int32))), .val (.int (p6.toInt8.toInt32)), .val (.ref ou), .unset, .unset, .unset] [(.int (p6.toInt8.toInt32)), (.int (1 : Int32)), (.ref ex), (.ref ex)])) rfl rfl (hb hby at_133)
  refine own_step st23 ?_
  have N23 := Fr.snoc X23 N22 g_ex
  have Z23 := Nat.le_trans Z22 (Keep.of_wr W23).1
  rw [own_bb] at V23
  have V_ex_23 : Arv Z h23 ex k20 .byte (14 : Int32) [(.int (p6.toInt8.toInt32)), (.int (p6.toInt8.toInt32)), (.int (0 : Int32)), (.int (0 : Int32)), (.int (0 : Int32)), (.int (0 : Int32)), (.int (0 : Int32)), (.int (0 : Int32)), (.int (0 : Int32)), (.int (0 : Int32)), (.int (0 : Int32)), (.int (0 : Int32)), (.int (0 : Int32)), (.int (0 : Int32))] (.int (0 : Int32)) := V23
  show own_Ends _ _ _ _ _ _ _ T23 (mkF m 134 #[.val (.int p1), .val (.int p2), .val (.int p3), .val (.int p4), .val (.int p5), .val (.int p6), .val (.ref bb), .val (.int (p4 &&& (3 : Int32))), .val (.int (p5 &&& (3 : Int32))), .val (.int (p6.toInt8.toInt32)), .val (.ref ou), .unset, .unset, .unset] [(.ref ex)])
  refine own_step (fun _ k => XS.dup X23.here hx rfl (hb hby at_134) rfl rfl k) ?_
  show own_Ends _ _ _ _ _ _ _ T23 (mkF m 135 #[.val (.int p1), .val (.int p2), .val (.int p3), .val (.int p4), .val (.int p5), .val (.int p6), .val (.ref bb), .val (.int (p4 &&& (3 : Int32))), .val (.int (p5 &&& (3 : Int32))), .val (.int (p6.toInt8.toInt32)), .val (.ref ou), .unset, .unset, .unset] [(.ref ex), (.ref ex)])
  refine own_step (fun _ k => XS.iconst X23.here hx rfl (hb hby at_135) k) ?_
  show own_Ends _ _ _ _ _ _ _ T23 (mkF m 136 #[.val (.int p1), .val (.int p2), .val (.int p3), .val (.int p4), .val (.int p5), .val (.int p6), .val (.ref bb), .val (.int (p4 &&& (3 : Int32))), .val (.int (p5 &&& (3 : Int32))), .val (.int (p6.toInt8.toInt32)), .val (.ref ou), .unset, .unset, .unset] [(.int (2 : Int32)), (.ref ex), (.ref ex)])
  refine own_step (fun _ k => XS.iload X23.here hx rfl (hb hby at_136) rfl k) ?_
  show own_Ends _ _ _ _ _ _ _ T23 (mkF m 138 #[.val (.int p1), .val (.int p2), .val (.int p3), .val (.int p4), .val (.int p5), .val (.int p6), .val (.ref bb), .val (.int (p4 &&& (3 : Int32))), .val (.int (p5 &&& (3 : Int32))), .val (.int (p6.toInt8.toInt32)), .val (.ref ou), .unset, .unset, .unset] [(.int (p6.toInt8.toInt32)), (.int (2 : Int32)), (.ref ex), (.ref ex)])
  obtain ⟨T24, h24, l24, X24, e24, W24, V24, st24⟩ := own_stB X23 hx hZ e23 V_ex_23 (j := (2 : Int32)) ⟨by decide, by decide⟩ 2 rfl (Nat.le_of_ble_eq_true rfl) (g := (mkF m 138 #[.val (.int p1), .val (.int p2), .val (.int p3), .val (.int p4), .val (.int p5), .val (.int p6), .val (.ref bb), .val (.int (p4 &&& (3 : Int32))), .val (.int (p5 &&& (3 : Int32))), .val (.int (p6.toInt8.toInt32)), .val (.ref ou), .unset, .unset, .unset] [(.int (p6.toInt8.toInt32)), (.int (2 : Int32)), (.ref ex), (.ref ex)])) rfl rfl (hb hby at_138)
  refine own_step st24 ?_
  have N24 := Fr.snoc X24 N23 g_ex
  have Z24 := Nat.le_trans Z23 (Keep.of_wr W24).1
  rw [own_bb] at V24
  have V_ex_24 : Arv Z h24 ex k20 .byte (14 : Int32) [(.int (p6.toInt8.toInt32)), (.int (p6.toInt8.toInt32)), (.int (p6.toInt8.toInt32)), (.int (0 : Int32)), (.int (0 : Int32)), (.int (0 : Int32)), (.int (0 : Int32)), (.int (0 : Int32)), (.int (0 : Int32)), (.int (0 : Int32)), (.int (0 : Int32)), (.int (0 : Int32)), (.int (0 : Int32)), (.int (0 : Int32))] (.int (0 : Int32)) := V24
  show own_Ends _ _ _ _ _ _ _ T24 (mkF m 139 #[.val (.int p1), .val (.int p2), .val (.int p3), .val (.int p4), .val (.int p5), .val (.int p6), .val (.ref bb), .val (.int (p4 &&& (3 : Int32))), .val (.int (p5 &&& (3 : Int32))), .val (.int (p6.toInt8.toInt32)), .val (.ref ou), .unset, .unset, .unset] [(.ref ex)])
  refine own_step (fun _ k => XS.dup X24.here hx rfl (hb hby at_139) rfl rfl k) ?_
  show own_Ends _ _ _ _ _ _ _ T24 (mkF m 140 #[.val (.int p1), .val (.int p2), .val (.int p3), .val (.int p4), .val (.int p5), .val (.int p6), .val (.ref bb), .val (.int (p4 &&& (3 : Int32))), .val (.int (p5 &&& (3 : Int32))), .val (.int (p6.toInt8.toInt32)), .val (.ref ou), .unset, .unset, .unset] [(.ref ex), (.ref ex)])
  refine own_step (fun _ k => XS.iconst X24.here hx rfl (hb hby at_140) k) ?_
  show own_Ends _ _ _ _ _ _ _ T24 (mkF m 141 #[.val (.int p1), .val (.int p2), .val (.int p3), .val (.int p4), .val (.int p5), .val (.int p6), .val (.ref bb), .val (.int (p4 &&& (3 : Int32))), .val (.int (p5 &&& (3 : Int32))), .val (.int (p6.toInt8.toInt32)), .val (.ref ou), .unset, .unset, .unset] [(.int (3 : Int32)), (.ref ex), (.ref ex)])
  refine own_step (fun _ k => XS.iload X24.here hx rfl (hb hby at_141) rfl k) ?_
  show own_Ends _ _ _ _ _ _ _ T24 (mkF m 143 #[.val (.int p1), .val (.int p2), .val (.int p3), .val (.int p4), .val (.int p5), .val (.int p6), .val (.ref bb), .val (.int (p4 &&& (3 : Int32))), .val (.int (p5 &&& (3 : Int32))), .val (.int (p6.toInt8.toInt32)), .val (.ref ou), .unset, .unset, .unset] [(.int (p6.toInt8.toInt32)), (.int (3 : Int32)), (.ref ex), (.ref ex)])
  obtain ⟨T25, h25, l25, X25, e25, W25, V25, st25⟩ := own_stB X24 hx hZ e24 V_ex_24 (j := (3 : Int32)) ⟨by decide, by decide⟩ 3 rfl (Nat.le_of_ble_eq_true rfl) (g := (mkF m 143 #[.val (.int p1), .val (.int p2), .val (.int p3), .val (.int p4), .val (.int p5), .val (.int p6), .val (.ref bb), .val (.int (p4 &&& (3 : Int32))), .val (.int (p5 &&& (3 : Int32))), .val (.int (p6.toInt8.toInt32)), .val (.ref ou), .unset, .unset, .unset] [(.int (p6.toInt8.toInt32)), (.int (3 : Int32)), (.ref ex), (.ref ex)])) rfl rfl (hb hby at_143)
  refine own_step st25 ?_
  have N25 := Fr.snoc X25 N24 g_ex
  have Z25 := Nat.le_trans Z24 (Keep.of_wr W25).1
  rw [own_bb] at V25
  have V_ex_25 : Arv Z h25 ex k20 .byte (14 : Int32) [(.int (p6.toInt8.toInt32)), (.int (p6.toInt8.toInt32)), (.int (p6.toInt8.toInt32)), (.int (p6.toInt8.toInt32)), (.int (0 : Int32)), (.int (0 : Int32)), (.int (0 : Int32)), (.int (0 : Int32)), (.int (0 : Int32)), (.int (0 : Int32)), (.int (0 : Int32)), (.int (0 : Int32)), (.int (0 : Int32)), (.int (0 : Int32))] (.int (0 : Int32)) := V25
  show own_Ends _ _ _ _ _ _ _ T25 (mkF m 144 #[.val (.int p1), .val (.int p2), .val (.int p3), .val (.int p4), .val (.int p5), .val (.int p6), .val (.ref bb), .val (.int (p4 &&& (3 : Int32))), .val (.int (p5 &&& (3 : Int32))), .val (.int (p6.toInt8.toInt32)), .val (.ref ou), .unset, .unset, .unset] [(.ref ex)])
  refine own_step (fun _ k => XS.dup X25.here hx rfl (hb hby at_144) rfl rfl k) ?_
  show own_Ends _ _ _ _ _ _ _ T25 (mkF m 145 #[.val (.int p1), .val (.int p2), .val (.int p3), .val (.int p4), .val (.int p5), .val (.int p6), .val (.ref bb), .val (.int (p4 &&& (3 : Int32))), .val (.int (p5 &&& (3 : Int32))), .val (.int (p6.toInt8.toInt32)), .val (.ref ou), .unset, .unset, .unset] [(.ref ex), (.ref ex)])
  refine own_step (fun _ k => XS.iconst X25.here hx rfl (hb hby at_145) k) ?_
  show own_Ends _ _ _ _ _ _ _ T25 (mkF m 146 #[.val (.int p1), .val (.int p2), .val (.int p3), .val (.int p4), .val (.int p5), .val (.int p6), .val (.ref bb), .val (.int (p4 &&& (3 : Int32))), .val (.int (p5 &&& (3 : Int32))), .val (.int (p6.toInt8.toInt32)), .val (.ref ou), .unset, .unset, .unset] [(.int (4 : Int32)), (.ref ex), (.ref ex)])
  refine own_step (fun _ k => XS.iload X25.here hx rfl (hb hby at_146) rfl k) ?_
  show own_Ends _ _ _ _ _ _ _ T25 (mkF m 148 #[.val (.int p1), .val (.int p2), .val (.int p3), .val (.int p4), .val (.int p5), .val (.int p6), .val (.ref bb), .val (.int (p4 &&& (3 : Int32))), .val (.int (p5 &&& (3 : Int32))), .val (.int (p6.toInt8.toInt32)), .val (.ref ou), .unset, .unset, .unset] [(.int (p6.toInt8.toInt32)), (.int (4 : Int32)), (.ref ex), (.ref ex)])
  obtain ⟨T26, h26, l26, X26, e26, W26, V26, st26⟩ := own_stB X25 hx hZ e25 V_ex_25 (j := (4 : Int32)) ⟨by decide, by decide⟩ 4 rfl (Nat.le_of_ble_eq_true rfl) (g := (mkF m 148 #[.val (.int p1), .val (.int p2), .val (.int p3), .val (.int p4), .val (.int p5), .val (.int p6), .val (.ref bb), .val (.int (p4 &&& (3 : Int32))), .val (.int (p5 &&& (3 : Int32))), .val (.int (p6.toInt8.toInt32)), .val (.ref ou), .unset, .unset, .unset] [(.int (p6.toInt8.toInt32)), (.int (4 : Int32)), (.ref ex), (.ref ex)])) rfl rfl (hb hby at_148)
  refine own_step st26 ?_
  have N26 := Fr.snoc X26 N25 g_ex
  have Z26 := Nat.le_trans Z25 (Keep.of_wr W26).1
  rw [own_bb] at V26
  have V_ex_26 : Arv Z h26 ex k20 .byte (14 : Int32) [(.int (p6.toInt8.toInt32)), (.int (p6.toInt8.toInt32)), (.int (p6.toInt8.toInt32)), (.int (p6.toInt8.toInt32)), (.int (p6.toInt8.toInt32)), (.int (0 : Int32)), (.int (0 : Int32)), (.int (0 : Int32)), (.int (0 : Int32)), (.int (0 : Int32)), (.int (0 : Int32)), (.int (0 : Int32)), (.int (0 : Int32)), (.int (0 : Int32))] (.int (0 : Int32)) := V26
  show own_Ends _ _ _ _ _ _ _ T26 (mkF m 149 #[.val (.int p1), .val (.int p2), .val (.int p3), .val (.int p4), .val (.int p5), .val (.int p6), .val (.ref bb), .val (.int (p4 &&& (3 : Int32))), .val (.int (p5 &&& (3 : Int32))), .val (.int (p6.toInt8.toInt32)), .val (.ref ou), .unset, .unset, .unset] [(.ref ex)])
  refine own_step (fun _ k => XS.dup X26.here hx rfl (hb hby at_149) rfl rfl k) ?_
  show own_Ends _ _ _ _ _ _ _ T26 (mkF m 150 #[.val (.int p1), .val (.int p2), .val (.int p3), .val (.int p4), .val (.int p5), .val (.int p6), .val (.ref bb), .val (.int (p4 &&& (3 : Int32))), .val (.int (p5 &&& (3 : Int32))), .val (.int (p6.toInt8.toInt32)), .val (.ref ou), .unset, .unset, .unset] [(.ref ex), (.ref ex)])
  refine own_step (fun _ k => XS.iconst X26.here hx rfl (hb hby at_150) k) ?_
  show own_Ends _ _ _ _ _ _ _ T26 (mkF m 151 #[.val (.int p1), .val (.int p2), .val (.int p3), .val (.int p4), .val (.int p5), .val (.int p6), .val (.ref bb), .val (.int (p4 &&& (3 : Int32))), .val (.int (p5 &&& (3 : Int32))), .val (.int (p6.toInt8.toInt32)), .val (.ref ou), .unset, .unset, .unset] [(.int (5 : Int32)), (.ref ex), (.ref ex)])
  refine own_step (fun _ k => XS.iload X26.here hx rfl (hb hby at_151) rfl k) ?_
  show own_Ends _ _ _ _ _ _ _ T26 (mkF m 153 #[.val (.int p1), .val (.int p2), .val (.int p3), .val (.int p4), .val (.int p5), .val (.int p6), .val (.ref bb), .val (.int (p4 &&& (3 : Int32))), .val (.int (p5 &&& (3 : Int32))), .val (.int (p6.toInt8.toInt32)), .val (.ref ou), .unset, .unset, .unset] [(.int (p6.toInt8.toInt32)), (.int (5 : Int32)), (.ref ex), (.ref ex)])
  obtain ⟨T27, h27, l27, X27, e27, W27, V27, st27⟩ := own_stB X26 hx hZ e26 V_ex_26 (j := (5 : Int32)) ⟨by decide, by decide⟩ 5 rfl (Nat.le_of_ble_eq_true rfl) (g := (mkF m 153 #[.val (.int p1), .val (.int p2), .val (.int p3), .val (.int p4), .val (.int p5), .val (.int p6), .val (.ref bb), .val (.int (p4 &&& (3 : Int32))), .val (.int (p5 &&& (3 : Int32))), .val (.int (p6.toInt8.toInt32)), .val (.ref ou), .unset, .unset, .unset] [(.int (p6.toInt8.toInt32)), (.int (5 : Int32)), (.ref ex), (.ref ex)])) rfl rfl (hb hby at_153)
  refine own_step st27 ?_
  have N27 := Fr.snoc X27 N26 g_ex
  have Z27 := Nat.le_trans Z26 (Keep.of_wr W27).1
  rw [own_bb] at V27
  have V_ex_27 : Arv Z h27 ex k20 .byte (14 : Int32) [(.int (p6.toInt8.toInt32)), (.int (p6.toInt8.toInt32)), (.int (p6.toInt8.toInt32)), (.int (p6.toInt8.toInt32)), (.int (p6.toInt8.toInt32)), (.int (p6.toInt8.toInt32)), (.int (0 : Int32)), (.int (0 : Int32)), (.int (0 : Int32)), (.int (0 : Int32)), (.int (0 : Int32)), (.int (0 : Int32)), (.int (0 : Int32)), (.int (0 : Int32))] (.int (0 : Int32)) := V27
  show own_Ends _ _ _ _ _ _ _ T27 (mkF m 154 #[.val (.int p1), .val (.int p2), .val (.int p3), .val (.int p4), .val (.int p5), .val (.int p6), .val (.ref bb), .val (.int (p4 &&& (3 : Int32))), .val (.int (p5 &&& (3 : Int32))), .val (.int (p6.toInt8.toInt32)), .val (.ref ou), .unset, .unset, .unset] [(.ref ex)])
  refine own_step (fun _ k => XS.dup X27.here hx rfl (hb hby at_154) rfl rfl k) ?_
  show own_Ends _ _ _ _ _ _ _ T27 (mkF m 155 #[.val (.int p1), .val (.int p2), .val (.int p3), .val (.int p4), .val (.int p5), .val (.int p6), .val (.ref bb), .val (.int (p4 &&& (3 : Int32))), .val (.int (p5 &&& (3 : Int32))), .val (.int (p6.toInt8.toInt32)), .val (.ref ou), .unset, .unset, .unset] [(.ref ex), (.ref ex)])
  refine own_step (fun _ k => XS.bipush X27.here hx rfl (hb hby at_155) k) ?_
  show own_Ends _ _ _ _ _ _ _ T27 (mkF m 157 #[.val (.int p1), .val (.int p2), .val (.int p3), .val (.int p4), .val (.int p5), .val (.int p6), .val (.ref bb), .val (.int (p4 &&& (3 : Int32))), .val (.int (p5 &&& (3 : Int32))), .val (.int (p6.toInt8.toInt32)), .val (.ref ou), .unset, .unset, .unset] [(.int (6 : Int32)), (.ref ex), (.ref ex)])
  refine own_step (fun _ k => XS.iload X27.here hx rfl (hb hby at_157) rfl k) ?_
  show own_Ends _ _ _ _ _ _ _ T27 (mkF m 159 #[.val (.int p1), .val (.int p2), .val (.int p3), .val (.int p4), .val (.int p5), .val (.int p6), .val (.ref bb), .val (.int (p4 &&& (3 : Int32))), .val (.int (p5 &&& (3 : Int32))), .val (.int (p6.toInt8.toInt32)), .val (.ref ou), .unset, .unset, .unset] [(.int (p6.toInt8.toInt32)), (.int (6 : Int32)), (.ref ex), (.ref ex)])
  obtain ⟨T28, h28, l28, X28, e28, W28, V28, st28⟩ := own_stB X27 hx hZ e27 V_ex_27 (j := (6 : Int32)) ⟨by decide, by decide⟩ 6 rfl (Nat.le_of_ble_eq_true rfl) (g := (mkF m 159 #[.val (.int p1), .val (.int p2), .val (.int p3), .val (.int p4), .val (.int p5), .val (.int p6), .val (.ref bb), .val (.int (p4 &&& (3 : Int32))), .val (.int (p5 &&& (3 : Int32))), .val (.int (p6.toInt8.toInt32)), .val (.ref ou), .unset, .unset, .unset] [(.int (p6.toInt8.toInt32)), (.int (6 : Int32)), (.ref ex), (.ref ex)])) rfl rfl (hb hby at_159)
  refine own_step st28 ?_
  have N28 := Fr.snoc X28 N27 g_ex
  have Z28 := Nat.le_trans Z27 (Keep.of_wr W28).1
  rw [own_bb] at V28
  have V_ex_28 : Arv Z h28 ex k20 .byte (14 : Int32) [(.int (p6.toInt8.toInt32)), (.int (p6.toInt8.toInt32)), (.int (p6.toInt8.toInt32)), (.int (p6.toInt8.toInt32)), (.int (p6.toInt8.toInt32)), (.int (p6.toInt8.toInt32)), (.int (p6.toInt8.toInt32)), (.int (0 : Int32)), (.int (0 : Int32)), (.int (0 : Int32)), (.int (0 : Int32)), (.int (0 : Int32)), (.int (0 : Int32)), (.int (0 : Int32))] (.int (0 : Int32)) := V28
  show own_Ends _ _ _ _ _ _ _ T28 (mkF m 160 #[.val (.int p1), .val (.int p2), .val (.int p3), .val (.int p4), .val (.int p5), .val (.int p6), .val (.ref bb), .val (.int (p4 &&& (3 : Int32))), .val (.int (p5 &&& (3 : Int32))), .val (.int (p6.toInt8.toInt32)), .val (.ref ou), .unset, .unset, .unset] [(.ref ex)])
  refine own_step (fun _ k => XS.dup X28.here hx rfl (hb hby at_160) rfl rfl k) ?_
  show own_Ends _ _ _ _ _ _ _ T28 (mkF m 161 #[.val (.int p1), .val (.int p2), .val (.int p3), .val (.int p4), .val (.int p5), .val (.int p6), .val (.ref bb), .val (.int (p4 &&& (3 : Int32))), .val (.int (p5 &&& (3 : Int32))), .val (.int (p6.toInt8.toInt32)), .val (.ref ou), .unset, .unset, .unset] [(.ref ex), (.ref ex)])
  refine own_step (fun _ k => XS.bipush X28.here hx rfl (hb hby at_161) k) ?_
  show own_Ends _ _ _ _ _ _ _ T28 (mkF m 163 #[.val (.int p1), .val (.int p2), .val (.int p3), .val (.int p4), .val (.int p5), .val (.int p6), .val (.ref bb), .val (.int (p4 &&& (3 : Int32))), .val (.int (p5 &&& (3 : Int32))), .val (.int (p6.toInt8.toInt32)), .val (.ref ou), .unset, .unset, .unset] [(.int (7 : Int32)), (.ref ex), (.ref ex)])
  refine own_step (fun _ k => XS.iload X28.here hx rfl (hb hby at_163) rfl k) ?_
  show own_Ends _ _ _ _ _ _ _ T28 (mkF m 165 #[.val (.int p1), .val (.int p2), .val (.int p3), .val (.int p4), .val (.int p5), .val (.int p6), .val (.ref bb), .val (.int (p4 &&& (3 : Int32))), .val (.int (p5 &&& (3 : Int32))), .val (.int (p6.toInt8.toInt32)), .val (.ref ou), .unset, .unset, .unset] [(.int (p6.toInt8.toInt32)), (.int (7 : Int32)), (.ref ex), (.ref ex)])
  obtain ⟨T29, h29, l29, X29, e29, W29, V29, st29⟩ := own_stB X28 hx hZ e28 V_ex_28 (j := (7 : Int32)) ⟨by decide, by decide⟩ 7 rfl (Nat.le_of_ble_eq_true rfl) (g := (mkF m 165 #[.val (.int p1), .val (.int p2), .val (.int p3), .val (.int p4), .val (.int p5), .val (.int p6), .val (.ref bb), .val (.int (p4 &&& (3 : Int32))), .val (.int (p5 &&& (3 : Int32))), .val (.int (p6.toInt8.toInt32)), .val (.ref ou), .unset, .unset, .unset] [(.int (p6.toInt8.toInt32)), (.int (7 : Int32)), (.ref ex), (.ref ex)])) rfl rfl (hb hby at_165)
  refine own_step st29 ?_
  have N29 := Fr.snoc X29 N28 g_ex
  have Z29 := Nat.le_trans Z28 (Keep.of_wr W29).1
  rw [own_bb] at V29
  have V_ex_29 : Arv Z h29 ex k20 .byte (14 : Int32) [(.int (p6.toInt8.toInt32)), (.int (p6.toInt8.toInt32)), (.int (p6.toInt8.toInt32)), (.int (p6.toInt8.toInt32)), (.int (p6.toInt8.toInt32)), (.int (p6.toInt8.toInt32)), (.int (p6.toInt8.toInt32)), (.int (p6.toInt8.toInt32)), (.int (0 : Int32)), (.int (0 : Int32)), (.int (0 : Int32)), (.int (0 : Int32)), (.int (0 : Int32)), (.int (0 : Int32))] (.int (0 : Int32)) := V29
  show own_Ends _ _ _ _ _ _ _ T29 (mkF m 166 #[.val (.int p1), .val (.int p2), .val (.int p3), .val (.int p4), .val (.int p5), .val (.int p6), .val (.ref bb), .val (.int (p4 &&& (3 : Int32))), .val (.int (p5 &&& (3 : Int32))), .val (.int (p6.toInt8.toInt32)), .val (.ref ou), .unset, .unset, .unset] [(.ref ex)])
  refine own_step (fun _ k => XS.dup X29.here hx rfl (hb hby at_166) rfl rfl k) ?_
  show own_Ends _ _ _ _ _ _ _ T29 (mkF m 167 #[.val (.int p1), .val (.int p2), .val (.int p3), .val (.int p4), .val (.int p5), .val (.int p6), .val (.ref bb), .val (.int (p4 &&& (3 : Int32))), .val (.int (p5 &&& (3 : Int32))), .val (.int (p6.toInt8.toInt32)), .val (.ref ou), .unset, .unset, .unset] [(.ref ex), (.ref ex)])
  refine own_step (fun _ k => XS.bipush X29.here hx rfl (hb hby at_167) k) ?_
  show own_Ends _ _ _ _ _ _ _ T29 (mkF m 169 #[.val (.int p1), .val (.int p2), .val (.int p3), .val (.int p4), .val (.int p5), .val (.int p6), .val (.ref bb), .val (.int (p4 &&& (3 : Int32))), .val (.int (p5 &&& (3 : Int32))), .val (.int (p6.toInt8.toInt32)), .val (.ref ou), .unset, .unset, .unset] [(.int (8 : Int32)), (.ref ex), (.ref ex)])
  refine own_step (fun _ k => XS.iload X29.here hx rfl (hb hby at_169) rfl k) ?_
  show own_Ends _ _ _ _ _ _ _ T29 (mkF m 171 #[.val (.int p1), .val (.int p2), .val (.int p3), .val (.int p4), .val (.int p5), .val (.int p6), .val (.ref bb), .val (.int (p4 &&& (3 : Int32))), .val (.int (p5 &&& (3 : Int32))), .val (.int (p6.toInt8.toInt32)), .val (.ref ou), .unset, .unset, .unset] [(.int (p6.toInt8.toInt32)), (.int (8 : Int32)), (.ref ex), (.ref ex)])
  obtain ⟨T30, h30, l30, X30, e30, W30, V30, st30⟩ := own_stB X29 hx hZ e29 V_ex_29 (j := (8 : Int32)) ⟨by decide, by decide⟩ 8 rfl (Nat.le_of_ble_eq_true rfl) (g := (mkF m 171 #[.val (.int p1), .val (.int p2), .val (.int p3), .val (.int p4), .val (.int p5), .val (.int p6), .val (.ref bb), .val (.int (p4 &&& (3 : Int32))), .val (.int (p5 &&& (3 : Int32))), .val (.int (p6.toInt8.toInt32)), .val (.ref ou), .unset, .unset, .unset] [(.int (p6.toInt8.toInt32)), (.int (8 : Int32)), (.ref ex), (.ref ex)])) rfl rfl (hb hby at_171)
  refine own_step st30 ?_
  have N30 := Fr.snoc X30 N29 g_ex
  have Z30 := Nat.le_trans Z29 (Keep.of_wr W30).1
  rw [own_bb] at V30
  have V_ex_30 : Arv Z h30 ex k20 .byte (14 : Int32) [(.int (p6.toInt8.toInt32)), (.int (p6.toInt8.toInt32)), (.int (p6.toInt8.toInt32)), (.int (p6.toInt8.toInt32)), (.int (p6.toInt8.toInt32)), (.int (p6.toInt8.toInt32)), (.int (p6.toInt8.toInt32)), (.int (p6.toInt8.toInt32)), (.int (p6.toInt8.toInt32)), (.int (0 : Int32)), (.int (0 : Int32)), (.int (0 : Int32)), (.int (0 : Int32)), (.int (0 : Int32))] (.int (0 : Int32)) := V30
  show own_Ends _ _ _ _ _ _ _ T30 (mkF m 172 #[.val (.int p1), .val (.int p2), .val (.int p3), .val (.int p4), .val (.int p5), .val (.int p6), .val (.ref bb), .val (.int (p4 &&& (3 : Int32))), .val (.int (p5 &&& (3 : Int32))), .val (.int (p6.toInt8.toInt32)), .val (.ref ou), .unset, .unset, .unset] [(.ref ex)])
  refine own_step (fun _ k => XS.dup X30.here hx rfl (hb hby at_172) rfl rfl k) ?_
  show own_Ends _ _ _ _ _ _ _ T30 (mkF m 173 #[.val (.int p1), .val (.int p2), .val (.int p3), .val (.int p4), .val (.int p5), .val (.int p6), .val (.ref bb), .val (.int (p4 &&& (3 : Int32))), .val (.int (p5 &&& (3 : Int32))), .val (.int (p6.toInt8.toInt32)), .val (.ref ou), .unset, .unset, .unset] [(.ref ex), (.ref ex)])
  refine own_step (fun _ k => XS.bipush X30.here hx rfl (hb hby at_173) k) ?_
  show own_Ends _ _ _ _ _ _ _ T30 (mkF m 175 #[.val (.int p1), .val (.int p2), .val (.int p3), .val (.int p4), .val (.int p5), .val (.int p6), .val (.ref bb), .val (.int (p4 &&& (3 : Int32))), .val (.int (p5 &&& (3 : Int32))), .val (.int (p6.toInt8.toInt32)), .val (.ref ou), .unset, .unset, .unset] [(.int (9 : Int32)), (.ref ex), (.ref ex)])
  refine own_step (fun _ k => XS.iload X30.here hx rfl (hb hby at_175) rfl k) ?_
  show own_Ends _ _ _ _ _ _ _ T30 (mkF m 177 #[.val (.int p1), .val (.int p2), .val (.int p3), .val (.int p4), .val (.int p5), .val (.int p6), .val (.ref bb), .val (.int (p4 &&& (3 : Int32))), .val (.int (p5 &&& (3 : Int32))), .val (.int (p6.toInt8.toInt32)), .val (.ref ou), .unset, .unset, .unset] [(.int (p6.toInt8.toInt32)), (.int (9 : Int32)), (.ref ex), (.ref ex)])
  obtain ⟨T31, h31, l31, X31, e31, W31, V31, st31⟩ := own_stB X30 hx hZ e30 V_ex_30 (j := (9 : Int32)) ⟨by decide, by decide⟩ 9 rfl (Nat.le_of_ble_eq_true rfl) (g := (mkF m 177 #[.val (.int p1), .val (.int p2), .val (.int p3), .val (.int p4), .val (.int p5), .val (.int p6), .val (.ref bb), .val (.int (p4 &&& (3 : Int32))), .val (.int (p5 &&& (3 : Int32))), .val (.int (p6.toInt8.toInt32)), .val (.ref ou), .unset, .unset, .unset] [(.int (p6.toInt8.toInt32)), (.int (9 : Int32)), (.ref ex), (.ref ex)])) rfl rfl (hb hby at_177)
  refine own_step st31 ?_
  have N31 := Fr.snoc X31 N30 g_ex
  have Z31 := Nat.le_trans Z30 (Keep.of_wr W31).1
  rw [own_bb] at V31
  have V_ex_31 : Arv Z h31 ex k20 .byte (14 : Int32) [(.int (p6.toInt8.toInt32)), (.int (p6.toInt8.toInt32)), (.int (p6.toInt8.toInt32)), (.int (p6.toInt8.toInt32)), (.int (p6.toInt8.toInt32)), (.int (p6.toInt8.toInt32)), (.int (p6.toInt8.toInt32)), (.int (p6.toInt8.toInt32)), (.int (p6.toInt8.toInt32)), (.int (p6.toInt8.toInt32)), (.int (0 : Int32)), (.int (0 : Int32)), (.int (0 : Int32)), (.int (0 : Int32))] (.int (0 : Int32)) := V31
  show own_Ends _ _ _ _ _ _ _ T31 (mkF m 178 #[.val (.int p1), .val (.int p2), .val (.int p3), .val (.int p4), .val (.int p5), .val (.int p6), .val (.ref bb), .val (.int (p4 &&& (3 : Int32))), .val (.int (p5 &&& (3 : Int32))), .val (.int (p6.toInt8.toInt32)), .val (.ref ou), .unset, .unset, .unset] [(.ref ex)])
  refine own_step (fun _ k => XS.dup X31.here hx rfl (hb hby at_178) rfl rfl k) ?_
  show own_Ends _ _ _ _ _ _ _ T31 (mkF m 179 #[.val (.int p1), .val (.int p2), .val (.int p3), .val (.int p4), .val (.int p5), .val (.int p6), .val (.ref bb), .val (.int (p4 &&& (3 : Int32))), .val (.int (p5 &&& (3 : Int32))), .val (.int (p6.toInt8.toInt32)), .val (.ref ou), .unset, .unset, .unset] [(.ref ex), (.ref ex)])
  refine own_step (fun _ k => XS.bipush X31.here hx rfl (hb hby at_179) k) ?_
  show own_Ends _ _ _ _ _ _ _ T31 (mkF m 181 #[.val (.int p1), .val (.int p2), .val (.int p3), .val (.int p4), .val (.int p5), .val (.int p6), .val (.ref bb), .val (.int (p4 &&& (3 : Int32))), .val (.int (p5 &&& (3 : Int32))), .val (.int (p6.toInt8.toInt32)), .val (.ref ou), .unset, .unset, .unset] [(.int (10 : Int32)), (.ref ex), (.ref ex)])
  refine own_step (fun _ k => XS.iload X31.here hx rfl (hb hby at_181) rfl k) ?_
  show own_Ends _ _ _ _ _ _ _ T31 (mkF m 183 #[.val (.int p1), .val (.int p2), .val (.int p3), .val (.int p4), .val (.int p5), .val (.int p6), .val (.ref bb), .val (.int (p4 &&& (3 : Int32))), .val (.int (p5 &&& (3 : Int32))), .val (.int (p6.toInt8.toInt32)), .val (.ref ou), .unset, .unset, .unset] [(.int (p6.toInt8.toInt32)), (.int (10 : Int32)), (.ref ex), (.ref ex)])
  obtain ⟨T32, h32, l32, X32, e32, W32, V32, st32⟩ := own_stB X31 hx hZ e31 V_ex_31 (j := (10 : Int32)) ⟨by decide, by decide⟩ 10 rfl (Nat.le_of_ble_eq_true rfl) (g := (mkF m 183 #[.val (.int p1), .val (.int p2), .val (.int p3), .val (.int p4), .val (.int p5), .val (.int p6), .val (.ref bb), .val (.int (p4 &&& (3 : Int32))), .val (.int (p5 &&& (3 : Int32))), .val (.int (p6.toInt8.toInt32)), .val (.ref ou), .unset, .unset, .unset] [(.int (p6.toInt8.toInt32)), (.int (10 : Int32)), (.ref ex), (.ref ex)])) rfl rfl (hb hby at_183)
  refine own_step st32 ?_
  have N32 := Fr.snoc X32 N31 g_ex
  have Z32 := Nat.le_trans Z31 (Keep.of_wr W32).1
  rw [own_bb] at V32
  have V_ex_32 : Arv Z h32 ex k20 .byte (14 : Int32) [(.int (p6.toInt8.toInt32)), (.int (p6.toInt8.toInt32)), (.int (p6.toInt8.toInt32)), (.int (p6.toInt8.toInt32)), (.int (p6.toInt8.toInt32)), (.int (p6.toInt8.toInt32)), (.int (p6.toInt8.toInt32)), (.int (p6.toInt8.toInt32)), (.int (p6.toInt8.toInt32)), (.int (p6.toInt8.toInt32)), (.int (p6.toInt8.toInt32)), (.int (0 : Int32)), (.int (0 : Int32)), (.int (0 : Int32))] (.int (0 : Int32)) := V32
  show own_Ends _ _ _ _ _ _ _ T32 (mkF m 184 #[.val (.int p1), .val (.int p2), .val (.int p3), .val (.int p4), .val (.int p5), .val (.int p6), .val (.ref bb), .val (.int (p4 &&& (3 : Int32))), .val (.int (p5 &&& (3 : Int32))), .val (.int (p6.toInt8.toInt32)), .val (.ref ou), .unset, .unset, .unset] [(.ref ex)])
  refine own_step (fun _ k => XS.dup X32.here hx rfl (hb hby at_184) rfl rfl k) ?_
  show own_Ends _ _ _ _ _ _ _ T32 (mkF m 185 #[.val (.int p1), .val (.int p2), .val (.int p3), .val (.int p4), .val (.int p5), .val (.int p6), .val (.ref bb), .val (.int (p4 &&& (3 : Int32))), .val (.int (p5 &&& (3 : Int32))), .val (.int (p6.toInt8.toInt32)), .val (.ref ou), .unset, .unset, .unset] [(.ref ex), (.ref ex)])
  refine own_step (fun _ k => XS.bipush X32.here hx rfl (hb hby at_185) k) ?_
  show own_Ends _ _ _ _ _ _ _ T32 (mkF m 187 #[.val (.int p1), .val (.int p2), .val (.int p3), .val (.int p4), .val (.int p5), .val (.int p6), .val (.ref bb), .val (.int (p4 &&& (3 : Int32))), .val (.int (p5 &&& (3 : Int32))), .val (.int (p6.toInt8.toInt32)), .val (.ref ou), .unset, .unset, .unset] [(.int (11 : Int32)), (.ref ex), (.ref ex)])
  refine own_step (fun _ k => XS.iload X32.here hx rfl (hb hby at_187) rfl k) ?_
  show own_Ends _ _ _ _ _ _ _ T32 (mkF m 189 #[.val (.int p1), .val (.int p2), .val (.int p3), .val (.int p4), .val (.int p5), .val (.int p6), .val (.ref bb), .val (.int (p4 &&& (3 : Int32))), .val (.int (p5 &&& (3 : Int32))), .val (.int (p6.toInt8.toInt32)), .val (.ref ou), .unset, .unset, .unset] [(.int (p6.toInt8.toInt32)), (.int (11 : Int32)), (.ref ex), (.ref ex)])
  obtain ⟨T33, h33, l33, X33, e33, W33, V33, st33⟩ := own_stB X32 hx hZ e32 V_ex_32 (j := (11 : Int32)) ⟨by decide, by decide⟩ 11 rfl (Nat.le_of_ble_eq_true rfl) (g := (mkF m 189 #[.val (.int p1), .val (.int p2), .val (.int p3), .val (.int p4), .val (.int p5), .val (.int p6), .val (.ref bb), .val (.int (p4 &&& (3 : Int32))), .val (.int (p5 &&& (3 : Int32))), .val (.int (p6.toInt8.toInt32)), .val (.ref ou), .unset, .unset, .unset] [(.int (p6.toInt8.toInt32)), (.int (11 : Int32)), (.ref ex), (.ref ex)])) rfl rfl (hb hby at_189)
  refine own_step st33 ?_
  have N33 := Fr.snoc X33 N32 g_ex
  have Z33 := Nat.le_trans Z32 (Keep.of_wr W33).1
  rw [own_bb] at V33
  have V_ex_33 : Arv Z h33 ex k20 .byte (14 : Int32) [(.int (p6.toInt8.toInt32)), (.int (p6.toInt8.toInt32)), (.int (p6.toInt8.toInt32)), (.int (p6.toInt8.toInt32)), (.int (p6.toInt8.toInt32)), (.int (p6.toInt8.toInt32)), (.int (p6.toInt8.toInt32)), (.int (p6.toInt8.toInt32)), (.int (p6.toInt8.toInt32)), (.int (p6.toInt8.toInt32)), (.int (p6.toInt8.toInt32)), (.int (p6.toInt8.toInt32)), (.int (0 : Int32)), (.int (0 : Int32))] (.int (0 : Int32)) := V33
  show own_Ends _ _ _ _ _ _ _ T33 (mkF m 190 #[.val (.int p1), .val (.int p2), .val (.int p3), .val (.int p4), .val (.int p5), .val (.int p6), .val (.ref bb), .val (.int (p4 &&& (3 : Int32))), .val (.int (p5 &&& (3 : Int32))), .val (.int (p6.toInt8.toInt32)), .val (.ref ou), .unset, .unset, .unset] [(.ref ex)])
  refine own_step (fun _ k => XS.dup X33.here hx rfl (hb hby at_190) rfl rfl k) ?_
  show own_Ends _ _ _ _ _ _ _ T33 (mkF m 191 #[.val (.int p1), .val (.int p2), .val (.int p3), .val (.int p4), .val (.int p5), .val (.int p6), .val (.ref bb), .val (.int (p4 &&& (3 : Int32))), .val (.int (p5 &&& (3 : Int32))), .val (.int (p6.toInt8.toInt32)), .val (.ref ou), .unset, .unset, .unset] [(.ref ex), (.ref ex)])
  refine own_step (fun _ k => XS.bipush X33.here hx rfl (hb hby at_191) k) ?_
  show own_Ends _ _ _ _ _ _ _ T33 (mkF m 193 #[.val (.int p1), .val (.int p2), .val (.int p3), .val (.int p4), .val (.int p5), .val (.int p6), .val (.ref bb), .val (.int (p4 &&& (3 : Int32))), .val (.int (p5 &&& (3 : Int32))), .val (.int (p6.toInt8.toInt32)), .val (.ref ou), .unset, .unset, .unset] [(.int (12 : Int32)), (.ref ex), (.ref ex)])
  refine own_step (fun _ k => XS.iload X33.here hx rfl (hb hby at_193) rfl k) ?_
  show own_Ends _ _ _ _ _ _ _ T33 (mkF m 195 #[.val (.int p1), .val (.int p2), .val (.int p3), .val (.int p4), .val (.int p5), .val (.int p6), .val (.ref bb), .val (.int (p4 &&& (3 : Int32))), .val (.int (p5 &&& (3 : Int32))), .val (.int (p6.toInt8.toInt32)), .val (.ref ou), .unset, .unset, .unset] [(.int (p6.toInt8.toInt32)), (.int (12 : Int32)), (.ref ex), (.ref ex)])
  obtain ⟨T34, h34, l34, X34, e34, W34, V34, st34⟩ := own_stB X33 hx hZ e33 V_ex_33 (j := (12 : Int32)) ⟨by decide, by decide⟩ 12 rfl (Nat.le_of_ble_eq_true rfl) (g := (mkF m 195 #[.val (.int p1), .val (.int p2), .val (.int p3), .val (.int p4), .val (.int p5), .val (.int p6), .val (.ref bb), .val (.int (p4 &&& (3 : Int32))), .val (.int (p5 &&& (3 : Int32))), .val (.int (p6.toInt8.toInt32)), .val (.ref ou), .unset, .unset, .unset] [(.int (p6.toInt8.toInt32)), (.int (12 : Int32)), (.ref ex), (.ref ex)])) rfl rfl (hb hby at_195)
  refine own_step st34 ?_
  have N34 := Fr.snoc X34 N33 g_ex
  have Z34 := Nat.le_trans Z33 (Keep.of_wr W34).1
  rw [own_bb] at V34
  have V_ex_34 : Arv Z h34 ex k20 .byte (14 : Int32) [(.int (p6.toInt8.toInt32)), (.int (p6.toInt8.toInt32)), (.int (p6.toInt8.toInt32)), (.int (p6.toInt8.toInt32)), (.int (p6.toInt8.toInt32)), (.int (p6.toInt8.toInt32)), (.int (p6.toInt8.toInt32)), (.int (p6.toInt8.toInt32)), (.int (p6.toInt8.toInt32)), (.int (p6.toInt8.toInt32)), (.int (p6.toInt8.toInt32)), (.int (p6.toInt8.toInt32)), (.int (p6.toInt8.toInt32)), (.int (0 : Int32))] (.int (0 : Int32)) := V34
  show own_Ends _ _ _ _ _ _ _ T34 (mkF m 196 #[.val (.int p1), .val (.int p2), .val (.int p3), .val (.int p4), .val (.int p5), .val (.int p6), .val (.ref bb), .val (.int (p4 &&& (3 : Int32))), .val (.int (p5 &&& (3 : Int32))), .val (.int (p6.toInt8.toInt32)), .val (.ref ou), .unset, .unset, .unset] [(.ref ex)])
  refine own_step (fun _ k => XS.dup X34.here hx rfl (hb hby at_196) rfl rfl k) ?_
  show own_Ends _ _ _ _ _ _ _ T34 (mkF m 197 #[.val (.int p1), .val (.int p2), .val (.int p3), .val (.int p4), .val (.int p5), .val (.int p6), .val (.ref bb), .val (.int (p4 &&& (3 : Int32))), .val (.int (p5 &&& (3 : Int32))), .val (.int (p6.toInt8.toInt32)), .val (.ref ou), .unset, .unset, .unset] [(.ref ex), (.ref ex)])
  refine own_step (fun _ k => XS.bipush X34.here hx rfl (hb hby at_197) k) ?_
  show own_Ends _ _ _ _ _ _ _ T34 (mkF m 199 #[.val (.int p1), .val (.int p2), .val (.int p3), .val (.int p4), .val (.int p5), .val (.int p6), .val (.ref bb), .val (.int (p4 &&& (3 : Int32))), .val (.int (p5 &&& (3 : Int32))), .val (.int (p6.toInt8.toInt32)), .val (.ref ou), .unset, .unset, .unset] [(.int (13 : Int32)), (.ref ex), (.ref ex)])
  refine own_step (fun _ k => XS.iload X34.here hx rfl (hb hby at_199) rfl k) ?_
  show own_Ends _ _ _ _ _ _ _ T34 (mkF m 201 #[.val (.int p1), .val (.int p2), .val (.int p3), .val (.int p4), .val (.int p5), .val (.int p6), .val (.ref bb), .val (.int (p4 &&& (3 : Int32))), .val (.int (p5 &&& (3 : Int32))), .val (.int (p6.toInt8.toInt32)), .val (.ref ou), .unset, .unset, .unset] [(.int (p6.toInt8.toInt32)), (.int (13 : Int32)), (.ref ex), (.ref ex)])
  obtain ⟨T35, h35, l35, X35, e35, W35, V35, st35⟩ := own_stB X34 hx hZ e34 V_ex_34 (j := (13 : Int32)) ⟨by decide, by decide⟩ 13 rfl (Nat.le_of_ble_eq_true rfl) (g := (mkF m 201 #[.val (.int p1), .val (.int p2), .val (.int p3), .val (.int p4), .val (.int p5), .val (.int p6), .val (.ref bb), .val (.int (p4 &&& (3 : Int32))), .val (.int (p5 &&& (3 : Int32))), .val (.int (p6.toInt8.toInt32)), .val (.ref ou), .unset, .unset, .unset] [(.int (p6.toInt8.toInt32)), (.int (13 : Int32)), (.ref ex), (.ref ex)])) rfl rfl (hb hby at_201)
  refine own_step st35 ?_
  have N35 := Fr.snoc X35 N34 g_ex
  have Z35 := Nat.le_trans Z34 (Keep.of_wr W35).1
  rw [own_bb] at V35
  have V_ex_35 : Arv Z h35 ex k20 .byte (14 : Int32) [(.int (p6.toInt8.toInt32)), (.int (p6.toInt8.toInt32)), (.int (p6.toInt8.toInt32)), (.int (p6.toInt8.toInt32)), (.int (p6.toInt8.toInt32)), (.int (p6.toInt8.toInt32)), (.int (p6.toInt8.toInt32)), (.int (p6.toInt8.toInt32)), (.int (p6.toInt8.toInt32)), (.int (p6.toInt8.toInt32)), (.int (p6.toInt8.toInt32)), (.int (p6.toInt8.toInt32)), (.int (p6.toInt8.toInt32)), (.int (p6.toInt8.toInt32))] (.int (0 : Int32)) := V35
  show own_Ends _ _ _ _ _ _ _ T35 (mkF m 202 #[.val (.int p1), .val (.int p2), .val (.int p3), .val (.int p4), .val (.int p5), .val (.int p6), .val (.ref bb), .val (.int (p4 &&& (3 : Int32))), .val (.int (p5 &&& (3 : Int32))), .val (.int (p6.toInt8.toInt32)), .val (.ref ou), .unset, .unset, .unset] [(.ref ex)])
  refine own_step (fun _ k => XS.astore X35.here hx rfl (hb hby at_202) rfl rfl (l' := #[.val (.int p1), .val (.int p2), .val (.int p3), .val (.int p4), .val (.int p5), .val (.int p6), .val (.ref bb), .val (.int (p4 &&& (3 : Int32))), .val (.int (p5 &&& (3 : Int32))), .val (.int (p6.toInt8.toInt32)), .val (.ref ou), .val (.ref ex), .unset, .unset]) rfl k) ?_
  show own_Ends _ _ _ _ _ _ _ T35 (mkF m 204 #[.val (.int p1), .val (.int p2), .val (.int p3), .val (.int p4), .val (.int p5), .val (.int p6), .val (.ref bb), .val (.int (p4 &&& (3 : Int32))), .val (.int (p5 &&& (3 : Int32))), .val (.int (p6.toInt8.toInt32)), .val (.ref ou), .val (.ref ex), .unset, .unset] [])
  have Q36 := (((((((((((((((Q21.ext E20).other W22 ne_bb_ex).other W23 ne_bb_ex).other W24 ne_bb_ex).other W25 ne_bb_ex).other W26 ne_bb_ex).other W27 ne_bb_ex).other W28 ne_bb_ex).other W29 ne_bb_ex).other W30 ne_bb_ex).other W31 ne_bb_ex).other W32 ne_bb_ex).other W33 ne_bb_ex).other W34 ne_bb_ex).other W35 ne_bb_ex)
  have U_bb : Arv Z h35 bb k1 .byte (3 : Int32) ([(p1.toInt8.toInt32), (p2.toInt8.toInt32), (p3.toInt8.toInt32)].map Value.int) (.int (0 : Int32)) := Q36
  have Q37 := (((((((((((((((V_ou_19.ext E20).other W22 ne_ou_ex).other W23 ne_ou_ex).other W24 ne_ou_ex).other W25 ne_ou_ex).other W26 ne_ou_ex).other W27 ne_ou_ex).other W28 ne_ou_ex).other W29 ne_ou_ex).other W30 ne_ou_ex).other W31 ne_ou_ex).other W32 ne_ou_ex).other W33 ne_ou_ex).other W34 ne_ou_ex).other W35 ne_ou_ex)
  have U_ou : Arv Z h35 ou k5 .byte (14 : Int32) ((List.replicate 14 (p6.toInt8.toInt32)).map Value.int) (.int (0 : Int32)) := Q37
  have U_ex : Arv Z h35 ex k20 .byte (14 : Int32) ((own_wr (List.replicate 14 (p6.toInt8.toInt32)) (own_A p5) (own_all (fun t => List.getD [(p1.toInt8.toInt32), (p2.toInt8.toInt32), (p3.toInt8.toInt32)] t (0 : Int32)) 0)).map Value.int) (.int (0 : Int32)) := V_ex_35
  rcases own_four p4 with hq | hq | hq | hq
  · rw [hq]
    show own_Ends _ _ _ _ _ _ _ T35 (mkF m 204 #[.val (.int p1), .val (.int p2), .val (.int p3), .val (.int p4), .val (.int p5), .val (.int p6), .val (.ref bb), .val (.int (0 : Int32)), .val (.int (p5 &&& (3 : Int32))), .val (.int (p6.toInt8.toInt32)), .val (.ref ou), .val (.ref ex), .unset, .unset] [])
    have hAr := (own_Ar p5).2
    have hz : (p5 &&& (3 : Int32)).toInt = (own_A p5 + (own_all (fun t => List.getD [(p1.toInt8.toInt32), (p2.toInt8.toInt32), (p3.toInt8.toInt32)] t (0 : Int32)) 0).length : Nat) := (own_Ar p5).1
    refine own_step (fun _ k => XS.iload X35.here hx rfl (hb hby at_204) rfl k) ?_
    show own_Ends _ _ _ _ _ _ _ T35 (mkF m 206 #[.val (.int p1), .val (.int p2), .val (.int p3), .val (.int p4), .val (.int p5), .val (.int p6), .val (.ref bb), .val (.int (0 : Int32)), .val (.int (p5 &&& (3 : Int32))), .val (.int (p6.toInt8.toInt32)), .val (.ref ou), .val (.ref ex), .unset, .unset] [(.int (p5 &&& (3 : Int32)))])
    refine own_step (fun _ k => XS.istore X35.here hx rfl (hb hby at_206) rfl (l' := #[.val (.int p1), .val (.int p2), .val (.int p3), .val (.int p4), .val (.int p5), .val (.int p6), .val (.ref bb), .val (.int (0 : Int32)), .val (.int (p5 &&& (3 : Int32))), .val (.int (p6.toInt8.toInt32)), .val (.ref ou), .val (.ref ex), .val (.int (p5 &&& (3 : Int32))), .unset]) rfl k) ?_
    show own_Ends _ _ _ _ _ _ _ T35 (mkF m 208 #[.val (.int p1), .val (.int p2), .val (.int p3), .val (.int p4), .val (.int p5), .val (.int p6), .val (.ref bb), .val (.int (0 : Int32)), .val (.int (p5 &&& (3 : Int32))), .val (.int (p6.toInt8.toInt32)), .val (.ref ou), .val (.ref ex), .val (.int (p5 &&& (3 : Int32))), .unset] [])
    refine own_step (fun _ k => XS.iload X35.here hx rfl (hb hby at_208) rfl k) ?_
    show own_Ends _ _ _ _ _ _ _ T35 (mkF m 210 #[.val (.int p1), .val (.int p2), .val (.int p3), .val (.int p4), .val (.int p5), .val (.int p6), .val (.ref bb), .val (.int (0 : Int32)), .val (.int (p5 &&& (3 : Int32))), .val (.int (p6.toInt8.toInt32)), .val (.ref ou), .val (.ref ex), .val (.int (p5 &&& (3 : Int32))), .unset] [(.int (0 : Int32))])
    refine own_step (fun _ k => XS.ifYes X35.here hx rfl (pc0 := 210) (pc' := 226) rfl (hb hby at_210) rfl ((if0 _ _).trans (flt (by decide : ¬ ((0 : Int32) < (0 : Int32)))).2.2.2) (by decide) (by decide) k) ?_
    show own_Ends _ _ _ _ _ _ _ T35 (mkF m 226 #[.val (.int p1), .val (.int p2), .val (.int p3), .val (.int p4), .val (.int p5), .val (.int p6), .val (.ref bb), .val (.int (0 : Int32)), .val (.int (p5 &&& (3 : Int32))), .val (.int (p6.toInt8.toInt32)), .val (.ref ou), .val (.ref ex), .val (.int (p5 &&& (3 : Int32))), .unset] [])
    refine own_step (fun _ k => XS.iload X35.here hx rfl (hb hby at_226) rfl k) ?_
    show own_Ends _ _ _ _ _ _ _ T35 (mkF m 228 #[.val (.int p1), .val (.int p2), .val (.int p3), .val (.int p4), .val (.int p5), .val (.int p6), .val (.ref bb), .val (.int (0 : Int32)), .val (.int (p5 &&& (3 : Int32))), .val (.int (p6.toInt8.toInt32)), .val (.ref ou), .val (.ref ex), .val (.int (p5 &&& (3 : Int32))), .unset] [(.int (0 : Int32))])
    refine own_step (fun _ k => XS.iconst X35.here hx rfl (hb hby at_228) k) ?_
    show own_Ends _ _ _ _ _ _ _ T35 (mkF m 229 #[.val (.int p1), .val (.int p2), .val (.int p3), .val (.int p4), .val (.int p5), .val (.int p6), .val (.ref bb), .val (.int (0 : Int32)), .val (.int (p5 &&& (3 : Int32))), .val (.int (p6.toInt8.toInt32)), .val (.ref ou), .val (.ref ex), .val (.int (p5 &&& (3 : Int32))), .unset] [(.int (1 : Int32)), (.int (0 : Int32))])
    refine own_step (fun _ k => XS.icmpYes X35.here hx rfl (pc0 := 229) (pc' := 245) rfl (hb hby at_229) rfl (flt (by decide : ¬ ((1 : Int32) < (0 : Int32)))).2.2.2 (by decide) (by decide) k) ?_
    show own_Ends _ _ _ _ _ _ _ T35 (mkF m 245 #[.val (.int p1), .val (.int p2), .val (.int p3), .val (.int p4), .val (.int p5), .val (.int p6), .val (.ref bb), .val (.int (0 : Int32)), .val (.int (p5 &&& (3 : Int32))), .val (.int (p6.toInt8.toInt32)), .val (.ref ou), .val (.ref ex), .val (.int (p5 &&& (3 : Int32))), .unset] [])
    refine own_step (fun _ k => XS.iload X35.here hx rfl (hb hby at_245) rfl k) ?_
    show own_Ends _ _ _ _ _ _ _ T35 (mkF m 247 #[.val (.int p1), .val (.int p2), .val (.int p3), .val (.int p4), .val (.int p5), .val (.int p6), .val (.ref bb), .val (.int (0 : Int32)), .val (.int (p5 &&& (3 : Int32))), .val (.int (p6.toInt8.toInt32)), .val (.ref ou), .val (.ref ex), .val (.int (p5 &&& (3 : Int32))), .unset] [(.int (0 : Int32))])
    refine own_step (fun _ k => XS.iconst X35.here hx rfl (hb hby at_247) k) ?_
    show own_Ends _ _ _ _ _ _ _ T35 (mkF m 248 #[.val (.int p1), .val (.int p2), .val (.int p3), .val (.int p4), .val (.int p5), .val (.int p6), .val (.ref bb), .val (.int (0 : Int32)), .val (.int (p5 &&& (3 : Int32))), .val (.int (p6.toInt8.toInt32)), .val (.ref ou), .val (.ref ex), .val (.int (p5 &&& (3 : Int32))), .unset] [(.int (2 : Int32)), (.int (0 : Int32))])
    refine own_step (fun _ k => XS.icmpYes X35.here hx rfl (pc0 := 248) (pc' := 264) rfl (hb hby at_248) rfl (flt (by decide : ¬ ((2 : Int32) < (0 : Int32)))).2.2.2 (by decide) (by decide) k) ?_
    show own_Ends _ _ _ _ _ _ _ T35 (mkF m 264 #[.val (.int p1), .val (.int p2), .val (.int p3), .val (.int p4), .val (.int p5), .val (.int p6), .val (.ref bb), .val (.int (0 : Int32)), .val (.int (p5 &&& (3 : Int32))), .val (.int (p6.toInt8.toInt32)), .val (.ref ou), .val (.ref ex), .val (.int (p5 &&& (3 : Int32))), .unset] [])
    refine own_step (fun _ k => XS.aload X35.here hx rfl (hb hby at_264) rfl rfl k) ?_
    show own_Ends _ _ _ _ _ _ _ T35 (mkF m 266 #[.val (.int p1), .val (.int p2), .val (.int p3), .val (.int p4), .val (.int p5), .val (.int p6), .val (.ref bb), .val (.int (0 : Int32)), .val (.int (p5 &&& (3 : Int32))), .val (.int (p6.toInt8.toInt32)), .val (.ref ou), .val (.ref ex), .val (.int (p5 &&& (3 : Int32))), .unset] [(.ref bb)])
    refine own_step (fun _ k => XS.iload X35.here hx rfl (hb hby at_266) rfl k) ?_
    show own_Ends _ _ _ _ _ _ _ T35 (mkF m 268 #[.val (.int p1), .val (.int p2), .val (.int p3), .val (.int p4), .val (.int p5), .val (.int p6), .val (.ref bb), .val (.int (0 : Int32)), .val (.int (p5 &&& (3 : Int32))), .val (.int (p6.toInt8.toInt32)), .val (.ref ou), .val (.ref ex), .val (.int (p5 &&& (3 : Int32))), .unset] [(.int (0 : Int32)), (.ref bb)])
    refine own_step (fun _ k => XS.aload X35.here hx rfl (hb hby at_268) rfl rfl k) ?_
    show own_Ends _ _ _ _ _ _ _ T35 (mkF m 270 #[.val (.int p1), .val (.int p2), .val (.int p3), .val (.int p4), .val (.int p5), .val (.int p6), .val (.ref bb), .val (.int (0 : Int32)), .val (.int (p5 &&& (3 : Int32))), .val (.int (p6.toInt8.toInt32)), .val (.ref ou), .val (.ref ex), .val (.int (p5 &&& (3 : Int32))), .unset] [(.ref ou), (.int (0 : Int32)), (.ref bb)])
    refine own_step (fun _ k => XS.iload X35.here hx rfl (hb hby at_270) rfl k) ?_
    show own_Ends _ _ _ _ _ _ _ T35 (mkF m 272 #[.val (.int p1), .val (.int p2), .val (.int p3), .val (.int p4), .val (.int p5), .val (.int p6), .val (.ref bb), .val (.int (0 : Int32)), .val (.int (p5 &&& (3 : Int32))), .val (.int (p6.toInt8.toInt32)), .val (.ref ou), .val (.ref ex), .val (.int (p5 &&& (3 : Int32))), .unset] [(.int (p5 &&& (3 : Int32))), (.ref ou), (.int (0 : Int32)), (.ref bb)])
    have Q38 := ((((((((((((((((((((((((((((((((((O0.ext E1).wr W2 g_bb).wr W3 g_bb).wr W4 g_bb).ext E5).wr W6 g_ou).wr W7 g_ou).wr W8 g_ou).wr W9 g_ou).wr W10 g_ou).wr W11 g_ou).wr W12 g_ou).wr W13 g_ou).wr W14 g_ou).wr W15 g_ou).wr W16 g_ou).wr W17 g_ou).wr W18 g_ou).wr W19 g_ou).ext E20).wr W22 g_ex).wr W23 g_ex).wr W24 g_ex).wr W25 g_ex).wr W26 g_ex).wr W27 g_ex).wr W28 g_ex).wr W29 g_ex).wr W30 g_ex).wr W31 g_ex).wr W32 g_ex).wr W33 g_ex).wr W34 g_ex).wr W35 g_ex)
    refine own_callS X35 hx hZ (y := (⟨"com/example/gist_hash/gisthash/PercentCoding", "escape", "([BI[BI)I"⟩ : MethodName)) hown (hw _ (List.mem_of_getElem? (i := 8) rfl)) (hw _ (List.mem_of_getElem? (i := 9) rfl)) (hw _ (List.mem_of_getElem? (i := 10) rfl)) (hw _ (List.mem_of_getElem? (i := 11) rfl)) (by decide) (rm3 l Z a0 hw [] bb (0 : Int32) ou (p5 &&& (3 : Int32)) k1 k5 uh ku [(p1.toInt8.toInt32), (p2.toInt8.toInt32), (p3.toInt8.toInt32)] (List.replicate 14 (p6.toInt8.toInt32)) 0 _ h35 n0 Z35 Q38 SH VH U_bb U_ou rfl ne_bb_ou (by decide) (by decide) (own_Ar p5).1 (by have := (own_Ar p5).2; omega) (own_bs3 p1 p2 p3) g_ou) e35 0 (by decide) (by decide) (by decide) (by decide) (g := (mkF m 272 #[.val (.int p1), .val (.int p2), .val (.int p3), .val (.int p4), .val (.int p5), .val (.int p6), .val (.ref bb), .val (.int (0 : Int32)), .val (.int (p5 &&& (3 : Int32))), .val (.int (p6.toInt8.toInt32)), .val (.ref ou), .val (.ref ex), .val (.int (p5 &&& (3 : Int32))), .unset] [(.int (p5 &&& (3 : Int32))), (.ref ou), (.int (0 : Int32)), (.ref bb)])) rfl (by rw [hml]; rfl) [(.ref bb), (.int (0 : Int32)), (.ref ou), (.int (p5 &&& (3 : Int32)))] [] pd_2 rfl rfl rfl (by show 2 * 0 + _ ≤ _; exact Nat.le_of_eq rfl) (hb hby at_272) ?_
    rintro v39 T39 L39 X39 ⟨r39, hr39, rfl, Nq39, K39, V39⟩
    have N39 := Fr.app N35 Nq39
    show own_Ends _ _ _ _ _ _ _ T39 (mkF m 275 #[.val (.int p1), .val (.int p2), .val (.int p3), .val (.int p4), .val (.int p5), .val (.int p6), .val (.ref bb), .val (.int (0 : Int32)), .val (.int (p5 &&& (3 : Int32))), .val (.int (p6.toInt8.toInt32)), .val (.ref ou), .val (.ref ex), .val (.int (p5 &&& (3 : Int32))), .unset] [(.int r39)])
    have Z39 := Nat.le_trans Z35 K39.1
    have heq : r39 = (p5 &&& (3 : Int32)) := Int32.toInt_inj.mp (hr39.trans hz.symm)
    refine own_step (fun _ k => XS.istore X39.here hx rfl (hb hby at_275) rfl (l' := #[.val (.int p1), .val (.int p2), .val (.int p3), .val (.int p4), .val (.int p5), .val (.int p6), .val (.ref bb), .val (.int (0 : Int32)), .val (.int (p5 &&& (3 : Int32))), .val (.int (p6.toInt8.toInt32)), .val (.ref ou), .val (.ref ex), .val (.int (p5 &&& (3 : Int32))), .val (.int r39)]) rfl k) ?_
    show own_Ends _ _ _ _ _ _ _ T39 (mkF m 277 #[.val (.int p1), .val (.int p2), .val (.int p3), .val (.int p4), .val (.int p5), .val (.int p6), .val (.ref bb), .val (.int (0 : Int32)), .val (.int (p5 &&& (3 : Int32))), .val (.int (p6.toInt8.toInt32)), .val (.ref ou), .val (.ref ex), .val (.int (p5 &&& (3 : Int32))), .val (.int r39)] [])
    refine own_step (fun _ k => XS.iload X39.here hx rfl (hb hby at_277) rfl k) ?_
    show own_Ends _ _ _ _ _ _ _ T39 (mkF m 279 #[.val (.int p1), .val (.int p2), .val (.int p3), .val (.int p4), .val (.int p5), .val (.int p6), .val (.ref bb), .val (.int (0 : Int32)), .val (.int (p5 &&& (3 : Int32))), .val (.int (p6.toInt8.toInt32)), .val (.ref ou), .val (.ref ex), .val (.int (p5 &&& (3 : Int32))), .val (.int r39)] [(.int r39)])
    refine own_step (fun _ k => XS.iload X39.here hx rfl (hb hby at_279) rfl k) ?_
    show own_Ends _ _ _ _ _ _ _ T39 (mkF m 281 #[.val (.int p1), .val (.int p2), .val (.int p3), .val (.int p4), .val (.int p5), .val (.int p6), .val (.ref bb), .val (.int (0 : Int32)), .val (.int (p5 &&& (3 : Int32))), .val (.int (p6.toInt8.toInt32)), .val (.ref ou), .val (.ref ex), .val (.int (p5 &&& (3 : Int32))), .val (.int r39)] [(.int (p5 &&& (3 : Int32))), (.int r39)])
    refine own_step (fun _ k => XS.icmpNo X39.here hx rfl (hb hby at_281) rfl (teq heq).2 k) ?_
    show own_Ends _ _ _ _ _ _ _ T39 (mkF m 284 #[.val (.int p1), .val (.int p2), .val (.int p3), .val (.int p4), .val (.int p5), .val (.int p6), .val (.ref bb), .val (.int (0 : Int32)), .val (.int (p5 &&& (3 : Int32))), .val (.int (p6.toInt8.toInt32)), .val (.ref ou), .val (.ref ex), .val (.int (p5 &&& (3 : Int32))), .val (.int r39)] [])
    refine own_step (fun _ k => XS.aload X39.here hx rfl (hb hby at_284) rfl rfl k) ?_
    show own_Ends _ _ _ _ _ _ _ T39 (mkF m 286 #[.val (.int p1), .val (.int p2), .val (.int p3), .val (.int p4), .val (.int p5), .val (.int p6), .val (.ref bb), .val (.int (0 : Int32)), .val (.int (p5 &&& (3 : Int32))), .val (.int (p6.toInt8.toInt32)), .val (.ref ou), .val (.ref ex), .val (.int (p5 &&& (3 : Int32))), .val (.int r39)] [(.ref ou)])
    refine own_step (fun _ k => XS.aload X39.here hx rfl (hb hby at_286) rfl rfl k) ?_
    show own_Ends _ _ _ _ _ _ _ T39 (mkF m 288 #[.val (.int p1), .val (.int p2), .val (.int p3), .val (.int p4), .val (.int p5), .val (.int p6), .val (.ref bb), .val (.int (0 : Int32)), .val (.int (p5 &&& (3 : Int32))), .val (.int (p6.toInt8.toInt32)), .val (.ref ou), .val (.ref ex), .val (.int (p5 &&& (3 : Int32))), .val (.int r39)] [(.ref ex), (.ref ou)])
    have Q40 := (U_ex.keep K39 (ninS (Ne.symm ne_ou_ex) nin0))
    refine own_callS X39 hx hZ (y := (⟨"com/example/gist_hash/gisthash/PercentCodingEscapePinLaw", "same", "([B[B)Z"⟩ : MethodName)) hown (hw _ (List.mem_of_getElem? (i := 21) rfl)) (hw _ (List.mem_of_getElem? (i := 22) rfl)) (hw _ (List.mem_of_getElem? (i := 3) rfl)) (hw _ (List.mem_of_getElem? (i := 23) rfl)) (by decide) (rm5 l Z a0 hw [] ou ex k5 k20 (own_wr (List.replicate 14 (p6.toInt8.toInt32)) (own_A p5) (own_all (fun t => List.getD [(p1.toInt8.toInt32), (p2.toInt8.toInt32), (p3.toInt8.toInt32)] t (0 : Int32)) 0)) T39.heap n0 Z39 V39 Q40) rfl 0 (by decide) (by decide) (by decide) (by decide) (g := (mkF m 288 #[.val (.int p1), .val (.int p2), .val (.int p3), .val (.int p4), .val (.int p5), .val (.int p6), .val (.ref bb), .val (.int (0 : Int32)), .val (.int (p5 &&& (3 : Int32))), .val (.int (p6.toInt8.toInt32)), .val (.ref ou), .val (.ref ex), .val (.int (p5 &&& (3 : Int32))), .val (.int r39)] [(.ref ex), (.ref ou)])) rfl (by rw [hml]; rfl) [(.ref ou), (.ref ex)] [] pd_3 rfl rfl rfl (by show 2 * 0 + _ ≤ _; exact Nat.le_of_eq rfl) (hb hby at_288) ?_
    rintro v41 T41 L41 X41 ⟨rfl, Nq41, e41⟩
    have N41 := Fr.app N39 Nq41
    show own_Ends _ _ _ _ _ _ _ T41 (mkF m 291 #[.val (.int p1), .val (.int p2), .val (.int p3), .val (.int p4), .val (.int p5), .val (.int p6), .val (.ref bb), .val (.int (0 : Int32)), .val (.int (p5 &&& (3 : Int32))), .val (.int (p6.toInt8.toInt32)), .val (.ref ou), .val (.ref ex), .val (.int (p5 &&& (3 : Int32))), .val (.int r39)] [(.int (1 : Int32))])
    refine own_step (fun _ k => XS.ifNo X41.here hx rfl (hb hby at_291) rfl ((if0 _ _).trans (feq (by decide : ¬ ((1 : Int32) = (0 : Int32)))).1) k) ?_
    show own_Ends _ _ _ _ _ _ _ T41 (mkF m 294 #[.val (.int p1), .val (.int p2), .val (.int p3), .val (.int p4), .val (.int p5), .val (.int p6), .val (.ref bb), .val (.int (0 : Int32)), .val (.int (p5 &&& (3 : Int32))), .val (.int (p6.toInt8.toInt32)), .val (.ref ou), .val (.ref ex), .val (.int (p5 &&& (3 : Int32))), .val (.int r39)] [])
    refine own_step (fun _ k => XS.iconst X41.here hx rfl (hb hby at_294) k) ?_
    show own_Ends _ _ _ _ _ _ _ T41 (mkF m 295 #[.val (.int p1), .val (.int p2), .val (.int p3), .val (.int p4), .val (.int p5), .val (.int p6), .val (.ref bb), .val (.int (0 : Int32)), .val (.int (p5 &&& (3 : Int32))), .val (.int (p6.toInt8.toInt32)), .val (.ref ou), .val (.ref ex), .val (.int (p5 &&& (3 : Int32))), .val (.int r39)] [(.int (1 : Int32))])
    refine own_step (fun _ k => XS.goto X41.here hx rfl (pc0 := 295) (pc' := 299) rfl (hb hby at_295) (by decide) (by decide) k) ?_
    show own_Ends _ _ _ _ _ _ _ T41 (mkF m 299 #[.val (.int p1), .val (.int p2), .val (.int p3), .val (.int p4), .val (.int p5), .val (.int p6), .val (.ref bb), .val (.int (0 : Int32)), .val (.int (p5 &&& (3 : Int32))), .val (.int (p6.toInt8.toInt32)), .val (.ref ou), .val (.ref ex), .val (.int (p5 &&& (3 : Int32))), .val (.int r39)] [(.int (1 : Int32))])
    exact own_retN X41 hx (t := .boolean) hret (by simp) hlk (hb hby at_299) rfl ⟨rfl, N41⟩ (by decide) (by decide)
  · rw [hq]
    show own_Ends _ _ _ _ _ _ _ T35 (mkF m 204 #[.val (.int p1), .val (.int p2), .val (.int p3), .val (.int p4), .val (.int p5), .val (.int p6), .val (.ref bb), .val (.int (1 : Int32)), .val (.int (p5 &&& (3 : Int32))), .val (.int (p6.toInt8.toInt32)), .val (.ref ou), .val (.ref ex), .unset, .unset] [])
    have hAr := (own_Ar p5).2
    have hz : (p5 &&& (3 : Int32)).toInt = (own_A p5 + (own_all (fun t => List.getD [(p1.toInt8.toInt32), (p2.toInt8.toInt32), (p3.toInt8.toInt32)] t (0 : Int32)) 0).length : Nat) := (own_Ar p5).1
    refine own_step (fun _ k => XS.iload X35.here hx rfl (hb hby at_204) rfl k) ?_
    show own_Ends _ _ _ _ _ _ _ T35 (mkF m 206 #[.val (.int p1), .val (.int p2), .val (.int p3), .val (.int p4), .val (.int p5), .val (.int p6), .val (.ref bb), .val (.int (1 : Int32)), .val (.int (p5 &&& (3 : Int32))), .val (.int (p6.toInt8.toInt32)), .val (.ref ou), .val (.ref ex), .unset, .unset] [(.int (p5 &&& (3 : Int32)))])
    refine own_step (fun _ k => XS.istore X35.here hx rfl (hb hby at_206) rfl (l' := #[.val (.int p1), .val (.int p2), .val (.int p3), .val (.int p4), .val (.int p5), .val (.int p6), .val (.ref bb), .val (.int (1 : Int32)), .val (.int (p5 &&& (3 : Int32))), .val (.int (p6.toInt8.toInt32)), .val (.ref ou), .val (.ref ex), .val (.int (p5 &&& (3 : Int32))), .unset]) rfl k) ?_
    show own_Ends _ _ _ _ _ _ _ T35 (mkF m 208 #[.val (.int p1), .val (.int p2), .val (.int p3), .val (.int p4), .val (.int p5), .val (.int p6), .val (.ref bb), .val (.int (1 : Int32)), .val (.int (p5 &&& (3 : Int32))), .val (.int (p6.toInt8.toInt32)), .val (.ref ou), .val (.ref ex), .val (.int (p5 &&& (3 : Int32))), .unset] [])
    refine own_step (fun _ k => XS.iload X35.here hx rfl (hb hby at_208) rfl k) ?_
    show own_Ends _ _ _ _ _ _ _ T35 (mkF m 210 #[.val (.int p1), .val (.int p2), .val (.int p3), .val (.int p4), .val (.int p5), .val (.int p6), .val (.ref bb), .val (.int (1 : Int32)), .val (.int (p5 &&& (3 : Int32))), .val (.int (p6.toInt8.toInt32)), .val (.ref ou), .val (.ref ex), .val (.int (p5 &&& (3 : Int32))), .unset] [(.int (1 : Int32))])
    refine own_step (fun _ k => XS.ifNo X35.here hx rfl (hb hby at_210) rfl ((if0 _ _).trans (tlt (by decide : (0 : Int32) < (1 : Int32))).2.2.2) k) ?_
    show own_Ends _ _ _ _ _ _ _ T35 (mkF m 213 #[.val (.int p1), .val (.int p2), .val (.int p3), .val (.int p4), .val (.int p5), .val (.int p6), .val (.ref bb), .val (.int (1 : Int32)), .val (.int (p5 &&& (3 : Int32))), .val (.int (p6.toInt8.toInt32)), .val (.ref ou), .val (.ref ex), .val (.int (p5 &&& (3 : Int32))), .unset] [])
    refine own_step (fun _ k => XS.aload X35.here hx rfl (hb hby at_213) rfl rfl k) ?_
    show own_Ends _ _ _ _ _ _ _ T35 (mkF m 215 #[.val (.int p1), .val (.int p2), .val (.int p3), .val (.int p4), .val (.int p5), .val (.int p6), .val (.ref bb), .val (.int (1 : Int32)), .val (.int (p5 &&& (3 : Int32))), .val (.int (p6.toInt8.toInt32)), .val (.ref ou), .val (.ref ex), .val (.int (p5 &&& (3 : Int32))), .unset] [(.ref ex)])
    refine own_step (fun _ k => XS.iload X35.here hx rfl (hb hby at_215) rfl k) ?_
    show own_Ends _ _ _ _ _ _ _ T35 (mkF m 217 #[.val (.int p1), .val (.int p2), .val (.int p3), .val (.int p4), .val (.int p5), .val (.int p6), .val (.ref bb), .val (.int (1 : Int32)), .val (.int (p5 &&& (3 : Int32))), .val (.int (p6.toInt8.toInt32)), .val (.ref ou), .val (.ref ex), .val (.int (p5 &&& (3 : Int32))), .unset] [(.int (p5 &&& (3 : Int32))), (.ref ex)])
    refine own_step (fun _ k => XS.aload X35.here hx rfl (hb hby at_217) rfl rfl k) ?_
    show own_Ends _ _ _ _ _ _ _ T35 (mkF m 219 #[.val (.int p1), .val (.int p2), .val (.int p3), .val (.int p4), .val (.int p5), .val (.int p6), .val (.ref bb), .val (.int (1 : Int32)), .val (.int (p5 &&& (3 : Int32))), .val (.int (p6.toInt8.toInt32)), .val (.ref ou), .val (.ref ex), .val (.int (p5 &&& (3 : Int32))), .unset] [(.ref bb), (.int (p5 &&& (3 : Int32))), (.ref ex)])
    refine own_step (fun _ k => XS.iconst X35.here hx rfl (hb hby at_219) k) ?_
    show own_Ends _ _ _ _ _ _ _ T35 (mkF m 220 #[.val (.int p1), .val (.int p2), .val (.int p3), .val (.int p4), .val (.int p5), .val (.int p6), .val (.ref bb), .val (.int (1 : Int32)), .val (.int (p5 &&& (3 : Int32))), .val (.int (p6.toInt8.toInt32)), .val (.ref ou), .val (.ref ex), .val (.int (p5 &&& (3 : Int32))), .unset] [(.int (0 : Int32)), (.ref bb), (.int (p5 &&& (3 : Int32))), (.ref ex)])
    refine own_step (own_ldB X35 hx hZ e35 U_bb (j := (0 : Int32)) (v := (.int (p1.toInt8.toInt32))) ⟨by decide, by decide⟩ rfl (g := (mkF m 220 #[.val (.int p1), .val (.int p2), .val (.int p3), .val (.int p4), .val (.int p5), .val (.int p6), .val (.ref bb), .val (.int (1 : Int32)), .val (.int (p5 &&& (3 : Int32))), .val (.int (p6.toInt8.toInt32)), .val (.ref ou), .val (.ref ex), .val (.int (p5 &&& (3 : Int32))), .unset] [(.int (0 : Int32)), (.ref bb), (.int (p5 &&& (3 : Int32))), (.ref ex)])) rfl rfl (hb hby at_220)) ?_
    show own_Ends _ _ _ _ _ _ _ T35 (mkF m 221 #[.val (.int p1), .val (.int p2), .val (.int p3), .val (.int p4), .val (.int p5), .val (.int p6), .val (.ref bb), .val (.int (1 : Int32)), .val (.int (p5 &&& (3 : Int32))), .val (.int (p6.toInt8.toInt32)), .val (.ref ou), .val (.ref ex), .val (.int (p5 &&& (3 : Int32))), .unset] [(.int (p1.toInt8.toInt32)), (.int (p5 &&& (3 : Int32))), (.ref ex)])
    refine own_callS X35 hx hZ (y := (⟨"com/example/gist_hash/gisthash/PercentCodingEscapePinLaw", "put", "([BIB)I"⟩ : MethodName)) hown (hw _ (List.mem_of_getElem? (i := 1) rfl)) (hw _ (List.mem_of_getElem? (i := 2) rfl)) (hw _ (List.mem_of_getElem? (i := 3) rfl)) (hw _ (List.mem_of_getElem? (i := 4) rfl)) (by decide) (rm1 l Z a0 hw [] ex (p5 &&& (3 : Int32)) (p1.toInt8.toInt32) k20 (own_wr (List.replicate 14 (p6.toInt8.toInt32)) (own_A p5) (own_all (fun t => List.getD [(p1.toInt8.toInt32), (p2.toInt8.toInt32), (p3.toInt8.toInt32)] t (0 : Int32)) 0)) _ h35 n0 Z35 U_ex (by rw [own_wr_len]; rfl) hz (by have := own_all3 (fun t => List.getD [(p1.toInt8.toInt32), (p2.toInt8.toInt32), (p3.toInt8.toInt32)] t (0 : Int32)) 0; omega) (own_bb _) g_ex) e35 0 (by decide) (by decide) (by decide) (by decide) (g := (mkF m 221 #[.val (.int p1), .val (.int p2), .val (.int p3), .val (.int p4), .val (.int p5), .val (.int p6), .val (.ref bb), .val (.int (1 : Int32)), .val (.int (p5 &&& (3 : Int32))), .val (.int (p6.toInt8.toInt32)), .val (.ref ou), .val (.ref ex), .val (.int (p5 &&& (3 : Int32))), .unset] [(.int (p1.toInt8.toInt32)), (.int (p5 &&& (3 : Int32))), (.ref ex)])) rfl (by rw [hml]; rfl) [(.ref ex), (.int (p5 &&& (3 : Int32))), (.int (p1.toInt8.toInt32))] [] pd_4 rfl rfl rfl (by show 2 * 0 + _ ≤ _; exact Nat.le_of_eq rfl) (hb hby at_221) ?_
    rintro v42 T42 L42 X42 ⟨r42, hr42, rfl, Nq42, K42, V42⟩
    have N42 := Fr.app N35 Nq42
    show own_Ends _ _ _ _ _ _ _ T42 (mkF m 224 #[.val (.int p1), .val (.int p2), .val (.int p3), .val (.int p4), .val (.int p5), .val (.int p6), .val (.ref bb), .val (.int (1 : Int32)), .val (.int (p5 &&& (3 : Int32))), .val (.int (p6.toInt8.toInt32)), .val (.ref ou), .val (.ref ex), .val (.int (p5 &&& (3 : Int32))), .unset] [(.int r42)])
    have Z42 := Nat.le_trans Z35 K42.1
    rw [Nat.add_assoc, ← List.length_append] at hr42
    rw [← own_wr_app] at V42
    have VE42 : Arv Z T42.heap ex k20 .byte (14 : Int32) ((own_wr (List.replicate 14 (p6.toInt8.toInt32)) (own_A p5) (own_all (fun t => List.getD [(p1.toInt8.toInt32), (p2.toInt8.toInt32), (p3.toInt8.toInt32)] t (0 : Int32)) 1)).map Value.int) (.int (0 : Int32)) := V42
    have hp42 : r42.toInt = (own_A p5 + (own_all (fun t => List.getD [(p1.toInt8.toInt32), (p2.toInt8.toInt32), (p3.toInt8.toInt32)] t (0 : Int32)) 1).length : Nat) := hr42
    refine own_step (fun _ k => XS.istore X42.here hx rfl (hb hby at_224) rfl (l' := #[.val (.int p1), .val (.int p2), .val (.int p3), .val (.int p4), .val (.int p5), .val (.int p6), .val (.ref bb), .val (.int (1 : Int32)), .val (.int (p5 &&& (3 : Int32))), .val (.int (p6.toInt8.toInt32)), .val (.ref ou), .val (.ref ex), .val (.int r42), .unset]) rfl k) ?_
    show own_Ends _ _ _ _ _ _ _ T42 (mkF m 226 #[.val (.int p1), .val (.int p2), .val (.int p3), .val (.int p4), .val (.int p5), .val (.int p6), .val (.ref bb), .val (.int (1 : Int32)), .val (.int (p5 &&& (3 : Int32))), .val (.int (p6.toInt8.toInt32)), .val (.ref ou), .val (.ref ex), .val (.int r42), .unset] [])
    refine own_step (fun _ k => XS.iload X42.here hx rfl (hb hby at_226) rfl k) ?_
    show own_Ends _ _ _ _ _ _ _ T42 (mkF m 228 #[.val (.int p1), .val (.int p2), .val (.int p3), .val (.int p4), .val (.int p5), .val (.int p6), .val (.ref bb), .val (.int (1 : Int32)), .val (.int (p5 &&& (3 : Int32))), .val (.int (p6.toInt8.toInt32)), .val (.ref ou), .val (.ref ex), .val (.int r42), .unset] [(.int (1 : Int32))])
    refine own_step (fun _ k => XS.iconst X42.here hx rfl (hb hby at_228) k) ?_
    show own_Ends _ _ _ _ _ _ _ T42 (mkF m 229 #[.val (.int p1), .val (.int p2), .val (.int p3), .val (.int p4), .val (.int p5), .val (.int p6), .val (.ref bb), .val (.int (1 : Int32)), .val (.int (p5 &&& (3 : Int32))), .val (.int (p6.toInt8.toInt32)), .val (.ref ou), .val (.ref ex), .val (.int r42), .unset] [(.int (1 : Int32)), (.int (1 : Int32))])
    refine own_step (fun _ k => XS.icmpYes X42.here hx rfl (pc0 := 229) (pc' := 245) rfl (hb hby at_229) rfl (flt (by decide : ¬ ((1 : Int32) < (1 : Int32)))).2.2.2 (by decide) (by decide) k) ?_
    show own_Ends _ _ _ _ _ _ _ T42 (mkF m 245 #[.val (.int p1), .val (.int p2), .val (.int p3), .val (.int p4), .val (.int p5), .val (.int p6), .val (.ref bb), .val (.int (1 : Int32)), .val (.int (p5 &&& (3 : Int32))), .val (.int (p6.toInt8.toInt32)), .val (.ref ou), .val (.ref ex), .val (.int r42), .unset] [])
    refine own_step (fun _ k => XS.iload X42.here hx rfl (hb hby at_245) rfl k) ?_
    show own_Ends _ _ _ _ _ _ _ T42 (mkF m 247 #[.val (.int p1), .val (.int p2), .val (.int p3), .val (.int p4), .val (.int p5), .val (.int p6), .val (.ref bb), .val (.int (1 : Int32)), .val (.int (p5 &&& (3 : Int32))), .val (.int (p6.toInt8.toInt32)), .val (.ref ou), .val (.ref ex), .val (.int r42), .unset] [(.int (1 : Int32))])
    refine own_step (fun _ k => XS.iconst X42.here hx rfl (hb hby at_247) k) ?_
    show own_Ends _ _ _ _ _ _ _ T42 (mkF m 248 #[.val (.int p1), .val (.int p2), .val (.int p3), .val (.int p4), .val (.int p5), .val (.int p6), .val (.ref bb), .val (.int (1 : Int32)), .val (.int (p5 &&& (3 : Int32))), .val (.int (p6.toInt8.toInt32)), .val (.ref ou), .val (.ref ex), .val (.int r42), .unset] [(.int (2 : Int32)), (.int (1 : Int32))])
    refine own_step (fun _ k => XS.icmpYes X42.here hx rfl (pc0 := 248) (pc' := 264) rfl (hb hby at_248) rfl (flt (by decide : ¬ ((2 : Int32) < (1 : Int32)))).2.2.2 (by decide) (by decide) k) ?_
    show own_Ends _ _ _ _ _ _ _ T42 (mkF m 264 #[.val (.int p1), .val (.int p2), .val (.int p3), .val (.int p4), .val (.int p5), .val (.int p6), .val (.ref bb), .val (.int (1 : Int32)), .val (.int (p5 &&& (3 : Int32))), .val (.int (p6.toInt8.toInt32)), .val (.ref ou), .val (.ref ex), .val (.int r42), .unset] [])
    refine own_step (fun _ k => XS.aload X42.here hx rfl (hb hby at_264) rfl rfl k) ?_
    show own_Ends _ _ _ _ _ _ _ T42 (mkF m 266 #[.val (.int p1), .val (.int p2), .val (.int p3), .val (.int p4), .val (.int p5), .val (.int p6), .val (.ref bb), .val (.int (1 : Int32)), .val (.int (p5 &&& (3 : Int32))), .val (.int (p6.toInt8.toInt32)), .val (.ref ou), .val (.ref ex), .val (.int r42), .unset] [(.ref bb)])
    refine own_step (fun _ k => XS.iload X42.here hx rfl (hb hby at_266) rfl k) ?_
    show own_Ends _ _ _ _ _ _ _ T42 (mkF m 268 #[.val (.int p1), .val (.int p2), .val (.int p3), .val (.int p4), .val (.int p5), .val (.int p6), .val (.ref bb), .val (.int (1 : Int32)), .val (.int (p5 &&& (3 : Int32))), .val (.int (p6.toInt8.toInt32)), .val (.ref ou), .val (.ref ex), .val (.int r42), .unset] [(.int (1 : Int32)), (.ref bb)])
    refine own_step (fun _ k => XS.aload X42.here hx rfl (hb hby at_268) rfl rfl k) ?_
    show own_Ends _ _ _ _ _ _ _ T42 (mkF m 270 #[.val (.int p1), .val (.int p2), .val (.int p3), .val (.int p4), .val (.int p5), .val (.int p6), .val (.ref bb), .val (.int (1 : Int32)), .val (.int (p5 &&& (3 : Int32))), .val (.int (p6.toInt8.toInt32)), .val (.ref ou), .val (.ref ex), .val (.int r42), .unset] [(.ref ou), (.int (1 : Int32)), (.ref bb)])
    refine own_step (fun _ k => XS.iload X42.here hx rfl (hb hby at_270) rfl k) ?_
    show own_Ends _ _ _ _ _ _ _ T42 (mkF m 272 #[.val (.int p1), .val (.int p2), .val (.int p3), .val (.int p4), .val (.int p5), .val (.int p6), .val (.ref bb), .val (.int (1 : Int32)), .val (.int (p5 &&& (3 : Int32))), .val (.int (p6.toInt8.toInt32)), .val (.ref ou), .val (.ref ex), .val (.int r42), .unset] [(.int (p5 &&& (3 : Int32))), (.ref ou), (.int (1 : Int32)), (.ref bb)])
    have Q43 := (((((((((((((((((((((((((((((((((((O0.ext E1).wr W2 g_bb).wr W3 g_bb).wr W4 g_bb).ext E5).wr W6 g_ou).wr W7 g_ou).wr W8 g_ou).wr W9 g_ou).wr W10 g_ou).wr W11 g_ou).wr W12 g_ou).wr W13 g_ou).wr W14 g_ou).wr W15 g_ou).wr W16 g_ou).wr W17 g_ou).wr W18 g_ou).wr W19 g_ou).ext E20).wr W22 g_ex).wr W23 g_ex).wr W24 g_ex).wr W25 g_ex).wr W26 g_ex).wr W27 g_ex).wr W28 g_ex).wr W29 g_ex).wr W30 g_ex).wr W31 g_ex).wr W32 g_ex).wr W33 g_ex).wr W34 g_ex).wr W35 g_ex).keep K42 (allS g_ex all0))
    have Q44 := (U_bb.keep K42 (ninS ne_bb_ex nin0))
    have Q45 := (U_ou.keep K42 (ninS ne_ou_ex nin0))
    refine own_callS X42 hx hZ (y := (⟨"com/example/gist_hash/gisthash/PercentCoding", "escape", "([BI[BI)I"⟩ : MethodName)) hown (hw _ (List.mem_of_getElem? (i := 8) rfl)) (hw _ (List.mem_of_getElem? (i := 9) rfl)) (hw _ (List.mem_of_getElem? (i := 10) rfl)) (hw _ (List.mem_of_getElem? (i := 11) rfl)) (by decide) (rm3 l Z a0 hw [] bb (1 : Int32) ou (p5 &&& (3 : Int32)) k1 k5 uh ku [(p1.toInt8.toInt32), (p2.toInt8.toInt32), (p3.toInt8.toInt32)] (List.replicate 14 (p6.toInt8.toInt32)) 1 _ T42.heap n0 Z42 Q43 SH VH Q44 Q45 rfl ne_bb_ou (by decide) (by decide) (own_Ar p5).1 (by have := (own_Ar p5).2; omega) (own_bs3 p1 p2 p3) g_ou) rfl 0 (by decide) (by decide) (by decide) (by decide) (g := (mkF m 272 #[.val (.int p1), .val (.int p2), .val (.int p3), .val (.int p4), .val (.int p5), .val (.int p6), .val (.ref bb), .val (.int (1 : Int32)), .val (.int (p5 &&& (3 : Int32))), .val (.int (p6.toInt8.toInt32)), .val (.ref ou), .val (.ref ex), .val (.int r42), .unset] [(.int (p5 &&& (3 : Int32))), (.ref ou), (.int (1 : Int32)), (.ref bb)])) rfl (by rw [hml]; rfl) [(.ref bb), (.int (1 : Int32)), (.ref ou), (.int (p5 &&& (3 : Int32)))] [] pd_2 rfl rfl rfl (by show 2 * 0 + _ ≤ _; exact Nat.le_of_eq rfl) (hb hby at_272) ?_
    rintro v46 T46 L46 X46 ⟨r46, hr46, rfl, Nq46, K46, V46⟩
    have N46 := Fr.app N42 Nq46
    show own_Ends _ _ _ _ _ _ _ T46 (mkF m 275 #[.val (.int p1), .val (.int p2), .val (.int p3), .val (.int p4), .val (.int p5), .val (.int p6), .val (.ref bb), .val (.int (1 : Int32)), .val (.int (p5 &&& (3 : Int32))), .val (.int (p6.toInt8.toInt32)), .val (.ref ou), .val (.ref ex), .val (.int r42), .unset] [(.int r46)])
    have Z46 := Nat.le_trans Z42 K46.1
    have heq : r46 = r42 := Int32.toInt_inj.mp (hr46.trans hp42.symm)
    refine own_step (fun _ k => XS.istore X46.here hx rfl (hb hby at_275) rfl (l' := #[.val (.int p1), .val (.int p2), .val (.int p3), .val (.int p4), .val (.int p5), .val (.int p6), .val (.ref bb), .val (.int (1 : Int32)), .val (.int (p5 &&& (3 : Int32))), .val (.int (p6.toInt8.toInt32)), .val (.ref ou), .val (.ref ex), .val (.int r42), .val (.int r46)]) rfl k) ?_
    show own_Ends _ _ _ _ _ _ _ T46 (mkF m 277 #[.val (.int p1), .val (.int p2), .val (.int p3), .val (.int p4), .val (.int p5), .val (.int p6), .val (.ref bb), .val (.int (1 : Int32)), .val (.int (p5 &&& (3 : Int32))), .val (.int (p6.toInt8.toInt32)), .val (.ref ou), .val (.ref ex), .val (.int r42), .val (.int r46)] [])
    refine own_step (fun _ k => XS.iload X46.here hx rfl (hb hby at_277) rfl k) ?_
    show own_Ends _ _ _ _ _ _ _ T46 (mkF m 279 #[.val (.int p1), .val (.int p2), .val (.int p3), .val (.int p4), .val (.int p5), .val (.int p6), .val (.ref bb), .val (.int (1 : Int32)), .val (.int (p5 &&& (3 : Int32))), .val (.int (p6.toInt8.toInt32)), .val (.ref ou), .val (.ref ex), .val (.int r42), .val (.int r46)] [(.int r46)])
    refine own_step (fun _ k => XS.iload X46.here hx rfl (hb hby at_279) rfl k) ?_
    show own_Ends _ _ _ _ _ _ _ T46 (mkF m 281 #[.val (.int p1), .val (.int p2), .val (.int p3), .val (.int p4), .val (.int p5), .val (.int p6), .val (.ref bb), .val (.int (1 : Int32)), .val (.int (p5 &&& (3 : Int32))), .val (.int (p6.toInt8.toInt32)), .val (.ref ou), .val (.ref ex), .val (.int r42), .val (.int r46)] [(.int r42), (.int r46)])
    refine own_step (fun _ k => XS.icmpNo X46.here hx rfl (hb hby at_281) rfl (teq heq).2 k) ?_
    show own_Ends _ _ _ _ _ _ _ T46 (mkF m 284 #[.val (.int p1), .val (.int p2), .val (.int p3), .val (.int p4), .val (.int p5), .val (.int p6), .val (.ref bb), .val (.int (1 : Int32)), .val (.int (p5 &&& (3 : Int32))), .val (.int (p6.toInt8.toInt32)), .val (.ref ou), .val (.ref ex), .val (.int r42), .val (.int r46)] [])
    refine own_step (fun _ k => XS.aload X46.here hx rfl (hb hby at_284) rfl rfl k) ?_
    show own_Ends _ _ _ _ _ _ _ T46 (mkF m 286 #[.val (.int p1), .val (.int p2), .val (.int p3), .val (.int p4), .val (.int p5), .val (.int p6), .val (.ref bb), .val (.int (1 : Int32)), .val (.int (p5 &&& (3 : Int32))), .val (.int (p6.toInt8.toInt32)), .val (.ref ou), .val (.ref ex), .val (.int r42), .val (.int r46)] [(.ref ou)])
    refine own_step (fun _ k => XS.aload X46.here hx rfl (hb hby at_286) rfl rfl k) ?_
    show own_Ends _ _ _ _ _ _ _ T46 (mkF m 288 #[.val (.int p1), .val (.int p2), .val (.int p3), .val (.int p4), .val (.int p5), .val (.int p6), .val (.ref bb), .val (.int (1 : Int32)), .val (.int (p5 &&& (3 : Int32))), .val (.int (p6.toInt8.toInt32)), .val (.ref ou), .val (.ref ex), .val (.int r42), .val (.int r46)] [(.ref ex), (.ref ou)])
    have Q47 := (VE42.keep K46 (ninS (Ne.symm ne_ou_ex) nin0))
    refine own_callS X46 hx hZ (y := (⟨"com/example/gist_hash/gisthash/PercentCodingEscapePinLaw", "same", "([B[B)Z"⟩ : MethodName)) hown (hw _ (List.mem_of_getElem? (i := 21) rfl)) (hw _ (List.mem_of_getElem? (i := 22) rfl)) (hw _ (List.mem_of_getElem? (i := 3) rfl)) (hw _ (List.mem_of_getElem? (i := 23) rfl)) (by decide) (rm5 l Z a0 hw [] ou ex k5 k20 (own_wr (List.replicate 14 (p6.toInt8.toInt32)) (own_A p5) (own_all (fun t => List.getD [(p1.toInt8.toInt32), (p2.toInt8.toInt32), (p3.toInt8.toInt32)] t (0 : Int32)) 1)) T46.heap n0 Z46 V46 Q47) rfl 0 (by decide) (by decide) (by decide) (by decide) (g := (mkF m 288 #[.val (.int p1), .val (.int p2), .val (.int p3), .val (.int p4), .val (.int p5), .val (.int p6), .val (.ref bb), .val (.int (1 : Int32)), .val (.int (p5 &&& (3 : Int32))), .val (.int (p6.toInt8.toInt32)), .val (.ref ou), .val (.ref ex), .val (.int r42), .val (.int r46)] [(.ref ex), (.ref ou)])) rfl (by rw [hml]; rfl) [(.ref ou), (.ref ex)] [] pd_3 rfl rfl rfl (by show 2 * 0 + _ ≤ _; exact Nat.le_of_eq rfl) (hb hby at_288) ?_
    rintro v48 T48 L48 X48 ⟨rfl, Nq48, e48⟩
    have N48 := Fr.app N46 Nq48
    show own_Ends _ _ _ _ _ _ _ T48 (mkF m 291 #[.val (.int p1), .val (.int p2), .val (.int p3), .val (.int p4), .val (.int p5), .val (.int p6), .val (.ref bb), .val (.int (1 : Int32)), .val (.int (p5 &&& (3 : Int32))), .val (.int (p6.toInt8.toInt32)), .val (.ref ou), .val (.ref ex), .val (.int r42), .val (.int r46)] [(.int (1 : Int32))])
    refine own_step (fun _ k => XS.ifNo X48.here hx rfl (hb hby at_291) rfl ((if0 _ _).trans (feq (by decide : ¬ ((1 : Int32) = (0 : Int32)))).1) k) ?_
    show own_Ends _ _ _ _ _ _ _ T48 (mkF m 294 #[.val (.int p1), .val (.int p2), .val (.int p3), .val (.int p4), .val (.int p5), .val (.int p6), .val (.ref bb), .val (.int (1 : Int32)), .val (.int (p5 &&& (3 : Int32))), .val (.int (p6.toInt8.toInt32)), .val (.ref ou), .val (.ref ex), .val (.int r42), .val (.int r46)] [])
    refine own_step (fun _ k => XS.iconst X48.here hx rfl (hb hby at_294) k) ?_
    show own_Ends _ _ _ _ _ _ _ T48 (mkF m 295 #[.val (.int p1), .val (.int p2), .val (.int p3), .val (.int p4), .val (.int p5), .val (.int p6), .val (.ref bb), .val (.int (1 : Int32)), .val (.int (p5 &&& (3 : Int32))), .val (.int (p6.toInt8.toInt32)), .val (.ref ou), .val (.ref ex), .val (.int r42), .val (.int r46)] [(.int (1 : Int32))])
    refine own_step (fun _ k => XS.goto X48.here hx rfl (pc0 := 295) (pc' := 299) rfl (hb hby at_295) (by decide) (by decide) k) ?_
    show own_Ends _ _ _ _ _ _ _ T48 (mkF m 299 #[.val (.int p1), .val (.int p2), .val (.int p3), .val (.int p4), .val (.int p5), .val (.int p6), .val (.ref bb), .val (.int (1 : Int32)), .val (.int (p5 &&& (3 : Int32))), .val (.int (p6.toInt8.toInt32)), .val (.ref ou), .val (.ref ex), .val (.int r42), .val (.int r46)] [(.int (1 : Int32))])
    exact own_retN X48 hx (t := .boolean) hret (by simp) hlk (hb hby at_299) rfl ⟨rfl, N48⟩ (by decide) (by decide)
  · rw [hq]
    show own_Ends _ _ _ _ _ _ _ T35 (mkF m 204 #[.val (.int p1), .val (.int p2), .val (.int p3), .val (.int p4), .val (.int p5), .val (.int p6), .val (.ref bb), .val (.int (2 : Int32)), .val (.int (p5 &&& (3 : Int32))), .val (.int (p6.toInt8.toInt32)), .val (.ref ou), .val (.ref ex), .unset, .unset] [])
    have hAr := (own_Ar p5).2
    have hz : (p5 &&& (3 : Int32)).toInt = (own_A p5 + (own_all (fun t => List.getD [(p1.toInt8.toInt32), (p2.toInt8.toInt32), (p3.toInt8.toInt32)] t (0 : Int32)) 0).length : Nat) := (own_Ar p5).1
    refine own_step (fun _ k => XS.iload X35.here hx rfl (hb hby at_204) rfl k) ?_
    show own_Ends _ _ _ _ _ _ _ T35 (mkF m 206 #[.val (.int p1), .val (.int p2), .val (.int p3), .val (.int p4), .val (.int p5), .val (.int p6), .val (.ref bb), .val (.int (2 : Int32)), .val (.int (p5 &&& (3 : Int32))), .val (.int (p6.toInt8.toInt32)), .val (.ref ou), .val (.ref ex), .unset, .unset] [(.int (p5 &&& (3 : Int32)))])
    refine own_step (fun _ k => XS.istore X35.here hx rfl (hb hby at_206) rfl (l' := #[.val (.int p1), .val (.int p2), .val (.int p3), .val (.int p4), .val (.int p5), .val (.int p6), .val (.ref bb), .val (.int (2 : Int32)), .val (.int (p5 &&& (3 : Int32))), .val (.int (p6.toInt8.toInt32)), .val (.ref ou), .val (.ref ex), .val (.int (p5 &&& (3 : Int32))), .unset]) rfl k) ?_
    show own_Ends _ _ _ _ _ _ _ T35 (mkF m 208 #[.val (.int p1), .val (.int p2), .val (.int p3), .val (.int p4), .val (.int p5), .val (.int p6), .val (.ref bb), .val (.int (2 : Int32)), .val (.int (p5 &&& (3 : Int32))), .val (.int (p6.toInt8.toInt32)), .val (.ref ou), .val (.ref ex), .val (.int (p5 &&& (3 : Int32))), .unset] [])
    refine own_step (fun _ k => XS.iload X35.here hx rfl (hb hby at_208) rfl k) ?_
    show own_Ends _ _ _ _ _ _ _ T35 (mkF m 210 #[.val (.int p1), .val (.int p2), .val (.int p3), .val (.int p4), .val (.int p5), .val (.int p6), .val (.ref bb), .val (.int (2 : Int32)), .val (.int (p5 &&& (3 : Int32))), .val (.int (p6.toInt8.toInt32)), .val (.ref ou), .val (.ref ex), .val (.int (p5 &&& (3 : Int32))), .unset] [(.int (2 : Int32))])
    refine own_step (fun _ k => XS.ifNo X35.here hx rfl (hb hby at_210) rfl ((if0 _ _).trans (tlt (by decide : (0 : Int32) < (2 : Int32))).2.2.2) k) ?_
    show own_Ends _ _ _ _ _ _ _ T35 (mkF m 213 #[.val (.int p1), .val (.int p2), .val (.int p3), .val (.int p4), .val (.int p5), .val (.int p6), .val (.ref bb), .val (.int (2 : Int32)), .val (.int (p5 &&& (3 : Int32))), .val (.int (p6.toInt8.toInt32)), .val (.ref ou), .val (.ref ex), .val (.int (p5 &&& (3 : Int32))), .unset] [])
    refine own_step (fun _ k => XS.aload X35.here hx rfl (hb hby at_213) rfl rfl k) ?_
    show own_Ends _ _ _ _ _ _ _ T35 (mkF m 215 #[.val (.int p1), .val (.int p2), .val (.int p3), .val (.int p4), .val (.int p5), .val (.int p6), .val (.ref bb), .val (.int (2 : Int32)), .val (.int (p5 &&& (3 : Int32))), .val (.int (p6.toInt8.toInt32)), .val (.ref ou), .val (.ref ex), .val (.int (p5 &&& (3 : Int32))), .unset] [(.ref ex)])
    refine own_step (fun _ k => XS.iload X35.here hx rfl (hb hby at_215) rfl k) ?_
    show own_Ends _ _ _ _ _ _ _ T35 (mkF m 217 #[.val (.int p1), .val (.int p2), .val (.int p3), .val (.int p4), .val (.int p5), .val (.int p6), .val (.ref bb), .val (.int (2 : Int32)), .val (.int (p5 &&& (3 : Int32))), .val (.int (p6.toInt8.toInt32)), .val (.ref ou), .val (.ref ex), .val (.int (p5 &&& (3 : Int32))), .unset] [(.int (p5 &&& (3 : Int32))), (.ref ex)])
    refine own_step (fun _ k => XS.aload X35.here hx rfl (hb hby at_217) rfl rfl k) ?_
    show own_Ends _ _ _ _ _ _ _ T35 (mkF m 219 #[.val (.int p1), .val (.int p2), .val (.int p3), .val (.int p4), .val (.int p5), .val (.int p6), .val (.ref bb), .val (.int (2 : Int32)), .val (.int (p5 &&& (3 : Int32))), .val (.int (p6.toInt8.toInt32)), .val (.ref ou), .val (.ref ex), .val (.int (p5 &&& (3 : Int32))), .unset] [(.ref bb), (.int (p5 &&& (3 : Int32))), (.ref ex)])
    refine own_step (fun _ k => XS.iconst X35.here hx rfl (hb hby at_219) k) ?_
    show own_Ends _ _ _ _ _ _ _ T35 (mkF m 220 #[.val (.int p1), .val (.int p2), .val (.int p3), .val (.int p4), .val (.int p5), .val (.int p6), .val (.ref bb), .val (.int (2 : Int32)), .val (.int (p5 &&& (3 : Int32))), .val (.int (p6.toInt8.toInt32)), .val (.ref ou), .val (.ref ex), .val (.int (p5 &&& (3 : Int32))), .unset] [(.int (0 : Int32)), (.ref bb), (.int (p5 &&& (3 : Int32))), (.ref ex)])
    refine own_step (own_ldB X35 hx hZ e35 U_bb (j := (0 : Int32)) (v := (.int (p1.toInt8.toInt32))) ⟨by decide, by decide⟩ rfl (g := (mkF m 220 #[.val (.int p1), .val (.int p2), .val (.int p3), .val (.int p4), .val (.int p5), .val (.int p6), .val (.ref bb), .val (.int (2 : Int32)), .val (.int (p5 &&& (3 : Int32))), .val (.int (p6.toInt8.toInt32)), .val (.ref ou), .val (.ref ex), .val (.int (p5 &&& (3 : Int32))), .unset] [(.int (0 : Int32)), (.ref bb), (.int (p5 &&& (3 : Int32))), (.ref ex)])) rfl rfl (hb hby at_220)) ?_
    show own_Ends _ _ _ _ _ _ _ T35 (mkF m 221 #[.val (.int p1), .val (.int p2), .val (.int p3), .val (.int p4), .val (.int p5), .val (.int p6), .val (.ref bb), .val (.int (2 : Int32)), .val (.int (p5 &&& (3 : Int32))), .val (.int (p6.toInt8.toInt32)), .val (.ref ou), .val (.ref ex), .val (.int (p5 &&& (3 : Int32))), .unset] [(.int (p1.toInt8.toInt32)), (.int (p5 &&& (3 : Int32))), (.ref ex)])
    refine own_callS X35 hx hZ (y := (⟨"com/example/gist_hash/gisthash/PercentCodingEscapePinLaw", "put", "([BIB)I"⟩ : MethodName)) hown (hw _ (List.mem_of_getElem? (i := 1) rfl)) (hw _ (List.mem_of_getElem? (i := 2) rfl)) (hw _ (List.mem_of_getElem? (i := 3) rfl)) (hw _ (List.mem_of_getElem? (i := 4) rfl)) (by decide) (rm1 l Z a0 hw [] ex (p5 &&& (3 : Int32)) (p1.toInt8.toInt32) k20 (own_wr (List.replicate 14 (p6.toInt8.toInt32)) (own_A p5) (own_all (fun t => List.getD [(p1.toInt8.toInt32), (p2.toInt8.toInt32), (p3.toInt8.toInt32)] t (0 : Int32)) 0)) _ h35 n0 Z35 U_ex (by rw [own_wr_len]; rfl) hz (by have := own_all3 (fun t => List.getD [(p1.toInt8.toInt32), (p2.toInt8.toInt32), (p3.toInt8.toInt32)] t (0 : Int32)) 0; omega) (own_bb _) g_ex) e35 0 (by decide) (by decide) (by decide) (by decide) (g := (mkF m 221 #[.val (.int p1), .val (.int p2), .val (.int p3), .val (.int p4), .val (.int p5), .val (.int p6), .val (.ref bb), .val (.int (2 : Int32)), .val (.int (p5 &&& (3 : Int32))), .val (.int (p6.toInt8.toInt32)), .val (.ref ou), .val (.ref ex), .val (.int (p5 &&& (3 : Int32))), .unset] [(.int (p1.toInt8.toInt32)), (.int (p5 &&& (3 : Int32))), (.ref ex)])) rfl (by rw [hml]; rfl) [(.ref ex), (.int (p5 &&& (3 : Int32))), (.int (p1.toInt8.toInt32))] [] pd_4 rfl rfl rfl (by show 2 * 0 + _ ≤ _; exact Nat.le_of_eq rfl) (hb hby at_221) ?_
    rintro v49 T49 L49 X49 ⟨r49, hr49, rfl, Nq49, K49, V49⟩
    have N49 := Fr.app N35 Nq49
    show own_Ends _ _ _ _ _ _ _ T49 (mkF m 224 #[.val (.int p1), .val (.int p2), .val (.int p3), .val (.int p4), .val (.int p5), .val (.int p6), .val (.ref bb), .val (.int (2 : Int32)), .val (.int (p5 &&& (3 : Int32))), .val (.int (p6.toInt8.toInt32)), .val (.ref ou), .val (.ref ex), .val (.int (p5 &&& (3 : Int32))), .unset] [(.int r49)])
    have Z49 := Nat.le_trans Z35 K49.1
    rw [Nat.add_assoc, ← List.length_append] at hr49
    rw [← own_wr_app] at V49
    have VE49 : Arv Z T49.heap ex k20 .byte (14 : Int32) ((own_wr (List.replicate 14 (p6.toInt8.toInt32)) (own_A p5) (own_all (fun t => List.getD [(p1.toInt8.toInt32), (p2.toInt8.toInt32), (p3.toInt8.toInt32)] t (0 : Int32)) 1)).map Value.int) (.int (0 : Int32)) := V49
    have hp49 : r49.toInt = (own_A p5 + (own_all (fun t => List.getD [(p1.toInt8.toInt32), (p2.toInt8.toInt32), (p3.toInt8.toInt32)] t (0 : Int32)) 1).length : Nat) := hr49
    refine own_step (fun _ k => XS.istore X49.here hx rfl (hb hby at_224) rfl (l' := #[.val (.int p1), .val (.int p2), .val (.int p3), .val (.int p4), .val (.int p5), .val (.int p6), .val (.ref bb), .val (.int (2 : Int32)), .val (.int (p5 &&& (3 : Int32))), .val (.int (p6.toInt8.toInt32)), .val (.ref ou), .val (.ref ex), .val (.int r49), .unset]) rfl k) ?_
    show own_Ends _ _ _ _ _ _ _ T49 (mkF m 226 #[.val (.int p1), .val (.int p2), .val (.int p3), .val (.int p4), .val (.int p5), .val (.int p6), .val (.ref bb), .val (.int (2 : Int32)), .val (.int (p5 &&& (3 : Int32))), .val (.int (p6.toInt8.toInt32)), .val (.ref ou), .val (.ref ex), .val (.int r49), .unset] [])
    refine own_step (fun _ k => XS.iload X49.here hx rfl (hb hby at_226) rfl k) ?_
    show own_Ends _ _ _ _ _ _ _ T49 (mkF m 228 #[.val (.int p1), .val (.int p2), .val (.int p3), .val (.int p4), .val (.int p5), .val (.int p6), .val (.ref bb), .val (.int (2 : Int32)), .val (.int (p5 &&& (3 : Int32))), .val (.int (p6.toInt8.toInt32)), .val (.ref ou), .val (.ref ex), .val (.int r49), .unset] [(.int (2 : Int32))])
    refine own_step (fun _ k => XS.iconst X49.here hx rfl (hb hby at_228) k) ?_
    show own_Ends _ _ _ _ _ _ _ T49 (mkF m 229 #[.val (.int p1), .val (.int p2), .val (.int p3), .val (.int p4), .val (.int p5), .val (.int p6), .val (.ref bb), .val (.int (2 : Int32)), .val (.int (p5 &&& (3 : Int32))), .val (.int (p6.toInt8.toInt32)), .val (.ref ou), .val (.ref ex), .val (.int r49), .unset] [(.int (1 : Int32)), (.int (2 : Int32))])
    refine own_step (fun _ k => XS.icmpNo X49.here hx rfl (hb hby at_229) rfl (tlt (by decide : (1 : Int32) < (2 : Int32))).2.2.2 k) ?_
    show own_Ends _ _ _ _ _ _ _ T49 (mkF m 232 #[.val (.int p1), .val (.int p2), .val (.int p3), .val (.int p4), .val (.int p5), .val (.int p6), .val (.ref bb), .val (.int (2 : Int32)), .val (.int (p5 &&& (3 : Int32))), .val (.int (p6.toInt8.toInt32)), .val (.ref ou), .val (.ref ex), .val (.int r49), .unset] [])
    refine own_step (fun _ k => XS.aload X49.here hx rfl (hb hby at_232) rfl rfl k) ?_
    show own_Ends _ _ _ _ _ _ _ T49 (mkF m 234 #[.val (.int p1), .val (.int p2), .val (.int p3), .val (.int p4), .val (.int p5), .val (.int p6), .val (.ref bb), .val (.int (2 : Int32)), .val (.int (p5 &&& (3 : Int32))), .val (.int (p6.toInt8.toInt32)), .val (.ref ou), .val (.ref ex), .val (.int r49), .unset] [(.ref ex)])
    refine own_step (fun _ k => XS.iload X49.here hx rfl (hb hby at_234) rfl k) ?_
    show own_Ends _ _ _ _ _ _ _ T49 (mkF m 236 #[.val (.int p1), .val (.int p2), .val (.int p3), .val (.int p4), .val (.int p5), .val (.int p6), .val (.ref bb), .val (.int (2 : Int32)), .val (.int (p5 &&& (3 : Int32))), .val (.int (p6.toInt8.toInt32)), .val (.ref ou), .val (.ref ex), .val (.int r49), .unset] [(.int r49), (.ref ex)])
    refine own_step (fun _ k => XS.aload X49.here hx rfl (hb hby at_236) rfl rfl k) ?_
    show own_Ends _ _ _ _ _ _ _ T49 (mkF m 238 #[.val (.int p1), .val (.int p2), .val (.int p3), .val (.int p4), .val (.int p5), .val (.int p6), .val (.ref bb), .val (.int (2 : Int32)), .val (.int (p5 &&& (3 : Int32))), .val (.int (p6.toInt8.toInt32)), .val (.ref ou), .val (.ref ex), .val (.int r49), .unset] [(.ref bb), (.int r49), (.ref ex)])
    refine own_step (fun _ k => XS.iconst X49.here hx rfl (hb hby at_238) k) ?_
    show own_Ends _ _ _ _ _ _ _ T49 (mkF m 239 #[.val (.int p1), .val (.int p2), .val (.int p3), .val (.int p4), .val (.int p5), .val (.int p6), .val (.ref bb), .val (.int (2 : Int32)), .val (.int (p5 &&& (3 : Int32))), .val (.int (p6.toInt8.toInt32)), .val (.ref ou), .val (.ref ex), .val (.int r49), .unset] [(.int (1 : Int32)), (.ref bb), (.int r49), (.ref ex)])
    have Q50 := (U_bb.keep K49 (ninS ne_bb_ex nin0))
    refine own_step (own_ldB X49 hx hZ rfl Q50 (j := (1 : Int32)) (v := (.int (p2.toInt8.toInt32))) ⟨by decide, by decide⟩ rfl (g := (mkF m 239 #[.val (.int p1), .val (.int p2), .val (.int p3), .val (.int p4), .val (.int p5), .val (.int p6), .val (.ref bb), .val (.int (2 : Int32)), .val (.int (p5 &&& (3 : Int32))), .val (.int (p6.toInt8.toInt32)), .val (.ref ou), .val (.ref ex), .val (.int r49), .unset] [(.int (1 : Int32)), (.ref bb), (.int r49), (.ref ex)])) rfl rfl (hb hby at_239)) ?_
    show own_Ends _ _ _ _ _ _ _ T49 (mkF m 240 #[.val (.int p1), .val (.int p2), .val (.int p3), .val (.int p4), .val (.int p5), .val (.int p6), .val (.ref bb), .val (.int (2 : Int32)), .val (.int (p5 &&& (3 : Int32))), .val (.int (p6.toInt8.toInt32)), .val (.ref ou), .val (.ref ex), .val (.int r49), .unset] [(.int (p2.toInt8.toInt32)), (.int r49), (.ref ex)])
    refine own_callS X49 hx hZ (y := (⟨"com/example/gist_hash/gisthash/PercentCodingEscapePinLaw", "put", "([BIB)I"⟩ : MethodName)) hown (hw _ (List.mem_of_getElem? (i := 1) rfl)) (hw _ (List.mem_of_getElem? (i := 2) rfl)) (hw _ (List.mem_of_getElem? (i := 3) rfl)) (hw _ (List.mem_of_getElem? (i := 4) rfl)) (by decide) (rm1 l Z a0 hw [] ex r49 (p2.toInt8.toInt32) k20 (own_wr (List.replicate 14 (p6.toInt8.toInt32)) (own_A p5) (own_all (fun t => List.getD [(p1.toInt8.toInt32), (p2.toInt8.toInt32), (p3.toInt8.toInt32)] t (0 : Int32)) 1)) _ T49.heap n0 Z49 VE49 (by rw [own_wr_len]; rfl) hp49 (by have := own_all3 (fun t => List.getD [(p1.toInt8.toInt32), (p2.toInt8.toInt32), (p3.toInt8.toInt32)] t (0 : Int32)) 1; omega) (own_bb _) g_ex) rfl 0 (by decide) (by decide) (by decide) (by decide) (g := (mkF m 240 #[.val (.int p1), .val (.int p2), .val (.int p3), .val (.int p4), .val (.int p5), .val (.int p6), .val (.ref bb), .val (.int (2 : Int32)), .val (.int (p5 &&& (3 : Int32))), .val (.int (p6.toInt8.toInt32)), .val (.ref ou), .val (.ref ex), .val (.int r49), .unset] [(.int (p2.toInt8.toInt32)), (.int r49), (.ref ex)])) rfl (by rw [hml]; rfl) [(.ref ex), (.int r49), (.int (p2.toInt8.toInt32))] [] pd_4 rfl rfl rfl (by show 2 * 0 + _ ≤ _; exact Nat.le_of_eq rfl) (hb hby at_240) ?_
    rintro v51 T51 L51 X51 ⟨r51, hr51, rfl, Nq51, K51, V51⟩
    have N51 := Fr.app N49 Nq51
    show own_Ends _ _ _ _ _ _ _ T51 (mkF m 243 #[.val (.int p1), .val (.int p2), .val (.int p3), .val (.int p4), .val (.int p5), .val (.int p6), .val (.ref bb), .val (.int (2 : Int32)), .val (.int (p5 &&& (3 : Int32))), .val (.int (p6.toInt8.toInt32)), .val (.ref ou), .val (.ref ex), .val (.int r49), .unset] [(.int r51)])
    have Z51 := Nat.le_trans Z49 K51.1
    rw [Nat.add_assoc, ← List.length_append] at hr51
    rw [← own_wr_app] at V51
    have VE51 : Arv Z T51.heap ex k20 .byte (14 : Int32) ((own_wr (List.replicate 14 (p6.toInt8.toInt32)) (own_A p5) (own_all (fun t => List.getD [(p1.toInt8.toInt32), (p2.toInt8.toInt32), (p3.toInt8.toInt32)] t (0 : Int32)) 2)).map Value.int) (.int (0 : Int32)) := V51
    have hp51 : r51.toInt = (own_A p5 + (own_all (fun t => List.getD [(p1.toInt8.toInt32), (p2.toInt8.toInt32), (p3.toInt8.toInt32)] t (0 : Int32)) 2).length : Nat) := hr51
    refine own_step (fun _ k => XS.istore X51.here hx rfl (hb hby at_243) rfl (l' := #[.val (.int p1), .val (.int p2), .val (.int p3), .val (.int p4), .val (.int p5), .val (.int p6), .val (.ref bb), .val (.int (2 : Int32)), .val (.int (p5 &&& (3 : Int32))), .val (.int (p6.toInt8.toInt32)), .val (.ref ou), .val (.ref ex), .val (.int r51), .unset]) rfl k) ?_
    show own_Ends _ _ _ _ _ _ _ T51 (mkF m 245 #[.val (.int p1), .val (.int p2), .val (.int p3), .val (.int p4), .val (.int p5), .val (.int p6), .val (.ref bb), .val (.int (2 : Int32)), .val (.int (p5 &&& (3 : Int32))), .val (.int (p6.toInt8.toInt32)), .val (.ref ou), .val (.ref ex), .val (.int r51), .unset] [])
    refine own_step (fun _ k => XS.iload X51.here hx rfl (hb hby at_245) rfl k) ?_
    show own_Ends _ _ _ _ _ _ _ T51 (mkF m 247 #[.val (.int p1), .val (.int p2), .val (.int p3), .val (.int p4), .val (.int p5), .val (.int p6), .val (.ref bb), .val (.int (2 : Int32)), .val (.int (p5 &&& (3 : Int32))), .val (.int (p6.toInt8.toInt32)), .val (.ref ou), .val (.ref ex), .val (.int r51), .unset] [(.int (2 : Int32))])
    refine own_step (fun _ k => XS.iconst X51.here hx rfl (hb hby at_247) k) ?_
    show own_Ends _ _ _ _ _ _ _ T51 (mkF m 248 #[.val (.int p1), .val (.int p2), .val (.int p3), .val (.int p4), .val (.int p5), .val (.int p6), .val (.ref bb), .val (.int (2 : Int32)), .val (.int (p5 &&& (3 : Int32))), .val (.int (p6.toInt8.toInt32)), .val (.ref ou), .val (.ref ex), .val (.int r51), .unset] [(.int (2 : Int32)), (.int (2 : Int32))])
    refine own_step (fun _ k => XS.icmpYes X51.here hx rfl (pc0 := 248) (pc' := 264) rfl (hb hby at_248) rfl (flt (by decide : ¬ ((2 : Int32) < (2 : Int32)))).2.2.2 (by decide) (by decide) k) ?_
    show own_Ends _ _ _ _ _ _ _ T51 (mkF m 264 #[.val (.int p1), .val (.int p2), .val (.int p3), .val (.int p4), .val (.int p5), .val (.int p6), .val (.ref bb), .val (.int (2 : Int32)), .val (.int (p5 &&& (3 : Int32))), .val (.int (p6.toInt8.toInt32)), .val (.ref ou), .val (.ref ex), .val (.int r51), .unset] [])
    refine own_step (fun _ k => XS.aload X51.here hx rfl (hb hby at_264) rfl rfl k) ?_
    show own_Ends _ _ _ _ _ _ _ T51 (mkF m 266 #[.val (.int p1), .val (.int p2), .val (.int p3), .val (.int p4), .val (.int p5), .val (.int p6), .val (.ref bb), .val (.int (2 : Int32)), .val (.int (p5 &&& (3 : Int32))), .val (.int (p6.toInt8.toInt32)), .val (.ref ou), .val (.ref ex), .val (.int r51), .unset] [(.ref bb)])
    refine own_step (fun _ k => XS.iload X51.here hx rfl (hb hby at_266) rfl k) ?_
    show own_Ends _ _ _ _ _ _ _ T51 (mkF m 268 #[.val (.int p1), .val (.int p2), .val (.int p3), .val (.int p4), .val (.int p5), .val (.int p6), .val (.ref bb), .val (.int (2 : Int32)), .val (.int (p5 &&& (3 : Int32))), .val (.int (p6.toInt8.toInt32)), .val (.ref ou), .val (.ref ex), .val (.int r51), .unset] [(.int (2 : Int32)), (.ref bb)])
    refine own_step (fun _ k => XS.aload X51.here hx rfl (hb hby at_268) rfl rfl k) ?_
    show own_Ends _ _ _ _ _ _ _ T51 (mkF m 270 #[.val (.int p1), .val (.int p2), .val (.int p3), .val (.int p4), .val (.int p5), .val (.int p6), .val (.ref bb), .val (.int (2 : Int32)), .val (.int (p5 &&& (3 : Int32))), .val (.int (p6.toInt8.toInt32)), .val (.ref ou), .val (.ref ex), .val (.int r51), .unset] [(.ref ou), (.int (2 : Int32)), (.ref bb)])
    refine own_step (fun _ k => XS.iload X51.here hx rfl (hb hby at_270) rfl k) ?_
    show own_Ends _ _ _ _ _ _ _ T51 (mkF m 272 #[.val (.int p1), .val (.int p2), .val (.int p3), .val (.int p4), .val (.int p5), .val (.int p6), .val (.ref bb), .val (.int (2 : Int32)), .val (.int (p5 &&& (3 : Int32))), .val (.int (p6.toInt8.toInt32)), .val (.ref ou), .val (.ref ex), .val (.int r51), .unset] [(.int (p5 &&& (3 : Int32))), (.ref ou), (.int (2 : Int32)), (.ref bb)])
    have Q52 := ((((((((((((((((((((((((((((((((((((O0.ext E1).wr W2 g_bb).wr W3 g_bb).wr W4 g_bb).ext E5).wr W6 g_ou).wr W7 g_ou).wr W8 g_ou).wr W9 g_ou).wr W10 g_ou).wr W11 g_ou).wr W12 g_ou).wr W13 g_ou).wr W14 g_ou).wr W15 g_ou).wr W16 g_ou).wr W17 g_ou).wr W18 g_ou).wr W19 g_ou).ext E20).wr W22 g_ex).wr W23 g_ex).wr W24 g_ex).wr W25 g_ex).wr W26 g_ex).wr W27 g_ex).wr W28 g_ex).wr W29 g_ex).wr W30 g_ex).wr W31 g_ex).wr W32 g_ex).wr W33 g_ex).wr W34 g_ex).wr W35 g_ex).keep K49 (allS g_ex all0)).keep K51 (allS g_ex all0))
    have Q53 := (Q50.keep K51 (ninS ne_bb_ex nin0))
    have Q54 := ((U_ou.keep K49 (ninS ne_ou_ex nin0)).keep K51 (ninS ne_ou_ex nin0))
    refine own_callS X51 hx hZ (y := (⟨"com/example/gist_hash/gisthash/PercentCoding", "escape", "([BI[BI)I"⟩ : MethodName)) hown (hw _ (List.mem_of_getElem? (i := 8) rfl)) (hw _ (List.mem_of_getElem? (i := 9) rfl)) (hw _ (List.mem_of_getElem? (i := 10) rfl)) (hw _ (List.mem_of_getElem? (i := 11) rfl)) (by decide) (rm3 l Z a0 hw [] bb (2 : Int32) ou (p5 &&& (3 : Int32)) k1 k5 uh ku [(p1.toInt8.toInt32), (p2.toInt8.toInt32), (p3.toInt8.toInt32)] (List.replicate 14 (p6.toInt8.toInt32)) 2 _ T51.heap n0 Z51 Q52 SH VH Q53 Q54 rfl ne_bb_ou (by decide) (by decide) (own_Ar p5).1 (by have := (own_Ar p5).2; omega) (own_bs3 p1 p2 p3) g_ou) rfl 0 (by decide) (by decide) (by decide) (by decide) (g := (mkF m 272 #[.val (.int p1), .val (.int p2), .val (.int p3), .val (.int p4), .val (.int p5), .val (.int p6), .val (.ref bb), .val (.int (2 : Int32)), .val (.int (p5 &&& (3 : Int32))), .val (.int (p6.toInt8.toInt32)), .val (.ref ou), .val (.ref ex), .val (.int r51), .unset] [(.int (p5 &&& (3 : Int32))), (.ref ou), (.int (2 : Int32)), (.ref bb)])) rfl (by rw [hml]; rfl) [(.ref bb), (.int (2 : Int32)), (.ref ou), (.int (p5 &&& (3 : Int32)))] [] pd_2 rfl rfl rfl (by show 2 * 0 + _ ≤ _; exact Nat.le_of_eq rfl) (hb hby at_272) ?_
    rintro v55 T55 L55 X55 ⟨r55, hr55, rfl, Nq55, K55, V55⟩
    have N55 := Fr.app N51 Nq55
    show own_Ends _ _ _ _ _ _ _ T55 (mkF m 275 #[.val (.int p1), .val (.int p2), .val (.int p3), .val (.int p4), .val (.int p5), .val (.int p6), .val (.ref bb), .val (.int (2 : Int32)), .val (.int (p5 &&& (3 : Int32))), .val (.int (p6.toInt8.toInt32)), .val (.ref ou), .val (.ref ex), .val (.int r51), .unset] [(.int r55)])
    have Z55 := Nat.le_trans Z51 K55.1
    have heq : r55 = r51 := Int32.toInt_inj.mp (hr55.trans hp51.symm)
    refine own_step (fun _ k => XS.istore X55.here hx rfl (hb hby at_275) rfl (l' := #[.val (.int p1), .val (.int p2), .val (.int p3), .val (.int p4), .val (.int p5), .val (.int p6), .val (.ref bb), .val (.int (2 : Int32)), .val (.int (p5 &&& (3 : Int32))), .val (.int (p6.toInt8.toInt32)), .val (.ref ou), .val (.ref ex), .val (.int r51), .val (.int r55)]) rfl k) ?_
    show own_Ends _ _ _ _ _ _ _ T55 (mkF m 277 #[.val (.int p1), .val (.int p2), .val (.int p3), .val (.int p4), .val (.int p5), .val (.int p6), .val (.ref bb), .val (.int (2 : Int32)), .val (.int (p5 &&& (3 : Int32))), .val (.int (p6.toInt8.toInt32)), .val (.ref ou), .val (.ref ex), .val (.int r51), .val (.int r55)] [])
    refine own_step (fun _ k => XS.iload X55.here hx rfl (hb hby at_277) rfl k) ?_
    show own_Ends _ _ _ _ _ _ _ T55 (mkF m 279 #[.val (.int p1), .val (.int p2), .val (.int p3), .val (.int p4), .val (.int p5), .val (.int p6), .val (.ref bb), .val (.int (2 : Int32)), .val (.int (p5 &&& (3 : Int32))), .val (.int (p6.toInt8.toInt32)), .val (.ref ou), .val (.ref ex), .val (.int r51), .val (.int r55)] [(.int r55)])
    refine own_step (fun _ k => XS.iload X55.here hx rfl (hb hby at_279) rfl k) ?_
    show own_Ends _ _ _ _ _ _ _ T55 (mkF m 281 #[.val (.int p1), .val (.int p2), .val (.int p3), .val (.int p4), .val (.int p5), .val (.int p6), .val (.ref bb), .val (.int (2 : Int32)), .val (.int (p5 &&& (3 : Int32))), .val (.int (p6.toInt8.toInt32)), .val (.ref ou), .val (.ref ex), .val (.int r51), .val (.int r55)] [(.int r51), (.int r55)])
    refine own_step (fun _ k => XS.icmpNo X55.here hx rfl (hb hby at_281) rfl (teq heq).2 k) ?_
    show own_Ends _ _ _ _ _ _ _ T55 (mkF m 284 #[.val (.int p1), .val (.int p2), .val (.int p3), .val (.int p4), .val (.int p5), .val (.int p6), .val (.ref bb), .val (.int (2 : Int32)), .val (.int (p5 &&& (3 : Int32))), .val (.int (p6.toInt8.toInt32)), .val (.ref ou), .val (.ref ex), .val (.int r51), .val (.int r55)] [])
    refine own_step (fun _ k => XS.aload X55.here hx rfl (hb hby at_284) rfl rfl k) ?_
    show own_Ends _ _ _ _ _ _ _ T55 (mkF m 286 #[.val (.int p1), .val (.int p2), .val (.int p3), .val (.int p4), .val (.int p5), .val (.int p6), .val (.ref bb), .val (.int (2 : Int32)), .val (.int (p5 &&& (3 : Int32))), .val (.int (p6.toInt8.toInt32)), .val (.ref ou), .val (.ref ex), .val (.int r51), .val (.int r55)] [(.ref ou)])
    refine own_step (fun _ k => XS.aload X55.here hx rfl (hb hby at_286) rfl rfl k) ?_
    show own_Ends _ _ _ _ _ _ _ T55 (mkF m 288 #[.val (.int p1), .val (.int p2), .val (.int p3), .val (.int p4), .val (.int p5), .val (.int p6), .val (.ref bb), .val (.int (2 : Int32)), .val (.int (p5 &&& (3 : Int32))), .val (.int (p6.toInt8.toInt32)), .val (.ref ou), .val (.ref ex), .val (.int r51), .val (.int r55)] [(.ref ex), (.ref ou)])
    have Q56 := (VE51.keep K55 (ninS (Ne.symm ne_ou_ex) nin0))
    refine own_callS X55 hx hZ (y := (⟨"com/example/gist_hash/gisthash/PercentCodingEscapePinLaw", "same", "([B[B)Z"⟩ : MethodName)) hown (hw _ (List.mem_of_getElem? (i := 21) rfl)) (hw _ (List.mem_of_getElem? (i := 22) rfl)) (hw _ (List.mem_of_getElem? (i := 3) rfl)) (hw _ (List.mem_of_getElem? (i := 23) rfl)) (by decide) (rm5 l Z a0 hw [] ou ex k5 k20 (own_wr (List.replicate 14 (p6.toInt8.toInt32)) (own_A p5) (own_all (fun t => List.getD [(p1.toInt8.toInt32), (p2.toInt8.toInt32), (p3.toInt8.toInt32)] t (0 : Int32)) 2)) T55.heap n0 Z55 V55 Q56) rfl 0 (by decide) (by decide) (by decide) (by decide) (g := (mkF m 288 #[.val (.int p1), .val (.int p2), .val (.int p3), .val (.int p4), .val (.int p5), .val (.int p6), .val (.ref bb), .val (.int (2 : Int32)), .val (.int (p5 &&& (3 : Int32))), .val (.int (p6.toInt8.toInt32)), .val (.ref ou), .val (.ref ex), .val (.int r51), .val (.int r55)] [(.ref ex), (.ref ou)])) rfl (by rw [hml]; rfl) [(.ref ou), (.ref ex)] [] pd_3 rfl rfl rfl (by show 2 * 0 + _ ≤ _; exact Nat.le_of_eq rfl) (hb hby at_288) ?_
    rintro v57 T57 L57 X57 ⟨rfl, Nq57, e57⟩
    have N57 := Fr.app N55 Nq57
    show own_Ends _ _ _ _ _ _ _ T57 (mkF m 291 #[.val (.int p1), .val (.int p2), .val (.int p3), .val (.int p4), .val (.int p5), .val (.int p6), .val (.ref bb), .val (.int (2 : Int32)), .val (.int (p5 &&& (3 : Int32))), .val (.int (p6.toInt8.toInt32)), .val (.ref ou), .val (.ref ex), .val (.int r51), .val (.int r55)] [(.int (1 : Int32))])
    refine own_step (fun _ k => XS.ifNo X57.here hx rfl (hb hby at_291) rfl ((if0 _ _).trans (feq (by decide : ¬ ((1 : Int32) = (0 : Int32)))).1) k) ?_
    show own_Ends _ _ _ _ _ _ _ T57 (mkF m 294 #[.val (.int p1), .val (.int p2), .val (.int p3), .val (.int p4), .val (.int p5), .val (.int p6), .val (.ref bb), .val (.int (2 : Int32)), .val (.int (p5 &&& (3 : Int32))), .val (.int (p6.toInt8.toInt32)), .val (.ref ou), .val (.ref ex), .val (.int r51), .val (.int r55)] [])
    refine own_step (fun _ k => XS.iconst X57.here hx rfl (hb hby at_294) k) ?_
    show own_Ends _ _ _ _ _ _ _ T57 (mkF m 295 #[.val (.int p1), .val (.int p2), .val (.int p3), .val (.int p4), .val (.int p5), .val (.int p6), .val (.ref bb), .val (.int (2 : Int32)), .val (.int (p5 &&& (3 : Int32))), .val (.int (p6.toInt8.toInt32)), .val (.ref ou), .val (.ref ex), .val (.int r51), .val (.int r55)] [(.int (1 : Int32))])
    refine own_step (fun _ k => XS.goto X57.here hx rfl (pc0 := 295) (pc' := 299) rfl (hb hby at_295) (by decide) (by decide) k) ?_
    show own_Ends _ _ _ _ _ _ _ T57 (mkF m 299 #[.val (.int p1), .val (.int p2), .val (.int p3), .val (.int p4), .val (.int p5), .val (.int p6), .val (.ref bb), .val (.int (2 : Int32)), .val (.int (p5 &&& (3 : Int32))), .val (.int (p6.toInt8.toInt32)), .val (.ref ou), .val (.ref ex), .val (.int r51), .val (.int r55)] [(.int (1 : Int32))])
    exact own_retN X57 hx (t := .boolean) hret (by simp) hlk (hb hby at_299) rfl ⟨rfl, N57⟩ (by decide) (by decide)
  · rw [hq]
    show own_Ends _ _ _ _ _ _ _ T35 (mkF m 204 #[.val (.int p1), .val (.int p2), .val (.int p3), .val (.int p4), .val (.int p5), .val (.int p6), .val (.ref bb), .val (.int (3 : Int32)), .val (.int (p5 &&& (3 : Int32))), .val (.int (p6.toInt8.toInt32)), .val (.ref ou), .val (.ref ex), .unset, .unset] [])
    have hAr := (own_Ar p5).2
    have hz : (p5 &&& (3 : Int32)).toInt = (own_A p5 + (own_all (fun t => List.getD [(p1.toInt8.toInt32), (p2.toInt8.toInt32), (p3.toInt8.toInt32)] t (0 : Int32)) 0).length : Nat) := (own_Ar p5).1
    refine own_step (fun _ k => XS.iload X35.here hx rfl (hb hby at_204) rfl k) ?_
    show own_Ends _ _ _ _ _ _ _ T35 (mkF m 206 #[.val (.int p1), .val (.int p2), .val (.int p3), .val (.int p4), .val (.int p5), .val (.int p6), .val (.ref bb), .val (.int (3 : Int32)), .val (.int (p5 &&& (3 : Int32))), .val (.int (p6.toInt8.toInt32)), .val (.ref ou), .val (.ref ex), .unset, .unset] [(.int (p5 &&& (3 : Int32)))])
    refine own_step (fun _ k => XS.istore X35.here hx rfl (hb hby at_206) rfl (l' := #[.val (.int p1), .val (.int p2), .val (.int p3), .val (.int p4), .val (.int p5), .val (.int p6), .val (.ref bb), .val (.int (3 : Int32)), .val (.int (p5 &&& (3 : Int32))), .val (.int (p6.toInt8.toInt32)), .val (.ref ou), .val (.ref ex), .val (.int (p5 &&& (3 : Int32))), .unset]) rfl k) ?_
    show own_Ends _ _ _ _ _ _ _ T35 (mkF m 208 #[.val (.int p1), .val (.int p2), .val (.int p3), .val (.int p4), .val (.int p5), .val (.int p6), .val (.ref bb), .val (.int (3 : Int32)), .val (.int (p5 &&& (3 : Int32))), .val (.int (p6.toInt8.toInt32)), .val (.ref ou), .val (.ref ex), .val (.int (p5 &&& (3 : Int32))), .unset] [])
    refine own_step (fun _ k => XS.iload X35.here hx rfl (hb hby at_208) rfl k) ?_
    show own_Ends _ _ _ _ _ _ _ T35 (mkF m 210 #[.val (.int p1), .val (.int p2), .val (.int p3), .val (.int p4), .val (.int p5), .val (.int p6), .val (.ref bb), .val (.int (3 : Int32)), .val (.int (p5 &&& (3 : Int32))), .val (.int (p6.toInt8.toInt32)), .val (.ref ou), .val (.ref ex), .val (.int (p5 &&& (3 : Int32))), .unset] [(.int (3 : Int32))])
    refine own_step (fun _ k => XS.ifNo X35.here hx rfl (hb hby at_210) rfl ((if0 _ _).trans (tlt (by decide : (0 : Int32) < (3 : Int32))).2.2.2) k) ?_
    show own_Ends _ _ _ _ _ _ _ T35 (mkF m 213 #[.val (.int p1), .val (.int p2), .val (.int p3), .val (.int p4), .val (.int p5), .val (.int p6), .val (.ref bb), .val (.int (3 : Int32)), .val (.int (p5 &&& (3 : Int32))), .val (.int (p6.toInt8.toInt32)), .val (.ref ou), .val (.ref ex), .val (.int (p5 &&& (3 : Int32))), .unset] [])
    refine own_step (fun _ k => XS.aload X35.here hx rfl (hb hby at_213) rfl rfl k) ?_
    show own_Ends _ _ _ _ _ _ _ T35 (mkF m 215 #[.val (.int p1), .val (.int p2), .val (.int p3), .val (.int p4), .val (.int p5), .val (.int p6), .val (.ref bb), .val (.int (3 : Int32)), .val (.int (p5 &&& (3 : Int32))), .val (.int (p6.toInt8.toInt32)), .val (.ref ou), .val (.ref ex), .val (.int (p5 &&& (3 : Int32))), .unset] [(.ref ex)])
    refine own_step (fun _ k => XS.iload X35.here hx rfl (hb hby at_215) rfl k) ?_
    show own_Ends _ _ _ _ _ _ _ T35 (mkF m 217 #[.val (.int p1), .val (.int p2), .val (.int p3), .val (.int p4), .val (.int p5), .val (.int p6), .val (.ref bb), .val (.int (3 : Int32)), .val (.int (p5 &&& (3 : Int32))), .val (.int (p6.toInt8.toInt32)), .val (.ref ou), .val (.ref ex), .val (.int (p5 &&& (3 : Int32))), .unset] [(.int (p5 &&& (3 : Int32))), (.ref ex)])
    refine own_step (fun _ k => XS.aload X35.here hx rfl (hb hby at_217) rfl rfl k) ?_
    show own_Ends _ _ _ _ _ _ _ T35 (mkF m 219 #[.val (.int p1), .val (.int p2), .val (.int p3), .val (.int p4), .val (.int p5), .val (.int p6), .val (.ref bb), .val (.int (3 : Int32)), .val (.int (p5 &&& (3 : Int32))), .val (.int (p6.toInt8.toInt32)), .val (.ref ou), .val (.ref ex), .val (.int (p5 &&& (3 : Int32))), .unset] [(.ref bb), (.int (p5 &&& (3 : Int32))), (.ref ex)])
    refine own_step (fun _ k => XS.iconst X35.here hx rfl (hb hby at_219) k) ?_
    show own_Ends _ _ _ _ _ _ _ T35 (mkF m 220 #[.val (.int p1), .val (.int p2), .val (.int p3), .val (.int p4), .val (.int p5), .val (.int p6), .val (.ref bb), .val (.int (3 : Int32)), .val (.int (p5 &&& (3 : Int32))), .val (.int (p6.toInt8.toInt32)), .val (.ref ou), .val (.ref ex), .val (.int (p5 &&& (3 : Int32))), .unset] [(.int (0 : Int32)), (.ref bb), (.int (p5 &&& (3 : Int32))), (.ref ex)])
    refine own_step (own_ldB X35 hx hZ e35 U_bb (j := (0 : Int32)) (v := (.int (p1.toInt8.toInt32))) ⟨by decide, by decide⟩ rfl (g := (mkF m 220 #[.val (.int p1), .val (.int p2), .val (.int p3), .val (.int p4), .val (.int p5), .val (.int p6), .val (.ref bb), .val (.int (3 : Int32)), .val (.int (p5 &&& (3 : Int32))), .val (.int (p6.toInt8.toInt32)), .val (.ref ou), .val (.ref ex), .val (.int (p5 &&& (3 : Int32))), .unset] [(.int (0 : Int32)), (.ref bb), (.int (p5 &&& (3 : Int32))), (.ref ex)])) rfl rfl (hb hby at_220)) ?_
    show own_Ends _ _ _ _ _ _ _ T35 (mkF m 221 #[.val (.int p1), .val (.int p2), .val (.int p3), .val (.int p4), .val (.int p5), .val (.int p6), .val (.ref bb), .val (.int (3 : Int32)), .val (.int (p5 &&& (3 : Int32))), .val (.int (p6.toInt8.toInt32)), .val (.ref ou), .val (.ref ex), .val (.int (p5 &&& (3 : Int32))), .unset] [(.int (p1.toInt8.toInt32)), (.int (p5 &&& (3 : Int32))), (.ref ex)])
    refine own_callS X35 hx hZ (y := (⟨"com/example/gist_hash/gisthash/PercentCodingEscapePinLaw", "put", "([BIB)I"⟩ : MethodName)) hown (hw _ (List.mem_of_getElem? (i := 1) rfl)) (hw _ (List.mem_of_getElem? (i := 2) rfl)) (hw _ (List.mem_of_getElem? (i := 3) rfl)) (hw _ (List.mem_of_getElem? (i := 4) rfl)) (by decide) (rm1 l Z a0 hw [] ex (p5 &&& (3 : Int32)) (p1.toInt8.toInt32) k20 (own_wr (List.replicate 14 (p6.toInt8.toInt32)) (own_A p5) (own_all (fun t => List.getD [(p1.toInt8.toInt32), (p2.toInt8.toInt32), (p3.toInt8.toInt32)] t (0 : Int32)) 0)) _ h35 n0 Z35 U_ex (by rw [own_wr_len]; rfl) hz (by have := own_all3 (fun t => List.getD [(p1.toInt8.toInt32), (p2.toInt8.toInt32), (p3.toInt8.toInt32)] t (0 : Int32)) 0; omega) (own_bb _) g_ex) e35 0 (by decide) (by decide) (by decide) (by decide) (g := (mkF m 221 #[.val (.int p1), .val (.int p2), .val (.int p3), .val (.int p4), .val (.int p5), .val (.int p6), .val (.ref bb), .val (.int (3 : Int32)), .val (.int (p5 &&& (3 : Int32))), .val (.int (p6.toInt8.toInt32)), .val (.ref ou), .val (.ref ex), .val (.int (p5 &&& (3 : Int32))), .unset] [(.int (p1.toInt8.toInt32)), (.int (p5 &&& (3 : Int32))), (.ref ex)])) rfl (by rw [hml]; rfl) [(.ref ex), (.int (p5 &&& (3 : Int32))), (.int (p1.toInt8.toInt32))] [] pd_4 rfl rfl rfl (by show 2 * 0 + _ ≤ _; exact Nat.le_of_eq rfl) (hb hby at_221) ?_
    rintro v58 T58 L58 X58 ⟨r58, hr58, rfl, Nq58, K58, V58⟩
    have N58 := Fr.app N35 Nq58
    show own_Ends _ _ _ _ _ _ _ T58 (mkF m 224 #[.val (.int p1), .val (.int p2), .val (.int p3), .val (.int p4), .val (.int p5), .val (.int p6), .val (.ref bb), .val (.int (3 : Int32)), .val (.int (p5 &&& (3 : Int32))), .val (.int (p6.toInt8.toInt32)), .val (.ref ou), .val (.ref ex), .val (.int (p5 &&& (3 : Int32))), .unset] [(.int r58)])
    have Z58 := Nat.le_trans Z35 K58.1
    rw [Nat.add_assoc, ← List.length_append] at hr58
    rw [← own_wr_app] at V58
    have VE58 : Arv Z T58.heap ex k20 .byte (14 : Int32) ((own_wr (List.replicate 14 (p6.toInt8.toInt32)) (own_A p5) (own_all (fun t => List.getD [(p1.toInt8.toInt32), (p2.toInt8.toInt32), (p3.toInt8.toInt32)] t (0 : Int32)) 1)).map Value.int) (.int (0 : Int32)) := V58
    have hp58 : r58.toInt = (own_A p5 + (own_all (fun t => List.getD [(p1.toInt8.toInt32), (p2.toInt8.toInt32), (p3.toInt8.toInt32)] t (0 : Int32)) 1).length : Nat) := hr58
    refine own_step (fun _ k => XS.istore X58.here hx rfl (hb hby at_224) rfl (l' := #[.val (.int p1), .val (.int p2), .val (.int p3), .val (.int p4), .val (.int p5), .val (.int p6), .val (.ref bb), .val (.int (3 : Int32)), .val (.int (p5 &&& (3 : Int32))), .val (.int (p6.toInt8.toInt32)), .val (.ref ou), .val (.ref ex), .val (.int r58), .unset]) rfl k) ?_
    show own_Ends _ _ _ _ _ _ _ T58 (mkF m 226 #[.val (.int p1), .val (.int p2), .val (.int p3), .val (.int p4), .val (.int p5), .val (.int p6), .val (.ref bb), .val (.int (3 : Int32)), .val (.int (p5 &&& (3 : Int32))), .val (.int (p6.toInt8.toInt32)), .val (.ref ou), .val (.ref ex), .val (.int r58), .unset] [])
    refine own_step (fun _ k => XS.iload X58.here hx rfl (hb hby at_226) rfl k) ?_
    show own_Ends _ _ _ _ _ _ _ T58 (mkF m 228 #[.val (.int p1), .val (.int p2), .val (.int p3), .val (.int p4), .val (.int p5), .val (.int p6), .val (.ref bb), .val (.int (3 : Int32)), .val (.int (p5 &&& (3 : Int32))), .val (.int (p6.toInt8.toInt32)), .val (.ref ou), .val (.ref ex), .val (.int r58), .unset] [(.int (3 : Int32))])
    refine own_step (fun _ k => XS.iconst X58.here hx rfl (hb hby at_228) k) ?_
    show own_Ends _ _ _ _ _ _ _ T58 (mkF m 229 #[.val (.int p1), .val (.int p2), .val (.int p3), .val (.int p4), .val (.int p5), .val (.int p6), .val (.ref bb), .val (.int (3 : Int32)), .val (.int (p5 &&& (3 : Int32))), .val (.int (p6.toInt8.toInt32)), .val (.ref ou), .val (.ref ex), .val (.int r58), .unset] [(.int (1 : Int32)), (.int (3 : Int32))])
    refine own_step (fun _ k => XS.icmpNo X58.here hx rfl (hb hby at_229) rfl (tlt (by decide : (1 : Int32) < (3 : Int32))).2.2.2 k) ?_
    show own_Ends _ _ _ _ _ _ _ T58 (mkF m 232 #[.val (.int p1), .val (.int p2), .val (.int p3), .val (.int p4), .val (.int p5), .val (.int p6), .val (.ref bb), .val (.int (3 : Int32)), .val (.int (p5 &&& (3 : Int32))), .val (.int (p6.toInt8.toInt32)), .val (.ref ou), .val (.ref ex), .val (.int r58), .unset] [])
    refine own_step (fun _ k => XS.aload X58.here hx rfl (hb hby at_232) rfl rfl k) ?_
    show own_Ends _ _ _ _ _ _ _ T58 (mkF m 234 #[.val (.int p1), .val (.int p2), .val (.int p3), .val (.int p4), .val (.int p5), .val (.int p6), .val (.ref bb), .val (.int (3 : Int32)), .val (.int (p5 &&& (3 : Int32))), .val (.int (p6.toInt8.toInt32)), .val (.ref ou), .val (.ref ex), .val (.int r58), .unset] [(.ref ex)])
    refine own_step (fun _ k => XS.iload X58.here hx rfl (hb hby at_234) rfl k) ?_
    show own_Ends _ _ _ _ _ _ _ T58 (mkF m 236 #[.val (.int p1), .val (.int p2), .val (.int p3), .val (.int p4), .val (.int p5), .val (.int p6), .val (.ref bb), .val (.int (3 : Int32)), .val (.int (p5 &&& (3 : Int32))), .val (.int (p6.toInt8.toInt32)), .val (.ref ou), .val (.ref ex), .val (.int r58), .unset] [(.int r58), (.ref ex)])
    refine own_step (fun _ k => XS.aload X58.here hx rfl (hb hby at_236) rfl rfl k) ?_
    show own_Ends _ _ _ _ _ _ _ T58 (mkF m 238 #[.val (.int p1), .val (.int p2), .val (.int p3), .val (.int p4), .val (.int p5), .val (.int p6), .val (.ref bb), .val (.int (3 : Int32)), .val (.int (p5 &&& (3 : Int32))), .val (.int (p6.toInt8.toInt32)), .val (.ref ou), .val (.ref ex), .val (.int r58), .unset] [(.ref bb), (.int r58), (.ref ex)])
    refine own_step (fun _ k => XS.iconst X58.here hx rfl (hb hby at_238) k) ?_
    show own_Ends _ _ _ _ _ _ _ T58 (mkF m 239 #[.val (.int p1), .val (.int p2), .val (.int p3), .val (.int p4), .val (.int p5), .val (.int p6), .val (.ref bb), .val (.int (3 : Int32)), .val (.int (p5 &&& (3 : Int32))), .val (.int (p6.toInt8.toInt32)), .val (.ref ou), .val (.ref ex), .val (.int r58), .unset] [(.int (1 : Int32)), (.ref bb), (.int r58), (.ref ex)])
    have Q59 := (U_bb.keep K58 (ninS ne_bb_ex nin0))
    refine own_step (own_ldB X58 hx hZ rfl Q59 (j := (1 : Int32)) (v := (.int (p2.toInt8.toInt32))) ⟨by decide, by decide⟩ rfl (g := (mkF m 239 #[.val (.int p1), .val (.int p2), .val (.int p3), .val (.int p4), .val (.int p5), .val (.int p6), .val (.ref bb), .val (.int (3 : Int32)), .val (.int (p5 &&& (3 : Int32))), .val (.int (p6.toInt8.toInt32)), .val (.ref ou), .val (.ref ex), .val (.int r58), .unset] [(.int (1 : Int32)), (.ref bb), (.int r58), (.ref ex)])) rfl rfl (hb hby at_239)) ?_
    show own_Ends _ _ _ _ _ _ _ T58 (mkF m 240 #[.val (.int p1), .val (.int p2), .val (.int p3), .val (.int p4), .val (.int p5), .val (.int p6), .val (.ref bb), .val (.int (3 : Int32)), .val (.int (p5 &&& (3 : Int32))), .val (.int (p6.toInt8.toInt32)), .val (.ref ou), .val (.ref ex), .val (.int r58), .unset] [(.int (p2.toInt8.toInt32)), (.int r58), (.ref ex)])
    refine own_callS X58 hx hZ (y := (⟨"com/example/gist_hash/gisthash/PercentCodingEscapePinLaw", "put", "([BIB)I"⟩ : MethodName)) hown (hw _ (List.mem_of_getElem? (i := 1) rfl)) (hw _ (List.mem_of_getElem? (i := 2) rfl)) (hw _ (List.mem_of_getElem? (i := 3) rfl)) (hw _ (List.mem_of_getElem? (i := 4) rfl)) (by decide) (rm1 l Z a0 hw [] ex r58 (p2.toInt8.toInt32) k20 (own_wr (List.replicate 14 (p6.toInt8.toInt32)) (own_A p5) (own_all (fun t => List.getD [(p1.toInt8.toInt32), (p2.toInt8.toInt32), (p3.toInt8.toInt32)] t (0 : Int32)) 1)) _ T58.heap n0 Z58 VE58 (by rw [own_wr_len]; rfl) hp58 (by have := own_all3 (fun t => List.getD [(p1.toInt8.toInt32), (p2.toInt8.toInt32), (p3.toInt8.toInt32)] t (0 : Int32)) 1; omega) (own_bb _) g_ex) rfl 0 (by decide) (by decide) (by decide) (by decide) (g := (mkF m 240 #[.val (.int p1), .val (.int p2), .val (.int p3), .val (.int p4), .val (.int p5), .val (.int p6), .val (.ref bb), .val (.int (3 : Int32)), .val (.int (p5 &&& (3 : Int32))), .val (.int (p6.toInt8.toInt32)), .val (.ref ou), .val (.ref ex), .val (.int r58), .unset] [(.int (p2.toInt8.toInt32)), (.int r58), (.ref ex)])) rfl (by rw [hml]; rfl) [(.ref ex), (.int r58), (.int (p2.toInt8.toInt32))] [] pd_4 rfl rfl rfl (by show 2 * 0 + _ ≤ _; exact Nat.le_of_eq rfl) (hb hby at_240) ?_
    rintro v60 T60 L60 X60 ⟨r60, hr60, rfl, Nq60, K60, V60⟩
    have N60 := Fr.app N58 Nq60
    show own_Ends _ _ _ _ _ _ _ T60 (mkF m 243 #[.val (.int p1), .val (.int p2), .val (.int p3), .val (.int p4), .val (.int p5), .val (.int p6), .val (.ref bb), .val (.int (3 : Int32)), .val (.int (p5 &&& (3 : Int32))), .val (.int (p6.toInt8.toInt32)), .val (.ref ou), .val (.ref ex), .val (.int r58), .unset] [(.int r60)])
    have Z60 := Nat.le_trans Z58 K60.1
    rw [Nat.add_assoc, ← List.length_append] at hr60
    rw [← own_wr_app] at V60
    have VE60 : Arv Z T60.heap ex k20 .byte (14 : Int32) ((own_wr (List.replicate 14 (p6.toInt8.toInt32)) (own_A p5) (own_all (fun t => List.getD [(p1.toInt8.toInt32), (p2.toInt8.toInt32), (p3.toInt8.toInt32)] t (0 : Int32)) 2)).map Value.int) (.int (0 : Int32)) := V60
    have hp60 : r60.toInt = (own_A p5 + (own_all (fun t => List.getD [(p1.toInt8.toInt32), (p2.toInt8.toInt32), (p3.toInt8.toInt32)] t (0 : Int32)) 2).length : Nat) := hr60
    refine own_step (fun _ k => XS.istore X60.here hx rfl (hb hby at_243) rfl (l' := #[.val (.int p1), .val (.int p2), .val (.int p3), .val (.int p4), .val (.int p5), .val (.int p6), .val (.ref bb), .val (.int (3 : Int32)), .val (.int (p5 &&& (3 : Int32))), .val (.int (p6.toInt8.toInt32)), .val (.ref ou), .val (.ref ex), .val (.int r60), .unset]) rfl k) ?_
    show own_Ends _ _ _ _ _ _ _ T60 (mkF m 245 #[.val (.int p1), .val (.int p2), .val (.int p3), .val (.int p4), .val (.int p5), .val (.int p6), .val (.ref bb), .val (.int (3 : Int32)), .val (.int (p5 &&& (3 : Int32))), .val (.int (p6.toInt8.toInt32)), .val (.ref ou), .val (.ref ex), .val (.int r60), .unset] [])
    refine own_step (fun _ k => XS.iload X60.here hx rfl (hb hby at_245) rfl k) ?_
    show own_Ends _ _ _ _ _ _ _ T60 (mkF m 247 #[.val (.int p1), .val (.int p2), .val (.int p3), .val (.int p4), .val (.int p5), .val (.int p6), .val (.ref bb), .val (.int (3 : Int32)), .val (.int (p5 &&& (3 : Int32))), .val (.int (p6.toInt8.toInt32)), .val (.ref ou), .val (.ref ex), .val (.int r60), .unset] [(.int (3 : Int32))])
    refine own_step (fun _ k => XS.iconst X60.here hx rfl (hb hby at_247) k) ?_
    show own_Ends _ _ _ _ _ _ _ T60 (mkF m 248 #[.val (.int p1), .val (.int p2), .val (.int p3), .val (.int p4), .val (.int p5), .val (.int p6), .val (.ref bb), .val (.int (3 : Int32)), .val (.int (p5 &&& (3 : Int32))), .val (.int (p6.toInt8.toInt32)), .val (.ref ou), .val (.ref ex), .val (.int r60), .unset] [(.int (2 : Int32)), (.int (3 : Int32))])
    refine own_step (fun _ k => XS.icmpNo X60.here hx rfl (hb hby at_248) rfl (tlt (by decide : (2 : Int32) < (3 : Int32))).2.2.2 k) ?_
    show own_Ends _ _ _ _ _ _ _ T60 (mkF m 251 #[.val (.int p1), .val (.int p2), .val (.int p3), .val (.int p4), .val (.int p5), .val (.int p6), .val (.ref bb), .val (.int (3 : Int32)), .val (.int (p5 &&& (3 : Int32))), .val (.int (p6.toInt8.toInt32)), .val (.ref ou), .val (.ref ex), .val (.int r60), .unset] [])
    refine own_step (fun _ k => XS.aload X60.here hx rfl (hb hby at_251) rfl rfl k) ?_
    show own_Ends _ _ _ _ _ _ _ T60 (mkF m 253 #[.val (.int p1), .val (.int p2), .val (.int p3), .val (.int p4), .val (.int p5), .val (.int p6), .val (.ref bb), .val (.int (3 : Int32)), .val (.int (p5 &&& (3 : Int32))), .val (.int (p6.toInt8.toInt32)), .val (.ref ou), .val (.ref ex), .val (.int r60), .unset] [(.ref ex)])
    refine own_step (fun _ k => XS.iload X60.here hx rfl (hb hby at_253) rfl k) ?_
    show own_Ends _ _ _ _ _ _ _ T60 (mkF m 255 #[.val (.int p1), .val (.int p2), .val (.int p3), .val (.int p4), .val (.int p5), .val (.int p6), .val (.ref bb), .val (.int (3 : Int32)), .val (.int (p5 &&& (3 : Int32))), .val (.int (p6.toInt8.toInt32)), .val (.ref ou), .val (.ref ex), .val (.int r60), .unset] [(.int r60), (.ref ex)])
    refine own_step (fun _ k => XS.aload X60.here hx rfl (hb hby at_255) rfl rfl k) ?_
    show own_Ends _ _ _ _ _ _ _ T60 (mkF m 257 #[.val (.int p1), .val (.int p2), .val (.int p3), .val (.int p4), .val (.int p5), .val (.int p6), .val (.ref bb), .val (.int (3 : Int32)), .val (.int (p5 &&& (3 : Int32))), .val (.int (p6.toInt8.toInt32)), .val (.ref ou), .val (.ref ex), .val (.int r60), .unset] [(.ref bb), (.int r60), (.ref ex)])
    refine own_step (fun _ k => XS.iconst X60.here hx rfl (hb hby at_257) k) ?_
    show own_Ends _ _ _ _ _ _ _ T60 (mkF m 258 #[.val (.int p1), .val (.int p2), .val (.int p3), .val (.int p4), .val (.int p5), .val (.int p6), .val (.ref bb), .val (.int (3 : Int32)), .val (.int (p5 &&& (3 : Int32))), .val (.int (p6.toInt8.toInt32)), .val (.ref ou), .val (.ref ex), .val (.int r60), .unset] [(.int (2 : Int32)), (.ref bb), (.int r60), (.ref ex)])
    have Q61 := (Q59.keep K60 (ninS ne_bb_ex nin0))
    refine own_step (own_ldB X60 hx hZ rfl Q61 (j := (2 : Int32)) (v := (.int (p3.toInt8.toInt32))) ⟨by decide, by decide⟩ rfl (g := (mkF m 258 #[.val (.int p1), .val (.int p2), .val (.int p3), .val (.int p4), .val (.int p5), .val (.int p6), .val (.ref bb), .val (.int (3 : Int32)), .val (.int (p5 &&& (3 : Int32))), .val (.int (p6.toInt8.toInt32)), .val (.ref ou), .val (.ref ex), .val (.int r60), .unset] [(.int (2 : Int32)), (.ref bb), (.int r60), (.ref ex)])) rfl rfl (hb hby at_258)) ?_
    show own_Ends _ _ _ _ _ _ _ T60 (mkF m 259 #[.val (.int p1), .val (.int p2), .val (.int p3), .val (.int p4), .val (.int p5), .val (.int p6), .val (.ref bb), .val (.int (3 : Int32)), .val (.int (p5 &&& (3 : Int32))), .val (.int (p6.toInt8.toInt32)), .val (.ref ou), .val (.ref ex), .val (.int r60), .unset] [(.int (p3.toInt8.toInt32)), (.int r60), (.ref ex)])
    refine own_callS X60 hx hZ (y := (⟨"com/example/gist_hash/gisthash/PercentCodingEscapePinLaw", "put", "([BIB)I"⟩ : MethodName)) hown (hw _ (List.mem_of_getElem? (i := 1) rfl)) (hw _ (List.mem_of_getElem? (i := 2) rfl)) (hw _ (List.mem_of_getElem? (i := 3) rfl)) (hw _ (List.mem_of_getElem? (i := 4) rfl)) (by decide) (rm1 l Z a0 hw [] ex r60 (p3.toInt8.toInt32) k20 (own_wr (List.replicate 14 (p6.toInt8.toInt32)) (own_A p5) (own_all (fun t => List.getD [(p1.toInt8.toInt32), (p2.toInt8.toInt32), (p3.toInt8.toInt32)] t (0 : Int32)) 2)) _ T60.heap n0 Z60 VE60 (by rw [own_wr_len]; rfl) hp60 (by have := own_all3 (fun t => List.getD [(p1.toInt8.toInt32), (p2.toInt8.toInt32), (p3.toInt8.toInt32)] t (0 : Int32)) 2; omega) (own_bb _) g_ex) rfl 0 (by decide) (by decide) (by decide) (by decide) (g := (mkF m 259 #[.val (.int p1), .val (.int p2), .val (.int p3), .val (.int p4), .val (.int p5), .val (.int p6), .val (.ref bb), .val (.int (3 : Int32)), .val (.int (p5 &&& (3 : Int32))), .val (.int (p6.toInt8.toInt32)), .val (.ref ou), .val (.ref ex), .val (.int r60), .unset] [(.int (p3.toInt8.toInt32)), (.int r60), (.ref ex)])) rfl (by rw [hml]; rfl) [(.ref ex), (.int r60), (.int (p3.toInt8.toInt32))] [] pd_4 rfl rfl rfl (by show 2 * 0 + _ ≤ _; exact Nat.le_of_eq rfl) (hb hby at_259) ?_
    rintro v62 T62 L62 X62 ⟨r62, hr62, rfl, Nq62, K62, V62⟩
    have N62 := Fr.app N60 Nq62
    show own_Ends _ _ _ _ _ _ _ T62 (mkF m 262 #[.val (.int p1), .val (.int p2), .val (.int p3), .val (.int p4), .val (.int p5), .val (.int p6), .val (.ref bb), .val (.int (3 : Int32)), .val (.int (p5 &&& (3 : Int32))), .val (.int (p6.toInt8.toInt32)), .val (.ref ou), .val (.ref ex), .val (.int r60), .unset] [(.int r62)])
    have Z62 := Nat.le_trans Z60 K62.1
    rw [Nat.add_assoc, ← List.length_append] at hr62
    rw [← own_wr_app] at V62
    have VE62 : Arv Z T62.heap ex k20 .byte (14 : Int32) ((own_wr (List.replicate 14 (p6.toInt8.toInt32)) (own_A p5) (own_all (fun t => List.getD [(p1.toInt8.toInt32), (p2.toInt8.toInt32), (p3.toInt8.toInt32)] t (0 : Int32)) 3)).map Value.int) (.int (0 : Int32)) := V62
    have hp62 : r62.toInt = (own_A p5 + (own_all (fun t => List.getD [(p1.toInt8.toInt32), (p2.toInt8.toInt32), (p3.toInt8.toInt32)] t (0 : Int32)) 3).length : Nat) := hr62
    refine own_step (fun _ k => XS.istore X62.here hx rfl (hb hby at_262) rfl (l' := #[.val (.int p1), .val (.int p2), .val (.int p3), .val (.int p4), .val (.int p5), .val (.int p6), .val (.ref bb), .val (.int (3 : Int32)), .val (.int (p5 &&& (3 : Int32))), .val (.int (p6.toInt8.toInt32)), .val (.ref ou), .val (.ref ex), .val (.int r62), .unset]) rfl k) ?_
    show own_Ends _ _ _ _ _ _ _ T62 (mkF m 264 #[.val (.int p1), .val (.int p2), .val (.int p3), .val (.int p4), .val (.int p5), .val (.int p6), .val (.ref bb), .val (.int (3 : Int32)), .val (.int (p5 &&& (3 : Int32))), .val (.int (p6.toInt8.toInt32)), .val (.ref ou), .val (.ref ex), .val (.int r62), .unset] [])
    refine own_step (fun _ k => XS.aload X62.here hx rfl (hb hby at_264) rfl rfl k) ?_
    show own_Ends _ _ _ _ _ _ _ T62 (mkF m 266 #[.val (.int p1), .val (.int p2), .val (.int p3), .val (.int p4), .val (.int p5), .val (.int p6), .val (.ref bb), .val (.int (3 : Int32)), .val (.int (p5 &&& (3 : Int32))), .val (.int (p6.toInt8.toInt32)), .val (.ref ou), .val (.ref ex), .val (.int r62), .unset] [(.ref bb)])
    refine own_step (fun _ k => XS.iload X62.here hx rfl (hb hby at_266) rfl k) ?_
    show own_Ends _ _ _ _ _ _ _ T62 (mkF m 268 #[.val (.int p1), .val (.int p2), .val (.int p3), .val (.int p4), .val (.int p5), .val (.int p6), .val (.ref bb), .val (.int (3 : Int32)), .val (.int (p5 &&& (3 : Int32))), .val (.int (p6.toInt8.toInt32)), .val (.ref ou), .val (.ref ex), .val (.int r62), .unset] [(.int (3 : Int32)), (.ref bb)])
    refine own_step (fun _ k => XS.aload X62.here hx rfl (hb hby at_268) rfl rfl k) ?_
    show own_Ends _ _ _ _ _ _ _ T62 (mkF m 270 #[.val (.int p1), .val (.int p2), .val (.int p3), .val (.int p4), .val (.int p5), .val (.int p6), .val (.ref bb), .val (.int (3 : Int32)), .val (.int (p5 &&& (3 : Int32))), .val (.int (p6.toInt8.toInt32)), .val (.ref ou), .val (.ref ex), .val (.int r62), .unset] [(.ref ou), (.int (3 : Int32)), (.ref bb)])
    refine own_step (fun _ k => XS.iload X62.here hx rfl (hb hby at_270) rfl k) ?_
    show own_Ends _ _ _ _ _ _ _ T62 (mkF m 272 #[.val (.int p1), .val (.int p2), .val (.int p3), .val (.int p4), .val (.int p5), .val (.int p6), .val (.ref bb), .val (.int (3 : Int32)), .val (.int (p5 &&& (3 : Int32))), .val (.int (p6.toInt8.toInt32)), .val (.ref ou), .val (.ref ex), .val (.int r62), .unset] [(.int (p5 &&& (3 : Int32))), (.ref ou), (.int (3 : Int32)), (.ref bb)])
    have Q63 := (((((((((((((((((((((((((((((((((((((O0.ext E1).wr W2 g_bb).wr W3 g_bb).wr W4 g_bb).ext E5).wr W6 g_ou).wr W7 g_ou).wr W8 g_ou).wr W9 g_ou).wr W10 g_ou).wr W11 g_ou).wr W12 g_ou).wr W13 g_ou).wr W14 g_ou).wr W15 g_ou).wr W16 g_ou).wr W17 g_ou).wr W18 g_ou).wr W19 g_ou).ext E20).wr W22 g_ex).wr W23 g_ex).wr W24 g_ex).wr W25 g_ex).wr W26 g_ex).wr W27 g_ex).wr W28 g_ex).wr W29 g_ex).wr W30 g_ex).wr W31 g_ex).wr W32 g_ex).wr W33 g_ex).wr W34 g_ex).wr W35 g_ex).keep K58 (allS g_ex all0)).keep K60 (allS g_ex all0)).keep K62 (allS g_ex all0))
    have Q64 := (Q61.keep K62 (ninS ne_bb_ex nin0))
    have Q65 := (((U_ou.keep K58 (ninS ne_ou_ex nin0)).keep K60 (ninS ne_ou_ex nin0)).keep K62 (ninS ne_ou_ex nin0))
    refine own_callS X62 hx hZ (y := (⟨"com/example/gist_hash/gisthash/PercentCoding", "escape", "([BI[BI)I"⟩ : MethodName)) hown (hw _ (List.mem_of_getElem? (i := 8) rfl)) (hw _ (List.mem_of_getElem? (i := 9) rfl)) (hw _ (List.mem_of_getElem? (i := 10) rfl)) (hw _ (List.mem_of_getElem? (i := 11) rfl)) (by decide) (rm3 l Z a0 hw [] bb (3 : Int32) ou (p5 &&& (3 : Int32)) k1 k5 uh ku [(p1.toInt8.toInt32), (p2.toInt8.toInt32), (p3.toInt8.toInt32)] (List.replicate 14 (p6.toInt8.toInt32)) 3 _ T62.heap n0 Z62 Q63 SH VH Q64 Q65 rfl ne_bb_ou (by decide) (by decide) (own_Ar p5).1 (by have := (own_Ar p5).2; omega) (own_bs3 p1 p2 p3) g_ou) rfl 0 (by decide) (by decide) (by decide) (by decide) (g := (mkF m 272 #[.val (.int p1), .val (.int p2), .val (.int p3), .val (.int p4), .val (.int p5), .val (.int p6), .val (.ref bb), .val (.int (3 : Int32)), .val (.int (p5 &&& (3 : Int32))), .val (.int (p6.toInt8.toInt32)), .val (.ref ou), .val (.ref ex), .val (.int r62), .unset] [(.int (p5 &&& (3 : Int32))), (.ref ou), (.int (3 : Int32)), (.ref bb)])) rfl (by rw [hml]; rfl) [(.ref bb), (.int (3 : Int32)), (.ref ou), (.int (p5 &&& (3 : Int32)))] [] pd_2 rfl rfl rfl (by show 2 * 0 + _ ≤ _; exact Nat.le_of_eq rfl) (hb hby at_272) ?_
    rintro v66 T66 L66 X66 ⟨r66, hr66, rfl, Nq66, K66, V66⟩
    have N66 := Fr.app N62 Nq66
    show own_Ends _ _ _ _ _ _ _ T66 (mkF m 275 #[.val (.int p1), .val (.int p2), .val (.int p3), .val (.int p4), .val (.int p5), .val (.int p6), .val (.ref bb), .val (.int (3 : Int32)), .val (.int (p5 &&& (3 : Int32))), .val (.int (p6.toInt8.toInt32)), .val (.ref ou), .val (.ref ex), .val (.int r62), .unset] [(.int r66)])
    have Z66 := Nat.le_trans Z62 K66.1
    have heq : r66 = r62 := Int32.toInt_inj.mp (hr66.trans hp62.symm)
    refine own_step (fun _ k => XS.istore X66.here hx rfl (hb hby at_275) rfl (l' := #[.val (.int p1), .val (.int p2), .val (.int p3), .val (.int p4), .val (.int p5), .val (.int p6), .val (.ref bb), .val (.int (3 : Int32)), .val (.int (p5 &&& (3 : Int32))), .val (.int (p6.toInt8.toInt32)), .val (.ref ou), .val (.ref ex), .val (.int r62), .val (.int r66)]) rfl k) ?_
    show own_Ends _ _ _ _ _ _ _ T66 (mkF m 277 #[.val (.int p1), .val (.int p2), .val (.int p3), .val (.int p4), .val (.int p5), .val (.int p6), .val (.ref bb), .val (.int (3 : Int32)), .val (.int (p5 &&& (3 : Int32))), .val (.int (p6.toInt8.toInt32)), .val (.ref ou), .val (.ref ex), .val (.int r62), .val (.int r66)] [])
    refine own_step (fun _ k => XS.iload X66.here hx rfl (hb hby at_277) rfl k) ?_
    show own_Ends _ _ _ _ _ _ _ T66 (mkF m 279 #[.val (.int p1), .val (.int p2), .val (.int p3), .val (.int p4), .val (.int p5), .val (.int p6), .val (.ref bb), .val (.int (3 : Int32)), .val (.int (p5 &&& (3 : Int32))), .val (.int (p6.toInt8.toInt32)), .val (.ref ou), .val (.ref ex), .val (.int r62), .val (.int r66)] [(.int r66)])
    refine own_step (fun _ k => XS.iload X66.here hx rfl (hb hby at_279) rfl k) ?_
    show own_Ends _ _ _ _ _ _ _ T66 (mkF m 281 #[.val (.int p1), .val (.int p2), .val (.int p3), .val (.int p4), .val (.int p5), .val (.int p6), .val (.ref bb), .val (.int (3 : Int32)), .val (.int (p5 &&& (3 : Int32))), .val (.int (p6.toInt8.toInt32)), .val (.ref ou), .val (.ref ex), .val (.int r62), .val (.int r66)] [(.int r62), (.int r66)])
    refine own_step (fun _ k => XS.icmpNo X66.here hx rfl (hb hby at_281) rfl (teq heq).2 k) ?_
    show own_Ends _ _ _ _ _ _ _ T66 (mkF m 284 #[.val (.int p1), .val (.int p2), .val (.int p3), .val (.int p4), .val (.int p5), .val (.int p6), .val (.ref bb), .val (.int (3 : Int32)), .val (.int (p5 &&& (3 : Int32))), .val (.int (p6.toInt8.toInt32)), .val (.ref ou), .val (.ref ex), .val (.int r62), .val (.int r66)] [])
    refine own_step (fun _ k => XS.aload X66.here hx rfl (hb hby at_284) rfl rfl k) ?_
    show own_Ends _ _ _ _ _ _ _ T66 (mkF m 286 #[.val (.int p1), .val (.int p2), .val (.int p3), .val (.int p4), .val (.int p5), .val (.int p6), .val (.ref bb), .val (.int (3 : Int32)), .val (.int (p5 &&& (3 : Int32))), .val (.int (p6.toInt8.toInt32)), .val (.ref ou), .val (.ref ex), .val (.int r62), .val (.int r66)] [(.ref ou)])
    refine own_step (fun _ k => XS.aload X66.here hx rfl (hb hby at_286) rfl rfl k) ?_
    show own_Ends _ _ _ _ _ _ _ T66 (mkF m 288 #[.val (.int p1), .val (.int p2), .val (.int p3), .val (.int p4), .val (.int p5), .val (.int p6), .val (.ref bb), .val (.int (3 : Int32)), .val (.int (p5 &&& (3 : Int32))), .val (.int (p6.toInt8.toInt32)), .val (.ref ou), .val (.ref ex), .val (.int r62), .val (.int r66)] [(.ref ex), (.ref ou)])
    have Q67 := (VE62.keep K66 (ninS (Ne.symm ne_ou_ex) nin0))
    refine own_callS X66 hx hZ (y := (⟨"com/example/gist_hash/gisthash/PercentCodingEscapePinLaw", "same", "([B[B)Z"⟩ : MethodName)) hown (hw _ (List.mem_of_getElem? (i := 21) rfl)) (hw _ (List.mem_of_getElem? (i := 22) rfl)) (hw _ (List.mem_of_getElem? (i := 3) rfl)) (hw _ (List.mem_of_getElem? (i := 23) rfl)) (by decide) (rm5 l Z a0 hw [] ou ex k5 k20 (own_wr (List.replicate 14 (p6.toInt8.toInt32)) (own_A p5) (own_all (fun t => List.getD [(p1.toInt8.toInt32), (p2.toInt8.toInt32), (p3.toInt8.toInt32)] t (0 : Int32)) 3)) T66.heap n0 Z66 V66 Q67) rfl 0 (by decide) (by decide) (by decide) (by decide) (g := (mkF m 288 #[.val (.int p1), .val (.int p2), .val (.int p3), .val (.int p4), .val (.int p5), .val (.int p6), .val (.ref bb), .val (.int (3 : Int32)), .val (.int (p5 &&& (3 : Int32))), .val (.int (p6.toInt8.toInt32)), .val (.ref ou), .val (.ref ex), .val (.int r62), .val (.int r66)] [(.ref ex), (.ref ou)])) rfl (by rw [hml]; rfl) [(.ref ou), (.ref ex)] [] pd_3 rfl rfl rfl (by show 2 * 0 + _ ≤ _; exact Nat.le_of_eq rfl) (hb hby at_288) ?_
    rintro v68 T68 L68 X68 ⟨rfl, Nq68, e68⟩
    have N68 := Fr.app N66 Nq68
    show own_Ends _ _ _ _ _ _ _ T68 (mkF m 291 #[.val (.int p1), .val (.int p2), .val (.int p3), .val (.int p4), .val (.int p5), .val (.int p6), .val (.ref bb), .val (.int (3 : Int32)), .val (.int (p5 &&& (3 : Int32))), .val (.int (p6.toInt8.toInt32)), .val (.ref ou), .val (.ref ex), .val (.int r62), .val (.int r66)] [(.int (1 : Int32))])
    refine own_step (fun _ k => XS.ifNo X68.here hx rfl (hb hby at_291) rfl ((if0 _ _).trans (feq (by decide : ¬ ((1 : Int32) = (0 : Int32)))).1) k) ?_
    show own_Ends _ _ _ _ _ _ _ T68 (mkF m 294 #[.val (.int p1), .val (.int p2), .val (.int p3), .val (.int p4), .val (.int p5), .val (.int p6), .val (.ref bb), .val (.int (3 : Int32)), .val (.int (p5 &&& (3 : Int32))), .val (.int (p6.toInt8.toInt32)), .val (.ref ou), .val (.ref ex), .val (.int r62), .val (.int r66)] [])
    refine own_step (fun _ k => XS.iconst X68.here hx rfl (hb hby at_294) k) ?_
    show own_Ends _ _ _ _ _ _ _ T68 (mkF m 295 #[.val (.int p1), .val (.int p2), .val (.int p3), .val (.int p4), .val (.int p5), .val (.int p6), .val (.ref bb), .val (.int (3 : Int32)), .val (.int (p5 &&& (3 : Int32))), .val (.int (p6.toInt8.toInt32)), .val (.ref ou), .val (.ref ex), .val (.int r62), .val (.int r66)] [(.int (1 : Int32))])
    refine own_step (fun _ k => XS.goto X68.here hx rfl (pc0 := 295) (pc' := 299) rfl (hb hby at_295) (by decide) (by decide) k) ?_
    show own_Ends _ _ _ _ _ _ _ T68 (mkF m 299 #[.val (.int p1), .val (.int p2), .val (.int p3), .val (.int p4), .val (.int p5), .val (.int p6), .val (.ref bb), .val (.int (3 : Int32)), .val (.int (p5 &&& (3 : Int32))), .val (.int (p6.toInt8.toInt32)), .val (.ref ou), .val (.ref ex), .val (.int r62), .val (.int r66)] [(.int (1 : Int32))])
    exact own_retN X68 hx (t := .boolean) hret (by simp) hlk (hb hby at_299) rfl ⟨rfl, N68⟩ (by decide) (by decide)
theorem own_hel {t : Term} {args : Array Value} {s : State} {a : Addr} {cl : Cell} {ty : FieldType} {k : Int64} {G : Jvm.Cond} (hf : Fit s) (ht : ∀ idx, t.eval args s none idx s = some (.ref a)) (A : Arr s s.heap a cl .byte) (hl : cl.slots.size < 2 ^ 31) (h : (Jvm.Cond.all t (Jvm.Cond.or G (Jvm.Cond.eq (.op1 .i2l (.elem t (.index 0))) (.op2 .ladd (.op1 .i2l (.index 0)) (.long k))))).value args s none s [] = some true)
    (i : Nat) (hi : i < cl.slots.size) (hG : G.value args s none s [i] = some false) (y : Int32) (hy : y.toInt64 = (Nat.toInt32 i).toInt64 + k) : cl.slots[i]? = some (.int y) := by
  have ha : s.arrayAt? a = some cl := Arr.fin (Vm.Alike.refl _) A
  have q := Jvm.Cond.all_elim (ht []) ha h i hi
  have e1 : (Nat.toInt32 i).toNatClampNeg = i := by simp only [Int32.toNatClampNeg, len_toInt (Nat.lt_trans hi hl)]; rfl
  obtain ⟨v, hv, hfit⟩ := elem_fit (j := Nat.toInt32 i) hf A (idx_in hi hl)
  obtain ⟨x, rfl⟩ := fit_I hfit (by simp)
  rw [e1] at hv
  have hx : (Term.elem t (.index 0)).eval args s none [i] s = some (.int x) := by
    rw [elem_f (j := Nat.toInt32 i) (ht [i]) (by simp [Term.eval]) ha (by have := idx_in hi hl; exact fun z => this (Or.inl z)), e1]; exact hv
  have q2 : (Jvm.Cond.eq (.op1 .i2l (.elem t (.index 0))) (.op2 .ladd (.op1 .i2l (.index 0)) (.long k))).value args s none s [i] = some true := by
    simpa [Jvm.Cond.value, hG] using q
  have q3 : x.toInt64 = (Nat.toInt32 i).toInt64 + k := by
    have a1 : (Term.op1 .i2l (.elem t (.index 0))).eval args s none [i] s = some (.long x.toInt64) := by rw [op1_f hx]; rfl
    have a2 : (Term.op2 .ladd (.op1 .i2l (.index 0)) (.long k)).eval args s none [i] s = some (.long ((Nat.toInt32 i).toInt64 + k)) := by
      rw [op2_f (x := .long (Nat.toInt32 i).toInt64) (y := .long k) (by rw [op1_f (x := .int (Nat.toInt32 i)) (by simp [Term.eval])]; rfl) rfl]; rfl
    exact gotT (eq_L a1 a2) q2
  have q4 : x = y := by
    rw [← Int32.toInt_inj]; have z1 := c_i2l x; have z2 := c_i2l y; rw [q3, ← hy] at z1; omega
  rw [hv, q4]
set_option maxRecDepth 65536 in
set_option maxHeartbeats 40000000 in
theorem comes_1 {Post : Tables → Env → Array Value → State → Outcome → State → Prop} (hpost : ∀ tb e args s v u, (limb_1_1.after args s (.returned v) u = true ∧ limb_1_2.after args s (.returned v) u = true ∧ True) → FrameEnd s (.returned v) u (Jvm.fieldLocs frame_1_writes args s ++ Jvm.arrayLocs frame_1_arrays args s ++ Jvm.staticLocs frame_1_statics s) 16 128 → Post tb e args s (.returned v) u) :
    ArmFor flags0 classFile x code maxLocals ret World_1 tables_1 room_1 Calls_1 rest_1 Pre_1 Post := by
  intro l hfl _ _ p e ha hc hk s m args below hf hA hF happ hP
  obtain ⟨hcalls, hrest, hpre⟩ := hP
  obtain ⟨-, -, -, hnamed, -, -, -, hat⟩ := (Spec.applies_iff hf).mp happ
  obtain ⟨hg, hn⟩ := and_e (Cond.before_iff.mp (show (Jvm.Cond.and given_1 narrow_1).before args s = true from hpre))
  obtain ⟨gc, g0⟩ := and_e hg
  obtain ⟨h0, g1⟩ := and_e g0
  obtain ⟨h1, g2⟩ := and_e g1
  obtain ⟨h2, g3⟩ := and_e g2
  obtain ⟨h3, g4⟩ := and_e g3
  obtain ⟨h4, g5⟩ := and_e g4
  have h5 := g5
  obtain ⟨w0, w1, w2, w3, w4, w5, rfl⟩ : ∃ w0 w1 w2 w3 w4 w5 : Value, args = #[w0, w1, w2, w3, w4, w5] := by
    have hs : args.size = 6 := by simpa [Cond.value, given_1] using gc
    obtain ⟨L⟩ := args
    match L, hs with
    | [w0, w1, w2, w3, w4, w5], _ => exact ⟨w0, w1, w2, w3, w4, w5, rfl⟩
  have hw := fun d (hd : d ∈ tables_1) => atoms_spec (ws := Jvm.Cond.code x code maxLocals ret :: tables_1) hat d (List.mem_cons_of_mem _ hd)
  have hfit : Fit s := fun {y c} hc i hi => by
    obtain ⟨ha, rfl⟩ := Array.getElem?_eq_some_iff.mp hc
    have q := List.all_eq_true.mp ((Array.all_eq_true_iff_forall_mem.mp hF) _ (Array.getElem_mem ha)) i (List.mem_range.mpr hi)
    simpa [Array.getElem?_eq_getElem hi] using q
  obtain ⟨i0, ei0⟩ := is_v h0
  obtain rfl : w0 = (.int i0) := Option.some.inj ei0
  obtain ⟨i1, ei1⟩ := is_v h1
  obtain rfl : w1 = (.int i1) := Option.some.inj ei1
  obtain ⟨i2, ei2⟩ := is_v h2
  obtain rfl : w2 = (.int i2) := Option.some.inj ei2
  obtain ⟨i3, ei3⟩ := is_v h3
  obtain rfl : w3 = (.int i3) := Option.some.inj ei3
  obtain ⟨i4, ei4⟩ := is_v h4
  obtain rfl : w4 = (.int i4) := Option.some.inj ei4
  obtain ⟨i5, ei5⟩ := is_v h5
  obtain rfl : w5 = (.int i5) := Option.some.inj ei5
  obtain ⟨y0, z0⟩ := and_e hn
  obtain ⟨y1, z1⟩ := and_e z0
  obtain ⟨y2, y3⟩ := and_e z1
  obtain ⟨uh, ev⟩ := arr_v y0
  obtain ⟨cl, AV⟩ := Arr.start ev y0
  obtain ⟨hl1, hl2⟩ := own_lenT ev AV (own_eqI y1)
  have SH := Sta.start ev (Or.inr ⟨hw _ (List.mem_of_getElem? (i := 10) rfl), hw _ (List.mem_of_getElem? (i := 20) rfl)⟩)
  have hsz : cl.slots.size = 16 := by have q := len_toInt hl1; rw [hl2] at q; have q16 : (16 : Int32).toInt = 16 := (by decide); omega
  have hev : ∀ idx, (Term.static "com/example/gist_hash/gisthash/PercentCoding" "UPPER_HEX" "[B").eval #[.int i0, .int i1, .int i2, .int i3, .int i4, .int i5] s none idx s = some (.ref uh) := fun idx => ev
  have el0 := own_hel (ty := .byte) hfit hev AV hl1 y2 0 (by omega) (by simp [Jvm.Cond.value, Term.eval]; try decide) (48 : Int32) (by decide)
  have el1 := own_hel (ty := .byte) hfit hev AV hl1 y2 1 (by omega) (by simp [Jvm.Cond.value, Term.eval]; try decide) (49 : Int32) (by decide)
  have el2 := own_hel (ty := .byte) hfit hev AV hl1 y2 2 (by omega) (by simp [Jvm.Cond.value, Term.eval]; try decide) (50 : Int32) (by decide)
  have el3 := own_hel (ty := .byte) hfit hev AV hl1 y2 3 (by omega) (by simp [Jvm.Cond.value, Term.eval]; try decide) (51 : Int32) (by decide)
  have el4 := own_hel (ty := .byte) hfit hev AV hl1 y2 4 (by omega) (by simp [Jvm.Cond.value, Term.eval]; try decide) (52 : Int32) (by decide)
  have el5 := own_hel (ty := .byte) hfit hev AV hl1 y2 5 (by omega) (by simp [Jvm.Cond.value, Term.eval]; try decide) (53 : Int32) (by decide)
  have el6 := own_hel (ty := .byte) hfit hev AV hl1 y2 6 (by omega) (by simp [Jvm.Cond.value, Term.eval]; try decide) (54 : Int32) (by decide)
  have el7 := own_hel (ty := .byte) hfit hev AV hl1 y2 7 (by omega) (by simp [Jvm.Cond.value, Term.eval]; try decide) (55 : Int32) (by decide)
  have el8 := own_hel (ty := .byte) hfit hev AV hl1 y2 8 (by omega) (by simp [Jvm.Cond.value, Term.eval]; try decide) (56 : Int32) (by decide)
  have el9 := own_hel (ty := .byte) hfit hev AV hl1 y2 9 (by omega) (by simp [Jvm.Cond.value, Term.eval]; try decide) (57 : Int32) (by decide)
  have el10 := own_hel (ty := .byte) hfit hev AV hl1 y3 10 (by omega) (by simp [Jvm.Cond.value, Term.eval]; try decide) (65 : Int32) (by decide)
  have el11 := own_hel (ty := .byte) hfit hev AV hl1 y3 11 (by omega) (by simp [Jvm.Cond.value, Term.eval]; try decide) (66 : Int32) (by decide)
  have el12 := own_hel (ty := .byte) hfit hev AV hl1 y3 12 (by omega) (by simp [Jvm.Cond.value, Term.eval]; try decide) (67 : Int32) (by decide)
  have el13 := own_hel (ty := .byte) hfit hev AV hl1 y3 13 (by omega) (by simp [Jvm.Cond.value, Term.eval]; try decide) (68 : Int32) (by decide)
  have el14 := own_hel (ty := .byte) hfit hev AV hl1 y3 14 (by omega) (by simp [Jvm.Cond.value, Term.eval]; try decide) (69 : Int32) (by decide)
  have el15 := own_hel (ty := .byte) hfit hev AV hl1 y3 15 (by omega) (by simp [Jvm.Cond.value, Term.eval]; try decide) (70 : Int32) (by decide)
  have VH := Arv.start (vs := own_hx.map Value.int) (dv := .int (0 : Int32)) hfit AV hl1 hl2 (by decide) rfl ⟨el0, el1, el2, el3, el4, el5, el6, el7, el8, el9, el10, el11, el12, el13, el14, el15, trivial⟩
  obtain ⟨n, o, h1, h2, h3, _, L, rfl, ⟨rfl, N⟩, hq⟩ := rm0 l s _ hw tables_1 i0 i1 i2 i3 i4 i5 uh _ s.heap s.heap.size (Nat.le_refl _) (Old.start s) SH VH p e ha hc hk s m _ below hf ((Spec.applies_iff_loose hf).mp happ).1 ⟨rfl, State.Warmed39.refl s, rfl⟩ trivial
  refine ⟨n, _, h1, h2, h3, hpost _ _ _ _ _ _ ⟨Cond.after_iff.mpr rfl, Cond.after_iff.mpr (eq_i res_at (Term.int_eval (1)) rfl), trivial⟩ ⟨hq.1, hq.2.1, (hq.2.2.sift fun y hy => Or.inr (N y hy)).mono (by decide) (by decide)⟩⟩
theorem main_1_1 : Claimed_1_1 := comes_1 fun _ _ _ _ _ _ h hF => ⟨h.1, hF⟩
theorem main_1_2 : Claimed_1_2 := comes_1 fun _ _ _ _ _ _ h hF => ⟨h.2.1, hF⟩
end Jvm.Pilot.@@N@@
namespace Jvm.Pilot.@@N@@
open Jvm Jvm.ClassFile Sem Op Lib Jvm.Free Jvm.Stand Jvm.Pilot.@@N@@.Jvm.D
/-! MADE BY PROGRAM (witnessworld.py) out of the Statement's table words and the real class files: 10 classes; the members and pool entries that the words name. The judged class is class 1, her method 1. -/
namespace start1
open Jvm.ClassFile
def u (s : String) : CpInfo := .utf8 (stringToUtf16 s)
/-- a pool by its gaps: so many unusable entries, then the entry; so many at the end -/
def gap : Nat → List CpInfo → List CpInfo
  | 0, r => r
  | n + 1, r => .unusable :: gap n r
def poolList (es : List (Nat × CpInfo)) (last : Nat) : List CpInfo := es.foldr (fun e r => gap e.1 (e.2 :: r)) (gap last [])
def pool (es : List (Nat × CpInfo)) (last : Nat) : Array CpInfo := ⟨poolList es last⟩
def fileOf (pool : Array CpInfo) (this : Nat) (attrs : Array Attribute := #[]) (ms : Array MethodInfo := #[]) (fl : Nat := 33) (sup : Nat := 0) (ifs : Array Nat := #[]) (fds : Array FieldInfo := #[]) : ClassFile where
  minorVersion := 0
  majorVersion := 65
  constantPool := pool
  accessFlags := fl
  thisClass := this
  superClass := sup
  interfaces := ifs
  fields := fds
  methods := ms
  attributes := attrs
def plain (name : String) (sup : Option ClassId) : Class where
  name := name
  kind := .ordinary
  loader := none
  accessFlags := 33
  super := sup
  interfaces := #[]
  cf := none
  fields := #[]
  methods := #[]
  instanceTypes := #[]
  staticTypes := #[]
  resolved := #[]
  callSites := []
  init := .initialized
  statics := none
  mirror := none

def pool0 : Array CpInfo := pool [(5, u "<init>"), (0, u "()V"), (1, .class_ 10), (1, u "java/lang/Object")] 113

def k0m0 : Method := { name := "<init>", desc := "()V", sig := { parameters := [], returnType := none }, accessFlags := 1, code := none }
/-- java/lang/Object -/
def k0 : Class := { plain "java/lang/Object" none with
  accessFlags := 33
  interfaces := #[]
  cf := some (fileOf pool0 8 #[] #[{ accessFlags := 1, nameIndex := 5, descriptorIndex := 6, attributes := #[] }] 33 0 #[] #[])
  fields := #[]
  methods := #[k0m0]
  instanceTypes := #[]
  staticTypes := #[]
  resolved := Array.replicate 124 none
  statics := none }

def pool1 : Array CpInfo := pool [(2, .class_ 4), (1, u "java/lang/Object"), (0, u "<init>"), (0, u "()V"), (0, .methodref 8 9), (0, .class_ 10), (0, .nameAndType 11 12), (0, u "com/example/gist_hash/gisthash/PercentCodingEscapePinLaw"), (0, u "put"), (0, u "([BIB)I"), (0, .methodref 14 15), (0, .class_ 16), (0, .nameAndType 17 18), (0, u "com/example/gist_hash/gisthash/PercentCoding"), (0, u "escape"), (0, u "([BI[BI)I"), (0, .methodref 8 20), (0, .nameAndType 21 22), (0, u "same"), (0, u "([B[B)Z"), (0, .methodref 8 24), (0, .nameAndType 25 26), (0, u "hex"), (0, u "(I)B"), (2, u "law"), (0, u "(IIIIII)Z")] 5

def k1m0 : Method := { name := "<init>", desc := "()V", sig := { parameters := [], returnType := none }, accessFlags := 1, code := none }
def k1c1 : Code := { maxStack := 4, maxLocals := 14, code := code, exceptionTable := #[], attributes := #[] }
def k1m1 : Method := { name := "law", desc := "(IIIIII)Z", sig := { parameters := [.int, .int, .int, .int, .int, .int], returnType := some .boolean }, accessFlags := 9, code := some k1c1 }
def k1c2 : Code := { maxStack := 4, maxLocals := 5, code := method_3_code, exceptionTable := #[], attributes := #[] }
def k1m2 : Method := { name := "put", desc := "([BIB)I", sig := { parameters := [(.array .byte), .int, .byte], returnType := some .int }, accessFlags := 10, code := some k1c2 }
def k1c3 : Code := { maxStack := 3, maxLocals := 1, code := method_4_code, exceptionTable := #[], attributes := #[] }
def k1m3 : Method := { name := "hex", desc := "(I)B", sig := { parameters := [.int], returnType := some .byte }, accessFlags := 10, code := some k1c3 }
def k1c4 : Code := { maxStack := 3, maxLocals := 2, code := method_5_code, exceptionTable := #[], attributes := #[] }
def k1m4 : Method := { name := "same", desc := "([B[B)Z", sig := { parameters := [(.array .byte), (.array .byte)], returnType := some .boolean }, accessFlags := 10, code := some k1c4 }
/-- com/example/gist_hash/gisthash/PercentCodingEscapePinLaw -/
def k1 : Class := { plain "com/example/gist_hash/gisthash/PercentCodingEscapePinLaw" (some 0) with
  accessFlags := 49
  interfaces := #[]
  cf := some (fileOf pool1 8 #[] #[{ accessFlags := 1, nameIndex := 5, descriptorIndex := 6, attributes := #[] }, { accessFlags := 9, nameIndex := 29, descriptorIndex := 30, attributes := #[] }, { accessFlags := 10, nameIndex := 11, descriptorIndex := 12, attributes := #[] }, { accessFlags := 10, nameIndex := 25, descriptorIndex := 26, attributes := #[] }, { accessFlags := 10, nameIndex := 21, descriptorIndex := 22, attributes := #[] }] 49 2 #[] #[])
  fields := #[]
  methods := #[k1m0, k1m1, k1m2, k1m3, k1m4]
  instanceTypes := #[]
  staticTypes := #[]
  resolved := Array.replicate 36 none
  statics := none }

def pool2 : Array CpInfo := pool [(2, .class_ 4), (1, u "java/lang/Object"), (0, u "<init>"), (0, u "()V"), (0, .methodref 8 9), (0, .class_ 10), (0, .nameAndType 11 12), (0, u "java/lang/System"), (0, u "arraycopy"), (0, u "(Ljava/lang/Object;ILjava/lang/Object;II)V"), (1, .class_ 16), (1, u "com/example/gist_hash/gisthash/PercentCoding"), (8, .methodref 14 26), (0, .nameAndType 27 28), (0, u "isEscaped"), (0, u "(B)Z"), (2, .fieldref 14 32), (0, .nameAndType 33 34), (0, u "UPPER_HEX"), (0, u "[B"), (22, u "escape"), (0, u "([BI[BI)I")] 3

def k2m0 : Method := { name := "<init>", desc := "()V", sig := { parameters := [], returnType := none }, accessFlags := 2, code := none }
def k2c1 : Code := { maxStack := 5, maxLocals := 8, code := prog_6_method_4_code, exceptionTable := #[], attributes := #[] }
def k2m1 : Method := { name := "escape", desc := "([BI[BI)I", sig := { parameters := [(.array .byte), .int, (.array .byte), .int], returnType := some .int }, accessFlags := 8, code := some k2c1 }
def k2c2 : Code := { maxStack := 2, maxLocals := 2, code := prog_6_method_5_code, exceptionTable := #[], attributes := #[] }
def k2m2 : Method := { name := "isEscaped", desc := "(B)Z", sig := { parameters := [.byte], returnType := some .boolean }, accessFlags := 10, code := some k2c2 }
/-- com/example/gist_hash/gisthash/PercentCoding -/
def k2 : Class := { plain "com/example/gist_hash/gisthash/PercentCoding" (some 0) with
  accessFlags := 48
  interfaces := #[]
  cf := some (fileOf pool2 14 #[] #[{ accessFlags := 2, nameIndex := 5, descriptorIndex := 6, attributes := #[] }, { accessFlags := 8, nameIndex := 57, descriptorIndex := 58, attributes := #[] }, { accessFlags := 10, nameIndex := 27, descriptorIndex := 28, attributes := #[] }] 48 2 #[] #[{ accessFlags := 26, nameIndex := 33, descriptorIndex := 34, attributes := #[] }])
  fields := #[{ name := "UPPER_HEX", type := (.array .byte), accessFlags := 26, slot := 0, constantValue := 0 }]
  methods := #[k2m0, k2m1, k2m2]
  instanceTypes := #[]
  staticTypes := #[(.array .byte)]
  resolved := Array.replicate 62 none
  statics := some 0 }

def pool3 : Array CpInfo := pool [(2, .class_ 4), (1, u "java/lang/Object"), (0, u "<init>"), (0, u "()V"), (1, .class_ 10), (1, u "java/lang/System"), (0, u "allowSecurityManager"), (0, u "I"), (16, u "cons"), (0, u "Ljava/io/Console;"), (77, .class_ 110), (1, u "java/lang/System$CallersHolder"), (43, u "initialErrStream"), (0, u "Ljava/io/PrintStream;"), (19, u "security"), (0, u "Ljava/lang/SecurityManager;"), (31, .class_ 209), (0, u "java/lang/System$1"), (7, u "props"), (0, u "Ljava/util/Properties;"), (2, u "lineSeparator"), (0, u "Ljava/lang/String;"), (96, .class_ 321), (1, u "java/lang/System$LoggerFinder"), (5, .class_ 328), (0, u "java/lang/System$Logger"), (67, u "err"), (2, u "out"), (91, u "notSupportedJnuEncoding"), (15, u "in"), (17, u "initialIn"), (0, u "Ljava/io/InputStream;"), (35, u "bootLayer"), (0, u "Ljava/lang/ModuleLayer;"), (99, .class_ 664), (0, u "java/lang/System$2"), (9, u "NEVER"), (2, u "MAYBE"), (49, u "arraycopy"), (0, u "(Ljava/lang/Object;ILjava/lang/Object;II)V"), (72, .class_ 802), (0, u "java/lang/System$Logger$Level")] 31

def k3m0 : Method := { name := "<init>", desc := "()V", sig := { parameters := [], returnType := none }, accessFlags := 2, code := none }
def k3m1 : Method := { name := "arraycopy", desc := "(Ljava/lang/Object;ILjava/lang/Object;II)V", sig := { parameters := [(.object "java/lang/Object"), .int, (.object "java/lang/Object"), .int, .int], returnType := none }, accessFlags := 265, code := none }
/-- java/lang/System -/
def k3 : Class := { plain "java/lang/System" (some 0) with
  accessFlags := 49
  interfaces := #[]
  cf := some (fileOf pool3 8 #[.nestMembers #[319, 327, 801, 108, 663, 208]] #[{ accessFlags := 2, nameIndex := 5, descriptorIndex := 6, attributes := #[] }, { accessFlags := 265, nameIndex := 727, descriptorIndex := 728, attributes := #[] }] 49 2 #[] #[{ accessFlags := 25, nameIndex := 507, descriptorIndex := 526, attributes := #[] }, { accessFlags := 25, nameIndex := 399, descriptorIndex := 155, attributes := #[] }, { accessFlags := 25, nameIndex := 396, descriptorIndex := 155, attributes := #[] }, { accessFlags := 10, nameIndex := 525, descriptorIndex := 526, attributes := #[] }, { accessFlags := 26, nameIndex := 674, descriptorIndex := 12, attributes := #[] }, { accessFlags := 26, nameIndex := 677, descriptorIndex := 12, attributes := #[] }, { accessFlags := 10, nameIndex := 11, descriptorIndex := 12, attributes := #[] }, { accessFlags := 74, nameIndex := 175, descriptorIndex := 176, attributes := #[] }, { accessFlags := 10, nameIndex := 491, descriptorIndex := 222, attributes := #[] }, { accessFlags := 74, nameIndex := 29, descriptorIndex := 30, attributes := #[] }, { accessFlags := 74, nameIndex := 154, descriptorIndex := 155, attributes := #[] }, { accessFlags := 10, nameIndex := 217, descriptorIndex := 218, attributes := #[] }, { accessFlags := 10, nameIndex := 221, descriptorIndex := 222, attributes := #[] }, { accessFlags := 8, nameIndex := 562, descriptorIndex := 563, attributes := #[] }])
  fields := #[{ name := "in", type := (.object "java/io/InputStream"), accessFlags := 25, slot := 0, constantValue := 0 }, { name := "out", type := (.object "java/io/PrintStream"), accessFlags := 25, slot := 1, constantValue := 0 }, { name := "err", type := (.object "java/io/PrintStream"), accessFlags := 25, slot := 2, constantValue := 0 }, { name := "initialIn", type := (.object "java/io/InputStream"), accessFlags := 10, slot := 3, constantValue := 0 }, { name := "NEVER", type := .int, accessFlags := 26, slot := 4, constantValue := 0 }, { name := "MAYBE", type := .int, accessFlags := 26, slot := 5, constantValue := 0 }, { name := "allowSecurityManager", type := .int, accessFlags := 10, slot := 6, constantValue := 0 }, { name := "security", type := (.object "java/lang/SecurityManager"), accessFlags := 74, slot := 7, constantValue := 0 }, { name := "notSupportedJnuEncoding", type := (.object "java/lang/String"), accessFlags := 10, slot := 8, constantValue := 0 }, { name := "cons", type := (.object "java/io/Console"), accessFlags := 74, slot := 9, constantValue := 0 }, { name := "initialErrStream", type := (.object "java/io/PrintStream"), accessFlags := 74, slot := 10, constantValue := 0 }, { name := "props", type := (.object "java/util/Properties"), accessFlags := 10, slot := 11, constantValue := 0 }, { name := "lineSeparator", type := (.object "java/lang/String"), accessFlags := 10, slot := 12, constantValue := 0 }, { name := "bootLayer", type := (.object "java/lang/ModuleLayer"), accessFlags := 8, slot := 13, constantValue := 0 }]
  methods := #[k3m0, k3m1]
  instanceTypes := #[]
  staticTypes := #[(.object "java/io/InputStream"), (.object "java/io/PrintStream"), (.object "java/io/PrintStream"), (.object "java/io/InputStream"), .int, .int, .int, (.object "java/lang/SecurityManager"), (.object "java/lang/String"), (.object "java/io/Console"), (.object "java/io/PrintStream"), (.object "java/util/Properties"), (.object "java/lang/String"), (.object "java/lang/ModuleLayer")]
  resolved := Array.replicate 834 none
  statics := none }

def pool4 : Array CpInfo := pool [(1, u "java/lang/Cloneable"), (0, .class_ 1), (0, u "java/lang/Object"), (0, .class_ 3)] 3

/-- java/lang/Cloneable -/
def k4 : Class := { plain "java/lang/Cloneable" (some 0) with
  accessFlags := 1537
  interfaces := #[]
  cf := some (fileOf pool4 2 #[] #[] 1537 4 #[] #[])
  fields := #[]
  methods := #[]
  instanceTypes := #[]
  staticTypes := #[]
  resolved := Array.replicate 8 none
  statics := none }

def pool5 : Array CpInfo := pool [(1, u "java/io/Serializable"), (0, .class_ 1), (0, u "java/lang/Object"), (0, .class_ 3)] 3

/-- java/io/Serializable -/
def k5 : Class := { plain "java/io/Serializable" (some 0) with
  accessFlags := 1537
  interfaces := #[]
  cf := some (fileOf pool5 2 #[] #[] 1537 4 #[] #[])
  fields := #[]
  methods := #[]
  instanceTypes := #[]
  staticTypes := #[]
  resolved := Array.replicate 8 none
  statics := none }

/-- the primitive byte -/
def k6 : Class := { plain "byte" none with kind := .primitive 'B', accessFlags := 0x411 }
/-- [B -/
def k7 : Class := { plain "[B" (some 0) with kind := .array 6 .byte, interfaces := #[4, 5], accessFlags := 1041 }

/-- the primitive int -/
def k8 : Class := { plain "int" none with kind := .primitive 'I', accessFlags := 0x411 }
/-- [I -/
def k9 : Class := { plain "[I" (some 0) with kind := .array 8 .int, interfaces := #[4, 5], accessFlags := 1041 }

def heap : Heap := #[{ cls := 2, slots := #[.ref 1], vm := .statics 2 },
  { cls := 7, slots := #[.int 48, .int 49, .int 50, .int 51, .int 52, .int 53, .int 54, .int 55, .int 56, .int 57, .int 65, .int 66, .int 67, .int 68, .int 69, .int 70], vm := .none }]
def classes : Array Class := #[k0, k1, k2, k3, k4, k5, k6, k7, k8, k9]
def interned : List (Array UInt16 × Addr) := []
def slotsUsed : Nat := 17
def theMethod : MethodId := ⟨1, 1⟩
def args0 : Array Value := #[.int 65, .int 3, .int 3, .int 3, .int 3, .int 3]
def aboutOver (below : List Frame) : State where
  vm := { classes := classes, interned := interned.toArray }
  heap := heap
  slotsUsed := slotsUsed
  threads := #[{ frames := .invoking theMethod args0 :: below }]
def below0 : List Frame := [.native { method := ⟨0, 0⟩, args := #[] }]
def about1 : State := aboutOver below0
def p0 : Program := .bare "" "" ""
def e0 : Env := launch0.env 0 0 0
theorem w_frames : about1.frames = Frame.invoking theMethod args0 :: below0 := rfl
set_option maxRecDepth 65536 in
theorem w_args : argsFit about1.vm theMethod args0 = true := by decide +kernel
set_option maxRecDepth 65536 in
theorem w_heap : heapFits about1 = true := by decide +kernel
set_option maxRecDepth 65536 in
theorem w_runnable : about1.curStatus? = some .runnable := by decide +kernel
set_option maxRecDepth 65536 in
theorem w_alone : about1.alone = true := by decide +kernel
set_option maxRecDepth 65536 in
theorem w_named : about1.methodNamed? x = some theMethod := by decide +kernel
set_option maxRecDepth 65536 in
theorem w_hears : about1.hears theMethod below0 = true := by decide +kernel
set_option maxRecDepth 65536 in
theorem w_ripe : about1.ripe theMethod args0 below0 = true := by decide +kernel
theorem w_running : about1.status = .running := rfl
set_option maxRecDepth 65536 in
theorem w_room : about1.hasRoom e0.platform room_1 = true :=
  launch0.hasRoom_least _ room_1 (by decide +kernel) (by decide +kernel) (by decide +kernel) (by decide +kernel) (by decide +kernel) (by decide +kernel)
theorem allAtoms_all (ts : List Jvm.Cond) (a : Array Jvm.Value) (st : Jvm.State) : (allAtoms ts).before a st = ts.all (fun c => c.before a st) := by
  induction ts with
  | nil => rfl
  | cons c t ih =>
    show (Jvm.Cond.and c (allAtoms t)).before a st = _
    rw [Jvm.Cond.before_and, ih, List.all_cons]
def words1 : List Jvm.Cond := Jvm.Cond.code x code maxLocals ret :: tables_1
/-- a 'code' word, met by the world's own term for the bytes: nothing is compared byte by byte -/
theorem code_word {y : MethodName} {bytes : ByteArray} {mx : Nat} {rt : Option FieldType} {a : Array Value} {s : State} {m : MethodId} {meth : Method} {c : Code} (h1 : s.methodNamed? y = some m) (h2 : s.vm.method? m = some meth) (h3 : meth.code = some c) (h4 : c.code = bytes)
    (h5 : (c.maxLocals == mx && c.exceptionTable.isEmpty && decide (c.maxStack ≤ mostOperands) && decide (meth.sig.returnType = rt) && !meth.locks && decide (parseMethodDescriptor y.desc = some meth.sig)) = true) : (Jvm.Cond.code y bytes mx rt).before a s = true := by
  simp only [Bool.and_eq_true, beq_iff_eq, Bool.not_eq_true', decide_eq_true_eq] at h5
  obtain ⟨⟨⟨⟨⟨g1, g2⟩, g3⟩, g4⟩, g5⟩, g6⟩ := h5
  simp [Cond.before, Cond.holds, Cond.value, h1, h2, h3, h4, g1, g2, g3, g4, g5, g6]
def isCode : Jvm.Cond → Bool
  | .code _ _ _ _ => true
  | _ => false
theorem all_split {L : List Jvm.Cond} {P : Jvm.Cond → Bool} (h1 : L.all (fun c => isCode c || P c) = true) (h2 : ∀ c ∈ L.filter isCode, P c = true) : L.all P = true := by
  refine List.all_eq_true.mpr fun c hc => ?_
  have h := List.all_eq_true.mp h1 c hc
  rcases Bool.eq_false_or_eq_true (isCode c) with hi | hi
  · exact h2 c (List.mem_filter.mpr ⟨hc, hi⟩)
  · simpa [hi] using h
set_option maxRecDepth 65536 in
theorem w_c0 : (Jvm.Cond.code x code maxLocals ret).before args0 about1 = true := code_word (m := ⟨1, 1⟩) (meth := k1m1) (c := k1c1) (by decide +kernel) rfl rfl rfl (by decide +kernel)
set_option maxRecDepth 65536 in
theorem w_c1 : (Jvm.Cond.code ({ cls := "com/example/gist_hash/gisthash/PercentCodingEscapePinLaw", name := "put", desc := "([BIB)I" } : Jvm.MethodName) method_3_code (5 : Nat) (Option.some Jvm.ClassFile.FieldType.int)).before args0 about1 = true := code_word (m := ⟨1, 2⟩) (meth := k1m2) (c := k1c2) (by decide +kernel) rfl rfl rfl (by decide +kernel)
set_option maxRecDepth 65536 in
theorem w_c2 : (Jvm.Cond.code ({ cls := "com/example/gist_hash/gisthash/PercentCodingEscapePinLaw", name := "hex", desc := "(I)B" } : Jvm.MethodName) method_4_code (1 : Nat) (Option.some Jvm.ClassFile.FieldType.byte)).before args0 about1 = true := code_word (m := ⟨1, 3⟩) (meth := k1m3) (c := k1c3) (by decide +kernel) rfl rfl rfl (by decide +kernel)
set_option maxRecDepth 65536 in
theorem w_c3 : (Jvm.Cond.code ({ cls := "com/example/gist_hash/gisthash/PercentCoding", name := "escape", desc := "([BI[BI)I" } : Jvm.MethodName) prog_6_method_4_code (8 : Nat) (Option.some Jvm.ClassFile.FieldType.int)).before args0 about1 = true := code_word (m := ⟨2, 1⟩) (meth := k2m1) (c := k2c1) (by decide +kernel) rfl rfl rfl (by decide +kernel)
set_option maxRecDepth 65536 in
theorem w_c4 : (Jvm.Cond.code ({ cls := "com/example/gist_hash/gisthash/PercentCoding", name := "isEscaped", desc := "(B)Z" } : Jvm.MethodName) prog_6_method_5_code (2 : Nat) (Option.some Jvm.ClassFile.FieldType.boolean)).before args0 about1 = true := code_word (m := ⟨2, 2⟩) (meth := k2m2) (c := k2c2) (by decide +kernel) rfl rfl rfl (by decide +kernel)
set_option maxRecDepth 65536 in
theorem w_c5 : (Jvm.Cond.code ({ cls := "com/example/gist_hash/gisthash/PercentCodingEscapePinLaw", name := "same", desc := "([B[B)Z" } : Jvm.MethodName) method_5_code (2 : Nat) (Option.some Jvm.ClassFile.FieldType.boolean)).before args0 about1 = true := code_word (m := ⟨1, 4⟩) (meth := k1m4) (c := k1c4) (by decide +kernel) rfl rfl rfl (by decide +kernel)
def codes1 : List Jvm.Cond := [Jvm.Cond.code x code maxLocals ret, Jvm.Cond.code ({ cls := "com/example/gist_hash/gisthash/PercentCodingEscapePinLaw", name := "put", desc := "([BIB)I" } : Jvm.MethodName) method_3_code (5 : Nat) (Option.some Jvm.ClassFile.FieldType.int), Jvm.Cond.code ({ cls := "com/example/gist_hash/gisthash/PercentCodingEscapePinLaw", name := "hex", desc := "(I)B" } : Jvm.MethodName) method_4_code (1 : Nat) (Option.some Jvm.ClassFile.FieldType.byte), Jvm.Cond.code ({ cls := "com/example/gist_hash/gisthash/PercentCoding", name := "escape", desc := "([BI[BI)I" } : Jvm.MethodName) prog_6_method_4_code (8 : Nat) (Option.some Jvm.ClassFile.FieldType.int), Jvm.Cond.code ({ cls := "com/example/gist_hash/gisthash/PercentCoding", name := "isEscaped", desc := "(B)Z" } : Jvm.MethodName) prog_6_method_5_code (2 : Nat) (Option.some Jvm.ClassFile.FieldType.boolean), Jvm.Cond.code ({ cls := "com/example/gist_hash/gisthash/PercentCodingEscapePinLaw", name := "same", desc := "([B[B)Z" } : Jvm.MethodName) method_5_code (2 : Nat) (Option.some Jvm.ClassFile.FieldType.boolean)]
set_option maxRecDepth 65536 in
theorem codes_eq : words1.filter isCode = codes1 := rfl
theorem w_codes : ∀ c ∈ words1.filter isCode, c.before args0 about1 = true := by
  rw [codes_eq]
  intro c hc
  simp only [codes1, List.mem_cons, List.not_mem_nil, or_false] at hc
  rcases hc with rfl | rfl | rfl | rfl | rfl | rfl
  · exact w_c0
  · exact w_c1
  · exact w_c2
  · exact w_c3
  · exact w_c4
  · exact w_c5
set_option maxRecDepth 65536 in
theorem w_t1 : (words1.take 24).all (fun c => isCode c || c.before args0 about1) = true := by decide +kernel
set_option maxRecDepth 65536 in
theorem w_t2 : (words1.drop 24).all (fun c => isCode c || c.before args0 about1) = true := by decide +kernel
theorem w_tables : (allAtoms (Jvm.Cond.code x code maxLocals ret :: tables_1)).before args0 about1 = true := by
  rw [allAtoms_all]
  show words1.all (fun c => c.before args0 about1) = true
  refine all_split ?_ w_codes
  rw [← List.take_append_drop 24 words1, List.all_append, w_t1, w_t2]
  rfl
set_option maxRecDepth 65536 in
theorem w_case : (Jvm.Cond.and given_1 narrow_1).before args0 about1 = true := by decide +kernel
theorem w_applies : (headSpec (Jvm.Cond.code x code maxLocals ret :: tables_1) room_1).applies x e0.platform about1 = true :=
  (Spec.applies_iff w_frames).mpr ⟨w_running, w_runnable, w_alone, w_named, w_hears, w_ripe, w_room, w_tables⟩
theorem atStart : AtStart classFile x code maxLocals ret World_1 tables_1 room_1 Calls_1 rest_1 Pre_1 launch0 p0 e0 about1 theMethod args0 below0 :=
  ⟨lists_1, trivial, launch0.admits_env _ _ _, launch0.least_env, fairChoices_fair.cas, fairChoices_fair.clock, w_frames, w_args, w_heap, w_applies, trivial, trivial, w_case⟩
end start1
theorem witness_1 : WitnessClaimed_1 := ⟨start1.p0, start1.e0, start1.about1, start1.theMethod, start1.args0, start1.below0, start1.atStart⟩
end Jvm.Pilot.@@N@@
