import JvmDerived
import JvmDerived.Pilot.@@N@@Statement
import JvmDerived.Pilot.@@N@@Code
set_option linter.unusedVariables false
set_option linter.unusedSimpArgs false
namespace Jvm.RoadKit
open Sem ClassFile Op Lib Jvm.Stand Jvm.Free Jvm.LawKit
section Own
variable {p : Program} {l : Launch} {e : Env} {R : Room} {s : State} {m : MethodId} {args : Array Value} {below : List Frame} {meth : Method} {c : Code} {T : State} {locs : List Loc} {cells slots : Nat} {Z : State} {a0 : Array Value} {h : Heap}
/-- from T, with g on top, this invocation comes to its return and Q holds of what it leaves -/
def own_Ends (p : Program) (e : Env) (below : List Frame) (s : State) (Q : Option Value → Heap → List Loc → Prop) (k n : Nat) (T : State) (g : JFrame) : Prop :=
  ∃ s₂ o, Steps p.tables e below (T.setTop g) s₂ ∧ s₂.status = .running ∧ Ended s₂ below o ∧ ∃ v L, o = .returned v ∧ Q v s₂.heap L ∧ FrameEnd s o s₂ L k n
theorem own_step {Q : Option Value → Heap → List Loc → Prop} {k n : Nat} {T' : State} {g g' : JFrame} (h : ∀ t, Steps p.tables e below (T'.setTop g') t → Steps p.tables e below (T.setTop g) t) (H : own_Ends p e below s Q k n T' g') : own_Ends p e below s Q k n T g := by
  obtain ⟨s₂, o, h1, r⟩ := H
  exact ⟨s₂, o, h _ h1, r⟩
theorem own_ret (X : Stand p l e R s m args below meth c T locs cells slots) {v : Option Value} (hv : meth.sig.returnType = none → v = none) (hlk : meth.locks = false) {g : JFrame} {Q : Option Value → Heap → List Loc → Prop} {k n : Nat}
    (st : ∀ fs, (∀ (f : JFrame) (acts : List Action), f.method = m → f.locked = none → f.entered = [] → (doReturn e (T.setTop f) acts v).1 = T.setFrames fs) → Steps p.tables e below (T.setTop g) (T.setFrames fs))
    (hQ : Q v T.heap locs) (hk : cells ≤ k) (hn : slots ≤ n) : own_Ends p e below s Q k n T g := by
  obtain ⟨fs, hr, hrun, hended, hW, hsame⟩ := X.leave (v := v) hv hlk
  exact ⟨_, _, st fs hr, hrun, hended, v, locs, rfl, hQ, ⟨_, rfl⟩, hW, hsame.mono hk hn⟩
theorem own_retI (X : Stand p l e R s m args below meth c T locs cells slots) (hx : p.tables.exec = Jvm.exec) (hret : meth.sig.returnType = some .int) (hlk : meth.locks = false) {pc : Nat} {Ls : Array Slot} {z : Int32} {rest : List Value} (hd : decode c.code pc = .ok (.ireturn, 1)) {Q : Option Value → Heap → List Loc → Prop} {k n : Nat}
    (hQ : Q (some (.int z)) T.heap locs) (hk : cells ≤ k) (hn : slots ≤ n) : own_Ends p e below s Q k n T (mkF m pc Ls (.int z :: rest)) :=
  own_ret X (fun q => by rw [hret] at q; cases q) hlk (fun fs hr => retOut X hx hret rfl (Or.inl ⟨rfl, Or.inl rfl, z, rfl⟩) hd hr) hQ hk hn
theorem own_retN (X : Stand p l e R s m args below meth c T locs cells slots) (hx : p.tables.exec = Jvm.exec) {t : FieldType} (hret : meth.sig.returnType = some t) (ht : t = .boolean ∨ t = .byte ∨ t = .char ∨ t = .short) (hlk : meth.locks = false) {pc : Nat} {Ls : Array Slot} {z v : Int32} {rest : List Value} (hd : decode c.code pc = .ok (.ireturn, 1)) {Q : Option Value → Heap → List Loc → Prop} {k n : Nat}
    (hv : nar t z = v) (hQ : Q (some (.int v)) T.heap locs) (hk : cells ≤ k) (hn : slots ≤ n) : own_Ends p e below s Q k n T (mkF m pc Ls (.int z :: rest)) :=
  own_ret X (v := some (.int v)) (fun q => by rw [hret] at q; cases q) hlk (fun fs hr => retN X hx hret ht hd (by rw [hv]; exact hr)) hQ hk hn
theorem own_retL (X : Stand p l e R s m args below meth c T locs cells slots) (hx : p.tables.exec = Jvm.exec) (hret : meth.sig.returnType = some .long) (hlk : meth.locks = false) {pc : Nat} {Ls : Array Slot} {z : Int64} {rest : List Value} (hd : decode c.code pc = .ok (.lreturn, 1)) {Q : Option Value → Heap → List Loc → Prop} {k n : Nat}
    (hQ : Q (some (.long z)) T.heap locs) (hk : cells ≤ k) (hn : slots ≤ n) : own_Ends p e below s Q k n T (mkF m pc Ls (.long z :: rest)) :=
  own_ret X (fun q => by rw [hret] at q; cases q) hlk (fun fs hr => retOut X hx hret rfl (Or.inr (Or.inl ⟨rfl, rfl, z, rfl⟩)) hd hr) hQ hk hn
theorem own_retA (X : Stand p l e R s m args below meth c T locs cells slots) (hx : p.tables.exec = Jvm.exec) {t : FieldType} (hret : meth.sig.returnType = some t) (ht : t.isReference = true) (hlk : meth.locks = false) {pc : Nat} {Ls : Array Slot} {z : Value} {rest : List Value} (hz : z.isRef = true) (hn0 : narrow t z = z) (hd : decode c.code pc = .ok (.areturn, 1)) {Q : Option Value → Heap → List Loc → Prop} {k n : Nat}
    (hQ : Q (some z) T.heap locs) (hk : cells ≤ k) (hn : slots ≤ n) : own_Ends p e below s Q k n T (mkF m pc Ls (z :: rest)) :=
  own_ret X (fun q => by rw [hret] at q; cases q) hlk (fun fs hr => retOut X hx hret hn0 (Or.inr (Or.inr (Or.inr (Or.inr ⟨rfl, ht, hz⟩)))) hd hr) hQ hk hn
theorem own_retV (X : Stand p l e R s m args below meth c T locs cells slots) (hx : p.tables.exec = Jvm.exec) (hret : meth.sig.returnType = none) (hlk : meth.locks = false) {pc : Nat} {Ls : Array Slot} (hd : decode c.code pc = .ok (.return_, 1)) {Q : Option Value → Heap → List Loc → Prop} {k n : Nat}
    (hQ : Q none T.heap locs) (hk : cells ≤ k) (hn : slots ≤ n) : own_Ends p e below s Q k n T (mkF m pc Ls []) :=
  own_ret X (fun _ => rfl) hlk (fun fs hr => X.returnOut hx hret hd hr) hQ hk hn
/-- a contract: called with as' over the heap h0, the method comes back and Q holds -/
def own_Met (l : Launch) (y : MethodName) (bytes : ByteArray) (maxL : Nat) (ret : Option FieldType) (ws : List Jvm.Cond) (rm : Room) (as' : Array Value) (Z : State) (h0 : Heap) (Q : Option Value → Heap → List Loc → Prop) : Prop :=
  MetFree l y (head1 (Jvm.Cond.code y bytes maxL ret :: ws) rm) (fun a U => a = as' ∧ Z.Warmed39 U.vm ∧ U.heap = h0) (fun _ _ _ _ _ => True) (fun _ U o U' => ∃ v L, o = .returned v ∧ Q v U'.heap L ∧ FrameEnd U o U' L rm.cells rm.slots)
theorem own_body {y : MethodName} {bytes : ByteArray} {maxL : Nat} {ret : Option FieldType} {ws : List Jvm.Cond} {rm : Room} {as' : Array Value} {h0 : Heap} {Q : Option Value → Heap → List Loc → Prop} (hy : plainFor y = true) {g0 : MethodId → JFrame} (ef : ∀ m, entryFrame m as' maxL = g0 m)
    (body : ∀ (p : Program) (e : Env) (s : State) (m : MethodId) (below : List Frame) (meth : Method) (c : Code) (T : State), Stand p l e rm s m as' below meth c T [] 0 0 → p.tables.exec = Jvm.exec → c.code = bytes → c.maxLocals = maxL → meth.sig.returnType = ret → meth.locks = false → meth.name = y.name → s.vm.findClass y.cls = some m.cls → Z.Warmed39 s.vm → T.heap = h0 → own_Ends p e below s Q rm.cells rm.slots T (g0 m)) :
    own_Met l y bytes maxL ret ws rm as' Z h0 Q := by
  refine MetFree.of_bodySF hy hisR ?_
  intro p e s m args below meth c s₁ Bd hml hP hK
  obtain ⟨ha, hZ, hh⟩ := hP
  subst ha
  have q := body p e s m below meth c s₁ (Stand.of_body Bd) Bd.exec Bd.bytes hml Bd.returns Bd.notSynchronized (name_of_methodNamed Bd.named Bd.method).1 (findClass_of_methodNamed Bd.named) hZ (by rw [← hh, Bd.state]; rfl)
  rw [← ef m] at q
  exact q
theorem own_callS (X : Stand p l e R s m args below meth c T locs cells slots) (hx : p.tables.exec = Jvm.exec) (hZ : Z.Warmed39 s.vm) {own : String} {index : Nat} {y : MethodName} {bytes : ByteArray} {maxL : Nat} {ret : Option FieldType}
    (hown : s.vm.findClass own = some m.cls) (wl : (Jvm.Cond.methodLink own index y).before a0 Z = true) (wst : (Jvm.Cond.static y).before a0 Z = true) (wi : (Jvm.Cond.initialized y.cls).before a0 Z = true) (wc : (Jvm.Cond.code y bytes maxL ret).before a0 Z = true)
    (hy : y.cls ≠ "java/lang/invoke/MethodHandle" ∧ y.cls ≠ "java/lang/invoke/VarHandle") {rm : Room} {as' : Array Value} {Qc : Option Value → Heap → List Loc → Prop} (hM : own_Met l y bytes maxL ret [] rm as' Z h Qc) (eT : T.heap = h) (W : Nat)
    (hf : rm.frames + 1 ≤ R.frames) (hlo : W + (maxL + 11) + rm.locals ≤ R.locals) (hcl : cells + rm.cells ≤ R.cells) (hsl : slots + rm.slots ≤ R.slots)
    {g : JFrame} (hg : g.method = m) (hsize : g.locals.size = c.maxLocals) (argsL rest : List Value) {ps : List FieldType} {r : Option FieldType} (hpd : parseMethodDescriptor y.desc = some ⟨ps, r⟩) (hlen : argsL.length = ps.length) (has : argsL.toArray = as')
    (hstack : g.stack = argsL.reverse ++ rest) (hW : 2 * g.monitorRoom + (rest.map fun v => v.category).sum ≤ W) (hdg : decode c.code g.pc = .ok (.invokestatic index, 3)) {Q : Option Value → Heap → List Loc → Prop} {k n : Nat}
    (cont : ∀ v T' L, Stand p l e R s m args below meth c T' (locs ++ L) (cells + rm.cells) (slots + rm.slots) → Qc v T'.heap L → own_Ends p e below s Q k n T' { g with pc := g.pc + 3, stack := v.toList ++ rest }) : own_Ends p e below s Q k n T g := by
  obtain ⟨v, _, ⟨T2, L2, k2, n2⟩, -, X2, ⟨Lc, hQ, l2, y2, z2⟩, st⟩ := Jvm.LawKit.callS X hx (y := y) hown (mvT hZ wl) (mvT hZ wst) (mvT hZ wi) (mvT hZ wc) hy (backOf (W := W) hM hZ wc wi hf hlo) hg hsize (argsL := argsL) (rest := rest) (lenOf hpd hlen) hstack hW hdg (fun _ _ => ⟨has, eT, hcl, hsl⟩)
  dsimp only [Pt.U, Pt.locs, Pt.cells, Pt.slots] at X2 l2 y2 z2 st hQ
  subst l2 y2 z2
  exact own_step st (cont v T2 Lc X2 hQ)
theorem own_callV (X : Stand p l e R s m args below meth c T locs cells slots) (hx : p.tables.exec = Jvm.exec) (hZ : Z.Warmed39 s.vm) {own C : String} {index : Nat} {y z : MethodName} {bytes : ByteArray} {maxL : Nat} {ret : Option FieldType}
    (hown : s.vm.findClass own = some m.cls) (wl : (Jvm.Cond.methodLink own index y).before a0 Z = true) (wd : (Jvm.Cond.declares y).before a0 Z = true) (wf : (Jvm.Cond.selects y.cls y y).before a0 Z = true) (ws : (Jvm.Cond.selects C y z).before a0 Z = true) (wm : (Jvm.Cond.instanceMethod z).before a0 Z = true) (wi : (Jvm.Cond.initialized z.cls).before a0 Z = true) (wc : (Jvm.Cond.code z bytes maxL ret).before a0 Z = true)
    (hy : y.cls ≠ "java/lang/invoke/MethodHandle" ∧ y.cls ≠ "java/lang/invoke/VarHandle") {rm : Room} {as' : Array Value} {Qc : Option Value → Heap → List Loc → Prop} (hM : own_Met l z bytes maxL ret [] rm as' Z h Qc) (eT : T.heap = h) {b : Addr} (hE : Exa Z h b C) (W : Nat)
    (hf : rm.frames + 1 ≤ R.frames) (hlo : W + (maxL + 11) + rm.locals ≤ R.locals) (hcl : cells + rm.cells ≤ R.cells) (hsl : slots + rm.slots ≤ R.slots)
    {g : JFrame} (hg : g.method = m) (hsize : g.locals.size = c.maxLocals) (argsL rest : List Value) {ps : List FieldType} {r : Option FieldType} (hpd : parseMethodDescriptor y.desc = some ⟨ps, r⟩) (hlen : argsL.length = ps.length) (has : (Value.ref b :: argsL).toArray = as')
    (hstack : g.stack = argsL.reverse ++ .ref b :: rest) (hW : 2 * g.monitorRoom + (rest.map fun v => v.category).sum ≤ W) (hdg : decode c.code g.pc = .ok (.invokevirtual index, 3)) {Q : Option Value → Heap → List Loc → Prop} {k n : Nat}
    (cont : ∀ v T' L, Stand p l e R s m args below meth c T' (locs ++ L) (cells + rm.cells) (slots + rm.slots) → Qc v T'.heap L → own_Ends p e below s Q k n T' { g with pc := g.pc + 3, stack := v.toList ++ rest }) : own_Ends p e below s Q k n T g := by
  obtain ⟨cq, kq, q1, q2, q3⟩ := isOf hZ eT hE
  obtain ⟨v, _, ⟨T2, L2, k2, n2⟩, -, X2, ⟨Lc, hQ, l2, y2, z2⟩, st⟩ := X.virtualBack hx (y := y) (z := z) hown (mvT hZ wl) (mvT hZ wd) (notFace_of_selects (args := #[]) (mvT hZ wf)) (mvT hZ ws) (mvT hZ wm) hy (backOf (W := W) hM hZ wc wi hf hlo) q1 q3 hg hsize (Steps.refl _) (argsL := argsL) (rest := rest) (lenOf hpd hlen) hstack hW hdg (fun _ _ => ⟨has, eT, hcl, hsl⟩)
  dsimp only [Pt.U, Pt.locs, Pt.cells, Pt.slots] at X2 l2 y2 z2 st hQ
  subst l2 y2 z2
  exact own_step (fun _ k => st.trans k) (cont v T2 Lc X2 hQ)
theorem own_callC (X : Stand p l e R s m args below meth c T locs cells slots) (hx : p.tables.exec = Jvm.exec) (hZ : Z.Warmed39 s.vm) {own : String} {index : Nat} {y : MethodName} {bytes : ByteArray} {maxL : Nat} (hy1 : y.name = "<init>")
    (hown : s.vm.findClass own = some m.cls) (wl : (Jvm.Cond.methodLink own index y).before a0 Z = true) (wm : (Jvm.Cond.instanceMethod y).before a0 Z = true) (wi : (Jvm.Cond.initialized y.cls).before a0 Z = true) (wc : (Jvm.Cond.code y bytes maxL none).before a0 Z = true)
    (hy : y.cls ≠ "java/lang/invoke/MethodHandle" ∧ y.cls ≠ "java/lang/invoke/VarHandle") {rm : Room} {as' : Array Value} {Qc : Option Value → Heap → List Loc → Prop} (hM : own_Met l y bytes maxL none [] rm as' Z h Qc) (eT : T.heap = h) {b : Addr} (W : Nat)
    (hf : rm.frames + 1 ≤ R.frames) (hlo : W + (maxL + 11) + rm.locals ≤ R.locals) (hcl : cells + rm.cells ≤ R.cells) (hsl : slots + rm.slots ≤ R.slots)
    {g : JFrame} (hg : g.method = m) (hsize : g.locals.size = c.maxLocals) (argsL rest : List Value) {ps : List FieldType} {r : Option FieldType} (hpd : parseMethodDescriptor y.desc = some ⟨ps, r⟩) (hlen : argsL.length = ps.length) (has : (Value.ref b :: argsL).toArray = as')
    (hstack : g.stack = argsL.reverse ++ .ref b :: rest) (hW : 2 * g.monitorRoom + (rest.map fun v => v.category).sum ≤ W) (hdg : decode c.code g.pc = .ok (.invokespecial index, 3)) {Q : Option Value → Heap → List Loc → Prop} {k n : Nat}
    (cont : ∀ v T' L, Stand p l e R s m args below meth c T' (locs ++ L) (cells + rm.cells) (slots + rm.slots) → Qc v T'.heap L → own_Ends p e below s Q k n T' { g with pc := g.pc + 3, stack := v.toList ++ rest }) : own_Ends p e below s Q k n T g := by
  obtain ⟨v, _, ⟨T2, L2, k2, n2⟩, -, X2, ⟨Lc, hQ, l2, y2, z2⟩, st⟩ := X.specialBack hx (y := y) hy1 hown (mvT hZ wl) (mvT hZ wm) (mvT hZ wc) hy (backOf (W := W) hM hZ wc wi hf hlo) hg hsize (Steps.refl _) (a := b) (argsL := argsL) (rest := rest) (lenOf hpd hlen) hstack hW hdg (fun _ _ => ⟨has, eT, hcl, hsl⟩)
  dsimp only [Pt.U, Pt.locs, Pt.cells, Pt.slots] at X2 l2 y2 z2 st hQ
  subst l2 y2 z2
  exact own_step (fun _ k => st.trans k) (cont v T2 Lc X2 hQ)
/-! arrays by their lists -/
variable {a b : Addr} {kA : ClassId} {ty : FieldType} {z : Int32} {vs : List Value} {dv : Value}
theorem own_newA (X : Stand p l e R s m args below meth c T locs cells slots) (hx : p.tables.exec = Jvm.exec) (hZ : Z.Warmed39 s.vm) {aty : ArrayType} (w : (Jvm.Cond.arrayClass (newarray.typeOf aty)).before a0 Z = true) (eT : T.heap = h) {g : JFrame} (hg : g.method = m) (hd : decode c.code g.pc = .ok (.newarray aty, 2)) {n : Int32} {rest : List Value} (hs : g.stack = .int n :: rest)
    (hn : ¬ n < 0) {cap : Nat} (hcap : n.toNatClampNeg ≤ cap) (hb : cap * 8 ≤ 536870912) (hc : cells + 1 ≤ R.cells) (hl : slots + cap ≤ R.slots) :
    ∃ T' h' cA b, b = h.size ∧ Stand p l e R s m args below meth c T' locs (cells + 1) (slots + cap) ∧ T'.heap = h' ∧ Ext h h' ∧ Arv Z h' b cA (newarray.typeOf aty) n (List.replicate cap (defaultValue (newarray.typeOf aty))) (defaultValue (newarray.typeOf aty)) ∧
      ∀ target, Steps p.tables e below (T'.setTop { g with pc := g.pc + 2, stack := .ref b :: rest }) target → Steps p.tables e below (T.setTop g) target := by
  obtain ⟨T', h', cA, X', e', E, A, st⟩ := newP X hx hZ w eT hg hd hs hn hcap hb hc hl
  exact ⟨T', h', cA, _, rfl, X', e', E, (Arv.new A hn).pad (pad_rep [] _ cap), st⟩
theorem own_stB (X : Stand p l e R s m args below meth c T locs cells slots) (hx : p.tables.exec = Jvm.exec) (hZ : Z.Warmed39 s.vm) (eT : T.heap = h) (V : Arv Z h a kA .byte z vs dv) {j x : Int32} (hj : ¬ j < 0 ∧ j < z) (i : Nat) (hi : j.toNatClampNeg = i) (hl : i < vs.length) {g : JFrame} (hg : g.method = m) {rest : List Value} (hs : g.stack = .int x :: .int j :: .ref a :: rest) (hd : decode c.code g.pc = .ok (.bastore, 1)) :
    ∃ T' h' L, Stand p l e R s m args below meth c T' (locs ++ [⟨a, L⟩]) cells slots ∧ T'.heap = h' ∧ Wr h h' a L (.int x.toInt8.toInt32) ∧ Arv Z h' a kA .byte z (vs.set i (.int x.toInt8.toInt32)) dv ∧ ∀ target, Steps p.tables e below (T'.setTop { g with pc := g.pc + 1, stack := rest }) target → Steps p.tables e below (T.setTop g) target := by
  obtain ⟨cl, Ar, q, S, N, H, G⟩ := V
  obtain ⟨T', h', X', e', W, st⟩ := stB X hx hZ eT Ar (inb_of S hj) hg hs hd
  exact ⟨T', h', _, X', e', W, Arv.set Ar q S N H G (fits_nar_byte _) W i hi hl, st⟩
theorem own_stZ (X : Stand p l e R s m args below meth c T locs cells slots) (hx : p.tables.exec = Jvm.exec) (hZ : Z.Warmed39 s.vm) (eT : T.heap = h) (V : Arv Z h a kA .boolean z vs dv) {j x : Int32} (hj : ¬ j < 0 ∧ j < z) (i : Nat) (hi : j.toNatClampNeg = i) (hl : i < vs.length) {g : JFrame} (hg : g.method = m) {rest : List Value} (hs : g.stack = .int x :: .int j :: .ref a :: rest) (hd : decode c.code g.pc = .ok (.bastore, 1)) :
    ∃ T' h' L, Stand p l e R s m args below meth c T' (locs ++ [⟨a, L⟩]) cells slots ∧ T'.heap = h' ∧ Wr h h' a L (.int (nar .boolean x)) ∧ Arv Z h' a kA .boolean z (vs.set i (.int (nar .boolean x))) dv ∧ ∀ target, Steps p.tables e below (T'.setTop { g with pc := g.pc + 1, stack := rest }) target → Steps p.tables e below (T.setTop g) target := by
  obtain ⟨cl, Ar, q, S, N, H, G⟩ := V
  obtain ⟨T', h', X', e', W, st⟩ := stZ X hx hZ eT Ar (inb_of S hj) hg hs hd
  exact ⟨T', h', _, X', e', W, Arv.set Ar q S N H G (fits_nar_bool _) W i hi hl, st⟩
theorem own_stC (X : Stand p l e R s m args below meth c T locs cells slots) (hx : p.tables.exec = Jvm.exec) (hZ : Z.Warmed39 s.vm) (eT : T.heap = h) (V : Arv Z h a kA .char z vs dv) {j x : Int32} (hj : ¬ j < 0 ∧ j < z) (i : Nat) (hi : j.toNatClampNeg = i) (hl : i < vs.length) {g : JFrame} (hg : g.method = m) {rest : List Value} (hs : g.stack = .int x :: .int j :: .ref a :: rest) (hd : decode c.code g.pc = .ok (.castore, 1)) :
    ∃ T' h' L, Stand p l e R s m args below meth c T' (locs ++ [⟨a, L⟩]) cells slots ∧ T'.heap = h' ∧ Wr h h' a L (.int (nar .char x)) ∧ Arv Z h' a kA .char z (vs.set i (.int (nar .char x))) dv ∧ ∀ target, Steps p.tables e below (T'.setTop { g with pc := g.pc + 1, stack := rest }) target → Steps p.tables e below (T.setTop g) target := by
  obtain ⟨cl, Ar, q, S, N, H, G⟩ := V
  obtain ⟨T', h', X', e', W, st⟩ := stC X hx hZ eT Ar (inb_of S hj) hg hs hd
  exact ⟨T', h', _, X', e', W, Arv.set Ar q S N H G (fits_nar_char _) W i hi hl, st⟩
theorem own_stI (X : Stand p l e R s m args below meth c T locs cells slots) (hx : p.tables.exec = Jvm.exec) (hZ : Z.Warmed39 s.vm) (eT : T.heap = h) (V : Arv Z h a kA .int z vs dv) {j x : Int32} (hj : ¬ j < 0 ∧ j < z) (i : Nat) (hi : j.toNatClampNeg = i) (hl : i < vs.length) {g : JFrame} (hg : g.method = m) {rest : List Value} (hs : g.stack = .int x :: .int j :: .ref a :: rest) (hd : decode c.code g.pc = .ok (.iastore, 1)) :
    ∃ T' h' L, Stand p l e R s m args below meth c T' (locs ++ [⟨a, L⟩]) cells slots ∧ T'.heap = h' ∧ Wr h h' a L (.int x) ∧ Arv Z h' a kA .int z (vs.set i (.int x)) dv ∧ ∀ target, Steps p.tables e below (T'.setTop { g with pc := g.pc + 1, stack := rest }) target → Steps p.tables e below (T.setTop g) target := by
  obtain ⟨cl, Ar, q, S, N, H, G⟩ := V
  obtain ⟨T', h', X', e', W, st⟩ := stI X hx hZ eT Ar (inb_of S hj) hg hs hd
  exact ⟨T', h', _, X', e', W, Arv.set Ar q S N H G rfl W i hi hl, st⟩
theorem own_stJ (X : Stand p l e R s m args below meth c T locs cells slots) (hx : p.tables.exec = Jvm.exec) (hZ : Z.Warmed39 s.vm) (eT : T.heap = h) (V : Arv Z h a kA .long z vs dv) {j : Int32} {x : Int64} (hj : ¬ j < 0 ∧ j < z) (i : Nat) (hi : j.toNatClampNeg = i) (hl : i < vs.length) {g : JFrame} (hg : g.method = m) {rest : List Value} (hs : g.stack = .long x :: .int j :: .ref a :: rest) (hd : decode c.code g.pc = .ok (.lastore, 1)) :
    ∃ T' h' L, Stand p l e R s m args below meth c T' (locs ++ [⟨a, L⟩]) cells slots ∧ T'.heap = h' ∧ Wr h h' a L (.long x) ∧ Arv Z h' a kA .long z (vs.set i (.long x)) dv ∧ ∀ target, Steps p.tables e below (T'.setTop { g with pc := g.pc + 1, stack := rest }) target → Steps p.tables e below (T.setTop g) target := by
  obtain ⟨cl, Ar, q, S, N, H, G⟩ := V
  obtain ⟨T', h', X', e', W, st⟩ := stJ X hx hZ eT Ar (inb_of S hj) hg hs hd
  exact ⟨T', h', _, X', e', W, Arv.set Ar q S N H G rfl W i hi hl, st⟩
theorem own_ldB (X : Stand p l e R s m args below meth c T locs cells slots) (hx : p.tables.exec = Jvm.exec) (hZ : Z.Warmed39 s.vm) (eT : T.heap = h) (V : Arv Z h a kA .byte z vs dv) {j : Int32} {v : Value} (hj : ¬ j < 0 ∧ j < z) (hv : vs.getD j.toNatClampNeg dv = v) {g : JFrame} (hg : g.method = m) {rest : List Value} (hs : g.stack = .int j :: .ref a :: rest) (hd : decode c.code g.pc = .ok (.baload, 1)) :
    ∀ t, Steps p.tables e below (T.setTop { g with pc := g.pc + 1, stack := v :: rest }) t → Steps p.tables e below (T.setTop g) t := by
  obtain ⟨cl, Ar, q, S, N, H, G⟩ := V
  exact fun t k => X.baloadBytes hx (by rw [eT]; exact Ar.1) (State.isArrayOf_alike hZ.alike Ar.2.1) Ar.2.2 (inb_of S hj) (Has.at H (inb_of S hj) hv) hg hs hd _ k
theorem own_ldZ (X : Stand p l e R s m args below meth c T locs cells slots) (hx : p.tables.exec = Jvm.exec) (hZ : Z.Warmed39 s.vm) (eT : T.heap = h) (V : Arv Z h a kA .boolean z vs dv) {j : Int32} {v : Value} (hj : ¬ j < 0 ∧ j < z) (hv : vs.getD j.toNatClampNeg dv = v) {g : JFrame} (hg : g.method = m) {rest : List Value} (hs : g.stack = .int j :: .ref a :: rest) (hd : decode c.code g.pc = .ok (.baload, 1)) :
    ∀ t, Steps p.tables e below (T.setTop { g with pc := g.pc + 1, stack := v :: rest }) t → Steps p.tables e below (T.setTop g) t := by
  obtain ⟨cl, Ar, q, S, N, H, G⟩ := V
  exact fun t k => X.baloadBooleans hx (by rw [eT]; exact Ar.1) (State.isArrayOf_alike hZ.alike Ar.2.1) Ar.2.2 (inb_of S hj) (Has.at H (inb_of S hj) hv) hg hs hd _ k
theorem own_ldC (X : Stand p l e R s m args below meth c T locs cells slots) (hx : p.tables.exec = Jvm.exec) (hZ : Z.Warmed39 s.vm) (eT : T.heap = h) (V : Arv Z h a kA .char z vs dv) {j : Int32} {v : Value} (hj : ¬ j < 0 ∧ j < z) (hv : vs.getD j.toNatClampNeg dv = v) {g : JFrame} (hg : g.method = m) {rest : List Value} (hs : g.stack = .int j :: .ref a :: rest) (hd : decode c.code g.pc = .ok (.caload, 1)) :
    ∀ t, Steps p.tables e below (T.setTop { g with pc := g.pc + 1, stack := v :: rest }) t → Steps p.tables e below (T.setTop g) t := by
  obtain ⟨cl, Ar, q, S, N, H, G⟩ := V
  exact fun t k => X.caload hx (by rw [eT]; exact Ar.1) (State.isArrayOf_alike hZ.alike Ar.2.1) Ar.2.2 (inb_of S hj) (Has.at H (inb_of S hj) hv) hg hs hd _ k
theorem own_ldI (X : Stand p l e R s m args below meth c T locs cells slots) (hx : p.tables.exec = Jvm.exec) (hZ : Z.Warmed39 s.vm) (eT : T.heap = h) (V : Arv Z h a kA .int z vs dv) {j : Int32} {v : Value} (hj : ¬ j < 0 ∧ j < z) (hv : vs.getD j.toNatClampNeg dv = v) {g : JFrame} (hg : g.method = m) {rest : List Value} (hs : g.stack = .int j :: .ref a :: rest) (hd : decode c.code g.pc = .ok (.iaload, 1)) :
    ∀ t, Steps p.tables e below (T.setTop { g with pc := g.pc + 1, stack := v :: rest }) t → Steps p.tables e below (T.setTop g) t := by
  obtain ⟨cl, Ar, q, S, N, H, G⟩ := V
  exact fun t k => X.iaload hx (by rw [eT]; exact Ar.1) (State.isArrayOf_alike hZ.alike Ar.2.1) Ar.2.2 (inb_of S hj) (Has.at H (inb_of S hj) hv) hg hs hd _ k
theorem own_ldJ (X : Stand p l e R s m args below meth c T locs cells slots) (hx : p.tables.exec = Jvm.exec) (hZ : Z.Warmed39 s.vm) (eT : T.heap = h) (V : Arv Z h a kA .long z vs dv) {j : Int32} {v : Value} (hj : ¬ j < 0 ∧ j < z) (hv : vs.getD j.toNatClampNeg dv = v) {g : JFrame} (hg : g.method = m) {rest : List Value} (hs : g.stack = .int j :: .ref a :: rest) (hd : decode c.code g.pc = .ok (.laload, 1)) :
    ∀ t, Steps p.tables e below (T.setTop { g with pc := g.pc + 1, stack := v :: rest }) t → Steps p.tables e below (T.setTop g) t := by
  obtain ⟨cl, Ar, q, S, N, H, G⟩ := V
  exact fun t k => X.laload hx (by rw [eT]; exact Ar.1) (State.isArrayOf_alike hZ.alike Ar.2.1) Ar.2.2 (inb_of S hj) (Has.at H (inb_of S hj) hv) hg hs hd _ k
theorem own_ldA (X : Stand p l e R s m args below meth c T locs cells slots) (hx : p.tables.exec = Jvm.exec) (hZ : Z.Warmed39 s.vm) (eT : T.heap = h) (V : Arv Z h a kA ty z vs dv) (hty : ty.isReference = true) {j : Int32} {v : Value} (hj : ¬ j < 0 ∧ j < z) (hv : vs.getD j.toNatClampNeg dv = v) {g : JFrame} (hg : g.method = m) {rest : List Value} (hs : g.stack = .int j :: .ref a :: rest) (hd : decode c.code g.pc = .ok (.aaload, 1)) :
    ∀ t, Steps p.tables e below (T.setTop { g with pc := g.pc + 1, stack := v :: rest }) t → Steps p.tables e below (T.setTop g) t := by
  obtain ⟨cl, Ar, q, S, N, H, G⟩ := V
  exact fun t k => X.aaload hx (by rw [eT]; exact Ar.1) (State.isArrayOf_alike hZ.alike Ar.2.1) hty Ar.2.2 (inb_of S hj) (Has.at H (inb_of S hj) hv) hg hs hd _ k
theorem own_len (X : Stand p l e R s m args below meth c T locs cells slots) (hx : p.tables.exec = Jvm.exec) (hZ : Z.Warmed39 s.vm) (eT : T.heap = h) (V : Arv Z h a kA ty z vs dv) {g : JFrame} (hg : g.method = m) {rest : List Value} (hs : g.stack = .ref a :: rest) (hd : decode c.code g.pc = .ok (.arraylength, 1)) :
    ∀ t, Steps p.tables e below (T.setTop { g with pc := g.pc + 1, stack := .int z :: rest }) t → Steps p.tables e below (T.setTop g) t := by
  obtain ⟨cl, Ar, q, S, N, H, G⟩ := V
  refine fun t k => X.arraylength hx (by rw [eT]; exact Ar.1) (State.isArrayOf_alike hZ.alike Ar.2.1) hg hs hd _ ?_
  rw [len_of S N]; exact k
theorem own_newR (X : Stand p l e R s m args below meth c T locs cells slots) (hx : p.tables.exec = Jvm.exec) (hZ : Z.Warmed39 s.vm) {own C : String} {index : Nat} (hown : s.vm.findClass own = some m.cls) (w1 : (Jvm.Cond.classLink own index C).before a0 Z = true) (w2 : (Jvm.Cond.arrayOver (.object C)).before a0 Z = true)
    (eT : T.heap = h) {g : JFrame} (hg : g.method = m) (hd : decode c.code g.pc = .ok (.anewarray index, 3)) {n : Int32} {rest : List Value} (hs : g.stack = .int n :: rest) (hn : ¬ n < 0) {cap : Nat} (hcap : n.toNatClampNeg ≤ cap) (hb : cap * 8 ≤ 536870912) (hc : cells + 1 ≤ R.cells) (hl : slots + cap ≤ R.slots) :
    ∃ T' h' cA b, b = h.size ∧ Stand p l e R s m args below meth c T' locs (cells + 1) (slots + cap) ∧ T'.heap = h' ∧ Ext h h' ∧ Arv Z h' b cA (.object C) n (List.replicate cap .null) .null ∧ Ovr Z cA C ∧
      ∀ target, Steps p.tables e below (T'.setTop { g with pc := g.pc + 3, stack := .ref b :: rest }) target → Steps p.tables e below (T.setTop g) target := by
  obtain ⟨T', h', cA, X', e', E, A, O, st⟩ := newR X hx hZ hown w1 w2 eT hg hd hs hn hcap hb hc hl
  exact ⟨T', h', cA, _, rfl, X', e', E, (Arv.new A hn).pad (pad_rep [] _ cap), O, st⟩
theorem own_stA (X : Stand p l e R s m args below meth c T locs cells slots) (hx : p.tables.exec = Jvm.exec) (hZ : Z.Warmed39 s.vm) (eT : T.heap = h) {C : String} {y : Addr} (V : Arv Z h a kA (.object C) z vs dv) (O : Ovr Z kA C) (I : Ins Z h y C true) {j : Int32} (hj : ¬ j < 0 ∧ j < z) (i : Nat) (hi : j.toNatClampNeg = i) (hl : i < vs.length) {g : JFrame} (hg : g.method = m) {rest : List Value} (hs : g.stack = .ref y :: .int j :: .ref a :: rest) (hd : decode c.code g.pc = .ok (.aastore, 1)) :
    ∃ T' h' L, Stand p l e R s m args below meth c T' (locs ++ [⟨a, L⟩]) cells slots ∧ T'.heap = h' ∧ Wr h h' a L (.ref y) ∧ Arv Z h' a kA (.object C) z (vs.set i (.ref y)) dv ∧ ∀ target, Steps p.tables e below (T'.setTop { g with pc := g.pc + 1, stack := rest }) target → Steps p.tables e below (T.setTop g) target := by
  obtain ⟨cl, Ar, q, S, N, H, G⟩ := V
  obtain ⟨T', h', X', e', W, st⟩ := stR X hx hZ eT Ar (inb_of S hj) rfl (Sto.ofV Ar q O I) hg hs hd
  exact ⟨T', h', _, X', e', W, Arv.set Ar q S N H G rfl W i hi hl, st⟩
/-! what the case's words say of statics -/
theorem own_eqI {t : Term} {n : Int32} {args : Array Value} {s : State} (q : (Jvm.Cond.eq t (.int n)).value args s none s [] = some true) : t.eval args s none [] s = some (.int n) := by
  cases ht : t.eval args s none [] s with
  | none => simp [Jvm.Cond.value, ht] at q
  | some v => cases v <;> simp [Jvm.Cond.value, ht, Term.eval, Value.isRef] at q ⊢ <;> exact q
theorem own_eqJ {t : Term} {n : Int64} {args : Array Value} {s : State} (q : (Jvm.Cond.eq t (.long n)).value args s none s [] = some true) : t.eval args s none [] s = some (.long n) := by
  cases ht : t.eval args s none [] s with
  | none => simp [Jvm.Cond.value, ht] at q
  | some v => cases v <;> simp [Jvm.Cond.value, ht, Term.eval, Value.isRef] at q ⊢ <;> exact q
theorem own_eqR {t u : Term} {x : Addr} {args : Array Value} {s : State} (hu : u.eval args s none [] s = some (.ref x)) (q : (Jvm.Cond.eq t u).value args s none s [] = some true) : t.eval args s none [] s = some (.ref x) := by
  cases ht : t.eval args s none [] s with
  | none => simp [Jvm.Cond.value, ht] at q
  | some v => cases v <;> simp [Jvm.Cond.value, ht, hu, Value.isRef] at q ⊢ <;> exact q
theorem own_lenT {t : Term} {a : Addr} {cl : Cell} {ty : FieldType} {z : Int32} {args : Array Value} {s : State} (ht : t.eval args s none [] s = some (.ref a)) (A : Arr s s.heap a cl ty) (q : (Term.length t).eval args s none [] s = some (.int z)) : cl.slots.size < 2 ^ 31 ∧ cl.slots.size.toInt32 = z := by
  have ha : s.arrayAt? a = some cl := Arr.fin (Vm.Alike.refl _) A
  by_cases hl : cl.slots.size < 2 ^ 31
  · rw [len_f ht ha hl] at q; cases q; exact ⟨hl, rfl⟩
  · simp [Term.eval, ht, ha, hl] at q
end Own
end Jvm.RoadKit
namespace Jvm.Pilot.@@N@@
open Jvm Jvm.ClassFile Sem Op Lib Jvm.Free Jvm.Stand Jvm.LawKit Jvm.RoadKit Bundle Jvm.Pilot.@@N@@.Jvm.D
theorem own_leafI {x y : Int32} (q : y = x) : some (Value.int x) = some (.int y) := by rw [q]
theorem own_leafJ {x y : Int64} (q : y = x) : some (Value.long x) = some (.long y) := by rw [q]
theorem own_bb (x : Int32) : x.toInt8.toInt32.toInt8.toInt32 = x.toInt8.toInt32 := by
  have h1 := c_i2b x; have h2 := c_i2b x.toInt8.toInt32
  rw [← Int32.toInt_inj]; omega
def own_acc (f : Nat → Int32) (A : Nat) : Nat → Int64
  | 0 => (0 : Int64)
  | j + 1 => (own_acc f A j <<< ((8 : Int32) &&& 0x3f).toInt64) ||| ((f (A + j) &&& (255 : Int32)).toInt64)
theorem own_lt {x y : Int32} {n k : Nat} (hx : x.toInt = n) (hy : y.toInt = k) : x < y ↔ n < k := by rw [Int32.lt_iff_toInt_lt]; omega
theorem own_add {x y : Int32} {n k : Nat} (hx : x.toInt = n) (hy : y.toInt = k) (h : n + k < 2147483648) : (x + y).toInt = (n + k : Nat) := by
  have h1 := c_iadd x y; have h2 := rng32 (x + y); omega
theorem own_nn {x : Int32} {n : Nat} (hx : x.toInt = n) : ¬ x < 0 := by
  rw [Int32.lt_iff_toInt_lt]; have e0 : (0 : Int32).toInt = 0 := rfl; omega
theorem own_clamp {x : Int32} {n : Nat} (hx : x.toInt = n) : x.toNatClampNeg = n := by simp only [Int32.toNatClampNeg]; omega
theorem d1_0 : decode prog_2_method_3_code 0 = .ok (.lconst 0, 1) := by decide +kernel
theorem d1_1 : decode prog_2_method_3_code 1 = .ok (.lstore_n 3, 1) := by decide +kernel
theorem d1_2 : decode prog_2_method_3_code 2 = .ok (.iload_n 1, 1) := by decide +kernel
theorem d1_3 : decode prog_2_method_3_code 3 = .ok (.istore 5, 2) := by decide +kernel
theorem d1_5 : decode prog_2_method_3_code 5 = .ok (.iload 5, 2) := by decide +kernel
theorem d1_7 : decode prog_2_method_3_code 7 = .ok (.iload_n 1, 1) := by decide +kernel
theorem d1_8 : decode prog_2_method_3_code 8 = .ok (.iload_n 2, 1) := by decide +kernel
theorem d1_9 : decode prog_2_method_3_code 9 = .ok (.iadd, 1) := by decide +kernel
theorem d1_10 : decode prog_2_method_3_code 10 = .ok (.if_icmp .ge 24, 3) := by decide +kernel
theorem d1_13 : decode prog_2_method_3_code 13 = .ok (.lload_n 3, 1) := by decide +kernel
theorem d1_14 : decode prog_2_method_3_code 14 = .ok (.bipush 8, 2) := by decide +kernel
theorem d1_16 : decode prog_2_method_3_code 16 = .ok (.lshl, 1) := by decide +kernel
theorem d1_17 : decode prog_2_method_3_code 17 = .ok (.aload_n 0, 1) := by decide +kernel
theorem d1_18 : decode prog_2_method_3_code 18 = .ok (.iload 5, 2) := by decide +kernel
theorem d1_20 : decode prog_2_method_3_code 20 = .ok (.baload, 1) := by decide +kernel
theorem d1_21 : decode prog_2_method_3_code 21 = .ok (.sipush 255, 3) := by decide +kernel
theorem d1_24 : decode prog_2_method_3_code 24 = .ok (.iand, 1) := by decide +kernel
theorem d1_25 : decode prog_2_method_3_code 25 = .ok (.i2l, 1) := by decide +kernel
theorem d1_26 : decode prog_2_method_3_code 26 = .ok (.lor, 1) := by decide +kernel
theorem d1_27 : decode prog_2_method_3_code 27 = .ok (.lstore_n 3, 1) := by decide +kernel
theorem d1_28 : decode prog_2_method_3_code 28 = .ok (.iinc 5 1, 3) := by decide +kernel
theorem d1_31 : decode prog_2_method_3_code 31 = .ok (.goto (-26), 3) := by decide +kernel
theorem d1_34 : decode prog_2_method_3_code 34 = .ok (.lload_n 3, 1) := by decide +kernel
theorem d1_35 : decode prog_2_method_3_code 35 = .ok (.lreturn, 1) := by decide +kernel
theorem ef_1 (a1 : Addr) (p2 : Int32) (p3 : Int32) (m : MethodId) : entryFrame m #[(.ref a1), (.int p2), (.int p3)] 6 = mkF m 0 #[.val (.ref a1), .val (.int p2), .val (.int p3), .unset, .unset, .unset] [] := by first | (simp [entryFrame, mkF, argsToLocals, Value.category]; done) | rfl
theorem pn_0 : plainName "com/example/fixwire/fixwire/BigEndian" = true := by first | (simp [plainName, overriddenIn]; done) | decide +kernel
set_option maxRecDepth 65536 in
set_option maxHeartbeats 40000000 in
theorem rm1 (l : Launch) (Z : State) (a0 : Array Value) (hw : ∀ d ∈ tables_1, d.before a0 Z = true) (ws : List Jvm.Cond) (a1 : Addr) (p2 : Int32) (p3 : Int32) (kA : ClassId) (vs : List Value) (f : Nat → Int32) (A N : Nat) (h0 : Heap) (n0 : Nat) (Z0 : n0 ≤ h0.size) (V : Arv Z h0 a1 kA .byte (8 : Int32) vs (.int (0 : Int32))) (hf : ∀ i, i < 8 → vs.getD i (.int (0 : Int32)) = .int (f i)) (hA : p2.toInt = A) (hN : p3.toInt = N) (hle : A + N ≤ 8) :
    own_Met l (⟨"com/example/fixwire/fixwire/BigEndian", "unsigned", "([BII)J"⟩ : MethodName) prog_2_method_3_code 6 (some .long) ws ({ frames := 0, cells := 0, slots := 0, locals := 0 } : Room) #[(.ref a1), (.int p2), (.int p3)] Z h0 (fun v h L => v = some (.long (own_acc f A N)) ∧ Fr n0 L ∧ h = h0) := by
  refine own_body (plainFor_of_name pn_0) (ef_1 a1 p2 p3) ?_
  intro p e s m below meth c T0 X0 hx hby hml0 hret hlk hnm hown hZ e0
  have hml : c.maxLocals = 6 := hml0
  have N0 := Fr.nil n0
  refine own_step (fun _ k => XS.lconst X0.here hx rfl (hb hby d1_0) k) ?_
  show own_Ends _ _ _ _ _ _ _ T0 (mkF m 1 #[.val (.ref a1), .val (.int p2), .val (.int p3), .unset, .unset, .unset] [(.long (0 : Int64))])
  refine own_step (fun _ k => XS.lstoreN X0.here hx rfl (hb hby d1_1) rfl (l' := #[.val (.ref a1), .val (.int p2), .val (.int p3), .val (.long (0 : Int64)), .second, .unset]) rfl k) ?_
  show own_Ends _ _ _ _ _ _ _ T0 (mkF m 2 #[.val (.ref a1), .val (.int p2), .val (.int p3), .val (.long (0 : Int64)), .second, .unset] [])
  refine own_step (fun _ k => XS.iloadN X0.here hx rfl (hb hby d1_2) rfl k) ?_
  show own_Ends _ _ _ _ _ _ _ T0 (mkF m 3 #[.val (.ref a1), .val (.int p2), .val (.int p3), .val (.long (0 : Int64)), .second, .unset] [(.int p2)])
  refine own_step (fun _ k => XS.istore X0.here hx rfl (hb hby d1_3) rfl (l' := #[.val (.ref a1), .val (.int p2), .val (.int p3), .val (.long (0 : Int64)), .second, .val (.int p2)]) rfl k) ?_
  show own_Ends _ _ _ _ _ _ _ T0 (mkF m 5 #[.val (.ref a1), .val (.int p2), .val (.int p3), .val (.long (0 : Int64)), .second, .val (.int p2)] [])
  have hs : (p2 + p3).toInt = (A + N : Nat) := own_add hA hN (by omega)
  have e_8 : (8 : Int32).toInt = (8 : Nat) := by decide
  have e_1 : (1 : Int32).toInt = (1 : Nat) := by decide
  have loop : ∀ (k j : Nat) (i : Int32), j + k = N → i.toInt = (A + j : Nat) → own_Ends p e below s (fun v h L => v = some (.long (own_acc f A N)) ∧ Fr n0 L ∧ h = h0) (({ frames := 0, cells := 0, slots := 0, locals := 0 } : Room)).cells (({ frames := 0, cells := 0, slots := 0, locals := 0 } : Room)).slots T0 (mkF m 5 #[.val (.ref a1), .val (.int p2), .val (.int p3), .val (.long (own_acc f A j)), .second, .val (.int i)] []) := by
    intro k
    induction k with
    | zero =>
      intro j i hj hi
      have hc : ¬ i < (p2 + p3) := fun q => by have := (own_lt hi hs).mp q; omega
      obtain rfl : j = N := by omega
      refine own_step (fun _ k => XS.iload X0.here hx rfl (hb hby d1_5) rfl k) ?_
      show own_Ends _ _ _ _ _ _ _ T0 (mkF m 7 #[.val (.ref a1), .val (.int p2), .val (.int p3), .val (.long (own_acc f A j)), .second, .val (.int i)] [(.int i)])
      refine own_step (fun _ k => XS.iloadN X0.here hx rfl (hb hby d1_7) rfl k) ?_
      show own_Ends _ _ _ _ _ _ _ T0 (mkF m 8 #[.val (.ref a1), .val (.int p2), .val (.int p3), .val (.long (own_acc f A j)), .second, .val (.int i)] [(.int p2), (.int i)])
      refine own_step (fun _ k => XS.iloadN X0.here hx rfl (hb hby d1_8) rfl k) ?_
      show own_Ends _ _ _ _ _ _ _ T0 (mkF m 9 #[.val (.ref a1), .val (.int p2), .val (.int p3), .val (.long (own_acc f A j)), .second, .val (.int i)] [(.int p3), (.int p2), (.int i)])
      refine own_step (fun _ k => XS.iadd X0.here hx rfl (hb hby d1_9) rfl k) ?_
      show own_Ends _ _ _ _ _ _ _ T0 (mkF m 10 #[.val (.ref a1), .val (.int p2), .val (.int p3), .val (.long (own_acc f A j)), .second, .val (.int i)] [(.int (p2 + p3)), (.int i)])
      refine own_step (fun _ k => XS.icmpYes X0.here hx rfl (pc0 := 10) (pc' := 34) rfl (hb hby d1_10) rfl (flt hc).2.1 (by decide) (by decide) k) ?_
      show own_Ends _ _ _ _ _ _ _ T0 (mkF m 34 #[.val (.ref a1), .val (.int p2), .val (.int p3), .val (.long (own_acc f A j)), .second, .val (.int i)] [])
      refine own_step (fun _ k => XS.lloadN X0.here hx rfl (hb hby d1_34) rfl k) ?_
      show own_Ends _ _ _ _ _ _ _ T0 (mkF m 35 #[.val (.ref a1), .val (.int p2), .val (.int p3), .val (.long (own_acc f A j)), .second, .val (.int i)] [(.long (own_acc f A j))])
      exact own_retL X0 hx hret hlk (hb hby d1_35) ⟨rfl, N0, e0⟩ (by decide) (by decide)
    | succ k ih =>
      intro j i hj hi
      have hc : i < (p2 + p3) := (own_lt hi hs).mpr (by omega)
      refine own_step (fun _ k => XS.iload X0.here hx rfl (hb hby d1_5) rfl k) ?_
      show own_Ends _ _ _ _ _ _ _ T0 (mkF m 7 #[.val (.ref a1), .val (.int p2), .val (.int p3), .val (.long (own_acc f A j)), .second, .val (.int i)] [(.int i)])
      refine own_step (fun _ k => XS.iloadN X0.here hx rfl (hb hby d1_7) rfl k) ?_
      show own_Ends _ _ _ _ _ _ _ T0 (mkF m 8 #[.val (.ref a1), .val (.int p2), .val (.int p3), .val (.long (own_acc f A j)), .second, .val (.int i)] [(.int p2), (.int i)])
      refine own_step (fun _ k => XS.iloadN X0.here hx rfl (hb hby d1_8) rfl k) ?_
      show own_Ends _ _ _ _ _ _ _ T0 (mkF m 9 #[.val (.ref a1), .val (.int p2), .val (.int p3), .val (.long (own_acc f A j)), .second, .val (.int i)] [(.int p3), (.int p2), (.int i)])
      refine own_step (fun _ k => XS.iadd X0.here hx rfl (hb hby d1_9) rfl k) ?_
      show own_Ends _ _ _ _ _ _ _ T0 (mkF m 10 #[.val (.ref a1), .val (.int p2), .val (.int p3), .val (.long (own_acc f A j)), .second, .val (.int i)] [(.int (p2 + p3)), (.int i)])
      refine own_step (fun _ k => XS.icmpNo X0.here hx rfl (hb hby d1_10) rfl (tlt hc).2.1 k) ?_
      show own_Ends _ _ _ _ _ _ _ T0 (mkF m 13 #[.val (.ref a1), .val (.int p2), .val (.int p3), .val (.long (own_acc f A j)), .second, .val (.int i)] [])
      refine own_step (fun _ k => XS.lloadN X0.here hx rfl (hb hby d1_13) rfl k) ?_
      show own_Ends _ _ _ _ _ _ _ T0 (mkF m 14 #[.val (.ref a1), .val (.int p2), .val (.int p3), .val (.long (own_acc f A j)), .second, .val (.int i)] [(.long (own_acc f A j))])
      refine own_step (fun _ k => XS.bipush X0.here hx rfl (hb hby d1_14) k) ?_
      show own_Ends _ _ _ _ _ _ _ T0 (mkF m 16 #[.val (.ref a1), .val (.int p2), .val (.int p3), .val (.long (own_acc f A j)), .second, .val (.int i)] [(.int (8 : Int32)), (.long (own_acc f A j))])
      refine own_step (fun _ k => XS.lshl X0.here hx rfl (hb hby d1_16) rfl k) ?_
      show own_Ends _ _ _ _ _ _ _ T0 (mkF m 17 #[.val (.ref a1), .val (.int p2), .val (.int p3), .val (.long (own_acc f A j)), .second, .val (.int i)] [(.long ((own_acc f A j) <<< ((8 : Int32) &&& 0x3f).toInt64))])
      refine own_step (fun _ k => XS.aloadN X0.here hx rfl (hb hby d1_17) rfl rfl k) ?_
      show own_Ends _ _ _ _ _ _ _ T0 (mkF m 18 #[.val (.ref a1), .val (.int p2), .val (.int p3), .val (.long (own_acc f A j)), .second, .val (.int i)] [(.ref a1), (.long ((own_acc f A j) <<< ((8 : Int32) &&& 0x3f).toInt64))])
      refine own_step (fun _ k => XS.iload X0.here hx rfl (hb hby d1_18) rfl k) ?_
      show own_Ends _ _ _ _ _ _ _ T0 (mkF m 20 #[.val (.ref a1), .val (.int p2), .val (.int p3), .val (.long (own_acc f A j)), .second, .val (.int i)] [(.int i), (.ref a1), (.long ((own_acc f A j) <<< ((8 : Int32) &&& 0x3f).toInt64))])
      refine own_step (own_ldB X0 hx hZ e0 V (j := i) (v := (.int (f (A + j)))) ⟨own_nn hi, (own_lt hi e_8).mpr (by omega)⟩ (by rw [own_clamp hi]; exact hf (A + j) (by omega)) (g := (mkF m 20 #[.val (.ref a1), .val (.int p2), .val (.int p3), .val (.long (own_acc f A j)), .second, .val (.int i)] [(.int i), (.ref a1), (.long ((own_acc f A j) <<< ((8 : Int32) &&& 0x3f).toInt64))])) rfl rfl (hb hby d1_20)) ?_
      show own_Ends _ _ _ _ _ _ _ T0 (mkF m 21 #[.val (.ref a1), .val (.int p2), .val (.int p3), .val (.long (own_acc f A j)), .second, .val (.int i)] [(.int (f (A + j))), (.long ((own_acc f A j) <<< ((8 : Int32) &&& 0x3f).toInt64))])
      refine own_step (fun _ k => XS.sipush X0.here hx rfl (hb hby d1_21) k) ?_
      show own_Ends _ _ _ _ _ _ _ T0 (mkF m 24 #[.val (.ref a1), .val (.int p2), .val (.int p3), .val (.long (own_acc f A j)), .second, .val (.int i)] [(.int (255 : Int32)), (.int (f (A + j))), (.long ((own_acc f A j) <<< ((8 : Int32) &&& 0x3f).toInt64))])
      refine own_step (fun _ k => XS.iand X0.here hx rfl (hb hby d1_24) rfl k) ?_
      show own_Ends _ _ _ _ _ _ _ T0 (mkF m 25 #[.val (.ref a1), .val (.int p2), .val (.int p3), .val (.long (own_acc f A j)), .second, .val (.int i)] [(.int ((f (A + j)) &&& (255 : Int32))), (.long ((own_acc f A j) <<< ((8 : Int32) &&& 0x3f).toInt64))])
      refine own_step (fun _ k => XS.i2l X0.here hx rfl (hb hby d1_25) rfl k) ?_
      show own_Ends _ _ _ _ _ _ _ T0 (mkF m 26 #[.val (.ref a1), .val (.int p2), .val (.int p3), .val (.long (own_acc f A j)), .second, .val (.int i)] [(.long (((f (A + j)) &&& (255 : Int32)).toInt64)), (.long ((own_acc f A j) <<< ((8 : Int32) &&& 0x3f).toInt64))])
      refine own_step (fun _ k => XS.lor X0.here hx rfl (hb hby d1_26) rfl k) ?_
      show own_Ends _ _ _ _ _ _ _ T0 (mkF m 27 #[.val (.ref a1), .val (.int p2), .val (.int p3), .val (.long (own_acc f A j)), .second, .val (.int i)] [(.long (((own_acc f A j) <<< ((8 : Int32) &&& 0x3f).toInt64) ||| (((f (A + j)) &&& (255 : Int32)).toInt64)))])
      refine own_step (fun _ k => XS.lstoreN X0.here hx rfl (hb hby d1_27) rfl (l' := #[.val (.ref a1), .val (.int p2), .val (.int p3), .val (.long (((own_acc f A j) <<< ((8 : Int32) &&& 0x3f).toInt64) ||| (((f (A + j)) &&& (255 : Int32)).toInt64))), .second, .val (.int i)]) rfl k) ?_
      show own_Ends _ _ _ _ _ _ _ T0 (mkF m 28 #[.val (.ref a1), .val (.int p2), .val (.int p3), .val (.long (((own_acc f A j) <<< ((8 : Int32) &&& 0x3f).toInt64) ||| (((f (A + j)) &&& (255 : Int32)).toInt64))), .second, .val (.int i)] [])
      refine own_step (fun _ k => XS.iinc X0.here hx rfl (hb hby d1_28) rfl (l' := #[.val (.ref a1), .val (.int p2), .val (.int p3), .val (.long (((own_acc f A j) <<< ((8 : Int32) &&& 0x3f).toInt64) ||| (((f (A + j)) &&& (255 : Int32)).toInt64))), .second, .val (.int (i + (1 : Int32)))]) rfl k) ?_
      show own_Ends _ _ _ _ _ _ _ T0 (mkF m 31 #[.val (.ref a1), .val (.int p2), .val (.int p3), .val (.long (((own_acc f A j) <<< ((8 : Int32) &&& 0x3f).toInt64) ||| (((f (A + j)) &&& (255 : Int32)).toInt64))), .second, .val (.int (i + (1 : Int32)))] [])
      refine own_step (fun _ k => XS.goto X0.here hx rfl (pc0 := 31) (pc' := 5) rfl (hb hby d1_31) (by decide) (by decide) k) ?_
      show own_Ends _ _ _ _ _ _ _ T0 (mkF m 5 #[.val (.ref a1), .val (.int p2), .val (.int p3), .val (.long (((own_acc f A j) <<< ((8 : Int32) &&& 0x3f).toInt64) ||| (((f (A + j)) &&& (255 : Int32)).toInt64))), .second, .val (.int (i + (1 : Int32)))] [])
      exact ih (j + 1) (i + (1 : Int32)) (by omega) (by have := own_add hi e_1 (by omega); omega)
  exact loop N 0 p2 (by omega) hA
theorem ef_0 (q1 : Int64) (p2 : Int32) (p3 : Int32) (m : MethodId) : entryFrame m #[(.long q1), (.int p2), (.int p3)] maxLocals = mkF m 0 #[.val (.long q1), .second, .val (.int p2), .val (.int p3), .unset, .unset, .unset, .unset, .unset, .unset, .unset, .unset, .unset, .unset] [] := by first | (simp [entryFrame, mkF, argsToLocals, Value.category, maxLocals]; done) | rfl
theorem pd_0 : parseMethodDescriptor "([BII)J" = some ⟨[(.array .byte), .int, .int], some .long⟩ := by decide +kernel
def own_len_ (p3 : Int32) : Int32 := ((p3 &&& (2147483647 : Int32)) % (7 : Int32)) + (1 : Int32)
def own_at_ (p3 p4 : Int32) : Int32 := (p4 &&& (2147483647 : Int32)) % ((9 : Int32) - own_len_ p3)
def own_N (p3 : Int32) : Nat := (own_len_ p3).toInt.toNat
def own_A (p3 p4 : Int32) : Nat := (own_at_ p3 p4).toInt.toNat
def own_by (a : Int64) (i : Nat) : Int32 := [((((a.toUInt64 >>> ((56 : Int32) &&& 0x3f).toInt64.toUInt64).toInt64).toInt32).toInt8.toInt32), ((((a.toUInt64 >>> ((48 : Int32) &&& 0x3f).toInt64.toUInt64).toInt64).toInt32).toInt8.toInt32), ((((a.toUInt64 >>> ((40 : Int32) &&& 0x3f).toInt64.toUInt64).toInt64).toInt32).toInt8.toInt32), ((((a.toUInt64 >>> ((32 : Int32) &&& 0x3f).toInt64.toUInt64).toInt64).toInt32).toInt8.toInt32), ((((a.toUInt64 >>> ((24 : Int32) &&& 0x3f).toInt64.toUInt64).toInt64).toInt32).toInt8.toInt32), ((((a.toUInt64 >>> ((16 : Int32) &&& 0x3f).toInt64.toUInt64).toInt64).toInt32).toInt8.toInt32), ((((a.toUInt64 >>> ((8 : Int32) &&& 0x3f).toInt64.toUInt64).toInt64).toInt32).toInt8.toInt32), ((a.toInt32).toInt8.toInt32)].getD i (0 : Int32)
theorem own_bys (a : Int64) : ∀ i, i < 8 → List.getD ([(.int ((((a.toUInt64 >>> ((56 : Int32) &&& 0x3f).toInt64.toUInt64).toInt64).toInt32).toInt8.toInt32)), (.int ((((a.toUInt64 >>> ((48 : Int32) &&& 0x3f).toInt64.toUInt64).toInt64).toInt32).toInt8.toInt32)), (.int ((((a.toUInt64 >>> ((40 : Int32) &&& 0x3f).toInt64.toUInt64).toInt64).toInt32).toInt8.toInt32)), (.int ((((a.toUInt64 >>> ((32 : Int32) &&& 0x3f).toInt64.toUInt64).toInt64).toInt32).toInt8.toInt32)), (.int ((((a.toUInt64 >>> ((24 : Int32) &&& 0x3f).toInt64.toUInt64).toInt64).toInt32).toInt8.toInt32)), (.int ((((a.toUInt64 >>> ((16 : Int32) &&& 0x3f).toInt64.toUInt64).toInt64).toInt32).toInt8.toInt32)), (.int ((((a.toUInt64 >>> ((8 : Int32) &&& 0x3f).toInt64.toUInt64).toInt64).toInt32).toInt8.toInt32)), (.int ((a.toInt32).toInt8.toInt32))] : List Value) i (.int (0 : Int32)) = .int (own_by a i) := by
  intro i hi
  match i, hi with
  | 0, _ => rfl
  | 1, _ => rfl
  | 2, _ => rfl
  | 3, _ => rfl
  | 4, _ => rfl
  | 5, _ => rfl
  | 6, _ => rfl
  | 7, _ => rfl
theorem own_lrng (p3 : Int32) : 1 ≤ (own_len_ p3).toInt ∧ (own_len_ p3).toInt ≤ 7 := by
  have h1 := c_and p3 (2147483647 : Int32) (by decide)
  have h2 := (c_irem (p3 &&& (2147483647 : Int32)) (7 : Int32) 7 (by decide)).1 h1.1
  have h3 := c_iadd ((p3 &&& (2147483647 : Int32)) % (7 : Int32)) (1 : Int32)
  have h4 := rng32 (own_len_ p3)
  have e : (1 : Int32).toInt = 1 := by decide
  unfold own_len_ at *
  omega
theorem own_nine (p3 : Int32) : ((9 : Int32) - own_len_ p3).toInt = 9 - (own_len_ p3).toInt := by
  have h := own_lrng p3
  have h1 := c_isub (9 : Int32) (own_len_ p3); have h2 := rng32 ((9 : Int32) - own_len_ p3)
  have e : (9 : Int32).toInt = 9 := by decide
  omega
theorem own_nz (p3 : Int32) : ((9 : Int32) - own_len_ p3) ≠ 0 := fun q => by
  have h := own_lrng p3; have h1 := own_nine p3
  rw [q] at h1; have e0 : (0 : Int32).toInt = 0 := rfl
  omega
theorem own_at (p3 p4 : Int32) : (own_len_ p3).toInt = own_N p3 ∧ (own_at_ p3 p4).toInt = own_A p3 p4 ∧ own_A p3 p4 + own_N p3 ≤ 8 := by
  have h := own_lrng p3; have h1 := own_nine p3
  have h2 := c_and p4 (2147483647 : Int32) (by decide)
  have h3 := (c_iremV (p4 &&& (2147483647 : Int32)) ((9 : Int32) - own_len_ p3)).1 h2.1 (by omega)
  have h4 : 0 ≤ (own_at_ p3 p4).toInt ∧ (own_at_ p3 p4).toInt < 9 - (own_len_ p3).toInt := by
    unfold own_at_; omega
  unfold own_N own_A
  omega

theorem own_sh (x : Int64) (k : Int32) (n : Nat) (hk : k.toBitVec.toNat % 64 = n) : ((x.toUInt64 >>> (k &&& 0x3f).toInt64.toUInt64).toInt64).toBitVec = x.toBitVec >>> n := by
  have h := sm64 k n hk
  show (x.toUInt64 >>> (k &&& 0x3f).toInt64.toUInt64).toBitVec = _
  rw [UInt64.toBitVec_shiftRight]
  show x.toBitVec >>> ((k &&& 0x3f).toInt64.toBitVec % 64) = _
  rw [h.1]
  have e : (BitVec.ofNat 64 n % 64#64) = BitVec.ofNat 64 n := by
    apply BitVec.eq_of_toNat_eq; simp [BitVec.toNat_umod]; omega
  rw [show ((64 : BitVec 64)) = 64#64 from rfl, e]
  show x.toBitVec >>> (BitVec.ofNat 64 n).toNat = _
  rw [BitVec.toNat_ofNat, Nat.mod_eq_of_lt (by omega)]
theorem own_nat64 {x : Int64} {n : Nat} (h : x.toInt = n) : x.toBitVec.toNat = n := by
  have q : x.toBitVec.toInt = n := h
  rw [BitVec.toInt_eq_toNat_cond] at q
  have := x.toBitVec.isLt
  split at q <;> omega
theorem own_nat32 {x : Int32} {n : Nat} (h : x.toInt = n) : x.toBitVec.toNat = n := by
  have q : x.toBitVec.toInt = n := h
  rw [BitVec.toInt_eq_toNat_cond] at q
  have := x.toBitVec.isLt
  split at q <;> omega
theorem own_lit32 {x : Int32} {n : Nat} (h : x.toInt = n) : x = Int32.ofInt n := by
  rw [← Int32.toInt_inj, Int32.toInt_ofInt, h]
  have := x.toInt_lt
  have es : Int32.size = 4294967296 := rfl
  rw [Int.bmod_eq_of_le (by omega) (by omega)]
theorem own_b1 (y : Int64) : (((y.toInt32.toInt8.toInt32) &&& (255 : Int32)).toInt64).toInt = ((y.toBitVec.toNat % 256 : Nat) : Int) := by
  rw [c_i2l, c_mask _ (255 : Int32) 8 (by decide) (by decide)]
  have h1 := c_i2b y.toInt32; have h2 := c_l2i y
  have q : y.toInt = y.toBitVec.toInt := rfl
  rw [BitVec.toInt_eq_toNat_cond] at q
  have := y.toBitVec.isLt
  split at q <;> omega
theorem own_b2 (a : Int64) (k : Int32) (n : Nat) (hk : k.toBitVec.toNat % 64 = n) : (((((a.toUInt64 >>> (k &&& 0x3f).toInt64.toUInt64).toInt64).toInt32.toInt8.toInt32) &&& (255 : Int32)).toInt64).toInt = ((a.toBitVec.toNat / 2 ^ n % 256 : Nat) : Int) := by
  rw [own_b1, own_sh a k n hk, BitVec.toNat_ushiftRight, Nat.shiftRight_eq_div_pow]
theorem own_val (a : Int64) (i : Nat) (hi : i < 8) : ((own_by a i &&& (255 : Int32)).toInt64).toInt = ((a.toBitVec.toNat / 2 ^ (8 * (7 - i)) % 256 : Nat) : Int) := by
  match i, hi with
  | 0, _ => exact own_b2 a 56 56 (by decide)
  | 1, _ => exact own_b2 a 48 48 (by decide)
  | 2, _ => exact own_b2 a 40 40 (by decide)
  | 3, _ => exact own_b2 a 32 32 (by decide)
  | 4, _ => exact own_b2 a 24 24 (by decide)
  | 5, _ => exact own_b2 a 16 16 (by decide)
  | 6, _ => exact own_b2 a 8 8 (by decide)
  | 7, _ => exact (own_b1 a).trans (by simp)
theorem own_accv (a : Int64) (A : Nat) : ∀ j, A + j ≤ 8 → j ≤ 7 → (own_acc (own_by a) A j).toInt = ((a.toBitVec.toNat / 2 ^ (8 * (8 - A - j)) % 2 ^ (8 * j) : Nat) : Int) := by
  intro j
  induction j with
  | zero => intro _ _; simp [own_acc, Nat.mod_one]
  | succ j ih =>
    intro h1 h2
    have hx := ih (by omega) (by omega)
    have hb := own_val a (A + j) (by omega)
    have hX : a.toBitVec.toNat / 2 ^ (8 * (8 - A - j)) % 2 ^ (8 * j) < 2 ^ 48 := Nat.lt_of_lt_of_le (Nat.mod_lt _ (Nat.two_pow_pos _)) (Nat.pow_le_pow_right (by decide) (by omega))
    have hB : a.toBitVec.toNat / 2 ^ (8 * (7 - (A + j))) % 256 < 256 := Nat.mod_lt _ (by decide)
    have key : a.toBitVec.toNat / 2 ^ (8 * (8 - A - (j + 1))) % 2 ^ (8 * (j + 1)) = (a.toBitVec.toNat / 2 ^ (8 * (8 - A - j)) % 2 ^ (8 * j)) * 256 + a.toBitVec.toNat / 2 ^ (8 * (7 - (A + j))) % 256 := by
      rw [show 8 * (8 - A - j) = 8 * (7 - (A + j)) + 8 by omega, Nat.pow_add, ← Nat.div_div_eq_div_mul, show 8 * (8 - A - (j + 1)) = 8 * (7 - (A + j)) by omega, show 8 * (j + 1) = 8 + 8 * j by omega, Nat.pow_add, Nat.mod_mul]
      omega
    rw [key]
    generalize a.toBitVec.toNat / 2 ^ (8 * (8 - A - j)) % 2 ^ (8 * j) = X at *
    generalize a.toBitVec.toNat / 2 ^ (8 * (7 - (A + j))) % 256 = B at *
    show ((own_acc (own_by a) A j <<< ((8 : Int32) &&& 0x3f).toInt64) ||| ((own_by a (A + j) &&& (255 : Int32)).toInt64)).toInt = _
    generalize own_acc (own_by a) A j = x at *
    generalize ((own_by a (A + j) &&& (255 : Int32)).toInt64) = bb at *
    have q1 := c_lshl x (8 : Int32) 8 (by decide)
    have q2 := rng64 (x <<< ((8 : Int32) &&& 0x3f).toInt64)
    generalize x <<< ((8 : Int32) &&& 0x3f).toInt64 = y at *
    have q3 : y.toInt = ((X * 256 : Nat) : Int) := by omega
    have q4 := c_orL y bb 8 (by decide) 256 (by decide) (by omega) (by omega) (by omega)
    have q5 := rng64 (y ||| bb)
    omega
theorem own_mask (x : Int32) (N : Nat) (h : x.toInt = N) (h1 : 1 ≤ N) (h7 : N ≤ 7) : (((1 : Int64) <<< (((8 : Int32) * x) &&& 0x3f).toInt64) - (1 : Int64)).toBitVec.toNat = 2 ^ (8 * N) - 1 := by
  rw [own_lit32 h]
  match N, h1, h7 with
  | 1, _, _ => decide
  | 2, _, _ => decide
  | 3, _, _ => decide
  | 4, _, _ => decide
  | 5, _, _ => decide
  | 6, _, _ => decide
  | 7, _, _ => decide
theorem own_law (a : Int64) (p2 p3 : Int32) : (own_acc (own_by a) (own_A p2 p3) (own_N p2)) = (((a.toUInt64 >>> (((8 : Int32) * (((8 : Int32) - (own_at_ p2 p3)) - (own_len_ p2))) &&& 0x3f).toInt64.toUInt64).toInt64) &&& (((1 : Int64) <<< (((8 : Int32) * (own_len_ p2)) &&& 0x3f).toInt64) - (1 : Int64))) := by
  obtain ⟨hN, hA, hle⟩ := own_at p2 p3
  have hr := own_lrng p2
  generalize own_N p2 = N at *
  generalize own_A p2 p3 = A at *
  generalize own_len_ p2 = x at *
  generalize own_at_ p2 p3 = y at *
  apply Int64.toBitVec_inj.mp
  apply BitVec.eq_of_toNat_eq
  rw [own_nat64 (own_accv a A N hle (by omega)), Int64.toBitVec_and, BitVec.toNat_and, own_mask x N hN (by omega) (by omega), Nat.and_two_pow_sub_one_eq_mod]
  have e8 : (8 : Int32).toInt = 8 := by decide
  have q1 := c_isub (8 : Int32) y; have q2 := rng32 ((8 : Int32) - y)
  have q3 := c_isub ((8 : Int32) - y) x; have q4 := rng32 (((8 : Int32) - y) - x)
  have q5 := c_imul (8 : Int32) (((8 : Int32) - y) - x); have q6 := rng32 ((8 : Int32) * (((8 : Int32) - y) - x))
  have q7 : ((8 : Int32) * (((8 : Int32) - y) - x)).toInt = ((8 * (8 - A - N) : Nat) : Int) := by
    rw [e8] at *; omega
  rw [own_sh a _ (8 * (8 - A - N)) (by rw [own_nat32 q7]; omega), BitVec.toNat_ushiftRight, Nat.shiftRight_eq_div_pow]

theorem pn_1 : plainName "com/example/fixwire/fixwire/BigEndianUnsignedPinLaw" = true := by first | (simp [plainName, overriddenIn]; done) | decide +kernel
set_option maxRecDepth 65536 in
set_option maxHeartbeats 40000000 in
theorem rm0 (l : Launch) (Z : State) (a0 : Array Value) (hw : ∀ d ∈ tables_1, d.before a0 Z = true) (ws : List Jvm.Cond) (q1 : Int64) (p2 : Int32) (p3 : Int32) (h0 : Heap) (n0 : Nat) (Z0 : n0 ≤ h0.size) :
    own_Met l x code maxLocals ret ws room_1 #[(.long q1), (.int p2), (.int p3)] Z h0 (fun v h L => v = some (.int (1 : Int32)) ∧ Fr n0 L) := by
  refine own_body (plainFor_of_name pn_1) (ef_0 q1 p2 p3) ?_
  intro p e s m below meth c T0 X0 hx hby hml0 hret hlk hnm hown hZ e0
  have hml : c.maxLocals = 14 := hml0
  have N0 := Fr.nil n0
  refine own_step (fun _ k => XS.iloadN X0.here hx rfl (hb hby at_0) rfl k) ?_
  show own_Ends _ _ _ _ _ _ _ T0 (mkF m 1 #[.val (.long q1), .second, .val (.int p2), .val (.int p3), .unset, .unset, .unset, .unset, .unset, .unset, .unset, .unset, .unset, .unset] [(.int p2)])
  refine own_step (X0.ldcInt hx hown (mvT hZ (hw _ (List.mem_of_getElem? (i := 0) rfl))) (g := (mkF m 1 #[.val (.long q1), .second, .val (.int p2), .val (.int p3), .unset, .unset, .unset, .unset, .unset, .unset, .unset, .unset, .unset, .unset] [(.int p2)])) rfl (hb hby at_1)) ?_
  show own_Ends _ _ _ _ _ _ _ T0 (mkF m 3 #[.val (.long q1), .second, .val (.int p2), .val (.int p3), .unset, .unset, .unset, .unset, .unset, .unset, .unset, .unset, .unset, .unset] [(.int (2147483647 : Int32)), (.int p2)])
  refine own_step (fun _ k => XS.iand X0.here hx rfl (hb hby at_3) rfl k) ?_
  show own_Ends _ _ _ _ _ _ _ T0 (mkF m 4 #[.val (.long q1), .second, .val (.int p2), .val (.int p3), .unset, .unset, .unset, .unset, .unset, .unset, .unset, .unset, .unset, .unset] [(.int (p2 &&& (2147483647 : Int32)))])
  refine own_step (fun _ k => XS.bipush X0.here hx rfl (hb hby at_4) k) ?_
  show own_Ends _ _ _ _ _ _ _ T0 (mkF m 6 #[.val (.long q1), .second, .val (.int p2), .val (.int p3), .unset, .unset, .unset, .unset, .unset, .unset, .unset, .unset, .unset, .unset] [(.int (7 : Int32)), (.int (p2 &&& (2147483647 : Int32)))])
  refine own_step (fun _ k => iremM X0 hx rfl (hb hby at_6) rfl (by decide) k) ?_
  show own_Ends _ _ _ _ _ _ _ T0 (mkF m 7 #[.val (.long q1), .second, .val (.int p2), .val (.int p3), .unset, .unset, .unset, .unset, .unset, .unset, .unset, .unset, .unset, .unset] [(.int ((p2 &&& (2147483647 : Int32)) % (7 : Int32)))])
  refine own_step (fun _ k => XS.iconst X0.here hx rfl (hb hby at_7) k) ?_
  show own_Ends _ _ _ _ _ _ _ T0 (mkF m 8 #[.val (.long q1), .second, .val (.int p2), .val (.int p3), .unset, .unset, .unset, .unset, .unset, .unset, .unset, .unset, .unset, .unset] [(.int (1 : Int32)), (.int ((p2 &&& (2147483647 : Int32)) % (7 : Int32)))])
  refine own_step (fun _ k => XS.iadd X0.here hx rfl (hb hby at_8) rfl k) ?_
  show own_Ends _ _ _ _ _ _ _ T0 (mkF m 9 #[.val (.long q1), .second, .val (.int p2), .val (.int p3), .unset, .unset, .unset, .unset, .unset, .unset, .unset, .unset, .unset, .unset] [(.int (((p2 &&& (2147483647 : Int32)) % (7 : Int32)) + (1 : Int32)))])
  show own_Ends _ _ _ _ _ _ _ T0 (mkF m 9 #[.val (.long q1), .second, .val (.int p2), .val (.int p3), .unset, .unset, .unset, .unset, .unset, .unset, .unset, .unset, .unset, .unset] [(.int (own_len_ p2))])
  refine own_step (fun _ k => XS.istore X0.here hx rfl (hb hby at_9) rfl (l' := #[.val (.long q1), .second, .val (.int p2), .val (.int p3), .val (.int (own_len_ p2)), .unset, .unset, .unset, .unset, .unset, .unset, .unset, .unset, .unset]) rfl k) ?_
  show own_Ends _ _ _ _ _ _ _ T0 (mkF m 11 #[.val (.long q1), .second, .val (.int p2), .val (.int p3), .val (.int (own_len_ p2)), .unset, .unset, .unset, .unset, .unset, .unset, .unset, .unset, .unset] [])
  refine own_step (fun _ k => XS.iloadN X0.here hx rfl (hb hby at_11) rfl k) ?_
  show own_Ends _ _ _ _ _ _ _ T0 (mkF m 12 #[.val (.long q1), .second, .val (.int p2), .val (.int p3), .val (.int (own_len_ p2)), .unset, .unset, .unset, .unset, .unset, .unset, .unset, .unset, .unset] [(.int p3)])
  refine own_step (X0.ldcInt hx hown (mvT hZ (hw _ (List.mem_of_getElem? (i := 0) rfl))) (g := (mkF m 12 #[.val (.long q1), .second, .val (.int p2), .val (.int p3), .val (.int (own_len_ p2)), .unset, .unset, .unset, .unset, .unset, .unset, .unset, .unset, .unset] [(.int p3)])) rfl (hb hby at_12)) ?_
  show own_Ends _ _ _ _ _ _ _ T0 (mkF m 14 #[.val (.long q1), .second, .val (.int p2), .val (.int p3), .val (.int (own_len_ p2)), .unset, .unset, .unset, .unset, .unset, .unset, .unset, .unset, .unset] [(.int (2147483647 : Int32)), (.int p3)])
  refine own_step (fun _ k => XS.iand X0.here hx rfl (hb hby at_14) rfl k) ?_
  show own_Ends _ _ _ _ _ _ _ T0 (mkF m 15 #[.val (.long q1), .second, .val (.int p2), .val (.int p3), .val (.int (own_len_ p2)), .unset, .unset, .unset, .unset, .unset, .unset, .unset, .unset, .unset] [(.int (p3 &&& (2147483647 : Int32)))])
  refine own_step (fun _ k => XS.bipush X0.here hx rfl (hb hby at_15) k) ?_
  show own_Ends _ _ _ _ _ _ _ T0 (mkF m 17 #[.val (.long q1), .second, .val (.int p2), .val (.int p3), .val (.int (own_len_ p2)), .unset, .unset, .unset, .unset, .unset, .unset, .unset, .unset, .unset] [(.int (9 : Int32)), (.int (p3 &&& (2147483647 : Int32)))])
  refine own_step (fun _ k => XS.iload X0.here hx rfl (hb hby at_17) rfl k) ?_
  show own_Ends _ _ _ _ _ _ _ T0 (mkF m 19 #[.val (.long q1), .second, .val (.int p2), .val (.int p3), .val (.int (own_len_ p2)), .unset, .unset, .unset, .unset, .unset, .unset, .unset, .unset, .unset] [(.int (own_len_ p2)), (.int (9 : Int32)), (.int (p3 &&& (2147483647 : Int32)))])
  refine own_step (fun _ k => XS.isub X0.here hx rfl (hb hby at_19) rfl k) ?_
  show own_Ends _ _ _ _ _ _ _ T0 (mkF m 20 #[.val (.long q1), .second, .val (.int p2), .val (.int p3), .val (.int (own_len_ p2)), .unset, .unset, .unset, .unset, .unset, .unset, .unset, .unset, .unset] [(.int ((9 : Int32) - (own_len_ p2))), (.int (p3 &&& (2147483647 : Int32)))])
  refine own_step (fun _ k => iremM X0 hx rfl (hb hby at_20) rfl (own_nz p2) k) ?_
  show own_Ends _ _ _ _ _ _ _ T0 (mkF m 21 #[.val (.long q1), .second, .val (.int p2), .val (.int p3), .val (.int (own_len_ p2)), .unset, .unset, .unset, .unset, .unset, .unset, .unset, .unset, .unset] [(.int ((p3 &&& (2147483647 : Int32)) % ((9 : Int32) - (own_len_ p2))))])
  show own_Ends _ _ _ _ _ _ _ T0 (mkF m 21 #[.val (.long q1), .second, .val (.int p2), .val (.int p3), .val (.int (own_len_ p2)), .unset, .unset, .unset, .unset, .unset, .unset, .unset, .unset, .unset] [(.int (own_at_ p2 p3))])
  refine own_step (fun _ k => XS.istore X0.here hx rfl (hb hby at_21) rfl (l' := #[.val (.long q1), .second, .val (.int p2), .val (.int p3), .val (.int (own_len_ p2)), .val (.int (own_at_ p2 p3)), .unset, .unset, .unset, .unset, .unset, .unset, .unset, .unset]) rfl k) ?_
  show own_Ends _ _ _ _ _ _ _ T0 (mkF m 23 #[.val (.long q1), .second, .val (.int p2), .val (.int p3), .val (.int (own_len_ p2)), .val (.int (own_at_ p2 p3)), .unset, .unset, .unset, .unset, .unset, .unset, .unset, .unset] [])
  refine own_step (fun _ k => XS.bipush X0.here hx rfl (hb hby at_23) k) ?_
  show own_Ends _ _ _ _ _ _ _ T0 (mkF m 25 #[.val (.long q1), .second, .val (.int p2), .val (.int p3), .val (.int (own_len_ p2)), .val (.int (own_at_ p2 p3)), .unset, .unset, .unset, .unset, .unset, .unset, .unset, .unset] [(.int (8 : Int32))])
  obtain ⟨T1, h1, k1, b1, g1, X1, e1, E1, V1, st1⟩ := own_newA X0 hx hZ (hw _ (List.mem_of_getElem? (i := 1) rfl)) e0 (g := (mkF m 25 #[.val (.long q1), .second, .val (.int p2), .val (.int p3), .val (.int (own_len_ p2)), .val (.int (own_at_ p2 p3)), .unset, .unset, .unset, .unset, .unset, .unset, .unset, .unset] [(.int (8 : Int32))])) rfl (hb hby at_25) rfl (by decide) (cap := 8) (by decide) (by decide) (by decide) (by decide)
  have g_b1 : n0 ≤ b1 := Nat.le_trans Z0 (Nat.le_of_eq g1.symm)
  refine own_step st1 ?_
  have Z1 := Nat.le_trans Z0 E1.1
  have V_b1 : Arv Z h1 b1 k1 .byte (8 : Int32) [(.int (0 : Int32)), (.int (0 : Int32)), (.int (0 : Int32)), (.int (0 : Int32)), (.int (0 : Int32)), (.int (0 : Int32)), (.int (0 : Int32)), (.int (0 : Int32))] (.int (0 : Int32)) := V1
  show own_Ends _ _ _ _ _ _ _ T1 (mkF m 27 #[.val (.long q1), .second, .val (.int p2), .val (.int p3), .val (.int (own_len_ p2)), .val (.int (own_at_ p2 p3)), .unset, .unset, .unset, .unset, .unset, .unset, .unset, .unset] [(.ref b1)])
  refine own_step (fun _ k => XS.astore X1.here hx rfl (hb hby at_27) rfl rfl (l' := #[.val (.long q1), .second, .val (.int p2), .val (.int p3), .val (.int (own_len_ p2)), .val (.int (own_at_ p2 p3)), .val (.ref b1), .unset, .unset, .unset, .unset, .unset, .unset, .unset]) rfl k) ?_
  show own_Ends _ _ _ _ _ _ _ T1 (mkF m 29 #[.val (.long q1), .second, .val (.int p2), .val (.int p3), .val (.int (own_len_ p2)), .val (.int (own_at_ p2 p3)), .val (.ref b1), .unset, .unset, .unset, .unset, .unset, .unset, .unset] [])
  refine own_step (fun _ k => XS.aload X1.here hx rfl (hb hby at_29) rfl rfl k) ?_
  show own_Ends _ _ _ _ _ _ _ T1 (mkF m 31 #[.val (.long q1), .second, .val (.int p2), .val (.int p3), .val (.int (own_len_ p2)), .val (.int (own_at_ p2 p3)), .val (.ref b1), .unset, .unset, .unset, .unset, .unset, .unset, .unset] [(.ref b1)])
  refine own_step (fun _ k => XS.iconst X1.here hx rfl (hb hby at_31) k) ?_
  show own_Ends _ _ _ _ _ _ _ T1 (mkF m 32 #[.val (.long q1), .second, .val (.int p2), .val (.int p3), .val (.int (own_len_ p2)), .val (.int (own_at_ p2 p3)), .val (.ref b1), .unset, .unset, .unset, .unset, .unset, .unset, .unset] [(.int (0 : Int32)), (.ref b1)])
  refine own_step (fun _ k => XS.lloadN X1.here hx rfl (hb hby at_32) rfl k) ?_
  show own_Ends _ _ _ _ _ _ _ T1 (mkF m 33 #[.val (.long q1), .second, .val (.int p2), .val (.int p3), .val (.int (own_len_ p2)), .val (.int (own_at_ p2 p3)), .val (.ref b1), .unset, .unset, .unset, .unset, .unset, .unset, .unset] [(.long q1), (.int (0 : Int32)), (.ref b1)])
  refine own_step (fun _ k => XS.bipush X1.here hx rfl (hb hby at_33) k) ?_
  show own_Ends _ _ _ _ _ _ _ T1 (mkF m 35 #[.val (.long q1), .second, .val (.int p2), .val (.int p3), .val (.int (own_len_ p2)), .val (.int (own_at_ p2 p3)), .val (.ref b1), .unset, .unset, .unset, .unset, .unset, .unset, .unset] [(.int (56 : Int32)), (.long q1), (.int (0 : Int32)), (.ref b1)])
  refine own_step (fun _ k => XS.lushr X1.here hx rfl (hb hby at_35) rfl k) ?_
  show own_Ends _ _ _ _ _ _ _ T1 (mkF m 36 #[.val (.long q1), .second, .val (.int p2), .val (.int p3), .val (.int (own_len_ p2)), .val (.int (own_at_ p2 p3)), .val (.ref b1), .unset, .unset, .unset, .unset, .unset, .unset, .unset] [(.long ((q1.toUInt64 >>> ((56 : Int32) &&& 0x3f).toInt64.toUInt64).toInt64)), (.int (0 : Int32)), (.ref b1)])
  refine own_step (fun _ k => XS.l2i X1.here hx rfl (hb hby at_36) rfl k) ?_
  show own_Ends _ _ _ _ _ _ _ T1 (mkF m 37 #[.val (.long q1), .second, .val (.int p2), .val (.int p3), .val (.int (own_len_ p2)), .val (.int (own_at_ p2 p3)), .val (.ref b1), .unset, .unset, .unset, .unset, .unset, .unset, .unset] [(.int (((q1.toUInt64 >>> ((56 : Int32) &&& 0x3f).toInt64.toUInt64).toInt64).toInt32)), (.int (0 : Int32)), (.ref b1)])
  refine own_step (fun _ k => XS.i2b X1.here hx rfl (hb hby at_37) rfl k) ?_
  show own_Ends _ _ _ _ _ _ _ T1 (mkF m 38 #[.val (.long q1), .second, .val (.int p2), .val (.int p3), .val (.int (own_len_ p2)), .val (.int (own_at_ p2 p3)), .val (.ref b1), .unset, .unset, .unset, .unset, .unset, .unset, .unset] [(.int ((((q1.toUInt64 >>> ((56 : Int32) &&& 0x3f).toInt64.toUInt64).toInt64).toInt32).toInt8.toInt32)), (.int (0 : Int32)), (.ref b1)])
  obtain ⟨T2, h2, l2, X2, e2, W2, V2, st2⟩ := own_stB X1 hx hZ e1 V_b1 (j := (0 : Int32)) ⟨by decide, by decide⟩ 0 rfl (Nat.le_of_ble_eq_true rfl) (g := (mkF m 38 #[.val (.long q1), .second, .val (.int p2), .val (.int p3), .val (.int (own_len_ p2)), .val (.int (own_at_ p2 p3)), .val (.ref b1), .unset, .unset, .unset, .unset, .unset, .unset, .unset] [(.int ((((q1.toUInt64 >>> ((56 : Int32) &&& 0x3f).toInt64.toUInt64).toInt64).toInt32).toInt8.toInt32)), (.int (0 : Int32)), (.ref b1)])) rfl rfl (hb hby at_38)
  refine own_step st2 ?_
  have N2 := Fr.snoc X2 N0 g_b1
  have Z2 := Nat.le_trans Z1 (Keep.of_wr W2).1
  rw [own_bb] at V2
  have V_b1_2 : Arv Z h2 b1 k1 .byte (8 : Int32) [(.int ((((q1.toUInt64 >>> ((56 : Int32) &&& 0x3f).toInt64.toUInt64).toInt64).toInt32).toInt8.toInt32)), (.int (0 : Int32)), (.int (0 : Int32)), (.int (0 : Int32)), (.int (0 : Int32)), (.int (0 : Int32)), (.int (0 : Int32)), (.int (0 : Int32))] (.int (0 : Int32)) := V2
  show own_Ends _ _ _ _ _ _ _ T2 (mkF m 39 #[.val (.long q1), .second, .val (.int p2), .val (.int p3), .val (.int (own_len_ p2)), .val (.int (own_at_ p2 p3)), .val (.ref b1), .unset, .unset, .unset, .unset, .unset, .unset, .unset] [])
  refine own_step (fun _ k => XS.aload X2.here hx rfl (hb hby at_39) rfl rfl k) ?_
  show own_Ends _ _ _ _ _ _ _ T2 (mkF m 41 #[.val (.long q1), .second, .val (.int p2), .val (.int p3), .val (.int (own_len_ p2)), .val (.int (own_at_ p2 p3)), .val (.ref b1), .unset, .unset, .unset, .unset, .unset, .unset, .unset] [(.ref b1)])
  refine own_step (fun _ k => XS.iconst X2.here hx rfl (hb hby at_41) k) ?_
  show own_Ends _ _ _ _ _ _ _ T2 (mkF m 42 #[.val (.long q1), .second, .val (.int p2), .val (.int p3), .val (.int (own_len_ p2)), .val (.int (own_at_ p2 p3)), .val (.ref b1), .unset, .unset, .unset, .unset, .unset, .unset, .unset] [(.int (1 : Int32)), (.ref b1)])
  refine own_step (fun _ k => XS.lloadN X2.here hx rfl (hb hby at_42) rfl k) ?_
  show own_Ends _ _ _ _ _ _ _ T2 (mkF m 43 #[.val (.long q1), .second, .val (.int p2), .val (.int p3), .val (.int (own_len_ p2)), .val (.int (own_at_ p2 p3)), .val (.ref b1), .unset, .unset, .unset, .unset, .unset, .unset, .unset] [(.long q1), (.int (1 : Int32)), (.ref b1)])
  refine own_step (fun _ k => XS.bipush X2.here hx rfl (hb hby at_43) k) ?_
  show own_Ends _ _ _ _ _ _ _ T2 (mkF m 45 #[.val (.long q1), .second, .val (.int p2), .val (.int p3), .val (.int (own_len_ p2)), .val (.int (own_at_ p2 p3)), .val (.ref b1), .unset, .unset, .unset, .unset, .unset, .unset, .unset] [(.int (48 : Int32)), (.long q1), (.int (1 : Int32)), (.ref b1)])
  refine own_step (fun _ k => XS.lushr X2.here hx rfl (hb hby at_45) rfl k) ?_
  show own_Ends _ _ _ _ _ _ _ T2 (mkF m 46 #[.val (.long q1), .second, .val (.int p2), .val (.int p3), .val (.int (own_len_ p2)), .val (.int (own_at_ p2 p3)), .val (.ref b1), .unset, .unset, .unset, .unset, .unset, .unset, .unset] [(.long ((q1.toUInt64 >>> ((48 : Int32) &&& 0x3f).toInt64.toUInt64).toInt64)), (.int (1 : Int32)), (.ref b1)])
  refine own_step (fun _ k => XS.l2i X2.here hx rfl (hb hby at_46) rfl k) ?_
  show own_Ends _ _ _ _ _ _ _ T2 (mkF m 47 #[.val (.long q1), .second, .val (.int p2), .val (.int p3), .val (.int (own_len_ p2)), .val (.int (own_at_ p2 p3)), .val (.ref b1), .unset, .unset, .unset, .unset, .unset, .unset, .unset] [(.int (((q1.toUInt64 >>> ((48 : Int32) &&& 0x3f).toInt64.toUInt64).toInt64).toInt32)), (.int (1 : Int32)), (.ref b1)])
  refine own_step (fun _ k => XS.i2b X2.here hx rfl (hb hby at_47) rfl k) ?_
  show own_Ends _ _ _ _ _ _ _ T2 (mkF m 48 #[.val (.long q1), .second, .val (.int p2), .val (.int p3), .val (.int (own_len_ p2)), .val (.int (own_at_ p2 p3)), .val (.ref b1), .unset, .unset, .unset, .unset, .unset, .unset, .unset] [(.int ((((q1.toUInt64 >>> ((48 : Int32) &&& 0x3f).toInt64.toUInt64).toInt64).toInt32).toInt8.toInt32)), (.int (1 : Int32)), (.ref b1)])
  obtain ⟨T3, h3, l3, X3, e3, W3, V3, st3⟩ := own_stB X2 hx hZ e2 V_b1_2 (j := (1 : Int32)) ⟨by decide, by decide⟩ 1 rfl (Nat.le_of_ble_eq_true rfl) (g := (mkF m 48 #[.val (.long q1), .second, .val (.int p2), .val (.int p3), .val (.int (own_len_ p2)), .val (.int (own_at_ p2 p3)), .val (.ref b1), .unset, .unset, .unset, .unset, .unset, .unset, .unset] [(.int ((((q1.toUInt64 >>> ((48 : Int32) &&& 0x3f).toInt64.toUInt64).toInt64).toInt32).toInt8.toInt32)), (.int (1 : Int32)), (.ref b1)])) rfl rfl (hb hby at_48)
  refine own_step st3 ?_
  have N3 := Fr.snoc X3 N2 g_b1
  have Z3 := Nat.le_trans Z2 (Keep.of_wr W3).1
  rw [own_bb] at V3
  have V_b1_3 : Arv Z h3 b1 k1 .byte (8 : Int32) [(.int ((((q1.toUInt64 >>> ((56 : Int32) &&& 0x3f).toInt64.toUInt64).toInt64).toInt32).toInt8.toInt32)), (.int ((((q1.toUInt64 >>> ((48 : Int32) &&& 0x3f).toInt64.toUInt64).toInt64).toInt32).toInt8.toInt32)), (.int (0 : Int32)), (.int (0 : Int32)), (.int (0 : Int32)), (.int (0 : Int32)), (.int (0 : Int32)), (.int (0 : Int32))] (.int (0 : Int32)) := V3
  show own_Ends _ _ _ _ _ _ _ T3 (mkF m 49 #[.val (.long q1), .second, .val (.int p2), .val (.int p3), .val (.int (own_len_ p2)), .val (.int (own_at_ p2 p3)), .val (.ref b1), .unset, .unset, .unset, .unset, .unset, .unset, .unset] [])
  refine own_step (fun _ k => XS.aload X3.here hx rfl (hb hby at_49) rfl rfl k) ?_
  show own_Ends _ _ _ _ _ _ _ T3 (mkF m 51 #[.val (.long q1), .second, .val (.int p2), .val (.int p3), .val (.int (own_len_ p2)), .val (.int (own_at_ p2 p3)), .val (.ref b1), .unset, .unset, .unset, .unset, .unset, .unset, .unset] [(.ref b1)])
  refine own_step (fun _ k => XS.iconst X3.here hx rfl (hb hby at_51) k) ?_
  show own_Ends _ _ _ _ _ _ _ T3 (mkF m 52 #[.val (.long q1), .second, .val (.int p2), .val (.int p3), .val (.int (own_len_ p2)), .val (.int (own_at_ p2 p3)), .val (.ref b1), .unset, .unset, .unset, .unset, .unset, .unset, .unset] [(.int (2 : Int32)), (.ref b1)])
  refine own_step (fun _ k => XS.lloadN X3.here hx rfl (hb hby at_52) rfl k) ?_
  show own_Ends _ _ _ _ _ _ _ T3 (mkF m 53 #[.val (.long q1), .second, .val (.int p2), .val (.int p3), .val (.int (own_len_ p2)), .val (.int (own_at_ p2 p3)), .val (.ref b1), .unset, .unset, .unset, .unset, .unset, .unset, .unset] [(.long q1), (.int (2 : Int32)), (.ref b1)])
  refine own_step (fun _ k => XS.bipush X3.here hx rfl (hb hby at_53) k) ?_
  show own_Ends _ _ _ _ _ _ _ T3 (mkF m 55 #[.val (.long q1), .second, .val (.int p2), .val (.int p3), .val (.int (own_len_ p2)), .val (.int (own_at_ p2 p3)), .val (.ref b1), .unset, .unset, .unset, .unset, .unset, .unset, .unset] [(.int (40 : Int32)), (.long q1), (.int (2 : Int32)), (.ref b1)])
  refine own_step (fun _ k => XS.lushr X3.here hx rfl (hb hby at_55) rfl k) ?_
  show own_Ends _ _ _ _ _ _ _ T3 (mkF m 56 #[.val (.long q1), .second, .val (.int p2), .val (.int p3), .val (.int (own_len_ p2)), .val (.int (own_at_ p2 p3)), .val (.ref b1), .unset, .unset, .unset, .unset, .unset, .unset, .unset] [(.long ((q1.toUInt64 >>> ((40 : Int32) &&& 0x3f).toInt64.toUInt64).toInt64)), (.int (2 : Int32)), (.ref b1)])
  refine own_step (fun _ k => XS.l2i X3.here hx rfl (hb hby at_56) rfl k) ?_
  show own_Ends _ _ _ _ _ _ _ T3 (mkF m 57 #[.val (.long q1), .second, .val (.int p2), .val (.int p3), .val (.int (own_len_ p2)), .val (.int (own_at_ p2 p3)), .val (.ref b1), .unset, .unset, .unset, .unset, .unset, .unset, .unset] [(.int (((q1.toUInt64 >>> ((40 : Int32) &&& 0x3f).toInt64.toUInt64).toInt64).toInt32)), (.int (2 : Int32)), (.ref b1)])
  refine own_step (fun _ k => XS.i2b X3.here hx rfl (hb hby at_57) rfl k) ?_
  show own_Ends _ _ _ _ _ _ _ T3 (mkF m 58 #[.val (.long q1), .second, .val (.int p2), .val (.int p3), .val (.int (own_len_ p2)), .val (.int (own_at_ p2 p3)), .val (.ref b1), .unset, .unset, .unset, .unset, .unset, .unset, .unset] [(.int ((((q1.toUInt64 >>> ((40 : Int32) &&& 0x3f).toInt64.toUInt64).toInt64).toInt32).toInt8.toInt32)), (.int (2 : Int32)), (.ref b1)])
  obtain ⟨T4, h4, l4, X4, e4, W4, V4, st4⟩ := own_stB X3 hx hZ e3 V_b1_3 (j := (2 : Int32)) ⟨by decide, by decide⟩ 2 rfl (Nat.le_of_ble_eq_true rfl) (g := (mkF m 58 #[.val (.long q1), .second, .val (.int p2), .val (.int p3), .val (.int (own_len_ p2)), .val (.int (own_at_ p2 p3)), .val (.ref b1), .unset, .unset, .unset, .unset, .unset, .unset, .unset] [(.int ((((q1.toUInt64 >>> ((40 : Int32) &&& 0x3f).toInt64.toUInt64).toInt64).toInt32).toInt8.toInt32)), (.int (2 : Int32)), (.ref b1)])) rfl rfl (hb hby at_58)
  refine own_step st4 ?_
  have N4 := Fr.snoc X4 N3 g_b1
  have Z4 := Nat.le_trans Z3 (Keep.of_wr W4).1
  rw [own_bb] at V4
  have V_b1_4 : Arv Z h4 b1 k1 .byte (8 : Int32) [(.int ((((q1.toUInt64 >>> ((56 : Int32) &&& 0x3f).toInt64.toUInt64).toInt64).toInt32).toInt8.toInt32)), (.int ((((q1.toUInt64 >>> ((48 : Int32) &&& 0x3f).toInt64.toUInt64).toInt64).toInt32).toInt8.toInt32)), (.int ((((q1.toUInt64 >>> ((40 : Int32) &&& 0x3f).toInt64.toUInt64).toInt64).toInt32).toInt8.toInt32)), (.int (0 : Int32)), (.int (0 : Int32)), (.int (0 : Int32)), (.int (0 : Int32)), (.int (0 : Int32))] (.int (0 : Int32)) := V4
  show own_Ends _ _ _ _ _ _ _ T4 (mkF m 59 #[.val (.long q1), .second, .val (.int p2), .val (.int p3), .val (.int (own_len_ p2)), .val (.int (own_at_ p2 p3)), .val (.ref b1), .unset, .unset, .unset, .unset, .unset, .unset, .unset] [])
  refine own_step (fun _ k => XS.aload X4.here hx rfl (hb hby at_59) rfl rfl k) ?_
  show own_Ends _ _ _ _ _ _ _ T4 (mkF m 61 #[.val (.long q1), .second, .val (.int p2), .val (.int p3), .val (.int (own_len_ p2)), .val (.int (own_at_ p2 p3)), .val (.ref b1), .unset, .unset, .unset, .unset, .unset, .unset, .unset] [(.ref b1)])
  refine own_step (fun _ k => XS.iconst X4.here hx rfl (hb hby at_61) k) ?_
  show own_Ends _ _ _ _ _ _ _ T4 (mkF m 62 #[.val (.long q1), .second, .val (.int p2), .val (.int p3), .val (.int (own_len_ p2)), .val (.int (own_at_ p2 p3)), .val (.ref b1), .unset, .unset, .unset, .unset, .unset, .unset, .unset] [(.int (3 : Int32)), (.ref b1)])
  refine own_step (fun _ k => XS.lloadN X4.here hx rfl (hb hby at_62) rfl k) ?_
  show own_Ends _ _ _ _ _ _ _ T4 (mkF m 63 #[.val (.long q1), .second, .val (.int p2), .val (.int p3), .val (.int (own_len_ p2)), .val (.int (own_at_ p2 p3)), .val (.ref b1), .unset, .unset, .unset, .unset, .unset, .unset, .unset] [(.long q1), (.int (3 : Int32)), (.ref b1)])
  refine own_step (fun _ k => XS.bipush X4.here hx rfl (hb hby at_63) k) ?_
  show own_Ends _ _ _ _ _ _ _ T4 (mkF m 65 #[.val (.long q1), .second, .val (.int p2), .val (.int p3), .val (.int (own_len_ p2)), .val (.int (own_at_ p2 p3)), .val (.ref b1), .unset, .unset, .unset, .unset, .unset, .unset, .unset] [(.int (32 : Int32)), (.long q1), (.int (3 : Int32)), (.ref b1)])
  refine own_step (fun _ k => XS.lushr X4.here hx rfl (hb hby at_65) rfl k) ?_
  show own_Ends _ _ _ _ _ _ _ T4 (mkF m 66 #[.val (.long q1), .second, .val (.int p2), .val (.int p3), .val (.int (own_len_ p2)), .val (.int (own_at_ p2 p3)), .val (.ref b1), .unset, .unset, .unset, .unset, .unset, .unset, .unset] [(.long ((q1.toUInt64 >>> ((32 : Int32) &&& 0x3f).toInt64.toUInt64).toInt64)), (.int (3 : Int32)), (.ref b1)])
  refine own_step (fun _ k => XS.l2i X4.here hx rfl (hb hby at_66) rfl k) ?_
  show own_Ends _ _ _ _ _ _ _ T4 (mkF m 67 #[.val (.long q1), .second, .val (.int p2), .val (.int p3), .val (.int (own_len_ p2)), .val (.int (own_at_ p2 p3)), .val (.ref b1), .unset, .unset, .unset, .unset, .unset, .unset, .unset] [(.int (((q1.toUInt64 >>> ((32 : Int32) &&& 0x3f).toInt64.toUInt64).toInt64).toInt32)), (.int (3 : Int32)), (.ref b1)])
  refine own_step (fun _ k => XS.i2b X4.here hx rfl (hb hby at_67) rfl k) ?_
  show own_Ends _ _ _ _ _ _ _ T4 (mkF m 68 #[.val (.long q1), .second, .val (.int p2), .val (.int p3), .val (.int (own_len_ p2)), .val (.int (own_at_ p2 p3)), .val (.ref b1), .unset, .unset, .unset, .unset, .unset, .unset, .unset] [(.int ((((q1.toUInt64 >>> ((32 : Int32) &&& 0x3f).toInt64.toUInt64).toInt64).toInt32).toInt8.toInt32)), (.int (3 : Int32)), (.ref b1)])
  obtain ⟨T5, h5, l5, X5, e5, W5, V5, st5⟩ := own_stB X4 hx hZ e4 V_b1_4 (j := (3 : Int32)) ⟨by decide, by decide⟩ 3 rfl (Nat.le_of_ble_eq_true rfl) (g := (mkF m 68 #[.val (.long q1), .second, .val (.int p2), .val (.int p3), .val (.int (own_len_ p2)), .val (.int (own_at_ p2 p3)), .val (.ref b1), .unset, .unset, .unset, .unset, .unset, .unset, .unset] [(.int ((((q1.toUInt64 >>> ((32 : Int32) &&& 0x3f).toInt64.toUInt64).toInt64).toInt32).toInt8.toInt32)), (.int (3 : Int32)), (.ref b1)])) rfl rfl (hb hby at_68)
  refine own_step st5 ?_
  have N5 := Fr.snoc X5 N4 g_b1
  have Z5 := Nat.le_trans Z4 (Keep.of_wr W5).1
  rw [own_bb] at V5
  have V_b1_5 : Arv Z h5 b1 k1 .byte (8 : Int32) [(.int ((((q1.toUInt64 >>> ((56 : Int32) &&& 0x3f).toInt64.toUInt64).toInt64).toInt32).toInt8.toInt32)), (.int ((((q1.toUInt64 >>> ((48 : Int32) &&& 0x3f).toInt64.toUInt64).toInt64).toInt32).toInt8.toInt32)), (.int ((((q1.toUInt64 >>> ((40 : Int32) &&& 0x3f).toInt64.toUInt64).toInt64).toInt32).toInt8.toInt32)), (.int ((((q1.toUInt64 >>> ((32 : Int32) &&& 0x3f).toInt64.toUInt64).toInt64).toInt32).toInt8.toInt32)), (.int (0 : Int32)), (.int (0 : Int32)), (.int (0 : Int32)), (.int (0 : Int32))] (.int (0 : Int32)) := V5
  show own_Ends _ _ _ _ _ _ _ T5 (mkF m 69 #[.val (.long q1), .second, .val (.int p2), .val (.int p3), .val (.int (own_len_ p2)), .val (.int (own_at_ p2 p3)), .val (.ref b1), .unset, .unset, .unset, .unset, .unset, .unset, .unset] [])
  refine own_step (fun _ k => XS.aload X5.here hx rfl (hb hby at_69) rfl rfl k) ?_
  show own_Ends _ _ _ _ _ _ _ T5 (mkF m 71 #[.val (.long q1), .second, .val (.int p2), .val (.int p3), .val (.int (own_len_ p2)), .val (.int (own_at_ p2 p3)), .val (.ref b1), .unset, .unset, .unset, .unset, .unset, .unset, .unset] [(.ref b1)])
  refine own_step (fun _ k => XS.iconst X5.here hx rfl (hb hby at_71) k) ?_
  show own_Ends _ _ _ _ _ _ _ T5 (mkF m 72 #[.val (.long q1), .second, .val (.int p2), .val (.int p3), .val (.int (own_len_ p2)), .val (.int (own_at_ p2 p3)), .val (.ref b1), .unset, .unset, .unset, .unset, .unset, .unset, .unset] [(.int (4 : Int32)), (.ref b1)])
  refine own_step (fun _ k => XS.lloadN X5.here hx rfl (hb hby at_72) rfl k) ?_
  show own_Ends _ _ _ _ _ _ _ T5 (mkF m 73 #[.val (.long q1), .second, .val (.int p2), .val (.int p3), .val (.int (own_len_ p2)), .val (.int (own_at_ p2 p3)), .val (.ref b1), .unset, .unset, .unset, .unset, .unset, .unset, .unset] [(.long q1), (.int (4 : Int32)), (.ref b1)])
  refine own_step (fun _ k => XS.bipush X5.here hx rfl (hb hby at_73) k) ?_
  show own_Ends _ _ _ _ _ _ _ T5 (mkF m 75 #[.val (.long q1), .second, .val (.int p2), .val (.int p3), .val (.int (own_len_ p2)), .val (.int (own_at_ p2 p3)), .val (.ref b1), .unset, .unset, .unset, .unset, .unset, .unset, .unset] [(.int (24 : Int32)), (.long q1), (.int (4 : Int32)), (.ref b1)])
  refine own_step (fun _ k => XS.lushr X5.here hx rfl (hb hby at_75) rfl k) ?_
  show own_Ends _ _ _ _ _ _ _ T5 (mkF m 76 #[.val (.long q1), .second, .val (.int p2), .val (.int p3), .val (.int (own_len_ p2)), .val (.int (own_at_ p2 p3)), .val (.ref b1), .unset, .unset, .unset, .unset, .unset, .unset, .unset] [(.long ((q1.toUInt64 >>> ((24 : Int32) &&& 0x3f).toInt64.toUInt64).toInt64)), (.int (4 : Int32)), (.ref b1)])
  refine own_step (fun _ k => XS.l2i X5.here hx rfl (hb hby at_76) rfl k) ?_
  show own_Ends _ _ _ _ _ _ _ T5 (mkF m 77 #[.val (.long q1), .second, .val (.int p2), .val (.int p3), .val (.int (own_len_ p2)), .val (.int (own_at_ p2 p3)), .val (.ref b1), .unset, .unset, .unset, .unset, .unset, .unset, .unset] [(.int (((q1.toUInt64 >>> ((24 : Int32) &&& 0x3f).toInt64.toUInt64).toInt64).toInt32)), (.int (4 : Int32)), (.ref b1)])
  refine own_step (fun _ k => XS.i2b X5.here hx rfl (hb hby at_77) rfl k) ?_
  show own_Ends _ _ _ _ _ _ _ T5 (mkF m 78 #[.val (.long q1), .second, .val (.int p2), .val (.int p3), .val (.int (own_len_ p2)), .val (.int (own_at_ p2 p3)), .val (.ref b1), .unset, .unset, .unset, .unset, .unset, .unset, .unset] [(.int ((((q1.toUInt64 >>> ((24 : Int32) &&& 0x3f).toInt64.toUInt64).toInt64).toInt32).toInt8.toInt32)), (.int (4 : Int32)), (.ref b1)])
  obtain ⟨T6, h6, l6, X6, e6, W6, V6, st6⟩ := own_stB X5 hx hZ e5 V_b1_5 (j := (4 : Int32)) ⟨by decide, by decide⟩ 4 rfl (Nat.le_of_ble_eq_true rfl) (g := (mkF m 78 #[.val (.long q1), .second, .val (.int p2), .val (.int p3), .val (.int (own_len_ p2)), .val (.int (own_at_ p2 p3)), .val (.ref b1), .unset, .unset, .unset, .unset, .unset, .unset, .unset] [(.int ((((q1.toUInt64 >>> ((24 : Int32) &&& 0x3f).toInt64.toUInt64).toInt64).toInt32).toInt8.toInt32)), (.int (4 : Int32)), (.ref b1)])) rfl rfl (hb hby at_78)
  refine own_step st6 ?_
  have N6 := Fr.snoc X6 N5 g_b1
  have Z6 := Nat.le_trans Z5 (Keep.of_wr W6).1
  rw [own_bb] at V6
  have V_b1_6 : Arv Z h6 b1 k1 .byte (8 : Int32) [(.int ((((q1.toUInt64 >>> ((56 : Int32) &&& 0x3f).toInt64.toUInt64).toInt64).toInt32).toInt8.toInt32)), (.int ((((q1.toUInt64 >>> ((48 : Int32) &&& 0x3f).toInt64.toUInt64).toInt64).toInt32).toInt8.toInt32)), (.int ((((q1.toUInt64 >>> ((40 : Int32) &&& 0x3f).toInt64.toUInt64).toInt64).toInt32).toInt8.toInt32)), (.int ((((q1.toUInt64 >>> ((32 : Int32) &&& 0x3f).toInt64.toUInt64).toInt64).toInt32).toInt8.toInt32)), (.int ((((q1.toUInt64 >>> ((24 : Int32) &&& 0x3f).toInt64.toUInt64).toInt64).toInt32).toInt8.toInt32)), (.int (0 : Int32)), (.int (0 : Int32)), (.int (0 : Int32))] (.int (0 : Int32)) := V6
  show own_Ends _ _ _ _ _ _ _ T6 (mkF m 79 #[.val (.long q1), .second, .val (.int p2), .val (.int p3), .val (.int (own_len_ p2)), .val (.int (own_at_ p2 p3)), .val (.ref b1), .unset, .unset, .unset, .unset, .unset, .unset, .unset] [])
  refine own_step (fun _ k => XS.aload X6.here hx rfl (hb hby at_79) rfl rfl k) ?_
  show own_Ends _ _ _ _ _ _ _ T6 (mkF m 81 #[.val (.long q1), .second, .val (.int p2), .val (.int p3), .val (.int (own_len_ p2)), .val (.int (own_at_ p2 p3)), .val (.ref b1), .unset, .unset, .unset, .unset, .unset, .unset, .unset] [(.ref b1)])
  refine own_step (fun _ k => XS.iconst X6.here hx rfl (hb hby at_81) k) ?_
  show own_Ends _ _ _ _ _ _ _ T6 (mkF m 82 #[.val (.long q1), .second, .val (.int p2), .val (.int p3), .val (.int (own_len_ p2)), .val (.int (own_at_ p2 p3)), .val (.ref b1), .unset, .unset, .unset, .unset, .unset, .unset, .unset] [(.int (5 : Int32)), (.ref b1)])
  refine own_step (fun _ k => XS.lloadN X6.here hx rfl (hb hby at_82) rfl k) ?_
  show own_Ends _ _ _ _ _ _ _ T6 (mkF m 83 #[.val (.long q1), .second, .val (.int p2), .val (.int p3), .val (.int (own_len_ p2)), .val (.int (own_at_ p2 p3)), .val (.ref b1), .unset, .unset, .unset, .unset, .unset, .unset, .unset] [(.long q1), (.int (5 : Int32)), (.ref b1)])
  refine own_step (fun _ k => XS.bipush X6.here hx rfl (hb hby at_83) k) ?_
  show own_Ends _ _ _ _ _ _ _ T6 (mkF m 85 #[.val (.long q1), .second, .val (.int p2), .val (.int p3), .val (.int (own_len_ p2)), .val (.int (own_at_ p2 p3)), .val (.ref b1), .unset, .unset, .unset, .unset, .unset, .unset, .unset] [(.int (16 : Int32)), (.long q1), (.int (5 : Int32)), (.ref b1)])
  refine own_step (fun _ k => XS.lushr X6.here hx rfl (hb hby at_85) rfl k) ?_
  show own_Ends _ _ _ _ _ _ _ T6 (mkF m 86 #[.val (.long q1), .second, .val (.int p2), .val (.int p3), .val (.int (own_len_ p2)), .val (.int (own_at_ p2 p3)), .val (.ref b1), .unset, .unset, .unset, .unset, .unset, .unset, .unset] [(.long ((q1.toUInt64 >>> ((16 : Int32) &&& 0x3f).toInt64.toUInt64).toInt64)), (.int (5 : Int32)), (.ref b1)])
  refine own_step (fun _ k => XS.l2i X6.here hx rfl (hb hby at_86) rfl k) ?_
  show own_Ends _ _ _ _ _ _ _ T6 (mkF m 87 #[.val (.long q1), .second, .val (.int p2), .val (.int p3), .val (.int (own_len_ p2)), .val (.int (own_at_ p2 p3)), .val (.ref b1), .unset, .unset, .unset, .unset, .unset, .unset, .unset] [(.int (((q1.toUInt64 >>> ((16 : Int32) &&& 0x3f).toInt64.toUInt64).toInt64).toInt32)), (.int (5 : Int32)), (.ref b1)])
  refine own_step (fun _ k => XS.i2b X6.here hx rfl (hb hby at_87) rfl k) ?_
  show own_Ends _ _ _ _ _ _ _ T6 (mkF m 88 #[.val (.long q1), .second, .val (.int p2), .val (.int p3), .val (.int (own_len_ p2)), .val (.int (own_at_ p2 p3)), .val (.ref b1), .unset, .unset, .unset, .unset, .unset, .unset, .unset] [(.int ((((q1.toUInt64 >>> ((16 : Int32) &&& 0x3f).toInt64.toUInt64).toInt64).toInt32).toInt8.toInt32)), (.int (5 : Int32)), (.ref b1)])
  obtain ⟨T7, h7, l7, X7, e7, W7, V7, st7⟩ := own_stB X6 hx hZ e6 V_b1_6 (j := (5 : Int32)) ⟨by decide, by decide⟩ 5 rfl (Nat.le_of_ble_eq_true rfl) (g := (mkF m 88 #[.val (.long q1), .second, .val (.int p2), .val (.int p3), .val (.int (own_len_ p2)), .val (.int (own_at_ p2 p3)), .val (.ref b1), .unset, .unset, .unset, .unset, .unset, .unset, .unset] [(.int ((((q1.toUInt64 >>> ((16 : Int32) &&& 0x3f).toInt64.toUInt64).toInt64).toInt32).toInt8.toInt32)), (.int (5 : Int32)), (.ref b1)])) rfl rfl (hb hby at_88)
  refine own_step st7 ?_
  have N7 := Fr.snoc X7 N6 g_b1
  have Z7 := Nat.le_trans Z6 (Keep.of_wr W7).1
  rw [own_bb] at V7
  have V_b1_7 : Arv Z h7 b1 k1 .byte (8 : Int32) [(.int ((((q1.toUInt64 >>> ((56 : Int32) &&& 0x3f).toInt64.toUInt64).toInt64).toInt32).toInt8.toInt32)), (.int ((((q1.toUInt64 >>> ((48 : Int32) &&& 0x3f).toInt64.toUInt64).toInt64).toInt32).toInt8.toInt32)), (.int ((((q1.toUInt64 >>> ((40 : Int32) &&& 0x3f).toInt64.toUInt64).toInt64).toInt32).toInt8.toInt32)), (.int ((((q1.toUInt64 >>> ((32 : Int32) &&& 0x3f).toInt64.toUInt64).toInt64).toInt32).toInt8.toInt32)), (.int ((((q1.toUInt64 >>> ((24 : Int32) &&& 0x3f).toInt64.toUInt64).toInt64).toInt32).toInt8.toInt32)), (.int ((((q1.toUInt64 >>> ((16 : Int32) &&& 0x3f).toInt64.toUInt64).toInt64).toInt32).toInt8.toInt32)), (.int (0 : Int32)), (.int (0 : Int32))] (.int (0 : Int32)) := V7
  show own_Ends _ _ _ _ _ _ _ T7 (mkF m 89 #[.val (.long q1), .second, .val (.int p2), .val (.int p3), .val (.int (own_len_ p2)), .val (.int (own_at_ p2 p3)), .val (.ref b1), .unset, .unset, .unset, .unset, .unset, .unset, .unset] [])
  refine own_step (fun _ k => XS.aload X7.here hx rfl (hb hby at_89) rfl rfl k) ?_
  show own_Ends _ _ _ _ _ _ _ T7 (mkF m 91 #[.val (.long q1), .second, .val (.int p2), .val (.int p3), .val (.int (own_len_ p2)), .val (.int (own_at_ p2 p3)), .val (.ref b1), .unset, .unset, .unset, .unset, .unset, .unset, .unset] [(.ref b1)])
  refine own_step (fun _ k => XS.bipush X7.here hx rfl (hb hby at_91) k) ?_
  show own_Ends _ _ _ _ _ _ _ T7 (mkF m 93 #[.val (.long q1), .second, .val (.int p2), .val (.int p3), .val (.int (own_len_ p2)), .val (.int (own_at_ p2 p3)), .val (.ref b1), .unset, .unset, .unset, .unset, .unset, .unset, .unset] [(.int (6 : Int32)), (.ref b1)])
  refine own_step (fun _ k => XS.lloadN X7.here hx rfl (hb hby at_93) rfl k) ?_
  show own_Ends _ _ _ _ _ _ _ T7 (mkF m 94 #[.val (.long q1), .second, .val (.int p2), .val (.int p3), .val (.int (own_len_ p2)), .val (.int (own_at_ p2 p3)), .val (.ref b1), .unset, .unset, .unset, .unset, .unset, .unset, .unset] [(.long q1), (.int (6 : Int32)), (.ref b1)])
  refine own_step (fun _ k => XS.bipush X7.here hx rfl (hb hby at_94) k) ?_
  show own_Ends _ _ _ _ _ _ _ T7 (mkF m 96 #[.val (.long q1), .second, .val (.int p2), .val (.int p3), .val (.int (own_len_ p2)), .val (.int (own_at_ p2 p3)), .val (.ref b1), .unset, .unset, .unset, .unset, .unset, .unset, .unset] [(.int (8 : Int32)), (.long q1), (.int (6 : Int32)), (.ref b1)])
  refine own_step (fun _ k => XS.lushr X7.here hx rfl (hb hby at_96) rfl k) ?_
  show own_Ends _ _ _ _ _ _ _ T7 (mkF m 97 #[.val (.long q1), .second, .val (.int p2), .val (.int p3), .val (.int (own_len_ p2)), .val (.int (own_at_ p2 p3)), .val (.ref b1), .unset, .unset, .unset, .unset, .unset, .unset, .unset] [(.long ((q1.toUInt64 >>> ((8 : Int32) &&& 0x3f).toInt64.toUInt64).toInt64)), (.int (6 : Int32)), (.ref b1)])
  refine own_step (fun _ k => XS.l2i X7.here hx rfl (hb hby at_97) rfl k) ?_
  show own_Ends _ _ _ _ _ _ _ T7 (mkF m 98 #[.val (.long q1), .second, .val (.int p2), .val (.int p3), .val (.int (own_len_ p2)), .val (.int (own_at_ p2 p3)), .val (.ref b1), .unset, .unset, .unset, .unset, .unset, .unset, .unset] [(.int (((q1.toUInt64 >>> ((8 : Int32) &&& 0x3f).toInt64.toUInt64).toInt64).toInt32)), (.int (6 : Int32)), (.ref b1)])
  refine own_step (fun _ k => XS.i2b X7.here hx rfl (hb hby at_98) rfl k) ?_
  show own_Ends _ _ _ _ _ _ _ T7 (mkF m 99 #[.val (.long q1), .second, .val (.int p2), .val (.int p3), .val (.int (own_len_ p2)), .val (.int (own_at_ p2 p3)), .val (.ref b1), .unset, .unset, .unset, .unset, .unset, .unset, .unset] [(.int ((((q1.toUInt64 >>> ((8 : Int32) &&& 0x3f).toInt64.toUInt64).toInt64).toInt32).toInt8.toInt32)), (.int (6 : Int32)), (.ref b1)])
  obtain ⟨T8, h8, l8, X8, e8, W8, V8, st8⟩ := own_stB X7 hx hZ e7 V_b1_7 (j := (6 : Int32)) ⟨by decide, by decide⟩ 6 rfl (Nat.le_of_ble_eq_true rfl) (g := (mkF m 99 #[.val (.long q1), .second, .val (.int p2), .val (.int p3), .val (.int (own_len_ p2)), .val (.int (own_at_ p2 p3)), .val (.ref b1), .unset, .unset, .unset, .unset, .unset, .unset, .unset] [(.int ((((q1.toUInt64 >>> ((8 : Int32) &&& 0x3f).toInt64.toUInt64).toInt64).toInt32).toInt8.toInt32)), (.int (6 : Int32)), (.ref b1)])) rfl rfl (hb hby at_99)
  refine own_step st8 ?_
  have N8 := Fr.snoc X8 N7 g_b1
  have Z8 := Nat.le_trans Z7 (Keep.of_wr W8).1
  rw [own_bb] at V8
  have V_b1_8 : Arv Z h8 b1 k1 .byte (8 : Int32) [(.int ((((q1.toUInt64 >>> ((56 : Int32) &&& 0x3f).toInt64.toUInt64).toInt64).toInt32).toInt8.toInt32)), (.int ((((q1.toUInt64 >>> ((48 : Int32) &&& 0x3f).toInt64.toUInt64).toInt64).toInt32).toInt8.toInt32)), (.int ((((q1.toUInt64 >>> ((40 : Int32) &&& 0x3f).toInt64.toUInt64).toInt64).toInt32).toInt8.toInt32)), (.int ((((q1.toUInt64 >>> ((32 : Int32) &&& 0x3f).toInt64.toUInt64).toInt64).toInt32).toInt8.toInt32)), (.int ((((q1.toUInt64 >>> ((24 : Int32) &&& 0x3f).toInt64.toUInt64).toInt64).toInt32).toInt8.toInt32)), (.int ((((q1.toUInt64 >>> ((16 : Int32) &&& 0x3f).toInt64.toUInt64).toInt64).toInt32).toInt8.toInt32)), (.int ((((q1.toUInt64 >>> ((8 : Int32) &&& 0x3f).toInt64.toUInt64).toInt64).toInt32).toInt8.toInt32)), (.int (0 : Int32))] (.int (0 : Int32)) := V8
  show own_Ends _ _ _ _ _ _ _ T8 (mkF m 100 #[.val (.long q1), .second, .val (.int p2), .val (.int p3), .val (.int (own_len_ p2)), .val (.int (own_at_ p2 p3)), .val (.ref b1), .unset, .unset, .unset, .unset, .unset, .unset, .unset] [])
  refine own_step (fun _ k => XS.aload X8.here hx rfl (hb hby at_100) rfl rfl k) ?_
  show own_Ends _ _ _ _ _ _ _ T8 (mkF m 102 #[.val (.long q1), .second, .val (.int p2), .val (.int p3), .val (.int (own_len_ p2)), .val (.int (own_at_ p2 p3)), .val (.ref b1), .unset, .unset, .unset, .unset, .unset, .unset, .unset] [(.ref b1)])
  refine own_step (fun _ k => XS.bipush X8.here hx rfl (hb hby at_102) k) ?_
  show own_Ends _ _ _ _ _ _ _ T8 (mkF m 104 #[.val (.long q1), .second, .val (.int p2), .val (.int p3), .val (.int (own_len_ p2)), .val (.int (own_at_ p2 p3)), .val (.ref b1), .unset, .unset, .unset, .unset, .unset, .unset, .unset] [(.int (7 : Int32)), (.ref b1)])
  refine own_step (fun _ k => XS.lloadN X8.here hx rfl (hb hby at_104) rfl k) ?_
  show own_Ends _ _ _ _ _ _ _ T8 (mkF m 105 #[.val (.long q1), .second, .val (.int p2), .val (.int p3), .val (.int (own_len_ p2)), .val (.int (own_at_ p2 p3)), .val (.ref b1), .unset, .unset, .unset, .unset, .unset, .unset, .unset] [(.long q1), (.int (7 : Int32)), (.ref b1)])
  refine own_step (fun _ k => XS.l2i X8.here hx rfl (hb hby at_105) rfl k) ?_
  show own_Ends _ _ _ _ _ _ _ T8 (mkF m 106 #[.val (.long q1), .second, .val (.int p2), .val (.int p3), .val (.int (own_len_ p2)), .val (.int (own_at_ p2 p3)), .val (.ref b1), .unset, .unset, .unset, .unset, .unset, .unset, .unset] [(.int (q1.toInt32)), (.int (7 : Int32)), (.ref b1)])
  refine own_step (fun _ k => XS.i2b X8.here hx rfl (hb hby at_106) rfl k) ?_
  show own_Ends _ _ _ _ _ _ _ T8 (mkF m 107 #[.val (.long q1), .second, .val (.int p2), .val (.int p3), .val (.int (own_len_ p2)), .val (.int (own_at_ p2 p3)), .val (.ref b1), .unset, .unset, .unset, .unset, .unset, .unset, .unset] [(.int ((q1.toInt32).toInt8.toInt32)), (.int (7 : Int32)), (.ref b1)])
  obtain ⟨T9, h9, l9, X9, e9, W9, V9, st9⟩ := own_stB X8 hx hZ e8 V_b1_8 (j := (7 : Int32)) ⟨by decide, by decide⟩ 7 rfl (Nat.le_of_ble_eq_true rfl) (g := (mkF m 107 #[.val (.long q1), .second, .val (.int p2), .val (.int p3), .val (.int (own_len_ p2)), .val (.int (own_at_ p2 p3)), .val (.ref b1), .unset, .unset, .unset, .unset, .unset, .unset, .unset] [(.int ((q1.toInt32).toInt8.toInt32)), (.int (7 : Int32)), (.ref b1)])) rfl rfl (hb hby at_107)
  refine own_step st9 ?_
  have N9 := Fr.snoc X9 N8 g_b1
  have Z9 := Nat.le_trans Z8 (Keep.of_wr W9).1
  rw [own_bb] at V9
  have V_b1_9 : Arv Z h9 b1 k1 .byte (8 : Int32) [(.int ((((q1.toUInt64 >>> ((56 : Int32) &&& 0x3f).toInt64.toUInt64).toInt64).toInt32).toInt8.toInt32)), (.int ((((q1.toUInt64 >>> ((48 : Int32) &&& 0x3f).toInt64.toUInt64).toInt64).toInt32).toInt8.toInt32)), (.int ((((q1.toUInt64 >>> ((40 : Int32) &&& 0x3f).toInt64.toUInt64).toInt64).toInt32).toInt8.toInt32)), (.int ((((q1.toUInt64 >>> ((32 : Int32) &&& 0x3f).toInt64.toUInt64).toInt64).toInt32).toInt8.toInt32)), (.int ((((q1.toUInt64 >>> ((24 : Int32) &&& 0x3f).toInt64.toUInt64).toInt64).toInt32).toInt8.toInt32)), (.int ((((q1.toUInt64 >>> ((16 : Int32) &&& 0x3f).toInt64.toUInt64).toInt64).toInt32).toInt8.toInt32)), (.int ((((q1.toUInt64 >>> ((8 : Int32) &&& 0x3f).toInt64.toUInt64).toInt64).toInt32).toInt8.toInt32)), (.int ((q1.toInt32).toInt8.toInt32))] (.int (0 : Int32)) := V9
  show own_Ends _ _ _ _ _ _ _ T9 (mkF m 108 #[.val (.long q1), .second, .val (.int p2), .val (.int p3), .val (.int (own_len_ p2)), .val (.int (own_at_ p2 p3)), .val (.ref b1), .unset, .unset, .unset, .unset, .unset, .unset, .unset] [])
  refine own_step (fun _ k => XS.bipush X9.here hx rfl (hb hby at_108) k) ?_
  show own_Ends _ _ _ _ _ _ _ T9 (mkF m 110 #[.val (.long q1), .second, .val (.int p2), .val (.int p3), .val (.int (own_len_ p2)), .val (.int (own_at_ p2 p3)), .val (.ref b1), .unset, .unset, .unset, .unset, .unset, .unset, .unset] [(.int (8 : Int32))])
  refine own_step (fun _ k => XS.bipush X9.here hx rfl (hb hby at_110) k) ?_
  show own_Ends _ _ _ _ _ _ _ T9 (mkF m 112 #[.val (.long q1), .second, .val (.int p2), .val (.int p3), .val (.int (own_len_ p2)), .val (.int (own_at_ p2 p3)), .val (.ref b1), .unset, .unset, .unset, .unset, .unset, .unset, .unset] [(.int (8 : Int32)), (.int (8 : Int32))])
  refine own_step (fun _ k => XS.iload X9.here hx rfl (hb hby at_112) rfl k) ?_
  show own_Ends _ _ _ _ _ _ _ T9 (mkF m 114 #[.val (.long q1), .second, .val (.int p2), .val (.int p3), .val (.int (own_len_ p2)), .val (.int (own_at_ p2 p3)), .val (.ref b1), .unset, .unset, .unset, .unset, .unset, .unset, .unset] [(.int (own_at_ p2 p3)), (.int (8 : Int32)), (.int (8 : Int32))])
  refine own_step (fun _ k => XS.isub X9.here hx rfl (hb hby at_114) rfl k) ?_
  show own_Ends _ _ _ _ _ _ _ T9 (mkF m 115 #[.val (.long q1), .second, .val (.int p2), .val (.int p3), .val (.int (own_len_ p2)), .val (.int (own_at_ p2 p3)), .val (.ref b1), .unset, .unset, .unset, .unset, .unset, .unset, .unset] [(.int ((8 : Int32) - (own_at_ p2 p3))), (.int (8 : Int32))])
  refine own_step (fun _ k => XS.iload X9.here hx rfl (hb hby at_115) rfl k) ?_
  show own_Ends _ _ _ _ _ _ _ T9 (mkF m 117 #[.val (.long q1), .second, .val (.int p2), .val (.int p3), .val (.int (own_len_ p2)), .val (.int (own_at_ p2 p3)), .val (.ref b1), .unset, .unset, .unset, .unset, .unset, .unset, .unset] [(.int (own_len_ p2)), (.int ((8 : Int32) - (own_at_ p2 p3))), (.int (8 : Int32))])
  refine own_step (fun _ k => XS.isub X9.here hx rfl (hb hby at_117) rfl k) ?_
  show own_Ends _ _ _ _ _ _ _ T9 (mkF m 118 #[.val (.long q1), .second, .val (.int p2), .val (.int p3), .val (.int (own_len_ p2)), .val (.int (own_at_ p2 p3)), .val (.ref b1), .unset, .unset, .unset, .unset, .unset, .unset, .unset] [(.int (((8 : Int32) - (own_at_ p2 p3)) - (own_len_ p2))), (.int (8 : Int32))])
  refine own_step (fun _ k => XS.imul X9.here hx rfl (hb hby at_118) rfl k) ?_
  show own_Ends _ _ _ _ _ _ _ T9 (mkF m 119 #[.val (.long q1), .second, .val (.int p2), .val (.int p3), .val (.int (own_len_ p2)), .val (.int (own_at_ p2 p3)), .val (.ref b1), .unset, .unset, .unset, .unset, .unset, .unset, .unset] [(.int ((8 : Int32) * (((8 : Int32) - (own_at_ p2 p3)) - (own_len_ p2))))])
  refine own_step (fun _ k => XS.istore X9.here hx rfl (hb hby at_119) rfl (l' := #[.val (.long q1), .second, .val (.int p2), .val (.int p3), .val (.int (own_len_ p2)), .val (.int (own_at_ p2 p3)), .val (.ref b1), .val (.int ((8 : Int32) * (((8 : Int32) - (own_at_ p2 p3)) - (own_len_ p2)))), .unset, .unset, .unset, .unset, .unset, .unset]) rfl k) ?_
  show own_Ends _ _ _ _ _ _ _ T9 (mkF m 121 #[.val (.long q1), .second, .val (.int p2), .val (.int p3), .val (.int (own_len_ p2)), .val (.int (own_at_ p2 p3)), .val (.ref b1), .val (.int ((8 : Int32) * (((8 : Int32) - (own_at_ p2 p3)) - (own_len_ p2)))), .unset, .unset, .unset, .unset, .unset, .unset] [])
  refine own_step (fun _ k => XS.lconst X9.here hx rfl (hb hby at_121) k) ?_
  show own_Ends _ _ _ _ _ _ _ T9 (mkF m 122 #[.val (.long q1), .second, .val (.int p2), .val (.int p3), .val (.int (own_len_ p2)), .val (.int (own_at_ p2 p3)), .val (.ref b1), .val (.int ((8 : Int32) * (((8 : Int32) - (own_at_ p2 p3)) - (own_len_ p2)))), .unset, .unset, .unset, .unset, .unset, .unset] [(.long (1 : Int64))])
  refine own_step (fun _ k => XS.bipush X9.here hx rfl (hb hby at_122) k) ?_
  show own_Ends _ _ _ _ _ _ _ T9 (mkF m 124 #[.val (.long q1), .second, .val (.int p2), .val (.int p3), .val (.int (own_len_ p2)), .val (.int (own_at_ p2 p3)), .val (.ref b1), .val (.int ((8 : Int32) * (((8 : Int32) - (own_at_ p2 p3)) - (own_len_ p2)))), .unset, .unset, .unset, .unset, .unset, .unset] [(.int (8 : Int32)), (.long (1 : Int64))])
  refine own_step (fun _ k => XS.iload X9.here hx rfl (hb hby at_124) rfl k) ?_
  show own_Ends _ _ _ _ _ _ _ T9 (mkF m 126 #[.val (.long q1), .second, .val (.int p2), .val (.int p3), .val (.int (own_len_ p2)), .val (.int (own_at_ p2 p3)), .val (.ref b1), .val (.int ((8 : Int32) * (((8 : Int32) - (own_at_ p2 p3)) - (own_len_ p2)))), .unset, .unset, .unset, .unset, .unset, .unset] [(.int (own_len_ p2)), (.int (8 : Int32)), (.long (1 : Int64))])
  refine own_step (fun _ k => XS.imul X9.here hx rfl (hb hby at_126) rfl k) ?_
  show own_Ends _ _ _ _ _ _ _ T9 (mkF m 127 #[.val (.long q1), .second, .val (.int p2), .val (.int p3), .val (.int (own_len_ p2)), .val (.int (own_at_ p2 p3)), .val (.ref b1), .val (.int ((8 : Int32) * (((8 : Int32) - (own_at_ p2 p3)) - (own_len_ p2)))), .unset, .unset, .unset, .unset, .unset, .unset] [(.int ((8 : Int32) * (own_len_ p2))), (.long (1 : Int64))])
  refine own_step (fun _ k => XS.lshl X9.here hx rfl (hb hby at_127) rfl k) ?_
  show own_Ends _ _ _ _ _ _ _ T9 (mkF m 128 #[.val (.long q1), .second, .val (.int p2), .val (.int p3), .val (.int (own_len_ p2)), .val (.int (own_at_ p2 p3)), .val (.ref b1), .val (.int ((8 : Int32) * (((8 : Int32) - (own_at_ p2 p3)) - (own_len_ p2)))), .unset, .unset, .unset, .unset, .unset, .unset] [(.long ((1 : Int64) <<< (((8 : Int32) * (own_len_ p2)) &&& 0x3f).toInt64))])
  refine own_step (fun _ k => XS.lconst X9.here hx rfl (hb hby at_128) k) ?_
  show own_Ends _ _ _ _ _ _ _ T9 (mkF m 129 #[.val (.long q1), .second, .val (.int p2), .val (.int p3), .val (.int (own_len_ p2)), .val (.int (own_at_ p2 p3)), .val (.ref b1), .val (.int ((8 : Int32) * (((8 : Int32) - (own_at_ p2 p3)) - (own_len_ p2)))), .unset, .unset, .unset, .unset, .unset, .unset] [(.long (1 : Int64)), (.long ((1 : Int64) <<< (((8 : Int32) * (own_len_ p2)) &&& 0x3f).toInt64))])
  refine own_step (fun _ k => XS.lsub X9.here hx rfl (hb hby at_129) rfl k) ?_
  show own_Ends _ _ _ _ _ _ _ T9 (mkF m 130 #[.val (.long q1), .second, .val (.int p2), .val (.int p3), .val (.int (own_len_ p2)), .val (.int (own_at_ p2 p3)), .val (.ref b1), .val (.int ((8 : Int32) * (((8 : Int32) - (own_at_ p2 p3)) - (own_len_ p2)))), .unset, .unset, .unset, .unset, .unset, .unset] [(.long (((1 : Int64) <<< (((8 : Int32) * (own_len_ p2)) &&& 0x3f).toInt64) - (1 : Int64)))])
  refine own_step (fun _ k => XS.lstore X9.here hx rfl (hb hby at_130) rfl (l' := #[.val (.long q1), .second, .val (.int p2), .val (.int p3), .val (.int (own_len_ p2)), .val (.int (own_at_ p2 p3)), .val (.ref b1), .val (.int ((8 : Int32) * (((8 : Int32) - (own_at_ p2 p3)) - (own_len_ p2)))), .val (.long (((1 : Int64) <<< (((8 : Int32) * (own_len_ p2)) &&& 0x3f).toInt64) - (1 : Int64))), .second, .unset, .unset, .unset, .unset]) rfl k) ?_
  show own_Ends _ _ _ _ _ _ _ T9 (mkF m 132 #[.val (.long q1), .second, .val (.int p2), .val (.int p3), .val (.int (own_len_ p2)), .val (.int (own_at_ p2 p3)), .val (.ref b1), .val (.int ((8 : Int32) * (((8 : Int32) - (own_at_ p2 p3)) - (own_len_ p2)))), .val (.long (((1 : Int64) <<< (((8 : Int32) * (own_len_ p2)) &&& 0x3f).toInt64) - (1 : Int64))), .second, .unset, .unset, .unset, .unset] [])
  refine own_step (fun _ k => XS.lloadN X9.here hx rfl (hb hby at_132) rfl k) ?_
  show own_Ends _ _ _ _ _ _ _ T9 (mkF m 133 #[.val (.long q1), .second, .val (.int p2), .val (.int p3), .val (.int (own_len_ p2)), .val (.int (own_at_ p2 p3)), .val (.ref b1), .val (.int ((8 : Int32) * (((8 : Int32) - (own_at_ p2 p3)) - (own_len_ p2)))), .val (.long (((1 : Int64) <<< (((8 : Int32) * (own_len_ p2)) &&& 0x3f).toInt64) - (1 : Int64))), .second, .unset, .unset, .unset, .unset] [(.long q1)])
  refine own_step (fun _ k => XS.iload X9.here hx rfl (hb hby at_133) rfl k) ?_
  show own_Ends _ _ _ _ _ _ _ T9 (mkF m 135 #[.val (.long q1), .second, .val (.int p2), .val (.int p3), .val (.int (own_len_ p2)), .val (.int (own_at_ p2 p3)), .val (.ref b1), .val (.int ((8 : Int32) * (((8 : Int32) - (own_at_ p2 p3)) - (own_len_ p2)))), .val (.long (((1 : Int64) <<< (((8 : Int32) * (own_len_ p2)) &&& 0x3f).toInt64) - (1 : Int64))), .second, .unset, .unset, .unset, .unset] [(.int ((8 : Int32) * (((8 : Int32) - (own_at_ p2 p3)) - (own_len_ p2)))), (.long q1)])
  refine own_step (fun _ k => XS.lushr X9.here hx rfl (hb hby at_135) rfl k) ?_
  show own_Ends _ _ _ _ _ _ _ T9 (mkF m 136 #[.val (.long q1), .second, .val (.int p2), .val (.int p3), .val (.int (own_len_ p2)), .val (.int (own_at_ p2 p3)), .val (.ref b1), .val (.int ((8 : Int32) * (((8 : Int32) - (own_at_ p2 p3)) - (own_len_ p2)))), .val (.long (((1 : Int64) <<< (((8 : Int32) * (own_len_ p2)) &&& 0x3f).toInt64) - (1 : Int64))), .second, .unset, .unset, .unset, .unset] [(.long ((q1.toUInt64 >>> (((8 : Int32) * (((8 : Int32) - (own_at_ p2 p3)) - (own_len_ p2))) &&& 0x3f).toInt64.toUInt64).toInt64))])
  refine own_step (fun _ k => XS.lload X9.here hx rfl (hb hby at_136) rfl k) ?_
  show own_Ends _ _ _ _ _ _ _ T9 (mkF m 138 #[.val (.long q1), .second, .val (.int p2), .val (.int p3), .val (.int (own_len_ p2)), .val (.int (own_at_ p2 p3)), .val (.ref b1), .val (.int ((8 : Int32) * (((8 : Int32) - (own_at_ p2 p3)) - (own_len_ p2)))), .val (.long (((1 : Int64) <<< (((8 : Int32) * (own_len_ p2)) &&& 0x3f).toInt64) - (1 : Int64))), .second, .unset, .unset, .unset, .unset] [(.long (((1 : Int64) <<< (((8 : Int32) * (own_len_ p2)) &&& 0x3f).toInt64) - (1 : Int64))), (.long ((q1.toUInt64 >>> (((8 : Int32) * (((8 : Int32) - (own_at_ p2 p3)) - (own_len_ p2))) &&& 0x3f).toInt64.toUInt64).toInt64))])
  refine own_step (fun _ k => XS.land X9.here hx rfl (hb hby at_138) rfl k) ?_
  show own_Ends _ _ _ _ _ _ _ T9 (mkF m 139 #[.val (.long q1), .second, .val (.int p2), .val (.int p3), .val (.int (own_len_ p2)), .val (.int (own_at_ p2 p3)), .val (.ref b1), .val (.int ((8 : Int32) * (((8 : Int32) - (own_at_ p2 p3)) - (own_len_ p2)))), .val (.long (((1 : Int64) <<< (((8 : Int32) * (own_len_ p2)) &&& 0x3f).toInt64) - (1 : Int64))), .second, .unset, .unset, .unset, .unset] [(.long (((q1.toUInt64 >>> (((8 : Int32) * (((8 : Int32) - (own_at_ p2 p3)) - (own_len_ p2))) &&& 0x3f).toInt64.toUInt64).toInt64) &&& (((1 : Int64) <<< (((8 : Int32) * (own_len_ p2)) &&& 0x3f).toInt64) - (1 : Int64))))])
  refine own_step (fun _ k => XS.lstore X9.here hx rfl (hb hby at_139) rfl (l' := #[.val (.long q1), .second, .val (.int p2), .val (.int p3), .val (.int (own_len_ p2)), .val (.int (own_at_ p2 p3)), .val (.ref b1), .val (.int ((8 : Int32) * (((8 : Int32) - (own_at_ p2 p3)) - (own_len_ p2)))), .val (.long (((1 : Int64) <<< (((8 : Int32) * (own_len_ p2)) &&& 0x3f).toInt64) - (1 : Int64))), .second, .val (.long (((q1.toUInt64 >>> (((8 : Int32) * (((8 : Int32) - (own_at_ p2 p3)) - (own_len_ p2))) &&& 0x3f).toInt64.toUInt64).toInt64) &&& (((1 : Int64) <<< (((8 : Int32) * (own_len_ p2)) &&& 0x3f).toInt64) - (1 : Int64)))), .second, .unset, .unset]) rfl k) ?_
  show own_Ends _ _ _ _ _ _ _ T9 (mkF m 141 #[.val (.long q1), .second, .val (.int p2), .val (.int p3), .val (.int (own_len_ p2)), .val (.int (own_at_ p2 p3)), .val (.ref b1), .val (.int ((8 : Int32) * (((8 : Int32) - (own_at_ p2 p3)) - (own_len_ p2)))), .val (.long (((1 : Int64) <<< (((8 : Int32) * (own_len_ p2)) &&& 0x3f).toInt64) - (1 : Int64))), .second, .val (.long (((q1.toUInt64 >>> (((8 : Int32) * (((8 : Int32) - (own_at_ p2 p3)) - (own_len_ p2))) &&& 0x3f).toInt64.toUInt64).toInt64) &&& (((1 : Int64) <<< (((8 : Int32) * (own_len_ p2)) &&& 0x3f).toInt64) - (1 : Int64)))), .second, .unset, .unset] [])
  refine own_step (fun _ k => XS.aload X9.here hx rfl (hb hby at_141) rfl rfl k) ?_
  show own_Ends _ _ _ _ _ _ _ T9 (mkF m 143 #[.val (.long q1), .second, .val (.int p2), .val (.int p3), .val (.int (own_len_ p2)), .val (.int (own_at_ p2 p3)), .val (.ref b1), .val (.int ((8 : Int32) * (((8 : Int32) - (own_at_ p2 p3)) - (own_len_ p2)))), .val (.long (((1 : Int64) <<< (((8 : Int32) * (own_len_ p2)) &&& 0x3f).toInt64) - (1 : Int64))), .second, .val (.long (((q1.toUInt64 >>> (((8 : Int32) * (((8 : Int32) - (own_at_ p2 p3)) - (own_len_ p2))) &&& 0x3f).toInt64.toUInt64).toInt64) &&& (((1 : Int64) <<< (((8 : Int32) * (own_len_ p2)) &&& 0x3f).toInt64) - (1 : Int64)))), .second, .unset, .unset] [(.ref b1)])
  refine own_step (fun _ k => XS.iload X9.here hx rfl (hb hby at_143) rfl k) ?_
  show own_Ends _ _ _ _ _ _ _ T9 (mkF m 145 #[.val (.long q1), .second, .val (.int p2), .val (.int p3), .val (.int (own_len_ p2)), .val (.int (own_at_ p2 p3)), .val (.ref b1), .val (.int ((8 : Int32) * (((8 : Int32) - (own_at_ p2 p3)) - (own_len_ p2)))), .val (.long (((1 : Int64) <<< (((8 : Int32) * (own_len_ p2)) &&& 0x3f).toInt64) - (1 : Int64))), .second, .val (.long (((q1.toUInt64 >>> (((8 : Int32) * (((8 : Int32) - (own_at_ p2 p3)) - (own_len_ p2))) &&& 0x3f).toInt64.toUInt64).toInt64) &&& (((1 : Int64) <<< (((8 : Int32) * (own_len_ p2)) &&& 0x3f).toInt64) - (1 : Int64)))), .second, .unset, .unset] [(.int (own_at_ p2 p3)), (.ref b1)])
  refine own_step (fun _ k => XS.iload X9.here hx rfl (hb hby at_145) rfl k) ?_
  show own_Ends _ _ _ _ _ _ _ T9 (mkF m 147 #[.val (.long q1), .second, .val (.int p2), .val (.int p3), .val (.int (own_len_ p2)), .val (.int (own_at_ p2 p3)), .val (.ref b1), .val (.int ((8 : Int32) * (((8 : Int32) - (own_at_ p2 p3)) - (own_len_ p2)))), .val (.long (((1 : Int64) <<< (((8 : Int32) * (own_len_ p2)) &&& 0x3f).toInt64) - (1 : Int64))), .second, .val (.long (((q1.toUInt64 >>> (((8 : Int32) * (((8 : Int32) - (own_at_ p2 p3)) - (own_len_ p2))) &&& 0x3f).toInt64.toUInt64).toInt64) &&& (((1 : Int64) <<< (((8 : Int32) * (own_len_ p2)) &&& 0x3f).toInt64) - (1 : Int64)))), .second, .unset, .unset] [(.int (own_len_ p2)), (.int (own_at_ p2 p3)), (.ref b1)])
  refine own_callS X9 hx hZ (y := (⟨"com/example/fixwire/fixwire/BigEndian", "unsigned", "([BII)J"⟩ : MethodName)) hown (hw _ (List.mem_of_getElem? (i := 2) rfl)) (hw _ (List.mem_of_getElem? (i := 3) rfl)) (hw _ (List.mem_of_getElem? (i := 4) rfl)) (hw _ (List.mem_of_getElem? (i := 5) rfl)) (by decide) (rm1 l Z a0 hw [] b1 (own_at_ p2 p3) (own_len_ p2) k1 [(.int ((((q1.toUInt64 >>> ((56 : Int32) &&& 0x3f).toInt64.toUInt64).toInt64).toInt32).toInt8.toInt32)), (.int ((((q1.toUInt64 >>> ((48 : Int32) &&& 0x3f).toInt64.toUInt64).toInt64).toInt32).toInt8.toInt32)), (.int ((((q1.toUInt64 >>> ((40 : Int32) &&& 0x3f).toInt64.toUInt64).toInt64).toInt32).toInt8.toInt32)), (.int ((((q1.toUInt64 >>> ((32 : Int32) &&& 0x3f).toInt64.toUInt64).toInt64).toInt32).toInt8.toInt32)), (.int ((((q1.toUInt64 >>> ((24 : Int32) &&& 0x3f).toInt64.toUInt64).toInt64).toInt32).toInt8.toInt32)), (.int ((((q1.toUInt64 >>> ((16 : Int32) &&& 0x3f).toInt64.toUInt64).toInt64).toInt32).toInt8.toInt32)), (.int ((((q1.toUInt64 >>> ((8 : Int32) &&& 0x3f).toInt64.toUInt64).toInt64).toInt32).toInt8.toInt32)), (.int ((q1.toInt32).toInt8.toInt32))] (own_by q1) _ _ h9 n0 Z9 V_b1_9 (own_bys q1) (own_at p2 p3).2.1 (own_at p2 p3).1 (own_at p2 p3).2.2) e9 0 (by decide) (by decide) (by decide) (by decide) (g := (mkF m 147 #[.val (.long q1), .second, .val (.int p2), .val (.int p3), .val (.int (own_len_ p2)), .val (.int (own_at_ p2 p3)), .val (.ref b1), .val (.int ((8 : Int32) * (((8 : Int32) - (own_at_ p2 p3)) - (own_len_ p2)))), .val (.long (((1 : Int64) <<< (((8 : Int32) * (own_len_ p2)) &&& 0x3f).toInt64) - (1 : Int64))), .second, .val (.long (((q1.toUInt64 >>> (((8 : Int32) * (((8 : Int32) - (own_at_ p2 p3)) - (own_len_ p2))) &&& 0x3f).toInt64.toUInt64).toInt64) &&& (((1 : Int64) <<< (((8 : Int32) * (own_len_ p2)) &&& 0x3f).toInt64) - (1 : Int64)))), .second, .unset, .unset] [(.int (own_len_ p2)), (.int (own_at_ p2 p3)), (.ref b1)])) rfl (by rw [hml]; rfl) [(.ref b1), (.int (own_at_ p2 p3)), (.int (own_len_ p2))] [] pd_0 rfl rfl rfl (by show 2 * 0 + _ ≤ _; exact Nat.le_of_eq rfl) (hb hby at_147) ?_
  rintro v10 T10 L10 X10 ⟨rfl, Nq10, e10⟩
  have N10 := Fr.app N9 Nq10
  show own_Ends _ _ _ _ _ _ _ T10 (mkF m 150 #[.val (.long q1), .second, .val (.int p2), .val (.int p3), .val (.int (own_len_ p2)), .val (.int (own_at_ p2 p3)), .val (.ref b1), .val (.int ((8 : Int32) * (((8 : Int32) - (own_at_ p2 p3)) - (own_len_ p2)))), .val (.long (((1 : Int64) <<< (((8 : Int32) * (own_len_ p2)) &&& 0x3f).toInt64) - (1 : Int64))), .second, .val (.long (((q1.toUInt64 >>> (((8 : Int32) * (((8 : Int32) - (own_at_ p2 p3)) - (own_len_ p2))) &&& 0x3f).toInt64.toUInt64).toInt64) &&& (((1 : Int64) <<< (((8 : Int32) * (own_len_ p2)) &&& 0x3f).toInt64) - (1 : Int64)))), .second, .unset, .unset] [(.long (own_acc (own_by q1) (own_A p2 p3) (own_N p2)))])
  refine own_step (fun _ k => XS.lstore X10.here hx rfl (hb hby at_150) rfl (l' := #[.val (.long q1), .second, .val (.int p2), .val (.int p3), .val (.int (own_len_ p2)), .val (.int (own_at_ p2 p3)), .val (.ref b1), .val (.int ((8 : Int32) * (((8 : Int32) - (own_at_ p2 p3)) - (own_len_ p2)))), .val (.long (((1 : Int64) <<< (((8 : Int32) * (own_len_ p2)) &&& 0x3f).toInt64) - (1 : Int64))), .second, .val (.long (((q1.toUInt64 >>> (((8 : Int32) * (((8 : Int32) - (own_at_ p2 p3)) - (own_len_ p2))) &&& 0x3f).toInt64.toUInt64).toInt64) &&& (((1 : Int64) <<< (((8 : Int32) * (own_len_ p2)) &&& 0x3f).toInt64) - (1 : Int64)))), .second, .val (.long (own_acc (own_by q1) (own_A p2 p3) (own_N p2))), .second]) rfl k) ?_
  show own_Ends _ _ _ _ _ _ _ T10 (mkF m 152 #[.val (.long q1), .second, .val (.int p2), .val (.int p3), .val (.int (own_len_ p2)), .val (.int (own_at_ p2 p3)), .val (.ref b1), .val (.int ((8 : Int32) * (((8 : Int32) - (own_at_ p2 p3)) - (own_len_ p2)))), .val (.long (((1 : Int64) <<< (((8 : Int32) * (own_len_ p2)) &&& 0x3f).toInt64) - (1 : Int64))), .second, .val (.long (((q1.toUInt64 >>> (((8 : Int32) * (((8 : Int32) - (own_at_ p2 p3)) - (own_len_ p2))) &&& 0x3f).toInt64.toUInt64).toInt64) &&& (((1 : Int64) <<< (((8 : Int32) * (own_len_ p2)) &&& 0x3f).toInt64) - (1 : Int64)))), .second, .val (.long (own_acc (own_by q1) (own_A p2 p3) (own_N p2))), .second] [])
  refine own_step (fun _ k => XS.lload X10.here hx rfl (hb hby at_152) rfl k) ?_
  show own_Ends _ _ _ _ _ _ _ T10 (mkF m 154 #[.val (.long q1), .second, .val (.int p2), .val (.int p3), .val (.int (own_len_ p2)), .val (.int (own_at_ p2 p3)), .val (.ref b1), .val (.int ((8 : Int32) * (((8 : Int32) - (own_at_ p2 p3)) - (own_len_ p2)))), .val (.long (((1 : Int64) <<< (((8 : Int32) * (own_len_ p2)) &&& 0x3f).toInt64) - (1 : Int64))), .second, .val (.long (((q1.toUInt64 >>> (((8 : Int32) * (((8 : Int32) - (own_at_ p2 p3)) - (own_len_ p2))) &&& 0x3f).toInt64.toUInt64).toInt64) &&& (((1 : Int64) <<< (((8 : Int32) * (own_len_ p2)) &&& 0x3f).toInt64) - (1 : Int64)))), .second, .val (.long (own_acc (own_by q1) (own_A p2 p3) (own_N p2))), .second] [(.long (own_acc (own_by q1) (own_A p2 p3) (own_N p2)))])
  refine own_step (fun _ k => XS.lload X10.here hx rfl (hb hby at_154) rfl k) ?_
  show own_Ends _ _ _ _ _ _ _ T10 (mkF m 156 #[.val (.long q1), .second, .val (.int p2), .val (.int p3), .val (.int (own_len_ p2)), .val (.int (own_at_ p2 p3)), .val (.ref b1), .val (.int ((8 : Int32) * (((8 : Int32) - (own_at_ p2 p3)) - (own_len_ p2)))), .val (.long (((1 : Int64) <<< (((8 : Int32) * (own_len_ p2)) &&& 0x3f).toInt64) - (1 : Int64))), .second, .val (.long (((q1.toUInt64 >>> (((8 : Int32) * (((8 : Int32) - (own_at_ p2 p3)) - (own_len_ p2))) &&& 0x3f).toInt64.toUInt64).toInt64) &&& (((1 : Int64) <<< (((8 : Int32) * (own_len_ p2)) &&& 0x3f).toInt64) - (1 : Int64)))), .second, .val (.long (own_acc (own_by q1) (own_A p2 p3) (own_N p2))), .second] [(.long (((q1.toUInt64 >>> (((8 : Int32) * (((8 : Int32) - (own_at_ p2 p3)) - (own_len_ p2))) &&& 0x3f).toInt64.toUInt64).toInt64) &&& (((1 : Int64) <<< (((8 : Int32) * (own_len_ p2)) &&& 0x3f).toInt64) - (1 : Int64)))), (.long (own_acc (own_by q1) (own_A p2 p3) (own_N p2)))])
  refine own_step (fun _ k => XS.lcmp X10.here hx rfl (hb hby at_156) rfl k) ?_
  show own_Ends _ _ _ _ _ _ _ T10 (mkF m 157 #[.val (.long q1), .second, .val (.int p2), .val (.int p3), .val (.int (own_len_ p2)), .val (.int (own_at_ p2 p3)), .val (.ref b1), .val (.int ((8 : Int32) * (((8 : Int32) - (own_at_ p2 p3)) - (own_len_ p2)))), .val (.long (((1 : Int64) <<< (((8 : Int32) * (own_len_ p2)) &&& 0x3f).toInt64) - (1 : Int64))), .second, .val (.long (((q1.toUInt64 >>> (((8 : Int32) * (((8 : Int32) - (own_at_ p2 p3)) - (own_len_ p2))) &&& 0x3f).toInt64.toUInt64).toInt64) &&& (((1 : Int64) <<< (((8 : Int32) * (own_len_ p2)) &&& 0x3f).toInt64) - (1 : Int64)))), .second, .val (.long (own_acc (own_by q1) (own_A p2 p3) (own_N p2))), .second] [(.int (lcmpW (own_acc (own_by q1) (own_A p2 p3) (own_N p2)) (((q1.toUInt64 >>> (((8 : Int32) * (((8 : Int32) - (own_at_ p2 p3)) - (own_len_ p2))) &&& 0x3f).toInt64.toUInt64).toInt64) &&& (((1 : Int64) <<< (((8 : Int32) * (own_len_ p2)) &&& 0x3f).toInt64) - (1 : Int64)))))])
  refine own_step (fun _ k => XS.ifNo X10.here hx rfl (hb hby at_157) rfl ((if0 _ _).trans (teq ((lw_eq (own_acc (own_by q1) (own_A p2 p3) (own_N p2)) (((q1.toUInt64 >>> (((8 : Int32) * (((8 : Int32) - (own_at_ p2 p3)) - (own_len_ p2))) &&& 0x3f).toInt64.toUInt64).toInt64) &&& (((1 : Int64) <<< (((8 : Int32) * (own_len_ p2)) &&& 0x3f).toInt64) - (1 : Int64)))).mpr (own_law q1 p2 p3))).2) k) ?_
  show own_Ends _ _ _ _ _ _ _ T10 (mkF m 160 #[.val (.long q1), .second, .val (.int p2), .val (.int p3), .val (.int (own_len_ p2)), .val (.int (own_at_ p2 p3)), .val (.ref b1), .val (.int ((8 : Int32) * (((8 : Int32) - (own_at_ p2 p3)) - (own_len_ p2)))), .val (.long (((1 : Int64) <<< (((8 : Int32) * (own_len_ p2)) &&& 0x3f).toInt64) - (1 : Int64))), .second, .val (.long (((q1.toUInt64 >>> (((8 : Int32) * (((8 : Int32) - (own_at_ p2 p3)) - (own_len_ p2))) &&& 0x3f).toInt64.toUInt64).toInt64) &&& (((1 : Int64) <<< (((8 : Int32) * (own_len_ p2)) &&& 0x3f).toInt64) - (1 : Int64)))), .second, .val (.long (own_acc (own_by q1) (own_A p2 p3) (own_N p2))), .second] [])
  refine own_step (fun _ k => XS.iconst X10.here hx rfl (hb hby at_160) k) ?_
  show own_Ends _ _ _ _ _ _ _ T10 (mkF m 161 #[.val (.long q1), .second, .val (.int p2), .val (.int p3), .val (.int (own_len_ p2)), .val (.int (own_at_ p2 p3)), .val (.ref b1), .val (.int ((8 : Int32) * (((8 : Int32) - (own_at_ p2 p3)) - (own_len_ p2)))), .val (.long (((1 : Int64) <<< (((8 : Int32) * (own_len_ p2)) &&& 0x3f).toInt64) - (1 : Int64))), .second, .val (.long (((q1.toUInt64 >>> (((8 : Int32) * (((8 : Int32) - (own_at_ p2 p3)) - (own_len_ p2))) &&& 0x3f).toInt64.toUInt64).toInt64) &&& (((1 : Int64) <<< (((8 : Int32) * (own_len_ p2)) &&& 0x3f).toInt64) - (1 : Int64)))), .second, .val (.long (own_acc (own_by q1) (own_A p2 p3) (own_N p2))), .second] [(.int (1 : Int32))])
  refine own_step (fun _ k => XS.goto X10.here hx rfl (pc0 := 161) (pc' := 165) rfl (hb hby at_161) (by decide) (by decide) k) ?_
  show own_Ends _ _ _ _ _ _ _ T10 (mkF m 165 #[.val (.long q1), .second, .val (.int p2), .val (.int p3), .val (.int (own_len_ p2)), .val (.int (own_at_ p2 p3)), .val (.ref b1), .val (.int ((8 : Int32) * (((8 : Int32) - (own_at_ p2 p3)) - (own_len_ p2)))), .val (.long (((1 : Int64) <<< (((8 : Int32) * (own_len_ p2)) &&& 0x3f).toInt64) - (1 : Int64))), .second, .val (.long (((q1.toUInt64 >>> (((8 : Int32) * (((8 : Int32) - (own_at_ p2 p3)) - (own_len_ p2))) &&& 0x3f).toInt64.toUInt64).toInt64) &&& (((1 : Int64) <<< (((8 : Int32) * (own_len_ p2)) &&& 0x3f).toInt64) - (1 : Int64)))), .second, .val (.long (own_acc (own_by q1) (own_A p2 p3) (own_N p2))), .second] [(.int (1 : Int32))])
  exact own_retN X10 hx (t := .boolean) hret (by simp) hlk (hb hby at_165) rfl ⟨rfl, N10⟩ (by decide) (by decide)
set_option maxRecDepth 65536 in
set_option maxHeartbeats 40000000 in
theorem comes_1 {Post : Tables → Env → Array Value → State → Outcome → State → Prop} (hpost : ∀ tb e args s v u, (limb_1_1.after args s (.returned v) u = true ∧ limb_1_2.after args s (.returned v) u = true ∧ True) → FrameEnd s (.returned v) u (Jvm.fieldLocs frame_1_writes args s ++ Jvm.arrayLocs frame_1_arrays args s ++ Jvm.staticLocs frame_1_statics s) 16 128 → Post tb e args s (.returned v) u) :
    ArmFor flags0 classFile x code maxLocals ret World_1 tables_1 room_1 Calls_1 rest_1 Pre_1 Post := by
  intro l hfl _ _ p e ha hc hk s m args below hf hA hF happ hP
  obtain ⟨hcalls, hrest, hpre⟩ := hP
  obtain ⟨-, -, -, hnamed, -, -, -, hat⟩ := (Spec.applies_iff hf).mp happ
  obtain ⟨hg, hn⟩ := and_e (Cond.before_iff.mp (show (Jvm.Cond.and given_1 narrow_1).before args s = true from hpre))
  obtain ⟨gc, g0⟩ := and_e hg
  obtain ⟨h0, g1⟩ := and_e g0
  obtain ⟨h1, g2⟩ := and_e g1
  have h2 := g2
  obtain ⟨w0, w1, w2, rfl⟩ : ∃ w0 w1 w2 : Value, args = #[w0, w1, w2] := by
    have hs : args.size = 3 := by simpa [Cond.value, given_1] using gc
    obtain ⟨L⟩ := args
    match L, hs with
    | [w0, w1, w2], _ => exact ⟨w0, w1, w2, rfl⟩
  have hw := fun d (hd : d ∈ tables_1) => atoms_spec (ws := Jvm.Cond.code x code maxLocals ret :: tables_1) hat d (List.mem_cons_of_mem _ hd)
  have hfit : Fit s := fun {y c} hc i hi => by
    obtain ⟨ha, rfl⟩ := Array.getElem?_eq_some_iff.mp hc
    have q := List.all_eq_true.mp ((Array.all_eq_true_iff_forall_mem.mp hF) _ (Array.getElem_mem ha)) i (List.mem_range.mpr hi)
    simpa [Array.getElem?_eq_getElem hi] using q
  obtain ⟨i0, ei0⟩ := isL_v h0
  obtain rfl : w0 = (.long i0) := Option.some.inj ei0
  obtain ⟨i1, ei1⟩ := is_v h1
  obtain rfl : w1 = (.int i1) := Option.some.inj ei1
  obtain ⟨i2, ei2⟩ := is_v h2
  obtain rfl : w2 = (.int i2) := Option.some.inj ei2
  obtain ⟨n, o, h1, h2, h3, _, L, rfl, ⟨rfl, N⟩, hq⟩ := rm0 l s _ hw tables_1 i0 i1 i2 s.heap s.heap.size (Nat.le_refl _) p e ha hc hk s m _ below hf ((Spec.applies_iff_loose hf).mp happ).1 ⟨rfl, State.Warmed39.refl s, rfl⟩ trivial
  refine ⟨n, _, h1, h2, h3, hpost _ _ _ _ _ _ ⟨Cond.after_iff.mpr rfl, Cond.after_iff.mpr (eq_i res_at (Term.int_eval (1)) rfl), trivial⟩ ⟨hq.1, hq.2.1, (hq.2.2.sift fun y hy => Or.inr (N y hy)).mono (by decide) (by decide)⟩⟩
theorem main_1_1 : Claimed_1_1 := comes_1 fun _ _ _ _ _ _ h hF => ⟨h.1, hF⟩
theorem main_1_2 : Claimed_1_2 := comes_1 fun _ _ _ _ _ _ h hF => ⟨h.2.1, hF⟩
end Jvm.Pilot.@@N@@
namespace Jvm.Pilot.@@N@@
open Jvm Jvm.ClassFile Sem Op Lib Jvm.Free Jvm.Stand Jvm.Pilot.@@N@@.Jvm.D
/-! MADE BY PROGRAM (witnessworld.py) out of the Statement's table words and the real class files: 9 classes; the members and pool entries that the words name. The judged class is class 1, her method 1. -/
namespace start1
open Jvm.ClassFile
def u (s : String) : CpInfo := .utf8 (stringToUtf16 s)
/-- a pool by its gaps: so many unusable entries, then the entry; so many at the end -/
def gap : Nat → List CpInfo → List CpInfo
  | 0, r => r
  | n + 1, r => .unusable :: gap n r
def poolList (es : List (Nat × CpInfo)) (last : Nat) : List CpInfo := es.foldr (fun e r => gap e.1 (e.2 :: r)) (gap last [])
def pool (es : List (Nat × CpInfo)) (last : Nat) : Array CpInfo := ⟨poolList es last⟩
def fileOf (pool : Array CpInfo) (this : Nat) (attrs : Array Attribute := #[]) (ms : Array MethodInfo := #[]) (fl : Nat := 33) (sup : Nat := 0) (ifs : Array Nat := #[]) (fds : Array FieldInfo := #[]) : ClassFile where
  minorVersion := 0
  majorVersion := 65
  constantPool := pool
  accessFlags := fl
  thisClass := this
  superClass := sup
  interfaces := ifs
  fields := fds
  methods := ms
  attributes := attrs
def plain (name : String) (sup : Option ClassId) : Class where
  name := name
  kind := .ordinary
  loader := none
  accessFlags := 33
  super := sup
  interfaces := #[]
  cf := none
  fields := #[]
  methods := #[]
  instanceTypes := #[]
  staticTypes := #[]
  resolved := #[]
  callSites := []
  init := .initialized
  statics := none
  mirror := none

def pool0 : Array CpInfo := pool [(5, u "<init>"), (0, u "()V"), (1, .class_ 10), (1, u "java/lang/Object")] 113

def k0m0 : Method := { name := "<init>", desc := "()V", sig := { parameters := [], returnType := none }, accessFlags := 1, code := none }
/-- java/lang/Object -/
def k0 : Class := { plain "java/lang/Object" none with
  accessFlags := 33
  interfaces := #[]
  cf := some (fileOf pool0 8 #[] #[{ accessFlags := 1, nameIndex := 5, descriptorIndex := 6, attributes := #[] }] 33 0 #[] #[])
  fields := #[]
  methods := #[k0m0]
  instanceTypes := #[]
  staticTypes := #[]
  resolved := Array.replicate 124 none
  statics := none }

def pool1 : Array CpInfo := pool [(2, .class_ 4), (1, u "java/lang/Object"), (0, u "<init>"), (0, u "()V"), (0, .integer 2147483647), (0, .methodref 9 10), (0, .class_ 11), (0, .nameAndType 12 13), (0, u "com/example/fixwire/fixwire/BigEndian"), (0, u "unsigned"), (0, u "([BII)J"), (0, .class_ 15), (0, u "com/example/fixwire/fixwire/BigEndianUnsignedPinLaw"), (2, u "law"), (0, u "(JII)Z")] 5

def k1m0 : Method := { name := "<init>", desc := "()V", sig := { parameters := [], returnType := none }, accessFlags := 2, code := none }
def k1c1 : Code := { maxStack := 5, maxLocals := 14, code := code, exceptionTable := #[], attributes := #[] }
def k1m1 : Method := { name := "law", desc := "(JII)Z", sig := { parameters := [.long, .int, .int], returnType := some .boolean }, accessFlags := 9, code := some k1c1 }
/-- com/example/fixwire/fixwire/BigEndianUnsignedPinLaw -/
def k1 : Class := { plain "com/example/fixwire/fixwire/BigEndianUnsignedPinLaw" (some 0) with
  accessFlags := 49
  interfaces := #[]
  cf := some (fileOf pool1 14 #[] #[{ accessFlags := 2, nameIndex := 5, descriptorIndex := 6, attributes := #[] }, { accessFlags := 9, nameIndex := 18, descriptorIndex := 19, attributes := #[] }] 49 2 #[] #[])
  fields := #[]
  methods := #[k1m0, k1m1]
  instanceTypes := #[]
  staticTypes := #[]
  resolved := Array.replicate 25 none
  statics := none }

def pool2 : Array CpInfo := pool [(2, .class_ 4), (1, u "java/lang/Object"), (0, u "<init>"), (0, u "()V"), (1, .class_ 10), (1, u "com/example/fixwire/fixwire/BigEndian"), (0, u "unsigned"), (0, u "([BII)J")] 7

def k2m0 : Method := { name := "<init>", desc := "()V", sig := { parameters := [], returnType := none }, accessFlags := 2, code := none }
def k2c1 : Code := { maxStack := 4, maxLocals := 6, code := prog_2_method_3_code, exceptionTable := #[], attributes := #[] }
def k2m1 : Method := { name := "unsigned", desc := "([BII)J", sig := { parameters := [(.array .byte), .int, .int], returnType := some .long }, accessFlags := 8, code := some k2c1 }
/-- com/example/fixwire/fixwire/BigEndian -/
def k2 : Class := { plain "com/example/fixwire/fixwire/BigEndian" (some 0) with
  accessFlags := 48
  interfaces := #[]
  cf := some (fileOf pool2 8 #[] #[{ accessFlags := 2, nameIndex := 5, descriptorIndex := 6, attributes := #[] }, { accessFlags := 8, nameIndex := 11, descriptorIndex := 12, attributes := #[] }] 48 2 #[] #[])
  fields := #[]
  methods := #[k2m0, k2m1]
  instanceTypes := #[]
  staticTypes := #[]
  resolved := Array.replicate 20 none
  statics := none }

def pool3 : Array CpInfo := pool [(1, u "java/lang/Cloneable"), (0, .class_ 1), (0, u "java/lang/Object"), (0, .class_ 3)] 3

/-- java/lang/Cloneable -/
def k3 : Class := { plain "java/lang/Cloneable" (some 0) with
  accessFlags := 1537
  interfaces := #[]
  cf := some (fileOf pool3 2 #[] #[] 1537 4 #[] #[])
  fields := #[]
  methods := #[]
  instanceTypes := #[]
  staticTypes := #[]
  resolved := Array.replicate 8 none
  statics := none }

def pool4 : Array CpInfo := pool [(1, u "java/io/Serializable"), (0, .class_ 1), (0, u "java/lang/Object"), (0, .class_ 3)] 3

/-- java/io/Serializable -/
def k4 : Class := { plain "java/io/Serializable" (some 0) with
  accessFlags := 1537
  interfaces := #[]
  cf := some (fileOf pool4 2 #[] #[] 1537 4 #[] #[])
  fields := #[]
  methods := #[]
  instanceTypes := #[]
  staticTypes := #[]
  resolved := Array.replicate 8 none
  statics := none }

/-- the primitive byte -/
def k5 : Class := { plain "byte" none with kind := .primitive 'B', accessFlags := 0x411 }
/-- [B -/
def k6 : Class := { plain "[B" (some 0) with kind := .array 5 .byte, interfaces := #[3, 4], accessFlags := 1041 }

/-- the primitive int -/
def k7 : Class := { plain "int" none with kind := .primitive 'I', accessFlags := 0x411 }
/-- [I -/
def k8 : Class := { plain "[I" (some 0) with kind := .array 7 .int, interfaces := #[3, 4], accessFlags := 1041 }

def heap : Heap := #[]
def classes : Array Class := #[k0, k1, k2, k3, k4, k5, k6, k7, k8]
def interned : List (Array UInt16 × Addr) := []
def slotsUsed : Nat := 0
def theMethod : MethodId := ⟨1, 1⟩
def args0 : Array Value := #[.long 65, .int 3, .int 3]
def aboutOver (below : List Frame) : State where
  vm := { classes := classes, interned := interned.toArray }
  heap := heap
  slotsUsed := slotsUsed
  threads := #[{ frames := .invoking theMethod args0 :: below }]
def below0 : List Frame := [.native { method := ⟨0, 0⟩, args := #[] }]
def about1 : State := aboutOver below0
def p0 : Program := .bare "" "" ""
def e0 : Env := launch0.env 0 0 0
theorem w_frames : about1.frames = Frame.invoking theMethod args0 :: below0 := rfl
set_option maxRecDepth 65536 in
theorem w_args : argsFit about1.vm theMethod args0 = true := by decide +kernel
set_option maxRecDepth 65536 in
theorem w_heap : heapFits about1 = true := by decide +kernel
set_option maxRecDepth 65536 in
theorem w_runnable : about1.curStatus? = some .runnable := by decide +kernel
set_option maxRecDepth 65536 in
theorem w_alone : about1.alone = true := by decide +kernel
set_option maxRecDepth 65536 in
theorem w_named : about1.methodNamed? x = some theMethod := by decide +kernel
set_option maxRecDepth 65536 in
theorem w_hears : about1.hears theMethod below0 = true := by decide +kernel
set_option maxRecDepth 65536 in
theorem w_ripe : about1.ripe theMethod args0 below0 = true := by decide +kernel
theorem w_running : about1.status = .running := rfl
set_option maxRecDepth 65536 in
theorem w_room : about1.hasRoom e0.platform room_1 = true :=
  launch0.hasRoom_least _ room_1 (by decide +kernel) (by decide +kernel) (by decide +kernel) (by decide +kernel) (by decide +kernel) (by decide +kernel)
theorem allAtoms_all (ts : List Jvm.Cond) (a : Array Jvm.Value) (st : Jvm.State) : (allAtoms ts).before a st = ts.all (fun c => c.before a st) := by
  induction ts with
  | nil => rfl
  | cons c t ih =>
    show (Jvm.Cond.and c (allAtoms t)).before a st = _
    rw [Jvm.Cond.before_and, ih, List.all_cons]
def words1 : List Jvm.Cond := Jvm.Cond.code x code maxLocals ret :: tables_1
/-- a 'code' word, met by the world's own term for the bytes: nothing is compared byte by byte -/
theorem code_word {y : MethodName} {bytes : ByteArray} {mx : Nat} {rt : Option FieldType} {a : Array Value} {s : State} {m : MethodId} {meth : Method} {c : Code} (h1 : s.methodNamed? y = some m) (h2 : s.vm.method? m = some meth) (h3 : meth.code = some c) (h4 : c.code = bytes)
    (h5 : (c.maxLocals == mx && c.exceptionTable.isEmpty && decide (c.maxStack ≤ mostOperands) && decide (meth.sig.returnType = rt) && !meth.locks && decide (parseMethodDescriptor y.desc = some meth.sig)) = true) : (Jvm.Cond.code y bytes mx rt).before a s = true := by
  simp only [Bool.and_eq_true, beq_iff_eq, Bool.not_eq_true', decide_eq_true_eq] at h5
  obtain ⟨⟨⟨⟨⟨g1, g2⟩, g3⟩, g4⟩, g5⟩, g6⟩ := h5
  simp [Cond.before, Cond.holds, Cond.value, h1, h2, h3, h4, g1, g2, g3, g4, g5, g6]
def isCode : Jvm.Cond → Bool
  | .code _ _ _ _ => true
  | _ => false
theorem all_split {L : List Jvm.Cond} {P : Jvm.Cond → Bool} (h1 : L.all (fun c => isCode c || P c) = true) (h2 : ∀ c ∈ L.filter isCode, P c = true) : L.all P = true := by
  refine List.all_eq_true.mpr fun c hc => ?_
  have h := List.all_eq_true.mp h1 c hc
  rcases Bool.eq_false_or_eq_true (isCode c) with hi | hi
  · exact h2 c (List.mem_filter.mpr ⟨hc, hi⟩)
  · simpa [hi] using h
set_option maxRecDepth 65536 in
theorem w_c0 : (Jvm.Cond.code x code maxLocals ret).before args0 about1 = true := code_word (m := ⟨1, 1⟩) (meth := k1m1) (c := k1c1) (by decide +kernel) rfl rfl rfl (by decide +kernel)
set_option maxRecDepth 65536 in
theorem w_c1 : (Jvm.Cond.code ({ cls := "com/example/fixwire/fixwire/BigEndian", name := "unsigned", desc := "([BII)J" } : Jvm.MethodName) prog_2_method_3_code (6 : Nat) (Option.some Jvm.ClassFile.FieldType.long)).before args0 about1 = true := code_word (m := ⟨2, 1⟩) (meth := k2m1) (c := k2c1) (by decide +kernel) rfl rfl rfl (by decide +kernel)
def codes1 : List Jvm.Cond := [Jvm.Cond.code x code maxLocals ret, Jvm.Cond.code ({ cls := "com/example/fixwire/fixwire/BigEndian", name := "unsigned", desc := "([BII)J" } : Jvm.MethodName) prog_2_method_3_code (6 : Nat) (Option.some Jvm.ClassFile.FieldType.long)]
set_option maxRecDepth 65536 in
theorem codes_eq : words1.filter isCode = codes1 := rfl
theorem w_codes : ∀ c ∈ words1.filter isCode, c.before args0 about1 = true := by
  rw [codes_eq]
  intro c hc
  simp only [codes1, List.mem_cons, List.not_mem_nil, or_false] at hc
  rcases hc with rfl | rfl
  · exact w_c0
  · exact w_c1
set_option maxRecDepth 65536 in
theorem w_t1 : words1.all (fun c => isCode c || c.before args0 about1) = true := by decide +kernel
theorem w_tables : (allAtoms (Jvm.Cond.code x code maxLocals ret :: tables_1)).before args0 about1 = true := by
  rw [allAtoms_all]
  show words1.all (fun c => c.before args0 about1) = true
  refine all_split ?_ w_codes
  rw [w_t1]
set_option maxRecDepth 65536 in
theorem w_case : (Jvm.Cond.and given_1 narrow_1).before args0 about1 = true := by decide +kernel
theorem w_applies : (headSpec (Jvm.Cond.code x code maxLocals ret :: tables_1) room_1).applies x e0.platform about1 = true :=
  (Spec.applies_iff w_frames).mpr ⟨w_running, w_runnable, w_alone, w_named, w_hears, w_ripe, w_room, w_tables⟩
theorem atStart : AtStart classFile x code maxLocals ret World_1 tables_1 room_1 Calls_1 rest_1 Pre_1 launch0 p0 e0 about1 theMethod args0 below0 :=
  ⟨lists_1, trivial, launch0.admits_env _ _ _, launch0.least_env, fairChoices_fair.cas, fairChoices_fair.clock, w_frames, w_args, w_heap, w_applies, trivial, trivial, w_case⟩
end start1
theorem witness_1 : WitnessClaimed_1 := ⟨start1.p0, start1.e0, start1.about1, start1.theMethod, start1.args0, start1.below0, start1.atStart⟩
end Jvm.Pilot.@@N@@
