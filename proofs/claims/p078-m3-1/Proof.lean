import JvmDerived
import JvmDerived.Pilot.@@N@@Statement
import JvmDerived.Pilot.@@N@@Code
set_option linter.unusedVariables false
set_option linter.unusedSimpArgs false
@@BLOCK:LamKit.lean.txt@@
namespace Jvm.Pilot.@@N@@
open Jvm Jvm.ClassFile Sem Op Lib Jvm.Free Jvm.Stand Jvm.LawKit Jvm.RoadKit Bundle Jvm.Pilot.@@N@@.Jvm.D
/-! own layer: a run that ends well, said backwards -/
section OwnGo
variable {p : Program} {l : Launch} {e : Env} {R : Room} {s : State} {m : MethodId} {args : Array Value} {below : List Frame} {meth : Method} {c : Code} {T T' : State} {locs : List Loc} {cells slots : Nat} {Z : State} {a0 : Array Value} {h : Heap} {Q : Option Value → Heap → List Loc → Prop} {C S maxL0 : Nat} {g g' : JFrame}
def Go (p : Program) (e : Env) (below : List Frame) (s : State) (Q : Option Value → Heap → List Loc → Prop) (C S : Nat) (T : State) (g : JFrame) : Prop :=
  ∃ s₂ o, Steps p.tables e below (T.setTop g) s₂ ∧ s₂.status = .running ∧ Ended s₂ below o ∧ ∃ v L, o = .returned v ∧ Q v s₂.heap L ∧ FrameEnd s o s₂ L C S
abbrev Gg {p : Program} {e : Env} {below : List Frame} {s : State} {Q : Option Value → Heap → List Loc → Prop} {C S : Nat} {Ls : Array Slot} (T : State) (m : MethodId) (pc : Nat) (st : List Value) : Prop := Go p e below s Q C S T (mkF m pc Ls st)
theorem wd {a0 : Array Value} {Z : State} {ts : List Cond} (hw : ∀ d ∈ ts, d.before a0 Z = true) (i : Nat) {d : Cond} (h : ts[i]? = some d) : d.before a0 Z = true := hw _ (List.mem_of_getElem? h)
def Ct (p : Program) (s : State) (m : MethodId) (meth : Method) (c : Code) (Z : State) (own nm : String) (bytes : ByteArray) (maxL : Nat) (ret : Option FieldType) : Prop :=
  p.tables.exec = Jvm.exec ∧ Z.Warmed39 s.vm ∧ s.vm.findClass own = some m.cls ∧ c.code = bytes ∧ c.maxLocals = maxL ∧ meth.sig.returnType = ret ∧ meth.locks = false ∧ meth.name = nm
theorem go_st (k : ∀ t, Steps p.tables e below (T'.setTop g') t → Steps p.tables e below (T.setTop g) t) (q : Go p e below s Q C S T' g') : Go p e below s Q C S T g := by
  obtain ⟨s2, o, q1, q2⟩ := q
  exact ⟨s2, o, k _ q1, q2⟩
theorem castGo (q : g = g') (k : Go p e below s Q C S T g') : Go p e below s Q C S T g := by rw [q]; exact k
theorem go_tr (k : Steps p.tables e below (T.setTop g) (T'.setTop g')) (q : Go p e below s Q C S T' g') : Go p e below s Q C S T g := by
  obtain ⟨s2, o, q1, q2⟩ := q
  exact ⟨s2, o, k.trans q1, q2⟩
theorem go_end (X : Stand p l e R s m args below meth c T locs cells slots) (hlk : meth.locks = false) {v : Option Value} (hv : meth.sig.returnType = none → v = none)
    (hr : ∀ fs, (∀ (f : JFrame) (acts : List Action), f.method = m → f.locked = none → f.entered = [] → (doReturn e (T.setTop f) acts v).1 = T.setFrames fs) → Steps p.tables e below (T.setTop g) (T.setFrames fs))
    (hC : cells ≤ C) (hS : slots ≤ S) (hQ : Q v T.heap locs) : Go p e below s Q C S T g := by
  obtain ⟨fs, h1, hrun, hended, hW, hsame⟩ := X.leave (v := v) hv hlk
  exact ⟨_, _, hr fs h1, hrun, hended, _, _, rfl, hQ, ⟨_, rfl⟩, hW, hsame.mono hC hS⟩
theorem go_retI (X : Stand p l e R s m args below meth c T locs cells slots) (hx : p.tables.exec = Jvm.exec) (hlk : meth.locks = false) (hret : meth.sig.returnType = some .int) {pc : Nat} {Ls : Array Slot} {z : Int32} {rest : List Value} (hd : decode c.code pc = .ok (.ireturn, 1))
    (hC : cells ≤ C) (hS : slots ≤ S) (hQ : Q (some (.int z)) T.heap locs) : Go p e below s Q C S T (mkF m pc Ls (.int z :: rest)) :=
  go_end X hlk (fun h => by rw [hret] at h; cases h) (fun fs h1 => retOut X hx hret rfl (Or.inl ⟨rfl, Or.inl rfl, _, rfl⟩) hd h1) hC hS hQ
theorem go_retL (X : Stand p l e R s m args below meth c T locs cells slots) (hx : p.tables.exec = Jvm.exec) (hlk : meth.locks = false) (hret : meth.sig.returnType = some .long) {pc : Nat} {Ls : Array Slot} {z : Int64} {rest : List Value} (hd : decode c.code pc = .ok (.lreturn, 1))
    (hC : cells ≤ C) (hS : slots ≤ S) (hQ : Q (some (.long z)) T.heap locs) : Go p e below s Q C S T (mkF m pc Ls (.long z :: rest)) :=
  go_end X hlk (fun h => by rw [hret] at h; cases h) (fun fs h1 => retOut X hx hret rfl (Or.inr (Or.inl ⟨rfl, rfl, _, rfl⟩)) hd h1) hC hS hQ
theorem go_retD (X : Stand p l e R s m args below meth c T locs cells slots) (hx : p.tables.exec = Jvm.exec) (hlk : meth.locks = false) (hret : meth.sig.returnType = some .double) {pc : Nat} {Ls : Array Slot} {z : UInt64} {rest : List Value} (hd : decode c.code pc = .ok (.dreturn, 1))
    (hC : cells ≤ C) (hS : slots ≤ S) (hQ : Q (some (.double z)) T.heap locs) : Go p e below s Q C S T (mkF m pc Ls (.double z :: rest)) :=
  go_end X hlk (fun h => by rw [hret] at h; cases h) (fun fs h1 => retOut X hx hret rfl (Or.inr (Or.inr (Or.inl ⟨rfl, rfl, _, rfl⟩))) hd h1) hC hS hQ
theorem go_retA (X : Stand p l e R s m args below meth c T locs cells slots) (hx : p.tables.exec = Jvm.exec) (hlk : meth.locks = false) {t : FieldType} (hret : meth.sig.returnType = some t) (ht : t.isReference = true) {w : Value} (hw : w.isRef = true) {pc : Nat} {Ls : Array Slot} {rest : List Value} (hd : decode c.code pc = .ok (.areturn, 1))
    (hC : cells ≤ C) (hS : slots ≤ S) (hQ : Q (some w) T.heap locs) : Go p e below s Q C S T (mkF m pc Ls (w :: rest)) :=
  go_end X hlk (fun h => by rw [hret] at h; cases h) (fun fs h1 => retOut X hx hret (by cases t <;> simp_all [FieldType.isReference, narrow] <;> cases w <;> simp_all [Value.isRef, narrow]) (Or.inr (Or.inr (Or.inr (Or.inr ⟨rfl, ht, hw⟩)))) hd h1) hC hS hQ
theorem go_retB (X : Stand p l e R s m args below meth c T locs cells slots) (hx : p.tables.exec = Jvm.exec) (hlk : meth.locks = false) (hret : meth.sig.returnType = some .boolean) {pc : Nat} {Ls : Array Slot} {z w : Int32} {rest : List Value} (hd : decode c.code pc = .ok (.ireturn, 1)) (hw : z &&& 1 = w)
    (hC : cells ≤ C) (hS : slots ≤ S) (hQ : Q (some (.int w)) T.heap locs) : Go p e below s Q C S T (mkF m pc Ls (.int z :: rest)) := by
  subst hw
  exact go_end X hlk (fun h => by rw [hret] at h; cases h) (fun fs h1 => retN X hx (t := .boolean) hret (by simp) hd h1) hC hS hQ
theorem go_ret0 (X : Stand p l e R s m args below meth c T locs cells slots) (hx : p.tables.exec = Jvm.exec) (hlk : meth.locks = false) (hret : meth.sig.returnType = none) {pc : Nat} {Ls : Array Slot} (hd : decode c.code pc = .ok (.return_, 1))
    (hC : cells ≤ C) (hS : slots ≤ S) (hQ : Q none T.heap locs) : Go p e below s Q C S T (mkF m pc Ls []) :=
  go_end X hlk (fun _ => rfl) (fun fs h1 => X.returnOut hx hret hd h1) hC hS hQ
def Met (l : Launch) (y : MethodName) (bytes : ByteArray) (maxL : Nat) (ret : Option FieldType) (ws : List Cond) (rm : Room) (Z : State) (as' : Array Value) (h0 : Heap) (Q : Option Value → Heap → List Loc → Prop) (C S : Nat) : Prop :=
  MetFree l y (head1 (Jvm.Cond.code y bytes maxL ret :: ws) rm) (fun a U => a = as' ∧ Z.Warmed39 U.vm ∧ U.heap = h0) (fun _ _ _ _ _ => True) (fun _ U o U' => ∃ v L, o = .returned v ∧ Q v U'.heap L ∧ FrameEnd U o U' L C S)
def QV (w : Option Value) (h0 : Heap) (n0 : Nat) (v : Option Value) (h : Heap) (L : List Loc) : Prop := v = w ∧ Fr n0 L ∧ h = h0
def QF (w : Option Value) (n0 : Nat) (v : Option Value) (h : Heap) (L : List Loc) : Prop := v = w ∧ Fr n0 L
theorem own_body {y : MethodName} {bytes : ByteArray} {maxL : Nat} {ret : Option FieldType} {rm : Room} {as' : Array Value} {h0 : Heap} {ws : List Cond} (hn : plainFor y = true) {C S : Nat}
    (H : ∀ p e s m below meth c s₁, Ct p s m meth c Z y.cls y.name bytes maxL ret → Stand p l e rm s m as' below meth c s₁ [] 0 0 → s₁.heap = h0 → Go p e below s Q C S s₁ (entryFrame m as' maxL)) :
    Met l y bytes maxL ret ws rm Z as' h0 Q C S := by
  refine MetFree.of_bodySF hn hisR ?_
  intro p e s m args below meth c s₁ Bd hml0 hP hK
  obtain ⟨rfl, hZ, hh⟩ := hP
  have hown : s.vm.findClass y.cls = some m.cls := findClass_of_methodNamed Bd.named
  have hnm := (name_of_methodNamed Bd.named Bd.method).1
  have X0 : Stand p l e rm s m args below meth c s₁ [] 0 0 := Stand.of_body Bd
  have e0 : s₁.heap = h0 := by rw [← hh, Bd.state]; rfl
  exact H p e s m below meth c s₁ ⟨Bd.exec, hZ, hown, Bd.bytes, hml0, Bd.returns, Bd.notSynchronized, hnm⟩ X0 e0
theorem go_callS (X : Stand p l e R s m args below meth c T locs cells slots) (hx : p.tables.exec = Jvm.exec) (hZ : Z.Warmed39 s.vm) (hml : c.maxLocals = maxL0) {own : String} {index : Nat} {y : MethodName} {bytes : ByteArray} {maxL : Nat} {ret : Option FieldType} (hown : s.vm.findClass own = some m.cls)
    (w1 : (Cond.methodLink own index y).before a0 Z = true) (w2 : (Cond.static y).before a0 Z = true) (w3 : (Cond.initialized y.cls).before a0 Z = true) (w4 : (Cond.code y bytes maxL ret).before a0 Z = true) (eT : T.heap = h) {argsL rest : List Value} {rm : Room} {Q' : Option Value → Heap → List Loc → Prop} {W : Nat}
    (hM : Met l y bytes maxL ret [] rm Z argsL.toArray h Q' rm.cells rm.slots)
    (hd : decode c.code g.pc = .ok (.invokestatic index, 3)) (hs : g.stack = argsL.reverse ++ rest) (hg : g.method = m) (hsz : g.locals.size = maxL0) (hlen : ∀ sig, parseMethodDescriptor y.desc = some sig → argsL.length = sig.parameters.length) (hW : 2 * g.monitorRoom + (rest.map fun v => v.category).sum ≤ W)
    (hy : y.cls ≠ "java/lang/invoke/MethodHandle" ∧ y.cls ≠ "java/lang/invoke/VarHandle") (hf : rm.frames + 1 ≤ R.frames) (hl : W + (maxL + 11) + rm.locals ≤ R.locals) (hc : cells + rm.cells ≤ R.cells) (hsl : slots + rm.slots ≤ R.slots)
    (k : ∀ T' v L, Stand p l e R s m args below meth c T' (locs ++ L) (cells + rm.cells) (slots + rm.slots) → Q' v T'.heap L → Go p e below s Q C S T' { g with pc := g.pc + 3, stack := v.toList ++ rest }) : Go p e below s Q C S T g := by
  obtain ⟨v, _, ⟨T1, L1, k1, n1⟩, -, X1, ⟨Lc, hQ, l1, y1, z1⟩, st⟩ := Jvm.LawKit.callS X hx (y := y) hown (mvT hZ w1) (mvT hZ w2) (mvT hZ w3) (mvT hZ w4) hy (backOf (W := W) hM hZ w4 w3 hf hl) (g := g) hg (hsz.trans hml.symm) (argsL := argsL) (rest := rest) hlen hs hW hd (fun _ _ => ⟨rfl, eT, hc, hsl⟩)
  dsimp only [Pt.U, Pt.locs, Pt.cells, Pt.slots] at X1 l1 y1 z1 st hQ
  subst l1 y1 z1
  exact go_st st (k _ _ _ X1 hQ)
theorem go_callV (X : Stand p l e R s m args below meth c T locs cells slots) (hx : p.tables.exec = Jvm.exec) (hZ : Z.Warmed39 s.vm) (hml : c.maxLocals = maxL0) {own K : String} {index : Nat} {y z : MethodName} {bytes : ByteArray} {maxL : Nat} {ret : Option FieldType} (hown : s.vm.findClass own = some m.cls)
    (w1 : (Cond.methodLink own index y).before a0 Z = true) (w2 : (Cond.declares y).before a0 Z = true) (w2' : NotFace s y) (w3 : (Cond.selects K y z).before a0 Z = true) (w3' : (Cond.instanceMethod z).before a0 Z = true) (w4 : (Cond.code z bytes maxL ret).before a0 Z = true) (w5 : (Cond.initialized z.cls).before a0 Z = true) (eT : T.heap = h) {a : Addr} (E : Exa Z h a K) {argsL rest : List Value} {rm : Room} {Q' : Option Value → Heap → List Loc → Prop} {W : Nat}
    (hM : Met l z bytes maxL ret [] rm Z (.ref a :: argsL).toArray h Q' rm.cells rm.slots)
    (hd : decode c.code g.pc = .ok (.invokevirtual index, 3)) (hs : g.stack = argsL.reverse ++ .ref a :: rest) (hg : g.method = m) (hsz : g.locals.size = maxL0) (hlen : ∀ sig, parseMethodDescriptor y.desc = some sig → argsL.length = sig.parameters.length) (hW : 2 * g.monitorRoom + (rest.map fun v => v.category).sum ≤ W)
    (hy : y.cls ≠ "java/lang/invoke/MethodHandle" ∧ y.cls ≠ "java/lang/invoke/VarHandle") (hf : rm.frames + 1 ≤ R.frames) (hl : W + (maxL + 11) + rm.locals ≤ R.locals) (hc : cells + rm.cells ≤ R.cells) (hsl : slots + rm.slots ≤ R.slots)
    (k : ∀ T' v L, Stand p l e R s m args below meth c T' (locs ++ L) (cells + rm.cells) (slots + rm.slots) → Q' v T'.heap L → Go p e below s Q C S T' { g with pc := g.pc + 3, stack := v.toList ++ rest }) : Go p e below s Q C S T g := by
  obtain ⟨cB, kB, q1, q2, q3⟩ := isOf hZ eT E
  obtain ⟨v, _, ⟨T1, L1, k1, n1⟩, -, X1, ⟨Lc, hQ, l1, y1, z1⟩, st⟩ := X.virtualBack hx (y := y) (z := z) hown (mvT hZ w1) (mvT hZ w2) w2' (mvT hZ w3) (mvT hZ w3') hy (backOf (W := W) hM hZ w4 w5 hf hl) q1 q3 (g := g) hg (hsz.trans hml.symm) (Steps.refl _) (argsL := argsL) (rest := rest) hlen hs hW hd (fun _ _ => ⟨rfl, eT, hc, hsl⟩)
  dsimp only [Pt.U, Pt.locs, Pt.cells, Pt.slots] at X1 l1 y1 z1 st hQ
  subst l1 y1 z1
  exact go_tr st (k _ _ _ X1 hQ)
theorem go_callU (X : Stand p l e R s m args below meth c T locs cells slots) (hx : p.tables.exec = Jvm.exec) (hZ : Z.Warmed39 s.vm) (hml : c.maxLocals = maxL0) {own K owner : String} {index : Nat} {y z : MethodName} {bytes : ByteArray} {maxL : Nat} {ret : Option FieldType} (hown : s.vm.findClass own = some m.cls)
    (w1 : (Cond.methodLink own index y).before a0 Z = true) (w2 : (Cond.sameMethod y.cls owner y.name y.desc).before a0 Z = true) (w2' : (Cond.declares ⟨owner, y.name, y.desc⟩).before a0 Z = true) (ho : owner ≠ "java/lang/invoke/MethodHandle" ∧ owner ≠ "java/lang/invoke/VarHandle") (w3 : (Cond.selects K y z).before a0 Z = true) (w3' : (Cond.instanceMethod z).before a0 Z = true) (w4 : (Cond.code z bytes maxL ret).before a0 Z = true) (w5 : (Cond.initialized z.cls).before a0 Z = true) (eT : T.heap = h) {a : Addr} (E : Exa Z h a K) {argsL rest : List Value} {rm : Room} {Q' : Option Value → Heap → List Loc → Prop} {W : Nat}
    (hM : Met l z bytes maxL ret [] rm Z (.ref a :: argsL).toArray h Q' rm.cells rm.slots)
    (hd : decode c.code g.pc = .ok (.invokevirtual index, 3)) (hs : g.stack = argsL.reverse ++ .ref a :: rest) (hg : g.method = m) (hsz : g.locals.size = maxL0) (hlen : ∀ sig, parseMethodDescriptor y.desc = some sig → argsL.length = sig.parameters.length) (hW : 2 * g.monitorRoom + (rest.map fun v => v.category).sum ≤ W)
    (hf : rm.frames + 1 ≤ R.frames) (hl : W + (maxL + 11) + rm.locals ≤ R.locals) (hc : cells + rm.cells ≤ R.cells) (hsl : slots + rm.slots ≤ R.slots)
    (k : ∀ T' v L, Stand p l e R s m args below meth c T' (locs ++ L) (cells + rm.cells) (slots + rm.slots) → Q' v T'.heap L → Go p e below s Q C S T' { g with pc := g.pc + 3, stack := v.toList ++ rest }) : Go p e below s Q C S T g := by
  obtain ⟨cB, kB, q1, q2, q3⟩ := isOf hZ eT E
  obtain ⟨v, _, ⟨T1, L1, k1, n1⟩, -, X1, ⟨Lc, hQ, l1, y1, z1⟩, st⟩ := X.virtualBackUp hx (x := y) (y := z) hown (mvT hZ w1) (mvT hZ w2) (mvT hZ w2') ho (mvT hZ w3) (mvT hZ w3') (backOf (W := W) hM hZ w4 w5 hf hl) q1 q3 (g := g) hg (hsz.trans hml.symm) (Steps.refl _) (argsL := argsL) (rest := rest) hlen hs hW hd (fun _ _ => ⟨rfl, eT, hc, hsl⟩)
  dsimp only [Pt.U, Pt.locs, Pt.cells, Pt.slots] at X1 l1 y1 z1 st hQ
  subst l1 y1 z1
  exact go_tr st (k _ _ _ X1 hQ)
theorem go_callI (X : Stand p l e R s m args below meth c T locs cells slots) (hx : p.tables.exec = Jvm.exec) (hZ : Z.Warmed39 s.vm) (hml : c.maxLocals = maxL0) {own : String} {index : Nat} {y : MethodName} {bytes : ByteArray} {maxL : Nat} (hown : s.vm.findClass own = some m.cls) (hy1 : y.name = "<init>")
    (w1 : (Cond.methodLink own index y).before a0 Z = true) (w2 : (Cond.instanceMethod y).before a0 Z = true) (w4 : (Cond.code y bytes maxL none).before a0 Z = true) (w5 : (Cond.initialized y.cls).before a0 Z = true) (eT : T.heap = h) {a : Addr} {argsL rest : List Value} {rm : Room} {Q' : Option Value → Heap → List Loc → Prop} {W : Nat}
    (hM : Met l y bytes maxL none [] rm Z (.ref a :: argsL).toArray h Q' rm.cells rm.slots)
    (hd : decode c.code g.pc = .ok (.invokespecial index, 3)) (hs : g.stack = argsL.reverse ++ .ref a :: rest) (hg : g.method = m) (hsz : g.locals.size = maxL0) (hlen : ∀ sig, parseMethodDescriptor y.desc = some sig → argsL.length = sig.parameters.length) (hW : 2 * g.monitorRoom + (rest.map fun v => v.category).sum ≤ W)
    (hy : y.cls ≠ "java/lang/invoke/MethodHandle" ∧ y.cls ≠ "java/lang/invoke/VarHandle") (hf : rm.frames + 1 ≤ R.frames) (hl : W + (maxL + 11) + rm.locals ≤ R.locals) (hc : cells + rm.cells ≤ R.cells) (hsl : slots + rm.slots ≤ R.slots)
    (k : ∀ T' v L, Stand p l e R s m args below meth c T' (locs ++ L) (cells + rm.cells) (slots + rm.slots) → Q' v T'.heap L → Go p e below s Q C S T' { g with pc := g.pc + 3, stack := v.toList ++ rest }) : Go p e below s Q C S T g := by
  obtain ⟨v, _, ⟨T1, L1, k1, n1⟩, -, X1, ⟨Lc, hQ, l1, y1, z1⟩, st⟩ := X.specialBack hx (y := y) hy1 hown (mvT hZ w1) (mvT hZ w2) (mvT hZ w4) hy (backOf (W := W) hM hZ w4 w5 hf hl) (g := g) hg (hsz.trans hml.symm) (Steps.refl _) (a := a) (argsL := argsL) (rest := rest) hlen hs hW hd (fun _ _ => ⟨rfl, eT, hc, hsl⟩)
  dsimp only [Pt.U, Pt.locs, Pt.cells, Pt.slots] at X1 l1 y1 z1 st hQ
  subst l1 y1 z1
  exact go_tr st (k _ _ _ X1 hQ)
theorem go_getF (X : Stand p l e R s m args below meth c T locs cells slots) (hx : p.tables.exec = Jvm.exec) (hZ : Z.Warmed39 s.vm) {own R0 O n d host : String} {index : Nat} (hown : s.vm.findClass own = some m.cls) (w : (Cond.fieldLink own index R0 n d).before a0 Z = true ∨ (Cond.fieldLinkNest own index R0 n d host).before a0 Z = true) (via : Via Z R0 O n d)
    (eT : T.heap = h) {a : Addr} {v : Value} (F : Fld Z h a O n d v) {rest : List Value} (hd : decode c.code g.pc = .ok (.getfield index, 3)) (hg : g.method = m) (hs : g.stack = .ref a :: rest)
    (k : ∀ T', Stand p l e R s m args below meth c T' locs cells slots → T'.heap = h → Go p e below s Q C S T' { g with pc := g.pc + 3, stack := v :: rest }) : Go p e below s Q C S T g := by
  obtain ⟨T1, X1, e1, st⟩ := getF X hx hZ hown w via eT F hg hs hd
  exact go_st st (k _ X1 e1)
theorem go_getS (X : Stand p l e R s m args below meth c T locs cells slots) (hx : p.tables.exec = Jvm.exec) (hZ : Z.Warmed39 s.vm) {own R0 O n d host : String} {index : Nat} (hown : s.vm.findClass own = some m.cls) (w : (Cond.fieldLink own index R0 n d).before a0 Z = true ∨ (Cond.fieldLinkNest own index R0 n d host).before a0 Z = true) (via : Via Z R0 O n d)
    (eT : T.heap = h) {v : Value} (F : Sta Z h O n d v) (hd : decode c.code g.pc = .ok (.getstatic index, 3)) (hg : g.method = m)
    (k : ∀ T', Stand p l e R s m args below meth c T' locs cells slots → T'.heap = h → Go p e below s Q C S T' { g with pc := g.pc + 3, stack := v :: g.stack }) : Go p e below s Q C S T g := by
  obtain ⟨T1, X1, e1, st⟩ := getS2 X hx hZ hown w via eT F hg hd
  exact go_st st (k _ X1 e1)
theorem go_putF (X : Stand p l e R s m args below meth c T locs cells slots) (hx : p.tables.exec = Jvm.exec) (hZ : Z.Warmed39 s.vm) {own R0 O n d host K : String} {index kk : Nat} {ty : FieldType} (hown : s.vm.findClass own = some m.cls) (w : (Cond.fieldLink own index R0 n d).before a0 Z = true ∨ (Cond.fieldLinkNest own index R0 n d host).before a0 Z = true) (via : Via Z R0 O n d)
    (eT : T.heap = h) {a : Addr} {v old : Value} (F : Fld Z h a O n d old) (E : Exa Z h a K) (L : (Cond.lays K O n d).before a0 Z = true ∨ ((Cond.laysFinal K O n d).before a0 Z = true ∧ own = O ∧ meth.name = "<init>")) (wi : (Cond.instantiable K kk).before a0 Z = true)
    (hty : parseFieldDescriptor d = some ty) (hn : narrow ty v = v) (hf : fits ty v = true) {rest : List Value} (hd : decode c.code g.pc = .ok (.putfield index, 3)) (hg : g.method = m) (hs : g.stack = v :: .ref a :: rest)
    (k : ∀ T' h', Stand p l e R s m args below meth c T' (locs ++ [⟨a, Jvm.RoadKit.slotOf Z O n d⟩]) cells slots → T'.heap = h' → Wr h h' a (Jvm.RoadKit.slotOf Z O n d) v → Go p e below s Q C S T' { g with pc := g.pc + 3, stack := rest }) : Go p e below s Q C S T g := by
  obtain ⟨T1, h1, X1, e1, W1, st⟩ := putF X hx hZ hown w via eT F E L wi hty hn hf hg hs hd
  exact go_st st (k _ _ X1 e1 W1)
theorem go_newO (X : Stand p l e R s m args below meth c T locs cells slots) (hx : p.tables.exec = Jvm.exec) (hZ : Z.Warmed39 s.vm) {own K : String} {index n : Nat} (hown : s.vm.findClass own = some m.cls) (w : (Cond.classLink own index K).before a0 Z = true) (wi : (Cond.instantiable K n).before a0 Z = true) (wz : (Cond.initialized K).before a0 Z = true) (eT : T.heap = h)
    (hd : decode c.code g.pc = .ok (.new index, 3)) (hg : g.method = m) (hc : cells + 1 ≤ R.cells) (hl : slots + n ≤ R.slots)
    (k : ∀ T' h' a, a = h.size → Stand p l e R s m args below meth c T' locs (cells + 1) (slots + n) → T'.heap = h' → Ext h h' → Exa Z h' a K → (∀ {O nm d : String} {ty : FieldType}, Laid Z a0 K O nm d → parseFieldDescriptor d = some ty → Fld Z h' a O nm d (defaultValue ty)) → Go p e below s Q C S T' { g with pc := g.pc + 3, stack := .ref a :: g.stack }) : Go p e below s Q C S T g := by
  obtain ⟨T1, h1, X1, e1, E1, A1, D1, -, st⟩ := newO X hx hZ hown w wi wz eT hg hd hc hl
  exact go_st st (k _ _ _ rfl X1 e1 E1 A1 D1)
theorem go_initO (X : Stand p l e R s m args below meth c T locs cells slots) (hx : p.tables.exec = Jvm.exec) (hZ : Z.Warmed39 s.vm) (hml : c.maxLocals = maxL0) {own : String} {idx : Nat} (hown : s.vm.findClass own = some m.cls) (w1 : (Cond.methodLink own idx Lib.objectInit).before a0 Z = true) (w2 : (Cond.instanceMethod Lib.objectInit).before a0 Z = true)
    (w3 : (Cond.code Lib.objectInit ⟨#[0xb1]⟩ 1 none).before a0 Z = true) (eT : T.heap = h) {a : Addr} {rest : List Value} (hd : decode c.code g.pc = .ok (.invokespecial idx, 3)) (hg : g.method = m) (hsz : g.locals.size = maxL0) (hs : g.stack = .ref a :: rest)
    (hf : 1 ≤ R.frames) {W : Nat} (hW : 2 * g.monitorRoom + (rest.map fun v => v.category).sum ≤ W) (hl : W + 12 ≤ R.locals)
    (k : ∀ T', Stand p l e R s m args below meth c T' locs cells slots → T'.heap = h → Go p e below s Q C S T' { g with pc := g.pc + 3, stack := rest }) : Go p e below s Q C S T g := by
  obtain ⟨T1, X1, e1, st⟩ := initO X hx hZ hown w1 w2 w3 eT hg (hsz.trans hml.symm) hs hd hf hW hl
  exact go_st st (k _ X1 e1)
theorem own_lrem {tb : Tables} [Ours tb] {target : State} (hh : At T m c below) (hx : tb.exec = Jvm.exec) (hg : g.method = m) {x y : Int64} {rest : List Value} (hd : decode c.code g.pc = .ok (.lrem, 1)) (hs : g.stack = .long y :: .long x :: rest) (hy : y ≠ 0)
    (hr : Steps tb e below (T.setTop { g with pc := g.pc + 1, stack := .long (x % y) :: rest }) target) : Steps tb e below (T.setTop g) target :=
  XT.lrem hh hx hg hd hs hy (by rw [lrem_mod]; exact hr)
/-! arrays, their places by a function -/
def GA (Z : State) (h : Heap) (a : Addr) (ty : FieldType) (n : Nat) (f : Nat → Value) : Prop := ∃ cl : Cell, Arr Z h a cl ty ∧ cl.slots.size = n ∧ n < 2 ^ 31 ∧ ∀ i, i < n → cl.slots[i]? = some (f i)
theorem GA.lt {a : Addr} {ty : FieldType} {n : Nat} {f : Nat → Value} (A : GA Z h a ty n f) : a < h.size := by
  obtain ⟨cl, A1, -⟩ := A
  exact A1.lt
theorem GA.ext {a : Addr} {ty : FieldType} {n : Nat} {f : Nat → Value} {h' : Heap} (A : GA Z h a ty n f) (E : Ext h h') : GA Z h' a ty n f := by
  obtain ⟨cl, A1, r⟩ := A
  exact ⟨cl, A1.ext E, r⟩
theorem GA.other {a b : Addr} {ty : FieldType} {n sl : Nat} {v : Value} {f : Nat → Value} {h' : Heap} (A : GA Z h b ty n f) (W : Wr h h' a sl v) (q : b ≠ a) : GA Z h' b ty n f := by
  obtain ⟨cl, A1, r⟩ := A
  exact ⟨cl, A1.other W q, r⟩
theorem GA.keep {a : Addr} {ty : FieldType} {n : Nat} {f : Nat → Value} {h' : Heap} {ws : List Addr} (A : GA Z h a ty n f) (K : Keep h h' ws) (q : a ∉ ws) : GA Z h' a ty n f := by
  obtain ⟨cl, A1, r⟩ := A
  exact ⟨cl, ⟨K.2.1 _ _ A1.1 q, A1.2⟩, r⟩
theorem GA.congr {a : Addr} {ty : FieldType} {n : Nat} {f f' : Nat → Value} (A : GA Z h a ty n f) (q : ∀ i, i < n → f i = f' i) : GA Z h a ty n f' := by
  obtain ⟨cl, A1, A2, A3, A4⟩ := A
  exact ⟨cl, A1, A2, A3, fun i hi => (A4 i hi).trans (by rw [q i hi])⟩
theorem GA.set {a : Addr} {ty : FieldType} {n j : Nat} {v : Value} {f : Nat → Value} {h' : Heap} (A : GA Z h a ty n f) (W : Wr h h' a j v) : GA Z h' a ty n (fun i => if i = j then v else f i) := by
  obtain ⟨cl, A1, A2, A3, A4⟩ := A
  obtain ⟨c2, w1, w2, w3, w4⟩ := W
  obtain rfl : cl = c2 := Option.some.inj (A1.1.symm.trans w1)
  refine ⟨cl.setSlot j v, A1.same ⟨cl, w1, w2, w3, w4⟩, (sz_set cl j v).trans A2, A3, fun i hi => ?_⟩
  show (cl.slots.setIfInBounds j v)[i]? = _
  rw [Array.getElem?_setIfInBounds]
  by_cases q : i = j
  · subst q
    rw [if_pos rfl, if_pos w3]
    simp only [if_true]
  · rw [if_neg (fun h => q h.symm)]
    simp only [if_neg q]
    exact A4 i hi
theorem GA.len {a : Addr} {ty : FieldType} {n : Nat} {f : Nat → Value} (A : GA Z h a ty n f) : n < 2 ^ 31 := by
  obtain ⟨cl, -, -, A3, -⟩ := A
  exact A3
def OC (Z : State) (h : Heap) (a : Addr) (ty : FieldType) (K : String) : Prop := ∃ cl : Cell, Arr Z h a cl ty ∧ Ovr Z cl.cls K
theorem OC.ext {a : Addr} {ty : FieldType} {K : String} {h' : Heap} (A : OC Z h a ty K) (E : Ext h h') : OC Z h' a ty K := by
  obtain ⟨cl, A1, A2⟩ := A
  exact ⟨cl, A1.ext E, A2⟩
theorem OC.wr {a b : Addr} {ty : FieldType} {K : String} {sl : Nat} {v : Value} {h' : Heap} (A : OC Z h b ty K) (W : Wr h h' a sl v) : OC Z h' b ty K := by
  obtain ⟨cl, A1, A2⟩ := A
  by_cases q : b = a
  · subst q
    exact ⟨_, A1.same W, A2⟩
  · exact ⟨cl, A1.other W q, A2⟩
theorem OC.keep {b : Addr} {ty : FieldType} {K : String} {h' : Heap} {ws : List Addr} (A : OC Z h b ty K) (Kp : Keep h h' ws) : OC Z h' b ty K := by
  obtain ⟨cl, ⟨A1, A3, A4⟩, A2⟩ := A
  obtain ⟨c', q1, q2, q3, q4⟩ := Kp.2.2 _ _ A1
  refine ⟨c', ⟨q1, ?_, by rw [q3]; exact A4⟩, by rw [q2]; exact A2⟩
  unfold State.isArrayOf at A3 ⊢
  rw [q2, q3]
  exact A3
theorem OC.sto {a y : Addr} {ty : FieldType} {K : String} (A : OC Z h a ty K) (I : Ins Z h y K true) : Sto Z h a (.ref y) := by
  obtain ⟨cl, A1, A2⟩ := A
  exact Sto.of A1 A2 I
theorem own_in {j : Int32} {n : Nat} (q : 0 ≤ j.toInt ∧ j.toInt < n) : ¬ (j < 0 ∨ n ≤ j.toNatClampNeg) := by
  have h1 : (j.toNatClampNeg : Int) = j.toInt := by have := q.1; simp only [Int32.toNatClampNeg]; omega
  rw [Int32.lt_iff_toInt_lt]
  have : (0 : Int32).toInt = 0 := rfl
  omega
theorem go_alen (X : Stand p l e R s m args below meth c T locs cells slots) (hx : p.tables.exec = Jvm.exec) (hZ : Z.Warmed39 s.vm) (eT : T.heap = h) {a : Addr} {ty : FieldType} {n : Nat} {f : Nat → Value} (A : GA Z h a ty n f) {rest : List Value}
    (hd : decode c.code g.pc = .ok (.arraylength, 1)) (hg : g.method = m) (hs : g.stack = .ref a :: rest) (w : Int32) (hw : Nat.toInt32 n = w) (k : Go p e below s Q C S T { g with pc := g.pc + 1, stack := .int w :: rest }) : Go p e below s Q C S T g := by
  obtain ⟨cl, A1, rfl, -, -⟩ := A
  subst hw
  exact go_st (fun t => X.arraylength hx (by rw [eT]; exact A1.1) (State.isArrayOf_alike hZ.alike A1.2.1) hg hs hd t) k
theorem go_iald (X : Stand p l e R s m args below meth c T locs cells slots) (hx : p.tables.exec = Jvm.exec) (hZ : Z.Warmed39 s.vm) (eT : T.heap = h) {a : Addr} {n : Nat} {f : Nat → Value} (A : GA Z h a .int n f) {j : Int32} {rest : List Value}
    (hd : decode c.code g.pc = .ok (.iaload, 1)) (hg : g.method = m) (hs : g.stack = .int j :: .ref a :: rest) (q : 0 ≤ j.toInt ∧ j.toInt < n) (w : Value) (hw : f j.toNatClampNeg = w) (k : Go p e below s Q C S T { g with pc := g.pc + 1, stack := w :: rest }) : Go p e below s Q C S T g := by
  obtain ⟨cl, A1, rfl, -, A4⟩ := A
  have q2 := own_in q
  refine go_st (fun t => X.iaload hx (j := j) (v := w) (by rw [eT]; exact A1.1) (State.isArrayOf_alike hZ.alike A1.2.1) A1.2.2 q2 ?_ hg hs hd t) k
  rw [A4 _ (by omega), hw]
theorem go_lald (X : Stand p l e R s m args below meth c T locs cells slots) (hx : p.tables.exec = Jvm.exec) (hZ : Z.Warmed39 s.vm) (eT : T.heap = h) {a : Addr} {n : Nat} {f : Nat → Value} (A : GA Z h a .long n f) {j : Int32} {rest : List Value}
    (hd : decode c.code g.pc = .ok (.laload, 1)) (hg : g.method = m) (hs : g.stack = .int j :: .ref a :: rest) (q : 0 ≤ j.toInt ∧ j.toInt < n) (w : Value) (hw : f j.toNatClampNeg = w) (k : Go p e below s Q C S T { g with pc := g.pc + 1, stack := w :: rest }) : Go p e below s Q C S T g := by
  obtain ⟨cl, A1, rfl, -, A4⟩ := A
  have q2 := own_in q
  refine go_st (fun t => X.laload hx (j := j) (v := w) (by rw [eT]; exact A1.1) (State.isArrayOf_alike hZ.alike A1.2.1) A1.2.2 q2 ?_ hg hs hd t) k
  rw [A4 _ (by omega), hw]
theorem go_bald (X : Stand p l e R s m args below meth c T locs cells slots) (hx : p.tables.exec = Jvm.exec) (hZ : Z.Warmed39 s.vm) (eT : T.heap = h) {a : Addr} {n : Nat} {f : Nat → Value} (A : GA Z h a .byte n f) {j : Int32} {rest : List Value}
    (hd : decode c.code g.pc = .ok (.baload, 1)) (hg : g.method = m) (hs : g.stack = .int j :: .ref a :: rest) (q : 0 ≤ j.toInt ∧ j.toInt < n) (w : Value) (hw : f j.toNatClampNeg = w) (k : Go p e below s Q C S T { g with pc := g.pc + 1, stack := w :: rest }) : Go p e below s Q C S T g := by
  obtain ⟨cl, A1, rfl, -, A4⟩ := A
  have q2 := own_in q
  refine go_st (fun t => X.baloadBytes hx (j := j) (v := w) (by rw [eT]; exact A1.1) (State.isArrayOf_alike hZ.alike A1.2.1) A1.2.2 q2 ?_ hg hs hd t) k
  rw [A4 _ (by omega), hw]
theorem go_cald (X : Stand p l e R s m args below meth c T locs cells slots) (hx : p.tables.exec = Jvm.exec) (hZ : Z.Warmed39 s.vm) (eT : T.heap = h) {a : Addr} {n : Nat} {f : Nat → Value} (A : GA Z h a .char n f) {j : Int32} {rest : List Value}
    (hd : decode c.code g.pc = .ok (.caload, 1)) (hg : g.method = m) (hs : g.stack = .int j :: .ref a :: rest) (q : 0 ≤ j.toInt ∧ j.toInt < n) (w : Value) (hw : f j.toNatClampNeg = w) (k : Go p e below s Q C S T { g with pc := g.pc + 1, stack := w :: rest }) : Go p e below s Q C S T g := by
  obtain ⟨cl, A1, rfl, -, A4⟩ := A
  have q2 := own_in q
  refine go_st (fun t => X.caload hx (j := j) (v := w) (by rw [eT]; exact A1.1) (State.isArrayOf_alike hZ.alike A1.2.1) A1.2.2 q2 ?_ hg hs hd t) k
  rw [A4 _ (by omega), hw]
theorem go_aald (X : Stand p l e R s m args below meth c T locs cells slots) (hx : p.tables.exec = Jvm.exec) (hZ : Z.Warmed39 s.vm) (eT : T.heap = h) {a : Addr} {ty : FieldType} {n : Nat} {f : Nat → Value} (A : GA Z h a ty n f) (hty : ty.isReference = true) {j : Int32} {rest : List Value}
    (hd : decode c.code g.pc = .ok (.aaload, 1)) (hg : g.method = m) (hs : g.stack = .int j :: .ref a :: rest) (q : 0 ≤ j.toInt ∧ j.toInt < n) (w : Value) (hw : f j.toNatClampNeg = w) (k : Go p e below s Q C S T { g with pc := g.pc + 1, stack := w :: rest }) : Go p e below s Q C S T g := by
  obtain ⟨cl, A1, rfl, -, A4⟩ := A
  have q2 := own_in q
  refine go_st (fun t => X.aaload hx (j := j) (v := w) (by rw [eT]; exact A1.1) (State.isArrayOf_alike hZ.alike A1.2.1) hty A1.2.2 q2 ?_ hg hs hd t) k
  rw [A4 _ (by omega), hw]
theorem go_iast (X : Stand p l e R s m args below meth c T locs cells slots) (hx : p.tables.exec = Jvm.exec) (hZ : Z.Warmed39 s.vm) (eT : T.heap = h) {a : Addr} {n : Nat} {f : Nat → Value} (A : GA Z h a .int n f) {j x : Int32} {rest : List Value}
    (hd : decode c.code g.pc = .ok (.iastore, 1)) (hg : g.method = m) (hs : g.stack = .int x :: .int j :: .ref a :: rest) (q : 0 ≤ j.toInt ∧ j.toInt < n)
    (k : ∀ T' h', Stand p l e R s m args below meth c T' (locs ++ [⟨a, j.toNatClampNeg⟩]) cells slots → T'.heap = h' → Wr h h' a j.toNatClampNeg (.int x) → GA Z h' a .int n (fun i => if i = j.toNatClampNeg then .int x else f i) → Go p e below s Q C S T' { g with pc := g.pc + 1, stack := rest }) : Go p e below s Q C S T g := by
  have A' := A
  obtain ⟨cl, A1, rfl, -, A4⟩ := A
  obtain ⟨T1, h1, X1, e1, W1, st⟩ := stI X hx hZ eT A1 (own_in q) hg hs hd
  exact go_st st (k _ _ X1 e1 W1 (A'.set W1))
theorem go_last (X : Stand p l e R s m args below meth c T locs cells slots) (hx : p.tables.exec = Jvm.exec) (hZ : Z.Warmed39 s.vm) (eT : T.heap = h) {a : Addr} {n : Nat} {f : Nat → Value} (A : GA Z h a .long n f) {j : Int32} {x : Int64} {rest : List Value}
    (hd : decode c.code g.pc = .ok (.lastore, 1)) (hg : g.method = m) (hs : g.stack = .long x :: .int j :: .ref a :: rest) (q : 0 ≤ j.toInt ∧ j.toInt < n)
    (k : ∀ T' h', Stand p l e R s m args below meth c T' (locs ++ [⟨a, j.toNatClampNeg⟩]) cells slots → T'.heap = h' → Wr h h' a j.toNatClampNeg (.long x) → GA Z h' a .long n (fun i => if i = j.toNatClampNeg then .long x else f i) → Go p e below s Q C S T' { g with pc := g.pc + 1, stack := rest }) : Go p e below s Q C S T g := by
  have A' := A
  obtain ⟨cl, A1, rfl, -, A4⟩ := A
  obtain ⟨T1, h1, X1, e1, W1, st⟩ := stJ X hx hZ eT A1 (own_in q) hg hs hd
  exact go_st st (k _ _ X1 e1 W1 (A'.set W1))
theorem go_bast (X : Stand p l e R s m args below meth c T locs cells slots) (hx : p.tables.exec = Jvm.exec) (hZ : Z.Warmed39 s.vm) (eT : T.heap = h) {a : Addr} {n : Nat} {f : Nat → Value} (A : GA Z h a .byte n f) {j x : Int32} {rest : List Value}
    (hd : decode c.code g.pc = .ok (.bastore, 1)) (hg : g.method = m) (hs : g.stack = .int x :: .int j :: .ref a :: rest) (q : 0 ≤ j.toInt ∧ j.toInt < n)
    (k : ∀ T' h', Stand p l e R s m args below meth c T' (locs ++ [⟨a, j.toNatClampNeg⟩]) cells slots → T'.heap = h' → Wr h h' a j.toNatClampNeg (.int x.toInt8.toInt32) → GA Z h' a .byte n (fun i => if i = j.toNatClampNeg then .int x.toInt8.toInt32 else f i) → Go p e below s Q C S T' { g with pc := g.pc + 1, stack := rest }) : Go p e below s Q C S T g := by
  have A' := A
  obtain ⟨cl, A1, rfl, -, A4⟩ := A
  obtain ⟨T1, h1, X1, e1, W1, st⟩ := stB X hx hZ eT A1 (own_in q) hg hs hd
  exact go_st st (k _ _ X1 e1 W1 (A'.set W1))
theorem go_cast (X : Stand p l e R s m args below meth c T locs cells slots) (hx : p.tables.exec = Jvm.exec) (hZ : Z.Warmed39 s.vm) (eT : T.heap = h) {a : Addr} {n : Nat} {f : Nat → Value} (A : GA Z h a .char n f) {j x : Int32} {rest : List Value}
    (hd : decode c.code g.pc = .ok (.castore, 1)) (hg : g.method = m) (hs : g.stack = .int x :: .int j :: .ref a :: rest) (q : 0 ≤ j.toInt ∧ j.toInt < n)
    (k : ∀ T' h', Stand p l e R s m args below meth c T' (locs ++ [⟨a, j.toNatClampNeg⟩]) cells slots → T'.heap = h' → Wr h h' a j.toNatClampNeg (.int (nar .char x)) → GA Z h' a .char n (fun i => if i = j.toNatClampNeg then .int (nar .char x) else f i) → Go p e below s Q C S T' { g with pc := g.pc + 1, stack := rest }) : Go p e below s Q C S T g := by
  have A' := A
  obtain ⟨cl, A1, rfl, -, A4⟩ := A
  obtain ⟨T1, h1, X1, e1, W1, st⟩ := stC X hx hZ eT A1 (own_in q) hg hs hd
  exact go_st st (k _ _ X1 e1 W1 (A'.set W1))
theorem go_aast (X : Stand p l e R s m args below meth c T locs cells slots) (hx : p.tables.exec = Jvm.exec) (hZ : Z.Warmed39 s.vm) (eT : T.heap = h) {a : Addr} {ty : FieldType} {n : Nat} {f : Nat → Value} (A : GA Z h a ty n f) (hty : ty.isReference = true) {j : Int32} {v : Value} (F : Sto Z h a v) {rest : List Value}
    (hd : decode c.code g.pc = .ok (.aastore, 1)) (hg : g.method = m) (hs : g.stack = v :: .int j :: .ref a :: rest) (q : 0 ≤ j.toInt ∧ j.toInt < n)
    (k : ∀ T' h', Stand p l e R s m args below meth c T' (locs ++ [⟨a, j.toNatClampNeg⟩]) cells slots → T'.heap = h' → Wr h h' a j.toNatClampNeg v → GA Z h' a ty n (fun i => if i = j.toNatClampNeg then v else f i) → Go p e below s Q C S T' { g with pc := g.pc + 1, stack := rest }) : Go p e below s Q C S T g := by
  have A' := A
  obtain ⟨cl, A1, rfl, -, A4⟩ := A
  obtain ⟨T1, h1, X1, e1, W1, st⟩ := stR X hx hZ eT A1 (own_in q) hty F hg hs hd
  exact go_st st (k _ _ X1 e1 W1 (A'.set W1))
theorem own_clamp {n : Int32} {N : Nat} (q : n.toInt = N) : n.toNatClampNeg = N := by simp only [Int32.toNatClampNeg]; omega
theorem own_nneg {n : Int32} {N : Nat} (q : n.toInt = N) : ¬ n < 0 := by
  rw [Int32.lt_iff_toInt_lt]
  have : (0 : Int32).toInt = 0 := rfl
  omega
theorem go_newP (X : Stand p l e R s m args below meth c T locs cells slots) (hx : p.tables.exec = Jvm.exec) (hZ : Z.Warmed39 s.vm) {aty : ArrayType} (w : (Cond.arrayClass (newarray.typeOf aty)).before a0 Z = true) (eT : T.heap = h) {n : Int32} {rest : List Value} (hd : decode c.code g.pc = .ok (.newarray aty, 2)) (hg : g.method = m) (hs : g.stack = .int n :: rest)
    (N : Nat) (hn : n.toInt = N) (cap : Nat) (hcap : N ≤ cap) (hb : cap * 8 ≤ 536870912) (hc : cells + 1 ≤ R.cells) (hl : slots + cap ≤ R.slots)
    (k : ∀ T' h' a, a = h.size → Stand p l e R s m args below meth c T' locs (cells + 1) (slots + cap) → T'.heap = h' → Ext h h' → GA Z h' a (newarray.typeOf aty) N (fun _ => defaultValue (newarray.typeOf aty)) → Go p e below s Q C S T' { g with pc := g.pc + 2, stack := .ref a :: rest }) : Go p e below s Q C S T g := by
  have hN := own_clamp hn
  have hn0 := own_nneg hn
  obtain ⟨T1, h1, cA, X1, e1, E1, A1, st⟩ := newP X hx hZ w eT hg hd hs hn0 (cap := cap) (by omega) hb hc hl
  refine go_st st (k _ _ _ rfl X1 e1 E1 ⟨_, A1, (sz_new _ _ _).trans hN, ?_, fun i hi => ?_⟩)
  · have := (rng32 n).2
    omega
  · show (Array.replicate n.toNatClampNeg (defaultValue _))[i]? = _
    rw [hN, Array.getElem?_replicate, if_pos hi]
theorem go_newR (X : Stand p l e R s m args below meth c T locs cells slots) (hx : p.tables.exec = Jvm.exec) (hZ : Z.Warmed39 s.vm) {own K : String} {index : Nat} (hown : s.vm.findClass own = some m.cls) (w1 : (Cond.classLink own index K).before a0 Z = true) (w2 : (Cond.arrayOver (.object K)).before a0 Z = true) (eT : T.heap = h) {n : Int32} {rest : List Value} (hd : decode c.code g.pc = .ok (.anewarray index, 3)) (hg : g.method = m) (hs : g.stack = .int n :: rest)
    (N : Nat) (hn : n.toInt = N) (cap : Nat) (hcap : N ≤ cap) (hb : cap * 8 ≤ 536870912) (hc : cells + 1 ≤ R.cells) (hl : slots + cap ≤ R.slots)
    (k : ∀ T' h' a, a = h.size → Stand p l e R s m args below meth c T' locs (cells + 1) (slots + cap) → T'.heap = h' → Ext h h' → GA Z h' a (.object K) N (fun _ => .null) → OC Z h' a (.object K) K → Go p e below s Q C S T' { g with pc := g.pc + 3, stack := .ref a :: rest }) : Go p e below s Q C S T g := by
  have hN := own_clamp hn
  have hn0 := own_nneg hn
  obtain ⟨T1, h1, cA, X1, e1, E1, A1, O1, st⟩ := newR X hx hZ hown w1 w2 eT hg hd hs hn0 (cap := cap) (by omega) hb hc hl
  refine go_st st (k _ _ _ rfl X1 e1 E1 ⟨_, A1, (sz_new _ _ _).trans hN, ?_, fun i hi => ?_⟩ ⟨_, A1, O1⟩)
  · have := (rng32 n).2
    omega
  · show (Array.replicate n.toNatClampNeg (defaultValue _))[i]? = _
    rw [hN, Array.getElem?_replicate, if_pos hi]
    rfl
end OwnGo
def lamX : MethodName := ({ cls := "com/example/copse/copse/graph/TargetSearch", name := "reachesAll", desc := "(Lcom/example/copse/copse/graph/SuccessorLists;I[I)Z" } : Jvm.MethodName)
def lamSh : Jvm.Lambda.Shape := (Jvm.Lambda.Shape.mk "java/util/function/IntPredicate" "test" (Jvm.ClassFile.MethodDescriptor.mk ([Jvm.ClassFile.FieldType.int] : List Jvm.ClassFile.FieldType) (Option.some Jvm.ClassFile.FieldType.boolean)) ([(Jvm.ClassFile.FieldType.object "com/example/copse/copse/graph/TargetSearch")] : List Jvm.ClassFile.FieldType) (5 : Nat) "com/example/copse/copse/graph/TargetSearch" "lambda$reachesAll$0" (Jvm.ClassFile.MethodDescriptor.mk ([Jvm.ClassFile.FieldType.int] : List Jvm.ClassFile.FieldType) (Option.some Jvm.ClassFile.FieldType.boolean)) false (Jvm.ClassFile.MethodDescriptor.mk ([Jvm.ClassFile.FieldType.int] : List Jvm.ClassFile.FieldType) (Option.some Jvm.ClassFile.FieldType.boolean)))
section OwnPriv
variable {p : Program} {l : Launch} {e : Env} {R : Room} {s : State} {m : MethodId} {args : Array Value} {below : List Frame} {meth : Method} {c : Code} {T T' : State} {locs : List Loc} {cells slots : Nat} {Z : State} {a0 : Array Value} {h : Heap} {Q : Option Value → Heap → List Loc → Prop} {C S maxL0 : Nat} {g g' : JFrame}
theorem go_callP (X : Stand p l e R s m args below meth c T locs cells slots) (hx : p.tables.exec = Jvm.exec) (hZ : Z.Warmed39 s.vm) (hml : c.maxLocals = maxL0) {own K : String} {index nk : Nat} {y : MethodName} {bytes : ByteArray} {maxL : Nat} {ret : Option FieldType} (hown : s.vm.findClass own = some m.cls)
    (w1 : (Cond.methodLink own index y).before a0 Z = true) (w2 : (Cond.privateMethod y).before a0 Z = true) (w3 : (Cond.instantiable y.cls nk).before a0 Z = true) (w3' : (Cond.instanceMethod y).before a0 Z = true) (w4 : (Cond.code y bytes maxL ret).before a0 Z = true) (w5 : (Cond.initialized y.cls).before a0 Z = true) (eT : T.heap = h) {a : Addr} (E : Exa Z h a K) {argsL rest : List Value} {rm : Room} {Q' : Option Value → Heap → List Loc → Prop} {W : Nat}
    (hM : Met l y bytes maxL ret [] rm Z (.ref a :: argsL).toArray h Q' rm.cells rm.slots)
    (hd : decode c.code g.pc = .ok (.invokevirtual index, 3)) (hs : g.stack = argsL.reverse ++ .ref a :: rest) (hg : g.method = m) (hsz : g.locals.size = maxL0) (hlen : ∀ sig, parseMethodDescriptor y.desc = some sig → argsL.length = sig.parameters.length) (hW : 2 * g.monitorRoom + (rest.map fun v => v.category).sum ≤ W)
    (hy : y.cls ≠ "java/lang/invoke/MethodHandle" ∧ y.cls ≠ "java/lang/invoke/VarHandle") (hf : rm.frames + 1 ≤ R.frames) (hl : W + (maxL + 11) + rm.locals ≤ R.locals) (hc : cells + rm.cells ≤ R.cells) (hsl : slots + rm.slots ≤ R.slots)
    (k : ∀ T' v L, Stand p l e R s m args below meth c T' (locs ++ L) (cells + rm.cells) (slots + rm.slots) → Q' v T'.heap L → Go p e below s Q C S T' { g with pc := g.pc + 3, stack := v.toList ++ rest }) : Go p e below s Q C S T g := by
  obtain ⟨cB, kB, q1, q2, cell, q3, q4, q5⟩ := isOf hZ eT E
  have w3s := mvT (args := args) hZ w3
  obtain ⟨ck, kk, i1, i2, i3, i4, -⟩ := Cond.instantiable_spec w3s
  have hp := Cond.privateMethod_at (mvT (args := args) hZ w2)
  have hsel := selects_self_of_private (args := args) i1 i2 (by cases hq : kk.isInterface <;> simp_all) hp (mvT hZ w3') hy
  obtain ⟨v, _, ⟨T1, L1, k1, n1⟩, -, X1, ⟨Lc, hQ, l1, y1, z1⟩, st⟩ := X.privateBack hx (y := y) hown (mvT hZ w1) (mvT hZ w3') hsel hp (mvT hZ w4) hy (backOf (W := W) hM hZ w4 w5 hf hl) (g := g) hg (hsz.trans hml.symm) (Steps.refl _) q3 (fun qq hqq => by rw [hqq] at q5; exact Bool.noConfusion (show true = false from q5)) (argsL := argsL) (rest := rest) hlen hs hW hd (fun _ _ => ⟨rfl, eT, hc, hsl⟩)
  dsimp only [Pt.U, Pt.locs, Pt.cells, Pt.slots] at X1 l1 y1 z1 st hQ
  subst l1 y1 z1
  exact go_tr st (k _ _ _ X1 hQ)
end OwnPriv

section OwnLam
variable {p : Program} {l : Launch} {e : Env} {R : Room} {s : State} {m : MethodId} {args : Array Value} {below : List Frame} {meth : Method} {c : Code} {T T' : State} {locs : List Loc} {cells slots : Nat} {Z : State} {a0 : Array Value} {h : Heap} {Q : Option Value → Heap → List Loc → Prop} {C S maxL0 : Nat} {g g' : JFrame} {cK : ClassId}
def LamS (s : State) (cK : ClassId) : Prop := s.lambdaAt? lamX 106 80 lamSh = some (cK, none)
theorem LamS.made (H : LamS s cK) : Jvm.LamKit.Made s lamX.cls lamSh cK := by
  obtain ⟨mD, kD, cfD, i0, p0, lk, hmD, hkD, hcfD, hsh, -, hfind, hmade, hcan, hl⟩ := State.lambdaAt?_spec H
  obtain ⟨kD', hkD', hnameD⟩ := className_of_methodNamed hmD
  cases hkD.symm.trans hkD'
  exact ⟨_, kD, hkD, hnameD, hmade, hcan⟩
theorem LamS.at (H : LamS s cK) (Y : Stand p l e R s m args below meth c T locs cells slots) : LamS T cK := State.lambdaAt?_rides Y.warmed Y.same H
theorem LamS.calling (H : LamS T cK) (g : JFrame) (mk : MethodId) (a : Array Value) : LamS (T.calling g mk a) cK := H
def LamAt (h : Heap) (f : Addr) (cK : ClassId) (t : Addr) : Prop := ∃ cell : Cell, h[f]? = some cell ∧ cell.cls = cK ∧ cell.vm = .none ∧ cell.slots[0]? = some (.ref t)
theorem LamAt.ext {f t : Addr} {h' : Heap} (A : LamAt h f cK t) (E : Ext h h') : LamAt h' f cK t := by
  obtain ⟨cell, h1, r⟩ := A
  exact ⟨cell, E.2 _ _ h1, r⟩
theorem LamAt.keep {f t : Addr} {h' : Heap} {ws : List Addr} (A : LamAt h f cK t) (K : Keep h h' ws) (q : f ∉ ws) : LamAt h' f cK t := by
  obtain ⟨cell, h1, r⟩ := A
  exact ⟨cell, K.2.1 _ _ h1 q, r⟩
theorem LamAt.wr {f t a : Addr} {h' : Heap} {sl : Nat} {v : Value} (A : LamAt h f cK t) (W : Wr h h' a sl v) (q : f ≠ a) : LamAt h' f cK t := A.keep (Keep.of_wr W) (by simpa using q)
theorem LamAt.lt {f t : Addr} (A : LamAt h f cK t) : f < h.size := by
  obtain ⟨cell, h1, r⟩ := A
  exact (Array.getElem?_eq_some_iff.mp h1).1
def MetH (l : Launch) (y : MethodName) (bytes : ByteArray) (maxL : Nat) (ret : Option FieldType) (ws : List Cond) (rm : Room) (Z : State) (cK : ClassId) (as' : Array Value) (h0 : Heap) (Q : Option Value → Heap → List Loc → Prop) (C S : Nat) : Prop :=
  MetFree l y (head1 (Jvm.Cond.code y bytes maxL ret :: ws) rm) (fun a U => a = as' ∧ Z.Warmed39 U.vm ∧ U.heap = h0 ∧ LamS U cK) (fun _ _ _ _ _ => True) (fun _ U o U' => ∃ v L, o = .returned v ∧ Q v U'.heap L ∧ FrameEnd U o U' L C S)
theorem own_bodyH {y : MethodName} {bytes : ByteArray} {maxL : Nat} {ret : Option FieldType} {rm : Room} {as' : Array Value} {h0 : Heap} {ws : List Cond} (hn : plainFor y = true) {C S : Nat}
    (H : ∀ p e s m below meth c s₁, Ct p s m meth c Z y.cls y.name bytes maxL ret → Stand p l e rm s m as' below meth c s₁ [] 0 0 → s₁.heap = h0 → LamS s cK → s.methodNamed? y = some m → Go p e below s Q C S s₁ (entryFrame m as' maxL)) :
    MetH l y bytes maxL ret ws rm Z cK as' h0 Q C S := by
  refine MetFree.of_bodySF hn hisR ?_
  intro p e s m args below meth c s₁ Bd hml0 hP hK
  obtain ⟨rfl, hZ, hh, hLm⟩ := hP
  have hown : s.vm.findClass y.cls = some m.cls := findClass_of_methodNamed Bd.named
  have hnm := (name_of_methodNamed Bd.named Bd.method).1
  have X0 : Stand p l e rm s m args below meth c s₁ [] 0 0 := Stand.of_body Bd
  have e0 : s₁.heap = h0 := by rw [← hh, Bd.state]; rfl
  exact H p e s m below meth c s₁ ⟨Bd.exec, hZ, hown, Bd.bytes, hml0, Bd.returns, Bd.notSynchronized, hnm⟩ X0 e0 hLm Bd.named
theorem own_backH {y : MethodName} {bytes : ByteArray} {maxL : Nat} {ret : Option FieldType} {rm : Room} {len W : Nat} {as' : Array Value} (hM : MetH l y bytes maxL ret [] rm Z cK as' h Q rm.cells rm.slots)
    (hZ : Z.Warmed39 s.vm) (hLam : LamS s cK) (wc : (Cond.code y bytes maxL ret).before a0 Z = true) (wz : (Cond.initialized y.cls).before a0 Z = true) (hf : rm.frames + 1 ≤ R.frames) (hl : W + (maxL + 11) + rm.locals ≤ R.locals) :
    Back l R p e below s args y len W (fun A a => a = as' ∧ A.U.heap = h ∧ A.cells + rm.cells ≤ R.cells ∧ A.slots + rm.slots ≤ R.slots)
      (fun A _ v B => ∃ L, Q v B.U.heap L ∧ B.locs = A.locs ++ L ∧ B.cells = A.cells + rm.cells ∧ B.slots = A.slots + rm.slots) := by
  refine Back.of_free (bytes := bytes) (maxL := maxL) (ret := ret) (E := fun _ _ o t L k n => k = rm.cells ∧ n = rm.slots ∧ ∃ v, o = .returned v ∧ Q v t.heap L) hM hf hl ?_ ?_ (fun _ _ _ _ _ _ _ _ _ => trivial) (fun _ _ _ _ ⟨v, L, h1, h2, h3⟩ => ⟨L, _, _, h3, rfl, rfl, v, h1, h2⟩) ?_
  · intro m meth c A a Y hp
    have hU : Z.Warmed39 A.U.vm := wtrans hZ Y.warmed
    refine ⟨?_, mv hU wc, mv hU wz, hp.2.2.1, hp.2.2.2⟩
    show (Cond.and _ .tt).before a A.U = true
    rw [Cond.before_and, mv hU wc]
    rfl
  · intro m meth c A a g mk Y hp
    exact ⟨hp.1, wtrans hZ Y.warmed, hp.2.1, (hLam.at Y).calling g mk a⟩
  · intro m meth c A a g mk v t L k n Y hp _ _ q
    obtain ⟨e1, e2, v', e3, e4⟩ := q
    cases e3
    subst e1 e2
    exact ⟨L, e4, rfl, rfl, rfl⟩
theorem go_callVH (X : Stand p l e R s m args below meth c T locs cells slots) (hx : p.tables.exec = Jvm.exec) (hZ : Z.Warmed39 s.vm) (hml : c.maxLocals = maxL0) {own K : String} {index : Nat} {y z : MethodName} {bytes : ByteArray} {maxL : Nat} {ret : Option FieldType} (hown : s.vm.findClass own = some m.cls)
    (w1 : (Cond.methodLink own index y).before a0 Z = true) (w2 : (Cond.declares y).before a0 Z = true) (w2' : NotFace s y) (w3 : (Cond.selects K y z).before a0 Z = true) (w3' : (Cond.instanceMethod z).before a0 Z = true) (w4 : (Cond.code z bytes maxL ret).before a0 Z = true) (w5 : (Cond.initialized z.cls).before a0 Z = true) (eT : T.heap = h) {a : Addr} (E : Exa Z h a K) {argsL rest : List Value} {rm : Room} {Q' : Option Value → Heap → List Loc → Prop} {W : Nat}
    (hLam : LamS s cK) (hM : MetH l z bytes maxL ret [] rm Z cK (.ref a :: argsL).toArray h Q' rm.cells rm.slots)
    (hd : decode c.code g.pc = .ok (.invokevirtual index, 3)) (hs : g.stack = argsL.reverse ++ .ref a :: rest) (hg : g.method = m) (hsz : g.locals.size = maxL0) (hlen : ∀ sig, parseMethodDescriptor y.desc = some sig → argsL.length = sig.parameters.length) (hW : 2 * g.monitorRoom + (rest.map fun v => v.category).sum ≤ W)
    (hy : y.cls ≠ "java/lang/invoke/MethodHandle" ∧ y.cls ≠ "java/lang/invoke/VarHandle") (hf : rm.frames + 1 ≤ R.frames) (hl : W + (maxL + 11) + rm.locals ≤ R.locals) (hc : cells + rm.cells ≤ R.cells) (hsl : slots + rm.slots ≤ R.slots)
    (k : ∀ T' v L, Stand p l e R s m args below meth c T' (locs ++ L) (cells + rm.cells) (slots + rm.slots) → Q' v T'.heap L → Go p e below s Q C S T' { g with pc := g.pc + 3, stack := v.toList ++ rest }) : Go p e below s Q C S T g := by
  obtain ⟨cB, kB, q1, q2, q3⟩ := isOf hZ eT E
  obtain ⟨v, _, ⟨T1, L1, k1, n1⟩, -, X1, ⟨Lc, hQ, l1, y1, z1⟩, st⟩ := X.virtualBack hx (y := y) (z := z) hown (mvT hZ w1) (mvT hZ w2) w2' (mvT hZ w3) (mvT hZ w3') hy (own_backH (W := W) hM hZ hLam w4 w5 hf hl) q1 q3 (g := g) hg (hsz.trans hml.symm) (Steps.refl _) (argsL := argsL) (rest := rest) hlen hs hW hd (fun _ _ => ⟨rfl, eT, hc, hsl⟩)
  dsimp only [Pt.U, Pt.locs, Pt.cells, Pt.slots] at X1 l1 y1 z1 st hQ
  subst l1 y1 z1
  exact go_tr st (k _ _ _ X1 hQ)
theorem go_callPH (X : Stand p l e R s m args below meth c T locs cells slots) (hx : p.tables.exec = Jvm.exec) (hZ : Z.Warmed39 s.vm) (hml : c.maxLocals = maxL0) {own K : String} {index nk : Nat} {y : MethodName} {bytes : ByteArray} {maxL : Nat} {ret : Option FieldType} (hown : s.vm.findClass own = some m.cls)
    (w1 : (Cond.methodLink own index y).before a0 Z = true) (w2 : (Cond.privateMethod y).before a0 Z = true) (w3 : (Cond.instantiable y.cls nk).before a0 Z = true) (w3' : (Cond.instanceMethod y).before a0 Z = true) (w4 : (Cond.code y bytes maxL ret).before a0 Z = true) (w5 : (Cond.initialized y.cls).before a0 Z = true) (eT : T.heap = h) {a : Addr} (E : Exa Z h a K) {argsL rest : List Value} {rm : Room} {Q' : Option Value → Heap → List Loc → Prop} {W : Nat}
    (hLam : LamS s cK) (hM : MetH l y bytes maxL ret [] rm Z cK (.ref a :: argsL).toArray h Q' rm.cells rm.slots)
    (hd : decode c.code g.pc = .ok (.invokevirtual index, 3)) (hs : g.stack = argsL.reverse ++ .ref a :: rest) (hg : g.method = m) (hsz : g.locals.size = maxL0) (hlen : ∀ sig, parseMethodDescriptor y.desc = some sig → argsL.length = sig.parameters.length) (hW : 2 * g.monitorRoom + (rest.map fun v => v.category).sum ≤ W)
    (hy : y.cls ≠ "java/lang/invoke/MethodHandle" ∧ y.cls ≠ "java/lang/invoke/VarHandle") (hf : rm.frames + 1 ≤ R.frames) (hl : W + (maxL + 11) + rm.locals ≤ R.locals) (hc : cells + rm.cells ≤ R.cells) (hsl : slots + rm.slots ≤ R.slots)
    (k : ∀ T' v L, Stand p l e R s m args below meth c T' (locs ++ L) (cells + rm.cells) (slots + rm.slots) → Q' v T'.heap L → Go p e below s Q C S T' { g with pc := g.pc + 3, stack := v.toList ++ rest }) : Go p e below s Q C S T g := by
  obtain ⟨cB, kB, q1, q2, cell, q3, q4, q5⟩ := isOf hZ eT E
  have w3s := mvT (args := args) hZ w3
  obtain ⟨ck, kk, i1, i2, i3, i4, -⟩ := Cond.instantiable_spec w3s
  have hp := Cond.privateMethod_at (mvT (args := args) hZ w2)
  have hsel := selects_self_of_private (args := args) i1 i2 (by cases hq : kk.isInterface <;> simp_all) hp (mvT hZ w3') hy
  obtain ⟨v, _, ⟨T1, L1, k1, n1⟩, -, X1, ⟨Lc, hQ, l1, y1, z1⟩, st⟩ := X.privateBack hx (y := y) hown (mvT hZ w1) (mvT hZ w3') hsel hp (mvT hZ w4) hy (own_backH (W := W) hM hZ hLam w4 w5 hf hl) (g := g) hg (hsz.trans hml.symm) (Steps.refl _) q3 (fun qq hqq => by rw [hqq] at q5; exact Bool.noConfusion (show true = false from q5)) (argsL := argsL) (rest := rest) hlen hs hW hd (fun _ _ => ⟨rfl, eT, hc, hsl⟩)
  dsimp only [Pt.U, Pt.locs, Pt.cells, Pt.slots] at X1 l1 y1 z1 st hQ
  subst l1 y1 z1
  exact go_tr st (k _ _ _ X1 hQ)
theorem go_callF (X : Stand p l e R s m args below meth c T locs cells slots) (hx : p.tables.exec = Jvm.exec) (hZ : Z.Warmed39 s.vm) (hml : c.maxLocals = maxL0) {own K : String} {index count : Nat} {y z : MethodName} {bytes : ByteArray} {maxL : Nat} {ret : Option FieldType} (hown : s.vm.findClass own = some m.cls)
    (w1 : (Cond.methodLink own index y).before a0 Z = true) (w2 : (Cond.declares y).before a0 Z = true) (w2' : (Cond.interfaceMethod y.cls y.cls y.name y.desc).before a0 Z = true) (w3 : (Cond.selects K y z).before a0 Z = true) (w3' : (Cond.instanceMethod z).before a0 Z = true) (wp : (Cond.publicMethod z).before a0 Z = true) (wu : (Cond.unhidden K y.name y.desc).before a0 Z = true) (wc : (Cond.castable K y.cls).before a0 Z = true)
    (w4 : (Cond.code z bytes maxL ret).before a0 Z = true) (w5 : (Cond.initialized z.cls).before a0 Z = true) (eT : T.heap = h) {a : Addr} (E : Exa Z h a K) {argsL rest : List Value} {rm : Room} {Q' : Option Value → Heap → List Loc → Prop} {W : Nat}
    (hM : Met l z bytes maxL ret [] rm Z (.ref a :: argsL).toArray h Q' rm.cells rm.slots)
    (hd : decode c.code g.pc = .ok (.invokeinterface index count, 5)) (hs : g.stack = argsL.reverse ++ .ref a :: rest) (hg : g.method = m) (hsz : g.locals.size = maxL0) (hlen : ∀ sig, parseMethodDescriptor y.desc = some sig → argsL.length = sig.parameters.length) (hW : 2 * g.monitorRoom + (rest.map fun v => v.category).sum ≤ W)
    (hy : y.cls ≠ "java/lang/invoke/MethodHandle" ∧ y.cls ≠ "java/lang/invoke/VarHandle") (hf : rm.frames + 1 ≤ R.frames) (hl : W + (maxL + 11) + rm.locals ≤ R.locals) (hc : cells + rm.cells ≤ R.cells) (hsl : slots + rm.slots ≤ R.slots)
    (k : ∀ T' v L, Stand p l e R s m args below meth c T' (locs ++ L) (cells + rm.cells) (slots + rm.slots) → Q' v T'.heap L → Go p e below s Q C S T' { g with pc := g.pc + 5, stack := v.toList ++ rest }) : Go p e below s Q C S T g := by
  obtain ⟨cB, kB, q1, q2, q3⟩ := isOf hZ eT E
  obtain ⟨v, _, ⟨T1, L1, k1, n1⟩, -, X1, ⟨Lc, hQ, l1, y1, z1⟩, st⟩ := X.interfaceBack hx (xi := y) (y := z) hown (mvT hZ w1) (mvT hZ w2) (mvT hZ w2' (by simp [Cond.onTables, Cond.keepsFace, Cond.keeps, Cond.steady, Cond.faceAtom, hy.1, hy.2])) (mvT hZ w3) (mvT hZ w3') (mvT hZ wp) (mvT hZ wu) (mvT hZ wc) hy (backOf (W := W) hM hZ w4 w5 hf hl) q1 q2 q3 (g := g) hg (hsz.trans hml.symm) (Steps.refl _) (argsL := argsL) (rest := rest) hlen hs hW hd (fun _ _ => ⟨rfl, eT, hc, hsl⟩)
  dsimp only [Pt.U, Pt.locs, Pt.cells, Pt.slots] at X1 l1 y1 z1 st hQ
  subst l1 y1 z1
  exact go_tr st (k _ _ _ X1 hQ)
theorem go_lam (X : Stand p l e R s m args below meth c T locs cells slots) (hx : p.tables.exec = Jvm.exec) (hZ : Z.Warmed39 s.vm) (hml : c.maxLocals = maxL0) (hLam : LamS s cK) (hnamed : s.methodNamed? lamX = some m) (wO : (Cond.instantiable "java/lang/Object" 0).before a0 Z = true) {fi : Nat} (hok : Jvm.LamKit.capOK lamSh lamX.cls fi 0 = true) (eT : T.heap = h) {t : Addr} {K : String} (hcap : lamSh.captured = [.object K])
    {rest : List Value} (hd : decode c.code g.pc = .ok (.invokedynamic 80, 5)) (hg : g.method = m) (hpc : g.pc = 106) (hsz : g.locals.size = maxL0) (hs : g.stack = .ref t :: rest)
    (hW : 2 * g.monitorRoom + (g.stack.map fun v => v.category).sum + 3072 ≤ R.locals) (hc : cells + 1 ≤ R.cells) (hl : slots + 1 ≤ R.slots)
    (k : ∀ T' h' a, a = h.size → Stand p l e R s m args below meth c T' locs (cells + 1) (slots + 1) → T'.heap = h' → Ext h h' → LamAt h' a cK t → Go p e below s Q C S T' { g with pc := g.pc + 5, stack := .ref a :: rest }) : Go p e below s Q C S T g := by
  obtain ⟨mD, kD, cfD, i0, p0, lk, hmD, hkD, hcfD, hsh, -, hfind, hmade, hcan, hlk⟩ := State.lambdaAt?_spec hLam
  cases hnamed.symm.trans hmD
  obtain ⟨kD', hkD', hnameD⟩ := className_of_methodNamed hnamed
  cases hkD.symm.trans hkD'
  rcases hlk with ⟨a, cell, -, hno, -⟩ | ⟨rfl, -, -⟩
  · cases hno
  · obtain ⟨b, nt, desc, site, h1, h2, h3, h4⟩ := Lambda.shapeOf?_site hsh
    obtain ⟨kc, f, hkc, hkind, hty, -⟩ := Jvm.LamKit.made_cap hok hkD hnameD hmade (Jvm.LamKit.noFields (args := args) (mvT hZ wO) (State.WarmedH.refl s))
    have hz : ((kc.instanceTypes.toList.zip [Value.ref t]).map fun (t, v) => narrow t v) = [Value.ref t] := by rw [hty, hcap]; rfl
    have hw : e.platform.lambdaLinkWords = 3072 := by rw [X.admits.platform]
    have q := X.lambdaMakes hx hg (hsz.trans hml.symm) hd (vals := [Value.ref t]) (rest := rest) hkD (by rw [hpc]; exact hfind) hcfD h1 h2 (parseLong_of_parse h3) (by rw [h4, hcap]; rfl) hs hkc (by rw [hw]; exact hW) hc (by rw [hz]; exact hl)
      (fun i v hv => by
        rw [hz] at hv
        cases i with
        | zero => simp at hv; subst hv; simp [State.fitsSlot, State.slotType?, hkc, hkind, hty, hcap, fits]
        | succ j => simp at hv)
    rw [hz] at q
    obtain ⟨X1, st⟩ := q
    have hE : Ext h (T.pushCell { cls := cK, slots := [Value.ref t].toArray, vm := .none }).heap := by
      rw [← eT]
      refine ⟨by simp [State.pushCell], fun x cl hx => ?_⟩
      rw [State.heap_pushCell_of_lt _ _ (Array.getElem?_eq_some_iff.mp hx).1]
      exact hx
    refine go_st st (k _ _ T.heap.size (by rw [eT]) X1 rfl hE ⟨_, State.heap_pushCell_size _ _, rfl, rfl, rfl⟩)
theorem go_callLam (X : Stand p l e R s m args below meth c T locs cells slots) (hx : p.tables.exec = Jvm.exec) (hZ : Z.Warmed39 s.vm) (hml : c.maxLocals = maxL0) {own : String} {index count nk : Nat} {xi y : MethodName} {bytes fcode : ByteArray} {maxL fi idx ci : Nat} (hown : s.vm.findClass own = some m.cls) (hLam : LamS s cK)
    (w1 : (Cond.methodLink own index xi).before a0 Z = true) (w2 : (Cond.declares xi).before a0 Z = true) (w3 : (Cond.interfaceMethod xi.cls xi.cls xi.name xi.desc).before a0 Z = true) (wO : (Cond.instantiable "java/lang/Object" 0).before a0 Z = true) (w6 : (Cond.privateMethod y).before a0 Z = true) (w7 : (Cond.instantiable y.cls nk).before a0 Z = true) (w8 : (Cond.instanceMethod y).before a0 Z = true) (w4 : (Cond.code y bytes maxL (some .boolean)).before a0 Z = true) (w5 : (Cond.initialized y.cls).before a0 Z = true)
    (hxi : xi.cls = lamSh.iface ∧ xi.name = lamSh.name ∧ xi.desc = lamSh.sam.toString) (hy' : y.cls = lamSh.implClass ∧ y.name = lamSh.implName ∧ y.desc = lamSh.implDesc.toString) (hpx : xi.cls ≠ "java/lang/invoke/MethodHandle" ∧ xi.cls ≠ "java/lang/invoke/VarHandle") (hpy : y.cls ≠ "java/lang/invoke/MethodHandle" ∧ y.cls ≠ "java/lang/invoke/VarHandle")
    (hok : Jvm.LamKit.fwdOK lamSh lamX.cls fcode 2 (some .boolean) idx ci = true) (hcp : Jvm.LamKit.capOK lamSh lamX.cls fi 0 = true)
    (f0 : decode fcode 0 = .ok (.aload_n 0, 1)) (f1 : decode fcode 1 = .ok (.getfield fi, 3)) (f4 : decode fcode 4 = .ok (.iload_n 1, 1)) (f5 : decode fcode 5 = .ok (.invokevirtual idx, 3)) (f8 : decode fcode 8 = .ok (.ireturn, 1))
    (eT : T.heap = h) {f t : Addr} (A : LamAt h f cK t) (E : Exa Z h t y.cls) {z w : Int32} {rest : List Value} {rm : Room} {W : Nat} {Q' : Option Value → Heap → List Loc → Prop}
    (hM : Met l y bytes maxL (some .boolean) [] rm Z #[.ref t, .int z] h Q' rm.cells rm.slots) (hv : ∀ v h L, Q' v h L → v = some (.int w)) (hw1 : nar .boolean w = w)
    (hd : decode c.code g.pc = .ok (.invokeinterface index count, 5)) (hs : g.stack = .int z :: .ref f :: rest) (hg : g.method = m) (hsz : g.locals.size = maxL0) (hlen : ∀ sig, parseMethodDescriptor xi.desc = some sig → [Value.int z].length = sig.parameters.length) (hlenY : parseMethodDescriptor y.desc = some ⟨[.int], some .boolean⟩)
    (hW : 2 * g.monitorRoom + (rest.map fun v => v.category).sum ≤ W) (hf : rm.frames + 2 ≤ R.frames) (hl : W + 13 + (maxL + 11) + rm.locals ≤ R.locals) (hc : cells + rm.cells ≤ R.cells) (hsl : slots + rm.slots ≤ R.slots)
    (k : ∀ T' L, Stand p l e R s m args below meth c T' (locs ++ L) (cells + rm.cells) (slots + rm.slots) → Q' (some (.int w)) T'.heap L → Go p e below s Q C S T' { g with pc := g.pc + 5, stack := .int w :: rest }) : Go p e below s Q C S T g := by
  obtain ⟨cell, hcell, rfl, hvmc, hs0⟩ := A
  have hmd := hLam.made
  have w3' := mvT (args := args) hZ w3 (by simp [Cond.onTables, Cond.keepsFace, Cond.keeps, Cond.steady, Cond.faceAtom, hpx.1, hpx.2])
  obtain ⟨kK, methk, hkK, hmk, hpub, habs, hsel⟩ := Jvm.LamKit.madeSelects (args := args) hmd hok w3' hxi
  obtain ⟨r0, r, hn, hrm, hstR, hsigR⟩ := Cond.declares_spec (mvT (args := args) hZ w2)
  obtain ⟨cL, kL, r1, hcL, hkL, hiL, -, -⟩ := Cond.interfaceMethod_spec w3'
  have hr0cls : r0.cls = cL := Option.some.inj ((findClass_of_methodNamed hn).symm.trans hcL)
  obtain ⟨hasg, hsel', hway⟩ := hsel r0 r hn hrm
  obtain ⟨vm₁, X₁, hstep₁⟩ := X.invokeinterface hx hown (mvT hZ w1) hn hrm hstR (by rw [hr0cls]; exact hkL) hiL hpx (a := f) (cell := cell) (kcell := kK) (by rw [eT]; exact hcell) (fun q hq => by rw [hvmc] at hq; cases hq) hkK hasg
    (m' := ⟨cell.cls, 1⟩) (meth' := methk) (by rw [Launch.admits_selectMethod X.admits]; exact hsel') hmk hway hpub habs (g := g) hg (argsL := [.int z]) (rest := rest) (hlen _ hsigR) hs hd
  have hW₁ : s.WarmedH vm₁ := X₁.warmed
  obtain ⟨d, dk, hd', hdn, hmade, -⟩ := hmd
  obtain ⟨dk₁, hd₁, hed⟩ := hW₁.alike.2.2 _ _ hd'
  have hmade₁ := Lambda.isMade_warmer hW₁ hmade
  have hdn₁ : dk₁.name = lamX.cls := by rw [hed]; exact hdn
  obtain ⟨kK₁, tk₁, file₁, methk₁, ck₁, toy₁, t₁, nt, hkK₁, hpn₁, hfile₁, hidx₁, hnt₁, hmk₁, hck₁, hbytes₁, hml₁, hlk₁, -, hretk₁, htoy₁, htk₁, hlook₁, hready₁, hclsR₁⟩ := Jvm.LamKit.made_static hok hd₁ hdn₁ hmade₁
  obtain ⟨kc, fld, -, -, -, hfr, hfst, hfsl⟩ := Jvm.LamKit.made_cap hcp hd₁ hdn₁ hmade₁ (Jvm.LamKit.noFields (mvT (args := args) hZ wO) hW₁)
  obtain ⟨y1, y2, y3⟩ := hy'
  have hbody : ∀ U₀ : State, U₀ = ((T.setVm vm₁).setTop { g with stack := rest }).pushFrame (.java (entryFrame ⟨cell.cls, 1⟩ #[.ref f, .int z] ck₁.maxLocals)) → Stand p l e ({ frames := rm.frames + 1, cells := rm.cells, slots := rm.slots, locals := maxL + 11 + rm.locals } : Room) ((T.setVm vm₁).calling { g with stack := rest } ⟨cell.cls, 1⟩ #[.ref f, .int z]) ⟨cell.cls, 1⟩ #[.ref f, .int z] (.java { g with stack := rest } :: below) methk₁ ck₁ U₀ [] 0 0 →
      ∃ v U₁ L₁ c₁ n₁, Stand p l e ({ frames := rm.frames + 1, cells := rm.cells, slots := rm.slots, locals := maxL + 11 + rm.locals } : Room) ((T.setVm vm₁).calling { g with stack := rest } ⟨cell.cls, 1⟩ #[.ref f, .int z]) ⟨cell.cls, 1⟩ #[.ref f, .int z] (.java { g with stack := rest } :: below) methk₁ ck₁ U₁ L₁ c₁ n₁ ∧ (methk₁.sig.returnType = none → v = none) ∧ (v = some (.int w) ∧ Q' (some (.int w)) U₁.heap L₁ ∧ c₁ = rm.cells ∧ n₁ = rm.slots) ∧
        ∀ fs, (∀ (f : JFrame) (acts : List Action), f.method = ⟨cell.cls, 1⟩ → f.locked = none → f.entered = [] → (doReturn e (U₁.setTop f) acts v).1 = U₁.setFrames fs) → Steps p.tables e (.java { g with stack := rest } :: below) (U₀.setTop (entryFrame ⟨cell.cls, 1⟩ #[.ref f, .int z] ck₁.maxLocals)) (U₁.setFrames fs) := by
    intro U₀ hU₀ Y₀
    have hvm : U₀.vm = vm₁ := by rw [hU₀]; rfl
    have hheap : U₀.heap = h := by rw [hU₀]; exact eT
    rw [hml₁]
    have hef : entryFrame ⟨cell.cls, 1⟩ #[.ref f, .int z] 2 = { method := ⟨cell.cls, 1⟩, pc := 0, locals := #[.val (.ref f), .val (.int z)], stack := [], locked := none } := by first | rfl | (simp [entryFrame, argsToLocals, Value.category]; done)
    rw [hef]
    have g0 : decode ck₁.code 0 = .ok (.aload_n 0, 1) := by rw [hbytes₁]; exact f0
    have g1 : decode ck₁.code 1 = .ok (.getfield fi, 3) := by rw [hbytes₁]; exact f1
    have g4 : decode ck₁.code 4 = .ok (.iload_n 1, 1) := by rw [hbytes₁]; exact f4
    have g5 : decode ck₁.code 5 = .ok (.invokevirtual idx, 3) := by rw [hbytes₁]; exact f5
    have g8 : decode ck₁.code 8 = .ok (.ireturn, 1) := by rw [hbytes₁]; exact f8
    have k1 : Steps p.tables e (.java { g with stack := rest } :: below) (U₀.setTop { method := ⟨cell.cls, 1⟩, pc := 0, locals := #[.val (.ref f), .val (.int z)], stack := [], locked := none }) (U₀.setTop { method := ⟨cell.cls, 1⟩, pc := 1, locals := #[.val (.ref f), .val (.int z)], stack := [.ref f], locked := none }) := by
      jvm_step Y₀.here [hx, g0, Value.isRef]
      exact Steps.refl _
    have k2 := Y₀.getfieldR hx (g := { method := ⟨cell.cls, 1⟩, pc := 1, locals := #[.val (.ref f), .val (.int z)], stack := [.ref f], locked := none }) rfl (index := fi) (cF := cell.cls) (a := f) (field := fld) (cell := cell) (v := .ref t) (rest := []) (by rw [hvm]; exact hfr) hfst rfl (by rw [hheap]; exact hcell) (by rw [hvmc]; simp) (by rw [hfsl]; exact hs0) g1 k1
    have k3 : Steps p.tables e (.java { g with stack := rest } :: below) (U₀.setTop { method := ⟨cell.cls, 1⟩, pc := 0, locals := #[.val (.ref f), .val (.int z)], stack := [], locked := none }) (U₀.setTop { method := ⟨cell.cls, 1⟩, pc := 5, locals := #[.val (.ref f), .val (.int z)], stack := [.int z, .ref t], locked := none }) := by
      refine k2.trans ?_
      jvm_step Y₀.here [hx, g4]
      exact Steps.refl _
    have hWU : Z.Warmed39 U₀.vm := by rw [hvm]; exact wtrans (U := T.setVm vm₁) hZ hW₁
    have c4 := mv (s := U₀) (args := #[]) hWU w4
    have c7 := mv (s := U₀) (args := #[]) hWU w7
    have c8 := mv (s := U₀) (args := #[]) hWU w8
    obtain ⟨tN, hnN⟩ := Cond.code_named c4
    obtain ⟨ck, kk, i1, i2, i3, i4, -⟩ := Cond.instantiable_spec c7
    have hkkI : kk.isInterface = false := by
      revert i4
      cases kk.isInterface
      · intro _; rfl
      · intro hq; simp at hq
    have hselU := selects_self_of_private (args := #[]) i1 i2 hkkI (Cond.privateMethod_at (mv (s := U₀) (args := #[]) hWU w6)) c8 hpy
    have htoyU : U₀.vm.findClass y.cls = some toy₁ := by rw [hvm, y1]; exact htoy₁
    have htkU : U₀.vm.classes[toy₁]? = some tk₁ := by rw [hvm]; exact htk₁
    cases i1.symm.trans htoyU
    cases i2.symm.trans htkU
    have hl1 := Jvm.Free.Fw.look_of_named hnN hpy _ _ htoyU htkU
    rw [hvm, y2, y3] at hl1
    have et : t₁ = tN := Except.ok.inj (hlook₁.symm.trans hl1)
    subst et
    obtain ⟨r, tt, kr, kt, methr, metht, q1, q2, q3, q4, q5, q6, q7, q8, q9, q10, q11, q12, q13⟩ := Jvm.Free.Fw.VirtualAt.of_made (l := l) X.admits (U := U₀) (cK := cell.cls) (mi := idx) (ci := ci) (nt := nt) (y := y) (by rw [hvm]; exact hkK₁) hfile₁ hidx₁ (by rw [hvm]; exact hready₁) (by rw [hvm]; exact hclsR₁) htoyU htkU hkkI hnN hpy c4 c8 hselU hlenY rfl
    obtain ⟨cellT, kT, e1, e2, e3, e4, -⟩ := E
    have hcT : cellT.cls = toy₁ := by
      have q : U₀.vm.findClass y.cls = some cellT.cls := by rw [hWU.alike.findClass]; exact e2
      exact Option.some.inj (q.symm.trans htoyU)
    have hZc : Z.Warmed39 ((T.setVm vm₁).calling { g with stack := rest } ⟨cell.cls, 1⟩ #[.ref f, .int z]).vm := wtrans (U := T.setVm vm₁) hZ hW₁
    obtain ⟨v, ⟨U₁, L₁, c₁, n₁⟩, Y₁, ⟨Lc, hQ, l1, y1', z1⟩, kE⟩ := Y₀.virtualR hx (g := { method := ⟨cell.cls, 1⟩, pc := 5, locals := #[.val (.ref f), .val (.int z)], stack := [.int z, .ref t], locked := none }) rfl (by rw [hml₁]; rfl) (index := idx) (a := t) (y := y) (cell := cellT) (argsL := [.int z]) (rest := []) q1 q2 q3 q4 q5 q6 q7.symm rfl (by rw [hheap]; exact e1) (fun q hq => by rw [hq] at e4; exact Bool.noConfusion (show true = false from e4)) (by rw [hcT]; exact q8) q9 q10 q11 q12 q13
      (backOf (W := 0) hM hZc w4 w5 (Nat.le_refl _) (by show 0 + (maxL + 11) + rm.locals ≤ maxL + 11 + rm.locals; omega)) (by show 2 * 0 + 0 ≤ 0; decide) ⟨rfl, hheap, by show 0 + rm.cells ≤ rm.cells; omega, by show 0 + rm.slots ≤ rm.slots; omega⟩ g5 k3
    dsimp only [Pt.U, Pt.locs, Pt.cells, Pt.slots] at Y₁ kE hQ l1 y1' z1
    have hvv := hv _ _ _ hQ
    subst hvv
    subst l1
    refine ⟨some (.int w), U₁, _, _, _, Y₁, (fun h0 => by rw [hretk₁] at h0; cases h0), ⟨rfl, by simpa using hQ, by omega, by omega⟩, fun fs hleave => kE.trans ?_⟩
    have hfin := retN Y₁ hx (pc := 8) (Ls := #[.val (.ref f), .val (.int z)]) (z := w) (t := .boolean) (rest := []) hretk₁ (Or.inl rfl) g8 (fs := fs) (by rw [hw1]; exact hleave)
    exact hfin
  obtain ⟨v, T', U₁, L₁, c₁, n₁, X', ⟨rfl, hQ, rfl, rfl⟩, hh, -, -, steps⟩ := X₁.through (g := { g with stack := rest }) hg (hsz.trans hml.symm) hd #[.ref f, .int z] (mk := ⟨cell.cls, 1⟩) (R' := ({ frames := rm.frames + 1, cells := rm.cells, slots := rm.slots, locals := maxL + 11 + rm.locals } : Room)) (Φ := fun v U₁ L₁ c₁ n₁ => v = some (.int w) ∧ Q' (some (.int w)) U₁.heap L₁ ∧ c₁ = rm.cells ∧ n₁ = rm.slots) hmk₁ hck₁ hlk₁ (State.plainMethod.of_name (fun k' hk' => by cases hkK₁.symm.trans hk'; exact hpn₁)) (by show rm.frames + 1 + 1 ≤ R.frames; omega)
    (by rw [hml₁]; show 2 * g.monitorRoom + (rest.map fun v => v.category).sum + (2 + 11) + (maxL + 11 + rm.locals) ≤ R.locals; omega) hc hsl hbody
  refine go_tr (hstep₁ _ fun acts => by rw [doInvoke_state]; exact steps) (k T' L₁ X' (by rw [hh]; exact hQ))
end OwnLam

def own_c2 (x y : Int32) : Nat → Int32
  | 0 => x
  | 1 => y
  | _ => 0
theorem own_z2 (i : Nat) : Value.int 0 = Value.int (own_c2 0 0 i) := by
  match i with
  | 0 => rfl
  | 1 => rfl
  | n + 2 => rfl
theorem own_c20 (w x y : Int32) (i : Nat) : own_c2 w y i = if i = 0 then w else own_c2 x y i := by
  match i with
  | 0 => rfl
  | 1 => rfl
  | n + 2 => rfl
theorem own_c21 (w x y : Int32) (i : Nat) : own_c2 x w i = if i = 1 then w else own_c2 x y i := by
  match i with
  | 0 => rfl
  | 1 => rfl
  | n + 2 => rfl
theorem own_sti {Z : State} {h : Heap} {a : Addr} {ty : FieldType} {n q : Nat} {x j : Int32} {f f' : Nat → Int32} (hj : j.toNatClampNeg = q) (hf : ∀ i, f' i = if i = q then x else f i) (G : GA Z h a ty n (fun i => if i = j.toNatClampNeg then .int x else (fun i => .int (f i)) i)) : GA Z h a ty n (fun i => .int (f' i)) := by
  subst hj
  refine G.congr fun i _ => ?_
  rw [hf]
  dsimp only
  split <;> rfl
def fcode : ByteArray := ⟨#[0x2a, 0xb4, 0x00, 0x0f, 0x1b, 0xb6, 0x00, 0x16, 0xac]⟩
theorem own_fw : Jvm.LamKit.fwdOK lamSh lamX.cls fcode 2 (some .boolean) 22 19 = true := by decide +kernel
theorem own_cp : Jvm.LamKit.capOK lamSh lamX.cls 15 0 = true := by decide +kernel
theorem own_f0 : decode fcode 0 = .ok (.aload_n 0, 1) := by decide +kernel
theorem own_f1 : decode fcode 1 = .ok (.getfield 15, 3) := by decide +kernel
theorem own_f4 : decode fcode 4 = .ok (.iload_n 1, 1) := by decide +kernel
theorem own_f5 : decode fcode 5 = .ok (.invokevirtual 22, 3) := by decide +kernel
theorem own_f8 : decode fcode 8 = .ok (.ireturn, 1) := by decide +kernel
theorem own_lx1 : ("java/util/function/IntPredicate" = lamSh.iface ∧ "test" = lamSh.name ∧ "(I)Z" = lamSh.sam.toString) := by decide +kernel
theorem own_ly1 : ("com/example/copse/copse/graph/TargetSearch" = lamSh.implClass ∧ "lambda$reachesAll$0" = lamSh.implName ∧ "(I)Z" = lamSh.implDesc.toString) := by decide +kernel
theorem d3_0 : decode prog_40_method_2_code 0 = .ok (.iload_n 0, 1) := by decide +kernel
theorem d3_1 : decode prog_40_method_2_code 1 = .ok (.ifCond .lt 9, 3) := by decide +kernel
theorem d3_4 : decode prog_40_method_2_code 4 = .ok (.iload_n 0, 1) := by decide +kernel
theorem d3_5 : decode prog_40_method_2_code 5 = .ok (.ldc 11, 2) := by decide +kernel
theorem d3_7 : decode prog_40_method_2_code 7 = .ok (.if_icmp .lt 17, 3) := by decide +kernel
theorem d3_10 : decode prog_40_method_2_code 10 = .ok (.new 12, 3) := by decide +kernel
theorem d3_13 : decode prog_40_method_2_code 13 = .ok (.dup, 1) := by decide +kernel
theorem d3_14 : decode prog_40_method_2_code 14 = .ok (.iload_n 0, 1) := by decide +kernel
theorem d3_15 : decode prog_40_method_2_code 15 = .ok (.invokedynamic 14, 5) := by decide +kernel
theorem d3_20 : decode prog_40_method_2_code 20 = .ok (.invokespecial 18, 3) := by decide +kernel
theorem d3_23 : decode prog_40_method_2_code 23 = .ok (.athrow, 1) := by decide +kernel
theorem d3_24 : decode prog_40_method_2_code 24 = .ok (.iload_n 0, 1) := by decide +kernel
theorem d3_25 : decode prog_40_method_2_code 25 = .ok (.ireturn, 1) := by decide +kernel
theorem pn0 : plainFor (⟨"com/example/copse/copse/graph/GraphArrays", "checkNodeCount", "(I)I"⟩ : MethodName) = true := by first | (refine plainFor_of_name ?_; simp [plainName, overriddenIn]; done) | (refine plainFor_of_name ?_; decide +kernel) | decide +kernel
def fCnc  : Int32 := (2 : Int32)
theorem ef_3 (m : MethodId)  : entryFrame m #[(.int (2 : Int32))] 1 = mkF m 0 #[.val (.int (2 : Int32))] [] := by first | (simp [entryFrame, mkF, argsToLocals, Value.category]; done) | rfl
abbrev rm_3 : Room := ({ frames := 0, cells := 0, slots := 0, locals := 0 } : Room)
set_option maxRecDepth 65536 in
set_option maxHeartbeats 4000000 in
theorem met_3 (l : Launch) (Z : State) (a0 : Array Value) (hw : ∀ d ∈ tables_1, d.before a0 Z = true)  (h0 : Heap) (n0 : Nat) (Z0 : n0 ≤ h0.size)  :
  Met l (⟨"com/example/copse/copse/graph/GraphArrays", "checkNodeCount", "(I)I"⟩ : MethodName) prog_40_method_2_code 1 (some FieldType.int) [] rm_3 Z #[(.int (2 : Int32))] h0 (QV (some (.int (fCnc ))) h0 n0) 0 0 := by
 refine own_body pn0 ?_
 intro p e s m below meth c s₁ ct X0 e0
 obtain ⟨hx, hZ, hown, hby, hml, hret, hlk, hnm⟩ := ct
 have N0 := Fr.nil n0
 refine castGo (ef_3 m ) ?_
 unfold fCnc
 show Gg s₁ m 0 []
 refine go_st (fun _ kq => XS.iloadN X0.here hx rfl (hb hby d3_0) rfl kq) ?_
 show Gg s₁ m 1 [(.int (2 : Int32))]
 refine go_st (fun _ kq => XS.ifNo X0.here hx rfl (hb hby d3_1) rfl (XT.i0_lt_f (by decide)) kq) ?_
 show Gg s₁ m 4 []
 refine go_st (fun _ kq => XS.iloadN X0.here hx rfl (hb hby d3_4) rfl kq) ?_
 show Gg s₁ m 5 [(.int (2 : Int32))]
 refine go_st (fun _ kq => Jvm.Stand.ldcI X0 hx hown (mvT hZ (wd hw 16 rfl)) rfl (hb hby d3_5) kq) ?_
 show Gg s₁ m 7 [(.int (2147483639 : Int32)), (.int (2 : Int32))]
 refine go_st (fun _ kq => XS.icmpYes X0.here hx rfl (pc0 := 7) (pc' := 24) rfl (hb hby d3_7) rfl (XT.ii_lt_t (by decide)) (by decide) (by decide) kq) ?_
 show Gg s₁ m 24 []
 refine go_st (fun _ kq => XS.iloadN X0.here hx rfl (hb hby d3_24) rfl kq) ?_
 show Gg s₁ m 25 [(.int (2 : Int32))]
 exact go_retI X0 hx hlk hret (hb hby d3_25) (by decide) (by decide) ⟨rfl, N0, e0⟩
theorem d1_0 : decode prog_46_method_1_code 0 = .ok (.aload_n 0, 1) := by decide +kernel
theorem d1_1 : decode prog_46_method_1_code 1 = .ok (.invokespecial 1, 3) := by decide +kernel
theorem d1_4 : decode prog_46_method_1_code 4 = .ok (.aload_n 0, 1) := by decide +kernel
theorem d1_5 : decode prog_46_method_1_code 5 = .ok (.ldc2_w 9, 3) := by decide +kernel
theorem d1_8 : decode prog_46_method_1_code 8 = .ok (.putfield 11, 3) := by decide +kernel
theorem d1_11 : decode prog_46_method_1_code 11 = .ok (.iload_n 1, 1) := by decide +kernel
theorem d1_12 : decode prog_46_method_1_code 12 = .ok (.invokestatic 17, 3) := by decide +kernel
theorem d1_15 : decode prog_46_method_1_code 15 = .ok (.pop, 1) := by decide +kernel
theorem d1_16 : decode prog_46_method_1_code 16 = .ok (.aload_n 0, 1) := by decide +kernel
theorem d1_17 : decode prog_46_method_1_code 17 = .ok (.iload_n 1, 1) := by decide +kernel
theorem d1_18 : decode prog_46_method_1_code 18 = .ok (.newarray .int, 2) := by decide +kernel
theorem d1_20 : decode prog_46_method_1_code 20 = .ok (.putfield 23, 3) := by decide +kernel
theorem d1_23 : decode prog_46_method_1_code 23 = .ok (.aload_n 0, 1) := by decide +kernel
theorem d1_24 : decode prog_46_method_1_code 24 = .ok (.iload_n 1, 1) := by decide +kernel
theorem d1_25 : decode prog_46_method_1_code 25 = .ok (.newarray .int, 2) := by decide +kernel
theorem d1_27 : decode prog_46_method_1_code 27 = .ok (.putfield 27, 3) := by decide +kernel
theorem d1_30 : decode prog_46_method_1_code 30 = .ok (.aload_n 0, 1) := by decide +kernel
theorem d1_31 : decode prog_46_method_1_code 31 = .ok (.iload_n 1, 1) := by decide +kernel
theorem d1_32 : decode prog_46_method_1_code 32 = .ok (.newarray .int, 2) := by decide +kernel
theorem d1_34 : decode prog_46_method_1_code 34 = .ok (.putfield 30, 3) := by decide +kernel
theorem d1_37 : decode prog_46_method_1_code 37 = .ok (.aload_n 0, 1) := by decide +kernel
theorem d1_38 : decode prog_46_method_1_code 38 = .ok (.iload_n 1, 1) := by decide +kernel
theorem d1_39 : decode prog_46_method_1_code 39 = .ok (.newarray .int, 2) := by decide +kernel
theorem d1_41 : decode prog_46_method_1_code 41 = .ok (.putfield 33, 3) := by decide +kernel
theorem d1_44 : decode prog_46_method_1_code 44 = .ok (.aload_n 0, 1) := by decide +kernel
theorem d1_45 : decode prog_46_method_1_code 45 = .ok (.iload_n 1, 1) := by decide +kernel
theorem d1_46 : decode prog_46_method_1_code 46 = .ok (.newarray .int, 2) := by decide +kernel
theorem d1_48 : decode prog_46_method_1_code 48 = .ok (.putfield 36, 3) := by decide +kernel
theorem d1_51 : decode prog_46_method_1_code 51 = .ok (.return_, 1) := by decide +kernel
theorem pn1 : plainFor (⟨"com/example/copse/copse/graph/TargetSearch", "<init>", "(I)V"⟩ : MethodName) = true := by first | (refine plainFor_of_name ?_; simp [plainName, overriddenIn]; done) | (refine plainFor_of_name ?_; decide +kernel) | decide +kernel
def Q_ini (Z : State) (a : Addr) (h0 : Heap) (n0 : Nat) (v : Option Value) (h : Heap) (L : List Loc) : Prop := ∃ ra : Addr, ∃ pe : Addr, ∃ wa : Addr, v = none ∧ Fr n0 L ∧ Keep h0 h [a] ∧ h0.size ≤ ra ∧ h0.size ≤ pe ∧ h0.size ≤ wa ∧ (ra ≠ pe) ∧ (ra ≠ wa) ∧ (pe ≠ wa) ∧ (a ≠ ra) ∧ (a ≠ pe) ∧ (a ≠ wa) ∧ Fld Z h a "com/example/copse/copse/graph/TargetSearch" "arcLimit" "J" (.long (9223372036854775807 : Int64)) ∧ Fld Z h a "com/example/copse/copse/graph/TargetSearch" "arcsLookedAt" "J" (.long (0 : Int64)) ∧ Fld Z h a "com/example/copse/copse/graph/TargetSearch" "search" "I" (.int (0 : Int32)) ∧ Fld Z h a "com/example/copse/copse/graph/TargetSearch" "unreached" "I" (.int (0 : Int32)) ∧ Fld Z h a "com/example/copse/copse/graph/TargetSearch" "queued" "I" (.int (0 : Int32)) ∧ Fld Z h a "com/example/copse/copse/graph/TargetSearch" "reachedIn" "[I" (.ref ra) ∧ Fld Z h a "com/example/copse/copse/graph/TargetSearch" "pending" "[I" (.ref pe) ∧ Fld Z h a "com/example/copse/copse/graph/TargetSearch" "wantedIn" "[I" (.ref wa) ∧ GA Z h ra .int 2 (fun i => .int (own_c2 (0 : Int32) (0 : Int32) i)) ∧ GA Z h pe .int 2 (fun i => .int (own_c2 (0 : Int32) (0 : Int32) i)) ∧ GA Z h wa .int 2 (fun i => .int (own_c2 (0 : Int32) (0 : Int32) i))
theorem pd0 : parseMethodDescriptor "(I)I" = some ⟨[.int], (some .int)⟩ := by decide +kernel
theorem ef_ini (m : MethodId) (a : Addr) : entryFrame m #[(.ref a), (.int (2 : Int32))] 2 = mkF m 0 #[.val (.ref a), .val (.int (2 : Int32))] [] := by first | (simp [entryFrame, mkF, argsToLocals, Value.category]; done) | rfl
abbrev rm_ini : Room := ({ frames := 1, cells := 5, slots := 10, locals := 12 } : Room)
set_option maxRecDepth 65536 in
set_option maxHeartbeats 4000000 in
theorem met_ini (l : Launch) (Z : State) (a0 : Array Value) (hw : ∀ d ∈ tables_1, d.before a0 Z = true) (a : Addr) (h0 : Heap) (n0 : Nat) (Z0 : n0 ≤ h0.size) (P0 : Exa Z h0 a "com/example/copse/copse/graph/TargetSearch") (P1 : Fld Z h0 a "com/example/copse/copse/graph/TargetSearch" "arcLimit" "J" (.long (0 : Int64))) (P2 : Fld Z h0 a "com/example/copse/copse/graph/TargetSearch" "arcsLookedAt" "J" (.long (0 : Int64))) (P3 : Fld Z h0 a "com/example/copse/copse/graph/TargetSearch" "search" "I" (.int (0 : Int32))) (P4 : Fld Z h0 a "com/example/copse/copse/graph/TargetSearch" "unreached" "I" (.int (0 : Int32))) (P5 : Fld Z h0 a "com/example/copse/copse/graph/TargetSearch" "queued" "I" (.int (0 : Int32))) (P6 : Fld Z h0 a "com/example/copse/copse/graph/TargetSearch" "reachedIn" "[I" .null) (P7 : Fld Z h0 a "com/example/copse/copse/graph/TargetSearch" "place" "[I" .null) (P8 : Fld Z h0 a "com/example/copse/copse/graph/TargetSearch" "parent" "[I" .null) (P9 : Fld Z h0 a "com/example/copse/copse/graph/TargetSearch" "pending" "[I" .null) (P10 : Fld Z h0 a "com/example/copse/copse/graph/TargetSearch" "wantedIn" "[I" .null) (P11 : n0 ≤ a) :
  Met l (⟨"com/example/copse/copse/graph/TargetSearch", "<init>", "(I)V"⟩ : MethodName) prog_46_method_1_code 2 none [] rm_ini Z #[(.ref a), (.int (2 : Int32))] h0 (Q_ini Z a h0 n0) rm_ini.cells rm_ini.slots := by
 refine own_body pn1 ?_
 intro p e s m below meth c s₁ ct X0 e0
 obtain ⟨hx, hZ, hown, hby, hml, hret, hlk, hnm⟩ := ct
 have lt_a : a < h0.size := P0.lt
 have N0 := Fr.nil n0
 refine castGo (ef_ini m a) ?_
 show Gg s₁ m 0 []
 refine go_st (fun _ kq => XS.aloadN X0.here hx rfl (hb hby d1_0) rfl rfl kq) ?_
 show Gg s₁ m 1 [(.ref a)]
 refine go_initO X0 hx hZ hml hown (wd hw 6 rfl) (wd hw 7 rfl) (wd hw 8 rfl) e0 (hb hby d1_1) rfl rfl rfl (by decide) (W := 0) (by show 2 * 0 + _ ≤ _; exact Nat.le_of_eq rfl) (by decide) ?_
 intro T1 X1 e1
 show Gg T1 m 4 []
 refine go_st (fun _ kq => XS.aloadN X1.here hx rfl (hb hby d1_4) rfl rfl kq) ?_
 show Gg T1 m 5 [(.ref a)]
 refine go_st (fun _ kq => Jvm.Stand.ldc2J X1 hx hown (mvT hZ (wd hw 9 rfl)) rfl (hb hby d1_5) kq) ?_
 show Gg T1 m 8 [(.long (9223372036854775807 : Int64)), (.ref a)]
 refine go_putF X1 hx hZ hown (host := "") (Or.inl (wd hw 10 rfl)) Via.refl e1 P1 P0 (Or.inl (wd hw 11 rfl)) (wd hw 1 rfl) (ty := .long) (by decide) rfl rfl (hb hby d1_8) rfl rfl ?_
 intro T2 h2 X2 e2 W2
 have N2 := Fr.snoc X2 N0 P11
 have F2 : Fld Z h2 a "com/example/copse/copse/graph/TargetSearch" "arcLimit" "J" (.long (9223372036854775807 : Int64)) := Fld.same W2 P1
 show Gg T2 m 11 []
 refine go_st (fun _ kq => XS.iloadN X2.here hx rfl (hb hby d1_11) rfl kq) ?_
 show Gg T2 m 12 [(.int (2 : Int32))]
 have z4 : n0 ≤ h2.size := (Wr.size W2).symm ▸ Z0
 refine go_callS X2 hx hZ hml hown (wd hw 12 rfl) (wd hw 13 rfl) (wd hw 14 rfl) (wd hw 15 rfl) e2 (argsL := [(.int (2 : Int32))]) (rest := []) (W := 0) (met_3 l Z a0 hw  h2 n0 z4 ) (hb hby d1_12) rfl rfl rfl (lenOf pd0 rfl) (by show 2 * 0 + _ ≤ _; exact Nat.le_of_eq rfl) (by decide) (by decide) (by decide) (by decide) (by decide) ?_
 intro T3 v3 L3 X3 q3
 obtain ⟨rfl, M3, e3⟩ := q3
 have N3 := Fr.app N2 M3
 show Gg T3 m 15 [(.int (2 : Int32))]
 refine go_st (fun _ kq => XT.pop X3.here hx rfl (hb hby d1_15) rfl rfl kq) ?_
 show Gg T3 m 16 []
 refine go_st (fun _ kq => XS.aloadN X3.here hx rfl (hb hby d1_16) rfl rfl kq) ?_
 show Gg T3 m 17 [(.ref a)]
 refine go_st (fun _ kq => XS.iloadN X3.here hx rfl (hb hby d1_17) rfl kq) ?_
 show Gg T3 m 18 [(.int (2 : Int32)), (.ref a)]
 refine go_newP X3 hx hZ (wd hw 17 rfl) e3 (hb hby d1_18) rfl rfl 2 (by decide) 2 (Nat.le_refl _) (by decide) (by decide) (by decide) ?_
 intro T5 h5 a5 g5 X5 e5 E5 G5
 have y6 : h0.size ≤ h2.size := (Wr.size W2).symm ▸ (Nat.le_refl _)
 have c7 : a < h2.size := (Wr.size W2).symm ▸ lt_a
 have ne8 : a ≠ a5 := fun q => Nat.lt_irrefl _ (Nat.lt_of_lt_of_le c7 (Nat.le_of_eq (g5.symm.trans q.symm)))
 have lt_a5 : a5 < h5.size := G5.lt
 have A5 : GA Z h5 a5 .int 2 (fun i => .int (own_c2 (0 : Int32) (0 : Int32) i)) := (GA.congr G5 (fun i _ => own_z2 i))
 show Gg T5 m 20 [(.ref a5), (.ref a)]
 have c9 := Fld.other W2 P6 (Or.inr (slot_ne (a0 := a0) (t := (.array .int)) (t' := .long) (Or.inr (wd hw 19 rfl)) (Or.inl (wd hw 11 rfl)) (by decide) (by decide) (by decide)))
 have c10 := Fld.ext E5 c9
 have c11 := Exa.wr W2 P0
 have c12 := Exa.ext E5 c11
 refine go_putF X5 hx hZ hown (host := "") (Or.inl (wd hw 18 rfl)) Via.refl e5 c10 c12 (Or.inr ⟨(wd hw 19 rfl), rfl, hnm⟩) (wd hw 1 rfl) (ty := (.array .int)) (by decide) rfl rfl (hb hby d1_20) rfl rfl ?_
 intro T13 h13 X13 e13 W13
 have N13 := Fr.snoc X13 N3 P11
 have F13 : Fld Z h13 a "com/example/copse/copse/graph/TargetSearch" "reachedIn" "[I" (.ref a5) := Fld.same W13 c10
 show Gg T13 m 23 []
 refine go_st (fun _ kq => XS.aloadN X13.here hx rfl (hb hby d1_23) rfl rfl kq) ?_
 show Gg T13 m 24 [(.ref a)]
 refine go_st (fun _ kq => XS.iloadN X13.here hx rfl (hb hby d1_24) rfl kq) ?_
 show Gg T13 m 25 [(.int (2 : Int32)), (.ref a)]
 refine go_newP X13 hx hZ (wd hw 17 rfl) e13 (hb hby d1_25) rfl rfl 2 (by decide) 2 (Nat.le_refl _) (by decide) (by decide) (by decide) ?_
 intro T14 h14 a14 g14 X14 e14 E14 G14
 have y15 : h0.size ≤ h5.size := Nat.le_trans y6 E5.1
 have y16 : h0.size ≤ h13.size := (Wr.size W13).symm ▸ y15
 have c17 : a < h5.size := Nat.lt_of_lt_of_le c7 E5.1
 have c18 : a < h13.size := (Wr.size W13).symm ▸ c17
 have c20 : a5 < h13.size := (Wr.size W13).symm ▸ lt_a5
 show Gg T14 m 27 [(.ref a14), (.ref a)]
 have c24 := Fld.other W2 P7 (Or.inr (slot_ne (a0 := a0) (t := (.array .int)) (t' := .long) (Or.inr (wd hw 21 rfl)) (Or.inl (wd hw 11 rfl)) (by decide) (by decide) (by decide)))
 have c25 := Fld.ext E5 c24
 have c26 := Fld.other W13 c25 (Or.inr (slot_ne (a0 := a0) (t := (.array .int)) (t' := (.array .int)) (Or.inr (wd hw 21 rfl)) (Or.inr (wd hw 19 rfl)) (by decide) (by decide) (by decide)))
 have c27 := Fld.ext E14 c26
 have c28 := Exa.wr W13 c12
 have c29 := Exa.ext E14 c28
 refine go_putF X14 hx hZ hown (host := "") (Or.inl (wd hw 20 rfl)) Via.refl e14 c27 c29 (Or.inr ⟨(wd hw 21 rfl), rfl, hnm⟩) (wd hw 1 rfl) (ty := (.array .int)) (by decide) rfl rfl (hb hby d1_27) rfl rfl ?_
 intro T30 h30 X30 e30 W30
 have N30 := Fr.snoc X30 N13 P11
 show Gg T30 m 30 []
 refine go_st (fun _ kq => XS.aloadN X30.here hx rfl (hb hby d1_30) rfl rfl kq) ?_
 show Gg T30 m 31 [(.ref a)]
 refine go_st (fun _ kq => XS.iloadN X30.here hx rfl (hb hby d1_31) rfl kq) ?_
 show Gg T30 m 32 [(.int (2 : Int32)), (.ref a)]
 refine go_newP X30 hx hZ (wd hw 17 rfl) e30 (hb hby d1_32) rfl rfl 2 (by decide) 2 (Nat.le_refl _) (by decide) (by decide) (by decide) ?_
 intro T31 h31 a31 g31 X31 e31 E31 G31
 have y32 : h0.size ≤ h14.size := Nat.le_trans y16 E14.1
 have y33 : h0.size ≤ h30.size := (Wr.size W30).symm ▸ y32
 have c34 : a < h14.size := Nat.lt_of_lt_of_le c18 E14.1
 have c35 : a < h30.size := (Wr.size W30).symm ▸ c34
 have c37 : a5 < h14.size := Nat.lt_of_lt_of_le c20 E14.1
 have c38 : a5 < h30.size := (Wr.size W30).symm ▸ c37
 show Gg T31 m 34 [(.ref a31), (.ref a)]
 have c44 := Fld.other W2 P8 (Or.inr (slot_ne (a0 := a0) (t := (.array .int)) (t' := .long) (Or.inr (wd hw 23 rfl)) (Or.inl (wd hw 11 rfl)) (by decide) (by decide) (by decide)))
 have c45 := Fld.ext E5 c44
 have c46 := Fld.other W13 c45 (Or.inr (slot_ne (a0 := a0) (t := (.array .int)) (t' := (.array .int)) (Or.inr (wd hw 23 rfl)) (Or.inr (wd hw 19 rfl)) (by decide) (by decide) (by decide)))
 have c47 := Fld.ext E14 c46
 have c48 := Fld.other W30 c47 (Or.inr (slot_ne (a0 := a0) (t := (.array .int)) (t' := (.array .int)) (Or.inr (wd hw 23 rfl)) (Or.inr (wd hw 21 rfl)) (by decide) (by decide) (by decide)))
 have c49 := Fld.ext E31 c48
 have c50 := Exa.wr W30 c29
 have c51 := Exa.ext E31 c50
 refine go_putF X31 hx hZ hown (host := "") (Or.inl (wd hw 22 rfl)) Via.refl e31 c49 c51 (Or.inr ⟨(wd hw 23 rfl), rfl, hnm⟩) (wd hw 1 rfl) (ty := (.array .int)) (by decide) rfl rfl (hb hby d1_34) rfl rfl ?_
 intro T52 h52 X52 e52 W52
 have N52 := Fr.snoc X52 N30 P11
 show Gg T52 m 37 []
 refine go_st (fun _ kq => XS.aloadN X52.here hx rfl (hb hby d1_37) rfl rfl kq) ?_
 show Gg T52 m 38 [(.ref a)]
 refine go_st (fun _ kq => XS.iloadN X52.here hx rfl (hb hby d1_38) rfl kq) ?_
 show Gg T52 m 39 [(.int (2 : Int32)), (.ref a)]
 refine go_newP X52 hx hZ (wd hw 17 rfl) e52 (hb hby d1_39) rfl rfl 2 (by decide) 2 (Nat.le_refl _) (by decide) (by decide) (by decide) ?_
 intro T53 h53 a53 g53 X53 e53 E53 G53
 have y54 : h0.size ≤ h31.size := Nat.le_trans y33 E31.1
 have y55 : h0.size ≤ h52.size := (Wr.size W52).symm ▸ y54
 have c56 : a < h31.size := Nat.lt_of_lt_of_le c35 E31.1
 have c57 : a < h52.size := (Wr.size W52).symm ▸ c56
 have ne58 : a ≠ a53 := fun q => Nat.lt_irrefl _ (Nat.lt_of_lt_of_le c57 (Nat.le_of_eq (g53.symm.trans q.symm)))
 have c59 : a5 < h31.size := Nat.lt_of_lt_of_le c38 E31.1
 have c60 : a5 < h52.size := (Wr.size W52).symm ▸ c59
 have ne61 : a5 ≠ a53 := fun q => Nat.lt_irrefl _ (Nat.lt_of_lt_of_le c60 (Nat.le_of_eq (g53.symm.trans q.symm)))
 have lt_a53 : a53 < h53.size := G53.lt
 have A53 : GA Z h53 a53 .int 2 (fun i => .int (own_c2 (0 : Int32) (0 : Int32) i)) := (GA.congr G53 (fun i _ => own_z2 i))
 show Gg T53 m 41 [(.ref a53), (.ref a)]
 have c69 := Fld.other W2 P9 (Or.inr (slot_ne (a0 := a0) (t := (.array .int)) (t' := .long) (Or.inr (wd hw 25 rfl)) (Or.inl (wd hw 11 rfl)) (by decide) (by decide) (by decide)))
 have c70 := Fld.ext E5 c69
 have c71 := Fld.other W13 c70 (Or.inr (slot_ne (a0 := a0) (t := (.array .int)) (t' := (.array .int)) (Or.inr (wd hw 25 rfl)) (Or.inr (wd hw 19 rfl)) (by decide) (by decide) (by decide)))
 have c72 := Fld.ext E14 c71
 have c73 := Fld.other W30 c72 (Or.inr (slot_ne (a0 := a0) (t := (.array .int)) (t' := (.array .int)) (Or.inr (wd hw 25 rfl)) (Or.inr (wd hw 21 rfl)) (by decide) (by decide) (by decide)))
 have c74 := Fld.ext E31 c73
 have c75 := Fld.other W52 c74 (Or.inr (slot_ne (a0 := a0) (t := (.array .int)) (t' := (.array .int)) (Or.inr (wd hw 25 rfl)) (Or.inr (wd hw 23 rfl)) (by decide) (by decide) (by decide)))
 have c76 := Fld.ext E53 c75
 have c77 := Exa.wr W52 c51
 have c78 := Exa.ext E53 c77
 refine go_putF X53 hx hZ hown (host := "") (Or.inl (wd hw 24 rfl)) Via.refl e53 c76 c78 (Or.inr ⟨(wd hw 25 rfl), rfl, hnm⟩) (wd hw 1 rfl) (ty := (.array .int)) (by decide) rfl rfl (hb hby d1_41) rfl rfl ?_
 intro T79 h79 X79 e79 W79
 have N79 := Fr.snoc X79 N52 P11
 have F79 : Fld Z h79 a "com/example/copse/copse/graph/TargetSearch" "pending" "[I" (.ref a53) := Fld.same W79 c76
 show Gg T79 m 44 []
 refine go_st (fun _ kq => XS.aloadN X79.here hx rfl (hb hby d1_44) rfl rfl kq) ?_
 show Gg T79 m 45 [(.ref a)]
 refine go_st (fun _ kq => XS.iloadN X79.here hx rfl (hb hby d1_45) rfl kq) ?_
 show Gg T79 m 46 [(.int (2 : Int32)), (.ref a)]
 refine go_newP X79 hx hZ (wd hw 17 rfl) e79 (hb hby d1_46) rfl rfl 2 (by decide) 2 (Nat.le_refl _) (by decide) (by decide) (by decide) ?_
 intro T80 h80 a80 g80 X80 e80 E80 G80
 have y81 : h0.size ≤ h53.size := Nat.le_trans y55 E53.1
 have y82 : h0.size ≤ h79.size := (Wr.size W79).symm ▸ y81
 have c83 : a < h53.size := Nat.lt_of_lt_of_le c57 E53.1
 have c84 : a < h79.size := (Wr.size W79).symm ▸ c83
 have ne85 : a ≠ a80 := fun q => Nat.lt_irrefl _ (Nat.lt_of_lt_of_le c84 (Nat.le_of_eq (g80.symm.trans q.symm)))
 have c86 : a5 < h53.size := Nat.lt_of_lt_of_le c60 E53.1
 have c87 : a5 < h79.size := (Wr.size W79).symm ▸ c86
 have ne88 : a5 ≠ a80 := fun q => Nat.lt_irrefl _ (Nat.lt_of_lt_of_le c87 (Nat.le_of_eq (g80.symm.trans q.symm)))
 have c95 : a53 < h79.size := (Wr.size W79).symm ▸ lt_a53
 have ne96 : a53 ≠ a80 := fun q => Nat.lt_irrefl _ (Nat.lt_of_lt_of_le c95 (Nat.le_of_eq (g80.symm.trans q.symm)))
 have A80 : GA Z h80 a80 .int 2 (fun i => .int (own_c2 (0 : Int32) (0 : Int32) i)) := (GA.congr G80 (fun i _ => own_z2 i))
 show Gg T80 m 48 [(.ref a80), (.ref a)]
 have c99 := Fld.other W2 P10 (Or.inr (slot_ne (a0 := a0) (t := (.array .int)) (t' := .long) (Or.inr (wd hw 27 rfl)) (Or.inl (wd hw 11 rfl)) (by decide) (by decide) (by decide)))
 have c100 := Fld.ext E5 c99
 have c101 := Fld.other W13 c100 (Or.inr (slot_ne (a0 := a0) (t := (.array .int)) (t' := (.array .int)) (Or.inr (wd hw 27 rfl)) (Or.inr (wd hw 19 rfl)) (by decide) (by decide) (by decide)))
 have c102 := Fld.ext E14 c101
 have c103 := Fld.other W30 c102 (Or.inr (slot_ne (a0 := a0) (t := (.array .int)) (t' := (.array .int)) (Or.inr (wd hw 27 rfl)) (Or.inr (wd hw 21 rfl)) (by decide) (by decide) (by decide)))
 have c104 := Fld.ext E31 c103
 have c105 := Fld.other W52 c104 (Or.inr (slot_ne (a0 := a0) (t := (.array .int)) (t' := (.array .int)) (Or.inr (wd hw 27 rfl)) (Or.inr (wd hw 23 rfl)) (by decide) (by decide) (by decide)))
 have c106 := Fld.ext E53 c105
 have c107 := Fld.other W79 c106 (Or.inr (slot_ne (a0 := a0) (t := (.array .int)) (t' := (.array .int)) (Or.inr (wd hw 27 rfl)) (Or.inr (wd hw 25 rfl)) (by decide) (by decide) (by decide)))
 have c108 := Fld.ext E80 c107
 have c109 := Exa.wr W79 c78
 have c110 := Exa.ext E80 c109
 refine go_putF X80 hx hZ hown (host := "") (Or.inl (wd hw 26 rfl)) Via.refl e80 c108 c110 (Or.inr ⟨(wd hw 27 rfl), rfl, hnm⟩) (wd hw 1 rfl) (ty := (.array .int)) (by decide) rfl rfl (hb hby d1_48) rfl rfl ?_
 intro T111 h111 X111 e111 W111
 have N111 := Fr.snoc X111 N79 P11
 have F111 : Fld Z h111 a "com/example/copse/copse/graph/TargetSearch" "wantedIn" "[I" (.ref a80) := Fld.same W111 c108
 show Gg T111 m 51 []
 have c112 := Fld.ext E5 F2
 have c113 := Fld.other W13 c112 (Or.inr (slot_ne (a0 := a0) (t := .long) (t' := (.array .int)) (Or.inl (wd hw 11 rfl)) (Or.inr (wd hw 19 rfl)) (by decide) (by decide) (by decide)))
 have c114 := Fld.ext E14 c113
 have c115 := Fld.other W30 c114 (Or.inr (slot_ne (a0 := a0) (t := .long) (t' := (.array .int)) (Or.inl (wd hw 11 rfl)) (Or.inr (wd hw 21 rfl)) (by decide) (by decide) (by decide)))
 have c116 := Fld.ext E31 c115
 have c117 := Fld.other W52 c116 (Or.inr (slot_ne (a0 := a0) (t := .long) (t' := (.array .int)) (Or.inl (wd hw 11 rfl)) (Or.inr (wd hw 23 rfl)) (by decide) (by decide) (by decide)))
 have c118 := Fld.ext E53 c117
 have c119 := Fld.other W79 c118 (Or.inr (slot_ne (a0 := a0) (t := .long) (t' := (.array .int)) (Or.inl (wd hw 11 rfl)) (Or.inr (wd hw 25 rfl)) (by decide) (by decide) (by decide)))
 have c120 := Fld.ext E80 c119
 have c121 := Fld.other W111 c120 (Or.inr (slot_ne (a0 := a0) (t := .long) (t' := (.array .int)) (Or.inl (wd hw 11 rfl)) (Or.inr (wd hw 27 rfl)) (by decide) (by decide) (by decide)))
 have c122 := Fld.other W2 P2 (Or.inr (slot_ne (a0 := a0) (t := .long) (t' := .long) (Or.inl (wd hw 34 rfl)) (Or.inl (wd hw 11 rfl)) (by decide) (by decide) (by decide)))
 have c123 := Fld.ext E5 c122
 have c124 := Fld.other W13 c123 (Or.inr (slot_ne (a0 := a0) (t := .long) (t' := (.array .int)) (Or.inl (wd hw 34 rfl)) (Or.inr (wd hw 19 rfl)) (by decide) (by decide) (by decide)))
 have c125 := Fld.ext E14 c124
 have c126 := Fld.other W30 c125 (Or.inr (slot_ne (a0 := a0) (t := .long) (t' := (.array .int)) (Or.inl (wd hw 34 rfl)) (Or.inr (wd hw 21 rfl)) (by decide) (by decide) (by decide)))
 have c127 := Fld.ext E31 c126
 have c128 := Fld.other W52 c127 (Or.inr (slot_ne (a0 := a0) (t := .long) (t' := (.array .int)) (Or.inl (wd hw 34 rfl)) (Or.inr (wd hw 23 rfl)) (by decide) (by decide) (by decide)))
 have c129 := Fld.ext E53 c128
 have c130 := Fld.other W79 c129 (Or.inr (slot_ne (a0 := a0) (t := .long) (t' := (.array .int)) (Or.inl (wd hw 34 rfl)) (Or.inr (wd hw 25 rfl)) (by decide) (by decide) (by decide)))
 have c131 := Fld.ext E80 c130
 have c132 := Fld.other W111 c131 (Or.inr (slot_ne (a0 := a0) (t := .long) (t' := (.array .int)) (Or.inl (wd hw 34 rfl)) (Or.inr (wd hw 27 rfl)) (by decide) (by decide) (by decide)))
 have c133 := Fld.other W2 P3 (Or.inr (slot_ne (a0 := a0) (t := .int) (t' := .long) (Or.inl (wd hw 76 rfl)) (Or.inl (wd hw 11 rfl)) (by decide) (by decide) (by decide)))
 have c134 := Fld.ext E5 c133
 have c135 := Fld.other W13 c134 (Or.inr (slot_ne (a0 := a0) (t := .int) (t' := (.array .int)) (Or.inl (wd hw 76 rfl)) (Or.inr (wd hw 19 rfl)) (by decide) (by decide) (by decide)))
 have c136 := Fld.ext E14 c135
 have c137 := Fld.other W30 c136 (Or.inr (slot_ne (a0 := a0) (t := .int) (t' := (.array .int)) (Or.inl (wd hw 76 rfl)) (Or.inr (wd hw 21 rfl)) (by decide) (by decide) (by decide)))
 have c138 := Fld.ext E31 c137
 have c139 := Fld.other W52 c138 (Or.inr (slot_ne (a0 := a0) (t := .int) (t' := (.array .int)) (Or.inl (wd hw 76 rfl)) (Or.inr (wd hw 23 rfl)) (by decide) (by decide) (by decide)))
 have c140 := Fld.ext E53 c139
 have c141 := Fld.other W79 c140 (Or.inr (slot_ne (a0 := a0) (t := .int) (t' := (.array .int)) (Or.inl (wd hw 76 rfl)) (Or.inr (wd hw 25 rfl)) (by decide) (by decide) (by decide)))
 have c142 := Fld.ext E80 c141
 have c143 := Fld.other W111 c142 (Or.inr (slot_ne (a0 := a0) (t := .int) (t' := (.array .int)) (Or.inl (wd hw 76 rfl)) (Or.inr (wd hw 27 rfl)) (by decide) (by decide) (by decide)))
 have c144 := Fld.other W2 P4 (Or.inr (slot_ne (a0 := a0) (t := .int) (t' := .long) (Or.inl (wd hw 79 rfl)) (Or.inl (wd hw 11 rfl)) (by decide) (by decide) (by decide)))
 have c145 := Fld.ext E5 c144
 have c146 := Fld.other W13 c145 (Or.inr (slot_ne (a0 := a0) (t := .int) (t' := (.array .int)) (Or.inl (wd hw 79 rfl)) (Or.inr (wd hw 19 rfl)) (by decide) (by decide) (by decide)))
 have c147 := Fld.ext E14 c146
 have c148 := Fld.other W30 c147 (Or.inr (slot_ne (a0 := a0) (t := .int) (t' := (.array .int)) (Or.inl (wd hw 79 rfl)) (Or.inr (wd hw 21 rfl)) (by decide) (by decide) (by decide)))
 have c149 := Fld.ext E31 c148
 have c150 := Fld.other W52 c149 (Or.inr (slot_ne (a0 := a0) (t := .int) (t' := (.array .int)) (Or.inl (wd hw 79 rfl)) (Or.inr (wd hw 23 rfl)) (by decide) (by decide) (by decide)))
 have c151 := Fld.ext E53 c150
 have c152 := Fld.other W79 c151 (Or.inr (slot_ne (a0 := a0) (t := .int) (t' := (.array .int)) (Or.inl (wd hw 79 rfl)) (Or.inr (wd hw 25 rfl)) (by decide) (by decide) (by decide)))
 have c153 := Fld.ext E80 c152
 have c154 := Fld.other W111 c153 (Or.inr (slot_ne (a0 := a0) (t := .int) (t' := (.array .int)) (Or.inl (wd hw 79 rfl)) (Or.inr (wd hw 27 rfl)) (by decide) (by decide) (by decide)))
 have c155 := Fld.other W2 P5 (Or.inr (slot_ne (a0 := a0) (t := .int) (t' := .long) (Or.inl (wd hw 103 rfl)) (Or.inl (wd hw 11 rfl)) (by decide) (by decide) (by decide)))
 have c156 := Fld.ext E5 c155
 have c157 := Fld.other W13 c156 (Or.inr (slot_ne (a0 := a0) (t := .int) (t' := (.array .int)) (Or.inl (wd hw 103 rfl)) (Or.inr (wd hw 19 rfl)) (by decide) (by decide) (by decide)))
 have c158 := Fld.ext E14 c157
 have c159 := Fld.other W30 c158 (Or.inr (slot_ne (a0 := a0) (t := .int) (t' := (.array .int)) (Or.inl (wd hw 103 rfl)) (Or.inr (wd hw 21 rfl)) (by decide) (by decide) (by decide)))
 have c160 := Fld.ext E31 c159
 have c161 := Fld.other W52 c160 (Or.inr (slot_ne (a0 := a0) (t := .int) (t' := (.array .int)) (Or.inl (wd hw 103 rfl)) (Or.inr (wd hw 23 rfl)) (by decide) (by decide) (by decide)))
 have c162 := Fld.ext E53 c161
 have c163 := Fld.other W79 c162 (Or.inr (slot_ne (a0 := a0) (t := .int) (t' := (.array .int)) (Or.inl (wd hw 103 rfl)) (Or.inr (wd hw 25 rfl)) (by decide) (by decide) (by decide)))
 have c164 := Fld.ext E80 c163
 have c165 := Fld.other W111 c164 (Or.inr (slot_ne (a0 := a0) (t := .int) (t' := (.array .int)) (Or.inl (wd hw 103 rfl)) (Or.inr (wd hw 27 rfl)) (by decide) (by decide) (by decide)))
 have c166 := Fld.ext E14 F13
 have c167 := Fld.other W30 c166 (Or.inr (slot_ne (a0 := a0) (t := (.array .int)) (t' := (.array .int)) (Or.inr (wd hw 19 rfl)) (Or.inr (wd hw 21 rfl)) (by decide) (by decide) (by decide)))
 have c168 := Fld.ext E31 c167
 have c169 := Fld.other W52 c168 (Or.inr (slot_ne (a0 := a0) (t := (.array .int)) (t' := (.array .int)) (Or.inr (wd hw 19 rfl)) (Or.inr (wd hw 23 rfl)) (by decide) (by decide) (by decide)))
 have c170 := Fld.ext E53 c169
 have c171 := Fld.other W79 c170 (Or.inr (slot_ne (a0 := a0) (t := (.array .int)) (t' := (.array .int)) (Or.inr (wd hw 19 rfl)) (Or.inr (wd hw 25 rfl)) (by decide) (by decide) (by decide)))
 have c172 := Fld.ext E80 c171
 have c173 := Fld.other W111 c172 (Or.inr (slot_ne (a0 := a0) (t := (.array .int)) (t' := (.array .int)) (Or.inr (wd hw 19 rfl)) (Or.inr (wd hw 27 rfl)) (by decide) (by decide) (by decide)))
 have c174 := Fld.ext E80 F79
 have c175 := Fld.other W111 c174 (Or.inr (slot_ne (a0 := a0) (t := (.array .int)) (t' := (.array .int)) (Or.inr (wd hw 25 rfl)) (Or.inr (wd hw 27 rfl)) (by decide) (by decide) (by decide)))
 have c176 := A5.other W13 (Ne.symm ne8)
 have c177 := c176.ext E14
 have c178 := c177.other W30 (Ne.symm ne8)
 have c179 := c178.ext E31
 have c180 := c179.other W52 (Ne.symm ne8)
 have c181 := c180.ext E53
 have c182 := c181.other W79 (Ne.symm ne8)
 have c183 := c182.ext E80
 have c184 := c183.other W111 (Ne.symm ne8)
 have c185 := A53.other W79 (Ne.symm ne58)
 have c186 := c185.ext E80
 have c187 := c186.other W111 (Ne.symm ne58)
 have c188 := A80.other W111 (Ne.symm ne85)
 exact go_ret0 X111 hx hlk hret (hb hby d1_51) (by decide) (by decide) (by rw [e111]; exact ⟨a5, a53, a80, rfl, N111, (Keep.wr (Keep.ext (Keep.wr (Keep.ext (Keep.wr (Keep.ext (Keep.wr (Keep.ext (Keep.wr (Keep.ext (Keep.wr (Keep.refl h0 [a]) W2 (Or.inl (by simp))) E5) W13 (Or.inl (by simp))) E14) W30 (Or.inl (by simp))) E31) W52 (Or.inl (by simp))) E53) W79 (Or.inl (by simp))) E80) W111 (Or.inl (by simp))), (Nat.le_trans y6 (Nat.le_of_eq g5.symm)), (Nat.le_trans y55 (Nat.le_of_eq g53.symm)), (Nat.le_trans y82 (Nat.le_of_eq g80.symm)), ne61, ne88, ne96, ne8, ne58, ne85, c121, c132, c143, c154, c165, c173, c175, F111, c184, c187, c188⟩)
theorem d4_0 : decode prog_46_method_4_code 0 = .ok (.aload_n 0, 1) := by decide +kernel
theorem d4_1 : decode prog_46_method_4_code 1 = .ok (.getfield 39, 3) := by decide +kernel
theorem d4_4 : decode prog_46_method_4_code 4 = .ok (.aload_n 0, 1) := by decide +kernel
theorem d4_5 : decode prog_46_method_4_code 5 = .ok (.getfield 11, 3) := by decide +kernel
theorem d4_8 : decode prog_46_method_4_code 8 = .ok (.lcmp, 1) := by decide +kernel
theorem d4_9 : decode prog_46_method_4_code 9 = .ok (.ifCond .lt 7, 3) := by decide +kernel
theorem d4_12 : decode prog_46_method_4_code 12 = .ok (.iconst 1, 1) := by decide +kernel
theorem d4_13 : decode prog_46_method_4_code 13 = .ok (.goto 4, 3) := by decide +kernel
theorem d4_16 : decode prog_46_method_4_code 16 = .ok (.iconst 0, 1) := by decide +kernel
theorem d4_17 : decode prog_46_method_4_code 17 = .ok (.ireturn, 1) := by decide +kernel
theorem pn2 : plainFor (⟨"com/example/copse/copse/graph/TargetSearch", "arcLimitReached", "()Z"⟩ : MethodName) = true := by first | (refine plainFor_of_name ?_; simp [plainName, overriddenIn]; done) | (refine plainFor_of_name ?_; decide +kernel) | decide +kernel
def fAlr1  : Int32 := (0 : Int32)
theorem ef_alr1 (m : MethodId) (a : Addr) (xa : Int64) (xl : Int64) : entryFrame m #[(.ref a)] 1 = mkF m 0 #[.val (.ref a)] [] := by first | (simp [entryFrame, mkF, argsToLocals, Value.category]; done) | rfl
abbrev rm_alr1 : Room := ({ frames := 0, cells := 0, slots := 0, locals := 0 } : Room)
set_option maxRecDepth 65536 in
set_option maxHeartbeats 4000000 in
theorem met_alr1 (l : Launch) (Z : State) (a0 : Array Value) (hw : ∀ d ∈ tables_1, d.before a0 Z = true) (a : Addr) (xa : Int64) (xl : Int64) (h0 : Heap) (n0 : Nat) (Z0 : n0 ≤ h0.size) (P0 : Fld Z h0 a "com/example/copse/copse/graph/TargetSearch" "arcsLookedAt" "J" (.long xa)) (P1 : Fld Z h0 a "com/example/copse/copse/graph/TargetSearch" "arcLimit" "J" (.long xl)) (P2 : xa < xl) :
  Met l (⟨"com/example/copse/copse/graph/TargetSearch", "arcLimitReached", "()Z"⟩ : MethodName) prog_46_method_4_code 1 (some FieldType.boolean) [] rm_alr1 Z #[(.ref a)] h0 (QV (some (.int (fAlr1 ))) h0 n0) 0 0 := by
 refine own_body pn2 ?_
 intro p e s m below meth c s₁ ct X0 e0
 obtain ⟨hx, hZ, hown, hby, hml, hret, hlk, hnm⟩ := ct
 have N0 := Fr.nil n0
 refine castGo (ef_alr1 m a xa xl) ?_
 unfold fAlr1
 show Gg s₁ m 0 []
 refine go_st (fun _ kq => XS.aloadN X0.here hx rfl (hb hby d4_0) rfl rfl kq) ?_
 show Gg s₁ m 1 [(.ref a)]
 refine go_getF X0 hx hZ hown (host := "") (Or.inl (wd hw 33 rfl)) Via.refl e0 P0 (hb hby d4_1) rfl rfl ?_
 intro T189 X189 e189
 show Gg T189 m 4 [(.long xa)]
 refine go_st (fun _ kq => XS.aloadN X189.here hx rfl (hb hby d4_4) rfl rfl kq) ?_
 show Gg T189 m 5 [(.ref a), (.long xa)]
 refine go_getF X189 hx hZ hown (host := "") (Or.inl (wd hw 10 rfl)) Via.refl e189 P1 (hb hby d4_5) rfl rfl ?_
 intro T190 X190 e190
 show Gg T190 m 8 [(.long xl), (.long xa)]
 refine go_st (fun _ kq => XT.lcmp X190.here hx rfl (hb hby d4_8) rfl kq) ?_
 show Gg T190 m 9 [(.int (XT.cmpL xa xl))]
 refine go_st (fun _ kq => XS.ifYes X190.here hx rfl (pc0 := 9) (pc' := 16) rfl (hb hby d4_9) rfl (XT.ll_lt_t P2) (by decide) (by decide) kq) ?_
 show Gg T190 m 16 []
 refine go_st (fun _ kq => XT.iconstV X190.here hx rfl (0 : Int32) (hb hby d4_16) (by decide) kq) ?_
 show Gg T190 m 17 [(.int (0 : Int32))]
 exact go_retB (w := (0 : Int32)) X190 hx hlk hret (hb hby d4_17) (by decide) (by decide) (by decide) ⟨rfl, N0, e190⟩
def fAlr0  : Int32 := (1 : Int32)
theorem ef_alr0 (m : MethodId) (a : Addr) (xa : Int64) (xl : Int64) : entryFrame m #[(.ref a)] 1 = mkF m 0 #[.val (.ref a)] [] := by first | (simp [entryFrame, mkF, argsToLocals, Value.category]; done) | rfl
abbrev rm_alr0 : Room := ({ frames := 0, cells := 0, slots := 0, locals := 0 } : Room)
set_option maxRecDepth 65536 in
set_option maxHeartbeats 4000000 in
theorem met_alr0 (l : Launch) (Z : State) (a0 : Array Value) (hw : ∀ d ∈ tables_1, d.before a0 Z = true) (a : Addr) (xa : Int64) (xl : Int64) (h0 : Heap) (n0 : Nat) (Z0 : n0 ≤ h0.size) (P0 : Fld Z h0 a "com/example/copse/copse/graph/TargetSearch" "arcsLookedAt" "J" (.long xa)) (P1 : Fld Z h0 a "com/example/copse/copse/graph/TargetSearch" "arcLimit" "J" (.long xl)) (P2 : ¬ (xa < xl)) :
  Met l (⟨"com/example/copse/copse/graph/TargetSearch", "arcLimitReached", "()Z"⟩ : MethodName) prog_46_method_4_code 1 (some FieldType.boolean) [] rm_alr0 Z #[(.ref a)] h0 (QV (some (.int (fAlr0 ))) h0 n0) 0 0 := by
 refine own_body pn2 ?_
 intro p e s m below meth c s₁ ct X0 e0
 obtain ⟨hx, hZ, hown, hby, hml, hret, hlk, hnm⟩ := ct
 have N0 := Fr.nil n0
 refine castGo (ef_alr0 m a xa xl) ?_
 unfold fAlr0
 show Gg s₁ m 0 []
 refine go_st (fun _ kq => XS.aloadN X0.here hx rfl (hb hby d4_0) rfl rfl kq) ?_
 show Gg s₁ m 1 [(.ref a)]
 refine go_getF X0 hx hZ hown (host := "") (Or.inl (wd hw 33 rfl)) Via.refl e0 P0 (hb hby d4_1) rfl rfl ?_
 intro T191 X191 e191
 show Gg T191 m 4 [(.long xa)]
 refine go_st (fun _ kq => XS.aloadN X191.here hx rfl (hb hby d4_4) rfl rfl kq) ?_
 show Gg T191 m 5 [(.ref a), (.long xa)]
 refine go_getF X191 hx hZ hown (host := "") (Or.inl (wd hw 10 rfl)) Via.refl e191 P1 (hb hby d4_5) rfl rfl ?_
 intro T192 X192 e192
 show Gg T192 m 8 [(.long xl), (.long xa)]
 refine go_st (fun _ kq => XT.lcmp X192.here hx rfl (hb hby d4_8) rfl kq) ?_
 show Gg T192 m 9 [(.int (XT.cmpL xa xl))]
 refine go_st (fun _ kq => XS.ifNo X192.here hx rfl (hb hby d4_9) rfl (XT.ll_lt_f P2) kq) ?_
 show Gg T192 m 12 []
 refine go_st (fun _ kq => XT.iconstV X192.here hx rfl (1 : Int32) (hb hby d4_12) (by decide) kq) ?_
 show Gg T192 m 13 [(.int (1 : Int32))]
 refine go_st (fun _ kq => XS.goto X192.here hx rfl (pc0 := 13) (pc' := 17) rfl (hb hby d4_13) (by decide) (by decide) kq) ?_
 show Gg T192 m 17 [(.int (1 : Int32))]
 exact go_retB (w := (1 : Int32)) X192 hx hlk hret (hb hby d4_17) (by decide) (by decide) (by decide) ⟨rfl, N0, e192⟩
theorem d15_0 : decode prog_46_method_2_code 0 = .ok (.aload_n 0, 1) := by decide +kernel
theorem d15_1 : decode prog_46_method_2_code 1 = .ok (.getfield 39, 3) := by decide +kernel
theorem d15_4 : decode prog_46_method_2_code 4 = .ok (.lreturn, 1) := by decide +kernel
theorem pn3 : plainFor (⟨"com/example/copse/copse/graph/TargetSearch", "arcsLookedAt", "()J"⟩ : MethodName) = true := by first | (refine plainFor_of_name ?_; simp [plainName, overriddenIn]; done) | (refine plainFor_of_name ?_; decide +kernel) | decide +kernel
def fAla (xa : Int64) : Int64 := xa
theorem ef_15 (m : MethodId) (a : Addr) (xa : Int64) : entryFrame m #[(.ref a)] 1 = mkF m 0 #[.val (.ref a)] [] := by first | (simp [entryFrame, mkF, argsToLocals, Value.category]; done) | rfl
abbrev rm_15 : Room := ({ frames := 0, cells := 0, slots := 0, locals := 0 } : Room)
set_option maxRecDepth 65536 in
set_option maxHeartbeats 4000000 in
theorem met_15 (l : Launch) (Z : State) (a0 : Array Value) (hw : ∀ d ∈ tables_1, d.before a0 Z = true) (a : Addr) (xa : Int64) (h0 : Heap) (n0 : Nat) (Z0 : n0 ≤ h0.size) (P0 : Fld Z h0 a "com/example/copse/copse/graph/TargetSearch" "arcsLookedAt" "J" (.long xa)) :
  Met l (⟨"com/example/copse/copse/graph/TargetSearch", "arcsLookedAt", "()J"⟩ : MethodName) prog_46_method_2_code 1 (some FieldType.long) [] rm_15 Z #[(.ref a)] h0 (QV (some (.long (fAla xa))) h0 n0) 0 0 := by
 refine own_body pn3 ?_
 intro p e s m below meth c s₁ ct X0 e0
 obtain ⟨hx, hZ, hown, hby, hml, hret, hlk, hnm⟩ := ct
 have N0 := Fr.nil n0
 refine castGo (ef_15 m a xa) ?_
 unfold fAla
 show Gg s₁ m 0 []
 refine go_st (fun _ kq => XS.aloadN X0.here hx rfl (hb hby d15_0) rfl rfl kq) ?_
 show Gg s₁ m 1 [(.ref a)]
 refine go_getF X0 hx hZ hown (host := "") (Or.inl (wd hw 33 rfl)) Via.refl e0 P0 (hb hby d15_1) rfl rfl ?_
 intro T193 X193 e193
 show Gg T193 m 4 [(.long xa)]
 exact go_retL X193 hx hlk hret (hb hby d15_4) (by decide) (by decide) ⟨rfl, N0, e193⟩
theorem d5_0 : decode prog_46_method_3_code 0 = .ok (.aload_n 0, 1) := by decide +kernel
theorem d5_1 : decode prog_46_method_3_code 1 = .ok (.lload_n 1, 1) := by decide +kernel
theorem d5_2 : decode prog_46_method_3_code 2 = .ok (.putfield 11, 3) := by decide +kernel
theorem d5_5 : decode prog_46_method_3_code 5 = .ok (.return_, 1) := by decide +kernel
theorem pn4 : plainFor (⟨"com/example/copse/copse/graph/TargetSearch", "setArcLimit", "(J)V"⟩ : MethodName) = true := by first | (refine plainFor_of_name ?_; simp [plainName, overriddenIn]; done) | (refine plainFor_of_name ?_; decide +kernel) | decide +kernel
def Q_sal (Z : State) (a : Addr) (xn : Int64) (xl : Int64) (xa : Int64) (xs : Int32) (xu : Int32) (xq : Int32) (ra : Addr) (pe : Addr) (wa : Addr) (h0 : Heap) (n0 : Nat) (v : Option Value) (h : Heap) (L : List Loc) : Prop := v = none ∧ Fr n0 L ∧ Keep h0 h [a] ∧ Fld Z h a "com/example/copse/copse/graph/TargetSearch" "arcLimit" "J" (.long xn) ∧ Fld Z h a "com/example/copse/copse/graph/TargetSearch" "arcsLookedAt" "J" (.long xa) ∧ Fld Z h a "com/example/copse/copse/graph/TargetSearch" "search" "I" (.int xs) ∧ Fld Z h a "com/example/copse/copse/graph/TargetSearch" "unreached" "I" (.int xu) ∧ Fld Z h a "com/example/copse/copse/graph/TargetSearch" "queued" "I" (.int xq) ∧ Fld Z h a "com/example/copse/copse/graph/TargetSearch" "reachedIn" "[I" (.ref ra) ∧ Fld Z h a "com/example/copse/copse/graph/TargetSearch" "pending" "[I" (.ref pe) ∧ Fld Z h a "com/example/copse/copse/graph/TargetSearch" "wantedIn" "[I" (.ref wa)
theorem ef_sal (m : MethodId) (a : Addr) (xn : Int64) (xl : Int64) (xa : Int64) (xs : Int32) (xu : Int32) (xq : Int32) (ra : Addr) (pe : Addr) (wa : Addr) : entryFrame m #[(.ref a), (.long xn)] 3 = mkF m 0 #[.val (.ref a), .val (.long xn), .second] [] := by first | (simp [entryFrame, mkF, argsToLocals, Value.category]; done) | rfl
abbrev rm_sal : Room := ({ frames := 0, cells := 0, slots := 0, locals := 0 } : Room)
set_option maxRecDepth 65536 in
set_option maxHeartbeats 4000000 in
theorem met_sal (l : Launch) (Z : State) (a0 : Array Value) (hw : ∀ d ∈ tables_1, d.before a0 Z = true) (a : Addr) (xn : Int64) (xl : Int64) (xa : Int64) (xs : Int32) (xu : Int32) (xq : Int32) (ra : Addr) (pe : Addr) (wa : Addr) (h0 : Heap) (n0 : Nat) (Z0 : n0 ≤ h0.size) (P0 : Exa Z h0 a "com/example/copse/copse/graph/TargetSearch") (P1 : n0 ≤ a) (P2 : Fld Z h0 a "com/example/copse/copse/graph/TargetSearch" "arcLimit" "J" (.long xl)) (P3 : Fld Z h0 a "com/example/copse/copse/graph/TargetSearch" "arcsLookedAt" "J" (.long xa)) (P4 : Fld Z h0 a "com/example/copse/copse/graph/TargetSearch" "search" "I" (.int xs)) (P5 : Fld Z h0 a "com/example/copse/copse/graph/TargetSearch" "unreached" "I" (.int xu)) (P6 : Fld Z h0 a "com/example/copse/copse/graph/TargetSearch" "queued" "I" (.int xq)) (P7 : Fld Z h0 a "com/example/copse/copse/graph/TargetSearch" "reachedIn" "[I" (.ref ra)) (P8 : Fld Z h0 a "com/example/copse/copse/graph/TargetSearch" "pending" "[I" (.ref pe)) (P9 : Fld Z h0 a "com/example/copse/copse/graph/TargetSearch" "wantedIn" "[I" (.ref wa)) :
  Met l (⟨"com/example/copse/copse/graph/TargetSearch", "setArcLimit", "(J)V"⟩ : MethodName) prog_46_method_3_code 3 none [] rm_sal Z #[(.ref a), (.long xn)] h0 (Q_sal Z a xn xl xa xs xu xq ra pe wa h0 n0) rm_sal.cells rm_sal.slots := by
 refine own_body pn4 ?_
 intro p e s m below meth c s₁ ct X0 e0
 obtain ⟨hx, hZ, hown, hby, hml, hret, hlk, hnm⟩ := ct
 have N0 := Fr.nil n0
 refine castGo (ef_sal m a xn xl xa xs xu xq ra pe wa) ?_
 show Gg s₁ m 0 []
 refine go_st (fun _ kq => XS.aloadN X0.here hx rfl (hb hby d5_0) rfl rfl kq) ?_
 show Gg s₁ m 1 [(.ref a)]
 refine go_st (fun _ kq => XT.lloadN X0.here hx rfl (hb hby d5_1) rfl kq) ?_
 show Gg s₁ m 2 [(.long xn), (.ref a)]
 refine go_putF X0 hx hZ hown (host := "") (Or.inl (wd hw 10 rfl)) Via.refl e0 P2 P0 (Or.inl (wd hw 11 rfl)) (wd hw 1 rfl) (ty := .long) (by decide) rfl rfl (hb hby d5_2) rfl rfl ?_
 intro T194 h194 X194 e194 W194
 have N194 := Fr.snoc X194 N0 P1
 have F194 : Fld Z h194 a "com/example/copse/copse/graph/TargetSearch" "arcLimit" "J" (.long xn) := Fld.same W194 P2
 show Gg T194 m 5 []
 have c195 := Fld.other W194 P3 (Or.inr (slot_ne (a0 := a0) (t := .long) (t' := .long) (Or.inl (wd hw 34 rfl)) (Or.inl (wd hw 11 rfl)) (by decide) (by decide) (by decide)))
 have c196 := Fld.other W194 P4 (Or.inr (slot_ne (a0 := a0) (t := .int) (t' := .long) (Or.inl (wd hw 76 rfl)) (Or.inl (wd hw 11 rfl)) (by decide) (by decide) (by decide)))
 have c197 := Fld.other W194 P5 (Or.inr (slot_ne (a0 := a0) (t := .int) (t' := .long) (Or.inl (wd hw 79 rfl)) (Or.inl (wd hw 11 rfl)) (by decide) (by decide) (by decide)))
 have c198 := Fld.other W194 P6 (Or.inr (slot_ne (a0 := a0) (t := .int) (t' := .long) (Or.inl (wd hw 103 rfl)) (Or.inl (wd hw 11 rfl)) (by decide) (by decide) (by decide)))
 have c199 := Fld.other W194 P7 (Or.inr (slot_ne (a0 := a0) (t := (.array .int)) (t' := .long) (Or.inr (wd hw 19 rfl)) (Or.inl (wd hw 11 rfl)) (by decide) (by decide) (by decide)))
 have c200 := Fld.other W194 P8 (Or.inr (slot_ne (a0 := a0) (t := (.array .int)) (t' := .long) (Or.inr (wd hw 25 rfl)) (Or.inl (wd hw 11 rfl)) (by decide) (by decide) (by decide)))
 have c201 := Fld.other W194 P9 (Or.inr (slot_ne (a0 := a0) (t := (.array .int)) (t' := .long) (Or.inr (wd hw 27 rfl)) (Or.inl (wd hw 11 rfl)) (by decide) (by decide) (by decide)))
 exact go_ret0 X194 hx hlk hret (hb hby d5_5) (by decide) (by decide) (by rw [e194]; exact ⟨rfl, N194, (Keep.wr (Keep.refl h0 [a]) W194 (Or.inl (by simp))), F194, c195, c196, c197, c198, c199, c200, c201⟩)
theorem d6_0 : decode method_1_code 0 = .ok (.aload_n 0, 1) := by decide +kernel
theorem d6_1 : decode method_1_code 1 = .ok (.invokespecial 1, 3) := by decide +kernel
theorem d6_4 : decode method_1_code 4 = .ok (.aload_n 0, 1) := by decide +kernel
theorem d6_5 : decode method_1_code 5 = .ok (.iload_n 1, 1) := by decide +kernel
theorem d6_6 : decode method_1_code 6 = .ok (.putfield 7, 3) := by decide +kernel
theorem d6_9 : decode method_1_code 9 = .ok (.return_, 1) := by decide +kernel
theorem pn5 : plainFor (⟨"com/example/copse/copse/graph/TargetSearchArcLimitReachedPinLaw", "<init>", "(I)V"⟩ : MethodName) = true := by first | (refine plainFor_of_name ?_; simp [plainName, overriddenIn]; done) | (refine plainFor_of_name ?_; decide +kernel) | decide +kernel
def Q_lci (Z : State) (a : Addr) (dq : Int32) (h0 : Heap) (n0 : Nat) (v : Option Value) (h : Heap) (L : List Loc) : Prop := v = none ∧ Fr n0 L ∧ Keep h0 h [a] ∧ Fld Z h a "com/example/copse/copse/graph/TargetSearchArcLimitReachedPinLaw" "degree" "I" (.int dq)
theorem ef_lci (m : MethodId) (a : Addr) (dq : Int32) : entryFrame m #[(.ref a), (.int dq)] 2 = mkF m 0 #[.val (.ref a), .val (.int dq)] [] := by first | (simp [entryFrame, mkF, argsToLocals, Value.category]; done) | rfl
abbrev rm_lci : Room := ({ frames := 1, cells := 0, slots := 0, locals := 12 } : Room)
set_option maxRecDepth 65536 in
set_option maxHeartbeats 4000000 in
theorem met_lci (l : Launch) (Z : State) (a0 : Array Value) (hw : ∀ d ∈ tables_1, d.before a0 Z = true) (a : Addr) (dq : Int32) (h0 : Heap) (n0 : Nat) (Z0 : n0 ≤ h0.size) (P0 : Exa Z h0 a "com/example/copse/copse/graph/TargetSearchArcLimitReachedPinLaw") (P1 : Fld Z h0 a "com/example/copse/copse/graph/TargetSearchArcLimitReachedPinLaw" "degree" "I" (.int (0 : Int32))) (P2 : n0 ≤ a) :
  Met l (⟨"com/example/copse/copse/graph/TargetSearchArcLimitReachedPinLaw", "<init>", "(I)V"⟩ : MethodName) method_1_code 2 none [] rm_lci Z #[(.ref a), (.int dq)] h0 (Q_lci Z a dq h0 n0) rm_lci.cells rm_lci.slots := by
 refine own_body pn5 ?_
 intro p e s m below meth c s₁ ct X0 e0
 obtain ⟨hx, hZ, hown, hby, hml, hret, hlk, hnm⟩ := ct
 have N0 := Fr.nil n0
 refine castGo (ef_lci m a dq) ?_
 show Gg s₁ m 0 []
 refine go_st (fun _ kq => XS.aloadN X0.here hx rfl (hb hby d6_0) rfl rfl kq) ?_
 show Gg s₁ m 1 [(.ref a)]
 refine go_initO X0 hx hZ hml hown (wd hw 46 rfl) (wd hw 7 rfl) (wd hw 8 rfl) e0 (hb hby d6_1) rfl rfl rfl (by decide) (W := 0) (by show 2 * 0 + _ ≤ _; exact Nat.le_of_eq rfl) (by decide) ?_
 intro T202 X202 e202
 show Gg T202 m 4 []
 refine go_st (fun _ kq => XS.aloadN X202.here hx rfl (hb hby d6_4) rfl rfl kq) ?_
 show Gg T202 m 5 [(.ref a)]
 refine go_st (fun _ kq => XS.iloadN X202.here hx rfl (hb hby d6_5) rfl kq) ?_
 show Gg T202 m 6 [(.int dq), (.ref a)]
 refine go_putF X202 hx hZ hown (host := "") (Or.inl (wd hw 47 rfl)) Via.refl e202 P1 P0 (Or.inr ⟨(wd hw 48 rfl), rfl, hnm⟩) (wd hw 41 rfl) (ty := .int) (by decide) rfl rfl (hb hby d6_6) rfl rfl ?_
 intro T203 h203 X203 e203 W203
 have N203 := Fr.snoc X203 N0 P2
 have F203 : Fld Z h203 a "com/example/copse/copse/graph/TargetSearchArcLimitReachedPinLaw" "degree" "I" (.int dq) := Fld.same W203 P1
 show Gg T203 m 9 []
 exact go_ret0 X203 hx hlk hret (hb hby d6_9) (by decide) (by decide) (by rw [e203]; exact ⟨rfl, N203, (Keep.wr (Keep.refl h0 [a]) W203 (Or.inl (by simp))), F203⟩)
theorem d9_0 : decode method_2_code 0 = .ok (.iconst 2, 1) := by decide +kernel
theorem d9_1 : decode method_2_code 1 = .ok (.ireturn, 1) := by decide +kernel
theorem pn6 : plainFor (⟨"com/example/copse/copse/graph/TargetSearchArcLimitReachedPinLaw", "nodeCount", "()I"⟩ : MethodName) = true := by first | (refine plainFor_of_name ?_; simp [plainName, overriddenIn]; done) | (refine plainFor_of_name ?_; decide +kernel) | decide +kernel
def fNc  : Int32 := (2 : Int32)
theorem ef_9 (m : MethodId) (a : Addr) : entryFrame m #[(.ref a)] 1 = mkF m 0 #[.val (.ref a)] [] := by first | (simp [entryFrame, mkF, argsToLocals, Value.category]; done) | rfl
abbrev rm_9 : Room := ({ frames := 0, cells := 0, slots := 0, locals := 0 } : Room)
set_option maxRecDepth 65536 in
set_option maxHeartbeats 4000000 in
theorem met_9 (l : Launch) (Z : State) (a0 : Array Value) (hw : ∀ d ∈ tables_1, d.before a0 Z = true) (a : Addr) (h0 : Heap) (n0 : Nat) (Z0 : n0 ≤ h0.size)  :
  Met l (⟨"com/example/copse/copse/graph/TargetSearchArcLimitReachedPinLaw", "nodeCount", "()I"⟩ : MethodName) method_2_code 1 (some FieldType.int) [] rm_9 Z #[(.ref a)] h0 (QV (some (.int (fNc ))) h0 n0) 0 0 := by
 refine own_body pn6 ?_
 intro p e s m below meth c s₁ ct X0 e0
 obtain ⟨hx, hZ, hown, hby, hml, hret, hlk, hnm⟩ := ct
 have N0 := Fr.nil n0
 refine castGo (ef_9 m a) ?_
 unfold fNc
 show Gg s₁ m 0 []
 refine go_st (fun _ kq => XT.iconstV X0.here hx rfl (2 : Int32) (hb hby d9_0) (by decide) kq) ?_
 show Gg s₁ m 1 [(.int (2 : Int32))]
 exact go_retI X0 hx hlk hret (hb hby d9_1) (by decide) (by decide) ⟨rfl, N0, e0⟩
theorem d14_0 : decode method_3_code 0 = .ok (.iload_n 1, 1) := by decide +kernel
theorem d14_1 : decode method_3_code 1 = .ok (.ifCond .ne 10, 3) := by decide +kernel
theorem d14_4 : decode method_3_code 4 = .ok (.aload_n 0, 1) := by decide +kernel
theorem d14_5 : decode method_3_code 5 = .ok (.getfield 7, 3) := by decide +kernel
theorem d14_8 : decode method_3_code 8 = .ok (.goto 4, 3) := by decide +kernel
theorem d14_11 : decode method_3_code 11 = .ok (.iconst 0, 1) := by decide +kernel
theorem d14_12 : decode method_3_code 12 = .ok (.ireturn, 1) := by decide +kernel
theorem pn7 : plainFor (⟨"com/example/copse/copse/graph/TargetSearchArcLimitReachedPinLaw", "outDegree", "(I)I"⟩ : MethodName) = true := by first | (refine plainFor_of_name ?_; simp [plainName, overriddenIn]; done) | (refine plainFor_of_name ?_; decide +kernel) | decide +kernel
def fOd (dq : Int32) : Int32 := dq
theorem ef_14 (m : MethodId) (a : Addr) (dq : Int32) : entryFrame m #[(.ref a), (.int (0 : Int32))] 2 = mkF m 0 #[.val (.ref a), .val (.int (0 : Int32))] [] := by first | (simp [entryFrame, mkF, argsToLocals, Value.category]; done) | rfl
abbrev rm_14 : Room := ({ frames := 0, cells := 0, slots := 0, locals := 0 } : Room)
set_option maxRecDepth 65536 in
set_option maxHeartbeats 4000000 in
theorem met_14 (l : Launch) (Z : State) (a0 : Array Value) (hw : ∀ d ∈ tables_1, d.before a0 Z = true) (a : Addr) (dq : Int32) (h0 : Heap) (n0 : Nat) (Z0 : n0 ≤ h0.size) (P0 : Fld Z h0 a "com/example/copse/copse/graph/TargetSearchArcLimitReachedPinLaw" "degree" "I" (.int dq)) :
  Met l (⟨"com/example/copse/copse/graph/TargetSearchArcLimitReachedPinLaw", "outDegree", "(I)I"⟩ : MethodName) method_3_code 2 (some FieldType.int) [] rm_14 Z #[(.ref a), (.int (0 : Int32))] h0 (QV (some (.int (fOd dq))) h0 n0) 0 0 := by
 refine own_body pn7 ?_
 intro p e s m below meth c s₁ ct X0 e0
 obtain ⟨hx, hZ, hown, hby, hml, hret, hlk, hnm⟩ := ct
 have N0 := Fr.nil n0
 refine castGo (ef_14 m a dq) ?_
 unfold fOd
 show Gg s₁ m 0 []
 refine go_st (fun _ kq => XS.iloadN X0.here hx rfl (hb hby d14_0) rfl kq) ?_
 show Gg s₁ m 1 [(.int (0 : Int32))]
 refine go_st (fun _ kq => XS.ifNo X0.here hx rfl (hb hby d14_1) rfl (XT.i0_ne_f (by decide)) kq) ?_
 show Gg s₁ m 4 []
 refine go_st (fun _ kq => XS.aloadN X0.here hx rfl (hb hby d14_4) rfl rfl kq) ?_
 show Gg s₁ m 5 [(.ref a)]
 refine go_getF X0 hx hZ hown (host := "") (Or.inl (wd hw 47 rfl)) Via.refl e0 P0 (hb hby d14_5) rfl rfl ?_
 intro T204 X204 e204
 show Gg T204 m 8 [(.int dq)]
 refine go_st (fun _ kq => XS.goto X204.here hx rfl (pc0 := 8) (pc' := 12) rfl (hb hby d14_8) (by decide) (by decide) kq) ?_
 show Gg T204 m 12 [(.int dq)]
 exact go_retI X204 hx hlk hret (hb hby d14_12) (by decide) (by decide) ⟨rfl, N0, e204⟩
theorem d16_0 : decode method_4_code 0 = .ok (.iconst 0, 1) := by decide +kernel
theorem d16_1 : decode method_4_code 1 = .ok (.ireturn, 1) := by decide +kernel
theorem pn8 : plainFor (⟨"com/example/copse/copse/graph/TargetSearchArcLimitReachedPinLaw", "successor", "(II)I"⟩ : MethodName) = true := by first | (refine plainFor_of_name ?_; simp [plainName, overriddenIn]; done) | (refine plainFor_of_name ?_; decide +kernel) | decide +kernel
def fSu  : Int32 := (0 : Int32)
theorem ef_16 (m : MethodId) (a : Addr) (xi : Int32) (xj : Int32) : entryFrame m #[(.ref a), (.int xi), (.int xj)] 3 = mkF m 0 #[.val (.ref a), .val (.int xi), .val (.int xj)] [] := by first | (simp [entryFrame, mkF, argsToLocals, Value.category]; done) | rfl
abbrev rm_16 : Room := ({ frames := 0, cells := 0, slots := 0, locals := 0 } : Room)
set_option maxRecDepth 65536 in
set_option maxHeartbeats 4000000 in
theorem met_16 (l : Launch) (Z : State) (a0 : Array Value) (hw : ∀ d ∈ tables_1, d.before a0 Z = true) (a : Addr) (xi : Int32) (xj : Int32) (h0 : Heap) (n0 : Nat) (Z0 : n0 ≤ h0.size)  :
  Met l (⟨"com/example/copse/copse/graph/TargetSearchArcLimitReachedPinLaw", "successor", "(II)I"⟩ : MethodName) method_4_code 3 (some FieldType.int) [] rm_16 Z #[(.ref a), (.int xi), (.int xj)] h0 (QV (some (.int (fSu ))) h0 n0) 0 0 := by
 refine own_body pn8 ?_
 intro p e s m below meth c s₁ ct X0 e0
 obtain ⟨hx, hZ, hown, hby, hml, hret, hlk, hnm⟩ := ct
 have N0 := Fr.nil n0
 refine castGo (ef_16 m a xi xj) ?_
 unfold fSu
 show Gg s₁ m 0 []
 refine go_st (fun _ kq => XT.iconstV X0.here hx rfl (0 : Int32) (hb hby d16_0) (by decide) kq) ?_
 show Gg s₁ m 1 [(.int (0 : Int32))]
 exact go_retI X0 hx hlk hret (hb hby d16_1) (by decide) (by decide) ⟨rfl, N0, e0⟩
theorem d11_0 : decode jdk_41_method_11_code 0 = .ok (.iload_n 0, 1) := by decide +kernel
theorem d11_1 : decode jdk_41_method_11_code 1 = .ok (.ifCond .lt 8, 3) := by decide +kernel
theorem d11_4 : decode jdk_41_method_11_code 4 = .ok (.iload_n 0, 1) := by decide +kernel
theorem d11_5 : decode jdk_41_method_11_code 5 = .ok (.iload_n 1, 1) := by decide +kernel
theorem d11_6 : decode jdk_41_method_11_code 6 = .ok (.if_icmp .lt 10, 3) := by decide +kernel
theorem d11_9 : decode jdk_41_method_11_code 9 = .ok (.aload_n 2, 1) := by decide +kernel
theorem d11_10 : decode jdk_41_method_11_code 10 = .ok (.iload_n 0, 1) := by decide +kernel
theorem d11_11 : decode jdk_41_method_11_code 11 = .ok (.iload_n 1, 1) := by decide +kernel
theorem d11_12 : decode jdk_41_method_11_code 12 = .ok (.invokestatic 95, 3) := by decide +kernel
theorem d11_15 : decode jdk_41_method_11_code 15 = .ok (.athrow, 1) := by decide +kernel
theorem d11_16 : decode jdk_41_method_11_code 16 = .ok (.iload_n 0, 1) := by decide +kernel
theorem d11_17 : decode jdk_41_method_11_code 17 = .ok (.ireturn, 1) := by decide +kernel
theorem pn9 : plainFor (⟨"jdk/internal/util/Preconditions", "checkIndex", "(IILjava/util/function/BiFunction;)I"⟩ : MethodName) = true := by first | (refine plainFor_of_name ?_; simp [plainName, overriddenIn]; done) | (refine plainFor_of_name ?_; decide +kernel) | decide +kernel
def fCi1 (xi : Int32) : Int32 := xi
theorem ef_11 (m : MethodId) (xi : Int32) (xj : Int32) : entryFrame m #[(.int xi), (.int xj), .null] 3 = mkF m 0 #[.val (.int xi), .val (.int xj), .val .null] [] := by first | (simp [entryFrame, mkF, argsToLocals, Value.category]; done) | rfl
abbrev rm_11 : Room := ({ frames := 0, cells := 0, slots := 0, locals := 0 } : Room)
set_option maxRecDepth 65536 in
set_option maxHeartbeats 4000000 in
theorem met_11 (l : Launch) (Z : State) (a0 : Array Value) (hw : ∀ d ∈ tables_1, d.before a0 Z = true) (xi : Int32) (xj : Int32) (h0 : Heap) (n0 : Nat) (Z0 : n0 ≤ h0.size) (P0 : ¬ (xi < (0 : Int32))) (P1 : xi < xj) :
  Met l (⟨"jdk/internal/util/Preconditions", "checkIndex", "(IILjava/util/function/BiFunction;)I"⟩ : MethodName) jdk_41_method_11_code 3 (some FieldType.int) [] rm_11 Z #[(.int xi), (.int xj), .null] h0 (QV (some (.int (fCi1 xi))) h0 n0) 0 0 := by
 refine own_body pn9 ?_
 intro p e s m below meth c s₁ ct X0 e0
 obtain ⟨hx, hZ, hown, hby, hml, hret, hlk, hnm⟩ := ct
 have N0 := Fr.nil n0
 refine castGo (ef_11 m xi xj) ?_
 unfold fCi1
 show Gg s₁ m 0 []
 refine go_st (fun _ kq => XS.iloadN X0.here hx rfl (hb hby d11_0) rfl kq) ?_
 show Gg s₁ m 1 [(.int xi)]
 refine go_st (fun _ kq => XS.ifNo X0.here hx rfl (hb hby d11_1) rfl (XT.i0_lt_f P0) kq) ?_
 show Gg s₁ m 4 []
 refine go_st (fun _ kq => XS.iloadN X0.here hx rfl (hb hby d11_4) rfl kq) ?_
 show Gg s₁ m 5 [(.int xi)]
 refine go_st (fun _ kq => XS.iloadN X0.here hx rfl (hb hby d11_5) rfl kq) ?_
 show Gg s₁ m 6 [(.int xj), (.int xi)]
 refine go_st (fun _ kq => XS.icmpYes X0.here hx rfl (pc0 := 6) (pc' := 16) rfl (hb hby d11_6) rfl (XT.ii_lt_t P1) (by decide) (by decide) kq) ?_
 show Gg s₁ m 16 []
 refine go_st (fun _ kq => XS.iloadN X0.here hx rfl (hb hby d11_16) rfl kq) ?_
 show Gg s₁ m 17 [(.int xi)]
 exact go_retI X0 hx hlk hret (hb hby d11_17) (by decide) (by decide) ⟨rfl, N0, e0⟩
theorem d10_0 : decode jdk_31_method_17_code 0 = .ok (.iload_n 0, 1) := by decide +kernel
theorem d10_1 : decode jdk_31_method_17_code 1 = .ok (.iload_n 1, 1) := by decide +kernel
theorem d10_2 : decode jdk_31_method_17_code 2 = .ok (.aconst_null, 1) := by decide +kernel
theorem d10_3 : decode jdk_31_method_17_code 3 = .ok (.invokestatic 105, 3) := by decide +kernel
theorem d10_6 : decode jdk_31_method_17_code 6 = .ok (.ireturn, 1) := by decide +kernel
theorem pn10 : plainFor (⟨"java/util/Objects", "checkIndex", "(II)I"⟩ : MethodName) = true := by first | (refine plainFor_of_name ?_; simp [plainName, overriddenIn]; done) | (refine plainFor_of_name ?_; decide +kernel) | decide +kernel
theorem pd1 : parseMethodDescriptor "(IILjava/util/function/BiFunction;)I" = some ⟨[.int, .int, (.object "java/util/function/BiFunction")], (some .int)⟩ := by decide +kernel
def fCi0 (xi : Int32) : Int32 := xi
theorem ef_10 (m : MethodId) (xi : Int32) (xj : Int32) : entryFrame m #[(.int xi), (.int xj)] 2 = mkF m 0 #[.val (.int xi), .val (.int xj)] [] := by first | (simp [entryFrame, mkF, argsToLocals, Value.category]; done) | rfl
abbrev rm_10 : Room := ({ frames := 1, cells := 0, slots := 0, locals := 14 } : Room)
set_option maxRecDepth 65536 in
set_option maxHeartbeats 4000000 in
theorem met_10 (l : Launch) (Z : State) (a0 : Array Value) (hw : ∀ d ∈ tables_1, d.before a0 Z = true) (xi : Int32) (xj : Int32) (h0 : Heap) (n0 : Nat) (Z0 : n0 ≤ h0.size) (P0 : ¬ (xi < (0 : Int32))) (P1 : xi < xj) :
  Met l (⟨"java/util/Objects", "checkIndex", "(II)I"⟩ : MethodName) jdk_31_method_17_code 2 (some FieldType.int) [] rm_10 Z #[(.int xi), (.int xj)] h0 (QV (some (.int (fCi0 xi))) h0 n0) 0 0 := by
 refine own_body pn10 ?_
 intro p e s m below meth c s₁ ct X0 e0
 obtain ⟨hx, hZ, hown, hby, hml, hret, hlk, hnm⟩ := ct
 have N0 := Fr.nil n0
 refine castGo (ef_10 m xi xj) ?_
 unfold fCi0
 show Gg s₁ m 0 []
 refine go_st (fun _ kq => XS.iloadN X0.here hx rfl (hb hby d10_0) rfl kq) ?_
 show Gg s₁ m 1 [(.int xi)]
 refine go_st (fun _ kq => XS.iloadN X0.here hx rfl (hb hby d10_1) rfl kq) ?_
 show Gg s₁ m 2 [(.int xj), (.int xi)]
 refine go_st (fun _ kq => XS.aconstNull X0.here hx rfl (hb hby d10_2) kq) ?_
 show Gg s₁ m 3 [.null, (.int xj), (.int xi)]
 refine go_callS X0 hx hZ hml hown (wd hw 71 rfl) (wd hw 72 rfl) (wd hw 73 rfl) (wd hw 74 rfl) e0 (argsL := [(.int xi), (.int xj), .null]) (rest := []) (W := 0) (met_11 l Z a0 hw xi xj h0 n0 Z0 P0 P1) (hb hby d10_3) rfl rfl rfl (lenOf pd1 rfl) (by show 2 * 0 + _ ≤ _; exact Nat.le_of_eq rfl) (by decide) (by decide) (by decide) (by decide) (by decide) ?_
 intro T205 v205 L205 X205 q205
 obtain ⟨rfl, M205, e205⟩ := q205
 have N205 := Fr.app N0 M205
 show Gg T205 m 6 [(.int xi)]
 exact go_retI X205 hx hlk hret (hb hby d10_6) (by decide) (by decide) ⟨rfl, N205, e205⟩
theorem d8_0 : decode prog_46_method_13_code 0 = .ok (.aload_n 1, 1) := by decide +kernel
theorem d8_1 : decode prog_46_method_13_code 1 = .ok (.invokeinterface 115 1, 5) := by decide +kernel
theorem d8_6 : decode prog_46_method_13_code 6 = .ok (.aload_n 0, 1) := by decide +kernel
theorem d8_7 : decode prog_46_method_13_code 7 = .ok (.getfield 23, 3) := by decide +kernel
theorem d8_10 : decode prog_46_method_13_code 10 = .ok (.arraylength, 1) := by decide +kernel
theorem d8_11 : decode prog_46_method_13_code 11 = .ok (.if_icmp .le 27, 3) := by decide +kernel
theorem d8_14 : decode prog_46_method_13_code 14 = .ok (.new 119, 3) := by decide +kernel
theorem d8_17 : decode prog_46_method_13_code 17 = .ok (.dup, 1) := by decide +kernel
theorem d8_18 : decode prog_46_method_13_code 18 = .ok (.aload_n 1, 1) := by decide +kernel
theorem d8_19 : decode prog_46_method_13_code 19 = .ok (.invokeinterface 115 1, 5) := by decide +kernel
theorem d8_24 : decode prog_46_method_13_code 24 = .ok (.aload_n 0, 1) := by decide +kernel
theorem d8_25 : decode prog_46_method_13_code 25 = .ok (.getfield 23, 3) := by decide +kernel
theorem d8_28 : decode prog_46_method_13_code 28 = .ok (.arraylength, 1) := by decide +kernel
theorem d8_29 : decode prog_46_method_13_code 29 = .ok (.invokedynamic 121, 5) := by decide +kernel
theorem d8_34 : decode prog_46_method_13_code 34 = .ok (.invokespecial 125, 3) := by decide +kernel
theorem d8_37 : decode prog_46_method_13_code 37 = .ok (.athrow, 1) := by decide +kernel
theorem d8_38 : decode prog_46_method_13_code 38 = .ok (.iload_n 2, 1) := by decide +kernel
theorem d8_39 : decode prog_46_method_13_code 39 = .ok (.aload_n 0, 1) := by decide +kernel
theorem d8_40 : decode prog_46_method_13_code 40 = .ok (.getfield 23, 3) := by decide +kernel
theorem d8_43 : decode prog_46_method_13_code 43 = .ok (.arraylength, 1) := by decide +kernel
theorem d8_44 : decode prog_46_method_13_code 44 = .ok (.invokestatic 71, 3) := by decide +kernel
theorem d8_47 : decode prog_46_method_13_code 47 = .ok (.pop, 1) := by decide +kernel
theorem d8_48 : decode prog_46_method_13_code 48 = .ok (.aload_n 0, 1) := by decide +kernel
theorem d8_49 : decode prog_46_method_13_code 49 = .ok (.getfield 46, 3) := by decide +kernel
theorem d8_52 : decode prog_46_method_13_code 52 = .ok (.ldc 130, 2) := by decide +kernel
theorem d8_54 : decode prog_46_method_13_code 54 = .ok (.if_icmp .ne 24, 3) := by decide +kernel
theorem d8_57 : decode prog_46_method_13_code 57 = .ok (.aload_n 0, 1) := by decide +kernel
theorem d8_58 : decode prog_46_method_13_code 58 = .ok (.getfield 23, 3) := by decide +kernel
theorem d8_61 : decode prog_46_method_13_code 61 = .ok (.iconst 0, 1) := by decide +kernel
theorem d8_62 : decode prog_46_method_13_code 62 = .ok (.invokestatic 131, 3) := by decide +kernel
theorem d8_65 : decode prog_46_method_13_code 65 = .ok (.aload_n 0, 1) := by decide +kernel
theorem d8_66 : decode prog_46_method_13_code 66 = .ok (.getfield 36, 3) := by decide +kernel
theorem d8_69 : decode prog_46_method_13_code 69 = .ok (.iconst 0, 1) := by decide +kernel
theorem d8_70 : decode prog_46_method_13_code 70 = .ok (.invokestatic 131, 3) := by decide +kernel
theorem d8_73 : decode prog_46_method_13_code 73 = .ok (.aload_n 0, 1) := by decide +kernel
theorem d8_74 : decode prog_46_method_13_code 74 = .ok (.iconst 0, 1) := by decide +kernel
theorem d8_75 : decode prog_46_method_13_code 75 = .ok (.putfield 46, 3) := by decide +kernel
theorem d8_78 : decode prog_46_method_13_code 78 = .ok (.aload_n 0, 1) := by decide +kernel
theorem d8_79 : decode prog_46_method_13_code 79 = .ok (.dup, 1) := by decide +kernel
theorem d8_80 : decode prog_46_method_13_code 80 = .ok (.getfield 46, 3) := by decide +kernel
theorem d8_83 : decode prog_46_method_13_code 83 = .ok (.iconst 1, 1) := by decide +kernel
theorem d8_84 : decode prog_46_method_13_code 84 = .ok (.iadd, 1) := by decide +kernel
theorem d8_85 : decode prog_46_method_13_code 85 = .ok (.putfield 46, 3) := by decide +kernel
theorem d8_88 : decode prog_46_method_13_code 88 = .ok (.return_, 1) := by decide +kernel
theorem pn11 : plainFor (⟨"com/example/copse/copse/graph/TargetSearch", "startSearch", "(Lcom/example/copse/copse/graph/SuccessorLists;I)V"⟩ : MethodName) = true := by first | (refine plainFor_of_name ?_; simp [plainName, overriddenIn]; done) | (refine plainFor_of_name ?_; decide +kernel) | decide +kernel
def Q_sts (Z : State) (a : Addr) (o : Addr) (xl : Int64) (ra : Addr) (pe : Addr) (wa : Addr) (h0 : Heap) (n0 : Nat) (v : Option Value) (h : Heap) (L : List Loc) : Prop := v = none ∧ Fr n0 L ∧ Keep h0 h [a] ∧ Fld Z h a "com/example/copse/copse/graph/TargetSearch" "arcLimit" "J" (.long xl) ∧ Fld Z h a "com/example/copse/copse/graph/TargetSearch" "arcsLookedAt" "J" (.long (0 : Int64)) ∧ Fld Z h a "com/example/copse/copse/graph/TargetSearch" "search" "I" (.int (1 : Int32)) ∧ Fld Z h a "com/example/copse/copse/graph/TargetSearch" "unreached" "I" (.int (0 : Int32)) ∧ Fld Z h a "com/example/copse/copse/graph/TargetSearch" "queued" "I" (.int (0 : Int32)) ∧ Fld Z h a "com/example/copse/copse/graph/TargetSearch" "reachedIn" "[I" (.ref ra) ∧ Fld Z h a "com/example/copse/copse/graph/TargetSearch" "pending" "[I" (.ref pe) ∧ Fld Z h a "com/example/copse/copse/graph/TargetSearch" "wantedIn" "[I" (.ref wa)
theorem pd2 : parseMethodDescriptor "()I" = some ⟨[], (some .int)⟩ := by decide +kernel
theorem pd3 : parseMethodDescriptor "(II)I" = some ⟨[.int, .int], (some .int)⟩ := by decide +kernel
theorem ef_sts (m : MethodId) (a : Addr) (o : Addr) (xl : Int64) (ra : Addr) (pe : Addr) (wa : Addr) : entryFrame m #[(.ref a), (.ref o), (.int (0 : Int32))] 3 = mkF m 0 #[.val (.ref a), .val (.ref o), .val (.int (0 : Int32))] [] := by first | (simp [entryFrame, mkF, argsToLocals, Value.category]; done) | rfl
abbrev rm_sts : Room := ({ frames := 2, cells := 0, slots := 0, locals := 27 } : Room)
set_option maxRecDepth 65536 in
set_option maxHeartbeats 4000000 in
theorem met_sts (l : Launch) (Z : State) (a0 : Array Value) (hw : ∀ d ∈ tables_1, d.before a0 Z = true) (a : Addr) (o : Addr) (xl : Int64) (ra : Addr) (pe : Addr) (wa : Addr) (h0 : Heap) (n0 : Nat) (Z0 : n0 ≤ h0.size) (P0 : Exa Z h0 a "com/example/copse/copse/graph/TargetSearch") (P1 : Exa Z h0 o "com/example/copse/copse/graph/TargetSearchArcLimitReachedPinLaw") (P2 : n0 ≤ a) (P3 : a ≠ ra) (P4 : Fld Z h0 a "com/example/copse/copse/graph/TargetSearch" "arcLimit" "J" (.long xl)) (P5 : Fld Z h0 a "com/example/copse/copse/graph/TargetSearch" "arcsLookedAt" "J" (.long (0 : Int64))) (P6 : Fld Z h0 a "com/example/copse/copse/graph/TargetSearch" "search" "I" (.int (0 : Int32))) (P7 : Fld Z h0 a "com/example/copse/copse/graph/TargetSearch" "unreached" "I" (.int (0 : Int32))) (P8 : Fld Z h0 a "com/example/copse/copse/graph/TargetSearch" "queued" "I" (.int (0 : Int32))) (P9 : Fld Z h0 a "com/example/copse/copse/graph/TargetSearch" "reachedIn" "[I" (.ref ra)) (P10 : Fld Z h0 a "com/example/copse/copse/graph/TargetSearch" "pending" "[I" (.ref pe)) (P11 : Fld Z h0 a "com/example/copse/copse/graph/TargetSearch" "wantedIn" "[I" (.ref wa)) (P12 : GA Z h0 ra .int 2 (fun i => .int (own_c2 (0 : Int32) (0 : Int32) i))) :
  Met l (⟨"com/example/copse/copse/graph/TargetSearch", "startSearch", "(Lcom/example/copse/copse/graph/SuccessorLists;I)V"⟩ : MethodName) prog_46_method_13_code 3 none [] rm_sts Z #[(.ref a), (.ref o), (.int (0 : Int32))] h0 (Q_sts Z a o xl ra pe wa h0 n0) rm_sts.cells rm_sts.slots := by
 refine own_body pn11 ?_
 intro p e s m below meth c s₁ ct X0 e0
 obtain ⟨hx, hZ, hown, hby, hml, hret, hlk, hnm⟩ := ct
 have N0 := Fr.nil n0
 refine castGo (ef_sts m a o xl ra pe wa) ?_
 show Gg s₁ m 0 []
 refine go_st (fun _ kq => XS.aloadN X0.here hx rfl (hb hby d8_0) rfl rfl kq) ?_
 show Gg s₁ m 1 [(.ref o)]
 refine go_callF X0 hx hZ hml hown (wd hw 58 rfl) (wd hw 59 rfl) (wd hw 60 rfl) (wd hw 61 rfl) (wd hw 62 rfl) (wd hw 63 rfl) (wd hw 64 rfl) (wd hw 65 rfl) (wd hw 66 rfl) (wd hw 42 rfl) e0 P1 (argsL := []) (rest := []) (W := 0) (met_9 l Z a0 hw o h0 n0 Z0 ) (hb hby d8_1) rfl rfl rfl (lenOf pd2 rfl) (by show 2 * 0 + _ ≤ _; exact Nat.le_of_eq rfl) (by decide) (by decide) (by decide) (by decide) (by decide) ?_
 intro T206 v206 L206 X206 q206
 obtain ⟨rfl, M206, e206⟩ := q206
 have N206 := Fr.app N0 M206
 show Gg T206 m 6 [(.int (2 : Int32))]
 refine go_st (fun _ kq => XS.aloadN X206.here hx rfl (hb hby d8_6) rfl rfl kq) ?_
 show Gg T206 m 7 [(.ref a), (.int (2 : Int32))]
 refine go_getF X206 hx hZ hown (host := "") (Or.inl (wd hw 18 rfl)) Via.refl e206 P9 (hb hby d8_7) rfl rfl ?_
 intro T207 X207 e207
 show Gg T207 m 10 [(.ref ra), (.int (2 : Int32))]
 refine go_alen X207 hx hZ e207 P12 (hb hby d8_10) rfl rfl (2 : Int32) (by decide) ?_
 show Gg T207 m 11 [(.int (2 : Int32)), (.int (2 : Int32))]
 refine go_st (fun _ kq => XS.icmpYes X207.here hx rfl (pc0 := 11) (pc' := 38) rfl (hb hby d8_11) rfl (XT.ii_le_t (by decide)) (by decide) (by decide) kq) ?_
 show Gg T207 m 38 []
 refine go_st (fun _ kq => XS.iloadN X207.here hx rfl (hb hby d8_38) rfl kq) ?_
 show Gg T207 m 39 [(.int (0 : Int32))]
 refine go_st (fun _ kq => XS.aloadN X207.here hx rfl (hb hby d8_39) rfl rfl kq) ?_
 show Gg T207 m 40 [(.ref a), (.int (0 : Int32))]
 refine go_getF X207 hx hZ hown (host := "") (Or.inl (wd hw 18 rfl)) Via.refl e207 P9 (hb hby d8_40) rfl rfl ?_
 intro T208 X208 e208
 show Gg T208 m 43 [(.ref ra), (.int (0 : Int32))]
 refine go_alen X208 hx hZ e208 P12 (hb hby d8_43) rfl rfl (2 : Int32) (by decide) ?_
 show Gg T208 m 44 [(.int (2 : Int32)), (.int (0 : Int32))]
 refine go_callS X208 hx hZ hml hown (wd hw 67 rfl) (wd hw 68 rfl) (wd hw 69 rfl) (wd hw 70 rfl) e208 (argsL := [(.int (0 : Int32)), (.int (2 : Int32))]) (rest := []) (W := 0) (met_10 l Z a0 hw (0 : Int32) (2 : Int32) h0 n0 Z0 (by first | assumption | decide | omega) (by first | assumption | decide | omega)) (hb hby d8_44) rfl rfl rfl (lenOf pd3 rfl) (by show 2 * 0 + _ ≤ _; exact Nat.le_of_eq rfl) (by decide) (by decide) (by decide) (by decide) (by decide) ?_
 intro T209 v209 L209 X209 q209
 obtain ⟨rfl, M209, e209⟩ := q209
 have N209 := Fr.app N206 M209
 show Gg T209 m 47 [(.int (0 : Int32))]
 refine go_st (fun _ kq => XT.pop X209.here hx rfl (hb hby d8_47) rfl rfl kq) ?_
 show Gg T209 m 48 []
 refine go_st (fun _ kq => XS.aloadN X209.here hx rfl (hb hby d8_48) rfl rfl kq) ?_
 show Gg T209 m 49 [(.ref a)]
 refine go_getF X209 hx hZ hown (host := "") (Or.inl (wd hw 75 rfl)) Via.refl e209 P6 (hb hby d8_49) rfl rfl ?_
 intro T210 X210 e210
 show Gg T210 m 52 [(.int (0 : Int32))]
 refine go_st (fun _ kq => Jvm.Stand.ldcI X210 hx hown (mvT hZ (wd hw 77 rfl)) rfl (hb hby d8_52) kq) ?_
 show Gg T210 m 54 [(.int (2147483647 : Int32)), (.int (0 : Int32))]
 refine go_st (fun _ kq => XS.icmpYes X210.here hx rfl (pc0 := 54) (pc' := 78) rfl (hb hby d8_54) rfl (XT.ii_ne_t (by decide)) (by decide) (by decide) kq) ?_
 show Gg T210 m 78 []
 refine go_st (fun _ kq => XS.aloadN X210.here hx rfl (hb hby d8_78) rfl rfl kq) ?_
 show Gg T210 m 79 [(.ref a)]
 refine go_st (fun _ kq => XS.dup X210.here hx rfl (hb hby d8_79) rfl rfl kq) ?_
 show Gg T210 m 80 [(.ref a), (.ref a)]
 refine go_getF X210 hx hZ hown (host := "") (Or.inl (wd hw 75 rfl)) Via.refl e210 P6 (hb hby d8_80) rfl rfl ?_
 intro T211 X211 e211
 show Gg T211 m 83 [(.int (0 : Int32)), (.ref a)]
 refine go_st (fun _ kq => XT.iconstV X211.here hx rfl (1 : Int32) (hb hby d8_83) (by decide) kq) ?_
 show Gg T211 m 84 [(.int (1 : Int32)), (.int (0 : Int32)), (.ref a)]
 refine go_st (fun _ kq => XS.iadd X211.here hx rfl (hb hby d8_84) rfl kq) ?_
 rw [show ((0 : Int32) + (1 : Int32)) = (1 : Int32) from by decide +kernel]
 show Gg T211 m 85 [(.int (1 : Int32)), (.ref a)]
 refine go_putF X211 hx hZ hown (host := "") (Or.inl (wd hw 75 rfl)) Via.refl e211 P6 P0 (Or.inl (wd hw 76 rfl)) (wd hw 1 rfl) (ty := .int) (by decide) rfl rfl (hb hby d8_85) rfl rfl ?_
 intro T212 h212 X212 e212 W212
 have N212 := Fr.snoc X212 N209 P2
 have F212 : Fld Z h212 a "com/example/copse/copse/graph/TargetSearch" "search" "I" (.int (1 : Int32)) := Fld.same W212 P6
 show Gg T212 m 88 []
 have c213 := Fld.other W212 P4 (Or.inr (slot_ne (a0 := a0) (t := .long) (t' := .int) (Or.inl (wd hw 11 rfl)) (Or.inl (wd hw 76 rfl)) (by decide) (by decide) (by decide)))
 have c214 := Fld.other W212 P5 (Or.inr (slot_ne (a0 := a0) (t := .long) (t' := .int) (Or.inl (wd hw 34 rfl)) (Or.inl (wd hw 76 rfl)) (by decide) (by decide) (by decide)))
 have c215 := Fld.other W212 P7 (Or.inr (slot_ne (a0 := a0) (t := .int) (t' := .int) (Or.inl (wd hw 79 rfl)) (Or.inl (wd hw 76 rfl)) (by decide) (by decide) (by decide)))
 have c216 := Fld.other W212 P8 (Or.inr (slot_ne (a0 := a0) (t := .int) (t' := .int) (Or.inl (wd hw 103 rfl)) (Or.inl (wd hw 76 rfl)) (by decide) (by decide) (by decide)))
 have c217 := Fld.other W212 P9 (Or.inr (slot_ne (a0 := a0) (t := (.array .int)) (t' := .int) (Or.inr (wd hw 19 rfl)) (Or.inl (wd hw 76 rfl)) (by decide) (by decide) (by decide)))
 have c218 := Fld.other W212 P10 (Or.inr (slot_ne (a0 := a0) (t := (.array .int)) (t' := .int) (Or.inr (wd hw 25 rfl)) (Or.inl (wd hw 76 rfl)) (by decide) (by decide) (by decide)))
 have c219 := Fld.other W212 P11 (Or.inr (slot_ne (a0 := a0) (t := (.array .int)) (t' := .int) (Or.inr (wd hw 27 rfl)) (Or.inl (wd hw 76 rfl)) (by decide) (by decide) (by decide)))
 exact go_ret0 X212 hx hlk hret (hb hby d8_88) (by decide) (by decide) (by rw [e212]; exact ⟨rfl, N212, (Keep.wr (Keep.refl h0 [a]) W212 (Or.inl (by simp))), c213, c214, F212, c215, c216, c217, c218, c219⟩)
theorem d13_0 : decode prog_46_method_15_code 0 = .ok (.aload_n 0, 1) := by decide +kernel
theorem d13_1 : decode prog_46_method_15_code 1 = .ok (.getfield 36, 3) := by decide +kernel
theorem d13_4 : decode prog_46_method_15_code 4 = .ok (.iload_n 1, 1) := by decide +kernel
theorem d13_5 : decode prog_46_method_15_code 5 = .ok (.iaload, 1) := by decide +kernel
theorem d13_6 : decode prog_46_method_15_code 6 = .ok (.aload_n 0, 1) := by decide +kernel
theorem d13_7 : decode prog_46_method_15_code 7 = .ok (.getfield 46, 3) := by decide +kernel
theorem d13_10 : decode prog_46_method_15_code 10 = .ok (.if_icmp .ne 21, 3) := by decide +kernel
theorem d13_13 : decode prog_46_method_15_code 13 = .ok (.aload_n 0, 1) := by decide +kernel
theorem d13_14 : decode prog_46_method_15_code 14 = .ok (.dup, 1) := by decide +kernel
theorem d13_15 : decode prog_46_method_15_code 15 = .ok (.getfield 77, 3) := by decide +kernel
theorem d13_18 : decode prog_46_method_15_code 18 = .ok (.iconst 1, 1) := by decide +kernel
theorem d13_19 : decode prog_46_method_15_code 19 = .ok (.isub, 1) := by decide +kernel
theorem d13_20 : decode prog_46_method_15_code 20 = .ok (.dup_x1, 1) := by decide +kernel
theorem d13_21 : decode prog_46_method_15_code 21 = .ok (.putfield 77, 3) := by decide +kernel
theorem d13_24 : decode prog_46_method_15_code 24 = .ok (.ifCond .ne 7, 3) := by decide +kernel
theorem d13_27 : decode prog_46_method_15_code 27 = .ok (.iconst 1, 1) := by decide +kernel
theorem d13_28 : decode prog_46_method_15_code 28 = .ok (.goto 4, 3) := by decide +kernel
theorem d13_31 : decode prog_46_method_15_code 31 = .ok (.iconst 0, 1) := by decide +kernel
theorem d13_32 : decode prog_46_method_15_code 32 = .ok (.ireturn, 1) := by decide +kernel
theorem pn12 : plainFor (⟨"com/example/copse/copse/graph/TargetSearch", "lambda$reachesAll$0", "(I)Z"⟩ : MethodName) = true := by first | (refine plainFor_of_name ?_; simp [plainName, overriddenIn]; done) | (refine plainFor_of_name ?_; decide +kernel) | decide +kernel
def fLam  : Int32 := (0 : Int32)
theorem ef_13 (m : MethodId) (a : Addr) (wa : Addr) : entryFrame m #[(.ref a), (.int (0 : Int32))] 2 = mkF m 0 #[.val (.ref a), .val (.int (0 : Int32))] [] := by first | (simp [entryFrame, mkF, argsToLocals, Value.category]; done) | rfl
abbrev rm_13 : Room := ({ frames := 0, cells := 0, slots := 0, locals := 0 } : Room)
set_option maxRecDepth 65536 in
set_option maxHeartbeats 4000000 in
theorem met_13 (l : Launch) (Z : State) (a0 : Array Value) (hw : ∀ d ∈ tables_1, d.before a0 Z = true) (a : Addr) (wa : Addr) (h0 : Heap) (n0 : Nat) (Z0 : n0 ≤ h0.size) (P0 : Fld Z h0 a "com/example/copse/copse/graph/TargetSearch" "wantedIn" "[I" (.ref wa)) (P1 : GA Z h0 wa .int 2 (fun i => .int (own_c2 (0 : Int32) (1 : Int32) i))) (P2 : Fld Z h0 a "com/example/copse/copse/graph/TargetSearch" "search" "I" (.int (1 : Int32))) :
  Met l (⟨"com/example/copse/copse/graph/TargetSearch", "lambda$reachesAll$0", "(I)Z"⟩ : MethodName) prog_46_method_15_code 2 (some FieldType.boolean) [] rm_13 Z #[(.ref a), (.int (0 : Int32))] h0 (QV (some (.int (fLam ))) h0 n0) 0 0 := by
 refine own_body pn12 ?_
 intro p e s m below meth c s₁ ct X0 e0
 obtain ⟨hx, hZ, hown, hby, hml, hret, hlk, hnm⟩ := ct
 have N0 := Fr.nil n0
 refine castGo (ef_13 m a wa) ?_
 unfold fLam
 show Gg s₁ m 0 []
 refine go_st (fun _ kq => XS.aloadN X0.here hx rfl (hb hby d13_0) rfl rfl kq) ?_
 show Gg s₁ m 1 [(.ref a)]
 refine go_getF X0 hx hZ hown (host := "") (Or.inl (wd hw 26 rfl)) Via.refl e0 P0 (hb hby d13_1) rfl rfl ?_
 intro T220 X220 e220
 show Gg T220 m 4 [(.ref wa)]
 refine go_st (fun _ kq => XS.iloadN X220.here hx rfl (hb hby d13_4) rfl kq) ?_
 show Gg T220 m 5 [(.int (0 : Int32)), (.ref wa)]
 refine go_iald X220 hx hZ e220 P1 (hb hby d13_5) rfl rfl (by decide) (.int (0 : Int32)) rfl ?_
 show Gg T220 m 6 [(.int (0 : Int32))]
 refine go_st (fun _ kq => XS.aloadN X220.here hx rfl (hb hby d13_6) rfl rfl kq) ?_
 show Gg T220 m 7 [(.ref a), (.int (0 : Int32))]
 refine go_getF X220 hx hZ hown (host := "") (Or.inl (wd hw 75 rfl)) Via.refl e220 P2 (hb hby d13_7) rfl rfl ?_
 intro T221 X221 e221
 show Gg T221 m 10 [(.int (1 : Int32)), (.int (0 : Int32))]
 refine go_st (fun _ kq => XS.icmpYes X221.here hx rfl (pc0 := 10) (pc' := 31) rfl (hb hby d13_10) rfl (XT.ii_ne_t (by decide)) (by decide) (by decide) kq) ?_
 show Gg T221 m 31 []
 refine go_st (fun _ kq => XT.iconstV X221.here hx rfl (0 : Int32) (hb hby d13_31) (by decide) kq) ?_
 show Gg T221 m 32 [(.int (0 : Int32))]
 exact go_retB (w := (0 : Int32)) X221 hx hlk hret (hb hby d13_32) (by decide) (by decide) (by decide) ⟨rfl, N0, e221⟩
def own_lt8 (d : Int32) : Prop := d = (0 : Int32) ∨ d = (1 : Int32) ∨ d = (2 : Int32) ∨ d = (3 : Int32) ∨ d = (4 : Int32) ∨ d = (5 : Int32) ∨ d = (6 : Int32) ∨ d = (7 : Int32)
theorem d12_0 : decode prog_46_method_11_code 0 = .ok (.aload_n 3, 1) := by decide +kernel
theorem d12_1 : decode prog_46_method_11_code 1 = .ok (.iload_n 2, 1) := by decide +kernel
theorem d12_2 : decode prog_46_method_11_code 2 = .ok (.invokeinterface 95 2, 5) := by decide +kernel
theorem d12_7 : decode prog_46_method_11_code 7 = .ok (.istore 4, 2) := by decide +kernel
theorem d12_9 : decode prog_46_method_11_code 9 = .ok (.iconst 0, 1) := by decide +kernel
theorem d12_10 : decode prog_46_method_11_code 10 = .ok (.istore 5, 2) := by decide +kernel
theorem d12_12 : decode prog_46_method_11_code 12 = .ok (.iconst 0, 1) := by decide +kernel
theorem d12_13 : decode prog_46_method_11_code 13 = .ok (.istore 6, 2) := by decide +kernel
theorem d12_15 : decode prog_46_method_11_code 15 = .ok (.aload_n 0, 1) := by decide +kernel
theorem d12_16 : decode prog_46_method_11_code 16 = .ok (.getfield 33, 3) := by decide +kernel
theorem d12_19 : decode prog_46_method_11_code 19 = .ok (.iload 6, 2) := by decide +kernel
theorem d12_21 : decode prog_46_method_11_code 21 = .ok (.iinc 6 1, 3) := by decide +kernel
theorem d12_24 : decode prog_46_method_11_code 24 = .ok (.iload_n 2, 1) := by decide +kernel
theorem d12_25 : decode prog_46_method_11_code 25 = .ok (.iastore, 1) := by decide +kernel
theorem d12_26 : decode prog_46_method_11_code 26 = .ok (.iload 4, 2) := by decide +kernel
theorem d12_28 : decode prog_46_method_11_code 28 = .ok (.ifCond .ne 148, 3) := by decide +kernel
theorem d12_31 : decode prog_46_method_11_code 31 = .ok (.iload 5, 2) := by decide +kernel
theorem d12_33 : decode prog_46_method_11_code 33 = .ok (.iload 6, 2) := by decide +kernel
theorem d12_35 : decode prog_46_method_11_code 35 = .ok (.if_icmp .ge 141, 3) := by decide +kernel
theorem d12_38 : decode prog_46_method_11_code 38 = .ok (.aload_n 0, 1) := by decide +kernel
theorem d12_39 : decode prog_46_method_11_code 39 = .ok (.getfield 39, 3) := by decide +kernel
theorem d12_42 : decode prog_46_method_11_code 42 = .ok (.aload_n 0, 1) := by decide +kernel
theorem d12_43 : decode prog_46_method_11_code 43 = .ok (.getfield 11, 3) := by decide +kernel
theorem d12_46 : decode prog_46_method_11_code 46 = .ok (.lcmp, 1) := by decide +kernel
theorem d12_47 : decode prog_46_method_11_code 47 = .ok (.ifCond .ge 129, 3) := by decide +kernel
theorem d12_50 : decode prog_46_method_11_code 50 = .ok (.aload_n 0, 1) := by decide +kernel
theorem d12_51 : decode prog_46_method_11_code 51 = .ok (.getfield 33, 3) := by decide +kernel
theorem d12_54 : decode prog_46_method_11_code 54 = .ok (.iload 5, 2) := by decide +kernel
theorem d12_56 : decode prog_46_method_11_code 56 = .ok (.iinc 5 1, 3) := by decide +kernel
theorem d12_59 : decode prog_46_method_11_code 59 = .ok (.iaload, 1) := by decide +kernel
theorem d12_60 : decode prog_46_method_11_code 60 = .ok (.istore 7, 2) := by decide +kernel
theorem d12_62 : decode prog_46_method_11_code 62 = .ok (.aload_n 1, 1) := by decide +kernel
theorem d12_63 : decode prog_46_method_11_code 63 = .ok (.iload 7, 2) := by decide +kernel
theorem d12_65 : decode prog_46_method_11_code 65 = .ok (.invokeinterface 87 2, 5) := by decide +kernel
theorem d12_70 : decode prog_46_method_11_code 70 = .ok (.istore 8, 2) := by decide +kernel
theorem d12_72 : decode prog_46_method_11_code 72 = .ok (.iconst 0, 1) := by decide +kernel
theorem d12_73 : decode prog_46_method_11_code 73 = .ok (.istore 9, 2) := by decide +kernel
theorem d12_75 : decode prog_46_method_11_code 75 = .ok (.iload 9, 2) := by decide +kernel
theorem d12_77 : decode prog_46_method_11_code 77 = .ok (.iload 8, 2) := by decide +kernel
theorem d12_79 : decode prog_46_method_11_code 79 = .ok (.if_icmp .ge 82, 3) := by decide +kernel
theorem d12_82 : decode prog_46_method_11_code 82 = .ok (.iload 4, 2) := by decide +kernel
theorem d12_84 : decode prog_46_method_11_code 84 = .ok (.ifCond .ne 77, 3) := by decide +kernel
theorem d12_87 : decode prog_46_method_11_code 87 = .ok (.aload_n 1, 1) := by decide +kernel
theorem d12_88 : decode prog_46_method_11_code 88 = .ok (.iload 7, 2) := by decide +kernel
theorem d12_90 : decode prog_46_method_11_code 90 = .ok (.iload 9, 2) := by decide +kernel
theorem d12_92 : decode prog_46_method_11_code 92 = .ok (.iinc 9 1, 3) := by decide +kernel
theorem d12_95 : decode prog_46_method_11_code 95 = .ok (.invokeinterface 92 3, 5) := by decide +kernel
theorem d12_100 : decode prog_46_method_11_code 100 = .ok (.istore 10, 2) := by decide +kernel
theorem d12_102 : decode prog_46_method_11_code 102 = .ok (.aload_n 0, 1) := by decide +kernel
theorem d12_103 : decode prog_46_method_11_code 103 = .ok (.getfield 23, 3) := by decide +kernel
theorem d12_106 : decode prog_46_method_11_code 106 = .ok (.iload 10, 2) := by decide +kernel
theorem d12_108 : decode prog_46_method_11_code 108 = .ok (.iaload, 1) := by decide +kernel
theorem d12_109 : decode prog_46_method_11_code 109 = .ok (.aload_n 0, 1) := by decide +kernel
theorem d12_110 : decode prog_46_method_11_code 110 = .ok (.getfield 46, 3) := by decide +kernel
theorem d12_113 : decode prog_46_method_11_code 113 = .ok (.if_icmp .eq 45, 3) := by decide +kernel
theorem d12_116 : decode prog_46_method_11_code 116 = .ok (.aload_n 0, 1) := by decide +kernel
theorem d12_117 : decode prog_46_method_11_code 117 = .ok (.getfield 23, 3) := by decide +kernel
theorem d12_120 : decode prog_46_method_11_code 120 = .ok (.iload 10, 2) := by decide +kernel
theorem d12_122 : decode prog_46_method_11_code 122 = .ok (.aload_n 0, 1) := by decide +kernel
theorem d12_123 : decode prog_46_method_11_code 123 = .ok (.getfield 46, 3) := by decide +kernel
theorem d12_126 : decode prog_46_method_11_code 126 = .ok (.iastore, 1) := by decide +kernel
theorem d12_127 : decode prog_46_method_11_code 127 = .ok (.aload_n 0, 1) := by decide +kernel
theorem d12_128 : decode prog_46_method_11_code 128 = .ok (.getfield 30, 3) := by decide +kernel
theorem d12_131 : decode prog_46_method_11_code 131 = .ok (.iload 10, 2) := by decide +kernel
theorem d12_133 : decode prog_46_method_11_code 133 = .ok (.iload 7, 2) := by decide +kernel
theorem d12_135 : decode prog_46_method_11_code 135 = .ok (.iastore, 1) := by decide +kernel
theorem d12_136 : decode prog_46_method_11_code 136 = .ok (.aload_n 3, 1) := by decide +kernel
theorem d12_137 : decode prog_46_method_11_code 137 = .ok (.iload 10, 2) := by decide +kernel
theorem d12_139 : decode prog_46_method_11_code 139 = .ok (.invokeinterface 95 2, 5) := by decide +kernel
theorem d12_144 : decode prog_46_method_11_code 144 = .ok (.istore 4, 2) := by decide +kernel
theorem d12_146 : decode prog_46_method_11_code 146 = .ok (.aload_n 0, 1) := by decide +kernel
theorem d12_147 : decode prog_46_method_11_code 147 = .ok (.getfield 33, 3) := by decide +kernel
theorem d12_150 : decode prog_46_method_11_code 150 = .ok (.iload 6, 2) := by decide +kernel
theorem d12_152 : decode prog_46_method_11_code 152 = .ok (.iinc 6 1, 3) := by decide +kernel
theorem d12_155 : decode prog_46_method_11_code 155 = .ok (.iload 10, 2) := by decide +kernel
theorem d12_157 : decode prog_46_method_11_code 157 = .ok (.iastore, 1) := by decide +kernel
theorem d12_158 : decode prog_46_method_11_code 158 = .ok (.goto (-83), 3) := by decide +kernel
theorem d12_161 : decode prog_46_method_11_code 161 = .ok (.aload_n 0, 1) := by decide +kernel
theorem d12_162 : decode prog_46_method_11_code 162 = .ok (.dup, 1) := by decide +kernel
theorem d12_163 : decode prog_46_method_11_code 163 = .ok (.getfield 39, 3) := by decide +kernel
theorem d12_166 : decode prog_46_method_11_code 166 = .ok (.iload 9, 2) := by decide +kernel
theorem d12_168 : decode prog_46_method_11_code 168 = .ok (.i2l, 1) := by decide +kernel
theorem d12_169 : decode prog_46_method_11_code 169 = .ok (.ladd, 1) := by decide +kernel
theorem d12_170 : decode prog_46_method_11_code 170 = .ok (.putfield 39, 3) := by decide +kernel
theorem d12_173 : decode prog_46_method_11_code 173 = .ok (.goto (-147), 3) := by decide +kernel
theorem d12_176 : decode prog_46_method_11_code 176 = .ok (.aload_n 0, 1) := by decide +kernel
theorem d12_177 : decode prog_46_method_11_code 177 = .ok (.iload 6, 2) := by decide +kernel
theorem d12_179 : decode prog_46_method_11_code 179 = .ok (.putfield 54, 3) := by decide +kernel
theorem d12_182 : decode prog_46_method_11_code 182 = .ok (.iload 4, 2) := by decide +kernel
theorem d12_184 : decode prog_46_method_11_code 184 = .ok (.ireturn, 1) := by decide +kernel
theorem pn13 : plainFor (⟨"com/example/copse/copse/graph/TargetSearch", "breadthFirst", "(Lcom/example/copse/copse/graph/SuccessorLists;ILjava/util/function/IntPredicate;)Z"⟩ : MethodName) = true := by first | (refine plainFor_of_name ?_; simp [plainName, overriddenIn]; done) | (refine plainFor_of_name ?_; decide +kernel) | decide +kernel
def Q_bf0t (Z : State) (cK : ClassId) (a : Addr) (o : Addr) (f : Addr) (xl : Int64) (ra : Addr) (pe : Addr) (wa : Addr) (h0 : Heap) (n0 : Nat) (v : Option Value) (h : Heap) (L : List Loc) : Prop := v = some (.int (0 : Int32)) ∧ Fr n0 L ∧ Keep h0 h [a, pe] ∧ Fld Z h a "com/example/copse/copse/graph/TargetSearch" "arcLimit" "J" (.long xl) ∧ Fld Z h a "com/example/copse/copse/graph/TargetSearch" "arcsLookedAt" "J" (.long (0 : Int64)) ∧ Fld Z h a "com/example/copse/copse/graph/TargetSearch" "search" "I" (.int (1 : Int32)) ∧ Fld Z h a "com/example/copse/copse/graph/TargetSearch" "unreached" "I" (.int (1 : Int32)) ∧ Fld Z h a "com/example/copse/copse/graph/TargetSearch" "queued" "I" (.int (1 : Int32)) ∧ Fld Z h a "com/example/copse/copse/graph/TargetSearch" "reachedIn" "[I" (.ref ra) ∧ Fld Z h a "com/example/copse/copse/graph/TargetSearch" "pending" "[I" (.ref pe) ∧ Fld Z h a "com/example/copse/copse/graph/TargetSearch" "wantedIn" "[I" (.ref wa)
theorem pd4 : parseMethodDescriptor "(I)Z" = some ⟨[.int], (some .boolean)⟩ := by decide +kernel
theorem ef_bf0t (m : MethodId) (cK : ClassId) (a : Addr) (o : Addr) (f : Addr) (xl : Int64) (ra : Addr) (pe : Addr) (wa : Addr) : entryFrame m #[(.ref a), (.ref o), (.int (0 : Int32)), (.ref f)] 11 = mkF m 0 #[.val (.ref a), .val (.ref o), .val (.int (0 : Int32)), .val (.ref f), .unset, .unset, .unset, .unset, .unset, .unset, .unset] [] := by first | (simp [entryFrame, mkF, argsToLocals, Value.category]; done) | rfl
abbrev rm_bf0t : Room := ({ frames := 2, cells := 0, slots := 0, locals := 26 } : Room)
set_option maxRecDepth 65536 in
set_option maxHeartbeats 4000000 in
theorem met_bf0t (l : Launch) (Z : State) (a0 : Array Value) (hw : ∀ d ∈ tables_1, d.before a0 Z = true) (cK : ClassId) (a : Addr) (o : Addr) (f : Addr) (xl : Int64) (ra : Addr) (pe : Addr) (wa : Addr) (h0 : Heap) (n0 : Nat) (Z0 : n0 ≤ h0.size) (P0 : Exa Z h0 a "com/example/copse/copse/graph/TargetSearch") (P1 : Exa Z h0 o "com/example/copse/copse/graph/TargetSearchArcLimitReachedPinLaw") (P2 : Fld Z h0 o "com/example/copse/copse/graph/TargetSearchArcLimitReachedPinLaw" "degree" "I" (.int (0 : Int32))) (P3 : LamAt h0 f cK a) (P4 : n0 ≤ a) (P5 : n0 ≤ pe) (P6 : a ≠ ra) (P7 : a ≠ pe) (P8 : a ≠ wa) (P9 : a ≠ o) (P10 : a ≠ f) (P11 : ra ≠ pe) (P12 : ra ≠ wa) (P13 : ra ≠ o) (P14 : ra ≠ f) (P15 : pe ≠ wa) (P16 : pe ≠ o) (P17 : pe ≠ f) (P18 : wa ≠ o) (P19 : wa ≠ f) (P20 : o ≠ f) (P21 : Fld Z h0 a "com/example/copse/copse/graph/TargetSearch" "arcLimit" "J" (.long xl)) (P22 : Fld Z h0 a "com/example/copse/copse/graph/TargetSearch" "arcsLookedAt" "J" (.long (0 : Int64))) (P23 : Fld Z h0 a "com/example/copse/copse/graph/TargetSearch" "search" "I" (.int (1 : Int32))) (P24 : Fld Z h0 a "com/example/copse/copse/graph/TargetSearch" "unreached" "I" (.int (1 : Int32))) (P25 : Fld Z h0 a "com/example/copse/copse/graph/TargetSearch" "queued" "I" (.int (0 : Int32))) (P26 : Fld Z h0 a "com/example/copse/copse/graph/TargetSearch" "reachedIn" "[I" (.ref ra)) (P27 : Fld Z h0 a "com/example/copse/copse/graph/TargetSearch" "pending" "[I" (.ref pe)) (P28 : Fld Z h0 a "com/example/copse/copse/graph/TargetSearch" "wantedIn" "[I" (.ref wa)) (P29 : GA Z h0 ra .int 2 (fun i => .int (own_c2 (1 : Int32) (0 : Int32) i))) (P30 : GA Z h0 pe .int 2 (fun i => .int (own_c2 (0 : Int32) (0 : Int32) i))) (P31 : GA Z h0 wa .int 2 (fun i => .int (own_c2 (0 : Int32) (1 : Int32) i))) (P32 : (0 : Int64) < xl) :
  MetH l (⟨"com/example/copse/copse/graph/TargetSearch", "breadthFirst", "(Lcom/example/copse/copse/graph/SuccessorLists;ILjava/util/function/IntPredicate;)Z"⟩ : MethodName) prog_46_method_11_code 11 (some FieldType.boolean) [] rm_bf0t Z cK #[(.ref a), (.ref o), (.int (0 : Int32)), (.ref f)] h0 (Q_bf0t Z cK a o f xl ra pe wa h0 n0) rm_bf0t.cells rm_bf0t.slots := by
 refine own_bodyH pn13 ?_
 intro p e s m below meth c s₁ ct X0 e0 hLam hnamed
 obtain ⟨hx, hZ, hown, hby, hml, hret, hlk, hnm⟩ := ct
 have N0 := Fr.nil n0
 refine castGo (ef_bf0t m cK a o f xl ra pe wa) ?_
 show Gg s₁ m 0 []
 refine go_st (fun _ kq => XS.aloadN X0.here hx rfl (hb hby d12_0) rfl rfl kq) ?_
 show Gg s₁ m 1 [(.ref f)]
 refine go_st (fun _ kq => XS.iloadN X0.here hx rfl (hb hby d12_1) rfl kq) ?_
 show Gg s₁ m 2 [(.int (0 : Int32)), (.ref f)]
 refine go_callLam X0 hx hZ hml hown hLam (wd hw 88 rfl) (wd hw 89 rfl) (wd hw 90 rfl) (wd hw 83 rfl) (wd hw 92 rfl) (wd hw 1 rfl) (wd hw 91 rfl) (wd hw 93 rfl) (wd hw 2 rfl) own_lx1 own_ly1 (by decide) (by decide) own_fw own_cp own_f0 own_f1 own_f4 own_f5 own_f8 e0 P3 P0 (z := (0 : Int32)) (w := (0 : Int32)) (rest := []) (W := 0) (met_13 l Z a0 hw a wa h0 n0 Z0 P28 P31 P23) (fun v h L q => q.1) (by decide) (hb hby d12_2) rfl rfl rfl (lenOf pd4 rfl) pd4 (by show 2 * 0 + _ ≤ _; exact Nat.le_of_eq rfl) (by decide) (by decide) (by decide) (by decide) ?_
 intro T222 L222 X222 q222
 obtain ⟨-, M222, e222⟩ := q222
 have N222 := Fr.app N0 M222
 show Gg T222 m 7 [(.int (0 : Int32))]
 refine go_st (fun _ kq => XS.istore X222.here hx rfl (hb hby d12_7) rfl (l' := #[.val (.ref a), .val (.ref o), .val (.int (0 : Int32)), .val (.ref f), .val (.int (0 : Int32)), .unset, .unset, .unset, .unset, .unset, .unset]) rfl kq) ?_
 show Gg T222 m 9 []
 refine go_st (fun _ kq => XT.iconstV X222.here hx rfl (0 : Int32) (hb hby d12_9) (by decide) kq) ?_
 show Gg T222 m 10 [(.int (0 : Int32))]
 refine go_st (fun _ kq => XS.istore X222.here hx rfl (hb hby d12_10) rfl (l' := #[.val (.ref a), .val (.ref o), .val (.int (0 : Int32)), .val (.ref f), .val (.int (0 : Int32)), .val (.int (0 : Int32)), .unset, .unset, .unset, .unset, .unset]) rfl kq) ?_
 show Gg T222 m 12 []
 refine go_st (fun _ kq => XT.iconstV X222.here hx rfl (0 : Int32) (hb hby d12_12) (by decide) kq) ?_
 show Gg T222 m 13 [(.int (0 : Int32))]
 refine go_st (fun _ kq => XS.istore X222.here hx rfl (hb hby d12_13) rfl (l' := #[.val (.ref a), .val (.ref o), .val (.int (0 : Int32)), .val (.ref f), .val (.int (0 : Int32)), .val (.int (0 : Int32)), .val (.int (0 : Int32)), .unset, .unset, .unset, .unset]) rfl kq) ?_
 show Gg T222 m 15 []
 refine go_st (fun _ kq => XS.aloadN X222.here hx rfl (hb hby d12_15) rfl rfl kq) ?_
 show Gg T222 m 16 [(.ref a)]
 refine go_getF X222 hx hZ hown (host := "") (Or.inl (wd hw 24 rfl)) Via.refl e222 P27 (hb hby d12_16) rfl rfl ?_
 intro T223 X223 e223
 show Gg T223 m 19 [(.ref pe)]
 refine go_st (fun _ kq => XS.iload X223.here hx rfl (hb hby d12_19) rfl kq) ?_
 show Gg T223 m 21 [(.int (0 : Int32)), (.ref pe)]
 refine go_st (fun _ kq => XT.iincV X223.here hx rfl (1 : Int32) (hb hby d12_21) (by decide) rfl (l' := #[.val (.ref a), .val (.ref o), .val (.int (0 : Int32)), .val (.ref f), .val (.int (0 : Int32)), .val (.int (0 : Int32)), .val (.int (1 : Int32)), .unset, .unset, .unset, .unset]) rfl kq) ?_
 show Gg T223 m 24 [(.int (0 : Int32)), (.ref pe)]
 refine go_st (fun _ kq => XS.iloadN X223.here hx rfl (hb hby d12_24) rfl kq) ?_
 show Gg T223 m 25 [(.int (0 : Int32)), (.int (0 : Int32)), (.ref pe)]
 refine go_iast X223 hx hZ e223 P30 (hb hby d12_25) rfl rfl (by decide) ?_
 intro T224 h224 X224 e224 W224 G224
 have N224 := Fr.snoc X224 N222 P5
 have A224 : GA Z h224 pe .int 2 (fun i => .int (own_c2 (0 : Int32) (0 : Int32) i)) := (own_sti (by decide) (own_c20 (0 : Int32) (0 : Int32) (0 : Int32)) G224)
 show Gg T224 m 26 []
 refine go_st (fun _ kq => XS.iload X224.here hx rfl (hb hby d12_26) rfl kq) ?_
 show Gg T224 m 28 [(.int (0 : Int32))]
 refine go_st (fun _ kq => XS.ifNo X224.here hx rfl (hb hby d12_28) rfl (XT.i0_ne_f (by decide)) kq) ?_
 show Gg T224 m 31 []
 refine go_st (fun _ kq => XS.iload X224.here hx rfl (hb hby d12_31) rfl kq) ?_
 show Gg T224 m 33 [(.int (0 : Int32))]
 refine go_st (fun _ kq => XS.iload X224.here hx rfl (hb hby d12_33) rfl kq) ?_
 show Gg T224 m 35 [(.int (1 : Int32)), (.int (0 : Int32))]
 refine go_st (fun _ kq => XS.icmpNo X224.here hx rfl (hb hby d12_35) rfl (XT.ii_ge_f (by decide)) kq) ?_
 show Gg T224 m 38 []
 refine go_st (fun _ kq => XS.aloadN X224.here hx rfl (hb hby d12_38) rfl rfl kq) ?_
 show Gg T224 m 39 [(.ref a)]
 have c225 := Fld.other W224 P22 (Or.inl P7)
 refine go_getF X224 hx hZ hown (host := "") (Or.inl (wd hw 33 rfl)) Via.refl e224 c225 (hb hby d12_39) rfl rfl ?_
 intro T226 X226 e226
 show Gg T226 m 42 [(.long (0 : Int64))]
 refine go_st (fun _ kq => XS.aloadN X226.here hx rfl (hb hby d12_42) rfl rfl kq) ?_
 show Gg T226 m 43 [(.ref a), (.long (0 : Int64))]
 have c227 := Fld.other W224 P21 (Or.inl P7)
 refine go_getF X226 hx hZ hown (host := "") (Or.inl (wd hw 10 rfl)) Via.refl e226 c227 (hb hby d12_43) rfl rfl ?_
 intro T228 X228 e228
 show Gg T228 m 46 [(.long xl), (.long (0 : Int64))]
 refine go_st (fun _ kq => XT.lcmp X228.here hx rfl (hb hby d12_46) rfl kq) ?_
 show Gg T228 m 47 [(.int (XT.cmpL (0 : Int64) xl))]
 refine go_st (fun _ kq => XS.ifNo X228.here hx rfl (hb hby d12_47) rfl (XT.ll_ge_f P32) kq) ?_
 show Gg T228 m 50 []
 refine go_st (fun _ kq => XS.aloadN X228.here hx rfl (hb hby d12_50) rfl rfl kq) ?_
 show Gg T228 m 51 [(.ref a)]
 have c229 := Fld.other W224 P27 (Or.inl P7)
 refine go_getF X228 hx hZ hown (host := "") (Or.inl (wd hw 24 rfl)) Via.refl e228 c229 (hb hby d12_51) rfl rfl ?_
 intro T230 X230 e230
 show Gg T230 m 54 [(.ref pe)]
 refine go_st (fun _ kq => XS.iload X230.here hx rfl (hb hby d12_54) rfl kq) ?_
 show Gg T230 m 56 [(.int (0 : Int32)), (.ref pe)]
 refine go_st (fun _ kq => XT.iincV X230.here hx rfl (1 : Int32) (hb hby d12_56) (by decide) rfl (l' := #[.val (.ref a), .val (.ref o), .val (.int (0 : Int32)), .val (.ref f), .val (.int (0 : Int32)), .val (.int (1 : Int32)), .val (.int (1 : Int32)), .unset, .unset, .unset, .unset]) rfl kq) ?_
 show Gg T230 m 59 [(.int (0 : Int32)), (.ref pe)]
 refine go_iald X230 hx hZ e230 A224 (hb hby d12_59) rfl rfl (by decide) (.int (0 : Int32)) rfl ?_
 show Gg T230 m 60 [(.int (0 : Int32))]
 refine go_st (fun _ kq => XS.istore X230.here hx rfl (hb hby d12_60) rfl (l' := #[.val (.ref a), .val (.ref o), .val (.int (0 : Int32)), .val (.ref f), .val (.int (0 : Int32)), .val (.int (1 : Int32)), .val (.int (1 : Int32)), .val (.int (0 : Int32)), .unset, .unset, .unset]) rfl kq) ?_
 show Gg T230 m 62 []
 refine go_st (fun _ kq => XS.aloadN X230.here hx rfl (hb hby d12_62) rfl rfl kq) ?_
 show Gg T230 m 63 [(.ref o)]
 refine go_st (fun _ kq => XS.iload X230.here hx rfl (hb hby d12_63) rfl kq) ?_
 show Gg T230 m 65 [(.int (0 : Int32)), (.ref o)]
 have c232 := Fld.other W224 P2 (Or.inl (Ne.symm P16))
 have z233 : n0 ≤ h224.size := (Wr.size W224).symm ▸ Z0
 have c234 := Exa.wr W224 P1
 refine go_callF X230 hx hZ hml hown (wd hw 94 rfl) (wd hw 95 rfl) (wd hw 96 rfl) (wd hw 97 rfl) (wd hw 98 rfl) (wd hw 99 rfl) (wd hw 100 rfl) (wd hw 65 rfl) (wd hw 101 rfl) (wd hw 42 rfl) e230 c234 (argsL := [(.int (0 : Int32))]) (rest := []) (W := 0) (met_14 l Z a0 hw o (0 : Int32) h224 n0 z233 c232) (hb hby d12_65) rfl rfl rfl (lenOf pd0 rfl) (by show 2 * 0 + _ ≤ _; exact Nat.le_of_eq rfl) (by decide) (by decide) (by decide) (by decide) (by decide) ?_
 intro T231 v231 L231 X231 q231
 obtain ⟨rfl, M231, e231⟩ := q231
 have N231 := Fr.app N224 M231
 show Gg T231 m 70 [(.int (0 : Int32))]
 refine go_st (fun _ kq => XS.istore X231.here hx rfl (hb hby d12_70) rfl (l' := #[.val (.ref a), .val (.ref o), .val (.int (0 : Int32)), .val (.ref f), .val (.int (0 : Int32)), .val (.int (1 : Int32)), .val (.int (1 : Int32)), .val (.int (0 : Int32)), .val (.int (0 : Int32)), .unset, .unset]) rfl kq) ?_
 show Gg T231 m 72 []
 refine go_st (fun _ kq => XT.iconstV X231.here hx rfl (0 : Int32) (hb hby d12_72) (by decide) kq) ?_
 show Gg T231 m 73 [(.int (0 : Int32))]
 refine go_st (fun _ kq => XS.istore X231.here hx rfl (hb hby d12_73) rfl (l' := #[.val (.ref a), .val (.ref o), .val (.int (0 : Int32)), .val (.ref f), .val (.int (0 : Int32)), .val (.int (1 : Int32)), .val (.int (1 : Int32)), .val (.int (0 : Int32)), .val (.int (0 : Int32)), .val (.int (0 : Int32)), .unset]) rfl kq) ?_
 show Gg T231 m 75 []
 refine go_st (fun _ kq => XS.iload X231.here hx rfl (hb hby d12_75) rfl kq) ?_
 show Gg T231 m 77 [(.int (0 : Int32))]
 refine go_st (fun _ kq => XS.iload X231.here hx rfl (hb hby d12_77) rfl kq) ?_
 show Gg T231 m 79 [(.int (0 : Int32)), (.int (0 : Int32))]
 refine go_st (fun _ kq => XS.icmpYes X231.here hx rfl (pc0 := 79) (pc' := 161) rfl (hb hby d12_79) rfl (XT.ii_ge_t (by decide)) (by decide) (by decide) kq) ?_
 show Gg T231 m 161 []
 refine go_st (fun _ kq => XS.aloadN X231.here hx rfl (hb hby d12_161) rfl rfl kq) ?_
 show Gg T231 m 162 [(.ref a)]
 refine go_st (fun _ kq => XS.dup X231.here hx rfl (hb hby d12_162) rfl rfl kq) ?_
 show Gg T231 m 163 [(.ref a), (.ref a)]
 refine go_getF X231 hx hZ hown (host := "") (Or.inl (wd hw 33 rfl)) Via.refl e231 c225 (hb hby d12_163) rfl rfl ?_
 intro T235 X235 e235
 show Gg T235 m 166 [(.long (0 : Int64)), (.ref a)]
 refine go_st (fun _ kq => XS.iload X235.here hx rfl (hb hby d12_166) rfl kq) ?_
 show Gg T235 m 168 [(.int (0 : Int32)), (.long (0 : Int64)), (.ref a)]
 refine go_st (fun _ kq => XT.i2l X235.here hx rfl (hb hby d12_168) rfl kq) ?_
 rw [show (0 : Int32).toInt64 = (0 : Int64) from by decide +kernel]
 show Gg T235 m 169 [(.long (0 : Int64)), (.long (0 : Int64)), (.ref a)]
 refine go_st (fun _ kq => XT.ladd X235.here hx rfl (hb hby d12_169) rfl kq) ?_
 rw [show ((0 : Int64) + (0 : Int64)) = (0 : Int64) from by decide +kernel]
 show Gg T235 m 170 [(.long (0 : Int64)), (.ref a)]
 have c236 := Exa.wr W224 P0
 refine go_putF X235 hx hZ hown (host := "") (Or.inl (wd hw 33 rfl)) Via.refl e235 c225 c236 (Or.inl (wd hw 34 rfl)) (wd hw 1 rfl) (ty := .long) (by decide) rfl rfl (hb hby d12_170) rfl rfl ?_
 intro T237 h237 X237 e237 W237
 have N237 := Fr.snoc X237 N231 P4
 have F237 : Fld Z h237 a "com/example/copse/copse/graph/TargetSearch" "arcsLookedAt" "J" (.long (0 : Int64)) := Fld.same W237 c225
 show Gg T237 m 173 []
 refine go_st (fun _ kq => XS.goto X237.here hx rfl (pc0 := 173) (pc' := 26) rfl (hb hby d12_173) (by decide) (by decide) kq) ?_
 show Gg T237 m 26 []
 refine go_st (fun _ kq => XS.iload X237.here hx rfl (hb hby d12_26) rfl kq) ?_
 show Gg T237 m 28 [(.int (0 : Int32))]
 refine go_st (fun _ kq => XS.ifNo X237.here hx rfl (hb hby d12_28) rfl (XT.i0_ne_f (by decide)) kq) ?_
 show Gg T237 m 31 []
 refine go_st (fun _ kq => XS.iload X237.here hx rfl (hb hby d12_31) rfl kq) ?_
 show Gg T237 m 33 [(.int (1 : Int32))]
 refine go_st (fun _ kq => XS.iload X237.here hx rfl (hb hby d12_33) rfl kq) ?_
 show Gg T237 m 35 [(.int (1 : Int32)), (.int (1 : Int32))]
 refine go_st (fun _ kq => XS.icmpYes X237.here hx rfl (pc0 := 35) (pc' := 176) rfl (hb hby d12_35) rfl (XT.ii_ge_t (by decide)) (by decide) (by decide) kq) ?_
 show Gg T237 m 176 []
 refine go_st (fun _ kq => XS.aloadN X237.here hx rfl (hb hby d12_176) rfl rfl kq) ?_
 show Gg T237 m 177 [(.ref a)]
 refine go_st (fun _ kq => XS.iload X237.here hx rfl (hb hby d12_177) rfl kq) ?_
 show Gg T237 m 179 [(.int (1 : Int32)), (.ref a)]
 have c238 := Fld.other W224 P25 (Or.inl P7)
 have c239 := Fld.other W237 c238 (Or.inr (slot_ne (a0 := a0) (t := .int) (t' := .long) (Or.inl (wd hw 103 rfl)) (Or.inl (wd hw 34 rfl)) (by decide) (by decide) (by decide)))
 have c240 := Exa.wr W237 c236
 refine go_putF X237 hx hZ hown (host := "") (Or.inl (wd hw 102 rfl)) Via.refl e237 c239 c240 (Or.inl (wd hw 103 rfl)) (wd hw 1 rfl) (ty := .int) (by decide) rfl rfl (hb hby d12_179) rfl rfl ?_
 intro T241 h241 X241 e241 W241
 have N241 := Fr.snoc X241 N237 P4
 have F241 : Fld Z h241 a "com/example/copse/copse/graph/TargetSearch" "queued" "I" (.int (1 : Int32)) := Fld.same W241 c239
 show Gg T241 m 182 []
 refine go_st (fun _ kq => XS.iload X241.here hx rfl (hb hby d12_182) rfl kq) ?_
 show Gg T241 m 184 [(.int (0 : Int32))]
 have c242 := Fld.other W237 c227 (Or.inr (slot_ne (a0 := a0) (t := .long) (t' := .long) (Or.inl (wd hw 11 rfl)) (Or.inl (wd hw 34 rfl)) (by decide) (by decide) (by decide)))
 have c243 := Fld.other W241 c242 (Or.inr (slot_ne (a0 := a0) (t := .long) (t' := .int) (Or.inl (wd hw 11 rfl)) (Or.inl (wd hw 103 rfl)) (by decide) (by decide) (by decide)))
 have c244 := Fld.other W241 F237 (Or.inr (slot_ne (a0 := a0) (t := .long) (t' := .int) (Or.inl (wd hw 34 rfl)) (Or.inl (wd hw 103 rfl)) (by decide) (by decide) (by decide)))
 have c245 := Fld.other W224 P23 (Or.inl P7)
 have c246 := Fld.other W237 c245 (Or.inr (slot_ne (a0 := a0) (t := .int) (t' := .long) (Or.inl (wd hw 76 rfl)) (Or.inl (wd hw 34 rfl)) (by decide) (by decide) (by decide)))
 have c247 := Fld.other W241 c246 (Or.inr (slot_ne (a0 := a0) (t := .int) (t' := .int) (Or.inl (wd hw 76 rfl)) (Or.inl (wd hw 103 rfl)) (by decide) (by decide) (by decide)))
 have c248 := Fld.other W224 P24 (Or.inl P7)
 have c249 := Fld.other W237 c248 (Or.inr (slot_ne (a0 := a0) (t := .int) (t' := .long) (Or.inl (wd hw 79 rfl)) (Or.inl (wd hw 34 rfl)) (by decide) (by decide) (by decide)))
 have c250 := Fld.other W241 c249 (Or.inr (slot_ne (a0 := a0) (t := .int) (t' := .int) (Or.inl (wd hw 79 rfl)) (Or.inl (wd hw 103 rfl)) (by decide) (by decide) (by decide)))
 have c251 := Fld.other W224 P26 (Or.inl P7)
 have c252 := Fld.other W237 c251 (Or.inr (slot_ne (a0 := a0) (t := (.array .int)) (t' := .long) (Or.inr (wd hw 19 rfl)) (Or.inl (wd hw 34 rfl)) (by decide) (by decide) (by decide)))
 have c253 := Fld.other W241 c252 (Or.inr (slot_ne (a0 := a0) (t := (.array .int)) (t' := .int) (Or.inr (wd hw 19 rfl)) (Or.inl (wd hw 103 rfl)) (by decide) (by decide) (by decide)))
 have c254 := Fld.other W237 c229 (Or.inr (slot_ne (a0 := a0) (t := (.array .int)) (t' := .long) (Or.inr (wd hw 25 rfl)) (Or.inl (wd hw 34 rfl)) (by decide) (by decide) (by decide)))
 have c255 := Fld.other W241 c254 (Or.inr (slot_ne (a0 := a0) (t := (.array .int)) (t' := .int) (Or.inr (wd hw 25 rfl)) (Or.inl (wd hw 103 rfl)) (by decide) (by decide) (by decide)))
 have c256 := Fld.other W224 P28 (Or.inl P7)
 have c257 := Fld.other W237 c256 (Or.inr (slot_ne (a0 := a0) (t := (.array .int)) (t' := .long) (Or.inr (wd hw 27 rfl)) (Or.inl (wd hw 34 rfl)) (by decide) (by decide) (by decide)))
 have c258 := Fld.other W241 c257 (Or.inr (slot_ne (a0 := a0) (t := (.array .int)) (t' := .int) (Or.inr (wd hw 27 rfl)) (Or.inl (wd hw 103 rfl)) (by decide) (by decide) (by decide)))
 exact go_retB (w := (0 : Int32)) X241 hx hlk hret (hb hby d12_184) (by decide) (by decide) (by decide) (by rw [e241]; exact ⟨rfl, N241, (Keep.wr (Keep.wr (Keep.wr (Keep.refl h0 [a, pe]) W224 (Or.inl (by simp))) W237 (Or.inl (by simp))) W241 (Or.inl (by simp))), c243, c244, c247, c250, F241, c253, c255, c258⟩)
def Q_bf1t (Z : State) (cK : ClassId) (a : Addr) (o : Addr) (f : Addr) (xl : Int64) (ra : Addr) (pe : Addr) (wa : Addr) (h0 : Heap) (n0 : Nat) (v : Option Value) (h : Heap) (L : List Loc) : Prop := v = some (.int (0 : Int32)) ∧ Fr n0 L ∧ Keep h0 h [a, pe] ∧ Fld Z h a "com/example/copse/copse/graph/TargetSearch" "arcLimit" "J" (.long xl) ∧ Fld Z h a "com/example/copse/copse/graph/TargetSearch" "arcsLookedAt" "J" (.long (1 : Int64)) ∧ Fld Z h a "com/example/copse/copse/graph/TargetSearch" "search" "I" (.int (1 : Int32)) ∧ Fld Z h a "com/example/copse/copse/graph/TargetSearch" "unreached" "I" (.int (1 : Int32)) ∧ Fld Z h a "com/example/copse/copse/graph/TargetSearch" "queued" "I" (.int (1 : Int32)) ∧ Fld Z h a "com/example/copse/copse/graph/TargetSearch" "reachedIn" "[I" (.ref ra) ∧ Fld Z h a "com/example/copse/copse/graph/TargetSearch" "pending" "[I" (.ref pe) ∧ Fld Z h a "com/example/copse/copse/graph/TargetSearch" "wantedIn" "[I" (.ref wa)
theorem ef_bf1t (m : MethodId) (cK : ClassId) (a : Addr) (o : Addr) (f : Addr) (xl : Int64) (ra : Addr) (pe : Addr) (wa : Addr) : entryFrame m #[(.ref a), (.ref o), (.int (0 : Int32)), (.ref f)] 11 = mkF m 0 #[.val (.ref a), .val (.ref o), .val (.int (0 : Int32)), .val (.ref f), .unset, .unset, .unset, .unset, .unset, .unset, .unset] [] := by first | (simp [entryFrame, mkF, argsToLocals, Value.category]; done) | rfl
abbrev rm_bf1t : Room := ({ frames := 2, cells := 0, slots := 0, locals := 26 } : Room)
set_option maxRecDepth 65536 in
set_option maxHeartbeats 4000000 in
theorem met_bf1t (l : Launch) (Z : State) (a0 : Array Value) (hw : ∀ d ∈ tables_1, d.before a0 Z = true) (cK : ClassId) (a : Addr) (o : Addr) (f : Addr) (xl : Int64) (ra : Addr) (pe : Addr) (wa : Addr) (h0 : Heap) (n0 : Nat) (Z0 : n0 ≤ h0.size) (P0 : Exa Z h0 a "com/example/copse/copse/graph/TargetSearch") (P1 : Exa Z h0 o "com/example/copse/copse/graph/TargetSearchArcLimitReachedPinLaw") (P2 : Fld Z h0 o "com/example/copse/copse/graph/TargetSearchArcLimitReachedPinLaw" "degree" "I" (.int (1 : Int32))) (P3 : LamAt h0 f cK a) (P4 : n0 ≤ a) (P5 : n0 ≤ pe) (P6 : a ≠ ra) (P7 : a ≠ pe) (P8 : a ≠ wa) (P9 : a ≠ o) (P10 : a ≠ f) (P11 : ra ≠ pe) (P12 : ra ≠ wa) (P13 : ra ≠ o) (P14 : ra ≠ f) (P15 : pe ≠ wa) (P16 : pe ≠ o) (P17 : pe ≠ f) (P18 : wa ≠ o) (P19 : wa ≠ f) (P20 : o ≠ f) (P21 : Fld Z h0 a "com/example/copse/copse/graph/TargetSearch" "arcLimit" "J" (.long xl)) (P22 : Fld Z h0 a "com/example/copse/copse/graph/TargetSearch" "arcsLookedAt" "J" (.long (0 : Int64))) (P23 : Fld Z h0 a "com/example/copse/copse/graph/TargetSearch" "search" "I" (.int (1 : Int32))) (P24 : Fld Z h0 a "com/example/copse/copse/graph/TargetSearch" "unreached" "I" (.int (1 : Int32))) (P25 : Fld Z h0 a "com/example/copse/copse/graph/TargetSearch" "queued" "I" (.int (0 : Int32))) (P26 : Fld Z h0 a "com/example/copse/copse/graph/TargetSearch" "reachedIn" "[I" (.ref ra)) (P27 : Fld Z h0 a "com/example/copse/copse/graph/TargetSearch" "pending" "[I" (.ref pe)) (P28 : Fld Z h0 a "com/example/copse/copse/graph/TargetSearch" "wantedIn" "[I" (.ref wa)) (P29 : GA Z h0 ra .int 2 (fun i => .int (own_c2 (1 : Int32) (0 : Int32) i))) (P30 : GA Z h0 pe .int 2 (fun i => .int (own_c2 (0 : Int32) (0 : Int32) i))) (P31 : GA Z h0 wa .int 2 (fun i => .int (own_c2 (0 : Int32) (1 : Int32) i))) (P32 : (0 : Int64) < xl) :
  MetH l (⟨"com/example/copse/copse/graph/TargetSearch", "breadthFirst", "(Lcom/example/copse/copse/graph/SuccessorLists;ILjava/util/function/IntPredicate;)Z"⟩ : MethodName) prog_46_method_11_code 11 (some FieldType.boolean) [] rm_bf1t Z cK #[(.ref a), (.ref o), (.int (0 : Int32)), (.ref f)] h0 (Q_bf1t Z cK a o f xl ra pe wa h0 n0) rm_bf1t.cells rm_bf1t.slots := by
 refine own_bodyH pn13 ?_
 intro p e s m below meth c s₁ ct X0 e0 hLam hnamed
 obtain ⟨hx, hZ, hown, hby, hml, hret, hlk, hnm⟩ := ct
 have N0 := Fr.nil n0
 refine castGo (ef_bf1t m cK a o f xl ra pe wa) ?_
 show Gg s₁ m 0 []
 refine go_st (fun _ kq => XS.aloadN X0.here hx rfl (hb hby d12_0) rfl rfl kq) ?_
 show Gg s₁ m 1 [(.ref f)]
 refine go_st (fun _ kq => XS.iloadN X0.here hx rfl (hb hby d12_1) rfl kq) ?_
 show Gg s₁ m 2 [(.int (0 : Int32)), (.ref f)]
 refine go_callLam X0 hx hZ hml hown hLam (wd hw 88 rfl) (wd hw 89 rfl) (wd hw 90 rfl) (wd hw 83 rfl) (wd hw 92 rfl) (wd hw 1 rfl) (wd hw 91 rfl) (wd hw 93 rfl) (wd hw 2 rfl) own_lx1 own_ly1 (by decide) (by decide) own_fw own_cp own_f0 own_f1 own_f4 own_f5 own_f8 e0 P3 P0 (z := (0 : Int32)) (w := (0 : Int32)) (rest := []) (W := 0) (met_13 l Z a0 hw a wa h0 n0 Z0 P28 P31 P23) (fun v h L q => q.1) (by decide) (hb hby d12_2) rfl rfl rfl (lenOf pd4 rfl) pd4 (by show 2 * 0 + _ ≤ _; exact Nat.le_of_eq rfl) (by decide) (by decide) (by decide) (by decide) ?_
 intro T259 L259 X259 q259
 obtain ⟨-, M259, e259⟩ := q259
 have N259 := Fr.app N0 M259
 show Gg T259 m 7 [(.int (0 : Int32))]
 refine go_st (fun _ kq => XS.istore X259.here hx rfl (hb hby d12_7) rfl (l' := #[.val (.ref a), .val (.ref o), .val (.int (0 : Int32)), .val (.ref f), .val (.int (0 : Int32)), .unset, .unset, .unset, .unset, .unset, .unset]) rfl kq) ?_
 show Gg T259 m 9 []
 refine go_st (fun _ kq => XT.iconstV X259.here hx rfl (0 : Int32) (hb hby d12_9) (by decide) kq) ?_
 show Gg T259 m 10 [(.int (0 : Int32))]
 refine go_st (fun _ kq => XS.istore X259.here hx rfl (hb hby d12_10) rfl (l' := #[.val (.ref a), .val (.ref o), .val (.int (0 : Int32)), .val (.ref f), .val (.int (0 : Int32)), .val (.int (0 : Int32)), .unset, .unset, .unset, .unset, .unset]) rfl kq) ?_
 show Gg T259 m 12 []
 refine go_st (fun _ kq => XT.iconstV X259.here hx rfl (0 : Int32) (hb hby d12_12) (by decide) kq) ?_
 show Gg T259 m 13 [(.int (0 : Int32))]
 refine go_st (fun _ kq => XS.istore X259.here hx rfl (hb hby d12_13) rfl (l' := #[.val (.ref a), .val (.ref o), .val (.int (0 : Int32)), .val (.ref f), .val (.int (0 : Int32)), .val (.int (0 : Int32)), .val (.int (0 : Int32)), .unset, .unset, .unset, .unset]) rfl kq) ?_
 show Gg T259 m 15 []
 refine go_st (fun _ kq => XS.aloadN X259.here hx rfl (hb hby d12_15) rfl rfl kq) ?_
 show Gg T259 m 16 [(.ref a)]
 refine go_getF X259 hx hZ hown (host := "") (Or.inl (wd hw 24 rfl)) Via.refl e259 P27 (hb hby d12_16) rfl rfl ?_
 intro T260 X260 e260
 show Gg T260 m 19 [(.ref pe)]
 refine go_st (fun _ kq => XS.iload X260.here hx rfl (hb hby d12_19) rfl kq) ?_
 show Gg T260 m 21 [(.int (0 : Int32)), (.ref pe)]
 refine go_st (fun _ kq => XT.iincV X260.here hx rfl (1 : Int32) (hb hby d12_21) (by decide) rfl (l' := #[.val (.ref a), .val (.ref o), .val (.int (0 : Int32)), .val (.ref f), .val (.int (0 : Int32)), .val (.int (0 : Int32)), .val (.int (1 : Int32)), .unset, .unset, .unset, .unset]) rfl kq) ?_
 show Gg T260 m 24 [(.int (0 : Int32)), (.ref pe)]
 refine go_st (fun _ kq => XS.iloadN X260.here hx rfl (hb hby d12_24) rfl kq) ?_
 show Gg T260 m 25 [(.int (0 : Int32)), (.int (0 : Int32)), (.ref pe)]
 refine go_iast X260 hx hZ e260 P30 (hb hby d12_25) rfl rfl (by decide) ?_
 intro T261 h261 X261 e261 W261 G261
 have N261 := Fr.snoc X261 N259 P5
 have A261 : GA Z h261 pe .int 2 (fun i => .int (own_c2 (0 : Int32) (0 : Int32) i)) := (own_sti (by decide) (own_c20 (0 : Int32) (0 : Int32) (0 : Int32)) G261)
 show Gg T261 m 26 []
 refine go_st (fun _ kq => XS.iload X261.here hx rfl (hb hby d12_26) rfl kq) ?_
 show Gg T261 m 28 [(.int (0 : Int32))]
 refine go_st (fun _ kq => XS.ifNo X261.here hx rfl (hb hby d12_28) rfl (XT.i0_ne_f (by decide)) kq) ?_
 show Gg T261 m 31 []
 refine go_st (fun _ kq => XS.iload X261.here hx rfl (hb hby d12_31) rfl kq) ?_
 show Gg T261 m 33 [(.int (0 : Int32))]
 refine go_st (fun _ kq => XS.iload X261.here hx rfl (hb hby d12_33) rfl kq) ?_
 show Gg T261 m 35 [(.int (1 : Int32)), (.int (0 : Int32))]
 refine go_st (fun _ kq => XS.icmpNo X261.here hx rfl (hb hby d12_35) rfl (XT.ii_ge_f (by decide)) kq) ?_
 show Gg T261 m 38 []
 refine go_st (fun _ kq => XS.aloadN X261.here hx rfl (hb hby d12_38) rfl rfl kq) ?_
 show Gg T261 m 39 [(.ref a)]
 have c262 := Fld.other W261 P22 (Or.inl P7)
 refine go_getF X261 hx hZ hown (host := "") (Or.inl (wd hw 33 rfl)) Via.refl e261 c262 (hb hby d12_39) rfl rfl ?_
 intro T263 X263 e263
 show Gg T263 m 42 [(.long (0 : Int64))]
 refine go_st (fun _ kq => XS.aloadN X263.here hx rfl (hb hby d12_42) rfl rfl kq) ?_
 show Gg T263 m 43 [(.ref a), (.long (0 : Int64))]
 have c264 := Fld.other W261 P21 (Or.inl P7)
 refine go_getF X263 hx hZ hown (host := "") (Or.inl (wd hw 10 rfl)) Via.refl e263 c264 (hb hby d12_43) rfl rfl ?_
 intro T265 X265 e265
 show Gg T265 m 46 [(.long xl), (.long (0 : Int64))]
 refine go_st (fun _ kq => XT.lcmp X265.here hx rfl (hb hby d12_46) rfl kq) ?_
 show Gg T265 m 47 [(.int (XT.cmpL (0 : Int64) xl))]
 refine go_st (fun _ kq => XS.ifNo X265.here hx rfl (hb hby d12_47) rfl (XT.ll_ge_f P32) kq) ?_
 show Gg T265 m 50 []
 refine go_st (fun _ kq => XS.aloadN X265.here hx rfl (hb hby d12_50) rfl rfl kq) ?_
 show Gg T265 m 51 [(.ref a)]
 have c266 := Fld.other W261 P27 (Or.inl P7)
 refine go_getF X265 hx hZ hown (host := "") (Or.inl (wd hw 24 rfl)) Via.refl e265 c266 (hb hby d12_51) rfl rfl ?_
 intro T267 X267 e267
 show Gg T267 m 54 [(.ref pe)]
 refine go_st (fun _ kq => XS.iload X267.here hx rfl (hb hby d12_54) rfl kq) ?_
 show Gg T267 m 56 [(.int (0 : Int32)), (.ref pe)]
 refine go_st (fun _ kq => XT.iincV X267.here hx rfl (1 : Int32) (hb hby d12_56) (by decide) rfl (l' := #[.val (.ref a), .val (.ref o), .val (.int (0 : Int32)), .val (.ref f), .val (.int (0 : Int32)), .val (.int (1 : Int32)), .val (.int (1 : Int32)), .unset, .unset, .unset, .unset]) rfl kq) ?_
 show Gg T267 m 59 [(.int (0 : Int32)), (.ref pe)]
 refine go_iald X267 hx hZ e267 A261 (hb hby d12_59) rfl rfl (by decide) (.int (0 : Int32)) rfl ?_
 show Gg T267 m 60 [(.int (0 : Int32))]
 refine go_st (fun _ kq => XS.istore X267.here hx rfl (hb hby d12_60) rfl (l' := #[.val (.ref a), .val (.ref o), .val (.int (0 : Int32)), .val (.ref f), .val (.int (0 : Int32)), .val (.int (1 : Int32)), .val (.int (1 : Int32)), .val (.int (0 : Int32)), .unset, .unset, .unset]) rfl kq) ?_
 show Gg T267 m 62 []
 refine go_st (fun _ kq => XS.aloadN X267.here hx rfl (hb hby d12_62) rfl rfl kq) ?_
 show Gg T267 m 63 [(.ref o)]
 refine go_st (fun _ kq => XS.iload X267.here hx rfl (hb hby d12_63) rfl kq) ?_
 show Gg T267 m 65 [(.int (0 : Int32)), (.ref o)]
 have c269 := Fld.other W261 P2 (Or.inl (Ne.symm P16))
 have z270 : n0 ≤ h261.size := (Wr.size W261).symm ▸ Z0
 have c271 := Exa.wr W261 P1
 refine go_callF X267 hx hZ hml hown (wd hw 94 rfl) (wd hw 95 rfl) (wd hw 96 rfl) (wd hw 97 rfl) (wd hw 98 rfl) (wd hw 99 rfl) (wd hw 100 rfl) (wd hw 65 rfl) (wd hw 101 rfl) (wd hw 42 rfl) e267 c271 (argsL := [(.int (0 : Int32))]) (rest := []) (W := 0) (met_14 l Z a0 hw o (1 : Int32) h261 n0 z270 c269) (hb hby d12_65) rfl rfl rfl (lenOf pd0 rfl) (by show 2 * 0 + _ ≤ _; exact Nat.le_of_eq rfl) (by decide) (by decide) (by decide) (by decide) (by decide) ?_
 intro T268 v268 L268 X268 q268
 obtain ⟨rfl, M268, e268⟩ := q268
 have N268 := Fr.app N261 M268
 show Gg T268 m 70 [(.int (1 : Int32))]
 refine go_st (fun _ kq => XS.istore X268.here hx rfl (hb hby d12_70) rfl (l' := #[.val (.ref a), .val (.ref o), .val (.int (0 : Int32)), .val (.ref f), .val (.int (0 : Int32)), .val (.int (1 : Int32)), .val (.int (1 : Int32)), .val (.int (0 : Int32)), .val (.int (1 : Int32)), .unset, .unset]) rfl kq) ?_
 show Gg T268 m 72 []
 refine go_st (fun _ kq => XT.iconstV X268.here hx rfl (0 : Int32) (hb hby d12_72) (by decide) kq) ?_
 show Gg T268 m 73 [(.int (0 : Int32))]
 refine go_st (fun _ kq => XS.istore X268.here hx rfl (hb hby d12_73) rfl (l' := #[.val (.ref a), .val (.ref o), .val (.int (0 : Int32)), .val (.ref f), .val (.int (0 : Int32)), .val (.int (1 : Int32)), .val (.int (1 : Int32)), .val (.int (0 : Int32)), .val (.int (1 : Int32)), .val (.int (0 : Int32)), .unset]) rfl kq) ?_
 show Gg T268 m 75 []
 refine go_st (fun _ kq => XS.iload X268.here hx rfl (hb hby d12_75) rfl kq) ?_
 show Gg T268 m 77 [(.int (0 : Int32))]
 refine go_st (fun _ kq => XS.iload X268.here hx rfl (hb hby d12_77) rfl kq) ?_
 show Gg T268 m 79 [(.int (1 : Int32)), (.int (0 : Int32))]
 refine go_st (fun _ kq => XS.icmpNo X268.here hx rfl (hb hby d12_79) rfl (XT.ii_ge_f (by decide)) kq) ?_
 show Gg T268 m 82 []
 refine go_st (fun _ kq => XS.iload X268.here hx rfl (hb hby d12_82) rfl kq) ?_
 show Gg T268 m 84 [(.int (0 : Int32))]
 refine go_st (fun _ kq => XS.ifNo X268.here hx rfl (hb hby d12_84) rfl (XT.i0_ne_f (by decide)) kq) ?_
 show Gg T268 m 87 []
 refine go_st (fun _ kq => XS.aloadN X268.here hx rfl (hb hby d12_87) rfl rfl kq) ?_
 show Gg T268 m 88 [(.ref o)]
 refine go_st (fun _ kq => XS.iload X268.here hx rfl (hb hby d12_88) rfl kq) ?_
 show Gg T268 m 90 [(.int (0 : Int32)), (.ref o)]
 refine go_st (fun _ kq => XS.iload X268.here hx rfl (hb hby d12_90) rfl kq) ?_
 show Gg T268 m 92 [(.int (0 : Int32)), (.int (0 : Int32)), (.ref o)]
 refine go_st (fun _ kq => XT.iincV X268.here hx rfl (1 : Int32) (hb hby d12_92) (by decide) rfl (l' := #[.val (.ref a), .val (.ref o), .val (.int (0 : Int32)), .val (.ref f), .val (.int (0 : Int32)), .val (.int (1 : Int32)), .val (.int (1 : Int32)), .val (.int (0 : Int32)), .val (.int (1 : Int32)), .val (.int (1 : Int32)), .unset]) rfl kq) ?_
 show Gg T268 m 95 [(.int (0 : Int32)), (.int (0 : Int32)), (.ref o)]
 refine go_callF X268 hx hZ hml hown (wd hw 109 rfl) (wd hw 110 rfl) (wd hw 111 rfl) (wd hw 112 rfl) (wd hw 113 rfl) (wd hw 114 rfl) (wd hw 115 rfl) (wd hw 65 rfl) (wd hw 116 rfl) (wd hw 42 rfl) e268 c271 (argsL := [(.int (0 : Int32)), (.int (0 : Int32))]) (rest := []) (W := 0) (met_16 l Z a0 hw o (0 : Int32) (0 : Int32) h261 n0 z270 ) (hb hby d12_95) rfl rfl rfl (lenOf pd3 rfl) (by show 2 * 0 + _ ≤ _; exact Nat.le_of_eq rfl) (by decide) (by decide) (by decide) (by decide) (by decide) ?_
 intro T272 v272 L272 X272 q272
 obtain ⟨rfl, M272, e272⟩ := q272
 have N272 := Fr.app N268 M272
 show Gg T272 m 100 [(.int (0 : Int32))]
 refine go_st (fun _ kq => XS.istore X272.here hx rfl (hb hby d12_100) rfl (l' := #[.val (.ref a), .val (.ref o), .val (.int (0 : Int32)), .val (.ref f), .val (.int (0 : Int32)), .val (.int (1 : Int32)), .val (.int (1 : Int32)), .val (.int (0 : Int32)), .val (.int (1 : Int32)), .val (.int (1 : Int32)), .val (.int (0 : Int32))]) rfl kq) ?_
 show Gg T272 m 102 []
 refine go_st (fun _ kq => XS.aloadN X272.here hx rfl (hb hby d12_102) rfl rfl kq) ?_
 show Gg T272 m 103 [(.ref a)]
 have c273 := Fld.other W261 P26 (Or.inl P7)
 refine go_getF X272 hx hZ hown (host := "") (Or.inl (wd hw 18 rfl)) Via.refl e272 c273 (hb hby d12_103) rfl rfl ?_
 intro T274 X274 e274
 show Gg T274 m 106 [(.ref ra)]
 refine go_st (fun _ kq => XS.iload X274.here hx rfl (hb hby d12_106) rfl kq) ?_
 show Gg T274 m 108 [(.int (0 : Int32)), (.ref ra)]
 have c275 := P29.other W261 P11
 refine go_iald X274 hx hZ e274 c275 (hb hby d12_108) rfl rfl (by decide) (.int (1 : Int32)) rfl ?_
 show Gg T274 m 109 [(.int (1 : Int32))]
 refine go_st (fun _ kq => XS.aloadN X274.here hx rfl (hb hby d12_109) rfl rfl kq) ?_
 show Gg T274 m 110 [(.ref a), (.int (1 : Int32))]
 have c276 := Fld.other W261 P23 (Or.inl P7)
 refine go_getF X274 hx hZ hown (host := "") (Or.inl (wd hw 75 rfl)) Via.refl e274 c276 (hb hby d12_110) rfl rfl ?_
 intro T277 X277 e277
 show Gg T277 m 113 [(.int (1 : Int32)), (.int (1 : Int32))]
 refine go_st (fun _ kq => XS.icmpYes X277.here hx rfl (pc0 := 113) (pc' := 158) rfl (hb hby d12_113) rfl (XT.ii_eq_t (by decide)) (by decide) (by decide) kq) ?_
 show Gg T277 m 158 []
 refine go_st (fun _ kq => XS.goto X277.here hx rfl (pc0 := 158) (pc' := 75) rfl (hb hby d12_158) (by decide) (by decide) kq) ?_
 show Gg T277 m 75 []
 refine go_st (fun _ kq => XS.iload X277.here hx rfl (hb hby d12_75) rfl kq) ?_
 show Gg T277 m 77 [(.int (1 : Int32))]
 refine go_st (fun _ kq => XS.iload X277.here hx rfl (hb hby d12_77) rfl kq) ?_
 show Gg T277 m 79 [(.int (1 : Int32)), (.int (1 : Int32))]
 refine go_st (fun _ kq => XS.icmpYes X277.here hx rfl (pc0 := 79) (pc' := 161) rfl (hb hby d12_79) rfl (XT.ii_ge_t (by decide)) (by decide) (by decide) kq) ?_
 show Gg T277 m 161 []
 refine go_st (fun _ kq => XS.aloadN X277.here hx rfl (hb hby d12_161) rfl rfl kq) ?_
 show Gg T277 m 162 [(.ref a)]
 refine go_st (fun _ kq => XS.dup X277.here hx rfl (hb hby d12_162) rfl rfl kq) ?_
 show Gg T277 m 163 [(.ref a), (.ref a)]
 refine go_getF X277 hx hZ hown (host := "") (Or.inl (wd hw 33 rfl)) Via.refl e277 c262 (hb hby d12_163) rfl rfl ?_
 intro T278 X278 e278
 show Gg T278 m 166 [(.long (0 : Int64)), (.ref a)]
 refine go_st (fun _ kq => XS.iload X278.here hx rfl (hb hby d12_166) rfl kq) ?_
 show Gg T278 m 168 [(.int (1 : Int32)), (.long (0 : Int64)), (.ref a)]
 refine go_st (fun _ kq => XT.i2l X278.here hx rfl (hb hby d12_168) rfl kq) ?_
 rw [show (1 : Int32).toInt64 = (1 : Int64) from by decide +kernel]
 show Gg T278 m 169 [(.long (1 : Int64)), (.long (0 : Int64)), (.ref a)]
 refine go_st (fun _ kq => XT.ladd X278.here hx rfl (hb hby d12_169) rfl kq) ?_
 rw [show ((0 : Int64) + (1 : Int64)) = (1 : Int64) from by decide +kernel]
 show Gg T278 m 170 [(.long (1 : Int64)), (.ref a)]
 have c279 := Exa.wr W261 P0
 refine go_putF X278 hx hZ hown (host := "") (Or.inl (wd hw 33 rfl)) Via.refl e278 c262 c279 (Or.inl (wd hw 34 rfl)) (wd hw 1 rfl) (ty := .long) (by decide) rfl rfl (hb hby d12_170) rfl rfl ?_
 intro T280 h280 X280 e280 W280
 have N280 := Fr.snoc X280 N272 P4
 have F280 : Fld Z h280 a "com/example/copse/copse/graph/TargetSearch" "arcsLookedAt" "J" (.long (1 : Int64)) := Fld.same W280 c262
 show Gg T280 m 173 []
 refine go_st (fun _ kq => XS.goto X280.here hx rfl (pc0 := 173) (pc' := 26) rfl (hb hby d12_173) (by decide) (by decide) kq) ?_
 show Gg T280 m 26 []
 refine go_st (fun _ kq => XS.iload X280.here hx rfl (hb hby d12_26) rfl kq) ?_
 show Gg T280 m 28 [(.int (0 : Int32))]
 refine go_st (fun _ kq => XS.ifNo X280.here hx rfl (hb hby d12_28) rfl (XT.i0_ne_f (by decide)) kq) ?_
 show Gg T280 m 31 []
 refine go_st (fun _ kq => XS.iload X280.here hx rfl (hb hby d12_31) rfl kq) ?_
 show Gg T280 m 33 [(.int (1 : Int32))]
 refine go_st (fun _ kq => XS.iload X280.here hx rfl (hb hby d12_33) rfl kq) ?_
 show Gg T280 m 35 [(.int (1 : Int32)), (.int (1 : Int32))]
 refine go_st (fun _ kq => XS.icmpYes X280.here hx rfl (pc0 := 35) (pc' := 176) rfl (hb hby d12_35) rfl (XT.ii_ge_t (by decide)) (by decide) (by decide) kq) ?_
 show Gg T280 m 176 []
 refine go_st (fun _ kq => XS.aloadN X280.here hx rfl (hb hby d12_176) rfl rfl kq) ?_
 show Gg T280 m 177 [(.ref a)]
 refine go_st (fun _ kq => XS.iload X280.here hx rfl (hb hby d12_177) rfl kq) ?_
 show Gg T280 m 179 [(.int (1 : Int32)), (.ref a)]
 have c281 := Fld.other W261 P25 (Or.inl P7)
 have c282 := Fld.other W280 c281 (Or.inr (slot_ne (a0 := a0) (t := .int) (t' := .long) (Or.inl (wd hw 103 rfl)) (Or.inl (wd hw 34 rfl)) (by decide) (by decide) (by decide)))
 have c283 := Exa.wr W280 c279
 refine go_putF X280 hx hZ hown (host := "") (Or.inl (wd hw 102 rfl)) Via.refl e280 c282 c283 (Or.inl (wd hw 103 rfl)) (wd hw 1 rfl) (ty := .int) (by decide) rfl rfl (hb hby d12_179) rfl rfl ?_
 intro T284 h284 X284 e284 W284
 have N284 := Fr.snoc X284 N280 P4
 have F284 : Fld Z h284 a "com/example/copse/copse/graph/TargetSearch" "queued" "I" (.int (1 : Int32)) := Fld.same W284 c282
 show Gg T284 m 182 []
 refine go_st (fun _ kq => XS.iload X284.here hx rfl (hb hby d12_182) rfl kq) ?_
 show Gg T284 m 184 [(.int (0 : Int32))]
 have c285 := Fld.other W280 c264 (Or.inr (slot_ne (a0 := a0) (t := .long) (t' := .long) (Or.inl (wd hw 11 rfl)) (Or.inl (wd hw 34 rfl)) (by decide) (by decide) (by decide)))
 have c286 := Fld.other W284 c285 (Or.inr (slot_ne (a0 := a0) (t := .long) (t' := .int) (Or.inl (wd hw 11 rfl)) (Or.inl (wd hw 103 rfl)) (by decide) (by decide) (by decide)))
 have c287 := Fld.other W284 F280 (Or.inr (slot_ne (a0 := a0) (t := .long) (t' := .int) (Or.inl (wd hw 34 rfl)) (Or.inl (wd hw 103 rfl)) (by decide) (by decide) (by decide)))
 have c288 := Fld.other W280 c276 (Or.inr (slot_ne (a0 := a0) (t := .int) (t' := .long) (Or.inl (wd hw 76 rfl)) (Or.inl (wd hw 34 rfl)) (by decide) (by decide) (by decide)))
 have c289 := Fld.other W284 c288 (Or.inr (slot_ne (a0 := a0) (t := .int) (t' := .int) (Or.inl (wd hw 76 rfl)) (Or.inl (wd hw 103 rfl)) (by decide) (by decide) (by decide)))
 have c290 := Fld.other W261 P24 (Or.inl P7)
 have c291 := Fld.other W280 c290 (Or.inr (slot_ne (a0 := a0) (t := .int) (t' := .long) (Or.inl (wd hw 79 rfl)) (Or.inl (wd hw 34 rfl)) (by decide) (by decide) (by decide)))
 have c292 := Fld.other W284 c291 (Or.inr (slot_ne (a0 := a0) (t := .int) (t' := .int) (Or.inl (wd hw 79 rfl)) (Or.inl (wd hw 103 rfl)) (by decide) (by decide) (by decide)))
 have c293 := Fld.other W280 c273 (Or.inr (slot_ne (a0 := a0) (t := (.array .int)) (t' := .long) (Or.inr (wd hw 19 rfl)) (Or.inl (wd hw 34 rfl)) (by decide) (by decide) (by decide)))
 have c294 := Fld.other W284 c293 (Or.inr (slot_ne (a0 := a0) (t := (.array .int)) (t' := .int) (Or.inr (wd hw 19 rfl)) (Or.inl (wd hw 103 rfl)) (by decide) (by decide) (by decide)))
 have c295 := Fld.other W280 c266 (Or.inr (slot_ne (a0 := a0) (t := (.array .int)) (t' := .long) (Or.inr (wd hw 25 rfl)) (Or.inl (wd hw 34 rfl)) (by decide) (by decide) (by decide)))
 have c296 := Fld.other W284 c295 (Or.inr (slot_ne (a0 := a0) (t := (.array .int)) (t' := .int) (Or.inr (wd hw 25 rfl)) (Or.inl (wd hw 103 rfl)) (by decide) (by decide) (by decide)))
 have c297 := Fld.other W261 P28 (Or.inl P7)
 have c298 := Fld.other W280 c297 (Or.inr (slot_ne (a0 := a0) (t := (.array .int)) (t' := .long) (Or.inr (wd hw 27 rfl)) (Or.inl (wd hw 34 rfl)) (by decide) (by decide) (by decide)))
 have c299 := Fld.other W284 c298 (Or.inr (slot_ne (a0 := a0) (t := (.array .int)) (t' := .int) (Or.inr (wd hw 27 rfl)) (Or.inl (wd hw 103 rfl)) (by decide) (by decide) (by decide)))
 exact go_retB (w := (0 : Int32)) X284 hx hlk hret (hb hby d12_184) (by decide) (by decide) (by decide) (by rw [e284]; exact ⟨rfl, N284, (Keep.wr (Keep.wr (Keep.wr (Keep.refl h0 [a, pe]) W261 (Or.inl (by simp))) W280 (Or.inl (by simp))) W284 (Or.inl (by simp))), c286, c287, c289, c292, F284, c294, c296, c299⟩)
def Q_bf2t (Z : State) (cK : ClassId) (a : Addr) (o : Addr) (f : Addr) (xl : Int64) (ra : Addr) (pe : Addr) (wa : Addr) (h0 : Heap) (n0 : Nat) (v : Option Value) (h : Heap) (L : List Loc) : Prop := v = some (.int (0 : Int32)) ∧ Fr n0 L ∧ Keep h0 h [a, pe] ∧ Fld Z h a "com/example/copse/copse/graph/TargetSearch" "arcLimit" "J" (.long xl) ∧ Fld Z h a "com/example/copse/copse/graph/TargetSearch" "arcsLookedAt" "J" (.long (2 : Int64)) ∧ Fld Z h a "com/example/copse/copse/graph/TargetSearch" "search" "I" (.int (1 : Int32)) ∧ Fld Z h a "com/example/copse/copse/graph/TargetSearch" "unreached" "I" (.int (1 : Int32)) ∧ Fld Z h a "com/example/copse/copse/graph/TargetSearch" "queued" "I" (.int (1 : Int32)) ∧ Fld Z h a "com/example/copse/copse/graph/TargetSearch" "reachedIn" "[I" (.ref ra) ∧ Fld Z h a "com/example/copse/copse/graph/TargetSearch" "pending" "[I" (.ref pe) ∧ Fld Z h a "com/example/copse/copse/graph/TargetSearch" "wantedIn" "[I" (.ref wa)
theorem ef_bf2t (m : MethodId) (cK : ClassId) (a : Addr) (o : Addr) (f : Addr) (xl : Int64) (ra : Addr) (pe : Addr) (wa : Addr) : entryFrame m #[(.ref a), (.ref o), (.int (0 : Int32)), (.ref f)] 11 = mkF m 0 #[.val (.ref a), .val (.ref o), .val (.int (0 : Int32)), .val (.ref f), .unset, .unset, .unset, .unset, .unset, .unset, .unset] [] := by first | (simp [entryFrame, mkF, argsToLocals, Value.category]; done) | rfl
abbrev rm_bf2t : Room := ({ frames := 2, cells := 0, slots := 0, locals := 26 } : Room)
set_option maxRecDepth 65536 in
set_option maxHeartbeats 4000000 in
theorem met_bf2t (l : Launch) (Z : State) (a0 : Array Value) (hw : ∀ d ∈ tables_1, d.before a0 Z = true) (cK : ClassId) (a : Addr) (o : Addr) (f : Addr) (xl : Int64) (ra : Addr) (pe : Addr) (wa : Addr) (h0 : Heap) (n0 : Nat) (Z0 : n0 ≤ h0.size) (P0 : Exa Z h0 a "com/example/copse/copse/graph/TargetSearch") (P1 : Exa Z h0 o "com/example/copse/copse/graph/TargetSearchArcLimitReachedPinLaw") (P2 : Fld Z h0 o "com/example/copse/copse/graph/TargetSearchArcLimitReachedPinLaw" "degree" "I" (.int (2 : Int32))) (P3 : LamAt h0 f cK a) (P4 : n0 ≤ a) (P5 : n0 ≤ pe) (P6 : a ≠ ra) (P7 : a ≠ pe) (P8 : a ≠ wa) (P9 : a ≠ o) (P10 : a ≠ f) (P11 : ra ≠ pe) (P12 : ra ≠ wa) (P13 : ra ≠ o) (P14 : ra ≠ f) (P15 : pe ≠ wa) (P16 : pe ≠ o) (P17 : pe ≠ f) (P18 : wa ≠ o) (P19 : wa ≠ f) (P20 : o ≠ f) (P21 : Fld Z h0 a "com/example/copse/copse/graph/TargetSearch" "arcLimit" "J" (.long xl)) (P22 : Fld Z h0 a "com/example/copse/copse/graph/TargetSearch" "arcsLookedAt" "J" (.long (0 : Int64))) (P23 : Fld Z h0 a "com/example/copse/copse/graph/TargetSearch" "search" "I" (.int (1 : Int32))) (P24 : Fld Z h0 a "com/example/copse/copse/graph/TargetSearch" "unreached" "I" (.int (1 : Int32))) (P25 : Fld Z h0 a "com/example/copse/copse/graph/TargetSearch" "queued" "I" (.int (0 : Int32))) (P26 : Fld Z h0 a "com/example/copse/copse/graph/TargetSearch" "reachedIn" "[I" (.ref ra)) (P27 : Fld Z h0 a "com/example/copse/copse/graph/TargetSearch" "pending" "[I" (.ref pe)) (P28 : Fld Z h0 a "com/example/copse/copse/graph/TargetSearch" "wantedIn" "[I" (.ref wa)) (P29 : GA Z h0 ra .int 2 (fun i => .int (own_c2 (1 : Int32) (0 : Int32) i))) (P30 : GA Z h0 pe .int 2 (fun i => .int (own_c2 (0 : Int32) (0 : Int32) i))) (P31 : GA Z h0 wa .int 2 (fun i => .int (own_c2 (0 : Int32) (1 : Int32) i))) (P32 : (0 : Int64) < xl) :
  MetH l (⟨"com/example/copse/copse/graph/TargetSearch", "breadthFirst", "(Lcom/example/copse/copse/graph/SuccessorLists;ILjava/util/function/IntPredicate;)Z"⟩ : MethodName) prog_46_method_11_code 11 (some FieldType.boolean) [] rm_bf2t Z cK #[(.ref a), (.ref o), (.int (0 : Int32)), (.ref f)] h0 (Q_bf2t Z cK a o f xl ra pe wa h0 n0) rm_bf2t.cells rm_bf2t.slots := by
 refine own_bodyH pn13 ?_
 intro p e s m below meth c s₁ ct X0 e0 hLam hnamed
 obtain ⟨hx, hZ, hown, hby, hml, hret, hlk, hnm⟩ := ct
 have N0 := Fr.nil n0
 refine castGo (ef_bf2t m cK a o f xl ra pe wa) ?_
 show Gg s₁ m 0 []
 refine go_st (fun _ kq => XS.aloadN X0.here hx rfl (hb hby d12_0) rfl rfl kq) ?_
 show Gg s₁ m 1 [(.ref f)]
 refine go_st (fun _ kq => XS.iloadN X0.here hx rfl (hb hby d12_1) rfl kq) ?_
 show Gg s₁ m 2 [(.int (0 : Int32)), (.ref f)]
 refine go_callLam X0 hx hZ hml hown hLam (wd hw 88 rfl) (wd hw 89 rfl) (wd hw 90 rfl) (wd hw 83 rfl) (wd hw 92 rfl) (wd hw 1 rfl) (wd hw 91 rfl) (wd hw 93 rfl) (wd hw 2 rfl) own_lx1 own_ly1 (by decide) (by decide) own_fw own_cp own_f0 own_f1 own_f4 own_f5 own_f8 e0 P3 P0 (z := (0 : Int32)) (w := (0 : Int32)) (rest := []) (W := 0) (met_13 l Z a0 hw a wa h0 n0 Z0 P28 P31 P23) (fun v h L q => q.1) (by decide) (hb hby d12_2) rfl rfl rfl (lenOf pd4 rfl) pd4 (by show 2 * 0 + _ ≤ _; exact Nat.le_of_eq rfl) (by decide) (by decide) (by decide) (by decide) ?_
 intro T300 L300 X300 q300
 obtain ⟨-, M300, e300⟩ := q300
 have N300 := Fr.app N0 M300
 show Gg T300 m 7 [(.int (0 : Int32))]
 refine go_st (fun _ kq => XS.istore X300.here hx rfl (hb hby d12_7) rfl (l' := #[.val (.ref a), .val (.ref o), .val (.int (0 : Int32)), .val (.ref f), .val (.int (0 : Int32)), .unset, .unset, .unset, .unset, .unset, .unset]) rfl kq) ?_
 show Gg T300 m 9 []
 refine go_st (fun _ kq => XT.iconstV X300.here hx rfl (0 : Int32) (hb hby d12_9) (by decide) kq) ?_
 show Gg T300 m 10 [(.int (0 : Int32))]
 refine go_st (fun _ kq => XS.istore X300.here hx rfl (hb hby d12_10) rfl (l' := #[.val (.ref a), .val (.ref o), .val (.int (0 : Int32)), .val (.ref f), .val (.int (0 : Int32)), .val (.int (0 : Int32)), .unset, .unset, .unset, .unset, .unset]) rfl kq) ?_
 show Gg T300 m 12 []
 refine go_st (fun _ kq => XT.iconstV X300.here hx rfl (0 : Int32) (hb hby d12_12) (by decide) kq) ?_
 show Gg T300 m 13 [(.int (0 : Int32))]
 refine go_st (fun _ kq => XS.istore X300.here hx rfl (hb hby d12_13) rfl (l' := #[.val (.ref a), .val (.ref o), .val (.int (0 : Int32)), .val (.ref f), .val (.int (0 : Int32)), .val (.int (0 : Int32)), .val (.int (0 : Int32)), .unset, .unset, .unset, .unset]) rfl kq) ?_
 show Gg T300 m 15 []
 refine go_st (fun _ kq => XS.aloadN X300.here hx rfl (hb hby d12_15) rfl rfl kq) ?_
 show Gg T300 m 16 [(.ref a)]
 refine go_getF X300 hx hZ hown (host := "") (Or.inl (wd hw 24 rfl)) Via.refl e300 P27 (hb hby d12_16) rfl rfl ?_
 intro T301 X301 e301
 show Gg T301 m 19 [(.ref pe)]
 refine go_st (fun _ kq => XS.iload X301.here hx rfl (hb hby d12_19) rfl kq) ?_
 show Gg T301 m 21 [(.int (0 : Int32)), (.ref pe)]
 refine go_st (fun _ kq => XT.iincV X301.here hx rfl (1 : Int32) (hb hby d12_21) (by decide) rfl (l' := #[.val (.ref a), .val (.ref o), .val (.int (0 : Int32)), .val (.ref f), .val (.int (0 : Int32)), .val (.int (0 : Int32)), .val (.int (1 : Int32)), .unset, .unset, .unset, .unset]) rfl kq) ?_
 show Gg T301 m 24 [(.int (0 : Int32)), (.ref pe)]
 refine go_st (fun _ kq => XS.iloadN X301.here hx rfl (hb hby d12_24) rfl kq) ?_
 show Gg T301 m 25 [(.int (0 : Int32)), (.int (0 : Int32)), (.ref pe)]
 refine go_iast X301 hx hZ e301 P30 (hb hby d12_25) rfl rfl (by decide) ?_
 intro T302 h302 X302 e302 W302 G302
 have N302 := Fr.snoc X302 N300 P5
 have A302 : GA Z h302 pe .int 2 (fun i => .int (own_c2 (0 : Int32) (0 : Int32) i)) := (own_sti (by decide) (own_c20 (0 : Int32) (0 : Int32) (0 : Int32)) G302)
 show Gg T302 m 26 []
 refine go_st (fun _ kq => XS.iload X302.here hx rfl (hb hby d12_26) rfl kq) ?_
 show Gg T302 m 28 [(.int (0 : Int32))]
 refine go_st (fun _ kq => XS.ifNo X302.here hx rfl (hb hby d12_28) rfl (XT.i0_ne_f (by decide)) kq) ?_
 show Gg T302 m 31 []
 refine go_st (fun _ kq => XS.iload X302.here hx rfl (hb hby d12_31) rfl kq) ?_
 show Gg T302 m 33 [(.int (0 : Int32))]
 refine go_st (fun _ kq => XS.iload X302.here hx rfl (hb hby d12_33) rfl kq) ?_
 show Gg T302 m 35 [(.int (1 : Int32)), (.int (0 : Int32))]
 refine go_st (fun _ kq => XS.icmpNo X302.here hx rfl (hb hby d12_35) rfl (XT.ii_ge_f (by decide)) kq) ?_
 show Gg T302 m 38 []
 refine go_st (fun _ kq => XS.aloadN X302.here hx rfl (hb hby d12_38) rfl rfl kq) ?_
 show Gg T302 m 39 [(.ref a)]
 have c303 := Fld.other W302 P22 (Or.inl P7)
 refine go_getF X302 hx hZ hown (host := "") (Or.inl (wd hw 33 rfl)) Via.refl e302 c303 (hb hby d12_39) rfl rfl ?_
 intro T304 X304 e304
 show Gg T304 m 42 [(.long (0 : Int64))]
 refine go_st (fun _ kq => XS.aloadN X304.here hx rfl (hb hby d12_42) rfl rfl kq) ?_
 show Gg T304 m 43 [(.ref a), (.long (0 : Int64))]
 have c305 := Fld.other W302 P21 (Or.inl P7)
 refine go_getF X304 hx hZ hown (host := "") (Or.inl (wd hw 10 rfl)) Via.refl e304 c305 (hb hby d12_43) rfl rfl ?_
 intro T306 X306 e306
 show Gg T306 m 46 [(.long xl), (.long (0 : Int64))]
 refine go_st (fun _ kq => XT.lcmp X306.here hx rfl (hb hby d12_46) rfl kq) ?_
 show Gg T306 m 47 [(.int (XT.cmpL (0 : Int64) xl))]
 refine go_st (fun _ kq => XS.ifNo X306.here hx rfl (hb hby d12_47) rfl (XT.ll_ge_f P32) kq) ?_
 show Gg T306 m 50 []
 refine go_st (fun _ kq => XS.aloadN X306.here hx rfl (hb hby d12_50) rfl rfl kq) ?_
 show Gg T306 m 51 [(.ref a)]
 have c307 := Fld.other W302 P27 (Or.inl P7)
 refine go_getF X306 hx hZ hown (host := "") (Or.inl (wd hw 24 rfl)) Via.refl e306 c307 (hb hby d12_51) rfl rfl ?_
 intro T308 X308 e308
 show Gg T308 m 54 [(.ref pe)]
 refine go_st (fun _ kq => XS.iload X308.here hx rfl (hb hby d12_54) rfl kq) ?_
 show Gg T308 m 56 [(.int (0 : Int32)), (.ref pe)]
 refine go_st (fun _ kq => XT.iincV X308.here hx rfl (1 : Int32) (hb hby d12_56) (by decide) rfl (l' := #[.val (.ref a), .val (.ref o), .val (.int (0 : Int32)), .val (.ref f), .val (.int (0 : Int32)), .val (.int (1 : Int32)), .val (.int (1 : Int32)), .unset, .unset, .unset, .unset]) rfl kq) ?_
 show Gg T308 m 59 [(.int (0 : Int32)), (.ref pe)]
 refine go_iald X308 hx hZ e308 A302 (hb hby d12_59) rfl rfl (by decide) (.int (0 : Int32)) rfl ?_
 show Gg T308 m 60 [(.int (0 : Int32))]
 refine go_st (fun _ kq => XS.istore X308.here hx rfl (hb hby d12_60) rfl (l' := #[.val (.ref a), .val (.ref o), .val (.int (0 : Int32)), .val (.ref f), .val (.int (0 : Int32)), .val (.int (1 : Int32)), .val (.int (1 : Int32)), .val (.int (0 : Int32)), .unset, .unset, .unset]) rfl kq) ?_
 show Gg T308 m 62 []
 refine go_st (fun _ kq => XS.aloadN X308.here hx rfl (hb hby d12_62) rfl rfl kq) ?_
 show Gg T308 m 63 [(.ref o)]
 refine go_st (fun _ kq => XS.iload X308.here hx rfl (hb hby d12_63) rfl kq) ?_
 show Gg T308 m 65 [(.int (0 : Int32)), (.ref o)]
 have c310 := Fld.other W302 P2 (Or.inl (Ne.symm P16))
 have z311 : n0 ≤ h302.size := (Wr.size W302).symm ▸ Z0
 have c312 := Exa.wr W302 P1
 refine go_callF X308 hx hZ hml hown (wd hw 94 rfl) (wd hw 95 rfl) (wd hw 96 rfl) (wd hw 97 rfl) (wd hw 98 rfl) (wd hw 99 rfl) (wd hw 100 rfl) (wd hw 65 rfl) (wd hw 101 rfl) (wd hw 42 rfl) e308 c312 (argsL := [(.int (0 : Int32))]) (rest := []) (W := 0) (met_14 l Z a0 hw o (2 : Int32) h302 n0 z311 c310) (hb hby d12_65) rfl rfl rfl (lenOf pd0 rfl) (by show 2 * 0 + _ ≤ _; exact Nat.le_of_eq rfl) (by decide) (by decide) (by decide) (by decide) (by decide) ?_
 intro T309 v309 L309 X309 q309
 obtain ⟨rfl, M309, e309⟩ := q309
 have N309 := Fr.app N302 M309
 show Gg T309 m 70 [(.int (2 : Int32))]
 refine go_st (fun _ kq => XS.istore X309.here hx rfl (hb hby d12_70) rfl (l' := #[.val (.ref a), .val (.ref o), .val (.int (0 : Int32)), .val (.ref f), .val (.int (0 : Int32)), .val (.int (1 : Int32)), .val (.int (1 : Int32)), .val (.int (0 : Int32)), .val (.int (2 : Int32)), .unset, .unset]) rfl kq) ?_
 show Gg T309 m 72 []
 refine go_st (fun _ kq => XT.iconstV X309.here hx rfl (0 : Int32) (hb hby d12_72) (by decide) kq) ?_
 show Gg T309 m 73 [(.int (0 : Int32))]
 refine go_st (fun _ kq => XS.istore X309.here hx rfl (hb hby d12_73) rfl (l' := #[.val (.ref a), .val (.ref o), .val (.int (0 : Int32)), .val (.ref f), .val (.int (0 : Int32)), .val (.int (1 : Int32)), .val (.int (1 : Int32)), .val (.int (0 : Int32)), .val (.int (2 : Int32)), .val (.int (0 : Int32)), .unset]) rfl kq) ?_
 show Gg T309 m 75 []
 refine go_st (fun _ kq => XS.iload X309.here hx rfl (hb hby d12_75) rfl kq) ?_
 show Gg T309 m 77 [(.int (0 : Int32))]
 refine go_st (fun _ kq => XS.iload X309.here hx rfl (hb hby d12_77) rfl kq) ?_
 show Gg T309 m 79 [(.int (2 : Int32)), (.int (0 : Int32))]
 refine go_st (fun _ kq => XS.icmpNo X309.here hx rfl (hb hby d12_79) rfl (XT.ii_ge_f (by decide)) kq) ?_
 show Gg T309 m 82 []
 refine go_st (fun _ kq => XS.iload X309.here hx rfl (hb hby d12_82) rfl kq) ?_
 show Gg T309 m 84 [(.int (0 : Int32))]
 refine go_st (fun _ kq => XS.ifNo X309.here hx rfl (hb hby d12_84) rfl (XT.i0_ne_f (by decide)) kq) ?_
 show Gg T309 m 87 []
 refine go_st (fun _ kq => XS.aloadN X309.here hx rfl (hb hby d12_87) rfl rfl kq) ?_
 show Gg T309 m 88 [(.ref o)]
 refine go_st (fun _ kq => XS.iload X309.here hx rfl (hb hby d12_88) rfl kq) ?_
 show Gg T309 m 90 [(.int (0 : Int32)), (.ref o)]
 refine go_st (fun _ kq => XS.iload X309.here hx rfl (hb hby d12_90) rfl kq) ?_
 show Gg T309 m 92 [(.int (0 : Int32)), (.int (0 : Int32)), (.ref o)]
 refine go_st (fun _ kq => XT.iincV X309.here hx rfl (1 : Int32) (hb hby d12_92) (by decide) rfl (l' := #[.val (.ref a), .val (.ref o), .val (.int (0 : Int32)), .val (.ref f), .val (.int (0 : Int32)), .val (.int (1 : Int32)), .val (.int (1 : Int32)), .val (.int (0 : Int32)), .val (.int (2 : Int32)), .val (.int (1 : Int32)), .unset]) rfl kq) ?_
 show Gg T309 m 95 [(.int (0 : Int32)), (.int (0 : Int32)), (.ref o)]
 refine go_callF X309 hx hZ hml hown (wd hw 109 rfl) (wd hw 110 rfl) (wd hw 111 rfl) (wd hw 112 rfl) (wd hw 113 rfl) (wd hw 114 rfl) (wd hw 115 rfl) (wd hw 65 rfl) (wd hw 116 rfl) (wd hw 42 rfl) e309 c312 (argsL := [(.int (0 : Int32)), (.int (0 : Int32))]) (rest := []) (W := 0) (met_16 l Z a0 hw o (0 : Int32) (0 : Int32) h302 n0 z311 ) (hb hby d12_95) rfl rfl rfl (lenOf pd3 rfl) (by show 2 * 0 + _ ≤ _; exact Nat.le_of_eq rfl) (by decide) (by decide) (by decide) (by decide) (by decide) ?_
 intro T313 v313 L313 X313 q313
 obtain ⟨rfl, M313, e313⟩ := q313
 have N313 := Fr.app N309 M313
 show Gg T313 m 100 [(.int (0 : Int32))]
 refine go_st (fun _ kq => XS.istore X313.here hx rfl (hb hby d12_100) rfl (l' := #[.val (.ref a), .val (.ref o), .val (.int (0 : Int32)), .val (.ref f), .val (.int (0 : Int32)), .val (.int (1 : Int32)), .val (.int (1 : Int32)), .val (.int (0 : Int32)), .val (.int (2 : Int32)), .val (.int (1 : Int32)), .val (.int (0 : Int32))]) rfl kq) ?_
 show Gg T313 m 102 []
 refine go_st (fun _ kq => XS.aloadN X313.here hx rfl (hb hby d12_102) rfl rfl kq) ?_
 show Gg T313 m 103 [(.ref a)]
 have c314 := Fld.other W302 P26 (Or.inl P7)
 refine go_getF X313 hx hZ hown (host := "") (Or.inl (wd hw 18 rfl)) Via.refl e313 c314 (hb hby d12_103) rfl rfl ?_
 intro T315 X315 e315
 show Gg T315 m 106 [(.ref ra)]
 refine go_st (fun _ kq => XS.iload X315.here hx rfl (hb hby d12_106) rfl kq) ?_
 show Gg T315 m 108 [(.int (0 : Int32)), (.ref ra)]
 have c316 := P29.other W302 P11
 refine go_iald X315 hx hZ e315 c316 (hb hby d12_108) rfl rfl (by decide) (.int (1 : Int32)) rfl ?_
 show Gg T315 m 109 [(.int (1 : Int32))]
 refine go_st (fun _ kq => XS.aloadN X315.here hx rfl (hb hby d12_109) rfl rfl kq) ?_
 show Gg T315 m 110 [(.ref a), (.int (1 : Int32))]
 have c317 := Fld.other W302 P23 (Or.inl P7)
 refine go_getF X315 hx hZ hown (host := "") (Or.inl (wd hw 75 rfl)) Via.refl e315 c317 (hb hby d12_110) rfl rfl ?_
 intro T318 X318 e318
 show Gg T318 m 113 [(.int (1 : Int32)), (.int (1 : Int32))]
 refine go_st (fun _ kq => XS.icmpYes X318.here hx rfl (pc0 := 113) (pc' := 158) rfl (hb hby d12_113) rfl (XT.ii_eq_t (by decide)) (by decide) (by decide) kq) ?_
 show Gg T318 m 158 []
 refine go_st (fun _ kq => XS.goto X318.here hx rfl (pc0 := 158) (pc' := 75) rfl (hb hby d12_158) (by decide) (by decide) kq) ?_
 show Gg T318 m 75 []
 refine go_st (fun _ kq => XS.iload X318.here hx rfl (hb hby d12_75) rfl kq) ?_
 show Gg T318 m 77 [(.int (1 : Int32))]
 refine go_st (fun _ kq => XS.iload X318.here hx rfl (hb hby d12_77) rfl kq) ?_
 show Gg T318 m 79 [(.int (2 : Int32)), (.int (1 : Int32))]
 refine go_st (fun _ kq => XS.icmpNo X318.here hx rfl (hb hby d12_79) rfl (XT.ii_ge_f (by decide)) kq) ?_
 show Gg T318 m 82 []
 refine go_st (fun _ kq => XS.iload X318.here hx rfl (hb hby d12_82) rfl kq) ?_
 show Gg T318 m 84 [(.int (0 : Int32))]
 refine go_st (fun _ kq => XS.ifNo X318.here hx rfl (hb hby d12_84) rfl (XT.i0_ne_f (by decide)) kq) ?_
 show Gg T318 m 87 []
 refine go_st (fun _ kq => XS.aloadN X318.here hx rfl (hb hby d12_87) rfl rfl kq) ?_
 show Gg T318 m 88 [(.ref o)]
 refine go_st (fun _ kq => XS.iload X318.here hx rfl (hb hby d12_88) rfl kq) ?_
 show Gg T318 m 90 [(.int (0 : Int32)), (.ref o)]
 refine go_st (fun _ kq => XS.iload X318.here hx rfl (hb hby d12_90) rfl kq) ?_
 show Gg T318 m 92 [(.int (1 : Int32)), (.int (0 : Int32)), (.ref o)]
 refine go_st (fun _ kq => XT.iincV X318.here hx rfl (1 : Int32) (hb hby d12_92) (by decide) rfl (l' := #[.val (.ref a), .val (.ref o), .val (.int (0 : Int32)), .val (.ref f), .val (.int (0 : Int32)), .val (.int (1 : Int32)), .val (.int (1 : Int32)), .val (.int (0 : Int32)), .val (.int (2 : Int32)), .val (.int (2 : Int32)), .val (.int (0 : Int32))]) rfl kq) ?_
 show Gg T318 m 95 [(.int (1 : Int32)), (.int (0 : Int32)), (.ref o)]
 refine go_callF X318 hx hZ hml hown (wd hw 109 rfl) (wd hw 110 rfl) (wd hw 111 rfl) (wd hw 112 rfl) (wd hw 113 rfl) (wd hw 114 rfl) (wd hw 115 rfl) (wd hw 65 rfl) (wd hw 116 rfl) (wd hw 42 rfl) e318 c312 (argsL := [(.int (0 : Int32)), (.int (1 : Int32))]) (rest := []) (W := 0) (met_16 l Z a0 hw o (0 : Int32) (1 : Int32) h302 n0 z311 ) (hb hby d12_95) rfl rfl rfl (lenOf pd3 rfl) (by show 2 * 0 + _ ≤ _; exact Nat.le_of_eq rfl) (by decide) (by decide) (by decide) (by decide) (by decide) ?_
 intro T319 v319 L319 X319 q319
 obtain ⟨rfl, M319, e319⟩ := q319
 have N319 := Fr.app N313 M319
 show Gg T319 m 100 [(.int (0 : Int32))]
 refine go_st (fun _ kq => XS.istore X319.here hx rfl (hb hby d12_100) rfl (l' := #[.val (.ref a), .val (.ref o), .val (.int (0 : Int32)), .val (.ref f), .val (.int (0 : Int32)), .val (.int (1 : Int32)), .val (.int (1 : Int32)), .val (.int (0 : Int32)), .val (.int (2 : Int32)), .val (.int (2 : Int32)), .val (.int (0 : Int32))]) rfl kq) ?_
 show Gg T319 m 102 []
 refine go_st (fun _ kq => XS.aloadN X319.here hx rfl (hb hby d12_102) rfl rfl kq) ?_
 show Gg T319 m 103 [(.ref a)]
 refine go_getF X319 hx hZ hown (host := "") (Or.inl (wd hw 18 rfl)) Via.refl e319 c314 (hb hby d12_103) rfl rfl ?_
 intro T320 X320 e320
 show Gg T320 m 106 [(.ref ra)]
 refine go_st (fun _ kq => XS.iload X320.here hx rfl (hb hby d12_106) rfl kq) ?_
 show Gg T320 m 108 [(.int (0 : Int32)), (.ref ra)]
 refine go_iald X320 hx hZ e320 c316 (hb hby d12_108) rfl rfl (by decide) (.int (1 : Int32)) rfl ?_
 show Gg T320 m 109 [(.int (1 : Int32))]
 refine go_st (fun _ kq => XS.aloadN X320.here hx rfl (hb hby d12_109) rfl rfl kq) ?_
 show Gg T320 m 110 [(.ref a), (.int (1 : Int32))]
 refine go_getF X320 hx hZ hown (host := "") (Or.inl (wd hw 75 rfl)) Via.refl e320 c317 (hb hby d12_110) rfl rfl ?_
 intro T321 X321 e321
 show Gg T321 m 113 [(.int (1 : Int32)), (.int (1 : Int32))]
 refine go_st (fun _ kq => XS.icmpYes X321.here hx rfl (pc0 := 113) (pc' := 158) rfl (hb hby d12_113) rfl (XT.ii_eq_t (by decide)) (by decide) (by decide) kq) ?_
 show Gg T321 m 158 []
 refine go_st (fun _ kq => XS.goto X321.here hx rfl (pc0 := 158) (pc' := 75) rfl (hb hby d12_158) (by decide) (by decide) kq) ?_
 show Gg T321 m 75 []
 refine go_st (fun _ kq => XS.iload X321.here hx rfl (hb hby d12_75) rfl kq) ?_
 show Gg T321 m 77 [(.int (2 : Int32))]
 refine go_st (fun _ kq => XS.iload X321.here hx rfl (hb hby d12_77) rfl kq) ?_
 show Gg T321 m 79 [(.int (2 : Int32)), (.int (2 : Int32))]
 refine go_st (fun _ kq => XS.icmpYes X321.here hx rfl (pc0 := 79) (pc' := 161) rfl (hb hby d12_79) rfl (XT.ii_ge_t (by decide)) (by decide) (by decide) kq) ?_
 show Gg T321 m 161 []
 refine go_st (fun _ kq => XS.aloadN X321.here hx rfl (hb hby d12_161) rfl rfl kq) ?_
 show Gg T321 m 162 [(.ref a)]
 refine go_st (fun _ kq => XS.dup X321.here hx rfl (hb hby d12_162) rfl rfl kq) ?_
 show Gg T321 m 163 [(.ref a), (.ref a)]
 refine go_getF X321 hx hZ hown (host := "") (Or.inl (wd hw 33 rfl)) Via.refl e321 c303 (hb hby d12_163) rfl rfl ?_
 intro T322 X322 e322
 show Gg T322 m 166 [(.long (0 : Int64)), (.ref a)]
 refine go_st (fun _ kq => XS.iload X322.here hx rfl (hb hby d12_166) rfl kq) ?_
 show Gg T322 m 168 [(.int (2 : Int32)), (.long (0 : Int64)), (.ref a)]
 refine go_st (fun _ kq => XT.i2l X322.here hx rfl (hb hby d12_168) rfl kq) ?_
 rw [show (2 : Int32).toInt64 = (2 : Int64) from by decide +kernel]
 show Gg T322 m 169 [(.long (2 : Int64)), (.long (0 : Int64)), (.ref a)]
 refine go_st (fun _ kq => XT.ladd X322.here hx rfl (hb hby d12_169) rfl kq) ?_
 rw [show ((0 : Int64) + (2 : Int64)) = (2 : Int64) from by decide +kernel]
 show Gg T322 m 170 [(.long (2 : Int64)), (.ref a)]
 have c323 := Exa.wr W302 P0
 refine go_putF X322 hx hZ hown (host := "") (Or.inl (wd hw 33 rfl)) Via.refl e322 c303 c323 (Or.inl (wd hw 34 rfl)) (wd hw 1 rfl) (ty := .long) (by decide) rfl rfl (hb hby d12_170) rfl rfl ?_
 intro T324 h324 X324 e324 W324
 have N324 := Fr.snoc X324 N319 P4
 have F324 : Fld Z h324 a "com/example/copse/copse/graph/TargetSearch" "arcsLookedAt" "J" (.long (2 : Int64)) := Fld.same W324 c303
 show Gg T324 m 173 []
 refine go_st (fun _ kq => XS.goto X324.here hx rfl (pc0 := 173) (pc' := 26) rfl (hb hby d12_173) (by decide) (by decide) kq) ?_
 show Gg T324 m 26 []
 refine go_st (fun _ kq => XS.iload X324.here hx rfl (hb hby d12_26) rfl kq) ?_
 show Gg T324 m 28 [(.int (0 : Int32))]
 refine go_st (fun _ kq => XS.ifNo X324.here hx rfl (hb hby d12_28) rfl (XT.i0_ne_f (by decide)) kq) ?_
 show Gg T324 m 31 []
 refine go_st (fun _ kq => XS.iload X324.here hx rfl (hb hby d12_31) rfl kq) ?_
 show Gg T324 m 33 [(.int (1 : Int32))]
 refine go_st (fun _ kq => XS.iload X324.here hx rfl (hb hby d12_33) rfl kq) ?_
 show Gg T324 m 35 [(.int (1 : Int32)), (.int (1 : Int32))]
 refine go_st (fun _ kq => XS.icmpYes X324.here hx rfl (pc0 := 35) (pc' := 176) rfl (hb hby d12_35) rfl (XT.ii_ge_t (by decide)) (by decide) (by decide) kq) ?_
 show Gg T324 m 176 []
 refine go_st (fun _ kq => XS.aloadN X324.here hx rfl (hb hby d12_176) rfl rfl kq) ?_
 show Gg T324 m 177 [(.ref a)]
 refine go_st (fun _ kq => XS.iload X324.here hx rfl (hb hby d12_177) rfl kq) ?_
 show Gg T324 m 179 [(.int (1 : Int32)), (.ref a)]
 have c325 := Fld.other W302 P25 (Or.inl P7)
 have c326 := Fld.other W324 c325 (Or.inr (slot_ne (a0 := a0) (t := .int) (t' := .long) (Or.inl (wd hw 103 rfl)) (Or.inl (wd hw 34 rfl)) (by decide) (by decide) (by decide)))
 have c327 := Exa.wr W324 c323
 refine go_putF X324 hx hZ hown (host := "") (Or.inl (wd hw 102 rfl)) Via.refl e324 c326 c327 (Or.inl (wd hw 103 rfl)) (wd hw 1 rfl) (ty := .int) (by decide) rfl rfl (hb hby d12_179) rfl rfl ?_
 intro T328 h328 X328 e328 W328
 have N328 := Fr.snoc X328 N324 P4
 have F328 : Fld Z h328 a "com/example/copse/copse/graph/TargetSearch" "queued" "I" (.int (1 : Int32)) := Fld.same W328 c326
 show Gg T328 m 182 []
 refine go_st (fun _ kq => XS.iload X328.here hx rfl (hb hby d12_182) rfl kq) ?_
 show Gg T328 m 184 [(.int (0 : Int32))]
 have c329 := Fld.other W324 c305 (Or.inr (slot_ne (a0 := a0) (t := .long) (t' := .long) (Or.inl (wd hw 11 rfl)) (Or.inl (wd hw 34 rfl)) (by decide) (by decide) (by decide)))
 have c330 := Fld.other W328 c329 (Or.inr (slot_ne (a0 := a0) (t := .long) (t' := .int) (Or.inl (wd hw 11 rfl)) (Or.inl (wd hw 103 rfl)) (by decide) (by decide) (by decide)))
 have c331 := Fld.other W328 F324 (Or.inr (slot_ne (a0 := a0) (t := .long) (t' := .int) (Or.inl (wd hw 34 rfl)) (Or.inl (wd hw 103 rfl)) (by decide) (by decide) (by decide)))
 have c332 := Fld.other W324 c317 (Or.inr (slot_ne (a0 := a0) (t := .int) (t' := .long) (Or.inl (wd hw 76 rfl)) (Or.inl (wd hw 34 rfl)) (by decide) (by decide) (by decide)))
 have c333 := Fld.other W328 c332 (Or.inr (slot_ne (a0 := a0) (t := .int) (t' := .int) (Or.inl (wd hw 76 rfl)) (Or.inl (wd hw 103 rfl)) (by decide) (by decide) (by decide)))
 have c334 := Fld.other W302 P24 (Or.inl P7)
 have c335 := Fld.other W324 c334 (Or.inr (slot_ne (a0 := a0) (t := .int) (t' := .long) (Or.inl (wd hw 79 rfl)) (Or.inl (wd hw 34 rfl)) (by decide) (by decide) (by decide)))
 have c336 := Fld.other W328 c335 (Or.inr (slot_ne (a0 := a0) (t := .int) (t' := .int) (Or.inl (wd hw 79 rfl)) (Or.inl (wd hw 103 rfl)) (by decide) (by decide) (by decide)))
 have c337 := Fld.other W324 c314 (Or.inr (slot_ne (a0 := a0) (t := (.array .int)) (t' := .long) (Or.inr (wd hw 19 rfl)) (Or.inl (wd hw 34 rfl)) (by decide) (by decide) (by decide)))
 have c338 := Fld.other W328 c337 (Or.inr (slot_ne (a0 := a0) (t := (.array .int)) (t' := .int) (Or.inr (wd hw 19 rfl)) (Or.inl (wd hw 103 rfl)) (by decide) (by decide) (by decide)))
 have c339 := Fld.other W324 c307 (Or.inr (slot_ne (a0 := a0) (t := (.array .int)) (t' := .long) (Or.inr (wd hw 25 rfl)) (Or.inl (wd hw 34 rfl)) (by decide) (by decide) (by decide)))
 have c340 := Fld.other W328 c339 (Or.inr (slot_ne (a0 := a0) (t := (.array .int)) (t' := .int) (Or.inr (wd hw 25 rfl)) (Or.inl (wd hw 103 rfl)) (by decide) (by decide) (by decide)))
 have c341 := Fld.other W302 P28 (Or.inl P7)
 have c342 := Fld.other W324 c341 (Or.inr (slot_ne (a0 := a0) (t := (.array .int)) (t' := .long) (Or.inr (wd hw 27 rfl)) (Or.inl (wd hw 34 rfl)) (by decide) (by decide) (by decide)))
 have c343 := Fld.other W328 c342 (Or.inr (slot_ne (a0 := a0) (t := (.array .int)) (t' := .int) (Or.inr (wd hw 27 rfl)) (Or.inl (wd hw 103 rfl)) (by decide) (by decide) (by decide)))
 exact go_retB (w := (0 : Int32)) X328 hx hlk hret (hb hby d12_184) (by decide) (by decide) (by decide) (by rw [e328]; exact ⟨rfl, N328, (Keep.wr (Keep.wr (Keep.wr (Keep.refl h0 [a, pe]) W302 (Or.inl (by simp))) W324 (Or.inl (by simp))) W328 (Or.inl (by simp))), c330, c331, c333, c336, F328, c338, c340, c343⟩)
def Q_bf3t (Z : State) (cK : ClassId) (a : Addr) (o : Addr) (f : Addr) (xl : Int64) (ra : Addr) (pe : Addr) (wa : Addr) (h0 : Heap) (n0 : Nat) (v : Option Value) (h : Heap) (L : List Loc) : Prop := v = some (.int (0 : Int32)) ∧ Fr n0 L ∧ Keep h0 h [a, pe] ∧ Fld Z h a "com/example/copse/copse/graph/TargetSearch" "arcLimit" "J" (.long xl) ∧ Fld Z h a "com/example/copse/copse/graph/TargetSearch" "arcsLookedAt" "J" (.long (3 : Int64)) ∧ Fld Z h a "com/example/copse/copse/graph/TargetSearch" "search" "I" (.int (1 : Int32)) ∧ Fld Z h a "com/example/copse/copse/graph/TargetSearch" "unreached" "I" (.int (1 : Int32)) ∧ Fld Z h a "com/example/copse/copse/graph/TargetSearch" "queued" "I" (.int (1 : Int32)) ∧ Fld Z h a "com/example/copse/copse/graph/TargetSearch" "reachedIn" "[I" (.ref ra) ∧ Fld Z h a "com/example/copse/copse/graph/TargetSearch" "pending" "[I" (.ref pe) ∧ Fld Z h a "com/example/copse/copse/graph/TargetSearch" "wantedIn" "[I" (.ref wa)
theorem ef_bf3t (m : MethodId) (cK : ClassId) (a : Addr) (o : Addr) (f : Addr) (xl : Int64) (ra : Addr) (pe : Addr) (wa : Addr) : entryFrame m #[(.ref a), (.ref o), (.int (0 : Int32)), (.ref f)] 11 = mkF m 0 #[.val (.ref a), .val (.ref o), .val (.int (0 : Int32)), .val (.ref f), .unset, .unset, .unset, .unset, .unset, .unset, .unset] [] := by first | (simp [entryFrame, mkF, argsToLocals, Value.category]; done) | rfl
abbrev rm_bf3t : Room := ({ frames := 2, cells := 0, slots := 0, locals := 26 } : Room)
set_option maxRecDepth 65536 in
set_option maxHeartbeats 4000000 in
theorem met_bf3t (l : Launch) (Z : State) (a0 : Array Value) (hw : ∀ d ∈ tables_1, d.before a0 Z = true) (cK : ClassId) (a : Addr) (o : Addr) (f : Addr) (xl : Int64) (ra : Addr) (pe : Addr) (wa : Addr) (h0 : Heap) (n0 : Nat) (Z0 : n0 ≤ h0.size) (P0 : Exa Z h0 a "com/example/copse/copse/graph/TargetSearch") (P1 : Exa Z h0 o "com/example/copse/copse/graph/TargetSearchArcLimitReachedPinLaw") (P2 : Fld Z h0 o "com/example/copse/copse/graph/TargetSearchArcLimitReachedPinLaw" "degree" "I" (.int (3 : Int32))) (P3 : LamAt h0 f cK a) (P4 : n0 ≤ a) (P5 : n0 ≤ pe) (P6 : a ≠ ra) (P7 : a ≠ pe) (P8 : a ≠ wa) (P9 : a ≠ o) (P10 : a ≠ f) (P11 : ra ≠ pe) (P12 : ra ≠ wa) (P13 : ra ≠ o) (P14 : ra ≠ f) (P15 : pe ≠ wa) (P16 : pe ≠ o) (P17 : pe ≠ f) (P18 : wa ≠ o) (P19 : wa ≠ f) (P20 : o ≠ f) (P21 : Fld Z h0 a "com/example/copse/copse/graph/TargetSearch" "arcLimit" "J" (.long xl)) (P22 : Fld Z h0 a "com/example/copse/copse/graph/TargetSearch" "arcsLookedAt" "J" (.long (0 : Int64))) (P23 : Fld Z h0 a "com/example/copse/copse/graph/TargetSearch" "search" "I" (.int (1 : Int32))) (P24 : Fld Z h0 a "com/example/copse/copse/graph/TargetSearch" "unreached" "I" (.int (1 : Int32))) (P25 : Fld Z h0 a "com/example/copse/copse/graph/TargetSearch" "queued" "I" (.int (0 : Int32))) (P26 : Fld Z h0 a "com/example/copse/copse/graph/TargetSearch" "reachedIn" "[I" (.ref ra)) (P27 : Fld Z h0 a "com/example/copse/copse/graph/TargetSearch" "pending" "[I" (.ref pe)) (P28 : Fld Z h0 a "com/example/copse/copse/graph/TargetSearch" "wantedIn" "[I" (.ref wa)) (P29 : GA Z h0 ra .int 2 (fun i => .int (own_c2 (1 : Int32) (0 : Int32) i))) (P30 : GA Z h0 pe .int 2 (fun i => .int (own_c2 (0 : Int32) (0 : Int32) i))) (P31 : GA Z h0 wa .int 2 (fun i => .int (own_c2 (0 : Int32) (1 : Int32) i))) (P32 : (0 : Int64) < xl) :
  MetH l (⟨"com/example/copse/copse/graph/TargetSearch", "breadthFirst", "(Lcom/example/copse/copse/graph/SuccessorLists;ILjava/util/function/IntPredicate;)Z"⟩ : MethodName) prog_46_method_11_code 11 (some FieldType.boolean) [] rm_bf3t Z cK #[(.ref a), (.ref o), (.int (0 : Int32)), (.ref f)] h0 (Q_bf3t Z cK a o f xl ra pe wa h0 n0) rm_bf3t.cells rm_bf3t.slots := by
 refine own_bodyH pn13 ?_
 intro p e s m below meth c s₁ ct X0 e0 hLam hnamed
 obtain ⟨hx, hZ, hown, hby, hml, hret, hlk, hnm⟩ := ct
 have N0 := Fr.nil n0
 refine castGo (ef_bf3t m cK a o f xl ra pe wa) ?_
 show Gg s₁ m 0 []
 refine go_st (fun _ kq => XS.aloadN X0.here hx rfl (hb hby d12_0) rfl rfl kq) ?_
 show Gg s₁ m 1 [(.ref f)]
 refine go_st (fun _ kq => XS.iloadN X0.here hx rfl (hb hby d12_1) rfl kq) ?_
 show Gg s₁ m 2 [(.int (0 : Int32)), (.ref f)]
 refine go_callLam X0 hx hZ hml hown hLam (wd hw 88 rfl) (wd hw 89 rfl) (wd hw 90 rfl) (wd hw 83 rfl) (wd hw 92 rfl) (wd hw 1 rfl) (wd hw 91 rfl) (wd hw 93 rfl) (wd hw 2 rfl) own_lx1 own_ly1 (by decide) (by decide) own_fw own_cp own_f0 own_f1 own_f4 own_f5 own_f8 e0 P3 P0 (z := (0 : Int32)) (w := (0 : Int32)) (rest := []) (W := 0) (met_13 l Z a0 hw a wa h0 n0 Z0 P28 P31 P23) (fun v h L q => q.1) (by decide) (hb hby d12_2) rfl rfl rfl (lenOf pd4 rfl) pd4 (by show 2 * 0 + _ ≤ _; exact Nat.le_of_eq rfl) (by decide) (by decide) (by decide) (by decide) ?_
 intro T344 L344 X344 q344
 obtain ⟨-, M344, e344⟩ := q344
 have N344 := Fr.app N0 M344
 show Gg T344 m 7 [(.int (0 : Int32))]
 refine go_st (fun _ kq => XS.istore X344.here hx rfl (hb hby d12_7) rfl (l' := #[.val (.ref a), .val (.ref o), .val (.int (0 : Int32)), .val (.ref f), .val (.int (0 : Int32)), .unset, .unset, .unset, .unset, .unset, .unset]) rfl kq) ?_
 show Gg T344 m 9 []
 refine go_st (fun _ kq => XT.iconstV X344.here hx rfl (0 : Int32) (hb hby d12_9) (by decide) kq) ?_
 show Gg T344 m 10 [(.int (0 : Int32))]
 refine go_st (fun _ kq => XS.istore X344.here hx rfl (hb hby d12_10) rfl (l' := #[.val (.ref a), .val (.ref o), .val (.int (0 : Int32)), .val (.ref f), .val (.int (0 : Int32)), .val (.int (0 : Int32)), .unset, .unset, .unset, .unset, .unset]) rfl kq) ?_
 show Gg T344 m 12 []
 refine go_st (fun _ kq => XT.iconstV X344.here hx rfl (0 : Int32) (hb hby d12_12) (by decide) kq) ?_
 show Gg T344 m 13 [(.int (0 : Int32))]
 refine go_st (fun _ kq => XS.istore X344.here hx rfl (hb hby d12_13) rfl (l' := #[.val (.ref a), .val (.ref o), .val (.int (0 : Int32)), .val (.ref f), .val (.int (0 : Int32)), .val (.int (0 : Int32)), .val (.int (0 : Int32)), .unset, .unset, .unset, .unset]) rfl kq) ?_
 show Gg T344 m 15 []
 refine go_st (fun _ kq => XS.aloadN X344.here hx rfl (hb hby d12_15) rfl rfl kq) ?_
 show Gg T344 m 16 [(.ref a)]
 refine go_getF X344 hx hZ hown (host := "") (Or.inl (wd hw 24 rfl)) Via.refl e344 P27 (hb hby d12_16) rfl rfl ?_
 intro T345 X345 e345
 show Gg T345 m 19 [(.ref pe)]
 refine go_st (fun _ kq => XS.iload X345.here hx rfl (hb hby d12_19) rfl kq) ?_
 show Gg T345 m 21 [(.int (0 : Int32)), (.ref pe)]
 refine go_st (fun _ kq => XT.iincV X345.here hx rfl (1 : Int32) (hb hby d12_21) (by decide) rfl (l' := #[.val (.ref a), .val (.ref o), .val (.int (0 : Int32)), .val (.ref f), .val (.int (0 : Int32)), .val (.int (0 : Int32)), .val (.int (1 : Int32)), .unset, .unset, .unset, .unset]) rfl kq) ?_
 show Gg T345 m 24 [(.int (0 : Int32)), (.ref pe)]
 refine go_st (fun _ kq => XS.iloadN X345.here hx rfl (hb hby d12_24) rfl kq) ?_
 show Gg T345 m 25 [(.int (0 : Int32)), (.int (0 : Int32)), (.ref pe)]
 refine go_iast X345 hx hZ e345 P30 (hb hby d12_25) rfl rfl (by decide) ?_
 intro T346 h346 X346 e346 W346 G346
 have N346 := Fr.snoc X346 N344 P5
 have A346 : GA Z h346 pe .int 2 (fun i => .int (own_c2 (0 : Int32) (0 : Int32) i)) := (own_sti (by decide) (own_c20 (0 : Int32) (0 : Int32) (0 : Int32)) G346)
 show Gg T346 m 26 []
 refine go_st (fun _ kq => XS.iload X346.here hx rfl (hb hby d12_26) rfl kq) ?_
 show Gg T346 m 28 [(.int (0 : Int32))]
 refine go_st (fun _ kq => XS.ifNo X346.here hx rfl (hb hby d12_28) rfl (XT.i0_ne_f (by decide)) kq) ?_
 show Gg T346 m 31 []
 refine go_st (fun _ kq => XS.iload X346.here hx rfl (hb hby d12_31) rfl kq) ?_
 show Gg T346 m 33 [(.int (0 : Int32))]
 refine go_st (fun _ kq => XS.iload X346.here hx rfl (hb hby d12_33) rfl kq) ?_
 show Gg T346 m 35 [(.int (1 : Int32)), (.int (0 : Int32))]
 refine go_st (fun _ kq => XS.icmpNo X346.here hx rfl (hb hby d12_35) rfl (XT.ii_ge_f (by decide)) kq) ?_
 show Gg T346 m 38 []
 refine go_st (fun _ kq => XS.aloadN X346.here hx rfl (hb hby d12_38) rfl rfl kq) ?_
 show Gg T346 m 39 [(.ref a)]
 have c347 := Fld.other W346 P22 (Or.inl P7)
 refine go_getF X346 hx hZ hown (host := "") (Or.inl (wd hw 33 rfl)) Via.refl e346 c347 (hb hby d12_39) rfl rfl ?_
 intro T348 X348 e348
 show Gg T348 m 42 [(.long (0 : Int64))]
 refine go_st (fun _ kq => XS.aloadN X348.here hx rfl (hb hby d12_42) rfl rfl kq) ?_
 show Gg T348 m 43 [(.ref a), (.long (0 : Int64))]
 have c349 := Fld.other W346 P21 (Or.inl P7)
 refine go_getF X348 hx hZ hown (host := "") (Or.inl (wd hw 10 rfl)) Via.refl e348 c349 (hb hby d12_43) rfl rfl ?_
 intro T350 X350 e350
 show Gg T350 m 46 [(.long xl), (.long (0 : Int64))]
 refine go_st (fun _ kq => XT.lcmp X350.here hx rfl (hb hby d12_46) rfl kq) ?_
 show Gg T350 m 47 [(.int (XT.cmpL (0 : Int64) xl))]
 refine go_st (fun _ kq => XS.ifNo X350.here hx rfl (hb hby d12_47) rfl (XT.ll_ge_f P32) kq) ?_
 show Gg T350 m 50 []
 refine go_st (fun _ kq => XS.aloadN X350.here hx rfl (hb hby d12_50) rfl rfl kq) ?_
 show Gg T350 m 51 [(.ref a)]
 have c351 := Fld.other W346 P27 (Or.inl P7)
 refine go_getF X350 hx hZ hown (host := "") (Or.inl (wd hw 24 rfl)) Via.refl e350 c351 (hb hby d12_51) rfl rfl ?_
 intro T352 X352 e352
 show Gg T352 m 54 [(.ref pe)]
 refine go_st (fun _ kq => XS.iload X352.here hx rfl (hb hby d12_54) rfl kq) ?_
 show Gg T352 m 56 [(.int (0 : Int32)), (.ref pe)]
 refine go_st (fun _ kq => XT.iincV X352.here hx rfl (1 : Int32) (hb hby d12_56) (by decide) rfl (l' := #[.val (.ref a), .val (.ref o), .val (.int (0 : Int32)), .val (.ref f), .val (.int (0 : Int32)), .val (.int (1 : Int32)), .val (.int (1 : Int32)), .unset, .unset, .unset, .unset]) rfl kq) ?_
 show Gg T352 m 59 [(.int (0 : Int32)), (.ref pe)]
 refine go_iald X352 hx hZ e352 A346 (hb hby d12_59) rfl rfl (by decide) (.int (0 : Int32)) rfl ?_
 show Gg T352 m 60 [(.int (0 : Int32))]
 refine go_st (fun _ kq => XS.istore X352.here hx rfl (hb hby d12_60) rfl (l' := #[.val (.ref a), .val (.ref o), .val (.int (0 : Int32)), .val (.ref f), .val (.int (0 : Int32)), .val (.int (1 : Int32)), .val (.int (1 : Int32)), .val (.int (0 : Int32)), .unset, .unset, .unset]) rfl kq) ?_
 show Gg T352 m 62 []
 refine go_st (fun _ kq => XS.aloadN X352.here hx rfl (hb hby d12_62) rfl rfl kq) ?_
 show Gg T352 m 63 [(.ref o)]
 refine go_st (fun _ kq => XS.iload X352.here hx rfl (hb hby d12_63) rfl kq) ?_
 show Gg T352 m 65 [(.int (0 : Int32)), (.ref o)]
 have c354 := Fld.other W346 P2 (Or.inl (Ne.symm P16))
 have z355 : n0 ≤ h346.size := (Wr.size W346).symm ▸ Z0
 have c356 := Exa.wr W346 P1
 refine go_callF X352 hx hZ hml hown (wd hw 94 rfl) (wd hw 95 rfl) (wd hw 96 rfl) (wd hw 97 rfl) (wd hw 98 rfl) (wd hw 99 rfl) (wd hw 100 rfl) (wd hw 65 rfl) (wd hw 101 rfl) (wd hw 42 rfl) e352 c356 (argsL := [(.int (0 : Int32))]) (rest := []) (W := 0) (met_14 l Z a0 hw o (3 : Int32) h346 n0 z355 c354) (hb hby d12_65) rfl rfl rfl (lenOf pd0 rfl) (by show 2 * 0 + _ ≤ _; exact Nat.le_of_eq rfl) (by decide) (by decide) (by decide) (by decide) (by decide) ?_
 intro T353 v353 L353 X353 q353
 obtain ⟨rfl, M353, e353⟩ := q353
 have N353 := Fr.app N346 M353
 show Gg T353 m 70 [(.int (3 : Int32))]
 refine go_st (fun _ kq => XS.istore X353.here hx rfl (hb hby d12_70) rfl (l' := #[.val (.ref a), .val (.ref o), .val (.int (0 : Int32)), .val (.ref f), .val (.int (0 : Int32)), .val (.int (1 : Int32)), .val (.int (1 : Int32)), .val (.int (0 : Int32)), .val (.int (3 : Int32)), .unset, .unset]) rfl kq) ?_
 show Gg T353 m 72 []
 refine go_st (fun _ kq => XT.iconstV X353.here hx rfl (0 : Int32) (hb hby d12_72) (by decide) kq) ?_
 show Gg T353 m 73 [(.int (0 : Int32))]
 refine go_st (fun _ kq => XS.istore X353.here hx rfl (hb hby d12_73) rfl (l' := #[.val (.ref a), .val (.ref o), .val (.int (0 : Int32)), .val (.ref f), .val (.int (0 : Int32)), .val (.int (1 : Int32)), .val (.int (1 : Int32)), .val (.int (0 : Int32)), .val (.int (3 : Int32)), .val (.int (0 : Int32)), .unset]) rfl kq) ?_
 show Gg T353 m 75 []
 refine go_st (fun _ kq => XS.iload X353.here hx rfl (hb hby d12_75) rfl kq) ?_
 show Gg T353 m 77 [(.int (0 : Int32))]
 refine go_st (fun _ kq => XS.iload X353.here hx rfl (hb hby d12_77) rfl kq) ?_
 show Gg T353 m 79 [(.int (3 : Int32)), (.int (0 : Int32))]
 refine go_st (fun _ kq => XS.icmpNo X353.here hx rfl (hb hby d12_79) rfl (XT.ii_ge_f (by decide)) kq) ?_
 show Gg T353 m 82 []
 refine go_st (fun _ kq => XS.iload X353.here hx rfl (hb hby d12_82) rfl kq) ?_
 show Gg T353 m 84 [(.int (0 : Int32))]
 refine go_st (fun _ kq => XS.ifNo X353.here hx rfl (hb hby d12_84) rfl (XT.i0_ne_f (by decide)) kq) ?_
 show Gg T353 m 87 []
 refine go_st (fun _ kq => XS.aloadN X353.here hx rfl (hb hby d12_87) rfl rfl kq) ?_
 show Gg T353 m 88 [(.ref o)]
 refine go_st (fun _ kq => XS.iload X353.here hx rfl (hb hby d12_88) rfl kq) ?_
 show Gg T353 m 90 [(.int (0 : Int32)), (.ref o)]
 refine go_st (fun _ kq => XS.iload X353.here hx rfl (hb hby d12_90) rfl kq) ?_
 show Gg T353 m 92 [(.int (0 : Int32)), (.int (0 : Int32)), (.ref o)]
 refine go_st (fun _ kq => XT.iincV X353.here hx rfl (1 : Int32) (hb hby d12_92) (by decide) rfl (l' := #[.val (.ref a), .val (.ref o), .val (.int (0 : Int32)), .val (.ref f), .val (.int (0 : Int32)), .val (.int (1 : Int32)), .val (.int (1 : Int32)), .val (.int (0 : Int32)), .val (.int (3 : Int32)), .val (.int (1 : Int32)), .unset]) rfl kq) ?_
 show Gg T353 m 95 [(.int (0 : Int32)), (.int (0 : Int32)), (.ref o)]
 refine go_callF X353 hx hZ hml hown (wd hw 109 rfl) (wd hw 110 rfl) (wd hw 111 rfl) (wd hw 112 rfl) (wd hw 113 rfl) (wd hw 114 rfl) (wd hw 115 rfl) (wd hw 65 rfl) (wd hw 116 rfl) (wd hw 42 rfl) e353 c356 (argsL := [(.int (0 : Int32)), (.int (0 : Int32))]) (rest := []) (W := 0) (met_16 l Z a0 hw o (0 : Int32) (0 : Int32) h346 n0 z355 ) (hb hby d12_95) rfl rfl rfl (lenOf pd3 rfl) (by show 2 * 0 + _ ≤ _; exact Nat.le_of_eq rfl) (by decide) (by decide) (by decide) (by decide) (by decide) ?_
 intro T357 v357 L357 X357 q357
 obtain ⟨rfl, M357, e357⟩ := q357
 have N357 := Fr.app N353 M357
 show Gg T357 m 100 [(.int (0 : Int32))]
 refine go_st (fun _ kq => XS.istore X357.here hx rfl (hb hby d12_100) rfl (l' := #[.val (.ref a), .val (.ref o), .val (.int (0 : Int32)), .val (.ref f), .val (.int (0 : Int32)), .val (.int (1 : Int32)), .val (.int (1 : Int32)), .val (.int (0 : Int32)), .val (.int (3 : Int32)), .val (.int (1 : Int32)), .val (.int (0 : Int32))]) rfl kq) ?_
 show Gg T357 m 102 []
 refine go_st (fun _ kq => XS.aloadN X357.here hx rfl (hb hby d12_102) rfl rfl kq) ?_
 show Gg T357 m 103 [(.ref a)]
 have c358 := Fld.other W346 P26 (Or.inl P7)
 refine go_getF X357 hx hZ hown (host := "") (Or.inl (wd hw 18 rfl)) Via.refl e357 c358 (hb hby d12_103) rfl rfl ?_
 intro T359 X359 e359
 show Gg T359 m 106 [(.ref ra)]
 refine go_st (fun _ kq => XS.iload X359.here hx rfl (hb hby d12_106) rfl kq) ?_
 show Gg T359 m 108 [(.int (0 : Int32)), (.ref ra)]
 have c360 := P29.other W346 P11
 refine go_iald X359 hx hZ e359 c360 (hb hby d12_108) rfl rfl (by decide) (.int (1 : Int32)) rfl ?_
 show Gg T359 m 109 [(.int (1 : Int32))]
 refine go_st (fun _ kq => XS.aloadN X359.here hx rfl (hb hby d12_109) rfl rfl kq) ?_
 show Gg T359 m 110 [(.ref a), (.int (1 : Int32))]
 have c361 := Fld.other W346 P23 (Or.inl P7)
 refine go_getF X359 hx hZ hown (host := "") (Or.inl (wd hw 75 rfl)) Via.refl e359 c361 (hb hby d12_110) rfl rfl ?_
 intro T362 X362 e362
 show Gg T362 m 113 [(.int (1 : Int32)), (.int (1 : Int32))]
 refine go_st (fun _ kq => XS.icmpYes X362.here hx rfl (pc0 := 113) (pc' := 158) rfl (hb hby d12_113) rfl (XT.ii_eq_t (by decide)) (by decide) (by decide) kq) ?_
 show Gg T362 m 158 []
 refine go_st (fun _ kq => XS.goto X362.here hx rfl (pc0 := 158) (pc' := 75) rfl (hb hby d12_158) (by decide) (by decide) kq) ?_
 show Gg T362 m 75 []
 refine go_st (fun _ kq => XS.iload X362.here hx rfl (hb hby d12_75) rfl kq) ?_
 show Gg T362 m 77 [(.int (1 : Int32))]
 refine go_st (fun _ kq => XS.iload X362.here hx rfl (hb hby d12_77) rfl kq) ?_
 show Gg T362 m 79 [(.int (3 : Int32)), (.int (1 : Int32))]
 refine go_st (fun _ kq => XS.icmpNo X362.here hx rfl (hb hby d12_79) rfl (XT.ii_ge_f (by decide)) kq) ?_
 show Gg T362 m 82 []
 refine go_st (fun _ kq => XS.iload X362.here hx rfl (hb hby d12_82) rfl kq) ?_
 show Gg T362 m 84 [(.int (0 : Int32))]
 refine go_st (fun _ kq => XS.ifNo X362.here hx rfl (hb hby d12_84) rfl (XT.i0_ne_f (by decide)) kq) ?_
 show Gg T362 m 87 []
 refine go_st (fun _ kq => XS.aloadN X362.here hx rfl (hb hby d12_87) rfl rfl kq) ?_
 show Gg T362 m 88 [(.ref o)]
 refine go_st (fun _ kq => XS.iload X362.here hx rfl (hb hby d12_88) rfl kq) ?_
 show Gg T362 m 90 [(.int (0 : Int32)), (.ref o)]
 refine go_st (fun _ kq => XS.iload X362.here hx rfl (hb hby d12_90) rfl kq) ?_
 show Gg T362 m 92 [(.int (1 : Int32)), (.int (0 : Int32)), (.ref o)]
 refine go_st (fun _ kq => XT.iincV X362.here hx rfl (1 : Int32) (hb hby d12_92) (by decide) rfl (l' := #[.val (.ref a), .val (.ref o), .val (.int (0 : Int32)), .val (.ref f), .val (.int (0 : Int32)), .val (.int (1 : Int32)), .val (.int (1 : Int32)), .val (.int (0 : Int32)), .val (.int (3 : Int32)), .val (.int (2 : Int32)), .val (.int (0 : Int32))]) rfl kq) ?_
 show Gg T362 m 95 [(.int (1 : Int32)), (.int (0 : Int32)), (.ref o)]
 refine go_callF X362 hx hZ hml hown (wd hw 109 rfl) (wd hw 110 rfl) (wd hw 111 rfl) (wd hw 112 rfl) (wd hw 113 rfl) (wd hw 114 rfl) (wd hw 115 rfl) (wd hw 65 rfl) (wd hw 116 rfl) (wd hw 42 rfl) e362 c356 (argsL := [(.int (0 : Int32)), (.int (1 : Int32))]) (rest := []) (W := 0) (met_16 l Z a0 hw o (0 : Int32) (1 : Int32) h346 n0 z355 ) (hb hby d12_95) rfl rfl rfl (lenOf pd3 rfl) (by show 2 * 0 + _ ≤ _; exact Nat.le_of_eq rfl) (by decide) (by decide) (by decide) (by decide) (by decide) ?_
 intro T363 v363 L363 X363 q363
 obtain ⟨rfl, M363, e363⟩ := q363
 have N363 := Fr.app N357 M363
 show Gg T363 m 100 [(.int (0 : Int32))]
 refine go_st (fun _ kq => XS.istore X363.here hx rfl (hb hby d12_100) rfl (l' := #[.val (.ref a), .val (.ref o), .val (.int (0 : Int32)), .val (.ref f), .val (.int (0 : Int32)), .val (.int (1 : Int32)), .val (.int (1 : Int32)), .val (.int (0 : Int32)), .val (.int (3 : Int32)), .val (.int (2 : Int32)), .val (.int (0 : Int32))]) rfl kq) ?_
 show Gg T363 m 102 []
 refine go_st (fun _ kq => XS.aloadN X363.here hx rfl (hb hby d12_102) rfl rfl kq) ?_
 show Gg T363 m 103 [(.ref a)]
 refine go_getF X363 hx hZ hown (host := "") (Or.inl (wd hw 18 rfl)) Via.refl e363 c358 (hb hby d12_103) rfl rfl ?_
 intro T364 X364 e364
 show Gg T364 m 106 [(.ref ra)]
 refine go_st (fun _ kq => XS.iload X364.here hx rfl (hb hby d12_106) rfl kq) ?_
 show Gg T364 m 108 [(.int (0 : Int32)), (.ref ra)]
 refine go_iald X364 hx hZ e364 c360 (hb hby d12_108) rfl rfl (by decide) (.int (1 : Int32)) rfl ?_
 show Gg T364 m 109 [(.int (1 : Int32))]
 refine go_st (fun _ kq => XS.aloadN X364.here hx rfl (hb hby d12_109) rfl rfl kq) ?_
 show Gg T364 m 110 [(.ref a), (.int (1 : Int32))]
 refine go_getF X364 hx hZ hown (host := "") (Or.inl (wd hw 75 rfl)) Via.refl e364 c361 (hb hby d12_110) rfl rfl ?_
 intro T365 X365 e365
 show Gg T365 m 113 [(.int (1 : Int32)), (.int (1 : Int32))]
 refine go_st (fun _ kq => XS.icmpYes X365.here hx rfl (pc0 := 113) (pc' := 158) rfl (hb hby d12_113) rfl (XT.ii_eq_t (by decide)) (by decide) (by decide) kq) ?_
 show Gg T365 m 158 []
 refine go_st (fun _ kq => XS.goto X365.here hx rfl (pc0 := 158) (pc' := 75) rfl (hb hby d12_158) (by decide) (by decide) kq) ?_
 show Gg T365 m 75 []
 refine go_st (fun _ kq => XS.iload X365.here hx rfl (hb hby d12_75) rfl kq) ?_
 show Gg T365 m 77 [(.int (2 : Int32))]
 refine go_st (fun _ kq => XS.iload X365.here hx rfl (hb hby d12_77) rfl kq) ?_
 show Gg T365 m 79 [(.int (3 : Int32)), (.int (2 : Int32))]
 refine go_st (fun _ kq => XS.icmpNo X365.here hx rfl (hb hby d12_79) rfl (XT.ii_ge_f (by decide)) kq) ?_
 show Gg T365 m 82 []
 refine go_st (fun _ kq => XS.iload X365.here hx rfl (hb hby d12_82) rfl kq) ?_
 show Gg T365 m 84 [(.int (0 : Int32))]
 refine go_st (fun _ kq => XS.ifNo X365.here hx rfl (hb hby d12_84) rfl (XT.i0_ne_f (by decide)) kq) ?_
 show Gg T365 m 87 []
 refine go_st (fun _ kq => XS.aloadN X365.here hx rfl (hb hby d12_87) rfl rfl kq) ?_
 show Gg T365 m 88 [(.ref o)]
 refine go_st (fun _ kq => XS.iload X365.here hx rfl (hb hby d12_88) rfl kq) ?_
 show Gg T365 m 90 [(.int (0 : Int32)), (.ref o)]
 refine go_st (fun _ kq => XS.iload X365.here hx rfl (hb hby d12_90) rfl kq) ?_
 show Gg T365 m 92 [(.int (2 : Int32)), (.int (0 : Int32)), (.ref o)]
 refine go_st (fun _ kq => XT.iincV X365.here hx rfl (1 : Int32) (hb hby d12_92) (by decide) rfl (l' := #[.val (.ref a), .val (.ref o), .val (.int (0 : Int32)), .val (.ref f), .val (.int (0 : Int32)), .val (.int (1 : Int32)), .val (.int (1 : Int32)), .val (.int (0 : Int32)), .val (.int (3 : Int32)), .val (.int (3 : Int32)), .val (.int (0 : Int32))]) rfl kq) ?_
 show Gg T365 m 95 [(.int (2 : Int32)), (.int (0 : Int32)), (.ref o)]
 refine go_callF X365 hx hZ hml hown (wd hw 109 rfl) (wd hw 110 rfl) (wd hw 111 rfl) (wd hw 112 rfl) (wd hw 113 rfl) (wd hw 114 rfl) (wd hw 115 rfl) (wd hw 65 rfl) (wd hw 116 rfl) (wd hw 42 rfl) e365 c356 (argsL := [(.int (0 : Int32)), (.int (2 : Int32))]) (rest := []) (W := 0) (met_16 l Z a0 hw o (0 : Int32) (2 : Int32) h346 n0 z355 ) (hb hby d12_95) rfl rfl rfl (lenOf pd3 rfl) (by show 2 * 0 + _ ≤ _; exact Nat.le_of_eq rfl) (by decide) (by decide) (by decide) (by decide) (by decide) ?_
 intro T366 v366 L366 X366 q366
 obtain ⟨rfl, M366, e366⟩ := q366
 have N366 := Fr.app N363 M366
 show Gg T366 m 100 [(.int (0 : Int32))]
 refine go_st (fun _ kq => XS.istore X366.here hx rfl (hb hby d12_100) rfl (l' := #[.val (.ref a), .val (.ref o), .val (.int (0 : Int32)), .val (.ref f), .val (.int (0 : Int32)), .val (.int (1 : Int32)), .val (.int (1 : Int32)), .val (.int (0 : Int32)), .val (.int (3 : Int32)), .val (.int (3 : Int32)), .val (.int (0 : Int32))]) rfl kq) ?_
 show Gg T366 m 102 []
 refine go_st (fun _ kq => XS.aloadN X366.here hx rfl (hb hby d12_102) rfl rfl kq) ?_
 show Gg T366 m 103 [(.ref a)]
 refine go_getF X366 hx hZ hown (host := "") (Or.inl (wd hw 18 rfl)) Via.refl e366 c358 (hb hby d12_103) rfl rfl ?_
 intro T367 X367 e367
 show Gg T367 m 106 [(.ref ra)]
 refine go_st (fun _ kq => XS.iload X367.here hx rfl (hb hby d12_106) rfl kq) ?_
 show Gg T367 m 108 [(.int (0 : Int32)), (.ref ra)]
 refine go_iald X367 hx hZ e367 c360 (hb hby d12_108) rfl rfl (by decide) (.int (1 : Int32)) rfl ?_
 show Gg T367 m 109 [(.int (1 : Int32))]
 refine go_st (fun _ kq => XS.aloadN X367.here hx rfl (hb hby d12_109) rfl rfl kq) ?_
 show Gg T367 m 110 [(.ref a), (.int (1 : Int32))]
 refine go_getF X367 hx hZ hown (host := "") (Or.inl (wd hw 75 rfl)) Via.refl e367 c361 (hb hby d12_110) rfl rfl ?_
 intro T368 X368 e368
 show Gg T368 m 113 [(.int (1 : Int32)), (.int (1 : Int32))]
 refine go_st (fun _ kq => XS.icmpYes X368.here hx rfl (pc0 := 113) (pc' := 158) rfl (hb hby d12_113) rfl (XT.ii_eq_t (by decide)) (by decide) (by decide) kq) ?_
 show Gg T368 m 158 []
 refine go_st (fun _ kq => XS.goto X368.here hx rfl (pc0 := 158) (pc' := 75) rfl (hb hby d12_158) (by decide) (by decide) kq) ?_
 show Gg T368 m 75 []
 refine go_st (fun _ kq => XS.iload X368.here hx rfl (hb hby d12_75) rfl kq) ?_
 show Gg T368 m 77 [(.int (3 : Int32))]
 refine go_st (fun _ kq => XS.iload X368.here hx rfl (hb hby d12_77) rfl kq) ?_
 show Gg T368 m 79 [(.int (3 : Int32)), (.int (3 : Int32))]
 refine go_st (fun _ kq => XS.icmpYes X368.here hx rfl (pc0 := 79) (pc' := 161) rfl (hb hby d12_79) rfl (XT.ii_ge_t (by decide)) (by decide) (by decide) kq) ?_
 show Gg T368 m 161 []
 refine go_st (fun _ kq => XS.aloadN X368.here hx rfl (hb hby d12_161) rfl rfl kq) ?_
 show Gg T368 m 162 [(.ref a)]
 refine go_st (fun _ kq => XS.dup X368.here hx rfl (hb hby d12_162) rfl rfl kq) ?_
 show Gg T368 m 163 [(.ref a), (.ref a)]
 refine go_getF X368 hx hZ hown (host := "") (Or.inl (wd hw 33 rfl)) Via.refl e368 c347 (hb hby d12_163) rfl rfl ?_
 intro T369 X369 e369
 show Gg T369 m 166 [(.long (0 : Int64)), (.ref a)]
 refine go_st (fun _ kq => XS.iload X369.here hx rfl (hb hby d12_166) rfl kq) ?_
 show Gg T369 m 168 [(.int (3 : Int32)), (.long (0 : Int64)), (.ref a)]
 refine go_st (fun _ kq => XT.i2l X369.here hx rfl (hb hby d12_168) rfl kq) ?_
 rw [show (3 : Int32).toInt64 = (3 : Int64) from by decide +kernel]
 show Gg T369 m 169 [(.long (3 : Int64)), (.long (0 : Int64)), (.ref a)]
 refine go_st (fun _ kq => XT.ladd X369.here hx rfl (hb hby d12_169) rfl kq) ?_
 rw [show ((0 : Int64) + (3 : Int64)) = (3 : Int64) from by decide +kernel]
 show Gg T369 m 170 [(.long (3 : Int64)), (.ref a)]
 have c370 := Exa.wr W346 P0
 refine go_putF X369 hx hZ hown (host := "") (Or.inl (wd hw 33 rfl)) Via.refl e369 c347 c370 (Or.inl (wd hw 34 rfl)) (wd hw 1 rfl) (ty := .long) (by decide) rfl rfl (hb hby d12_170) rfl rfl ?_
 intro T371 h371 X371 e371 W371
 have N371 := Fr.snoc X371 N366 P4
 have F371 : Fld Z h371 a "com/example/copse/copse/graph/TargetSearch" "arcsLookedAt" "J" (.long (3 : Int64)) := Fld.same W371 c347
 show Gg T371 m 173 []
 refine go_st (fun _ kq => XS.goto X371.here hx rfl (pc0 := 173) (pc' := 26) rfl (hb hby d12_173) (by decide) (by decide) kq) ?_
 show Gg T371 m 26 []
 refine go_st (fun _ kq => XS.iload X371.here hx rfl (hb hby d12_26) rfl kq) ?_
 show Gg T371 m 28 [(.int (0 : Int32))]
 refine go_st (fun _ kq => XS.ifNo X371.here hx rfl (hb hby d12_28) rfl (XT.i0_ne_f (by decide)) kq) ?_
 show Gg T371 m 31 []
 refine go_st (fun _ kq => XS.iload X371.here hx rfl (hb hby d12_31) rfl kq) ?_
 show Gg T371 m 33 [(.int (1 : Int32))]
 refine go_st (fun _ kq => XS.iload X371.here hx rfl (hb hby d12_33) rfl kq) ?_
 show Gg T371 m 35 [(.int (1 : Int32)), (.int (1 : Int32))]
 refine go_st (fun _ kq => XS.icmpYes X371.here hx rfl (pc0 := 35) (pc' := 176) rfl (hb hby d12_35) rfl (XT.ii_ge_t (by decide)) (by decide) (by decide) kq) ?_
 show Gg T371 m 176 []
 refine go_st (fun _ kq => XS.aloadN X371.here hx rfl (hb hby d12_176) rfl rfl kq) ?_
 show Gg T371 m 177 [(.ref a)]
 refine go_st (fun _ kq => XS.iload X371.here hx rfl (hb hby d12_177) rfl kq) ?_
 show Gg T371 m 179 [(.int (1 : Int32)), (.ref a)]
 have c372 := Fld.other W346 P25 (Or.inl P7)
 have c373 := Fld.other W371 c372 (Or.inr (slot_ne (a0 := a0) (t := .int) (t' := .long) (Or.inl (wd hw 103 rfl)) (Or.inl (wd hw 34 rfl)) (by decide) (by decide) (by decide)))
 have c374 := Exa.wr W371 c370
 refine go_putF X371 hx hZ hown (host := "") (Or.inl (wd hw 102 rfl)) Via.refl e371 c373 c374 (Or.inl (wd hw 103 rfl)) (wd hw 1 rfl) (ty := .int) (by decide) rfl rfl (hb hby d12_179) rfl rfl ?_
 intro T375 h375 X375 e375 W375
 have N375 := Fr.snoc X375 N371 P4
 have F375 : Fld Z h375 a "com/example/copse/copse/graph/TargetSearch" "queued" "I" (.int (1 : Int32)) := Fld.same W375 c373
 show Gg T375 m 182 []
 refine go_st (fun _ kq => XS.iload X375.here hx rfl (hb hby d12_182) rfl kq) ?_
 show Gg T375 m 184 [(.int (0 : Int32))]
 have c376 := Fld.other W371 c349 (Or.inr (slot_ne (a0 := a0) (t := .long) (t' := .long) (Or.inl (wd hw 11 rfl)) (Or.inl (wd hw 34 rfl)) (by decide) (by decide) (by decide)))
 have c377 := Fld.other W375 c376 (Or.inr (slot_ne (a0 := a0) (t := .long) (t' := .int) (Or.inl (wd hw 11 rfl)) (Or.inl (wd hw 103 rfl)) (by decide) (by decide) (by decide)))
 have c378 := Fld.other W375 F371 (Or.inr (slot_ne (a0 := a0) (t := .long) (t' := .int) (Or.inl (wd hw 34 rfl)) (Or.inl (wd hw 103 rfl)) (by decide) (by decide) (by decide)))
 have c379 := Fld.other W371 c361 (Or.inr (slot_ne (a0 := a0) (t := .int) (t' := .long) (Or.inl (wd hw 76 rfl)) (Or.inl (wd hw 34 rfl)) (by decide) (by decide) (by decide)))
 have c380 := Fld.other W375 c379 (Or.inr (slot_ne (a0 := a0) (t := .int) (t' := .int) (Or.inl (wd hw 76 rfl)) (Or.inl (wd hw 103 rfl)) (by decide) (by decide) (by decide)))
 have c381 := Fld.other W346 P24 (Or.inl P7)
 have c382 := Fld.other W371 c381 (Or.inr (slot_ne (a0 := a0) (t := .int) (t' := .long) (Or.inl (wd hw 79 rfl)) (Or.inl (wd hw 34 rfl)) (by decide) (by decide) (by decide)))
 have c383 := Fld.other W375 c382 (Or.inr (slot_ne (a0 := a0) (t := .int) (t' := .int) (Or.inl (wd hw 79 rfl)) (Or.inl (wd hw 103 rfl)) (by decide) (by decide) (by decide)))
 have c384 := Fld.other W371 c358 (Or.inr (slot_ne (a0 := a0) (t := (.array .int)) (t' := .long) (Or.inr (wd hw 19 rfl)) (Or.inl (wd hw 34 rfl)) (by decide) (by decide) (by decide)))
 have c385 := Fld.other W375 c384 (Or.inr (slot_ne (a0 := a0) (t := (.array .int)) (t' := .int) (Or.inr (wd hw 19 rfl)) (Or.inl (wd hw 103 rfl)) (by decide) (by decide) (by decide)))
 have c386 := Fld.other W371 c351 (Or.inr (slot_ne (a0 := a0) (t := (.array .int)) (t' := .long) (Or.inr (wd hw 25 rfl)) (Or.inl (wd hw 34 rfl)) (by decide) (by decide) (by decide)))
 have c387 := Fld.other W375 c386 (Or.inr (slot_ne (a0 := a0) (t := (.array .int)) (t' := .int) (Or.inr (wd hw 25 rfl)) (Or.inl (wd hw 103 rfl)) (by decide) (by decide) (by decide)))
 have c388 := Fld.other W346 P28 (Or.inl P7)
 have c389 := Fld.other W371 c388 (Or.inr (slot_ne (a0 := a0) (t := (.array .int)) (t' := .long) (Or.inr (wd hw 27 rfl)) (Or.inl (wd hw 34 rfl)) (by decide) (by decide) (by decide)))
 have c390 := Fld.other W375 c389 (Or.inr (slot_ne (a0 := a0) (t := (.array .int)) (t' := .int) (Or.inr (wd hw 27 rfl)) (Or.inl (wd hw 103 rfl)) (by decide) (by decide) (by decide)))
 exact go_retB (w := (0 : Int32)) X375 hx hlk hret (hb hby d12_184) (by decide) (by decide) (by decide) (by rw [e375]; exact ⟨rfl, N375, (Keep.wr (Keep.wr (Keep.wr (Keep.refl h0 [a, pe]) W346 (Or.inl (by simp))) W371 (Or.inl (by simp))) W375 (Or.inl (by simp))), c377, c378, c380, c383, F375, c385, c387, c390⟩)
def Q_bf4t (Z : State) (cK : ClassId) (a : Addr) (o : Addr) (f : Addr) (xl : Int64) (ra : Addr) (pe : Addr) (wa : Addr) (h0 : Heap) (n0 : Nat) (v : Option Value) (h : Heap) (L : List Loc) : Prop := v = some (.int (0 : Int32)) ∧ Fr n0 L ∧ Keep h0 h [a, pe] ∧ Fld Z h a "com/example/copse/copse/graph/TargetSearch" "arcLimit" "J" (.long xl) ∧ Fld Z h a "com/example/copse/copse/graph/TargetSearch" "arcsLookedAt" "J" (.long (4 : Int64)) ∧ Fld Z h a "com/example/copse/copse/graph/TargetSearch" "search" "I" (.int (1 : Int32)) ∧ Fld Z h a "com/example/copse/copse/graph/TargetSearch" "unreached" "I" (.int (1 : Int32)) ∧ Fld Z h a "com/example/copse/copse/graph/TargetSearch" "queued" "I" (.int (1 : Int32)) ∧ Fld Z h a "com/example/copse/copse/graph/TargetSearch" "reachedIn" "[I" (.ref ra) ∧ Fld Z h a "com/example/copse/copse/graph/TargetSearch" "pending" "[I" (.ref pe) ∧ Fld Z h a "com/example/copse/copse/graph/TargetSearch" "wantedIn" "[I" (.ref wa)
theorem ef_bf4t (m : MethodId) (cK : ClassId) (a : Addr) (o : Addr) (f : Addr) (xl : Int64) (ra : Addr) (pe : Addr) (wa : Addr) : entryFrame m #[(.ref a), (.ref o), (.int (0 : Int32)), (.ref f)] 11 = mkF m 0 #[.val (.ref a), .val (.ref o), .val (.int (0 : Int32)), .val (.ref f), .unset, .unset, .unset, .unset, .unset, .unset, .unset] [] := by first | (simp [entryFrame, mkF, argsToLocals, Value.category]; done) | rfl
abbrev rm_bf4t : Room := ({ frames := 2, cells := 0, slots := 0, locals := 26 } : Room)
set_option maxRecDepth 65536 in
set_option maxHeartbeats 4000000 in
theorem met_bf4t (l : Launch) (Z : State) (a0 : Array Value) (hw : ∀ d ∈ tables_1, d.before a0 Z = true) (cK : ClassId) (a : Addr) (o : Addr) (f : Addr) (xl : Int64) (ra : Addr) (pe : Addr) (wa : Addr) (h0 : Heap) (n0 : Nat) (Z0 : n0 ≤ h0.size) (P0 : Exa Z h0 a "com/example/copse/copse/graph/TargetSearch") (P1 : Exa Z h0 o "com/example/copse/copse/graph/TargetSearchArcLimitReachedPinLaw") (P2 : Fld Z h0 o "com/example/copse/copse/graph/TargetSearchArcLimitReachedPinLaw" "degree" "I" (.int (4 : Int32))) (P3 : LamAt h0 f cK a) (P4 : n0 ≤ a) (P5 : n0 ≤ pe) (P6 : a ≠ ra) (P7 : a ≠ pe) (P8 : a ≠ wa) (P9 : a ≠ o) (P10 : a ≠ f) (P11 : ra ≠ pe) (P12 : ra ≠ wa) (P13 : ra ≠ o) (P14 : ra ≠ f) (P15 : pe ≠ wa) (P16 : pe ≠ o) (P17 : pe ≠ f) (P18 : wa ≠ o) (P19 : wa ≠ f) (P20 : o ≠ f) (P21 : Fld Z h0 a "com/example/copse/copse/graph/TargetSearch" "arcLimit" "J" (.long xl)) (P22 : Fld Z h0 a "com/example/copse/copse/graph/TargetSearch" "arcsLookedAt" "J" (.long (0 : Int64))) (P23 : Fld Z h0 a "com/example/copse/copse/graph/TargetSearch" "search" "I" (.int (1 : Int32))) (P24 : Fld Z h0 a "com/example/copse/copse/graph/TargetSearch" "unreached" "I" (.int (1 : Int32))) (P25 : Fld Z h0 a "com/example/copse/copse/graph/TargetSearch" "queued" "I" (.int (0 : Int32))) (P26 : Fld Z h0 a "com/example/copse/copse/graph/TargetSearch" "reachedIn" "[I" (.ref ra)) (P27 : Fld Z h0 a "com/example/copse/copse/graph/TargetSearch" "pending" "[I" (.ref pe)) (P28 : Fld Z h0 a "com/example/copse/copse/graph/TargetSearch" "wantedIn" "[I" (.ref wa)) (P29 : GA Z h0 ra .int 2 (fun i => .int (own_c2 (1 : Int32) (0 : Int32) i))) (P30 : GA Z h0 pe .int 2 (fun i => .int (own_c2 (0 : Int32) (0 : Int32) i))) (P31 : GA Z h0 wa .int 2 (fun i => .int (own_c2 (0 : Int32) (1 : Int32) i))) (P32 : (0 : Int64) < xl) :
  MetH l (⟨"com/example/copse/copse/graph/TargetSearch", "breadthFirst", "(Lcom/example/copse/copse/graph/SuccessorLists;ILjava/util/function/IntPredicate;)Z"⟩ : MethodName) prog_46_method_11_code 11 (some FieldType.boolean) [] rm_bf4t Z cK #[(.ref a), (.ref o), (.int (0 : Int32)), (.ref f)] h0 (Q_bf4t Z cK a o f xl ra pe wa h0 n0) rm_bf4t.cells rm_bf4t.slots := by
 refine own_bodyH pn13 ?_
 intro p e s m below meth c s₁ ct X0 e0 hLam hnamed
 obtain ⟨hx, hZ, hown, hby, hml, hret, hlk, hnm⟩ := ct
 have N0 := Fr.nil n0
 refine castGo (ef_bf4t m cK a o f xl ra pe wa) ?_
 show Gg s₁ m 0 []
 refine go_st (fun _ kq => XS.aloadN X0.here hx rfl (hb hby d12_0) rfl rfl kq) ?_
 show Gg s₁ m 1 [(.ref f)]
 refine go_st (fun _ kq => XS.iloadN X0.here hx rfl (hb hby d12_1) rfl kq) ?_
 show Gg s₁ m 2 [(.int (0 : Int32)), (.ref f)]
 refine go_callLam X0 hx hZ hml hown hLam (wd hw 88 rfl) (wd hw 89 rfl) (wd hw 90 rfl) (wd hw 83 rfl) (wd hw 92 rfl) (wd hw 1 rfl) (wd hw 91 rfl) (wd hw 93 rfl) (wd hw 2 rfl) own_lx1 own_ly1 (by decide) (by decide) own_fw own_cp own_f0 own_f1 own_f4 own_f5 own_f8 e0 P3 P0 (z := (0 : Int32)) (w := (0 : Int32)) (rest := []) (W := 0) (met_13 l Z a0 hw a wa h0 n0 Z0 P28 P31 P23) (fun v h L q => q.1) (by decide) (hb hby d12_2) rfl rfl rfl (lenOf pd4 rfl) pd4 (by show 2 * 0 + _ ≤ _; exact Nat.le_of_eq rfl) (by decide) (by decide) (by decide) (by decide) ?_
 intro T391 L391 X391 q391
 obtain ⟨-, M391, e391⟩ := q391
 have N391 := Fr.app N0 M391
 show Gg T391 m 7 [(.int (0 : Int32))]
 refine go_st (fun _ kq => XS.istore X391.here hx rfl (hb hby d12_7) rfl (l' := #[.val (.ref a), .val (.ref o), .val (.int (0 : Int32)), .val (.ref f), .val (.int (0 : Int32)), .unset, .unset, .unset, .unset, .unset, .unset]) rfl kq) ?_
 show Gg T391 m 9 []
 refine go_st (fun _ kq => XT.iconstV X391.here hx rfl (0 : Int32) (hb hby d12_9) (by decide) kq) ?_
 show Gg T391 m 10 [(.int (0 : Int32))]
 refine go_st (fun _ kq => XS.istore X391.here hx rfl (hb hby d12_10) rfl (l' := #[.val (.ref a), .val (.ref o), .val (.int (0 : Int32)), .val (.ref f), .val (.int (0 : Int32)), .val (.int (0 : Int32)), .unset, .unset, .unset, .unset, .unset]) rfl kq) ?_
 show Gg T391 m 12 []
 refine go_st (fun _ kq => XT.iconstV X391.here hx rfl (0 : Int32) (hb hby d12_12) (by decide) kq) ?_
 show Gg T391 m 13 [(.int (0 : Int32))]
 refine go_st (fun _ kq => XS.istore X391.here hx rfl (hb hby d12_13) rfl (l' := #[.val (.ref a), .val (.ref o), .val (.int (0 : Int32)), .val (.ref f), .val (.int (0 : Int32)), .val (.int (0 : Int32)), .val (.int (0 : Int32)), .unset, .unset, .unset, .unset]) rfl kq) ?_
 show Gg T391 m 15 []
 refine go_st (fun _ kq => XS.aloadN X391.here hx rfl (hb hby d12_15) rfl rfl kq) ?_
 show Gg T391 m 16 [(.ref a)]
 refine go_getF X391 hx hZ hown (host := "") (Or.inl (wd hw 24 rfl)) Via.refl e391 P27 (hb hby d12_16) rfl rfl ?_
 intro T392 X392 e392
 show Gg T392 m 19 [(.ref pe)]
 refine go_st (fun _ kq => XS.iload X392.here hx rfl (hb hby d12_19) rfl kq) ?_
 show Gg T392 m 21 [(.int (0 : Int32)), (.ref pe)]
 refine go_st (fun _ kq => XT.iincV X392.here hx rfl (1 : Int32) (hb hby d12_21) (by decide) rfl (l' := #[.val (.ref a), .val (.ref o), .val (.int (0 : Int32)), .val (.ref f), .val (.int (0 : Int32)), .val (.int (0 : Int32)), .val (.int (1 : Int32)), .unset, .unset, .unset, .unset]) rfl kq) ?_
 show Gg T392 m 24 [(.int (0 : Int32)), (.ref pe)]
 refine go_st (fun _ kq => XS.iloadN X392.here hx rfl (hb hby d12_24) rfl kq) ?_
 show Gg T392 m 25 [(.int (0 : Int32)), (.int (0 : Int32)), (.ref pe)]
 refine go_iast X392 hx hZ e392 P30 (hb hby d12_25) rfl rfl (by decide) ?_
 intro T393 h393 X393 e393 W393 G393
 have N393 := Fr.snoc X393 N391 P5
 have A393 : GA Z h393 pe .int 2 (fun i => .int (own_c2 (0 : Int32) (0 : Int32) i)) := (own_sti (by decide) (own_c20 (0 : Int32) (0 : Int32) (0 : Int32)) G393)
 show Gg T393 m 26 []
 refine go_st (fun _ kq => XS.iload X393.here hx rfl (hb hby d12_26) rfl kq) ?_
 show Gg T393 m 28 [(.int (0 : Int32))]
 refine go_st (fun _ kq => XS.ifNo X393.here hx rfl (hb hby d12_28) rfl (XT.i0_ne_f (by decide)) kq) ?_
 show Gg T393 m 31 []
 refine go_st (fun _ kq => XS.iload X393.here hx rfl (hb hby d12_31) rfl kq) ?_
 show Gg T393 m 33 [(.int (0 : Int32))]
 refine go_st (fun _ kq => XS.iload X393.here hx rfl (hb hby d12_33) rfl kq) ?_
 show Gg T393 m 35 [(.int (1 : Int32)), (.int (0 : Int32))]
 refine go_st (fun _ kq => XS.icmpNo X393.here hx rfl (hb hby d12_35) rfl (XT.ii_ge_f (by decide)) kq) ?_
 show Gg T393 m 38 []
 refine go_st (fun _ kq => XS.aloadN X393.here hx rfl (hb hby d12_38) rfl rfl kq) ?_
 show Gg T393 m 39 [(.ref a)]
 have c394 := Fld.other W393 P22 (Or.inl P7)
 refine go_getF X393 hx hZ hown (host := "") (Or.inl (wd hw 33 rfl)) Via.refl e393 c394 (hb hby d12_39) rfl rfl ?_
 intro T395 X395 e395
 show Gg T395 m 42 [(.long (0 : Int64))]
 refine go_st (fun _ kq => XS.aloadN X395.here hx rfl (hb hby d12_42) rfl rfl kq) ?_
 show Gg T395 m 43 [(.ref a), (.long (0 : Int64))]
 have c396 := Fld.other W393 P21 (Or.inl P7)
 refine go_getF X395 hx hZ hown (host := "") (Or.inl (wd hw 10 rfl)) Via.refl e395 c396 (hb hby d12_43) rfl rfl ?_
 intro T397 X397 e397
 show Gg T397 m 46 [(.long xl), (.long (0 : Int64))]
 refine go_st (fun _ kq => XT.lcmp X397.here hx rfl (hb hby d12_46) rfl kq) ?_
 show Gg T397 m 47 [(.int (XT.cmpL (0 : Int64) xl))]
 refine go_st (fun _ kq => XS.ifNo X397.here hx rfl (hb hby d12_47) rfl (XT.ll_ge_f P32) kq) ?_
 show Gg T397 m 50 []
 refine go_st (fun _ kq => XS.aloadN X397.here hx rfl (hb hby d12_50) rfl rfl kq) ?_
 show Gg T397 m 51 [(.ref a)]
 have c398 := Fld.other W393 P27 (Or.inl P7)
 refine go_getF X397 hx hZ hown (host := "") (Or.inl (wd hw 24 rfl)) Via.refl e397 c398 (hb hby d12_51) rfl rfl ?_
 intro T399 X399 e399
 show Gg T399 m 54 [(.ref pe)]
 refine go_st (fun _ kq => XS.iload X399.here hx rfl (hb hby d12_54) rfl kq) ?_
 show Gg T399 m 56 [(.int (0 : Int32)), (.ref pe)]
 refine go_st (fun _ kq => XT.iincV X399.here hx rfl (1 : Int32) (hb hby d12_56) (by decide) rfl (l' := #[.val (.ref a), .val (.ref o), .val (.int (0 : Int32)), .val (.ref f), .val (.int (0 : Int32)), .val (.int (1 : Int32)), .val (.int (1 : Int32)), .unset, .unset, .unset, .unset]) rfl kq) ?_
 show Gg T399 m 59 [(.int (0 : Int32)), (.ref pe)]
 refine go_iald X399 hx hZ e399 A393 (hb hby d12_59) rfl rfl (by decide) (.int (0 : Int32)) rfl ?_
 show Gg T399 m 60 [(.int (0 : Int32))]
 refine go_st (fun _ kq => XS.istore X399.here hx rfl (hb hby d12_60) rfl (l' := #[.val (.ref a), .val (.ref o), .val (.int (0 : Int32)), .val (.ref f), .val (.int (0 : Int32)), .val (.int (1 : Int32)), .val (.int (1 : Int32)), .val (.int (0 : Int32)), .unset, .unset, .unset]) rfl kq) ?_
 show Gg T399 m 62 []
 refine go_st (fun _ kq => XS.aloadN X399.here hx rfl (hb hby d12_62) rfl rfl kq) ?_
 show Gg T399 m 63 [(.ref o)]
 refine go_st (fun _ kq => XS.iload X399.here hx rfl (hb hby d12_63) rfl kq) ?_
 show Gg T399 m 65 [(.int (0 : Int32)), (.ref o)]
 have c401 := Fld.other W393 P2 (Or.inl (Ne.symm P16))
 have z402 : n0 ≤ h393.size := (Wr.size W393).symm ▸ Z0
 have c403 := Exa.wr W393 P1
 refine go_callF X399 hx hZ hml hown (wd hw 94 rfl) (wd hw 95 rfl) (wd hw 96 rfl) (wd hw 97 rfl) (wd hw 98 rfl) (wd hw 99 rfl) (wd hw 100 rfl) (wd hw 65 rfl) (wd hw 101 rfl) (wd hw 42 rfl) e399 c403 (argsL := [(.int (0 : Int32))]) (rest := []) (W := 0) (met_14 l Z a0 hw o (4 : Int32) h393 n0 z402 c401) (hb hby d12_65) rfl rfl rfl (lenOf pd0 rfl) (by show 2 * 0 + _ ≤ _; exact Nat.le_of_eq rfl) (by decide) (by decide) (by decide) (by decide) (by decide) ?_
 intro T400 v400 L400 X400 q400
 obtain ⟨rfl, M400, e400⟩ := q400
 have N400 := Fr.app N393 M400
 show Gg T400 m 70 [(.int (4 : Int32))]
 refine go_st (fun _ kq => XS.istore X400.here hx rfl (hb hby d12_70) rfl (l' := #[.val (.ref a), .val (.ref o), .val (.int (0 : Int32)), .val (.ref f), .val (.int (0 : Int32)), .val (.int (1 : Int32)), .val (.int (1 : Int32)), .val (.int (0 : Int32)), .val (.int (4 : Int32)), .unset, .unset]) rfl kq) ?_
 show Gg T400 m 72 []
 refine go_st (fun _ kq => XT.iconstV X400.here hx rfl (0 : Int32) (hb hby d12_72) (by decide) kq) ?_
 show Gg T400 m 73 [(.int (0 : Int32))]
 refine go_st (fun _ kq => XS.istore X400.here hx rfl (hb hby d12_73) rfl (l' := #[.val (.ref a), .val (.ref o), .val (.int (0 : Int32)), .val (.ref f), .val (.int (0 : Int32)), .val (.int (1 : Int32)), .val (.int (1 : Int32)), .val (.int (0 : Int32)), .val (.int (4 : Int32)), .val (.int (0 : Int32)), .unset]) rfl kq) ?_
 show Gg T400 m 75 []
 refine go_st (fun _ kq => XS.iload X400.here hx rfl (hb hby d12_75) rfl kq) ?_
 show Gg T400 m 77 [(.int (0 : Int32))]
 refine go_st (fun _ kq => XS.iload X400.here hx rfl (hb hby d12_77) rfl kq) ?_
 show Gg T400 m 79 [(.int (4 : Int32)), (.int (0 : Int32))]
 refine go_st (fun _ kq => XS.icmpNo X400.here hx rfl (hb hby d12_79) rfl (XT.ii_ge_f (by decide)) kq) ?_
 show Gg T400 m 82 []
 refine go_st (fun _ kq => XS.iload X400.here hx rfl (hb hby d12_82) rfl kq) ?_
 show Gg T400 m 84 [(.int (0 : Int32))]
 refine go_st (fun _ kq => XS.ifNo X400.here hx rfl (hb hby d12_84) rfl (XT.i0_ne_f (by decide)) kq) ?_
 show Gg T400 m 87 []
 refine go_st (fun _ kq => XS.aloadN X400.here hx rfl (hb hby d12_87) rfl rfl kq) ?_
 show Gg T400 m 88 [(.ref o)]
 refine go_st (fun _ kq => XS.iload X400.here hx rfl (hb hby d12_88) rfl kq) ?_
 show Gg T400 m 90 [(.int (0 : Int32)), (.ref o)]
 refine go_st (fun _ kq => XS.iload X400.here hx rfl (hb hby d12_90) rfl kq) ?_
 show Gg T400 m 92 [(.int (0 : Int32)), (.int (0 : Int32)), (.ref o)]
 refine go_st (fun _ kq => XT.iincV X400.here hx rfl (1 : Int32) (hb hby d12_92) (by decide) rfl (l' := #[.val (.ref a), .val (.ref o), .val (.int (0 : Int32)), .val (.ref f), .val (.int (0 : Int32)), .val (.int (1 : Int32)), .val (.int (1 : Int32)), .val (.int (0 : Int32)), .val (.int (4 : Int32)), .val (.int (1 : Int32)), .unset]) rfl kq) ?_
 show Gg T400 m 95 [(.int (0 : Int32)), (.int (0 : Int32)), (.ref o)]
 refine go_callF X400 hx hZ hml hown (wd hw 109 rfl) (wd hw 110 rfl) (wd hw 111 rfl) (wd hw 112 rfl) (wd hw 113 rfl) (wd hw 114 rfl) (wd hw 115 rfl) (wd hw 65 rfl) (wd hw 116 rfl) (wd hw 42 rfl) e400 c403 (argsL := [(.int (0 : Int32)), (.int (0 : Int32))]) (rest := []) (W := 0) (met_16 l Z a0 hw o (0 : Int32) (0 : Int32) h393 n0 z402 ) (hb hby d12_95) rfl rfl rfl (lenOf pd3 rfl) (by show 2 * 0 + _ ≤ _; exact Nat.le_of_eq rfl) (by decide) (by decide) (by decide) (by decide) (by decide) ?_
 intro T404 v404 L404 X404 q404
 obtain ⟨rfl, M404, e404⟩ := q404
 have N404 := Fr.app N400 M404
 show Gg T404 m 100 [(.int (0 : Int32))]
 refine go_st (fun _ kq => XS.istore X404.here hx rfl (hb hby d12_100) rfl (l' := #[.val (.ref a), .val (.ref o), .val (.int (0 : Int32)), .val (.ref f), .val (.int (0 : Int32)), .val (.int (1 : Int32)), .val (.int (1 : Int32)), .val (.int (0 : Int32)), .val (.int (4 : Int32)), .val (.int (1 : Int32)), .val (.int (0 : Int32))]) rfl kq) ?_
 show Gg T404 m 102 []
 refine go_st (fun _ kq => XS.aloadN X404.here hx rfl (hb hby d12_102) rfl rfl kq) ?_
 show Gg T404 m 103 [(.ref a)]
 have c405 := Fld.other W393 P26 (Or.inl P7)
 refine go_getF X404 hx hZ hown (host := "") (Or.inl (wd hw 18 rfl)) Via.refl e404 c405 (hb hby d12_103) rfl rfl ?_
 intro T406 X406 e406
 show Gg T406 m 106 [(.ref ra)]
 refine go_st (fun _ kq => XS.iload X406.here hx rfl (hb hby d12_106) rfl kq) ?_
 show Gg T406 m 108 [(.int (0 : Int32)), (.ref ra)]
 have c407 := P29.other W393 P11
 refine go_iald X406 hx hZ e406 c407 (hb hby d12_108) rfl rfl (by decide) (.int (1 : Int32)) rfl ?_
 show Gg T406 m 109 [(.int (1 : Int32))]
 refine go_st (fun _ kq => XS.aloadN X406.here hx rfl (hb hby d12_109) rfl rfl kq) ?_
 show Gg T406 m 110 [(.ref a), (.int (1 : Int32))]
 have c408 := Fld.other W393 P23 (Or.inl P7)
 refine go_getF X406 hx hZ hown (host := "") (Or.inl (wd hw 75 rfl)) Via.refl e406 c408 (hb hby d12_110) rfl rfl ?_
 intro T409 X409 e409
 show Gg T409 m 113 [(.int (1 : Int32)), (.int (1 : Int32))]
 refine go_st (fun _ kq => XS.icmpYes X409.here hx rfl (pc0 := 113) (pc' := 158) rfl (hb hby d12_113) rfl (XT.ii_eq_t (by decide)) (by decide) (by decide) kq) ?_
 show Gg T409 m 158 []
 refine go_st (fun _ kq => XS.goto X409.here hx rfl (pc0 := 158) (pc' := 75) rfl (hb hby d12_158) (by decide) (by decide) kq) ?_
 show Gg T409 m 75 []
 refine go_st (fun _ kq => XS.iload X409.here hx rfl (hb hby d12_75) rfl kq) ?_
 show Gg T409 m 77 [(.int (1 : Int32))]
 refine go_st (fun _ kq => XS.iload X409.here hx rfl (hb hby d12_77) rfl kq) ?_
 show Gg T409 m 79 [(.int (4 : Int32)), (.int (1 : Int32))]
 refine go_st (fun _ kq => XS.icmpNo X409.here hx rfl (hb hby d12_79) rfl (XT.ii_ge_f (by decide)) kq) ?_
 show Gg T409 m 82 []
 refine go_st (fun _ kq => XS.iload X409.here hx rfl (hb hby d12_82) rfl kq) ?_
 show Gg T409 m 84 [(.int (0 : Int32))]
 refine go_st (fun _ kq => XS.ifNo X409.here hx rfl (hb hby d12_84) rfl (XT.i0_ne_f (by decide)) kq) ?_
 show Gg T409 m 87 []
 refine go_st (fun _ kq => XS.aloadN X409.here hx rfl (hb hby d12_87) rfl rfl kq) ?_
 show Gg T409 m 88 [(.ref o)]
 refine go_st (fun _ kq => XS.iload X409.here hx rfl (hb hby d12_88) rfl kq) ?_
 show Gg T409 m 90 [(.int (0 : Int32)), (.ref o)]
 refine go_st (fun _ kq => XS.iload X409.here hx rfl (hb hby d12_90) rfl kq) ?_
 show Gg T409 m 92 [(.int (1 : Int32)), (.int (0 : Int32)), (.ref o)]
 refine go_st (fun _ kq => XT.iincV X409.here hx rfl (1 : Int32) (hb hby d12_92) (by decide) rfl (l' := #[.val (.ref a), .val (.ref o), .val (.int (0 : Int32)), .val (.ref f), .val (.int (0 : Int32)), .val (.int (1 : Int32)), .val (.int (1 : Int32)), .val (.int (0 : Int32)), .val (.int (4 : Int32)), .val (.int (2 : Int32)), .val (.int (0 : Int32))]) rfl kq) ?_
 show Gg T409 m 95 [(.int (1 : Int32)), (.int (0 : Int32)), (.ref o)]
 refine go_callF X409 hx hZ hml hown (wd hw 109 rfl) (wd hw 110 rfl) (wd hw 111 rfl) (wd hw 112 rfl) (wd hw 113 rfl) (wd hw 114 rfl) (wd hw 115 rfl) (wd hw 65 rfl) (wd hw 116 rfl) (wd hw 42 rfl) e409 c403 (argsL := [(.int (0 : Int32)), (.int (1 : Int32))]) (rest := []) (W := 0) (met_16 l Z a0 hw o (0 : Int32) (1 : Int32) h393 n0 z402 ) (hb hby d12_95) rfl rfl rfl (lenOf pd3 rfl) (by show 2 * 0 + _ ≤ _; exact Nat.le_of_eq rfl) (by decide) (by decide) (by decide) (by decide) (by decide) ?_
 intro T410 v410 L410 X410 q410
 obtain ⟨rfl, M410, e410⟩ := q410
 have N410 := Fr.app N404 M410
 show Gg T410 m 100 [(.int (0 : Int32))]
 refine go_st (fun _ kq => XS.istore X410.here hx rfl (hb hby d12_100) rfl (l' := #[.val (.ref a), .val (.ref o), .val (.int (0 : Int32)), .val (.ref f), .val (.int (0 : Int32)), .val (.int (1 : Int32)), .val (.int (1 : Int32)), .val (.int (0 : Int32)), .val (.int (4 : Int32)), .val (.int (2 : Int32)), .val (.int (0 : Int32))]) rfl kq) ?_
 show Gg T410 m 102 []
 refine go_st (fun _ kq => XS.aloadN X410.here hx rfl (hb hby d12_102) rfl rfl kq) ?_
 show Gg T410 m 103 [(.ref a)]
 refine go_getF X410 hx hZ hown (host := "") (Or.inl (wd hw 18 rfl)) Via.refl e410 c405 (hb hby d12_103) rfl rfl ?_
 intro T411 X411 e411
 show Gg T411 m 106 [(.ref ra)]
 refine go_st (fun _ kq => XS.iload X411.here hx rfl (hb hby d12_106) rfl kq) ?_
 show Gg T411 m 108 [(.int (0 : Int32)), (.ref ra)]
 refine go_iald X411 hx hZ e411 c407 (hb hby d12_108) rfl rfl (by decide) (.int (1 : Int32)) rfl ?_
 show Gg T411 m 109 [(.int (1 : Int32))]
 refine go_st (fun _ kq => XS.aloadN X411.here hx rfl (hb hby d12_109) rfl rfl kq) ?_
 show Gg T411 m 110 [(.ref a), (.int (1 : Int32))]
 refine go_getF X411 hx hZ hown (host := "") (Or.inl (wd hw 75 rfl)) Via.refl e411 c408 (hb hby d12_110) rfl rfl ?_
 intro T412 X412 e412
 show Gg T412 m 113 [(.int (1 : Int32)), (.int (1 : Int32))]
 refine go_st (fun _ kq => XS.icmpYes X412.here hx rfl (pc0 := 113) (pc' := 158) rfl (hb hby d12_113) rfl (XT.ii_eq_t (by decide)) (by decide) (by decide) kq) ?_
 show Gg T412 m 158 []
 refine go_st (fun _ kq => XS.goto X412.here hx rfl (pc0 := 158) (pc' := 75) rfl (hb hby d12_158) (by decide) (by decide) kq) ?_
 show Gg T412 m 75 []
 refine go_st (fun _ kq => XS.iload X412.here hx rfl (hb hby d12_75) rfl kq) ?_
 show Gg T412 m 77 [(.int (2 : Int32))]
 refine go_st (fun _ kq => XS.iload X412.here hx rfl (hb hby d12_77) rfl kq) ?_
 show Gg T412 m 79 [(.int (4 : Int32)), (.int (2 : Int32))]
 refine go_st (fun _ kq => XS.icmpNo X412.here hx rfl (hb hby d12_79) rfl (XT.ii_ge_f (by decide)) kq) ?_
 show Gg T412 m 82 []
 refine go_st (fun _ kq => XS.iload X412.here hx rfl (hb hby d12_82) rfl kq) ?_
 show Gg T412 m 84 [(.int (0 : Int32))]
 refine go_st (fun _ kq => XS.ifNo X412.here hx rfl (hb hby d12_84) rfl (XT.i0_ne_f (by decide)) kq) ?_
 show Gg T412 m 87 []
 refine go_st (fun _ kq => XS.aloadN X412.here hx rfl (hb hby d12_87) rfl rfl kq) ?_
 show Gg T412 m 88 [(.ref o)]
 refine go_st (fun _ kq => XS.iload X412.here hx rfl (hb hby d12_88) rfl kq) ?_
 show Gg T412 m 90 [(.int (0 : Int32)), (.ref o)]
 refine go_st (fun _ kq => XS.iload X412.here hx rfl (hb hby d12_90) rfl kq) ?_
 show Gg T412 m 92 [(.int (2 : Int32)), (.int (0 : Int32)), (.ref o)]
 refine go_st (fun _ kq => XT.iincV X412.here hx rfl (1 : Int32) (hb hby d12_92) (by decide) rfl (l' := #[.val (.ref a), .val (.ref o), .val (.int (0 : Int32)), .val (.ref f), .val (.int (0 : Int32)), .val (.int (1 : Int32)), .val (.int (1 : Int32)), .val (.int (0 : Int32)), .val (.int (4 : Int32)), .val (.int (3 : Int32)), .val (.int (0 : Int32))]) rfl kq) ?_
 show Gg T412 m 95 [(.int (2 : Int32)), (.int (0 : Int32)), (.ref o)]
 refine go_callF X412 hx hZ hml hown (wd hw 109 rfl) (wd hw 110 rfl) (wd hw 111 rfl) (wd hw 112 rfl) (wd hw 113 rfl) (wd hw 114 rfl) (wd hw 115 rfl) (wd hw 65 rfl) (wd hw 116 rfl) (wd hw 42 rfl) e412 c403 (argsL := [(.int (0 : Int32)), (.int (2 : Int32))]) (rest := []) (W := 0) (met_16 l Z a0 hw o (0 : Int32) (2 : Int32) h393 n0 z402 ) (hb hby d12_95) rfl rfl rfl (lenOf pd3 rfl) (by show 2 * 0 + _ ≤ _; exact Nat.le_of_eq rfl) (by decide) (by decide) (by decide) (by decide) (by decide) ?_
 intro T413 v413 L413 X413 q413
 obtain ⟨rfl, M413, e413⟩ := q413
 have N413 := Fr.app N410 M413
 show Gg T413 m 100 [(.int (0 : Int32))]
 refine go_st (fun _ kq => XS.istore X413.here hx rfl (hb hby d12_100) rfl (l' := #[.val (.ref a), .val (.ref o), .val (.int (0 : Int32)), .val (.ref f), .val (.int (0 : Int32)), .val (.int (1 : Int32)), .val (.int (1 : Int32)), .val (.int (0 : Int32)), .val (.int (4 : Int32)), .val (.int (3 : Int32)), .val (.int (0 : Int32))]) rfl kq) ?_
 show Gg T413 m 102 []
 refine go_st (fun _ kq => XS.aloadN X413.here hx rfl (hb hby d12_102) rfl rfl kq) ?_
 show Gg T413 m 103 [(.ref a)]
 refine go_getF X413 hx hZ hown (host := "") (Or.inl (wd hw 18 rfl)) Via.refl e413 c405 (hb hby d12_103) rfl rfl ?_
 intro T414 X414 e414
 show Gg T414 m 106 [(.ref ra)]
 refine go_st (fun _ kq => XS.iload X414.here hx rfl (hb hby d12_106) rfl kq) ?_
 show Gg T414 m 108 [(.int (0 : Int32)), (.ref ra)]
 refine go_iald X414 hx hZ e414 c407 (hb hby d12_108) rfl rfl (by decide) (.int (1 : Int32)) rfl ?_
 show Gg T414 m 109 [(.int (1 : Int32))]
 refine go_st (fun _ kq => XS.aloadN X414.here hx rfl (hb hby d12_109) rfl rfl kq) ?_
 show Gg T414 m 110 [(.ref a), (.int (1 : Int32))]
 refine go_getF X414 hx hZ hown (host := "") (Or.inl (wd hw 75 rfl)) Via.refl e414 c408 (hb hby d12_110) rfl rfl ?_
 intro T415 X415 e415
 show Gg T415 m 113 [(.int (1 : Int32)), (.int (1 : Int32))]
 refine go_st (fun _ kq => XS.icmpYes X415.here hx rfl (pc0 := 113) (pc' := 158) rfl (hb hby d12_113) rfl (XT.ii_eq_t (by decide)) (by decide) (by decide) kq) ?_
 show Gg T415 m 158 []
 refine go_st (fun _ kq => XS.goto X415.here hx rfl (pc0 := 158) (pc' := 75) rfl (hb hby d12_158) (by decide) (by decide) kq) ?_
 show Gg T415 m 75 []
 refine go_st (fun _ kq => XS.iload X415.here hx rfl (hb hby d12_75) rfl kq) ?_
 show Gg T415 m 77 [(.int (3 : Int32))]
 refine go_st (fun _ kq => XS.iload X415.here hx rfl (hb hby d12_77) rfl kq) ?_
 show Gg T415 m 79 [(.int (4 : Int32)), (.int (3 : Int32))]
 refine go_st (fun _ kq => XS.icmpNo X415.here hx rfl (hb hby d12_79) rfl (XT.ii_ge_f (by decide)) kq) ?_
 show Gg T415 m 82 []
 refine go_st (fun _ kq => XS.iload X415.here hx rfl (hb hby d12_82) rfl kq) ?_
 show Gg T415 m 84 [(.int (0 : Int32))]
 refine go_st (fun _ kq => XS.ifNo X415.here hx rfl (hb hby d12_84) rfl (XT.i0_ne_f (by decide)) kq) ?_
 show Gg T415 m 87 []
 refine go_st (fun _ kq => XS.aloadN X415.here hx rfl (hb hby d12_87) rfl rfl kq) ?_
 show Gg T415 m 88 [(.ref o)]
 refine go_st (fun _ kq => XS.iload X415.here hx rfl (hb hby d12_88) rfl kq) ?_
 show Gg T415 m 90 [(.int (0 : Int32)), (.ref o)]
 refine go_st (fun _ kq => XS.iload X415.here hx rfl (hb hby d12_90) rfl kq) ?_
 show Gg T415 m 92 [(.int (3 : Int32)), (.int (0 : Int32)), (.ref o)]
 refine go_st (fun _ kq => XT.iincV X415.here hx rfl (1 : Int32) (hb hby d12_92) (by decide) rfl (l' := #[.val (.ref a), .val (.ref o), .val (.int (0 : Int32)), .val (.ref f), .val (.int (0 : Int32)), .val (.int (1 : Int32)), .val (.int (1 : Int32)), .val (.int (0 : Int32)), .val (.int (4 : Int32)), .val (.int (4 : Int32)), .val (.int (0 : Int32))]) rfl kq) ?_
 show Gg T415 m 95 [(.int (3 : Int32)), (.int (0 : Int32)), (.ref o)]
 refine go_callF X415 hx hZ hml hown (wd hw 109 rfl) (wd hw 110 rfl) (wd hw 111 rfl) (wd hw 112 rfl) (wd hw 113 rfl) (wd hw 114 rfl) (wd hw 115 rfl) (wd hw 65 rfl) (wd hw 116 rfl) (wd hw 42 rfl) e415 c403 (argsL := [(.int (0 : Int32)), (.int (3 : Int32))]) (rest := []) (W := 0) (met_16 l Z a0 hw o (0 : Int32) (3 : Int32) h393 n0 z402 ) (hb hby d12_95) rfl rfl rfl (lenOf pd3 rfl) (by show 2 * 0 + _ ≤ _; exact Nat.le_of_eq rfl) (by decide) (by decide) (by decide) (by decide) (by decide) ?_
 intro T416 v416 L416 X416 q416
 obtain ⟨rfl, M416, e416⟩ := q416
 have N416 := Fr.app N413 M416
 show Gg T416 m 100 [(.int (0 : Int32))]
 refine go_st (fun _ kq => XS.istore X416.here hx rfl (hb hby d12_100) rfl (l' := #[.val (.ref a), .val (.ref o), .val (.int (0 : Int32)), .val (.ref f), .val (.int (0 : Int32)), .val (.int (1 : Int32)), .val (.int (1 : Int32)), .val (.int (0 : Int32)), .val (.int (4 : Int32)), .val (.int (4 : Int32)), .val (.int (0 : Int32))]) rfl kq) ?_
 show Gg T416 m 102 []
 refine go_st (fun _ kq => XS.aloadN X416.here hx rfl (hb hby d12_102) rfl rfl kq) ?_
 show Gg T416 m 103 [(.ref a)]
 refine go_getF X416 hx hZ hown (host := "") (Or.inl (wd hw 18 rfl)) Via.refl e416 c405 (hb hby d12_103) rfl rfl ?_
 intro T417 X417 e417
 show Gg T417 m 106 [(.ref ra)]
 refine go_st (fun _ kq => XS.iload X417.here hx rfl (hb hby d12_106) rfl kq) ?_
 show Gg T417 m 108 [(.int (0 : Int32)), (.ref ra)]
 refine go_iald X417 hx hZ e417 c407 (hb hby d12_108) rfl rfl (by decide) (.int (1 : Int32)) rfl ?_
 show Gg T417 m 109 [(.int (1 : Int32))]
 refine go_st (fun _ kq => XS.aloadN X417.here hx rfl (hb hby d12_109) rfl rfl kq) ?_
 show Gg T417 m 110 [(.ref a), (.int (1 : Int32))]
 refine go_getF X417 hx hZ hown (host := "") (Or.inl (wd hw 75 rfl)) Via.refl e417 c408 (hb hby d12_110) rfl rfl ?_
 intro T418 X418 e418
 show Gg T418 m 113 [(.int (1 : Int32)), (.int (1 : Int32))]
 refine go_st (fun _ kq => XS.icmpYes X418.here hx rfl (pc0 := 113) (pc' := 158) rfl (hb hby d12_113) rfl (XT.ii_eq_t (by decide)) (by decide) (by decide) kq) ?_
 show Gg T418 m 158 []
 refine go_st (fun _ kq => XS.goto X418.here hx rfl (pc0 := 158) (pc' := 75) rfl (hb hby d12_158) (by decide) (by decide) kq) ?_
 show Gg T418 m 75 []
 refine go_st (fun _ kq => XS.iload X418.here hx rfl (hb hby d12_75) rfl kq) ?_
 show Gg T418 m 77 [(.int (4 : Int32))]
 refine go_st (fun _ kq => XS.iload X418.here hx rfl (hb hby d12_77) rfl kq) ?_
 show Gg T418 m 79 [(.int (4 : Int32)), (.int (4 : Int32))]
 refine go_st (fun _ kq => XS.icmpYes X418.here hx rfl (pc0 := 79) (pc' := 161) rfl (hb hby d12_79) rfl (XT.ii_ge_t (by decide)) (by decide) (by decide) kq) ?_
 show Gg T418 m 161 []
 refine go_st (fun _ kq => XS.aloadN X418.here hx rfl (hb hby d12_161) rfl rfl kq) ?_
 show Gg T418 m 162 [(.ref a)]
 refine go_st (fun _ kq => XS.dup X418.here hx rfl (hb hby d12_162) rfl rfl kq) ?_
 show Gg T418 m 163 [(.ref a), (.ref a)]
 refine go_getF X418 hx hZ hown (host := "") (Or.inl (wd hw 33 rfl)) Via.refl e418 c394 (hb hby d12_163) rfl rfl ?_
 intro T419 X419 e419
 show Gg T419 m 166 [(.long (0 : Int64)), (.ref a)]
 refine go_st (fun _ kq => XS.iload X419.here hx rfl (hb hby d12_166) rfl kq) ?_
 show Gg T419 m 168 [(.int (4 : Int32)), (.long (0 : Int64)), (.ref a)]
 refine go_st (fun _ kq => XT.i2l X419.here hx rfl (hb hby d12_168) rfl kq) ?_
 rw [show (4 : Int32).toInt64 = (4 : Int64) from by decide +kernel]
 show Gg T419 m 169 [(.long (4 : Int64)), (.long (0 : Int64)), (.ref a)]
 refine go_st (fun _ kq => XT.ladd X419.here hx rfl (hb hby d12_169) rfl kq) ?_
 rw [show ((0 : Int64) + (4 : Int64)) = (4 : Int64) from by decide +kernel]
 show Gg T419 m 170 [(.long (4 : Int64)), (.ref a)]
 have c420 := Exa.wr W393 P0
 refine go_putF X419 hx hZ hown (host := "") (Or.inl (wd hw 33 rfl)) Via.refl e419 c394 c420 (Or.inl (wd hw 34 rfl)) (wd hw 1 rfl) (ty := .long) (by decide) rfl rfl (hb hby d12_170) rfl rfl ?_
 intro T421 h421 X421 e421 W421
 have N421 := Fr.snoc X421 N416 P4
 have F421 : Fld Z h421 a "com/example/copse/copse/graph/TargetSearch" "arcsLookedAt" "J" (.long (4 : Int64)) := Fld.same W421 c394
 show Gg T421 m 173 []
 refine go_st (fun _ kq => XS.goto X421.here hx rfl (pc0 := 173) (pc' := 26) rfl (hb hby d12_173) (by decide) (by decide) kq) ?_
 show Gg T421 m 26 []
 refine go_st (fun _ kq => XS.iload X421.here hx rfl (hb hby d12_26) rfl kq) ?_
 show Gg T421 m 28 [(.int (0 : Int32))]
 refine go_st (fun _ kq => XS.ifNo X421.here hx rfl (hb hby d12_28) rfl (XT.i0_ne_f (by decide)) kq) ?_
 show Gg T421 m 31 []
 refine go_st (fun _ kq => XS.iload X421.here hx rfl (hb hby d12_31) rfl kq) ?_
 show Gg T421 m 33 [(.int (1 : Int32))]
 refine go_st (fun _ kq => XS.iload X421.here hx rfl (hb hby d12_33) rfl kq) ?_
 show Gg T421 m 35 [(.int (1 : Int32)), (.int (1 : Int32))]
 refine go_st (fun _ kq => XS.icmpYes X421.here hx rfl (pc0 := 35) (pc' := 176) rfl (hb hby d12_35) rfl (XT.ii_ge_t (by decide)) (by decide) (by decide) kq) ?_
 show Gg T421 m 176 []
 refine go_st (fun _ kq => XS.aloadN X421.here hx rfl (hb hby d12_176) rfl rfl kq) ?_
 show Gg T421 m 177 [(.ref a)]
 refine go_st (fun _ kq => XS.iload X421.here hx rfl (hb hby d12_177) rfl kq) ?_
 show Gg T421 m 179 [(.int (1 : Int32)), (.ref a)]
 have c422 := Fld.other W393 P25 (Or.inl P7)
 have c423 := Fld.other W421 c422 (Or.inr (slot_ne (a0 := a0) (t := .int) (t' := .long) (Or.inl (wd hw 103 rfl)) (Or.inl (wd hw 34 rfl)) (by decide) (by decide) (by decide)))
 have c424 := Exa.wr W421 c420
 refine go_putF X421 hx hZ hown (host := "") (Or.inl (wd hw 102 rfl)) Via.refl e421 c423 c424 (Or.inl (wd hw 103 rfl)) (wd hw 1 rfl) (ty := .int) (by decide) rfl rfl (hb hby d12_179) rfl rfl ?_
 intro T425 h425 X425 e425 W425
 have N425 := Fr.snoc X425 N421 P4
 have F425 : Fld Z h425 a "com/example/copse/copse/graph/TargetSearch" "queued" "I" (.int (1 : Int32)) := Fld.same W425 c423
 show Gg T425 m 182 []
 refine go_st (fun _ kq => XS.iload X425.here hx rfl (hb hby d12_182) rfl kq) ?_
 show Gg T425 m 184 [(.int (0 : Int32))]
 have c426 := Fld.other W421 c396 (Or.inr (slot_ne (a0 := a0) (t := .long) (t' := .long) (Or.inl (wd hw 11 rfl)) (Or.inl (wd hw 34 rfl)) (by decide) (by decide) (by decide)))
 have c427 := Fld.other W425 c426 (Or.inr (slot_ne (a0 := a0) (t := .long) (t' := .int) (Or.inl (wd hw 11 rfl)) (Or.inl (wd hw 103 rfl)) (by decide) (by decide) (by decide)))
 have c428 := Fld.other W425 F421 (Or.inr (slot_ne (a0 := a0) (t := .long) (t' := .int) (Or.inl (wd hw 34 rfl)) (Or.inl (wd hw 103 rfl)) (by decide) (by decide) (by decide)))
 have c429 := Fld.other W421 c408 (Or.inr (slot_ne (a0 := a0) (t := .int) (t' := .long) (Or.inl (wd hw 76 rfl)) (Or.inl (wd hw 34 rfl)) (by decide) (by decide) (by decide)))
 have c430 := Fld.other W425 c429 (Or.inr (slot_ne (a0 := a0) (t := .int) (t' := .int) (Or.inl (wd hw 76 rfl)) (Or.inl (wd hw 103 rfl)) (by decide) (by decide) (by decide)))
 have c431 := Fld.other W393 P24 (Or.inl P7)
 have c432 := Fld.other W421 c431 (Or.inr (slot_ne (a0 := a0) (t := .int) (t' := .long) (Or.inl (wd hw 79 rfl)) (Or.inl (wd hw 34 rfl)) (by decide) (by decide) (by decide)))
 have c433 := Fld.other W425 c432 (Or.inr (slot_ne (a0 := a0) (t := .int) (t' := .int) (Or.inl (wd hw 79 rfl)) (Or.inl (wd hw 103 rfl)) (by decide) (by decide) (by decide)))
 have c434 := Fld.other W421 c405 (Or.inr (slot_ne (a0 := a0) (t := (.array .int)) (t' := .long) (Or.inr (wd hw 19 rfl)) (Or.inl (wd hw 34 rfl)) (by decide) (by decide) (by decide)))
 have c435 := Fld.other W425 c434 (Or.inr (slot_ne (a0 := a0) (t := (.array .int)) (t' := .int) (Or.inr (wd hw 19 rfl)) (Or.inl (wd hw 103 rfl)) (by decide) (by decide) (by decide)))
 have c436 := Fld.other W421 c398 (Or.inr (slot_ne (a0 := a0) (t := (.array .int)) (t' := .long) (Or.inr (wd hw 25 rfl)) (Or.inl (wd hw 34 rfl)) (by decide) (by decide) (by decide)))
 have c437 := Fld.other W425 c436 (Or.inr (slot_ne (a0 := a0) (t := (.array .int)) (t' := .int) (Or.inr (wd hw 25 rfl)) (Or.inl (wd hw 103 rfl)) (by decide) (by decide) (by decide)))
 have c438 := Fld.other W393 P28 (Or.inl P7)
 have c439 := Fld.other W421 c438 (Or.inr (slot_ne (a0 := a0) (t := (.array .int)) (t' := .long) (Or.inr (wd hw 27 rfl)) (Or.inl (wd hw 34 rfl)) (by decide) (by decide) (by decide)))
 have c440 := Fld.other W425 c439 (Or.inr (slot_ne (a0 := a0) (t := (.array .int)) (t' := .int) (Or.inr (wd hw 27 rfl)) (Or.inl (wd hw 103 rfl)) (by decide) (by decide) (by decide)))
 exact go_retB (w := (0 : Int32)) X425 hx hlk hret (hb hby d12_184) (by decide) (by decide) (by decide) (by rw [e425]; exact ⟨rfl, N425, (Keep.wr (Keep.wr (Keep.wr (Keep.refl h0 [a, pe]) W393 (Or.inl (by simp))) W421 (Or.inl (by simp))) W425 (Or.inl (by simp))), c427, c428, c430, c433, F425, c435, c437, c440⟩)
def Q_bf5t (Z : State) (cK : ClassId) (a : Addr) (o : Addr) (f : Addr) (xl : Int64) (ra : Addr) (pe : Addr) (wa : Addr) (h0 : Heap) (n0 : Nat) (v : Option Value) (h : Heap) (L : List Loc) : Prop := v = some (.int (0 : Int32)) ∧ Fr n0 L ∧ Keep h0 h [a, pe] ∧ Fld Z h a "com/example/copse/copse/graph/TargetSearch" "arcLimit" "J" (.long xl) ∧ Fld Z h a "com/example/copse/copse/graph/TargetSearch" "arcsLookedAt" "J" (.long (5 : Int64)) ∧ Fld Z h a "com/example/copse/copse/graph/TargetSearch" "search" "I" (.int (1 : Int32)) ∧ Fld Z h a "com/example/copse/copse/graph/TargetSearch" "unreached" "I" (.int (1 : Int32)) ∧ Fld Z h a "com/example/copse/copse/graph/TargetSearch" "queued" "I" (.int (1 : Int32)) ∧ Fld Z h a "com/example/copse/copse/graph/TargetSearch" "reachedIn" "[I" (.ref ra) ∧ Fld Z h a "com/example/copse/copse/graph/TargetSearch" "pending" "[I" (.ref pe) ∧ Fld Z h a "com/example/copse/copse/graph/TargetSearch" "wantedIn" "[I" (.ref wa)
theorem ef_bf5t (m : MethodId) (cK : ClassId) (a : Addr) (o : Addr) (f : Addr) (xl : Int64) (ra : Addr) (pe : Addr) (wa : Addr) : entryFrame m #[(.ref a), (.ref o), (.int (0 : Int32)), (.ref f)] 11 = mkF m 0 #[.val (.ref a), .val (.ref o), .val (.int (0 : Int32)), .val (.ref f), .unset, .unset, .unset, .unset, .unset, .unset, .unset] [] := by first | (simp [entryFrame, mkF, argsToLocals, Value.category]; done) | rfl
abbrev rm_bf5t : Room := ({ frames := 2, cells := 0, slots := 0, locals := 26 } : Room)
set_option maxRecDepth 65536 in
set_option maxHeartbeats 4000000 in
theorem met_bf5t (l : Launch) (Z : State) (a0 : Array Value) (hw : ∀ d ∈ tables_1, d.before a0 Z = true) (cK : ClassId) (a : Addr) (o : Addr) (f : Addr) (xl : Int64) (ra : Addr) (pe : Addr) (wa : Addr) (h0 : Heap) (n0 : Nat) (Z0 : n0 ≤ h0.size) (P0 : Exa Z h0 a "com/example/copse/copse/graph/TargetSearch") (P1 : Exa Z h0 o "com/example/copse/copse/graph/TargetSearchArcLimitReachedPinLaw") (P2 : Fld Z h0 o "com/example/copse/copse/graph/TargetSearchArcLimitReachedPinLaw" "degree" "I" (.int (5 : Int32))) (P3 : LamAt h0 f cK a) (P4 : n0 ≤ a) (P5 : n0 ≤ pe) (P6 : a ≠ ra) (P7 : a ≠ pe) (P8 : a ≠ wa) (P9 : a ≠ o) (P10 : a ≠ f) (P11 : ra ≠ pe) (P12 : ra ≠ wa) (P13 : ra ≠ o) (P14 : ra ≠ f) (P15 : pe ≠ wa) (P16 : pe ≠ o) (P17 : pe ≠ f) (P18 : wa ≠ o) (P19 : wa ≠ f) (P20 : o ≠ f) (P21 : Fld Z h0 a "com/example/copse/copse/graph/TargetSearch" "arcLimit" "J" (.long xl)) (P22 : Fld Z h0 a "com/example/copse/copse/graph/TargetSearch" "arcsLookedAt" "J" (.long (0 : Int64))) (P23 : Fld Z h0 a "com/example/copse/copse/graph/TargetSearch" "search" "I" (.int (1 : Int32))) (P24 : Fld Z h0 a "com/example/copse/copse/graph/TargetSearch" "unreached" "I" (.int (1 : Int32))) (P25 : Fld Z h0 a "com/example/copse/copse/graph/TargetSearch" "queued" "I" (.int (0 : Int32))) (P26 : Fld Z h0 a "com/example/copse/copse/graph/TargetSearch" "reachedIn" "[I" (.ref ra)) (P27 : Fld Z h0 a "com/example/copse/copse/graph/TargetSearch" "pending" "[I" (.ref pe)) (P28 : Fld Z h0 a "com/example/copse/copse/graph/TargetSearch" "wantedIn" "[I" (.ref wa)) (P29 : GA Z h0 ra .int 2 (fun i => .int (own_c2 (1 : Int32) (0 : Int32) i))) (P30 : GA Z h0 pe .int 2 (fun i => .int (own_c2 (0 : Int32) (0 : Int32) i))) (P31 : GA Z h0 wa .int 2 (fun i => .int (own_c2 (0 : Int32) (1 : Int32) i))) (P32 : (0 : Int64) < xl) :
  MetH l (⟨"com/example/copse/copse/graph/TargetSearch", "breadthFirst", "(Lcom/example/copse/copse/graph/SuccessorLists;ILjava/util/function/IntPredicate;)Z"⟩ : MethodName) prog_46_method_11_code 11 (some FieldType.boolean) [] rm_bf5t Z cK #[(.ref a), (.ref o), (.int (0 : Int32)), (.ref f)] h0 (Q_bf5t Z cK a o f xl ra pe wa h0 n0) rm_bf5t.cells rm_bf5t.slots := by
 refine own_bodyH pn13 ?_
 intro p e s m below meth c s₁ ct X0 e0 hLam hnamed
 obtain ⟨hx, hZ, hown, hby, hml, hret, hlk, hnm⟩ := ct
 have N0 := Fr.nil n0
 refine castGo (ef_bf5t m cK a o f xl ra pe wa) ?_
 show Gg s₁ m 0 []
 refine go_st (fun _ kq => XS.aloadN X0.here hx rfl (hb hby d12_0) rfl rfl kq) ?_
 show Gg s₁ m 1 [(.ref f)]
 refine go_st (fun _ kq => XS.iloadN X0.here hx rfl (hb hby d12_1) rfl kq) ?_
 show Gg s₁ m 2 [(.int (0 : Int32)), (.ref f)]
 refine go_callLam X0 hx hZ hml hown hLam (wd hw 88 rfl) (wd hw 89 rfl) (wd hw 90 rfl) (wd hw 83 rfl) (wd hw 92 rfl) (wd hw 1 rfl) (wd hw 91 rfl) (wd hw 93 rfl) (wd hw 2 rfl) own_lx1 own_ly1 (by decide) (by decide) own_fw own_cp own_f0 own_f1 own_f4 own_f5 own_f8 e0 P3 P0 (z := (0 : Int32)) (w := (0 : Int32)) (rest := []) (W := 0) (met_13 l Z a0 hw a wa h0 n0 Z0 P28 P31 P23) (fun v h L q => q.1) (by decide) (hb hby d12_2) rfl rfl rfl (lenOf pd4 rfl) pd4 (by show 2 * 0 + _ ≤ _; exact Nat.le_of_eq rfl) (by decide) (by decide) (by decide) (by decide) ?_
 intro T441 L441 X441 q441
 obtain ⟨-, M441, e441⟩ := q441
 have N441 := Fr.app N0 M441
 show Gg T441 m 7 [(.int (0 : Int32))]
 refine go_st (fun _ kq => XS.istore X441.here hx rfl (hb hby d12_7) rfl (l' := #[.val (.ref a), .val (.ref o), .val (.int (0 : Int32)), .val (.ref f), .val (.int (0 : Int32)), .unset, .unset, .unset, .unset, .unset, .unset]) rfl kq) ?_
 show Gg T441 m 9 []
 refine go_st (fun _ kq => XT.iconstV X441.here hx rfl (0 : Int32) (hb hby d12_9) (by decide) kq) ?_
 show Gg T441 m 10 [(.int (0 : Int32))]
 refine go_st (fun _ kq => XS.istore X441.here hx rfl (hb hby d12_10) rfl (l' := #[.val (.ref a), .val (.ref o), .val (.int (0 : Int32)), .val (.ref f), .val (.int (0 : Int32)), .val (.int (0 : Int32)), .unset, .unset, .unset, .unset, .unset]) rfl kq) ?_
 show Gg T441 m 12 []
 refine go_st (fun _ kq => XT.iconstV X441.here hx rfl (0 : Int32) (hb hby d12_12) (by decide) kq) ?_
 show Gg T441 m 13 [(.int (0 : Int32))]
 refine go_st (fun _ kq => XS.istore X441.here hx rfl (hb hby d12_13) rfl (l' := #[.val (.ref a), .val (.ref o), .val (.int (0 : Int32)), .val (.ref f), .val (.int (0 : Int32)), .val (.int (0 : Int32)), .val (.int (0 : Int32)), .unset, .unset, .unset, .unset]) rfl kq) ?_
 show Gg T441 m 15 []
 refine go_st (fun _ kq => XS.aloadN X441.here hx rfl (hb hby d12_15) rfl rfl kq) ?_
 show Gg T441 m 16 [(.ref a)]
 refine go_getF X441 hx hZ hown (host := "") (Or.inl (wd hw 24 rfl)) Via.refl e441 P27 (hb hby d12_16) rfl rfl ?_
 intro T442 X442 e442
 show Gg T442 m 19 [(.ref pe)]
 refine go_st (fun _ kq => XS.iload X442.here hx rfl (hb hby d12_19) rfl kq) ?_
 show Gg T442 m 21 [(.int (0 : Int32)), (.ref pe)]
 refine go_st (fun _ kq => XT.iincV X442.here hx rfl (1 : Int32) (hb hby d12_21) (by decide) rfl (l' := #[.val (.ref a), .val (.ref o), .val (.int (0 : Int32)), .val (.ref f), .val (.int (0 : Int32)), .val (.int (0 : Int32)), .val (.int (1 : Int32)), .unset, .unset, .unset, .unset]) rfl kq) ?_
 show Gg T442 m 24 [(.int (0 : Int32)), (.ref pe)]
 refine go_st (fun _ kq => XS.iloadN X442.here hx rfl (hb hby d12_24) rfl kq) ?_
 show Gg T442 m 25 [(.int (0 : Int32)), (.int (0 : Int32)), (.ref pe)]
 refine go_iast X442 hx hZ e442 P30 (hb hby d12_25) rfl rfl (by decide) ?_
 intro T443 h443 X443 e443 W443 G443
 have N443 := Fr.snoc X443 N441 P5
 have A443 : GA Z h443 pe .int 2 (fun i => .int (own_c2 (0 : Int32) (0 : Int32) i)) := (own_sti (by decide) (own_c20 (0 : Int32) (0 : Int32) (0 : Int32)) G443)
 show Gg T443 m 26 []
 refine go_st (fun _ kq => XS.iload X443.here hx rfl (hb hby d12_26) rfl kq) ?_
 show Gg T443 m 28 [(.int (0 : Int32))]
 refine go_st (fun _ kq => XS.ifNo X443.here hx rfl (hb hby d12_28) rfl (XT.i0_ne_f (by decide)) kq) ?_
 show Gg T443 m 31 []
 refine go_st (fun _ kq => XS.iload X443.here hx rfl (hb hby d12_31) rfl kq) ?_
 show Gg T443 m 33 [(.int (0 : Int32))]
 refine go_st (fun _ kq => XS.iload X443.here hx rfl (hb hby d12_33) rfl kq) ?_
 show Gg T443 m 35 [(.int (1 : Int32)), (.int (0 : Int32))]
 refine go_st (fun _ kq => XS.icmpNo X443.here hx rfl (hb hby d12_35) rfl (XT.ii_ge_f (by decide)) kq) ?_
 show Gg T443 m 38 []
 refine go_st (fun _ kq => XS.aloadN X443.here hx rfl (hb hby d12_38) rfl rfl kq) ?_
 show Gg T443 m 39 [(.ref a)]
 have c444 := Fld.other W443 P22 (Or.inl P7)
 refine go_getF X443 hx hZ hown (host := "") (Or.inl (wd hw 33 rfl)) Via.refl e443 c444 (hb hby d12_39) rfl rfl ?_
 intro T445 X445 e445
 show Gg T445 m 42 [(.long (0 : Int64))]
 refine go_st (fun _ kq => XS.aloadN X445.here hx rfl (hb hby d12_42) rfl rfl kq) ?_
 show Gg T445 m 43 [(.ref a), (.long (0 : Int64))]
 have c446 := Fld.other W443 P21 (Or.inl P7)
 refine go_getF X445 hx hZ hown (host := "") (Or.inl (wd hw 10 rfl)) Via.refl e445 c446 (hb hby d12_43) rfl rfl ?_
 intro T447 X447 e447
 show Gg T447 m 46 [(.long xl), (.long (0 : Int64))]
 refine go_st (fun _ kq => XT.lcmp X447.here hx rfl (hb hby d12_46) rfl kq) ?_
 show Gg T447 m 47 [(.int (XT.cmpL (0 : Int64) xl))]
 refine go_st (fun _ kq => XS.ifNo X447.here hx rfl (hb hby d12_47) rfl (XT.ll_ge_f P32) kq) ?_
 show Gg T447 m 50 []
 refine go_st (fun _ kq => XS.aloadN X447.here hx rfl (hb hby d12_50) rfl rfl kq) ?_
 show Gg T447 m 51 [(.ref a)]
 have c448 := Fld.other W443 P27 (Or.inl P7)
 refine go_getF X447 hx hZ hown (host := "") (Or.inl (wd hw 24 rfl)) Via.refl e447 c448 (hb hby d12_51) rfl rfl ?_
 intro T449 X449 e449
 show Gg T449 m 54 [(.ref pe)]
 refine go_st (fun _ kq => XS.iload X449.here hx rfl (hb hby d12_54) rfl kq) ?_
 show Gg T449 m 56 [(.int (0 : Int32)), (.ref pe)]
 refine go_st (fun _ kq => XT.iincV X449.here hx rfl (1 : Int32) (hb hby d12_56) (by decide) rfl (l' := #[.val (.ref a), .val (.ref o), .val (.int (0 : Int32)), .val (.ref f), .val (.int (0 : Int32)), .val (.int (1 : Int32)), .val (.int (1 : Int32)), .unset, .unset, .unset, .unset]) rfl kq) ?_
 show Gg T449 m 59 [(.int (0 : Int32)), (.ref pe)]
 refine go_iald X449 hx hZ e449 A443 (hb hby d12_59) rfl rfl (by decide) (.int (0 : Int32)) rfl ?_
 show Gg T449 m 60 [(.int (0 : Int32))]
 refine go_st (fun _ kq => XS.istore X449.here hx rfl (hb hby d12_60) rfl (l' := #[.val (.ref a), .val (.ref o), .val (.int (0 : Int32)), .val (.ref f), .val (.int (0 : Int32)), .val (.int (1 : Int32)), .val (.int (1 : Int32)), .val (.int (0 : Int32)), .unset, .unset, .unset]) rfl kq) ?_
 show Gg T449 m 62 []
 refine go_st (fun _ kq => XS.aloadN X449.here hx rfl (hb hby d12_62) rfl rfl kq) ?_
 show Gg T449 m 63 [(.ref o)]
 refine go_st (fun _ kq => XS.iload X449.here hx rfl (hb hby d12_63) rfl kq) ?_
 show Gg T449 m 65 [(.int (0 : Int32)), (.ref o)]
 have c451 := Fld.other W443 P2 (Or.inl (Ne.symm P16))
 have z452 : n0 ≤ h443.size := (Wr.size W443).symm ▸ Z0
 have c453 := Exa.wr W443 P1
 refine go_callF X449 hx hZ hml hown (wd hw 94 rfl) (wd hw 95 rfl) (wd hw 96 rfl) (wd hw 97 rfl) (wd hw 98 rfl) (wd hw 99 rfl) (wd hw 100 rfl) (wd hw 65 rfl) (wd hw 101 rfl) (wd hw 42 rfl) e449 c453 (argsL := [(.int (0 : Int32))]) (rest := []) (W := 0) (met_14 l Z a0 hw o (5 : Int32) h443 n0 z452 c451) (hb hby d12_65) rfl rfl rfl (lenOf pd0 rfl) (by show 2 * 0 + _ ≤ _; exact Nat.le_of_eq rfl) (by decide) (by decide) (by decide) (by decide) (by decide) ?_
 intro T450 v450 L450 X450 q450
 obtain ⟨rfl, M450, e450⟩ := q450
 have N450 := Fr.app N443 M450
 show Gg T450 m 70 [(.int (5 : Int32))]
 refine go_st (fun _ kq => XS.istore X450.here hx rfl (hb hby d12_70) rfl (l' := #[.val (.ref a), .val (.ref o), .val (.int (0 : Int32)), .val (.ref f), .val (.int (0 : Int32)), .val (.int (1 : Int32)), .val (.int (1 : Int32)), .val (.int (0 : Int32)), .val (.int (5 : Int32)), .unset, .unset]) rfl kq) ?_
 show Gg T450 m 72 []
 refine go_st (fun _ kq => XT.iconstV X450.here hx rfl (0 : Int32) (hb hby d12_72) (by decide) kq) ?_
 show Gg T450 m 73 [(.int (0 : Int32))]
 refine go_st (fun _ kq => XS.istore X450.here hx rfl (hb hby d12_73) rfl (l' := #[.val (.ref a), .val (.ref o), .val (.int (0 : Int32)), .val (.ref f), .val (.int (0 : Int32)), .val (.int (1 : Int32)), .val (.int (1 : Int32)), .val (.int (0 : Int32)), .val (.int (5 : Int32)), .val (.int (0 : Int32)), .unset]) rfl kq) ?_
 show Gg T450 m 75 []
 refine go_st (fun _ kq => XS.iload X450.here hx rfl (hb hby d12_75) rfl kq) ?_
 show Gg T450 m 77 [(.int (0 : Int32))]
 refine go_st (fun _ kq => XS.iload X450.here hx rfl (hb hby d12_77) rfl kq) ?_
 show Gg T450 m 79 [(.int (5 : Int32)), (.int (0 : Int32))]
 refine go_st (fun _ kq => XS.icmpNo X450.here hx rfl (hb hby d12_79) rfl (XT.ii_ge_f (by decide)) kq) ?_
 show Gg T450 m 82 []
 refine go_st (fun _ kq => XS.iload X450.here hx rfl (hb hby d12_82) rfl kq) ?_
 show Gg T450 m 84 [(.int (0 : Int32))]
 refine go_st (fun _ kq => XS.ifNo X450.here hx rfl (hb hby d12_84) rfl (XT.i0_ne_f (by decide)) kq) ?_
 show Gg T450 m 87 []
 refine go_st (fun _ kq => XS.aloadN X450.here hx rfl (hb hby d12_87) rfl rfl kq) ?_
 show Gg T450 m 88 [(.ref o)]
 refine go_st (fun _ kq => XS.iload X450.here hx rfl (hb hby d12_88) rfl kq) ?_
 show Gg T450 m 90 [(.int (0 : Int32)), (.ref o)]
 refine go_st (fun _ kq => XS.iload X450.here hx rfl (hb hby d12_90) rfl kq) ?_
 show Gg T450 m 92 [(.int (0 : Int32)), (.int (0 : Int32)), (.ref o)]
 refine go_st (fun _ kq => XT.iincV X450.here hx rfl (1 : Int32) (hb hby d12_92) (by decide) rfl (l' := #[.val (.ref a), .val (.ref o), .val (.int (0 : Int32)), .val (.ref f), .val (.int (0 : Int32)), .val (.int (1 : Int32)), .val (.int (1 : Int32)), .val (.int (0 : Int32)), .val (.int (5 : Int32)), .val (.int (1 : Int32)), .unset]) rfl kq) ?_
 show Gg T450 m 95 [(.int (0 : Int32)), (.int (0 : Int32)), (.ref o)]
 refine go_callF X450 hx hZ hml hown (wd hw 109 rfl) (wd hw 110 rfl) (wd hw 111 rfl) (wd hw 112 rfl) (wd hw 113 rfl) (wd hw 114 rfl) (wd hw 115 rfl) (wd hw 65 rfl) (wd hw 116 rfl) (wd hw 42 rfl) e450 c453 (argsL := [(.int (0 : Int32)), (.int (0 : Int32))]) (rest := []) (W := 0) (met_16 l Z a0 hw o (0 : Int32) (0 : Int32) h443 n0 z452 ) (hb hby d12_95) rfl rfl rfl (lenOf pd3 rfl) (by show 2 * 0 + _ ≤ _; exact Nat.le_of_eq rfl) (by decide) (by decide) (by decide) (by decide) (by decide) ?_
 intro T454 v454 L454 X454 q454
 obtain ⟨rfl, M454, e454⟩ := q454
 have N454 := Fr.app N450 M454
 show Gg T454 m 100 [(.int (0 : Int32))]
 refine go_st (fun _ kq => XS.istore X454.here hx rfl (hb hby d12_100) rfl (l' := #[.val (.ref a), .val (.ref o), .val (.int (0 : Int32)), .val (.ref f), .val (.int (0 : Int32)), .val (.int (1 : Int32)), .val (.int (1 : Int32)), .val (.int (0 : Int32)), .val (.int (5 : Int32)), .val (.int (1 : Int32)), .val (.int (0 : Int32))]) rfl kq) ?_
 show Gg T454 m 102 []
 refine go_st (fun _ kq => XS.aloadN X454.here hx rfl (hb hby d12_102) rfl rfl kq) ?_
 show Gg T454 m 103 [(.ref a)]
 have c455 := Fld.other W443 P26 (Or.inl P7)
 refine go_getF X454 hx hZ hown (host := "") (Or.inl (wd hw 18 rfl)) Via.refl e454 c455 (hb hby d12_103) rfl rfl ?_
 intro T456 X456 e456
 show Gg T456 m 106 [(.ref ra)]
 refine go_st (fun _ kq => XS.iload X456.here hx rfl (hb hby d12_106) rfl kq) ?_
 show Gg T456 m 108 [(.int (0 : Int32)), (.ref ra)]
 have c457 := P29.other W443 P11
 refine go_iald X456 hx hZ e456 c457 (hb hby d12_108) rfl rfl (by decide) (.int (1 : Int32)) rfl ?_
 show Gg T456 m 109 [(.int (1 : Int32))]
 refine go_st (fun _ kq => XS.aloadN X456.here hx rfl (hb hby d12_109) rfl rfl kq) ?_
 show Gg T456 m 110 [(.ref a), (.int (1 : Int32))]
 have c458 := Fld.other W443 P23 (Or.inl P7)
 refine go_getF X456 hx hZ hown (host := "") (Or.inl (wd hw 75 rfl)) Via.refl e456 c458 (hb hby d12_110) rfl rfl ?_
 intro T459 X459 e459
 show Gg T459 m 113 [(.int (1 : Int32)), (.int (1 : Int32))]
 refine go_st (fun _ kq => XS.icmpYes X459.here hx rfl (pc0 := 113) (pc' := 158) rfl (hb hby d12_113) rfl (XT.ii_eq_t (by decide)) (by decide) (by decide) kq) ?_
 show Gg T459 m 158 []
 refine go_st (fun _ kq => XS.goto X459.here hx rfl (pc0 := 158) (pc' := 75) rfl (hb hby d12_158) (by decide) (by decide) kq) ?_
 show Gg T459 m 75 []
 refine go_st (fun _ kq => XS.iload X459.here hx rfl (hb hby d12_75) rfl kq) ?_
 show Gg T459 m 77 [(.int (1 : Int32))]
 refine go_st (fun _ kq => XS.iload X459.here hx rfl (hb hby d12_77) rfl kq) ?_
 show Gg T459 m 79 [(.int (5 : Int32)), (.int (1 : Int32))]
 refine go_st (fun _ kq => XS.icmpNo X459.here hx rfl (hb hby d12_79) rfl (XT.ii_ge_f (by decide)) kq) ?_
 show Gg T459 m 82 []
 refine go_st (fun _ kq => XS.iload X459.here hx rfl (hb hby d12_82) rfl kq) ?_
 show Gg T459 m 84 [(.int (0 : Int32))]
 refine go_st (fun _ kq => XS.ifNo X459.here hx rfl (hb hby d12_84) rfl (XT.i0_ne_f (by decide)) kq) ?_
 show Gg T459 m 87 []
 refine go_st (fun _ kq => XS.aloadN X459.here hx rfl (hb hby d12_87) rfl rfl kq) ?_
 show Gg T459 m 88 [(.ref o)]
 refine go_st (fun _ kq => XS.iload X459.here hx rfl (hb hby d12_88) rfl kq) ?_
 show Gg T459 m 90 [(.int (0 : Int32)), (.ref o)]
 refine go_st (fun _ kq => XS.iload X459.here hx rfl (hb hby d12_90) rfl kq) ?_
 show Gg T459 m 92 [(.int (1 : Int32)), (.int (0 : Int32)), (.ref o)]
 refine go_st (fun _ kq => XT.iincV X459.here hx rfl (1 : Int32) (hb hby d12_92) (by decide) rfl (l' := #[.val (.ref a), .val (.ref o), .val (.int (0 : Int32)), .val (.ref f), .val (.int (0 : Int32)), .val (.int (1 : Int32)), .val (.int (1 : Int32)), .val (.int (0 : Int32)), .val (.int (5 : Int32)), .val (.int (2 : Int32)), .val (.int (0 : Int32))]) rfl kq) ?_
 show Gg T459 m 95 [(.int (1 : Int32)), (.int (0 : Int32)), (.ref o)]
 refine go_callF X459 hx hZ hml hown (wd hw 109 rfl) (wd hw 110 rfl) (wd hw 111 rfl) (wd hw 112 rfl) (wd hw 113 rfl) (wd hw 114 rfl) (wd hw 115 rfl) (wd hw 65 rfl) (wd hw 116 rfl) (wd hw 42 rfl) e459 c453 (argsL := [(.int (0 : Int32)), (.int (1 : Int32))]) (rest := []) (W := 0) (met_16 l Z a0 hw o (0 : Int32) (1 : Int32) h443 n0 z452 ) (hb hby d12_95) rfl rfl rfl (lenOf pd3 rfl) (by show 2 * 0 + _ ≤ _; exact Nat.le_of_eq rfl) (by decide) (by decide) (by decide) (by decide) (by decide) ?_
 intro T460 v460 L460 X460 q460
 obtain ⟨rfl, M460, e460⟩ := q460
 have N460 := Fr.app N454 M460
 show Gg T460 m 100 [(.int (0 : Int32))]
 refine go_st (fun _ kq => XS.istore X460.here hx rfl (hb hby d12_100) rfl (l' := #[.val (.ref a), .val (.ref o), .val (.int (0 : Int32)), .val (.ref f), .val (.int (0 : Int32)), .val (.int (1 : Int32)), .val (.int (1 : Int32)), .val (.int (0 : Int32)), .val (.int (5 : Int32)), .val (.int (2 : Int32)), .val (.int (0 : Int32))]) rfl kq) ?_
 show Gg T460 m 102 []
 refine go_st (fun _ kq => XS.aloadN X460.here hx rfl (hb hby d12_102) rfl rfl kq) ?_
 show Gg T460 m 103 [(.ref a)]
 refine go_getF X460 hx hZ hown (host := "") (Or.inl (wd hw 18 rfl)) Via.refl e460 c455 (hb hby d12_103) rfl rfl ?_
 intro T461 X461 e461
 show Gg T461 m 106 [(.ref ra)]
 refine go_st (fun _ kq => XS.iload X461.here hx rfl (hb hby d12_106) rfl kq) ?_
 show Gg T461 m 108 [(.int (0 : Int32)), (.ref ra)]
 refine go_iald X461 hx hZ e461 c457 (hb hby d12_108) rfl rfl (by decide) (.int (1 : Int32)) rfl ?_
 show Gg T461 m 109 [(.int (1 : Int32))]
 refine go_st (fun _ kq => XS.aloadN X461.here hx rfl (hb hby d12_109) rfl rfl kq) ?_
 show Gg T461 m 110 [(.ref a), (.int (1 : Int32))]
 refine go_getF X461 hx hZ hown (host := "") (Or.inl (wd hw 75 rfl)) Via.refl e461 c458 (hb hby d12_110) rfl rfl ?_
 intro T462 X462 e462
 show Gg T462 m 113 [(.int (1 : Int32)), (.int (1 : Int32))]
 refine go_st (fun _ kq => XS.icmpYes X462.here hx rfl (pc0 := 113) (pc' := 158) rfl (hb hby d12_113) rfl (XT.ii_eq_t (by decide)) (by decide) (by decide) kq) ?_
 show Gg T462 m 158 []
 refine go_st (fun _ kq => XS.goto X462.here hx rfl (pc0 := 158) (pc' := 75) rfl (hb hby d12_158) (by decide) (by decide) kq) ?_
 show Gg T462 m 75 []
 refine go_st (fun _ kq => XS.iload X462.here hx rfl (hb hby d12_75) rfl kq) ?_
 show Gg T462 m 77 [(.int (2 : Int32))]
 refine go_st (fun _ kq => XS.iload X462.here hx rfl (hb hby d12_77) rfl kq) ?_
 show Gg T462 m 79 [(.int (5 : Int32)), (.int (2 : Int32))]
 refine go_st (fun _ kq => XS.icmpNo X462.here hx rfl (hb hby d12_79) rfl (XT.ii_ge_f (by decide)) kq) ?_
 show Gg T462 m 82 []
 refine go_st (fun _ kq => XS.iload X462.here hx rfl (hb hby d12_82) rfl kq) ?_
 show Gg T462 m 84 [(.int (0 : Int32))]
 refine go_st (fun _ kq => XS.ifNo X462.here hx rfl (hb hby d12_84) rfl (XT.i0_ne_f (by decide)) kq) ?_
 show Gg T462 m 87 []
 refine go_st (fun _ kq => XS.aloadN X462.here hx rfl (hb hby d12_87) rfl rfl kq) ?_
 show Gg T462 m 88 [(.ref o)]
 refine go_st (fun _ kq => XS.iload X462.here hx rfl (hb hby d12_88) rfl kq) ?_
 show Gg T462 m 90 [(.int (0 : Int32)), (.ref o)]
 refine go_st (fun _ kq => XS.iload X462.here hx rfl (hb hby d12_90) rfl kq) ?_
 show Gg T462 m 92 [(.int (2 : Int32)), (.int (0 : Int32)), (.ref o)]
 refine go_st (fun _ kq => XT.iincV X462.here hx rfl (1 : Int32) (hb hby d12_92) (by decide) rfl (l' := #[.val (.ref a), .val (.ref o), .val (.int (0 : Int32)), .val (.ref f), .val (.int (0 : Int32)), .val (.int (1 : Int32)), .val (.int (1 : Int32)), .val (.int (0 : Int32)), .val (.int (5 : Int32)), .val (.int (3 : Int32)), .val (.int (0 : Int32))]) rfl kq) ?_
 show Gg T462 m 95 [(.int (2 : Int32)), (.int (0 : Int32)), (.ref o)]
 refine go_callF X462 hx hZ hml hown (wd hw 109 rfl) (wd hw 110 rfl) (wd hw 111 rfl) (wd hw 112 rfl) (wd hw 113 rfl) (wd hw 114 rfl) (wd hw 115 rfl) (wd hw 65 rfl) (wd hw 116 rfl) (wd hw 42 rfl) e462 c453 (argsL := [(.int (0 : Int32)), (.int (2 : Int32))]) (rest := []) (W := 0) (met_16 l Z a0 hw o (0 : Int32) (2 : Int32) h443 n0 z452 ) (hb hby d12_95) rfl rfl rfl (lenOf pd3 rfl) (by show 2 * 0 + _ ≤ _; exact Nat.le_of_eq rfl) (by decide) (by decide) (by decide) (by decide) (by decide) ?_
 intro T463 v463 L463 X463 q463
 obtain ⟨rfl, M463, e463⟩ := q463
 have N463 := Fr.app N460 M463
 show Gg T463 m 100 [(.int (0 : Int32))]
 refine go_st (fun _ kq => XS.istore X463.here hx rfl (hb hby d12_100) rfl (l' := #[.val (.ref a), .val (.ref o), .val (.int (0 : Int32)), .val (.ref f), .val (.int (0 : Int32)), .val (.int (1 : Int32)), .val (.int (1 : Int32)), .val (.int (0 : Int32)), .val (.int (5 : Int32)), .val (.int (3 : Int32)), .val (.int (0 : Int32))]) rfl kq) ?_
 show Gg T463 m 102 []
 refine go_st (fun _ kq => XS.aloadN X463.here hx rfl (hb hby d12_102) rfl rfl kq) ?_
 show Gg T463 m 103 [(.ref a)]
 refine go_getF X463 hx hZ hown (host := "") (Or.inl (wd hw 18 rfl)) Via.refl e463 c455 (hb hby d12_103) rfl rfl ?_
 intro T464 X464 e464
 show Gg T464 m 106 [(.ref ra)]
 refine go_st (fun _ kq => XS.iload X464.here hx rfl (hb hby d12_106) rfl kq) ?_
 show Gg T464 m 108 [(.int (0 : Int32)), (.ref ra)]
 refine go_iald X464 hx hZ e464 c457 (hb hby d12_108) rfl rfl (by decide) (.int (1 : Int32)) rfl ?_
 show Gg T464 m 109 [(.int (1 : Int32))]
 refine go_st (fun _ kq => XS.aloadN X464.here hx rfl (hb hby d12_109) rfl rfl kq) ?_
 show Gg T464 m 110 [(.ref a), (.int (1 : Int32))]
 refine go_getF X464 hx hZ hown (host := "") (Or.inl (wd hw 75 rfl)) Via.refl e464 c458 (hb hby d12_110) rfl rfl ?_
 intro T465 X465 e465
 show Gg T465 m 113 [(.int (1 : Int32)), (.int (1 : Int32))]
 refine go_st (fun _ kq => XS.icmpYes X465.here hx rfl (pc0 := 113) (pc' := 158) rfl (hb hby d12_113) rfl (XT.ii_eq_t (by decide)) (by decide) (by decide) kq) ?_
 show Gg T465 m 158 []
 refine go_st (fun _ kq => XS.goto X465.here hx rfl (pc0 := 158) (pc' := 75) rfl (hb hby d12_158) (by decide) (by decide) kq) ?_
 show Gg T465 m 75 []
 refine go_st (fun _ kq => XS.iload X465.here hx rfl (hb hby d12_75) rfl kq) ?_
 show Gg T465 m 77 [(.int (3 : Int32))]
 refine go_st (fun _ kq => XS.iload X465.here hx rfl (hb hby d12_77) rfl kq) ?_
 show Gg T465 m 79 [(.int (5 : Int32)), (.int (3 : Int32))]
 refine go_st (fun _ kq => XS.icmpNo X465.here hx rfl (hb hby d12_79) rfl (XT.ii_ge_f (by decide)) kq) ?_
 show Gg T465 m 82 []
 refine go_st (fun _ kq => XS.iload X465.here hx rfl (hb hby d12_82) rfl kq) ?_
 show Gg T465 m 84 [(.int (0 : Int32))]
 refine go_st (fun _ kq => XS.ifNo X465.here hx rfl (hb hby d12_84) rfl (XT.i0_ne_f (by decide)) kq) ?_
 show Gg T465 m 87 []
 refine go_st (fun _ kq => XS.aloadN X465.here hx rfl (hb hby d12_87) rfl rfl kq) ?_
 show Gg T465 m 88 [(.ref o)]
 refine go_st (fun _ kq => XS.iload X465.here hx rfl (hb hby d12_88) rfl kq) ?_
 show Gg T465 m 90 [(.int (0 : Int32)), (.ref o)]
 refine go_st (fun _ kq => XS.iload X465.here hx rfl (hb hby d12_90) rfl kq) ?_
 show Gg T465 m 92 [(.int (3 : Int32)), (.int (0 : Int32)), (.ref o)]
 refine go_st (fun _ kq => XT.iincV X465.here hx rfl (1 : Int32) (hb hby d12_92) (by decide) rfl (l' := #[.val (.ref a), .val (.ref o), .val (.int (0 : Int32)), .val (.ref f), .val (.int (0 : Int32)), .val (.int (1 : Int32)), .val (.int (1 : Int32)), .val (.int (0 : Int32)), .val (.int (5 : Int32)), .val (.int (4 : Int32)), .val (.int (0 : Int32))]) rfl kq) ?_
 show Gg T465 m 95 [(.int (3 : Int32)), (.int (0 : Int32)), (.ref o)]
 refine go_callF X465 hx hZ hml hown (wd hw 109 rfl) (wd hw 110 rfl) (wd hw 111 rfl) (wd hw 112 rfl) (wd hw 113 rfl) (wd hw 114 rfl) (wd hw 115 rfl) (wd hw 65 rfl) (wd hw 116 rfl) (wd hw 42 rfl) e465 c453 (argsL := [(.int (0 : Int32)), (.int (3 : Int32))]) (rest := []) (W := 0) (met_16 l Z a0 hw o (0 : Int32) (3 : Int32) h443 n0 z452 ) (hb hby d12_95) rfl rfl rfl (lenOf pd3 rfl) (by show 2 * 0 + _ ≤ _; exact Nat.le_of_eq rfl) (by decide) (by decide) (by decide) (by decide) (by decide) ?_
 intro T466 v466 L466 X466 q466
 obtain ⟨rfl, M466, e466⟩ := q466
 have N466 := Fr.app N463 M466
 show Gg T466 m 100 [(.int (0 : Int32))]
 refine go_st (fun _ kq => XS.istore X466.here hx rfl (hb hby d12_100) rfl (l' := #[.val (.ref a), .val (.ref o), .val (.int (0 : Int32)), .val (.ref f), .val (.int (0 : Int32)), .val (.int (1 : Int32)), .val (.int (1 : Int32)), .val (.int (0 : Int32)), .val (.int (5 : Int32)), .val (.int (4 : Int32)), .val (.int (0 : Int32))]) rfl kq) ?_
 show Gg T466 m 102 []
 refine go_st (fun _ kq => XS.aloadN X466.here hx rfl (hb hby d12_102) rfl rfl kq) ?_
 show Gg T466 m 103 [(.ref a)]
 refine go_getF X466 hx hZ hown (host := "") (Or.inl (wd hw 18 rfl)) Via.refl e466 c455 (hb hby d12_103) rfl rfl ?_
 intro T467 X467 e467
 show Gg T467 m 106 [(.ref ra)]
 refine go_st (fun _ kq => XS.iload X467.here hx rfl (hb hby d12_106) rfl kq) ?_
 show Gg T467 m 108 [(.int (0 : Int32)), (.ref ra)]
 refine go_iald X467 hx hZ e467 c457 (hb hby d12_108) rfl rfl (by decide) (.int (1 : Int32)) rfl ?_
 show Gg T467 m 109 [(.int (1 : Int32))]
 refine go_st (fun _ kq => XS.aloadN X467.here hx rfl (hb hby d12_109) rfl rfl kq) ?_
 show Gg T467 m 110 [(.ref a), (.int (1 : Int32))]
 refine go_getF X467 hx hZ hown (host := "") (Or.inl (wd hw 75 rfl)) Via.refl e467 c458 (hb hby d12_110) rfl rfl ?_
 intro T468 X468 e468
 show Gg T468 m 113 [(.int (1 : Int32)), (.int (1 : Int32))]
 refine go_st (fun _ kq => XS.icmpYes X468.here hx rfl (pc0 := 113) (pc' := 158) rfl (hb hby d12_113) rfl (XT.ii_eq_t (by decide)) (by decide) (by decide) kq) ?_
 show Gg T468 m 158 []
 refine go_st (fun _ kq => XS.goto X468.here hx rfl (pc0 := 158) (pc' := 75) rfl (hb hby d12_158) (by decide) (by decide) kq) ?_
 show Gg T468 m 75 []
 refine go_st (fun _ kq => XS.iload X468.here hx rfl (hb hby d12_75) rfl kq) ?_
 show Gg T468 m 77 [(.int (4 : Int32))]
 refine go_st (fun _ kq => XS.iload X468.here hx rfl (hb hby d12_77) rfl kq) ?_
 show Gg T468 m 79 [(.int (5 : Int32)), (.int (4 : Int32))]
 refine go_st (fun _ kq => XS.icmpNo X468.here hx rfl (hb hby d12_79) rfl (XT.ii_ge_f (by decide)) kq) ?_
 show Gg T468 m 82 []
 refine go_st (fun _ kq => XS.iload X468.here hx rfl (hb hby d12_82) rfl kq) ?_
 show Gg T468 m 84 [(.int (0 : Int32))]
 refine go_st (fun _ kq => XS.ifNo X468.here hx rfl (hb hby d12_84) rfl (XT.i0_ne_f (by decide)) kq) ?_
 show Gg T468 m 87 []
 refine go_st (fun _ kq => XS.aloadN X468.here hx rfl (hb hby d12_87) rfl rfl kq) ?_
 show Gg T468 m 88 [(.ref o)]
 refine go_st (fun _ kq => XS.iload X468.here hx rfl (hb hby d12_88) rfl kq) ?_
 show Gg T468 m 90 [(.int (0 : Int32)), (.ref o)]
 refine go_st (fun _ kq => XS.iload X468.here hx rfl (hb hby d12_90) rfl kq) ?_
 show Gg T468 m 92 [(.int (4 : Int32)), (.int (0 : Int32)), (.ref o)]
 refine go_st (fun _ kq => XT.iincV X468.here hx rfl (1 : Int32) (hb hby d12_92) (by decide) rfl (l' := #[.val (.ref a), .val (.ref o), .val (.int (0 : Int32)), .val (.ref f), .val (.int (0 : Int32)), .val (.int (1 : Int32)), .val (.int (1 : Int32)), .val (.int (0 : Int32)), .val (.int (5 : Int32)), .val (.int (5 : Int32)), .val (.int (0 : Int32))]) rfl kq) ?_
 show Gg T468 m 95 [(.int (4 : Int32)), (.int (0 : Int32)), (.ref o)]
 refine go_callF X468 hx hZ hml hown (wd hw 109 rfl) (wd hw 110 rfl) (wd hw 111 rfl) (wd hw 112 rfl) (wd hw 113 rfl) (wd hw 114 rfl) (wd hw 115 rfl) (wd hw 65 rfl) (wd hw 116 rfl) (wd hw 42 rfl) e468 c453 (argsL := [(.int (0 : Int32)), (.int (4 : Int32))]) (rest := []) (W := 0) (met_16 l Z a0 hw o (0 : Int32) (4 : Int32) h443 n0 z452 ) (hb hby d12_95) rfl rfl rfl (lenOf pd3 rfl) (by show 2 * 0 + _ ≤ _; exact Nat.le_of_eq rfl) (by decide) (by decide) (by decide) (by decide) (by decide) ?_
 intro T469 v469 L469 X469 q469
 obtain ⟨rfl, M469, e469⟩ := q469
 have N469 := Fr.app N466 M469
 show Gg T469 m 100 [(.int (0 : Int32))]
 refine go_st (fun _ kq => XS.istore X469.here hx rfl (hb hby d12_100) rfl (l' := #[.val (.ref a), .val (.ref o), .val (.int (0 : Int32)), .val (.ref f), .val (.int (0 : Int32)), .val (.int (1 : Int32)), .val (.int (1 : Int32)), .val (.int (0 : Int32)), .val (.int (5 : Int32)), .val (.int (5 : Int32)), .val (.int (0 : Int32))]) rfl kq) ?_
 show Gg T469 m 102 []
 refine go_st (fun _ kq => XS.aloadN X469.here hx rfl (hb hby d12_102) rfl rfl kq) ?_
 show Gg T469 m 103 [(.ref a)]
 refine go_getF X469 hx hZ hown (host := "") (Or.inl (wd hw 18 rfl)) Via.refl e469 c455 (hb hby d12_103) rfl rfl ?_
 intro T470 X470 e470
 show Gg T470 m 106 [(.ref ra)]
 refine go_st (fun _ kq => XS.iload X470.here hx rfl (hb hby d12_106) rfl kq) ?_
 show Gg T470 m 108 [(.int (0 : Int32)), (.ref ra)]
 refine go_iald X470 hx hZ e470 c457 (hb hby d12_108) rfl rfl (by decide) (.int (1 : Int32)) rfl ?_
 show Gg T470 m 109 [(.int (1 : Int32))]
 refine go_st (fun _ kq => XS.aloadN X470.here hx rfl (hb hby d12_109) rfl rfl kq) ?_
 show Gg T470 m 110 [(.ref a), (.int (1 : Int32))]
 refine go_getF X470 hx hZ hown (host := "") (Or.inl (wd hw 75 rfl)) Via.refl e470 c458 (hb hby d12_110) rfl rfl ?_
 intro T471 X471 e471
 show Gg T471 m 113 [(.int (1 : Int32)), (.int (1 : Int32))]
 refine go_st (fun _ kq => XS.icmpYes X471.here hx rfl (pc0 := 113) (pc' := 158) rfl (hb hby d12_113) rfl (XT.ii_eq_t (by decide)) (by decide) (by decide) kq) ?_
 show Gg T471 m 158 []
 refine go_st (fun _ kq => XS.goto X471.here hx rfl (pc0 := 158) (pc' := 75) rfl (hb hby d12_158) (by decide) (by decide) kq) ?_
 show Gg T471 m 75 []
 refine go_st (fun _ kq => XS.iload X471.here hx rfl (hb hby d12_75) rfl kq) ?_
 show Gg T471 m 77 [(.int (5 : Int32))]
 refine go_st (fun _ kq => XS.iload X471.here hx rfl (hb hby d12_77) rfl kq) ?_
 show Gg T471 m 79 [(.int (5 : Int32)), (.int (5 : Int32))]
 refine go_st (fun _ kq => XS.icmpYes X471.here hx rfl (pc0 := 79) (pc' := 161) rfl (hb hby d12_79) rfl (XT.ii_ge_t (by decide)) (by decide) (by decide) kq) ?_
 show Gg T471 m 161 []
 refine go_st (fun _ kq => XS.aloadN X471.here hx rfl (hb hby d12_161) rfl rfl kq) ?_
 show Gg T471 m 162 [(.ref a)]
 refine go_st (fun _ kq => XS.dup X471.here hx rfl (hb hby d12_162) rfl rfl kq) ?_
 show Gg T471 m 163 [(.ref a), (.ref a)]
 refine go_getF X471 hx hZ hown (host := "") (Or.inl (wd hw 33 rfl)) Via.refl e471 c444 (hb hby d12_163) rfl rfl ?_
 intro T472 X472 e472
 show Gg T472 m 166 [(.long (0 : Int64)), (.ref a)]
 refine go_st (fun _ kq => XS.iload X472.here hx rfl (hb hby d12_166) rfl kq) ?_
 show Gg T472 m 168 [(.int (5 : Int32)), (.long (0 : Int64)), (.ref a)]
 refine go_st (fun _ kq => XT.i2l X472.here hx rfl (hb hby d12_168) rfl kq) ?_
 rw [show (5 : Int32).toInt64 = (5 : Int64) from by decide +kernel]
 show Gg T472 m 169 [(.long (5 : Int64)), (.long (0 : Int64)), (.ref a)]
 refine go_st (fun _ kq => XT.ladd X472.here hx rfl (hb hby d12_169) rfl kq) ?_
 rw [show ((0 : Int64) + (5 : Int64)) = (5 : Int64) from by decide +kernel]
 show Gg T472 m 170 [(.long (5 : Int64)), (.ref a)]
 have c473 := Exa.wr W443 P0
 refine go_putF X472 hx hZ hown (host := "") (Or.inl (wd hw 33 rfl)) Via.refl e472 c444 c473 (Or.inl (wd hw 34 rfl)) (wd hw 1 rfl) (ty := .long) (by decide) rfl rfl (hb hby d12_170) rfl rfl ?_
 intro T474 h474 X474 e474 W474
 have N474 := Fr.snoc X474 N469 P4
 have F474 : Fld Z h474 a "com/example/copse/copse/graph/TargetSearch" "arcsLookedAt" "J" (.long (5 : Int64)) := Fld.same W474 c444
 show Gg T474 m 173 []
 refine go_st (fun _ kq => XS.goto X474.here hx rfl (pc0 := 173) (pc' := 26) rfl (hb hby d12_173) (by decide) (by decide) kq) ?_
 show Gg T474 m 26 []
 refine go_st (fun _ kq => XS.iload X474.here hx rfl (hb hby d12_26) rfl kq) ?_
 show Gg T474 m 28 [(.int (0 : Int32))]
 refine go_st (fun _ kq => XS.ifNo X474.here hx rfl (hb hby d12_28) rfl (XT.i0_ne_f (by decide)) kq) ?_
 show Gg T474 m 31 []
 refine go_st (fun _ kq => XS.iload X474.here hx rfl (hb hby d12_31) rfl kq) ?_
 show Gg T474 m 33 [(.int (1 : Int32))]
 refine go_st (fun _ kq => XS.iload X474.here hx rfl (hb hby d12_33) rfl kq) ?_
 show Gg T474 m 35 [(.int (1 : Int32)), (.int (1 : Int32))]
 refine go_st (fun _ kq => XS.icmpYes X474.here hx rfl (pc0 := 35) (pc' := 176) rfl (hb hby d12_35) rfl (XT.ii_ge_t (by decide)) (by decide) (by decide) kq) ?_
 show Gg T474 m 176 []
 refine go_st (fun _ kq => XS.aloadN X474.here hx rfl (hb hby d12_176) rfl rfl kq) ?_
 show Gg T474 m 177 [(.ref a)]
 refine go_st (fun _ kq => XS.iload X474.here hx rfl (hb hby d12_177) rfl kq) ?_
 show Gg T474 m 179 [(.int (1 : Int32)), (.ref a)]
 have c475 := Fld.other W443 P25 (Or.inl P7)
 have c476 := Fld.other W474 c475 (Or.inr (slot_ne (a0 := a0) (t := .int) (t' := .long) (Or.inl (wd hw 103 rfl)) (Or.inl (wd hw 34 rfl)) (by decide) (by decide) (by decide)))
 have c477 := Exa.wr W474 c473
 refine go_putF X474 hx hZ hown (host := "") (Or.inl (wd hw 102 rfl)) Via.refl e474 c476 c477 (Or.inl (wd hw 103 rfl)) (wd hw 1 rfl) (ty := .int) (by decide) rfl rfl (hb hby d12_179) rfl rfl ?_
 intro T478 h478 X478 e478 W478
 have N478 := Fr.snoc X478 N474 P4
 have F478 : Fld Z h478 a "com/example/copse/copse/graph/TargetSearch" "queued" "I" (.int (1 : Int32)) := Fld.same W478 c476
 show Gg T478 m 182 []
 refine go_st (fun _ kq => XS.iload X478.here hx rfl (hb hby d12_182) rfl kq) ?_
 show Gg T478 m 184 [(.int (0 : Int32))]
 have c479 := Fld.other W474 c446 (Or.inr (slot_ne (a0 := a0) (t := .long) (t' := .long) (Or.inl (wd hw 11 rfl)) (Or.inl (wd hw 34 rfl)) (by decide) (by decide) (by decide)))
 have c480 := Fld.other W478 c479 (Or.inr (slot_ne (a0 := a0) (t := .long) (t' := .int) (Or.inl (wd hw 11 rfl)) (Or.inl (wd hw 103 rfl)) (by decide) (by decide) (by decide)))
 have c481 := Fld.other W478 F474 (Or.inr (slot_ne (a0 := a0) (t := .long) (t' := .int) (Or.inl (wd hw 34 rfl)) (Or.inl (wd hw 103 rfl)) (by decide) (by decide) (by decide)))
 have c482 := Fld.other W474 c458 (Or.inr (slot_ne (a0 := a0) (t := .int) (t' := .long) (Or.inl (wd hw 76 rfl)) (Or.inl (wd hw 34 rfl)) (by decide) (by decide) (by decide)))
 have c483 := Fld.other W478 c482 (Or.inr (slot_ne (a0 := a0) (t := .int) (t' := .int) (Or.inl (wd hw 76 rfl)) (Or.inl (wd hw 103 rfl)) (by decide) (by decide) (by decide)))
 have c484 := Fld.other W443 P24 (Or.inl P7)
 have c485 := Fld.other W474 c484 (Or.inr (slot_ne (a0 := a0) (t := .int) (t' := .long) (Or.inl (wd hw 79 rfl)) (Or.inl (wd hw 34 rfl)) (by decide) (by decide) (by decide)))
 have c486 := Fld.other W478 c485 (Or.inr (slot_ne (a0 := a0) (t := .int) (t' := .int) (Or.inl (wd hw 79 rfl)) (Or.inl (wd hw 103 rfl)) (by decide) (by decide) (by decide)))
 have c487 := Fld.other W474 c455 (Or.inr (slot_ne (a0 := a0) (t := (.array .int)) (t' := .long) (Or.inr (wd hw 19 rfl)) (Or.inl (wd hw 34 rfl)) (by decide) (by decide) (by decide)))
 have c488 := Fld.other W478 c487 (Or.inr (slot_ne (a0 := a0) (t := (.array .int)) (t' := .int) (Or.inr (wd hw 19 rfl)) (Or.inl (wd hw 103 rfl)) (by decide) (by decide) (by decide)))
 have c489 := Fld.other W474 c448 (Or.inr (slot_ne (a0 := a0) (t := (.array .int)) (t' := .long) (Or.inr (wd hw 25 rfl)) (Or.inl (wd hw 34 rfl)) (by decide) (by decide) (by decide)))
 have c490 := Fld.other W478 c489 (Or.inr (slot_ne (a0 := a0) (t := (.array .int)) (t' := .int) (Or.inr (wd hw 25 rfl)) (Or.inl (wd hw 103 rfl)) (by decide) (by decide) (by decide)))
 have c491 := Fld.other W443 P28 (Or.inl P7)
 have c492 := Fld.other W474 c491 (Or.inr (slot_ne (a0 := a0) (t := (.array .int)) (t' := .long) (Or.inr (wd hw 27 rfl)) (Or.inl (wd hw 34 rfl)) (by decide) (by decide) (by decide)))
 have c493 := Fld.other W478 c492 (Or.inr (slot_ne (a0 := a0) (t := (.array .int)) (t' := .int) (Or.inr (wd hw 27 rfl)) (Or.inl (wd hw 103 rfl)) (by decide) (by decide) (by decide)))
 exact go_retB (w := (0 : Int32)) X478 hx hlk hret (hb hby d12_184) (by decide) (by decide) (by decide) (by rw [e478]; exact ⟨rfl, N478, (Keep.wr (Keep.wr (Keep.wr (Keep.refl h0 [a, pe]) W443 (Or.inl (by simp))) W474 (Or.inl (by simp))) W478 (Or.inl (by simp))), c480, c481, c483, c486, F478, c488, c490, c493⟩)
def Q_bf6t (Z : State) (cK : ClassId) (a : Addr) (o : Addr) (f : Addr) (xl : Int64) (ra : Addr) (pe : Addr) (wa : Addr) (h0 : Heap) (n0 : Nat) (v : Option Value) (h : Heap) (L : List Loc) : Prop := v = some (.int (0 : Int32)) ∧ Fr n0 L ∧ Keep h0 h [a, pe] ∧ Fld Z h a "com/example/copse/copse/graph/TargetSearch" "arcLimit" "J" (.long xl) ∧ Fld Z h a "com/example/copse/copse/graph/TargetSearch" "arcsLookedAt" "J" (.long (6 : Int64)) ∧ Fld Z h a "com/example/copse/copse/graph/TargetSearch" "search" "I" (.int (1 : Int32)) ∧ Fld Z h a "com/example/copse/copse/graph/TargetSearch" "unreached" "I" (.int (1 : Int32)) ∧ Fld Z h a "com/example/copse/copse/graph/TargetSearch" "queued" "I" (.int (1 : Int32)) ∧ Fld Z h a "com/example/copse/copse/graph/TargetSearch" "reachedIn" "[I" (.ref ra) ∧ Fld Z h a "com/example/copse/copse/graph/TargetSearch" "pending" "[I" (.ref pe) ∧ Fld Z h a "com/example/copse/copse/graph/TargetSearch" "wantedIn" "[I" (.ref wa)
theorem ef_bf6t (m : MethodId) (cK : ClassId) (a : Addr) (o : Addr) (f : Addr) (xl : Int64) (ra : Addr) (pe : Addr) (wa : Addr) : entryFrame m #[(.ref a), (.ref o), (.int (0 : Int32)), (.ref f)] 11 = mkF m 0 #[.val (.ref a), .val (.ref o), .val (.int (0 : Int32)), .val (.ref f), .unset, .unset, .unset, .unset, .unset, .unset, .unset] [] := by first | (simp [entryFrame, mkF, argsToLocals, Value.category]; done) | rfl
abbrev rm_bf6t : Room := ({ frames := 2, cells := 0, slots := 0, locals := 26 } : Room)
set_option maxRecDepth 65536 in
set_option maxHeartbeats 4000000 in
theorem met_bf6t (l : Launch) (Z : State) (a0 : Array Value) (hw : ∀ d ∈ tables_1, d.before a0 Z = true) (cK : ClassId) (a : Addr) (o : Addr) (f : Addr) (xl : Int64) (ra : Addr) (pe : Addr) (wa : Addr) (h0 : Heap) (n0 : Nat) (Z0 : n0 ≤ h0.size) (P0 : Exa Z h0 a "com/example/copse/copse/graph/TargetSearch") (P1 : Exa Z h0 o "com/example/copse/copse/graph/TargetSearchArcLimitReachedPinLaw") (P2 : Fld Z h0 o "com/example/copse/copse/graph/TargetSearchArcLimitReachedPinLaw" "degree" "I" (.int (6 : Int32))) (P3 : LamAt h0 f cK a) (P4 : n0 ≤ a) (P5 : n0 ≤ pe) (P6 : a ≠ ra) (P7 : a ≠ pe) (P8 : a ≠ wa) (P9 : a ≠ o) (P10 : a ≠ f) (P11 : ra ≠ pe) (P12 : ra ≠ wa) (P13 : ra ≠ o) (P14 : ra ≠ f) (P15 : pe ≠ wa) (P16 : pe ≠ o) (P17 : pe ≠ f) (P18 : wa ≠ o) (P19 : wa ≠ f) (P20 : o ≠ f) (P21 : Fld Z h0 a "com/example/copse/copse/graph/TargetSearch" "arcLimit" "J" (.long xl)) (P22 : Fld Z h0 a "com/example/copse/copse/graph/TargetSearch" "arcsLookedAt" "J" (.long (0 : Int64))) (P23 : Fld Z h0 a "com/example/copse/copse/graph/TargetSearch" "search" "I" (.int (1 : Int32))) (P24 : Fld Z h0 a "com/example/copse/copse/graph/TargetSearch" "unreached" "I" (.int (1 : Int32))) (P25 : Fld Z h0 a "com/example/copse/copse/graph/TargetSearch" "queued" "I" (.int (0 : Int32))) (P26 : Fld Z h0 a "com/example/copse/copse/graph/TargetSearch" "reachedIn" "[I" (.ref ra)) (P27 : Fld Z h0 a "com/example/copse/copse/graph/TargetSearch" "pending" "[I" (.ref pe)) (P28 : Fld Z h0 a "com/example/copse/copse/graph/TargetSearch" "wantedIn" "[I" (.ref wa)) (P29 : GA Z h0 ra .int 2 (fun i => .int (own_c2 (1 : Int32) (0 : Int32) i))) (P30 : GA Z h0 pe .int 2 (fun i => .int (own_c2 (0 : Int32) (0 : Int32) i))) (P31 : GA Z h0 wa .int 2 (fun i => .int (own_c2 (0 : Int32) (1 : Int32) i))) (P32 : (0 : Int64) < xl) :
  MetH l (⟨"com/example/copse/copse/graph/TargetSearch", "breadthFirst", "(Lcom/example/copse/copse/graph/SuccessorLists;ILjava/util/function/IntPredicate;)Z"⟩ : MethodName) prog_46_method_11_code 11 (some FieldType.boolean) [] rm_bf6t Z cK #[(.ref a), (.ref o), (.int (0 : Int32)), (.ref f)] h0 (Q_bf6t Z cK a o f xl ra pe wa h0 n0) rm_bf6t.cells rm_bf6t.slots := by
 refine own_bodyH pn13 ?_
 intro p e s m below meth c s₁ ct X0 e0 hLam hnamed
 obtain ⟨hx, hZ, hown, hby, hml, hret, hlk, hnm⟩ := ct
 have N0 := Fr.nil n0
 refine castGo (ef_bf6t m cK a o f xl ra pe wa) ?_
 show Gg s₁ m 0 []
 refine go_st (fun _ kq => XS.aloadN X0.here hx rfl (hb hby d12_0) rfl rfl kq) ?_
 show Gg s₁ m 1 [(.ref f)]
 refine go_st (fun _ kq => XS.iloadN X0.here hx rfl (hb hby d12_1) rfl kq) ?_
 show Gg s₁ m 2 [(.int (0 : Int32)), (.ref f)]
 refine go_callLam X0 hx hZ hml hown hLam (wd hw 88 rfl) (wd hw 89 rfl) (wd hw 90 rfl) (wd hw 83 rfl) (wd hw 92 rfl) (wd hw 1 rfl) (wd hw 91 rfl) (wd hw 93 rfl) (wd hw 2 rfl) own_lx1 own_ly1 (by decide) (by decide) own_fw own_cp own_f0 own_f1 own_f4 own_f5 own_f8 e0 P3 P0 (z := (0 : Int32)) (w := (0 : Int32)) (rest := []) (W := 0) (met_13 l Z a0 hw a wa h0 n0 Z0 P28 P31 P23) (fun v h L q => q.1) (by decide) (hb hby d12_2) rfl rfl rfl (lenOf pd4 rfl) pd4 (by show 2 * 0 + _ ≤ _; exact Nat.le_of_eq rfl) (by decide) (by decide) (by decide) (by decide) ?_
 intro T494 L494 X494 q494
 obtain ⟨-, M494, e494⟩ := q494
 have N494 := Fr.app N0 M494
 show Gg T494 m 7 [(.int (0 : Int32))]
 refine go_st (fun _ kq => XS.istore X494.here hx rfl (hb hby d12_7) rfl (l' := #[.val (.ref a), .val (.ref o), .val (.int (0 : Int32)), .val (.ref f), .val (.int (0 : Int32)), .unset, .unset, .unset, .unset, .unset, .unset]) rfl kq) ?_
 show Gg T494 m 9 []
 refine go_st (fun _ kq => XT.iconstV X494.here hx rfl (0 : Int32) (hb hby d12_9) (by decide) kq) ?_
 show Gg T494 m 10 [(.int (0 : Int32))]
 refine go_st (fun _ kq => XS.istore X494.here hx rfl (hb hby d12_10) rfl (l' := #[.val (.ref a), .val (.ref o), .val (.int (0 : Int32)), .val (.ref f), .val (.int (0 : Int32)), .val (.int (0 : Int32)), .unset, .unset, .unset, .unset, .unset]) rfl kq) ?_
 show Gg T494 m 12 []
 refine go_st (fun _ kq => XT.iconstV X494.here hx rfl (0 : Int32) (hb hby d12_12) (by decide) kq) ?_
 show Gg T494 m 13 [(.int (0 : Int32))]
 refine go_st (fun _ kq => XS.istore X494.here hx rfl (hb hby d12_13) rfl (l' := #[.val (.ref a), .val (.ref o), .val (.int (0 : Int32)), .val (.ref f), .val (.int (0 : Int32)), .val (.int (0 : Int32)), .val (.int (0 : Int32)), .unset, .unset, .unset, .unset]) rfl kq) ?_
 show Gg T494 m 15 []
 refine go_st (fun _ kq => XS.aloadN X494.here hx rfl (hb hby d12_15) rfl rfl kq) ?_
 show Gg T494 m 16 [(.ref a)]
 refine go_getF X494 hx hZ hown (host := "") (Or.inl (wd hw 24 rfl)) Via.refl e494 P27 (hb hby d12_16) rfl rfl ?_
 intro T495 X495 e495
 show Gg T495 m 19 [(.ref pe)]
 refine go_st (fun _ kq => XS.iload X495.here hx rfl (hb hby d12_19) rfl kq) ?_
 show Gg T495 m 21 [(.int (0 : Int32)), (.ref pe)]
 refine go_st (fun _ kq => XT.iincV X495.here hx rfl (1 : Int32) (hb hby d12_21) (by decide) rfl (l' := #[.val (.ref a), .val (.ref o), .val (.int (0 : Int32)), .val (.ref f), .val (.int (0 : Int32)), .val (.int (0 : Int32)), .val (.int (1 : Int32)), .unset, .unset, .unset, .unset]) rfl kq) ?_
 show Gg T495 m 24 [(.int (0 : Int32)), (.ref pe)]
 refine go_st (fun _ kq => XS.iloadN X495.here hx rfl (hb hby d12_24) rfl kq) ?_
 show Gg T495 m 25 [(.int (0 : Int32)), (.int (0 : Int32)), (.ref pe)]
 refine go_iast X495 hx hZ e495 P30 (hb hby d12_25) rfl rfl (by decide) ?_
 intro T496 h496 X496 e496 W496 G496
 have N496 := Fr.snoc X496 N494 P5
 have A496 : GA Z h496 pe .int 2 (fun i => .int (own_c2 (0 : Int32) (0 : Int32) i)) := (own_sti (by decide) (own_c20 (0 : Int32) (0 : Int32) (0 : Int32)) G496)
 show Gg T496 m 26 []
 refine go_st (fun _ kq => XS.iload X496.here hx rfl (hb hby d12_26) rfl kq) ?_
 show Gg T496 m 28 [(.int (0 : Int32))]
 refine go_st (fun _ kq => XS.ifNo X496.here hx rfl (hb hby d12_28) rfl (XT.i0_ne_f (by decide)) kq) ?_
 show Gg T496 m 31 []
 refine go_st (fun _ kq => XS.iload X496.here hx rfl (hb hby d12_31) rfl kq) ?_
 show Gg T496 m 33 [(.int (0 : Int32))]
 refine go_st (fun _ kq => XS.iload X496.here hx rfl (hb hby d12_33) rfl kq) ?_
 show Gg T496 m 35 [(.int (1 : Int32)), (.int (0 : Int32))]
 refine go_st (fun _ kq => XS.icmpNo X496.here hx rfl (hb hby d12_35) rfl (XT.ii_ge_f (by decide)) kq) ?_
 show Gg T496 m 38 []
 refine go_st (fun _ kq => XS.aloadN X496.here hx rfl (hb hby d12_38) rfl rfl kq) ?_
 show Gg T496 m 39 [(.ref a)]
 have c497 := Fld.other W496 P22 (Or.inl P7)
 refine go_getF X496 hx hZ hown (host := "") (Or.inl (wd hw 33 rfl)) Via.refl e496 c497 (hb hby d12_39) rfl rfl ?_
 intro T498 X498 e498
 show Gg T498 m 42 [(.long (0 : Int64))]
 refine go_st (fun _ kq => XS.aloadN X498.here hx rfl (hb hby d12_42) rfl rfl kq) ?_
 show Gg T498 m 43 [(.ref a), (.long (0 : Int64))]
 have c499 := Fld.other W496 P21 (Or.inl P7)
 refine go_getF X498 hx hZ hown (host := "") (Or.inl (wd hw 10 rfl)) Via.refl e498 c499 (hb hby d12_43) rfl rfl ?_
 intro T500 X500 e500
 show Gg T500 m 46 [(.long xl), (.long (0 : Int64))]
 refine go_st (fun _ kq => XT.lcmp X500.here hx rfl (hb hby d12_46) rfl kq) ?_
 show Gg T500 m 47 [(.int (XT.cmpL (0 : Int64) xl))]
 refine go_st (fun _ kq => XS.ifNo X500.here hx rfl (hb hby d12_47) rfl (XT.ll_ge_f P32) kq) ?_
 show Gg T500 m 50 []
 refine go_st (fun _ kq => XS.aloadN X500.here hx rfl (hb hby d12_50) rfl rfl kq) ?_
 show Gg T500 m 51 [(.ref a)]
 have c501 := Fld.other W496 P27 (Or.inl P7)
 refine go_getF X500 hx hZ hown (host := "") (Or.inl (wd hw 24 rfl)) Via.refl e500 c501 (hb hby d12_51) rfl rfl ?_
 intro T502 X502 e502
 show Gg T502 m 54 [(.ref pe)]
 refine go_st (fun _ kq => XS.iload X502.here hx rfl (hb hby d12_54) rfl kq) ?_
 show Gg T502 m 56 [(.int (0 : Int32)), (.ref pe)]
 refine go_st (fun _ kq => XT.iincV X502.here hx rfl (1 : Int32) (hb hby d12_56) (by decide) rfl (l' := #[.val (.ref a), .val (.ref o), .val (.int (0 : Int32)), .val (.ref f), .val (.int (0 : Int32)), .val (.int (1 : Int32)), .val (.int (1 : Int32)), .unset, .unset, .unset, .unset]) rfl kq) ?_
 show Gg T502 m 59 [(.int (0 : Int32)), (.ref pe)]
 refine go_iald X502 hx hZ e502 A496 (hb hby d12_59) rfl rfl (by decide) (.int (0 : Int32)) rfl ?_
 show Gg T502 m 60 [(.int (0 : Int32))]
 refine go_st (fun _ kq => XS.istore X502.here hx rfl (hb hby d12_60) rfl (l' := #[.val (.ref a), .val (.ref o), .val (.int (0 : Int32)), .val (.ref f), .val (.int (0 : Int32)), .val (.int (1 : Int32)), .val (.int (1 : Int32)), .val (.int (0 : Int32)), .unset, .unset, .unset]) rfl kq) ?_
 show Gg T502 m 62 []
 refine go_st (fun _ kq => XS.aloadN X502.here hx rfl (hb hby d12_62) rfl rfl kq) ?_
 show Gg T502 m 63 [(.ref o)]
 refine go_st (fun _ kq => XS.iload X502.here hx rfl (hb hby d12_63) rfl kq) ?_
 show Gg T502 m 65 [(.int (0 : Int32)), (.ref o)]
 have c504 := Fld.other W496 P2 (Or.inl (Ne.symm P16))
 have z505 : n0 ≤ h496.size := (Wr.size W496).symm ▸ Z0
 have c506 := Exa.wr W496 P1
 refine go_callF X502 hx hZ hml hown (wd hw 94 rfl) (wd hw 95 rfl) (wd hw 96 rfl) (wd hw 97 rfl) (wd hw 98 rfl) (wd hw 99 rfl) (wd hw 100 rfl) (wd hw 65 rfl) (wd hw 101 rfl) (wd hw 42 rfl) e502 c506 (argsL := [(.int (0 : Int32))]) (rest := []) (W := 0) (met_14 l Z a0 hw o (6 : Int32) h496 n0 z505 c504) (hb hby d12_65) rfl rfl rfl (lenOf pd0 rfl) (by show 2 * 0 + _ ≤ _; exact Nat.le_of_eq rfl) (by decide) (by decide) (by decide) (by decide) (by decide) ?_
 intro T503 v503 L503 X503 q503
 obtain ⟨rfl, M503, e503⟩ := q503
 have N503 := Fr.app N496 M503
 show Gg T503 m 70 [(.int (6 : Int32))]
 refine go_st (fun _ kq => XS.istore X503.here hx rfl (hb hby d12_70) rfl (l' := #[.val (.ref a), .val (.ref o), .val (.int (0 : Int32)), .val (.ref f), .val (.int (0 : Int32)), .val (.int (1 : Int32)), .val (.int (1 : Int32)), .val (.int (0 : Int32)), .val (.int (6 : Int32)), .unset, .unset]) rfl kq) ?_
 show Gg T503 m 72 []
 refine go_st (fun _ kq => XT.iconstV X503.here hx rfl (0 : Int32) (hb hby d12_72) (by decide) kq) ?_
 show Gg T503 m 73 [(.int (0 : Int32))]
 refine go_st (fun _ kq => XS.istore X503.here hx rfl (hb hby d12_73) rfl (l' := #[.val (.ref a), .val (.ref o), .val (.int (0 : Int32)), .val (.ref f), .val (.int (0 : Int32)), .val (.int (1 : Int32)), .val (.int (1 : Int32)), .val (.int (0 : Int32)), .val (.int (6 : Int32)), .val (.int (0 : Int32)), .unset]) rfl kq) ?_
 show Gg T503 m 75 []
 refine go_st (fun _ kq => XS.iload X503.here hx rfl (hb hby d12_75) rfl kq) ?_
 show Gg T503 m 77 [(.int (0 : Int32))]
 refine go_st (fun _ kq => XS.iload X503.here hx rfl (hb hby d12_77) rfl kq) ?_
 show Gg T503 m 79 [(.int (6 : Int32)), (.int (0 : Int32))]
 refine go_st (fun _ kq => XS.icmpNo X503.here hx rfl (hb hby d12_79) rfl (XT.ii_ge_f (by decide)) kq) ?_
 show Gg T503 m 82 []
 refine go_st (fun _ kq => XS.iload X503.here hx rfl (hb hby d12_82) rfl kq) ?_
 show Gg T503 m 84 [(.int (0 : Int32))]
 refine go_st (fun _ kq => XS.ifNo X503.here hx rfl (hb hby d12_84) rfl (XT.i0_ne_f (by decide)) kq) ?_
 show Gg T503 m 87 []
 refine go_st (fun _ kq => XS.aloadN X503.here hx rfl (hb hby d12_87) rfl rfl kq) ?_
 show Gg T503 m 88 [(.ref o)]
 refine go_st (fun _ kq => XS.iload X503.here hx rfl (hb hby d12_88) rfl kq) ?_
 show Gg T503 m 90 [(.int (0 : Int32)), (.ref o)]
 refine go_st (fun _ kq => XS.iload X503.here hx rfl (hb hby d12_90) rfl kq) ?_
 show Gg T503 m 92 [(.int (0 : Int32)), (.int (0 : Int32)), (.ref o)]
 refine go_st (fun _ kq => XT.iincV X503.here hx rfl (1 : Int32) (hb hby d12_92) (by decide) rfl (l' := #[.val (.ref a), .val (.ref o), .val (.int (0 : Int32)), .val (.ref f), .val (.int (0 : Int32)), .val (.int (1 : Int32)), .val (.int (1 : Int32)), .val (.int (0 : Int32)), .val (.int (6 : Int32)), .val (.int (1 : Int32)), .unset]) rfl kq) ?_
 show Gg T503 m 95 [(.int (0 : Int32)), (.int (0 : Int32)), (.ref o)]
 refine go_callF X503 hx hZ hml hown (wd hw 109 rfl) (wd hw 110 rfl) (wd hw 111 rfl) (wd hw 112 rfl) (wd hw 113 rfl) (wd hw 114 rfl) (wd hw 115 rfl) (wd hw 65 rfl) (wd hw 116 rfl) (wd hw 42 rfl) e503 c506 (argsL := [(.int (0 : Int32)), (.int (0 : Int32))]) (rest := []) (W := 0) (met_16 l Z a0 hw o (0 : Int32) (0 : Int32) h496 n0 z505 ) (hb hby d12_95) rfl rfl rfl (lenOf pd3 rfl) (by show 2 * 0 + _ ≤ _; exact Nat.le_of_eq rfl) (by decide) (by decide) (by decide) (by decide) (by decide) ?_
 intro T507 v507 L507 X507 q507
 obtain ⟨rfl, M507, e507⟩ := q507
 have N507 := Fr.app N503 M507
 show Gg T507 m 100 [(.int (0 : Int32))]
 refine go_st (fun _ kq => XS.istore X507.here hx rfl (hb hby d12_100) rfl (l' := #[.val (.ref a), .val (.ref o), .val (.int (0 : Int32)), .val (.ref f), .val (.int (0 : Int32)), .val (.int (1 : Int32)), .val (.int (1 : Int32)), .val (.int (0 : Int32)), .val (.int (6 : Int32)), .val (.int (1 : Int32)), .val (.int (0 : Int32))]) rfl kq) ?_
 show Gg T507 m 102 []
 refine go_st (fun _ kq => XS.aloadN X507.here hx rfl (hb hby d12_102) rfl rfl kq) ?_
 show Gg T507 m 103 [(.ref a)]
 have c508 := Fld.other W496 P26 (Or.inl P7)
 refine go_getF X507 hx hZ hown (host := "") (Or.inl (wd hw 18 rfl)) Via.refl e507 c508 (hb hby d12_103) rfl rfl ?_
 intro T509 X509 e509
 show Gg T509 m 106 [(.ref ra)]
 refine go_st (fun _ kq => XS.iload X509.here hx rfl (hb hby d12_106) rfl kq) ?_
 show Gg T509 m 108 [(.int (0 : Int32)), (.ref ra)]
 have c510 := P29.other W496 P11
 refine go_iald X509 hx hZ e509 c510 (hb hby d12_108) rfl rfl (by decide) (.int (1 : Int32)) rfl ?_
 show Gg T509 m 109 [(.int (1 : Int32))]
 refine go_st (fun _ kq => XS.aloadN X509.here hx rfl (hb hby d12_109) rfl rfl kq) ?_
 show Gg T509 m 110 [(.ref a), (.int (1 : Int32))]
 have c511 := Fld.other W496 P23 (Or.inl P7)
 refine go_getF X509 hx hZ hown (host := "") (Or.inl (wd hw 75 rfl)) Via.refl e509 c511 (hb hby d12_110) rfl rfl ?_
 intro T512 X512 e512
 show Gg T512 m 113 [(.int (1 : Int32)), (.int (1 : Int32))]
 refine go_st (fun _ kq => XS.icmpYes X512.here hx rfl (pc0 := 113) (pc' := 158) rfl (hb hby d12_113) rfl (XT.ii_eq_t (by decide)) (by decide) (by decide) kq) ?_
 show Gg T512 m 158 []
 refine go_st (fun _ kq => XS.goto X512.here hx rfl (pc0 := 158) (pc' := 75) rfl (hb hby d12_158) (by decide) (by decide) kq) ?_
 show Gg T512 m 75 []
 refine go_st (fun _ kq => XS.iload X512.here hx rfl (hb hby d12_75) rfl kq) ?_
 show Gg T512 m 77 [(.int (1 : Int32))]
 refine go_st (fun _ kq => XS.iload X512.here hx rfl (hb hby d12_77) rfl kq) ?_
 show Gg T512 m 79 [(.int (6 : Int32)), (.int (1 : Int32))]
 refine go_st (fun _ kq => XS.icmpNo X512.here hx rfl (hb hby d12_79) rfl (XT.ii_ge_f (by decide)) kq) ?_
 show Gg T512 m 82 []
 refine go_st (fun _ kq => XS.iload X512.here hx rfl (hb hby d12_82) rfl kq) ?_
 show Gg T512 m 84 [(.int (0 : Int32))]
 refine go_st (fun _ kq => XS.ifNo X512.here hx rfl (hb hby d12_84) rfl (XT.i0_ne_f (by decide)) kq) ?_
 show Gg T512 m 87 []
 refine go_st (fun _ kq => XS.aloadN X512.here hx rfl (hb hby d12_87) rfl rfl kq) ?_
 show Gg T512 m 88 [(.ref o)]
 refine go_st (fun _ kq => XS.iload X512.here hx rfl (hb hby d12_88) rfl kq) ?_
 show Gg T512 m 90 [(.int (0 : Int32)), (.ref o)]
 refine go_st (fun _ kq => XS.iload X512.here hx rfl (hb hby d12_90) rfl kq) ?_
 show Gg T512 m 92 [(.int (1 : Int32)), (.int (0 : Int32)), (.ref o)]
 refine go_st (fun _ kq => XT.iincV X512.here hx rfl (1 : Int32) (hb hby d12_92) (by decide) rfl (l' := #[.val (.ref a), .val (.ref o), .val (.int (0 : Int32)), .val (.ref f), .val (.int (0 : Int32)), .val (.int (1 : Int32)), .val (.int (1 : Int32)), .val (.int (0 : Int32)), .val (.int (6 : Int32)), .val (.int (2 : Int32)), .val (.int (0 : Int32))]) rfl kq) ?_
 show Gg T512 m 95 [(.int (1 : Int32)), (.int (0 : Int32)), (.ref o)]
 refine go_callF X512 hx hZ hml hown (wd hw 109 rfl) (wd hw 110 rfl) (wd hw 111 rfl) (wd hw 112 rfl) (wd hw 113 rfl) (wd hw 114 rfl) (wd hw 115 rfl) (wd hw 65 rfl) (wd hw 116 rfl) (wd hw 42 rfl) e512 c506 (argsL := [(.int (0 : Int32)), (.int (1 : Int32))]) (rest := []) (W := 0) (met_16 l Z a0 hw o (0 : Int32) (1 : Int32) h496 n0 z505 ) (hb hby d12_95) rfl rfl rfl (lenOf pd3 rfl) (by show 2 * 0 + _ ≤ _; exact Nat.le_of_eq rfl) (by decide) (by decide) (by decide) (by decide) (by decide) ?_
 intro T513 v513 L513 X513 q513
 obtain ⟨rfl, M513, e513⟩ := q513
 have N513 := Fr.app N507 M513
 show Gg T513 m 100 [(.int (0 : Int32))]
 refine go_st (fun _ kq => XS.istore X513.here hx rfl (hb hby d12_100) rfl (l' := #[.val (.ref a), .val (.ref o), .val (.int (0 : Int32)), .val (.ref f), .val (.int (0 : Int32)), .val (.int (1 : Int32)), .val (.int (1 : Int32)), .val (.int (0 : Int32)), .val (.int (6 : Int32)), .val (.int (2 : Int32)), .val (.int (0 : Int32))]) rfl kq) ?_
 show Gg T513 m 102 []
 refine go_st (fun _ kq => XS.aloadN X513.here hx rfl (hb hby d12_102) rfl rfl kq) ?_
 show Gg T513 m 103 [(.ref a)]
 refine go_getF X513 hx hZ hown (host := "") (Or.inl (wd hw 18 rfl)) Via.refl e513 c508 (hb hby d12_103) rfl rfl ?_
 intro T514 X514 e514
 show Gg T514 m 106 [(.ref ra)]
 refine go_st (fun _ kq => XS.iload X514.here hx rfl (hb hby d12_106) rfl kq) ?_
 show Gg T514 m 108 [(.int (0 : Int32)), (.ref ra)]
 refine go_iald X514 hx hZ e514 c510 (hb hby d12_108) rfl rfl (by decide) (.int (1 : Int32)) rfl ?_
 show Gg T514 m 109 [(.int (1 : Int32))]
 refine go_st (fun _ kq => XS.aloadN X514.here hx rfl (hb hby d12_109) rfl rfl kq) ?_
 show Gg T514 m 110 [(.ref a), (.int (1 : Int32))]
 refine go_getF X514 hx hZ hown (host := "") (Or.inl (wd hw 75 rfl)) Via.refl e514 c511 (hb hby d12_110) rfl rfl ?_
 intro T515 X515 e515
 show Gg T515 m 113 [(.int (1 : Int32)), (.int (1 : Int32))]
 refine go_st (fun _ kq => XS.icmpYes X515.here hx rfl (pc0 := 113) (pc' := 158) rfl (hb hby d12_113) rfl (XT.ii_eq_t (by decide)) (by decide) (by decide) kq) ?_
 show Gg T515 m 158 []
 refine go_st (fun _ kq => XS.goto X515.here hx rfl (pc0 := 158) (pc' := 75) rfl (hb hby d12_158) (by decide) (by decide) kq) ?_
 show Gg T515 m 75 []
 refine go_st (fun _ kq => XS.iload X515.here hx rfl (hb hby d12_75) rfl kq) ?_
 show Gg T515 m 77 [(.int (2 : Int32))]
 refine go_st (fun _ kq => XS.iload X515.here hx rfl (hb hby d12_77) rfl kq) ?_
 show Gg T515 m 79 [(.int (6 : Int32)), (.int (2 : Int32))]
 refine go_st (fun _ kq => XS.icmpNo X515.here hx rfl (hb hby d12_79) rfl (XT.ii_ge_f (by decide)) kq) ?_
 show Gg T515 m 82 []
 refine go_st (fun _ kq => XS.iload X515.here hx rfl (hb hby d12_82) rfl kq) ?_
 show Gg T515 m 84 [(.int (0 : Int32))]
 refine go_st (fun _ kq => XS.ifNo X515.here hx rfl (hb hby d12_84) rfl (XT.i0_ne_f (by decide)) kq) ?_
 show Gg T515 m 87 []
 refine go_st (fun _ kq => XS.aloadN X515.here hx rfl (hb hby d12_87) rfl rfl kq) ?_
 show Gg T515 m 88 [(.ref o)]
 refine go_st (fun _ kq => XS.iload X515.here hx rfl (hb hby d12_88) rfl kq) ?_
 show Gg T515 m 90 [(.int (0 : Int32)), (.ref o)]
 refine go_st (fun _ kq => XS.iload X515.here hx rfl (hb hby d12_90) rfl kq) ?_
 show Gg T515 m 92 [(.int (2 : Int32)), (.int (0 : Int32)), (.ref o)]
 refine go_st (fun _ kq => XT.iincV X515.here hx rfl (1 : Int32) (hb hby d12_92) (by decide) rfl (l' := #[.val (.ref a), .val (.ref o), .val (.int (0 : Int32)), .val (.ref f), .val (.int (0 : Int32)), .val (.int (1 : Int32)), .val (.int (1 : Int32)), .val (.int (0 : Int32)), .val (.int (6 : Int32)), .val (.int (3 : Int32)), .val (.int (0 : Int32))]) rfl kq) ?_
 show Gg T515 m 95 [(.int (2 : Int32)), (.int (0 : Int32)), (.ref o)]
 refine go_callF X515 hx hZ hml hown (wd hw 109 rfl) (wd hw 110 rfl) (wd hw 111 rfl) (wd hw 112 rfl) (wd hw 113 rfl) (wd hw 114 rfl) (wd hw 115 rfl) (wd hw 65 rfl) (wd hw 116 rfl) (wd hw 42 rfl) e515 c506 (argsL := [(.int (0 : Int32)), (.int (2 : Int32))]) (rest := []) (W := 0) (met_16 l Z a0 hw o (0 : Int32) (2 : Int32) h496 n0 z505 ) (hb hby d12_95) rfl rfl rfl (lenOf pd3 rfl) (by show 2 * 0 + _ ≤ _; exact Nat.le_of_eq rfl) (by decide) (by decide) (by decide) (by decide) (by decide) ?_
 intro T516 v516 L516 X516 q516
 obtain ⟨rfl, M516, e516⟩ := q516
 have N516 := Fr.app N513 M516
 show Gg T516 m 100 [(.int (0 : Int32))]
 refine go_st (fun _ kq => XS.istore X516.here hx rfl (hb hby d12_100) rfl (l' := #[.val (.ref a), .val (.ref o), .val (.int (0 : Int32)), .val (.ref f), .val (.int (0 : Int32)), .val (.int (1 : Int32)), .val (.int (1 : Int32)), .val (.int (0 : Int32)), .val (.int (6 : Int32)), .val (.int (3 : Int32)), .val (.int (0 : Int32))]) rfl kq) ?_
 show Gg T516 m 102 []
 refine go_st (fun _ kq => XS.aloadN X516.here hx rfl (hb hby d12_102) rfl rfl kq) ?_
 show Gg T516 m 103 [(.ref a)]
 refine go_getF X516 hx hZ hown (host := "") (Or.inl (wd hw 18 rfl)) Via.refl e516 c508 (hb hby d12_103) rfl rfl ?_
 intro T517 X517 e517
 show Gg T517 m 106 [(.ref ra)]
 refine go_st (fun _ kq => XS.iload X517.here hx rfl (hb hby d12_106) rfl kq) ?_
 show Gg T517 m 108 [(.int (0 : Int32)), (.ref ra)]
 refine go_iald X517 hx hZ e517 c510 (hb hby d12_108) rfl rfl (by decide) (.int (1 : Int32)) rfl ?_
 show Gg T517 m 109 [(.int (1 : Int32))]
 refine go_st (fun _ kq => XS.aloadN X517.here hx rfl (hb hby d12_109) rfl rfl kq) ?_
 show Gg T517 m 110 [(.ref a), (.int (1 : Int32))]
 refine go_getF X517 hx hZ hown (host := "") (Or.inl (wd hw 75 rfl)) Via.refl e517 c511 (hb hby d12_110) rfl rfl ?_
 intro T518 X518 e518
 show Gg T518 m 113 [(.int (1 : Int32)), (.int (1 : Int32))]
 refine go_st (fun _ kq => XS.icmpYes X518.here hx rfl (pc0 := 113) (pc' := 158) rfl (hb hby d12_113) rfl (XT.ii_eq_t (by decide)) (by decide) (by decide) kq) ?_
 show Gg T518 m 158 []
 refine go_st (fun _ kq => XS.goto X518.here hx rfl (pc0 := 158) (pc' := 75) rfl (hb hby d12_158) (by decide) (by decide) kq) ?_
 show Gg T518 m 75 []
 refine go_st (fun _ kq => XS.iload X518.here hx rfl (hb hby d12_75) rfl kq) ?_
 show Gg T518 m 77 [(.int (3 : Int32))]
 refine go_st (fun _ kq => XS.iload X518.here hx rfl (hb hby d12_77) rfl kq) ?_
 show Gg T518 m 79 [(.int (6 : Int32)), (.int (3 : Int32))]
 refine go_st (fun _ kq => XS.icmpNo X518.here hx rfl (hb hby d12_79) rfl (XT.ii_ge_f (by decide)) kq) ?_
 show Gg T518 m 82 []
 refine go_st (fun _ kq => XS.iload X518.here hx rfl (hb hby d12_82) rfl kq) ?_
 show Gg T518 m 84 [(.int (0 : Int32))]
 refine go_st (fun _ kq => XS.ifNo X518.here hx rfl (hb hby d12_84) rfl (XT.i0_ne_f (by decide)) kq) ?_
 show Gg T518 m 87 []
 refine go_st (fun _ kq => XS.aloadN X518.here hx rfl (hb hby d12_87) rfl rfl kq) ?_
 show Gg T518 m 88 [(.ref o)]
 refine go_st (fun _ kq => XS.iload X518.here hx rfl (hb hby d12_88) rfl kq) ?_
 show Gg T518 m 90 [(.int (0 : Int32)), (.ref o)]
 refine go_st (fun _ kq => XS.iload X518.here hx rfl (hb hby d12_90) rfl kq) ?_
 show Gg T518 m 92 [(.int (3 : Int32)), (.int (0 : Int32)), (.ref o)]
 refine go_st (fun _ kq => XT.iincV X518.here hx rfl (1 : Int32) (hb hby d12_92) (by decide) rfl (l' := #[.val (.ref a), .val (.ref o), .val (.int (0 : Int32)), .val (.ref f), .val (.int (0 : Int32)), .val (.int (1 : Int32)), .val (.int (1 : Int32)), .val (.int (0 : Int32)), .val (.int (6 : Int32)), .val (.int (4 : Int32)), .val (.int (0 : Int32))]) rfl kq) ?_
 show Gg T518 m 95 [(.int (3 : Int32)), (.int (0 : Int32)), (.ref o)]
 refine go_callF X518 hx hZ hml hown (wd hw 109 rfl) (wd hw 110 rfl) (wd hw 111 rfl) (wd hw 112 rfl) (wd hw 113 rfl) (wd hw 114 rfl) (wd hw 115 rfl) (wd hw 65 rfl) (wd hw 116 rfl) (wd hw 42 rfl) e518 c506 (argsL := [(.int (0 : Int32)), (.int (3 : Int32))]) (rest := []) (W := 0) (met_16 l Z a0 hw o (0 : Int32) (3 : Int32) h496 n0 z505 ) (hb hby d12_95) rfl rfl rfl (lenOf pd3 rfl) (by show 2 * 0 + _ ≤ _; exact Nat.le_of_eq rfl) (by decide) (by decide) (by decide) (by decide) (by decide) ?_
 intro T519 v519 L519 X519 q519
 obtain ⟨rfl, M519, e519⟩ := q519
 have N519 := Fr.app N516 M519
 show Gg T519 m 100 [(.int (0 : Int32))]
 refine go_st (fun _ kq => XS.istore X519.here hx rfl (hb hby d12_100) rfl (l' := #[.val (.ref a), .val (.ref o), .val (.int (0 : Int32)), .val (.ref f), .val (.int (0 : Int32)), .val (.int (1 : Int32)), .val (.int (1 : Int32)), .val (.int (0 : Int32)), .val (.int (6 : Int32)), .val (.int (4 : Int32)), .val (.int (0 : Int32))]) rfl kq) ?_
 show Gg T519 m 102 []
 refine go_st (fun _ kq => XS.aloadN X519.here hx rfl (hb hby d12_102) rfl rfl kq) ?_
 show Gg T519 m 103 [(.ref a)]
 refine go_getF X519 hx hZ hown (host := "") (Or.inl (wd hw 18 rfl)) Via.refl e519 c508 (hb hby d12_103) rfl rfl ?_
 intro T520 X520 e520
 show Gg T520 m 106 [(.ref ra)]
 refine go_st (fun _ kq => XS.iload X520.here hx rfl (hb hby d12_106) rfl kq) ?_
 show Gg T520 m 108 [(.int (0 : Int32)), (.ref ra)]
 refine go_iald X520 hx hZ e520 c510 (hb hby d12_108) rfl rfl (by decide) (.int (1 : Int32)) rfl ?_
 show Gg T520 m 109 [(.int (1 : Int32))]
 refine go_st (fun _ kq => XS.aloadN X520.here hx rfl (hb hby d12_109) rfl rfl kq) ?_
 show Gg T520 m 110 [(.ref a), (.int (1 : Int32))]
 refine go_getF X520 hx hZ hown (host := "") (Or.inl (wd hw 75 rfl)) Via.refl e520 c511 (hb hby d12_110) rfl rfl ?_
 intro T521 X521 e521
 show Gg T521 m 113 [(.int (1 : Int32)), (.int (1 : Int32))]
 refine go_st (fun _ kq => XS.icmpYes X521.here hx rfl (pc0 := 113) (pc' := 158) rfl (hb hby d12_113) rfl (XT.ii_eq_t (by decide)) (by decide) (by decide) kq) ?_
 show Gg T521 m 158 []
 refine go_st (fun _ kq => XS.goto X521.here hx rfl (pc0 := 158) (pc' := 75) rfl (hb hby d12_158) (by decide) (by decide) kq) ?_
 show Gg T521 m 75 []
 refine go_st (fun _ kq => XS.iload X521.here hx rfl (hb hby d12_75) rfl kq) ?_
 show Gg T521 m 77 [(.int (4 : Int32))]
 refine go_st (fun _ kq => XS.iload X521.here hx rfl (hb hby d12_77) rfl kq) ?_
 show Gg T521 m 79 [(.int (6 : Int32)), (.int (4 : Int32))]
 refine go_st (fun _ kq => XS.icmpNo X521.here hx rfl (hb hby d12_79) rfl (XT.ii_ge_f (by decide)) kq) ?_
 show Gg T521 m 82 []
 refine go_st (fun _ kq => XS.iload X521.here hx rfl (hb hby d12_82) rfl kq) ?_
 show Gg T521 m 84 [(.int (0 : Int32))]
 refine go_st (fun _ kq => XS.ifNo X521.here hx rfl (hb hby d12_84) rfl (XT.i0_ne_f (by decide)) kq) ?_
 show Gg T521 m 87 []
 refine go_st (fun _ kq => XS.aloadN X521.here hx rfl (hb hby d12_87) rfl rfl kq) ?_
 show Gg T521 m 88 [(.ref o)]
 refine go_st (fun _ kq => XS.iload X521.here hx rfl (hb hby d12_88) rfl kq) ?_
 show Gg T521 m 90 [(.int (0 : Int32)), (.ref o)]
 refine go_st (fun _ kq => XS.iload X521.here hx rfl (hb hby d12_90) rfl kq) ?_
 show Gg T521 m 92 [(.int (4 : Int32)), (.int (0 : Int32)), (.ref o)]
 refine go_st (fun _ kq => XT.iincV X521.here hx rfl (1 : Int32) (hb hby d12_92) (by decide) rfl (l' := #[.val (.ref a), .val (.ref o), .val (.int (0 : Int32)), .val (.ref f), .val (.int (0 : Int32)), .val (.int (1 : Int32)), .val (.int (1 : Int32)), .val (.int (0 : Int32)), .val (.int (6 : Int32)), .val (.int (5 : Int32)), .val (.int (0 : Int32))]) rfl kq) ?_
 show Gg T521 m 95 [(.int (4 : Int32)), (.int (0 : Int32)), (.ref o)]
 refine go_callF X521 hx hZ hml hown (wd hw 109 rfl) (wd hw 110 rfl) (wd hw 111 rfl) (wd hw 112 rfl) (wd hw 113 rfl) (wd hw 114 rfl) (wd hw 115 rfl) (wd hw 65 rfl) (wd hw 116 rfl) (wd hw 42 rfl) e521 c506 (argsL := [(.int (0 : Int32)), (.int (4 : Int32))]) (rest := []) (W := 0) (met_16 l Z a0 hw o (0 : Int32) (4 : Int32) h496 n0 z505 ) (hb hby d12_95) rfl rfl rfl (lenOf pd3 rfl) (by show 2 * 0 + _ ≤ _; exact Nat.le_of_eq rfl) (by decide) (by decide) (by decide) (by decide) (by decide) ?_
 intro T522 v522 L522 X522 q522
 obtain ⟨rfl, M522, e522⟩ := q522
 have N522 := Fr.app N519 M522
 show Gg T522 m 100 [(.int (0 : Int32))]
 refine go_st (fun _ kq => XS.istore X522.here hx rfl (hb hby d12_100) rfl (l' := #[.val (.ref a), .val (.ref o), .val (.int (0 : Int32)), .val (.ref f), .val (.int (0 : Int32)), .val (.int (1 : Int32)), .val (.int (1 : Int32)), .val (.int (0 : Int32)), .val (.int (6 : Int32)), .val (.int (5 : Int32)), .val (.int (0 : Int32))]) rfl kq) ?_
 show Gg T522 m 102 []
 refine go_st (fun _ kq => XS.aloadN X522.here hx rfl (hb hby d12_102) rfl rfl kq) ?_
 show Gg T522 m 103 [(.ref a)]
 refine go_getF X522 hx hZ hown (host := "") (Or.inl (wd hw 18 rfl)) Via.refl e522 c508 (hb hby d12_103) rfl rfl ?_
 intro T523 X523 e523
 show Gg T523 m 106 [(.ref ra)]
 refine go_st (fun _ kq => XS.iload X523.here hx rfl (hb hby d12_106) rfl kq) ?_
 show Gg T523 m 108 [(.int (0 : Int32)), (.ref ra)]
 refine go_iald X523 hx hZ e523 c510 (hb hby d12_108) rfl rfl (by decide) (.int (1 : Int32)) rfl ?_
 show Gg T523 m 109 [(.int (1 : Int32))]
 refine go_st (fun _ kq => XS.aloadN X523.here hx rfl (hb hby d12_109) rfl rfl kq) ?_
 show Gg T523 m 110 [(.ref a), (.int (1 : Int32))]
 refine go_getF X523 hx hZ hown (host := "") (Or.inl (wd hw 75 rfl)) Via.refl e523 c511 (hb hby d12_110) rfl rfl ?_
 intro T524 X524 e524
 show Gg T524 m 113 [(.int (1 : Int32)), (.int (1 : Int32))]
 refine go_st (fun _ kq => XS.icmpYes X524.here hx rfl (pc0 := 113) (pc' := 158) rfl (hb hby d12_113) rfl (XT.ii_eq_t (by decide)) (by decide) (by decide) kq) ?_
 show Gg T524 m 158 []
 refine go_st (fun _ kq => XS.goto X524.here hx rfl (pc0 := 158) (pc' := 75) rfl (hb hby d12_158) (by decide) (by decide) kq) ?_
 show Gg T524 m 75 []
 refine go_st (fun _ kq => XS.iload X524.here hx rfl (hb hby d12_75) rfl kq) ?_
 show Gg T524 m 77 [(.int (5 : Int32))]
 refine go_st (fun _ kq => XS.iload X524.here hx rfl (hb hby d12_77) rfl kq) ?_
 show Gg T524 m 79 [(.int (6 : Int32)), (.int (5 : Int32))]
 refine go_st (fun _ kq => XS.icmpNo X524.here hx rfl (hb hby d12_79) rfl (XT.ii_ge_f (by decide)) kq) ?_
 show Gg T524 m 82 []
 refine go_st (fun _ kq => XS.iload X524.here hx rfl (hb hby d12_82) rfl kq) ?_
 show Gg T524 m 84 [(.int (0 : Int32))]
 refine go_st (fun _ kq => XS.ifNo X524.here hx rfl (hb hby d12_84) rfl (XT.i0_ne_f (by decide)) kq) ?_
 show Gg T524 m 87 []
 refine go_st (fun _ kq => XS.aloadN X524.here hx rfl (hb hby d12_87) rfl rfl kq) ?_
 show Gg T524 m 88 [(.ref o)]
 refine go_st (fun _ kq => XS.iload X524.here hx rfl (hb hby d12_88) rfl kq) ?_
 show Gg T524 m 90 [(.int (0 : Int32)), (.ref o)]
 refine go_st (fun _ kq => XS.iload X524.here hx rfl (hb hby d12_90) rfl kq) ?_
 show Gg T524 m 92 [(.int (5 : Int32)), (.int (0 : Int32)), (.ref o)]
 refine go_st (fun _ kq => XT.iincV X524.here hx rfl (1 : Int32) (hb hby d12_92) (by decide) rfl (l' := #[.val (.ref a), .val (.ref o), .val (.int (0 : Int32)), .val (.ref f), .val (.int (0 : Int32)), .val (.int (1 : Int32)), .val (.int (1 : Int32)), .val (.int (0 : Int32)), .val (.int (6 : Int32)), .val (.int (6 : Int32)), .val (.int (0 : Int32))]) rfl kq) ?_
 show Gg T524 m 95 [(.int (5 : Int32)), (.int (0 : Int32)), (.ref o)]
 refine go_callF X524 hx hZ hml hown (wd hw 109 rfl) (wd hw 110 rfl) (wd hw 111 rfl) (wd hw 112 rfl) (wd hw 113 rfl) (wd hw 114 rfl) (wd hw 115 rfl) (wd hw 65 rfl) (wd hw 116 rfl) (wd hw 42 rfl) e524 c506 (argsL := [(.int (0 : Int32)), (.int (5 : Int32))]) (rest := []) (W := 0) (met_16 l Z a0 hw o (0 : Int32) (5 : Int32) h496 n0 z505 ) (hb hby d12_95) rfl rfl rfl (lenOf pd3 rfl) (by show 2 * 0 + _ ≤ _; exact Nat.le_of_eq rfl) (by decide) (by decide) (by decide) (by decide) (by decide) ?_
 intro T525 v525 L525 X525 q525
 obtain ⟨rfl, M525, e525⟩ := q525
 have N525 := Fr.app N522 M525
 show Gg T525 m 100 [(.int (0 : Int32))]
 refine go_st (fun _ kq => XS.istore X525.here hx rfl (hb hby d12_100) rfl (l' := #[.val (.ref a), .val (.ref o), .val (.int (0 : Int32)), .val (.ref f), .val (.int (0 : Int32)), .val (.int (1 : Int32)), .val (.int (1 : Int32)), .val (.int (0 : Int32)), .val (.int (6 : Int32)), .val (.int (6 : Int32)), .val (.int (0 : Int32))]) rfl kq) ?_
 show Gg T525 m 102 []
 refine go_st (fun _ kq => XS.aloadN X525.here hx rfl (hb hby d12_102) rfl rfl kq) ?_
 show Gg T525 m 103 [(.ref a)]
 refine go_getF X525 hx hZ hown (host := "") (Or.inl (wd hw 18 rfl)) Via.refl e525 c508 (hb hby d12_103) rfl rfl ?_
 intro T526 X526 e526
 show Gg T526 m 106 [(.ref ra)]
 refine go_st (fun _ kq => XS.iload X526.here hx rfl (hb hby d12_106) rfl kq) ?_
 show Gg T526 m 108 [(.int (0 : Int32)), (.ref ra)]
 refine go_iald X526 hx hZ e526 c510 (hb hby d12_108) rfl rfl (by decide) (.int (1 : Int32)) rfl ?_
 show Gg T526 m 109 [(.int (1 : Int32))]
 refine go_st (fun _ kq => XS.aloadN X526.here hx rfl (hb hby d12_109) rfl rfl kq) ?_
 show Gg T526 m 110 [(.ref a), (.int (1 : Int32))]
 refine go_getF X526 hx hZ hown (host := "") (Or.inl (wd hw 75 rfl)) Via.refl e526 c511 (hb hby d12_110) rfl rfl ?_
 intro T527 X527 e527
 show Gg T527 m 113 [(.int (1 : Int32)), (.int (1 : Int32))]
 refine go_st (fun _ kq => XS.icmpYes X527.here hx rfl (pc0 := 113) (pc' := 158) rfl (hb hby d12_113) rfl (XT.ii_eq_t (by decide)) (by decide) (by decide) kq) ?_
 show Gg T527 m 158 []
 refine go_st (fun _ kq => XS.goto X527.here hx rfl (pc0 := 158) (pc' := 75) rfl (hb hby d12_158) (by decide) (by decide) kq) ?_
 show Gg T527 m 75 []
 refine go_st (fun _ kq => XS.iload X527.here hx rfl (hb hby d12_75) rfl kq) ?_
 show Gg T527 m 77 [(.int (6 : Int32))]
 refine go_st (fun _ kq => XS.iload X527.here hx rfl (hb hby d12_77) rfl kq) ?_
 show Gg T527 m 79 [(.int (6 : Int32)), (.int (6 : Int32))]
 refine go_st (fun _ kq => XS.icmpYes X527.here hx rfl (pc0 := 79) (pc' := 161) rfl (hb hby d12_79) rfl (XT.ii_ge_t (by decide)) (by decide) (by decide) kq) ?_
 show Gg T527 m 161 []
 refine go_st (fun _ kq => XS.aloadN X527.here hx rfl (hb hby d12_161) rfl rfl kq) ?_
 show Gg T527 m 162 [(.ref a)]
 refine go_st (fun _ kq => XS.dup X527.here hx rfl (hb hby d12_162) rfl rfl kq) ?_
 show Gg T527 m 163 [(.ref a), (.ref a)]
 refine go_getF X527 hx hZ hown (host := "") (Or.inl (wd hw 33 rfl)) Via.refl e527 c497 (hb hby d12_163) rfl rfl ?_
 intro T528 X528 e528
 show Gg T528 m 166 [(.long (0 : Int64)), (.ref a)]
 refine go_st (fun _ kq => XS.iload X528.here hx rfl (hb hby d12_166) rfl kq) ?_
 show Gg T528 m 168 [(.int (6 : Int32)), (.long (0 : Int64)), (.ref a)]
 refine go_st (fun _ kq => XT.i2l X528.here hx rfl (hb hby d12_168) rfl kq) ?_
 rw [show (6 : Int32).toInt64 = (6 : Int64) from by decide +kernel]
 show Gg T528 m 169 [(.long (6 : Int64)), (.long (0 : Int64)), (.ref a)]
 refine go_st (fun _ kq => XT.ladd X528.here hx rfl (hb hby d12_169) rfl kq) ?_
 rw [show ((0 : Int64) + (6 : Int64)) = (6 : Int64) from by decide +kernel]
 show Gg T528 m 170 [(.long (6 : Int64)), (.ref a)]
 have c529 := Exa.wr W496 P0
 refine go_putF X528 hx hZ hown (host := "") (Or.inl (wd hw 33 rfl)) Via.refl e528 c497 c529 (Or.inl (wd hw 34 rfl)) (wd hw 1 rfl) (ty := .long) (by decide) rfl rfl (hb hby d12_170) rfl rfl ?_
 intro T530 h530 X530 e530 W530
 have N530 := Fr.snoc X530 N525 P4
 have F530 : Fld Z h530 a "com/example/copse/copse/graph/TargetSearch" "arcsLookedAt" "J" (.long (6 : Int64)) := Fld.same W530 c497
 show Gg T530 m 173 []
 refine go_st (fun _ kq => XS.goto X530.here hx rfl (pc0 := 173) (pc' := 26) rfl (hb hby d12_173) (by decide) (by decide) kq) ?_
 show Gg T530 m 26 []
 refine go_st (fun _ kq => XS.iload X530.here hx rfl (hb hby d12_26) rfl kq) ?_
 show Gg T530 m 28 [(.int (0 : Int32))]
 refine go_st (fun _ kq => XS.ifNo X530.here hx rfl (hb hby d12_28) rfl (XT.i0_ne_f (by decide)) kq) ?_
 show Gg T530 m 31 []
 refine go_st (fun _ kq => XS.iload X530.here hx rfl (hb hby d12_31) rfl kq) ?_
 show Gg T530 m 33 [(.int (1 : Int32))]
 refine go_st (fun _ kq => XS.iload X530.here hx rfl (hb hby d12_33) rfl kq) ?_
 show Gg T530 m 35 [(.int (1 : Int32)), (.int (1 : Int32))]
 refine go_st (fun _ kq => XS.icmpYes X530.here hx rfl (pc0 := 35) (pc' := 176) rfl (hb hby d12_35) rfl (XT.ii_ge_t (by decide)) (by decide) (by decide) kq) ?_
 show Gg T530 m 176 []
 refine go_st (fun _ kq => XS.aloadN X530.here hx rfl (hb hby d12_176) rfl rfl kq) ?_
 show Gg T530 m 177 [(.ref a)]
 refine go_st (fun _ kq => XS.iload X530.here hx rfl (hb hby d12_177) rfl kq) ?_
 show Gg T530 m 179 [(.int (1 : Int32)), (.ref a)]
 have c531 := Fld.other W496 P25 (Or.inl P7)
 have c532 := Fld.other W530 c531 (Or.inr (slot_ne (a0 := a0) (t := .int) (t' := .long) (Or.inl (wd hw 103 rfl)) (Or.inl (wd hw 34 rfl)) (by decide) (by decide) (by decide)))
 have c533 := Exa.wr W530 c529
 refine go_putF X530 hx hZ hown (host := "") (Or.inl (wd hw 102 rfl)) Via.refl e530 c532 c533 (Or.inl (wd hw 103 rfl)) (wd hw 1 rfl) (ty := .int) (by decide) rfl rfl (hb hby d12_179) rfl rfl ?_
 intro T534 h534 X534 e534 W534
 have N534 := Fr.snoc X534 N530 P4
 have F534 : Fld Z h534 a "com/example/copse/copse/graph/TargetSearch" "queued" "I" (.int (1 : Int32)) := Fld.same W534 c532
 show Gg T534 m 182 []
 refine go_st (fun _ kq => XS.iload X534.here hx rfl (hb hby d12_182) rfl kq) ?_
 show Gg T534 m 184 [(.int (0 : Int32))]
 have c535 := Fld.other W530 c499 (Or.inr (slot_ne (a0 := a0) (t := .long) (t' := .long) (Or.inl (wd hw 11 rfl)) (Or.inl (wd hw 34 rfl)) (by decide) (by decide) (by decide)))
 have c536 := Fld.other W534 c535 (Or.inr (slot_ne (a0 := a0) (t := .long) (t' := .int) (Or.inl (wd hw 11 rfl)) (Or.inl (wd hw 103 rfl)) (by decide) (by decide) (by decide)))
 have c537 := Fld.other W534 F530 (Or.inr (slot_ne (a0 := a0) (t := .long) (t' := .int) (Or.inl (wd hw 34 rfl)) (Or.inl (wd hw 103 rfl)) (by decide) (by decide) (by decide)))
 have c538 := Fld.other W530 c511 (Or.inr (slot_ne (a0 := a0) (t := .int) (t' := .long) (Or.inl (wd hw 76 rfl)) (Or.inl (wd hw 34 rfl)) (by decide) (by decide) (by decide)))
 have c539 := Fld.other W534 c538 (Or.inr (slot_ne (a0 := a0) (t := .int) (t' := .int) (Or.inl (wd hw 76 rfl)) (Or.inl (wd hw 103 rfl)) (by decide) (by decide) (by decide)))
 have c540 := Fld.other W496 P24 (Or.inl P7)
 have c541 := Fld.other W530 c540 (Or.inr (slot_ne (a0 := a0) (t := .int) (t' := .long) (Or.inl (wd hw 79 rfl)) (Or.inl (wd hw 34 rfl)) (by decide) (by decide) (by decide)))
 have c542 := Fld.other W534 c541 (Or.inr (slot_ne (a0 := a0) (t := .int) (t' := .int) (Or.inl (wd hw 79 rfl)) (Or.inl (wd hw 103 rfl)) (by decide) (by decide) (by decide)))
 have c543 := Fld.other W530 c508 (Or.inr (slot_ne (a0 := a0) (t := (.array .int)) (t' := .long) (Or.inr (wd hw 19 rfl)) (Or.inl (wd hw 34 rfl)) (by decide) (by decide) (by decide)))
 have c544 := Fld.other W534 c543 (Or.inr (slot_ne (a0 := a0) (t := (.array .int)) (t' := .int) (Or.inr (wd hw 19 rfl)) (Or.inl (wd hw 103 rfl)) (by decide) (by decide) (by decide)))
 have c545 := Fld.other W530 c501 (Or.inr (slot_ne (a0 := a0) (t := (.array .int)) (t' := .long) (Or.inr (wd hw 25 rfl)) (Or.inl (wd hw 34 rfl)) (by decide) (by decide) (by decide)))
 have c546 := Fld.other W534 c545 (Or.inr (slot_ne (a0 := a0) (t := (.array .int)) (t' := .int) (Or.inr (wd hw 25 rfl)) (Or.inl (wd hw 103 rfl)) (by decide) (by decide) (by decide)))
 have c547 := Fld.other W496 P28 (Or.inl P7)
 have c548 := Fld.other W530 c547 (Or.inr (slot_ne (a0 := a0) (t := (.array .int)) (t' := .long) (Or.inr (wd hw 27 rfl)) (Or.inl (wd hw 34 rfl)) (by decide) (by decide) (by decide)))
 have c549 := Fld.other W534 c548 (Or.inr (slot_ne (a0 := a0) (t := (.array .int)) (t' := .int) (Or.inr (wd hw 27 rfl)) (Or.inl (wd hw 103 rfl)) (by decide) (by decide) (by decide)))
 exact go_retB (w := (0 : Int32)) X534 hx hlk hret (hb hby d12_184) (by decide) (by decide) (by decide) (by rw [e534]; exact ⟨rfl, N534, (Keep.wr (Keep.wr (Keep.wr (Keep.refl h0 [a, pe]) W496 (Or.inl (by simp))) W530 (Or.inl (by simp))) W534 (Or.inl (by simp))), c536, c537, c539, c542, F534, c544, c546, c549⟩)
def Q_bf7t (Z : State) (cK : ClassId) (a : Addr) (o : Addr) (f : Addr) (xl : Int64) (ra : Addr) (pe : Addr) (wa : Addr) (h0 : Heap) (n0 : Nat) (v : Option Value) (h : Heap) (L : List Loc) : Prop := v = some (.int (0 : Int32)) ∧ Fr n0 L ∧ Keep h0 h [a, pe] ∧ Fld Z h a "com/example/copse/copse/graph/TargetSearch" "arcLimit" "J" (.long xl) ∧ Fld Z h a "com/example/copse/copse/graph/TargetSearch" "arcsLookedAt" "J" (.long (7 : Int64)) ∧ Fld Z h a "com/example/copse/copse/graph/TargetSearch" "search" "I" (.int (1 : Int32)) ∧ Fld Z h a "com/example/copse/copse/graph/TargetSearch" "unreached" "I" (.int (1 : Int32)) ∧ Fld Z h a "com/example/copse/copse/graph/TargetSearch" "queued" "I" (.int (1 : Int32)) ∧ Fld Z h a "com/example/copse/copse/graph/TargetSearch" "reachedIn" "[I" (.ref ra) ∧ Fld Z h a "com/example/copse/copse/graph/TargetSearch" "pending" "[I" (.ref pe) ∧ Fld Z h a "com/example/copse/copse/graph/TargetSearch" "wantedIn" "[I" (.ref wa)
theorem ef_bf7t (m : MethodId) (cK : ClassId) (a : Addr) (o : Addr) (f : Addr) (xl : Int64) (ra : Addr) (pe : Addr) (wa : Addr) : entryFrame m #[(.ref a), (.ref o), (.int (0 : Int32)), (.ref f)] 11 = mkF m 0 #[.val (.ref a), .val (.ref o), .val (.int (0 : Int32)), .val (.ref f), .unset, .unset, .unset, .unset, .unset, .unset, .unset] [] := by first | (simp [entryFrame, mkF, argsToLocals, Value.category]; done) | rfl
abbrev rm_bf7t : Room := ({ frames := 2, cells := 0, slots := 0, locals := 26 } : Room)
set_option maxRecDepth 65536 in
set_option maxHeartbeats 4000000 in
theorem met_bf7t (l : Launch) (Z : State) (a0 : Array Value) (hw : ∀ d ∈ tables_1, d.before a0 Z = true) (cK : ClassId) (a : Addr) (o : Addr) (f : Addr) (xl : Int64) (ra : Addr) (pe : Addr) (wa : Addr) (h0 : Heap) (n0 : Nat) (Z0 : n0 ≤ h0.size) (P0 : Exa Z h0 a "com/example/copse/copse/graph/TargetSearch") (P1 : Exa Z h0 o "com/example/copse/copse/graph/TargetSearchArcLimitReachedPinLaw") (P2 : Fld Z h0 o "com/example/copse/copse/graph/TargetSearchArcLimitReachedPinLaw" "degree" "I" (.int (7 : Int32))) (P3 : LamAt h0 f cK a) (P4 : n0 ≤ a) (P5 : n0 ≤ pe) (P6 : a ≠ ra) (P7 : a ≠ pe) (P8 : a ≠ wa) (P9 : a ≠ o) (P10 : a ≠ f) (P11 : ra ≠ pe) (P12 : ra ≠ wa) (P13 : ra ≠ o) (P14 : ra ≠ f) (P15 : pe ≠ wa) (P16 : pe ≠ o) (P17 : pe ≠ f) (P18 : wa ≠ o) (P19 : wa ≠ f) (P20 : o ≠ f) (P21 : Fld Z h0 a "com/example/copse/copse/graph/TargetSearch" "arcLimit" "J" (.long xl)) (P22 : Fld Z h0 a "com/example/copse/copse/graph/TargetSearch" "arcsLookedAt" "J" (.long (0 : Int64))) (P23 : Fld Z h0 a "com/example/copse/copse/graph/TargetSearch" "search" "I" (.int (1 : Int32))) (P24 : Fld Z h0 a "com/example/copse/copse/graph/TargetSearch" "unreached" "I" (.int (1 : Int32))) (P25 : Fld Z h0 a "com/example/copse/copse/graph/TargetSearch" "queued" "I" (.int (0 : Int32))) (P26 : Fld Z h0 a "com/example/copse/copse/graph/TargetSearch" "reachedIn" "[I" (.ref ra)) (P27 : Fld Z h0 a "com/example/copse/copse/graph/TargetSearch" "pending" "[I" (.ref pe)) (P28 : Fld Z h0 a "com/example/copse/copse/graph/TargetSearch" "wantedIn" "[I" (.ref wa)) (P29 : GA Z h0 ra .int 2 (fun i => .int (own_c2 (1 : Int32) (0 : Int32) i))) (P30 : GA Z h0 pe .int 2 (fun i => .int (own_c2 (0 : Int32) (0 : Int32) i))) (P31 : GA Z h0 wa .int 2 (fun i => .int (own_c2 (0 : Int32) (1 : Int32) i))) (P32 : (0 : Int64) < xl) :
  MetH l (⟨"com/example/copse/copse/graph/TargetSearch", "breadthFirst", "(Lcom/example/copse/copse/graph/SuccessorLists;ILjava/util/function/IntPredicate;)Z"⟩ : MethodName) prog_46_method_11_code 11 (some FieldType.boolean) [] rm_bf7t Z cK #[(.ref a), (.ref o), (.int (0 : Int32)), (.ref f)] h0 (Q_bf7t Z cK a o f xl ra pe wa h0 n0) rm_bf7t.cells rm_bf7t.slots := by
 refine own_bodyH pn13 ?_
 intro p e s m below meth c s₁ ct X0 e0 hLam hnamed
 obtain ⟨hx, hZ, hown, hby, hml, hret, hlk, hnm⟩ := ct
 have N0 := Fr.nil n0
 refine castGo (ef_bf7t m cK a o f xl ra pe wa) ?_
 show Gg s₁ m 0 []
 refine go_st (fun _ kq => XS.aloadN X0.here hx rfl (hb hby d12_0) rfl rfl kq) ?_
 show Gg s₁ m 1 [(.ref f)]
 refine go_st (fun _ kq => XS.iloadN X0.here hx rfl (hb hby d12_1) rfl kq) ?_
 show Gg s₁ m 2 [(.int (0 : Int32)), (.ref f)]
 refine go_callLam X0 hx hZ hml hown hLam (wd hw 88 rfl) (wd hw 89 rfl) (wd hw 90 rfl) (wd hw 83 rfl) (wd hw 92 rfl) (wd hw 1 rfl) (wd hw 91 rfl) (wd hw 93 rfl) (wd hw 2 rfl) own_lx1 own_ly1 (by decide) (by decide) own_fw own_cp own_f0 own_f1 own_f4 own_f5 own_f8 e0 P3 P0 (z := (0 : Int32)) (w := (0 : Int32)) (rest := []) (W := 0) (met_13 l Z a0 hw a wa h0 n0 Z0 P28 P31 P23) (fun v h L q => q.1) (by decide) (hb hby d12_2) rfl rfl rfl (lenOf pd4 rfl) pd4 (by show 2 * 0 + _ ≤ _; exact Nat.le_of_eq rfl) (by decide) (by decide) (by decide) (by decide) ?_
 intro T550 L550 X550 q550
 obtain ⟨-, M550, e550⟩ := q550
 have N550 := Fr.app N0 M550
 show Gg T550 m 7 [(.int (0 : Int32))]
 refine go_st (fun _ kq => XS.istore X550.here hx rfl (hb hby d12_7) rfl (l' := #[.val (.ref a), .val (.ref o), .val (.int (0 : Int32)), .val (.ref f), .val (.int (0 : Int32)), .unset, .unset, .unset, .unset, .unset, .unset]) rfl kq) ?_
 show Gg T550 m 9 []
 refine go_st (fun _ kq => XT.iconstV X550.here hx rfl (0 : Int32) (hb hby d12_9) (by decide) kq) ?_
 show Gg T550 m 10 [(.int (0 : Int32))]
 refine go_st (fun _ kq => XS.istore X550.here hx rfl (hb hby d12_10) rfl (l' := #[.val (.ref a), .val (.ref o), .val (.int (0 : Int32)), .val (.ref f), .val (.int (0 : Int32)), .val (.int (0 : Int32)), .unset, .unset, .unset, .unset, .unset]) rfl kq) ?_
 show Gg T550 m 12 []
 refine go_st (fun _ kq => XT.iconstV X550.here hx rfl (0 : Int32) (hb hby d12_12) (by decide) kq) ?_
 show Gg T550 m 13 [(.int (0 : Int32))]
 refine go_st (fun _ kq => XS.istore X550.here hx rfl (hb hby d12_13) rfl (l' := #[.val (.ref a), .val (.ref o), .val (.int (0 : Int32)), .val (.ref f), .val (.int (0 : Int32)), .val (.int (0 : Int32)), .val (.int (0 : Int32)), .unset, .unset, .unset, .unset]) rfl kq) ?_
 show Gg T550 m 15 []
 refine go_st (fun _ kq => XS.aloadN X550.here hx rfl (hb hby d12_15) rfl rfl kq) ?_
 show Gg T550 m 16 [(.ref a)]
 refine go_getF X550 hx hZ hown (host := "") (Or.inl (wd hw 24 rfl)) Via.refl e550 P27 (hb hby d12_16) rfl rfl ?_
 intro T551 X551 e551
 show Gg T551 m 19 [(.ref pe)]
 refine go_st (fun _ kq => XS.iload X551.here hx rfl (hb hby d12_19) rfl kq) ?_
 show Gg T551 m 21 [(.int (0 : Int32)), (.ref pe)]
 refine go_st (fun _ kq => XT.iincV X551.here hx rfl (1 : Int32) (hb hby d12_21) (by decide) rfl (l' := #[.val (.ref a), .val (.ref o), .val (.int (0 : Int32)), .val (.ref f), .val (.int (0 : Int32)), .val (.int (0 : Int32)), .val (.int (1 : Int32)), .unset, .unset, .unset, .unset]) rfl kq) ?_
 show Gg T551 m 24 [(.int (0 : Int32)), (.ref pe)]
 refine go_st (fun _ kq => XS.iloadN X551.here hx rfl (hb hby d12_24) rfl kq) ?_
 show Gg T551 m 25 [(.int (0 : Int32)), (.int (0 : Int32)), (.ref pe)]
 refine go_iast X551 hx hZ e551 P30 (hb hby d12_25) rfl rfl (by decide) ?_
 intro T552 h552 X552 e552 W552 G552
 have N552 := Fr.snoc X552 N550 P5
 have A552 : GA Z h552 pe .int 2 (fun i => .int (own_c2 (0 : Int32) (0 : Int32) i)) := (own_sti (by decide) (own_c20 (0 : Int32) (0 : Int32) (0 : Int32)) G552)
 show Gg T552 m 26 []
 refine go_st (fun _ kq => XS.iload X552.here hx rfl (hb hby d12_26) rfl kq) ?_
 show Gg T552 m 28 [(.int (0 : Int32))]
 refine go_st (fun _ kq => XS.ifNo X552.here hx rfl (hb hby d12_28) rfl (XT.i0_ne_f (by decide)) kq) ?_
 show Gg T552 m 31 []
 refine go_st (fun _ kq => XS.iload X552.here hx rfl (hb hby d12_31) rfl kq) ?_
 show Gg T552 m 33 [(.int (0 : Int32))]
 refine go_st (fun _ kq => XS.iload X552.here hx rfl (hb hby d12_33) rfl kq) ?_
 show Gg T552 m 35 [(.int (1 : Int32)), (.int (0 : Int32))]
 refine go_st (fun _ kq => XS.icmpNo X552.here hx rfl (hb hby d12_35) rfl (XT.ii_ge_f (by decide)) kq) ?_
 show Gg T552 m 38 []
 refine go_st (fun _ kq => XS.aloadN X552.here hx rfl (hb hby d12_38) rfl rfl kq) ?_
 show Gg T552 m 39 [(.ref a)]
 have c553 := Fld.other W552 P22 (Or.inl P7)
 refine go_getF X552 hx hZ hown (host := "") (Or.inl (wd hw 33 rfl)) Via.refl e552 c553 (hb hby d12_39) rfl rfl ?_
 intro T554 X554 e554
 show Gg T554 m 42 [(.long (0 : Int64))]
 refine go_st (fun _ kq => XS.aloadN X554.here hx rfl (hb hby d12_42) rfl rfl kq) ?_
 show Gg T554 m 43 [(.ref a), (.long (0 : Int64))]
 have c555 := Fld.other W552 P21 (Or.inl P7)
 refine go_getF X554 hx hZ hown (host := "") (Or.inl (wd hw 10 rfl)) Via.refl e554 c555 (hb hby d12_43) rfl rfl ?_
 intro T556 X556 e556
 show Gg T556 m 46 [(.long xl), (.long (0 : Int64))]
 refine go_st (fun _ kq => XT.lcmp X556.here hx rfl (hb hby d12_46) rfl kq) ?_
 show Gg T556 m 47 [(.int (XT.cmpL (0 : Int64) xl))]
 refine go_st (fun _ kq => XS.ifNo X556.here hx rfl (hb hby d12_47) rfl (XT.ll_ge_f P32) kq) ?_
 show Gg T556 m 50 []
 refine go_st (fun _ kq => XS.aloadN X556.here hx rfl (hb hby d12_50) rfl rfl kq) ?_
 show Gg T556 m 51 [(.ref a)]
 have c557 := Fld.other W552 P27 (Or.inl P7)
 refine go_getF X556 hx hZ hown (host := "") (Or.inl (wd hw 24 rfl)) Via.refl e556 c557 (hb hby d12_51) rfl rfl ?_
 intro T558 X558 e558
 show Gg T558 m 54 [(.ref pe)]
 refine go_st (fun _ kq => XS.iload X558.here hx rfl (hb hby d12_54) rfl kq) ?_
 show Gg T558 m 56 [(.int (0 : Int32)), (.ref pe)]
 refine go_st (fun _ kq => XT.iincV X558.here hx rfl (1 : Int32) (hb hby d12_56) (by decide) rfl (l' := #[.val (.ref a), .val (.ref o), .val (.int (0 : Int32)), .val (.ref f), .val (.int (0 : Int32)), .val (.int (1 : Int32)), .val (.int (1 : Int32)), .unset, .unset, .unset, .unset]) rfl kq) ?_
 show Gg T558 m 59 [(.int (0 : Int32)), (.ref pe)]
 refine go_iald X558 hx hZ e558 A552 (hb hby d12_59) rfl rfl (by decide) (.int (0 : Int32)) rfl ?_
 show Gg T558 m 60 [(.int (0 : Int32))]
 refine go_st (fun _ kq => XS.istore X558.here hx rfl (hb hby d12_60) rfl (l' := #[.val (.ref a), .val (.ref o), .val (.int (0 : Int32)), .val (.ref f), .val (.int (0 : Int32)), .val (.int (1 : Int32)), .val (.int (1 : Int32)), .val (.int (0 : Int32)), .unset, .unset, .unset]) rfl kq) ?_
 show Gg T558 m 62 []
 refine go_st (fun _ kq => XS.aloadN X558.here hx rfl (hb hby d12_62) rfl rfl kq) ?_
 show Gg T558 m 63 [(.ref o)]
 refine go_st (fun _ kq => XS.iload X558.here hx rfl (hb hby d12_63) rfl kq) ?_
 show Gg T558 m 65 [(.int (0 : Int32)), (.ref o)]
 have c560 := Fld.other W552 P2 (Or.inl (Ne.symm P16))
 have z561 : n0 ≤ h552.size := (Wr.size W552).symm ▸ Z0
 have c562 := Exa.wr W552 P1
 refine go_callF X558 hx hZ hml hown (wd hw 94 rfl) (wd hw 95 rfl) (wd hw 96 rfl) (wd hw 97 rfl) (wd hw 98 rfl) (wd hw 99 rfl) (wd hw 100 rfl) (wd hw 65 rfl) (wd hw 101 rfl) (wd hw 42 rfl) e558 c562 (argsL := [(.int (0 : Int32))]) (rest := []) (W := 0) (met_14 l Z a0 hw o (7 : Int32) h552 n0 z561 c560) (hb hby d12_65) rfl rfl rfl (lenOf pd0 rfl) (by show 2 * 0 + _ ≤ _; exact Nat.le_of_eq rfl) (by decide) (by decide) (by decide) (by decide) (by decide) ?_
 intro T559 v559 L559 X559 q559
 obtain ⟨rfl, M559, e559⟩ := q559
 have N559 := Fr.app N552 M559
 show Gg T559 m 70 [(.int (7 : Int32))]
 refine go_st (fun _ kq => XS.istore X559.here hx rfl (hb hby d12_70) rfl (l' := #[.val (.ref a), .val (.ref o), .val (.int (0 : Int32)), .val (.ref f), .val (.int (0 : Int32)), .val (.int (1 : Int32)), .val (.int (1 : Int32)), .val (.int (0 : Int32)), .val (.int (7 : Int32)), .unset, .unset]) rfl kq) ?_
 show Gg T559 m 72 []
 refine go_st (fun _ kq => XT.iconstV X559.here hx rfl (0 : Int32) (hb hby d12_72) (by decide) kq) ?_
 show Gg T559 m 73 [(.int (0 : Int32))]
 refine go_st (fun _ kq => XS.istore X559.here hx rfl (hb hby d12_73) rfl (l' := #[.val (.ref a), .val (.ref o), .val (.int (0 : Int32)), .val (.ref f), .val (.int (0 : Int32)), .val (.int (1 : Int32)), .val (.int (1 : Int32)), .val (.int (0 : Int32)), .val (.int (7 : Int32)), .val (.int (0 : Int32)), .unset]) rfl kq) ?_
 show Gg T559 m 75 []
 refine go_st (fun _ kq => XS.iload X559.here hx rfl (hb hby d12_75) rfl kq) ?_
 show Gg T559 m 77 [(.int (0 : Int32))]
 refine go_st (fun _ kq => XS.iload X559.here hx rfl (hb hby d12_77) rfl kq) ?_
 show Gg T559 m 79 [(.int (7 : Int32)), (.int (0 : Int32))]
 refine go_st (fun _ kq => XS.icmpNo X559.here hx rfl (hb hby d12_79) rfl (XT.ii_ge_f (by decide)) kq) ?_
 show Gg T559 m 82 []
 refine go_st (fun _ kq => XS.iload X559.here hx rfl (hb hby d12_82) rfl kq) ?_
 show Gg T559 m 84 [(.int (0 : Int32))]
 refine go_st (fun _ kq => XS.ifNo X559.here hx rfl (hb hby d12_84) rfl (XT.i0_ne_f (by decide)) kq) ?_
 show Gg T559 m 87 []
 refine go_st (fun _ kq => XS.aloadN X559.here hx rfl (hb hby d12_87) rfl rfl kq) ?_
 show Gg T559 m 88 [(.ref o)]
 refine go_st (fun _ kq => XS.iload X559.here hx rfl (hb hby d12_88) rfl kq) ?_
 show Gg T559 m 90 [(.int (0 : Int32)), (.ref o)]
 refine go_st (fun _ kq => XS.iload X559.here hx rfl (hb hby d12_90) rfl kq) ?_
 show Gg T559 m 92 [(.int (0 : Int32)), (.int (0 : Int32)), (.ref o)]
 refine go_st (fun _ kq => XT.iincV X559.here hx rfl (1 : Int32) (hb hby d12_92) (by decide) rfl (l' := #[.val (.ref a), .val (.ref o), .val (.int (0 : Int32)), .val (.ref f), .val (.int (0 : Int32)), .val (.int (1 : Int32)), .val (.int (1 : Int32)), .val (.int (0 : Int32)), .val (.int (7 : Int32)), .val (.int (1 : Int32)), .unset]) rfl kq) ?_
 show Gg T559 m 95 [(.int (0 : Int32)), (.int (0 : Int32)), (.ref o)]
 refine go_callF X559 hx hZ hml hown (wd hw 109 rfl) (wd hw 110 rfl) (wd hw 111 rfl) (wd hw 112 rfl) (wd hw 113 rfl) (wd hw 114 rfl) (wd hw 115 rfl) (wd hw 65 rfl) (wd hw 116 rfl) (wd hw 42 rfl) e559 c562 (argsL := [(.int (0 : Int32)), (.int (0 : Int32))]) (rest := []) (W := 0) (met_16 l Z a0 hw o (0 : Int32) (0 : Int32) h552 n0 z561 ) (hb hby d12_95) rfl rfl rfl (lenOf pd3 rfl) (by show 2 * 0 + _ ≤ _; exact Nat.le_of_eq rfl) (by decide) (by decide) (by decide) (by decide) (by decide) ?_
 intro T563 v563 L563 X563 q563
 obtain ⟨rfl, M563, e563⟩ := q563
 have N563 := Fr.app N559 M563
 show Gg T563 m 100 [(.int (0 : Int32))]
 refine go_st (fun _ kq => XS.istore X563.here hx rfl (hb hby d12_100) rfl (l' := #[.val (.ref a), .val (.ref o), .val (.int (0 : Int32)), .val (.ref f), .val (.int (0 : Int32)), .val (.int (1 : Int32)), .val (.int (1 : Int32)), .val (.int (0 : Int32)), .val (.int (7 : Int32)), .val (.int (1 : Int32)), .val (.int (0 : Int32))]) rfl kq) ?_
 show Gg T563 m 102 []
 refine go_st (fun _ kq => XS.aloadN X563.here hx rfl (hb hby d12_102) rfl rfl kq) ?_
 show Gg T563 m 103 [(.ref a)]
 have c564 := Fld.other W552 P26 (Or.inl P7)
 refine go_getF X563 hx hZ hown (host := "") (Or.inl (wd hw 18 rfl)) Via.refl e563 c564 (hb hby d12_103) rfl rfl ?_
 intro T565 X565 e565
 show Gg T565 m 106 [(.ref ra)]
 refine go_st (fun _ kq => XS.iload X565.here hx rfl (hb hby d12_106) rfl kq) ?_
 show Gg T565 m 108 [(.int (0 : Int32)), (.ref ra)]
 have c566 := P29.other W552 P11
 refine go_iald X565 hx hZ e565 c566 (hb hby d12_108) rfl rfl (by decide) (.int (1 : Int32)) rfl ?_
 show Gg T565 m 109 [(.int (1 : Int32))]
 refine go_st (fun _ kq => XS.aloadN X565.here hx rfl (hb hby d12_109) rfl rfl kq) ?_
 show Gg T565 m 110 [(.ref a), (.int (1 : Int32))]
 have c567 := Fld.other W552 P23 (Or.inl P7)
 refine go_getF X565 hx hZ hown (host := "") (Or.inl (wd hw 75 rfl)) Via.refl e565 c567 (hb hby d12_110) rfl rfl ?_
 intro T568 X568 e568
 show Gg T568 m 113 [(.int (1 : Int32)), (.int (1 : Int32))]
 refine go_st (fun _ kq => XS.icmpYes X568.here hx rfl (pc0 := 113) (pc' := 158) rfl (hb hby d12_113) rfl (XT.ii_eq_t (by decide)) (by decide) (by decide) kq) ?_
 show Gg T568 m 158 []
 refine go_st (fun _ kq => XS.goto X568.here hx rfl (pc0 := 158) (pc' := 75) rfl (hb hby d12_158) (by decide) (by decide) kq) ?_
 show Gg T568 m 75 []
 refine go_st (fun _ kq => XS.iload X568.here hx rfl (hb hby d12_75) rfl kq) ?_
 show Gg T568 m 77 [(.int (1 : Int32))]
 refine go_st (fun _ kq => XS.iload X568.here hx rfl (hb hby d12_77) rfl kq) ?_
 show Gg T568 m 79 [(.int (7 : Int32)), (.int (1 : Int32))]
 refine go_st (fun _ kq => XS.icmpNo X568.here hx rfl (hb hby d12_79) rfl (XT.ii_ge_f (by decide)) kq) ?_
 show Gg T568 m 82 []
 refine go_st (fun _ kq => XS.iload X568.here hx rfl (hb hby d12_82) rfl kq) ?_
 show Gg T568 m 84 [(.int (0 : Int32))]
 refine go_st (fun _ kq => XS.ifNo X568.here hx rfl (hb hby d12_84) rfl (XT.i0_ne_f (by decide)) kq) ?_
 show Gg T568 m 87 []
 refine go_st (fun _ kq => XS.aloadN X568.here hx rfl (hb hby d12_87) rfl rfl kq) ?_
 show Gg T568 m 88 [(.ref o)]
 refine go_st (fun _ kq => XS.iload X568.here hx rfl (hb hby d12_88) rfl kq) ?_
 show Gg T568 m 90 [(.int (0 : Int32)), (.ref o)]
 refine go_st (fun _ kq => XS.iload X568.here hx rfl (hb hby d12_90) rfl kq) ?_
 show Gg T568 m 92 [(.int (1 : Int32)), (.int (0 : Int32)), (.ref o)]
 refine go_st (fun _ kq => XT.iincV X568.here hx rfl (1 : Int32) (hb hby d12_92) (by decide) rfl (l' := #[.val (.ref a), .val (.ref o), .val (.int (0 : Int32)), .val (.ref f), .val (.int (0 : Int32)), .val (.int (1 : Int32)), .val (.int (1 : Int32)), .val (.int (0 : Int32)), .val (.int (7 : Int32)), .val (.int (2 : Int32)), .val (.int (0 : Int32))]) rfl kq) ?_
 show Gg T568 m 95 [(.int (1 : Int32)), (.int (0 : Int32)), (.ref o)]
 refine go_callF X568 hx hZ hml hown (wd hw 109 rfl) (wd hw 110 rfl) (wd hw 111 rfl) (wd hw 112 rfl) (wd hw 113 rfl) (wd hw 114 rfl) (wd hw 115 rfl) (wd hw 65 rfl) (wd hw 116 rfl) (wd hw 42 rfl) e568 c562 (argsL := [(.int (0 : Int32)), (.int (1 : Int32))]) (rest := []) (W := 0) (met_16 l Z a0 hw o (0 : Int32) (1 : Int32) h552 n0 z561 ) (hb hby d12_95) rfl rfl rfl (lenOf pd3 rfl) (by show 2 * 0 + _ ≤ _; exact Nat.le_of_eq rfl) (by decide) (by decide) (by decide) (by decide) (by decide) ?_
 intro T569 v569 L569 X569 q569
 obtain ⟨rfl, M569, e569⟩ := q569
 have N569 := Fr.app N563 M569
 show Gg T569 m 100 [(.int (0 : Int32))]
 refine go_st (fun _ kq => XS.istore X569.here hx rfl (hb hby d12_100) rfl (l' := #[.val (.ref a), .val (.ref o), .val (.int (0 : Int32)), .val (.ref f), .val (.int (0 : Int32)), .val (.int (1 : Int32)), .val (.int (1 : Int32)), .val (.int (0 : Int32)), .val (.int (7 : Int32)), .val (.int (2 : Int32)), .val (.int (0 : Int32))]) rfl kq) ?_
 show Gg T569 m 102 []
 refine go_st (fun _ kq => XS.aloadN X569.here hx rfl (hb hby d12_102) rfl rfl kq) ?_
 show Gg T569 m 103 [(.ref a)]
 refine go_getF X569 hx hZ hown (host := "") (Or.inl (wd hw 18 rfl)) Via.refl e569 c564 (hb hby d12_103) rfl rfl ?_
 intro T570 X570 e570
 show Gg T570 m 106 [(.ref ra)]
 refine go_st (fun _ kq => XS.iload X570.here hx rfl (hb hby d12_106) rfl kq) ?_
 show Gg T570 m 108 [(.int (0 : Int32)), (.ref ra)]
 refine go_iald X570 hx hZ e570 c566 (hb hby d12_108) rfl rfl (by decide) (.int (1 : Int32)) rfl ?_
 show Gg T570 m 109 [(.int (1 : Int32))]
 refine go_st (fun _ kq => XS.aloadN X570.here hx rfl (hb hby d12_109) rfl rfl kq) ?_
 show Gg T570 m 110 [(.ref a), (.int (1 : Int32))]
 refine go_getF X570 hx hZ hown (host := "") (Or.inl (wd hw 75 rfl)) Via.refl e570 c567 (hb hby d12_110) rfl rfl ?_
 intro T571 X571 e571
 show Gg T571 m 113 [(.int (1 : Int32)), (.int (1 : Int32))]
 refine go_st (fun _ kq => XS.icmpYes X571.here hx rfl (pc0 := 113) (pc' := 158) rfl (hb hby d12_113) rfl (XT.ii_eq_t (by decide)) (by decide) (by decide) kq) ?_
 show Gg T571 m 158 []
 refine go_st (fun _ kq => XS.goto X571.here hx rfl (pc0 := 158) (pc' := 75) rfl (hb hby d12_158) (by decide) (by decide) kq) ?_
 show Gg T571 m 75 []
 refine go_st (fun _ kq => XS.iload X571.here hx rfl (hb hby d12_75) rfl kq) ?_
 show Gg T571 m 77 [(.int (2 : Int32))]
 refine go_st (fun _ kq => XS.iload X571.here hx rfl (hb hby d12_77) rfl kq) ?_
 show Gg T571 m 79 [(.int (7 : Int32)), (.int (2 : Int32))]
 refine go_st (fun _ kq => XS.icmpNo X571.here hx rfl (hb hby d12_79) rfl (XT.ii_ge_f (by decide)) kq) ?_
 show Gg T571 m 82 []
 refine go_st (fun _ kq => XS.iload X571.here hx rfl (hb hby d12_82) rfl kq) ?_
 show Gg T571 m 84 [(.int (0 : Int32))]
 refine go_st (fun _ kq => XS.ifNo X571.here hx rfl (hb hby d12_84) rfl (XT.i0_ne_f (by decide)) kq) ?_
 show Gg T571 m 87 []
 refine go_st (fun _ kq => XS.aloadN X571.here hx rfl (hb hby d12_87) rfl rfl kq) ?_
 show Gg T571 m 88 [(.ref o)]
 refine go_st (fun _ kq => XS.iload X571.here hx rfl (hb hby d12_88) rfl kq) ?_
 show Gg T571 m 90 [(.int (0 : Int32)), (.ref o)]
 refine go_st (fun _ kq => XS.iload X571.here hx rfl (hb hby d12_90) rfl kq) ?_
 show Gg T571 m 92 [(.int (2 : Int32)), (.int (0 : Int32)), (.ref o)]
 refine go_st (fun _ kq => XT.iincV X571.here hx rfl (1 : Int32) (hb hby d12_92) (by decide) rfl (l' := #[.val (.ref a), .val (.ref o), .val (.int (0 : Int32)), .val (.ref f), .val (.int (0 : Int32)), .val (.int (1 : Int32)), .val (.int (1 : Int32)), .val (.int (0 : Int32)), .val (.int (7 : Int32)), .val (.int (3 : Int32)), .val (.int (0 : Int32))]) rfl kq) ?_
 show Gg T571 m 95 [(.int (2 : Int32)), (.int (0 : Int32)), (.ref o)]
 refine go_callF X571 hx hZ hml hown (wd hw 109 rfl) (wd hw 110 rfl) (wd hw 111 rfl) (wd hw 112 rfl) (wd hw 113 rfl) (wd hw 114 rfl) (wd hw 115 rfl) (wd hw 65 rfl) (wd hw 116 rfl) (wd hw 42 rfl) e571 c562 (argsL := [(.int (0 : Int32)), (.int (2 : Int32))]) (rest := []) (W := 0) (met_16 l Z a0 hw o (0 : Int32) (2 : Int32) h552 n0 z561 ) (hb hby d12_95) rfl rfl rfl (lenOf pd3 rfl) (by show 2 * 0 + _ ≤ _; exact Nat.le_of_eq rfl) (by decide) (by decide) (by decide) (by decide) (by decide) ?_
 intro T572 v572 L572 X572 q572
 obtain ⟨rfl, M572, e572⟩ := q572
 have N572 := Fr.app N569 M572
 show Gg T572 m 100 [(.int (0 : Int32))]
 refine go_st (fun _ kq => XS.istore X572.here hx rfl (hb hby d12_100) rfl (l' := #[.val (.ref a), .val (.ref o), .val (.int (0 : Int32)), .val (.ref f), .val (.int (0 : Int32)), .val (.int (1 : Int32)), .val (.int (1 : Int32)), .val (.int (0 : Int32)), .val (.int (7 : Int32)), .val (.int (3 : Int32)), .val (.int (0 : Int32))]) rfl kq) ?_
 show Gg T572 m 102 []
 refine go_st (fun _ kq => XS.aloadN X572.here hx rfl (hb hby d12_102) rfl rfl kq) ?_
 show Gg T572 m 103 [(.ref a)]
 refine go_getF X572 hx hZ hown (host := "") (Or.inl (wd hw 18 rfl)) Via.refl e572 c564 (hb hby d12_103) rfl rfl ?_
 intro T573 X573 e573
 show Gg T573 m 106 [(.ref ra)]
 refine go_st (fun _ kq => XS.iload X573.here hx rfl (hb hby d12_106) rfl kq) ?_
 show Gg T573 m 108 [(.int (0 : Int32)), (.ref ra)]
 refine go_iald X573 hx hZ e573 c566 (hb hby d12_108) rfl rfl (by decide) (.int (1 : Int32)) rfl ?_
 show Gg T573 m 109 [(.int (1 : Int32))]
 refine go_st (fun _ kq => XS.aloadN X573.here hx rfl (hb hby d12_109) rfl rfl kq) ?_
 show Gg T573 m 110 [(.ref a), (.int (1 : Int32))]
 refine go_getF X573 hx hZ hown (host := "") (Or.inl (wd hw 75 rfl)) Via.refl e573 c567 (hb hby d12_110) rfl rfl ?_
 intro T574 X574 e574
 show Gg T574 m 113 [(.int (1 : Int32)), (.int (1 : Int32))]
 refine go_st (fun _ kq => XS.icmpYes X574.here hx rfl (pc0 := 113) (pc' := 158) rfl (hb hby d12_113) rfl (XT.ii_eq_t (by decide)) (by decide) (by decide) kq) ?_
 show Gg T574 m 158 []
 refine go_st (fun _ kq => XS.goto X574.here hx rfl (pc0 := 158) (pc' := 75) rfl (hb hby d12_158) (by decide) (by decide) kq) ?_
 show Gg T574 m 75 []
 refine go_st (fun _ kq => XS.iload X574.here hx rfl (hb hby d12_75) rfl kq) ?_
 show Gg T574 m 77 [(.int (3 : Int32))]
 refine go_st (fun _ kq => XS.iload X574.here hx rfl (hb hby d12_77) rfl kq) ?_
 show Gg T574 m 79 [(.int (7 : Int32)), (.int (3 : Int32))]
 refine go_st (fun _ kq => XS.icmpNo X574.here hx rfl (hb hby d12_79) rfl (XT.ii_ge_f (by decide)) kq) ?_
 show Gg T574 m 82 []
 refine go_st (fun _ kq => XS.iload X574.here hx rfl (hb hby d12_82) rfl kq) ?_
 show Gg T574 m 84 [(.int (0 : Int32))]
 refine go_st (fun _ kq => XS.ifNo X574.here hx rfl (hb hby d12_84) rfl (XT.i0_ne_f (by decide)) kq) ?_
 show Gg T574 m 87 []
 refine go_st (fun _ kq => XS.aloadN X574.here hx rfl (hb hby d12_87) rfl rfl kq) ?_
 show Gg T574 m 88 [(.ref o)]
 refine go_st (fun _ kq => XS.iload X574.here hx rfl (hb hby d12_88) rfl kq) ?_
 show Gg T574 m 90 [(.int (0 : Int32)), (.ref o)]
 refine go_st (fun _ kq => XS.iload X574.here hx rfl (hb hby d12_90) rfl kq) ?_
 show Gg T574 m 92 [(.int (3 : Int32)), (.int (0 : Int32)), (.ref o)]
 refine go_st (fun _ kq => XT.iincV X574.here hx rfl (1 : Int32) (hb hby d12_92) (by decide) rfl (l' := #[.val (.ref a), .val (.ref o), .val (.int (0 : Int32)), .val (.ref f), .val (.int (0 : Int32)), .val (.int (1 : Int32)), .val (.int (1 : Int32)), .val (.int (0 : Int32)), .val (.int (7 : Int32)), .val (.int (4 : Int32)), .val (.int (0 : Int32))]) rfl kq) ?_
 show Gg T574 m 95 [(.int (3 : Int32)), (.int (0 : Int32)), (.ref o)]
 refine go_callF X574 hx hZ hml hown (wd hw 109 rfl) (wd hw 110 rfl) (wd hw 111 rfl) (wd hw 112 rfl) (wd hw 113 rfl) (wd hw 114 rfl) (wd hw 115 rfl) (wd hw 65 rfl) (wd hw 116 rfl) (wd hw 42 rfl) e574 c562 (argsL := [(.int (0 : Int32)), (.int (3 : Int32))]) (rest := []) (W := 0) (met_16 l Z a0 hw o (0 : Int32) (3 : Int32) h552 n0 z561 ) (hb hby d12_95) rfl rfl rfl (lenOf pd3 rfl) (by show 2 * 0 + _ ≤ _; exact Nat.le_of_eq rfl) (by decide) (by decide) (by decide) (by decide) (by decide) ?_
 intro T575 v575 L575 X575 q575
 obtain ⟨rfl, M575, e575⟩ := q575
 have N575 := Fr.app N572 M575
 show Gg T575 m 100 [(.int (0 : Int32))]
 refine go_st (fun _ kq => XS.istore X575.here hx rfl (hb hby d12_100) rfl (l' := #[.val (.ref a), .val (.ref o), .val (.int (0 : Int32)), .val (.ref f), .val (.int (0 : Int32)), .val (.int (1 : Int32)), .val (.int (1 : Int32)), .val (.int (0 : Int32)), .val (.int (7 : Int32)), .val (.int (4 : Int32)), .val (.int (0 : Int32))]) rfl kq) ?_
 show Gg T575 m 102 []
 refine go_st (fun _ kq => XS.aloadN X575.here hx rfl (hb hby d12_102) rfl rfl kq) ?_
 show Gg T575 m 103 [(.ref a)]
 refine go_getF X575 hx hZ hown (host := "") (Or.inl (wd hw 18 rfl)) Via.refl e575 c564 (hb hby d12_103) rfl rfl ?_
 intro T576 X576 e576
 show Gg T576 m 106 [(.ref ra)]
 refine go_st (fun _ kq => XS.iload X576.here hx rfl (hb hby d12_106) rfl kq) ?_
 show Gg T576 m 108 [(.int (0 : Int32)), (.ref ra)]
 refine go_iald X576 hx hZ e576 c566 (hb hby d12_108) rfl rfl (by decide) (.int (1 : Int32)) rfl ?_
 show Gg T576 m 109 [(.int (1 : Int32))]
 refine go_st (fun _ kq => XS.aloadN X576.here hx rfl (hb hby d12_109) rfl rfl kq) ?_
 show Gg T576 m 110 [(.ref a), (.int (1 : Int32))]
 refine go_getF X576 hx hZ hown (host := "") (Or.inl (wd hw 75 rfl)) Via.refl e576 c567 (hb hby d12_110) rfl rfl ?_
 intro T577 X577 e577
 show Gg T577 m 113 [(.int (1 : Int32)), (.int (1 : Int32))]
 refine go_st (fun _ kq => XS.icmpYes X577.here hx rfl (pc0 := 113) (pc' := 158) rfl (hb hby d12_113) rfl (XT.ii_eq_t (by decide)) (by decide) (by decide) kq) ?_
 show Gg T577 m 158 []
 refine go_st (fun _ kq => XS.goto X577.here hx rfl (pc0 := 158) (pc' := 75) rfl (hb hby d12_158) (by decide) (by decide) kq) ?_
 show Gg T577 m 75 []
 refine go_st (fun _ kq => XS.iload X577.here hx rfl (hb hby d12_75) rfl kq) ?_
 show Gg T577 m 77 [(.int (4 : Int32))]
 refine go_st (fun _ kq => XS.iload X577.here hx rfl (hb hby d12_77) rfl kq) ?_
 show Gg T577 m 79 [(.int (7 : Int32)), (.int (4 : Int32))]
 refine go_st (fun _ kq => XS.icmpNo X577.here hx rfl (hb hby d12_79) rfl (XT.ii_ge_f (by decide)) kq) ?_
 show Gg T577 m 82 []
 refine go_st (fun _ kq => XS.iload X577.here hx rfl (hb hby d12_82) rfl kq) ?_
 show Gg T577 m 84 [(.int (0 : Int32))]
 refine go_st (fun _ kq => XS.ifNo X577.here hx rfl (hb hby d12_84) rfl (XT.i0_ne_f (by decide)) kq) ?_
 show Gg T577 m 87 []
 refine go_st (fun _ kq => XS.aloadN X577.here hx rfl (hb hby d12_87) rfl rfl kq) ?_
 show Gg T577 m 88 [(.ref o)]
 refine go_st (fun _ kq => XS.iload X577.here hx rfl (hb hby d12_88) rfl kq) ?_
 show Gg T577 m 90 [(.int (0 : Int32)), (.ref o)]
 refine go_st (fun _ kq => XS.iload X577.here hx rfl (hb hby d12_90) rfl kq) ?_
 show Gg T577 m 92 [(.int (4 : Int32)), (.int (0 : Int32)), (.ref o)]
 refine go_st (fun _ kq => XT.iincV X577.here hx rfl (1 : Int32) (hb hby d12_92) (by decide) rfl (l' := #[.val (.ref a), .val (.ref o), .val (.int (0 : Int32)), .val (.ref f), .val (.int (0 : Int32)), .val (.int (1 : Int32)), .val (.int (1 : Int32)), .val (.int (0 : Int32)), .val (.int (7 : Int32)), .val (.int (5 : Int32)), .val (.int (0 : Int32))]) rfl kq) ?_
 show Gg T577 m 95 [(.int (4 : Int32)), (.int (0 : Int32)), (.ref o)]
 refine go_callF X577 hx hZ hml hown (wd hw 109 rfl) (wd hw 110 rfl) (wd hw 111 rfl) (wd hw 112 rfl) (wd hw 113 rfl) (wd hw 114 rfl) (wd hw 115 rfl) (wd hw 65 rfl) (wd hw 116 rfl) (wd hw 42 rfl) e577 c562 (argsL := [(.int (0 : Int32)), (.int (4 : Int32))]) (rest := []) (W := 0) (met_16 l Z a0 hw o (0 : Int32) (4 : Int32) h552 n0 z561 ) (hb hby d12_95) rfl rfl rfl (lenOf pd3 rfl) (by show 2 * 0 + _ ≤ _; exact Nat.le_of_eq rfl) (by decide) (by decide) (by decide) (by decide) (by decide) ?_
 intro T578 v578 L578 X578 q578
 obtain ⟨rfl, M578, e578⟩ := q578
 have N578 := Fr.app N575 M578
 show Gg T578 m 100 [(.int (0 : Int32))]
 refine go_st (fun _ kq => XS.istore X578.here hx rfl (hb hby d12_100) rfl (l' := #[.val (.ref a), .val (.ref o), .val (.int (0 : Int32)), .val (.ref f), .val (.int (0 : Int32)), .val (.int (1 : Int32)), .val (.int (1 : Int32)), .val (.int (0 : Int32)), .val (.int (7 : Int32)), .val (.int (5 : Int32)), .val (.int (0 : Int32))]) rfl kq) ?_
 show Gg T578 m 102 []
 refine go_st (fun _ kq => XS.aloadN X578.here hx rfl (hb hby d12_102) rfl rfl kq) ?_
 show Gg T578 m 103 [(.ref a)]
 refine go_getF X578 hx hZ hown (host := "") (Or.inl (wd hw 18 rfl)) Via.refl e578 c564 (hb hby d12_103) rfl rfl ?_
 intro T579 X579 e579
 show Gg T579 m 106 [(.ref ra)]
 refine go_st (fun _ kq => XS.iload X579.here hx rfl (hb hby d12_106) rfl kq) ?_
 show Gg T579 m 108 [(.int (0 : Int32)), (.ref ra)]
 refine go_iald X579 hx hZ e579 c566 (hb hby d12_108) rfl rfl (by decide) (.int (1 : Int32)) rfl ?_
 show Gg T579 m 109 [(.int (1 : Int32))]
 refine go_st (fun _ kq => XS.aloadN X579.here hx rfl (hb hby d12_109) rfl rfl kq) ?_
 show Gg T579 m 110 [(.ref a), (.int (1 : Int32))]
 refine go_getF X579 hx hZ hown (host := "") (Or.inl (wd hw 75 rfl)) Via.refl e579 c567 (hb hby d12_110) rfl rfl ?_
 intro T580 X580 e580
 show Gg T580 m 113 [(.int (1 : Int32)), (.int (1 : Int32))]
 refine go_st (fun _ kq => XS.icmpYes X580.here hx rfl (pc0 := 113) (pc' := 158) rfl (hb hby d12_113) rfl (XT.ii_eq_t (by decide)) (by decide) (by decide) kq) ?_
 show Gg T580 m 158 []
 refine go_st (fun _ kq => XS.goto X580.here hx rfl (pc0 := 158) (pc' := 75) rfl (hb hby d12_158) (by decide) (by decide) kq) ?_
 show Gg T580 m 75 []
 refine go_st (fun _ kq => XS.iload X580.here hx rfl (hb hby d12_75) rfl kq) ?_
 show Gg T580 m 77 [(.int (5 : Int32))]
 refine go_st (fun _ kq => XS.iload X580.here hx rfl (hb hby d12_77) rfl kq) ?_
 show Gg T580 m 79 [(.int (7 : Int32)), (.int (5 : Int32))]
 refine go_st (fun _ kq => XS.icmpNo X580.here hx rfl (hb hby d12_79) rfl (XT.ii_ge_f (by decide)) kq) ?_
 show Gg T580 m 82 []
 refine go_st (fun _ kq => XS.iload X580.here hx rfl (hb hby d12_82) rfl kq) ?_
 show Gg T580 m 84 [(.int (0 : Int32))]
 refine go_st (fun _ kq => XS.ifNo X580.here hx rfl (hb hby d12_84) rfl (XT.i0_ne_f (by decide)) kq) ?_
 show Gg T580 m 87 []
 refine go_st (fun _ kq => XS.aloadN X580.here hx rfl (hb hby d12_87) rfl rfl kq) ?_
 show Gg T580 m 88 [(.ref o)]
 refine go_st (fun _ kq => XS.iload X580.here hx rfl (hb hby d12_88) rfl kq) ?_
 show Gg T580 m 90 [(.int (0 : Int32)), (.ref o)]
 refine go_st (fun _ kq => XS.iload X580.here hx rfl (hb hby d12_90) rfl kq) ?_
 show Gg T580 m 92 [(.int (5 : Int32)), (.int (0 : Int32)), (.ref o)]
 refine go_st (fun _ kq => XT.iincV X580.here hx rfl (1 : Int32) (hb hby d12_92) (by decide) rfl (l' := #[.val (.ref a), .val (.ref o), .val (.int (0 : Int32)), .val (.ref f), .val (.int (0 : Int32)), .val (.int (1 : Int32)), .val (.int (1 : Int32)), .val (.int (0 : Int32)), .val (.int (7 : Int32)), .val (.int (6 : Int32)), .val (.int (0 : Int32))]) rfl kq) ?_
 show Gg T580 m 95 [(.int (5 : Int32)), (.int (0 : Int32)), (.ref o)]
 refine go_callF X580 hx hZ hml hown (wd hw 109 rfl) (wd hw 110 rfl) (wd hw 111 rfl) (wd hw 112 rfl) (wd hw 113 rfl) (wd hw 114 rfl) (wd hw 115 rfl) (wd hw 65 rfl) (wd hw 116 rfl) (wd hw 42 rfl) e580 c562 (argsL := [(.int (0 : Int32)), (.int (5 : Int32))]) (rest := []) (W := 0) (met_16 l Z a0 hw o (0 : Int32) (5 : Int32) h552 n0 z561 ) (hb hby d12_95) rfl rfl rfl (lenOf pd3 rfl) (by show 2 * 0 + _ ≤ _; exact Nat.le_of_eq rfl) (by decide) (by decide) (by decide) (by decide) (by decide) ?_
 intro T581 v581 L581 X581 q581
 obtain ⟨rfl, M581, e581⟩ := q581
 have N581 := Fr.app N578 M581
 show Gg T581 m 100 [(.int (0 : Int32))]
 refine go_st (fun _ kq => XS.istore X581.here hx rfl (hb hby d12_100) rfl (l' := #[.val (.ref a), .val (.ref o), .val (.int (0 : Int32)), .val (.ref f), .val (.int (0 : Int32)), .val (.int (1 : Int32)), .val (.int (1 : Int32)), .val (.int (0 : Int32)), .val (.int (7 : Int32)), .val (.int (6 : Int32)), .val (.int (0 : Int32))]) rfl kq) ?_
 show Gg T581 m 102 []
 refine go_st (fun _ kq => XS.aloadN X581.here hx rfl (hb hby d12_102) rfl rfl kq) ?_
 show Gg T581 m 103 [(.ref a)]
 refine go_getF X581 hx hZ hown (host := "") (Or.inl (wd hw 18 rfl)) Via.refl e581 c564 (hb hby d12_103) rfl rfl ?_
 intro T582 X582 e582
 show Gg T582 m 106 [(.ref ra)]
 refine go_st (fun _ kq => XS.iload X582.here hx rfl (hb hby d12_106) rfl kq) ?_
 show Gg T582 m 108 [(.int (0 : Int32)), (.ref ra)]
 refine go_iald X582 hx hZ e582 c566 (hb hby d12_108) rfl rfl (by decide) (.int (1 : Int32)) rfl ?_
 show Gg T582 m 109 [(.int (1 : Int32))]
 refine go_st (fun _ kq => XS.aloadN X582.here hx rfl (hb hby d12_109) rfl rfl kq) ?_
 show Gg T582 m 110 [(.ref a), (.int (1 : Int32))]
 refine go_getF X582 hx hZ hown (host := "") (Or.inl (wd hw 75 rfl)) Via.refl e582 c567 (hb hby d12_110) rfl rfl ?_
 intro T583 X583 e583
 show Gg T583 m 113 [(.int (1 : Int32)), (.int (1 : Int32))]
 refine go_st (fun _ kq => XS.icmpYes X583.here hx rfl (pc0 := 113) (pc' := 158) rfl (hb hby d12_113) rfl (XT.ii_eq_t (by decide)) (by decide) (by decide) kq) ?_
 show Gg T583 m 158 []
 refine go_st (fun _ kq => XS.goto X583.here hx rfl (pc0 := 158) (pc' := 75) rfl (hb hby d12_158) (by decide) (by decide) kq) ?_
 show Gg T583 m 75 []
 refine go_st (fun _ kq => XS.iload X583.here hx rfl (hb hby d12_75) rfl kq) ?_
 show Gg T583 m 77 [(.int (6 : Int32))]
 refine go_st (fun _ kq => XS.iload X583.here hx rfl (hb hby d12_77) rfl kq) ?_
 show Gg T583 m 79 [(.int (7 : Int32)), (.int (6 : Int32))]
 refine go_st (fun _ kq => XS.icmpNo X583.here hx rfl (hb hby d12_79) rfl (XT.ii_ge_f (by decide)) kq) ?_
 show Gg T583 m 82 []
 refine go_st (fun _ kq => XS.iload X583.here hx rfl (hb hby d12_82) rfl kq) ?_
 show Gg T583 m 84 [(.int (0 : Int32))]
 refine go_st (fun _ kq => XS.ifNo X583.here hx rfl (hb hby d12_84) rfl (XT.i0_ne_f (by decide)) kq) ?_
 show Gg T583 m 87 []
 refine go_st (fun _ kq => XS.aloadN X583.here hx rfl (hb hby d12_87) rfl rfl kq) ?_
 show Gg T583 m 88 [(.ref o)]
 refine go_st (fun _ kq => XS.iload X583.here hx rfl (hb hby d12_88) rfl kq) ?_
 show Gg T583 m 90 [(.int (0 : Int32)), (.ref o)]
 refine go_st (fun _ kq => XS.iload X583.here hx rfl (hb hby d12_90) rfl kq) ?_
 show Gg T583 m 92 [(.int (6 : Int32)), (.int (0 : Int32)), (.ref o)]
 refine go_st (fun _ kq => XT.iincV X583.here hx rfl (1 : Int32) (hb hby d12_92) (by decide) rfl (l' := #[.val (.ref a), .val (.ref o), .val (.int (0 : Int32)), .val (.ref f), .val (.int (0 : Int32)), .val (.int (1 : Int32)), .val (.int (1 : Int32)), .val (.int (0 : Int32)), .val (.int (7 : Int32)), .val (.int (7 : Int32)), .val (.int (0 : Int32))]) rfl kq) ?_
 show Gg T583 m 95 [(.int (6 : Int32)), (.int (0 : Int32)), (.ref o)]
 refine go_callF X583 hx hZ hml hown (wd hw 109 rfl) (wd hw 110 rfl) (wd hw 111 rfl) (wd hw 112 rfl) (wd hw 113 rfl) (wd hw 114 rfl) (wd hw 115 rfl) (wd hw 65 rfl) (wd hw 116 rfl) (wd hw 42 rfl) e583 c562 (argsL := [(.int (0 : Int32)), (.int (6 : Int32))]) (rest := []) (W := 0) (met_16 l Z a0 hw o (0 : Int32) (6 : Int32) h552 n0 z561 ) (hb hby d12_95) rfl rfl rfl (lenOf pd3 rfl) (by show 2 * 0 + _ ≤ _; exact Nat.le_of_eq rfl) (by decide) (by decide) (by decide) (by decide) (by decide) ?_
 intro T584 v584 L584 X584 q584
 obtain ⟨rfl, M584, e584⟩ := q584
 have N584 := Fr.app N581 M584
 show Gg T584 m 100 [(.int (0 : Int32))]
 refine go_st (fun _ kq => XS.istore X584.here hx rfl (hb hby d12_100) rfl (l' := #[.val (.ref a), .val (.ref o), .val (.int (0 : Int32)), .val (.ref f), .val (.int (0 : Int32)), .val (.int (1 : Int32)), .val (.int (1 : Int32)), .val (.int (0 : Int32)), .val (.int (7 : Int32)), .val (.int (7 : Int32)), .val (.int (0 : Int32))]) rfl kq) ?_
 show Gg T584 m 102 []
 refine go_st (fun _ kq => XS.aloadN X584.here hx rfl (hb hby d12_102) rfl rfl kq) ?_
 show Gg T584 m 103 [(.ref a)]
 refine go_getF X584 hx hZ hown (host := "") (Or.inl (wd hw 18 rfl)) Via.refl e584 c564 (hb hby d12_103) rfl rfl ?_
 intro T585 X585 e585
 show Gg T585 m 106 [(.ref ra)]
 refine go_st (fun _ kq => XS.iload X585.here hx rfl (hb hby d12_106) rfl kq) ?_
 show Gg T585 m 108 [(.int (0 : Int32)), (.ref ra)]
 refine go_iald X585 hx hZ e585 c566 (hb hby d12_108) rfl rfl (by decide) (.int (1 : Int32)) rfl ?_
 show Gg T585 m 109 [(.int (1 : Int32))]
 refine go_st (fun _ kq => XS.aloadN X585.here hx rfl (hb hby d12_109) rfl rfl kq) ?_
 show Gg T585 m 110 [(.ref a), (.int (1 : Int32))]
 refine go_getF X585 hx hZ hown (host := "") (Or.inl (wd hw 75 rfl)) Via.refl e585 c567 (hb hby d12_110) rfl rfl ?_
 intro T586 X586 e586
 show Gg T586 m 113 [(.int (1 : Int32)), (.int (1 : Int32))]
 refine go_st (fun _ kq => XS.icmpYes X586.here hx rfl (pc0 := 113) (pc' := 158) rfl (hb hby d12_113) rfl (XT.ii_eq_t (by decide)) (by decide) (by decide) kq) ?_
 show Gg T586 m 158 []
 refine go_st (fun _ kq => XS.goto X586.here hx rfl (pc0 := 158) (pc' := 75) rfl (hb hby d12_158) (by decide) (by decide) kq) ?_
 show Gg T586 m 75 []
 refine go_st (fun _ kq => XS.iload X586.here hx rfl (hb hby d12_75) rfl kq) ?_
 show Gg T586 m 77 [(.int (7 : Int32))]
 refine go_st (fun _ kq => XS.iload X586.here hx rfl (hb hby d12_77) rfl kq) ?_
 show Gg T586 m 79 [(.int (7 : Int32)), (.int (7 : Int32))]
 refine go_st (fun _ kq => XS.icmpYes X586.here hx rfl (pc0 := 79) (pc' := 161) rfl (hb hby d12_79) rfl (XT.ii_ge_t (by decide)) (by decide) (by decide) kq) ?_
 show Gg T586 m 161 []
 refine go_st (fun _ kq => XS.aloadN X586.here hx rfl (hb hby d12_161) rfl rfl kq) ?_
 show Gg T586 m 162 [(.ref a)]
 refine go_st (fun _ kq => XS.dup X586.here hx rfl (hb hby d12_162) rfl rfl kq) ?_
 show Gg T586 m 163 [(.ref a), (.ref a)]
 refine go_getF X586 hx hZ hown (host := "") (Or.inl (wd hw 33 rfl)) Via.refl e586 c553 (hb hby d12_163) rfl rfl ?_
 intro T587 X587 e587
 show Gg T587 m 166 [(.long (0 : Int64)), (.ref a)]
 refine go_st (fun _ kq => XS.iload X587.here hx rfl (hb hby d12_166) rfl kq) ?_
 show Gg T587 m 168 [(.int (7 : Int32)), (.long (0 : Int64)), (.ref a)]
 refine go_st (fun _ kq => XT.i2l X587.here hx rfl (hb hby d12_168) rfl kq) ?_
 rw [show (7 : Int32).toInt64 = (7 : Int64) from by decide +kernel]
 show Gg T587 m 169 [(.long (7 : Int64)), (.long (0 : Int64)), (.ref a)]
 refine go_st (fun _ kq => XT.ladd X587.here hx rfl (hb hby d12_169) rfl kq) ?_
 rw [show ((0 : Int64) + (7 : Int64)) = (7 : Int64) from by decide +kernel]
 show Gg T587 m 170 [(.long (7 : Int64)), (.ref a)]
 have c588 := Exa.wr W552 P0
 refine go_putF X587 hx hZ hown (host := "") (Or.inl (wd hw 33 rfl)) Via.refl e587 c553 c588 (Or.inl (wd hw 34 rfl)) (wd hw 1 rfl) (ty := .long) (by decide) rfl rfl (hb hby d12_170) rfl rfl ?_
 intro T589 h589 X589 e589 W589
 have N589 := Fr.snoc X589 N584 P4
 have F589 : Fld Z h589 a "com/example/copse/copse/graph/TargetSearch" "arcsLookedAt" "J" (.long (7 : Int64)) := Fld.same W589 c553
 show Gg T589 m 173 []
 refine go_st (fun _ kq => XS.goto X589.here hx rfl (pc0 := 173) (pc' := 26) rfl (hb hby d12_173) (by decide) (by decide) kq) ?_
 show Gg T589 m 26 []
 refine go_st (fun _ kq => XS.iload X589.here hx rfl (hb hby d12_26) rfl kq) ?_
 show Gg T589 m 28 [(.int (0 : Int32))]
 refine go_st (fun _ kq => XS.ifNo X589.here hx rfl (hb hby d12_28) rfl (XT.i0_ne_f (by decide)) kq) ?_
 show Gg T589 m 31 []
 refine go_st (fun _ kq => XS.iload X589.here hx rfl (hb hby d12_31) rfl kq) ?_
 show Gg T589 m 33 [(.int (1 : Int32))]
 refine go_st (fun _ kq => XS.iload X589.here hx rfl (hb hby d12_33) rfl kq) ?_
 show Gg T589 m 35 [(.int (1 : Int32)), (.int (1 : Int32))]
 refine go_st (fun _ kq => XS.icmpYes X589.here hx rfl (pc0 := 35) (pc' := 176) rfl (hb hby d12_35) rfl (XT.ii_ge_t (by decide)) (by decide) (by decide) kq) ?_
 show Gg T589 m 176 []
 refine go_st (fun _ kq => XS.aloadN X589.here hx rfl (hb hby d12_176) rfl rfl kq) ?_
 show Gg T589 m 177 [(.ref a)]
 refine go_st (fun _ kq => XS.iload X589.here hx rfl (hb hby d12_177) rfl kq) ?_
 show Gg T589 m 179 [(.int (1 : Int32)), (.ref a)]
 have c590 := Fld.other W552 P25 (Or.inl P7)
 have c591 := Fld.other W589 c590 (Or.inr (slot_ne (a0 := a0) (t := .int) (t' := .long) (Or.inl (wd hw 103 rfl)) (Or.inl (wd hw 34 rfl)) (by decide) (by decide) (by decide)))
 have c592 := Exa.wr W589 c588
 refine go_putF X589 hx hZ hown (host := "") (Or.inl (wd hw 102 rfl)) Via.refl e589 c591 c592 (Or.inl (wd hw 103 rfl)) (wd hw 1 rfl) (ty := .int) (by decide) rfl rfl (hb hby d12_179) rfl rfl ?_
 intro T593 h593 X593 e593 W593
 have N593 := Fr.snoc X593 N589 P4
 have F593 : Fld Z h593 a "com/example/copse/copse/graph/TargetSearch" "queued" "I" (.int (1 : Int32)) := Fld.same W593 c591
 show Gg T593 m 182 []
 refine go_st (fun _ kq => XS.iload X593.here hx rfl (hb hby d12_182) rfl kq) ?_
 show Gg T593 m 184 [(.int (0 : Int32))]
 have c594 := Fld.other W589 c555 (Or.inr (slot_ne (a0 := a0) (t := .long) (t' := .long) (Or.inl (wd hw 11 rfl)) (Or.inl (wd hw 34 rfl)) (by decide) (by decide) (by decide)))
 have c595 := Fld.other W593 c594 (Or.inr (slot_ne (a0 := a0) (t := .long) (t' := .int) (Or.inl (wd hw 11 rfl)) (Or.inl (wd hw 103 rfl)) (by decide) (by decide) (by decide)))
 have c596 := Fld.other W593 F589 (Or.inr (slot_ne (a0 := a0) (t := .long) (t' := .int) (Or.inl (wd hw 34 rfl)) (Or.inl (wd hw 103 rfl)) (by decide) (by decide) (by decide)))
 have c597 := Fld.other W589 c567 (Or.inr (slot_ne (a0 := a0) (t := .int) (t' := .long) (Or.inl (wd hw 76 rfl)) (Or.inl (wd hw 34 rfl)) (by decide) (by decide) (by decide)))
 have c598 := Fld.other W593 c597 (Or.inr (slot_ne (a0 := a0) (t := .int) (t' := .int) (Or.inl (wd hw 76 rfl)) (Or.inl (wd hw 103 rfl)) (by decide) (by decide) (by decide)))
 have c599 := Fld.other W552 P24 (Or.inl P7)
 have c600 := Fld.other W589 c599 (Or.inr (slot_ne (a0 := a0) (t := .int) (t' := .long) (Or.inl (wd hw 79 rfl)) (Or.inl (wd hw 34 rfl)) (by decide) (by decide) (by decide)))
 have c601 := Fld.other W593 c600 (Or.inr (slot_ne (a0 := a0) (t := .int) (t' := .int) (Or.inl (wd hw 79 rfl)) (Or.inl (wd hw 103 rfl)) (by decide) (by decide) (by decide)))
 have c602 := Fld.other W589 c564 (Or.inr (slot_ne (a0 := a0) (t := (.array .int)) (t' := .long) (Or.inr (wd hw 19 rfl)) (Or.inl (wd hw 34 rfl)) (by decide) (by decide) (by decide)))
 have c603 := Fld.other W593 c602 (Or.inr (slot_ne (a0 := a0) (t := (.array .int)) (t' := .int) (Or.inr (wd hw 19 rfl)) (Or.inl (wd hw 103 rfl)) (by decide) (by decide) (by decide)))
 have c604 := Fld.other W589 c557 (Or.inr (slot_ne (a0 := a0) (t := (.array .int)) (t' := .long) (Or.inr (wd hw 25 rfl)) (Or.inl (wd hw 34 rfl)) (by decide) (by decide) (by decide)))
 have c605 := Fld.other W593 c604 (Or.inr (slot_ne (a0 := a0) (t := (.array .int)) (t' := .int) (Or.inr (wd hw 25 rfl)) (Or.inl (wd hw 103 rfl)) (by decide) (by decide) (by decide)))
 have c606 := Fld.other W552 P28 (Or.inl P7)
 have c607 := Fld.other W589 c606 (Or.inr (slot_ne (a0 := a0) (t := (.array .int)) (t' := .long) (Or.inr (wd hw 27 rfl)) (Or.inl (wd hw 34 rfl)) (by decide) (by decide) (by decide)))
 have c608 := Fld.other W593 c607 (Or.inr (slot_ne (a0 := a0) (t := (.array .int)) (t' := .int) (Or.inr (wd hw 27 rfl)) (Or.inl (wd hw 103 rfl)) (by decide) (by decide) (by decide)))
 exact go_retB (w := (0 : Int32)) X593 hx hlk hret (hb hby d12_184) (by decide) (by decide) (by decide) (by rw [e593]; exact ⟨rfl, N593, (Keep.wr (Keep.wr (Keep.wr (Keep.refl h0 [a, pe]) W552 (Or.inl (by simp))) W589 (Or.inl (by simp))) W593 (Or.inl (by simp))), c595, c596, c598, c601, F593, c603, c605, c608⟩)
def Q_bf0f (Z : State) (cK : ClassId) (a : Addr) (o : Addr) (f : Addr) (xl : Int64) (ra : Addr) (pe : Addr) (wa : Addr) (dq : Int32) (h0 : Heap) (n0 : Nat) (v : Option Value) (h : Heap) (L : List Loc) : Prop := v = some (.int (0 : Int32)) ∧ Fr n0 L ∧ Keep h0 h [a, pe] ∧ Fld Z h a "com/example/copse/copse/graph/TargetSearch" "arcLimit" "J" (.long xl) ∧ Fld Z h a "com/example/copse/copse/graph/TargetSearch" "arcsLookedAt" "J" (.long (0 : Int64)) ∧ Fld Z h a "com/example/copse/copse/graph/TargetSearch" "search" "I" (.int (1 : Int32)) ∧ Fld Z h a "com/example/copse/copse/graph/TargetSearch" "unreached" "I" (.int (1 : Int32)) ∧ Fld Z h a "com/example/copse/copse/graph/TargetSearch" "queued" "I" (.int (1 : Int32)) ∧ Fld Z h a "com/example/copse/copse/graph/TargetSearch" "reachedIn" "[I" (.ref ra) ∧ Fld Z h a "com/example/copse/copse/graph/TargetSearch" "pending" "[I" (.ref pe) ∧ Fld Z h a "com/example/copse/copse/graph/TargetSearch" "wantedIn" "[I" (.ref wa)
theorem ef_bf0f (m : MethodId) (cK : ClassId) (a : Addr) (o : Addr) (f : Addr) (xl : Int64) (ra : Addr) (pe : Addr) (wa : Addr) (dq : Int32) : entryFrame m #[(.ref a), (.ref o), (.int (0 : Int32)), (.ref f)] 11 = mkF m 0 #[.val (.ref a), .val (.ref o), .val (.int (0 : Int32)), .val (.ref f), .unset, .unset, .unset, .unset, .unset, .unset, .unset] [] := by first | (simp [entryFrame, mkF, argsToLocals, Value.category]; done) | rfl
abbrev rm_bf0f : Room := ({ frames := 2, cells := 0, slots := 0, locals := 26 } : Room)
set_option maxRecDepth 65536 in
set_option maxHeartbeats 4000000 in
theorem met_bf0f (l : Launch) (Z : State) (a0 : Array Value) (hw : ∀ d ∈ tables_1, d.before a0 Z = true) (cK : ClassId) (a : Addr) (o : Addr) (f : Addr) (xl : Int64) (ra : Addr) (pe : Addr) (wa : Addr) (dq : Int32) (h0 : Heap) (n0 : Nat) (Z0 : n0 ≤ h0.size) (P0 : Exa Z h0 a "com/example/copse/copse/graph/TargetSearch") (P1 : Exa Z h0 o "com/example/copse/copse/graph/TargetSearchArcLimitReachedPinLaw") (P2 : Fld Z h0 o "com/example/copse/copse/graph/TargetSearchArcLimitReachedPinLaw" "degree" "I" (.int dq)) (P3 : LamAt h0 f cK a) (P4 : n0 ≤ a) (P5 : n0 ≤ pe) (P6 : a ≠ ra) (P7 : a ≠ pe) (P8 : a ≠ wa) (P9 : a ≠ o) (P10 : a ≠ f) (P11 : ra ≠ pe) (P12 : ra ≠ wa) (P13 : ra ≠ o) (P14 : ra ≠ f) (P15 : pe ≠ wa) (P16 : pe ≠ o) (P17 : pe ≠ f) (P18 : wa ≠ o) (P19 : wa ≠ f) (P20 : o ≠ f) (P21 : Fld Z h0 a "com/example/copse/copse/graph/TargetSearch" "arcLimit" "J" (.long xl)) (P22 : Fld Z h0 a "com/example/copse/copse/graph/TargetSearch" "arcsLookedAt" "J" (.long (0 : Int64))) (P23 : Fld Z h0 a "com/example/copse/copse/graph/TargetSearch" "search" "I" (.int (1 : Int32))) (P24 : Fld Z h0 a "com/example/copse/copse/graph/TargetSearch" "unreached" "I" (.int (1 : Int32))) (P25 : Fld Z h0 a "com/example/copse/copse/graph/TargetSearch" "queued" "I" (.int (0 : Int32))) (P26 : Fld Z h0 a "com/example/copse/copse/graph/TargetSearch" "reachedIn" "[I" (.ref ra)) (P27 : Fld Z h0 a "com/example/copse/copse/graph/TargetSearch" "pending" "[I" (.ref pe)) (P28 : Fld Z h0 a "com/example/copse/copse/graph/TargetSearch" "wantedIn" "[I" (.ref wa)) (P29 : GA Z h0 ra .int 2 (fun i => .int (own_c2 (1 : Int32) (0 : Int32) i))) (P30 : GA Z h0 pe .int 2 (fun i => .int (own_c2 (0 : Int32) (0 : Int32) i))) (P31 : GA Z h0 wa .int 2 (fun i => .int (own_c2 (0 : Int32) (1 : Int32) i))) (P32 : ¬ ((0 : Int64) < xl)) :
  MetH l (⟨"com/example/copse/copse/graph/TargetSearch", "breadthFirst", "(Lcom/example/copse/copse/graph/SuccessorLists;ILjava/util/function/IntPredicate;)Z"⟩ : MethodName) prog_46_method_11_code 11 (some FieldType.boolean) [] rm_bf0f Z cK #[(.ref a), (.ref o), (.int (0 : Int32)), (.ref f)] h0 (Q_bf0f Z cK a o f xl ra pe wa dq h0 n0) rm_bf0f.cells rm_bf0f.slots := by
 refine own_bodyH pn13 ?_
 intro p e s m below meth c s₁ ct X0 e0 hLam hnamed
 obtain ⟨hx, hZ, hown, hby, hml, hret, hlk, hnm⟩ := ct
 have N0 := Fr.nil n0
 refine castGo (ef_bf0f m cK a o f xl ra pe wa dq) ?_
 show Gg s₁ m 0 []
 refine go_st (fun _ kq => XS.aloadN X0.here hx rfl (hb hby d12_0) rfl rfl kq) ?_
 show Gg s₁ m 1 [(.ref f)]
 refine go_st (fun _ kq => XS.iloadN X0.here hx rfl (hb hby d12_1) rfl kq) ?_
 show Gg s₁ m 2 [(.int (0 : Int32)), (.ref f)]
 refine go_callLam X0 hx hZ hml hown hLam (wd hw 88 rfl) (wd hw 89 rfl) (wd hw 90 rfl) (wd hw 83 rfl) (wd hw 92 rfl) (wd hw 1 rfl) (wd hw 91 rfl) (wd hw 93 rfl) (wd hw 2 rfl) own_lx1 own_ly1 (by decide) (by decide) own_fw own_cp own_f0 own_f1 own_f4 own_f5 own_f8 e0 P3 P0 (z := (0 : Int32)) (w := (0 : Int32)) (rest := []) (W := 0) (met_13 l Z a0 hw a wa h0 n0 Z0 P28 P31 P23) (fun v h L q => q.1) (by decide) (hb hby d12_2) rfl rfl rfl (lenOf pd4 rfl) pd4 (by show 2 * 0 + _ ≤ _; exact Nat.le_of_eq rfl) (by decide) (by decide) (by decide) (by decide) ?_
 intro T609 L609 X609 q609
 obtain ⟨-, M609, e609⟩ := q609
 have N609 := Fr.app N0 M609
 show Gg T609 m 7 [(.int (0 : Int32))]
 refine go_st (fun _ kq => XS.istore X609.here hx rfl (hb hby d12_7) rfl (l' := #[.val (.ref a), .val (.ref o), .val (.int (0 : Int32)), .val (.ref f), .val (.int (0 : Int32)), .unset, .unset, .unset, .unset, .unset, .unset]) rfl kq) ?_
 show Gg T609 m 9 []
 refine go_st (fun _ kq => XT.iconstV X609.here hx rfl (0 : Int32) (hb hby d12_9) (by decide) kq) ?_
 show Gg T609 m 10 [(.int (0 : Int32))]
 refine go_st (fun _ kq => XS.istore X609.here hx rfl (hb hby d12_10) rfl (l' := #[.val (.ref a), .val (.ref o), .val (.int (0 : Int32)), .val (.ref f), .val (.int (0 : Int32)), .val (.int (0 : Int32)), .unset, .unset, .unset, .unset, .unset]) rfl kq) ?_
 show Gg T609 m 12 []
 refine go_st (fun _ kq => XT.iconstV X609.here hx rfl (0 : Int32) (hb hby d12_12) (by decide) kq) ?_
 show Gg T609 m 13 [(.int (0 : Int32))]
 refine go_st (fun _ kq => XS.istore X609.here hx rfl (hb hby d12_13) rfl (l' := #[.val (.ref a), .val (.ref o), .val (.int (0 : Int32)), .val (.ref f), .val (.int (0 : Int32)), .val (.int (0 : Int32)), .val (.int (0 : Int32)), .unset, .unset, .unset, .unset]) rfl kq) ?_
 show Gg T609 m 15 []
 refine go_st (fun _ kq => XS.aloadN X609.here hx rfl (hb hby d12_15) rfl rfl kq) ?_
 show Gg T609 m 16 [(.ref a)]
 refine go_getF X609 hx hZ hown (host := "") (Or.inl (wd hw 24 rfl)) Via.refl e609 P27 (hb hby d12_16) rfl rfl ?_
 intro T610 X610 e610
 show Gg T610 m 19 [(.ref pe)]
 refine go_st (fun _ kq => XS.iload X610.here hx rfl (hb hby d12_19) rfl kq) ?_
 show Gg T610 m 21 [(.int (0 : Int32)), (.ref pe)]
 refine go_st (fun _ kq => XT.iincV X610.here hx rfl (1 : Int32) (hb hby d12_21) (by decide) rfl (l' := #[.val (.ref a), .val (.ref o), .val (.int (0 : Int32)), .val (.ref f), .val (.int (0 : Int32)), .val (.int (0 : Int32)), .val (.int (1 : Int32)), .unset, .unset, .unset, .unset]) rfl kq) ?_
 show Gg T610 m 24 [(.int (0 : Int32)), (.ref pe)]
 refine go_st (fun _ kq => XS.iloadN X610.here hx rfl (hb hby d12_24) rfl kq) ?_
 show Gg T610 m 25 [(.int (0 : Int32)), (.int (0 : Int32)), (.ref pe)]
 refine go_iast X610 hx hZ e610 P30 (hb hby d12_25) rfl rfl (by decide) ?_
 intro T611 h611 X611 e611 W611 G611
 have N611 := Fr.snoc X611 N609 P5
 show Gg T611 m 26 []
 refine go_st (fun _ kq => XS.iload X611.here hx rfl (hb hby d12_26) rfl kq) ?_
 show Gg T611 m 28 [(.int (0 : Int32))]
 refine go_st (fun _ kq => XS.ifNo X611.here hx rfl (hb hby d12_28) rfl (XT.i0_ne_f (by decide)) kq) ?_
 show Gg T611 m 31 []
 refine go_st (fun _ kq => XS.iload X611.here hx rfl (hb hby d12_31) rfl kq) ?_
 show Gg T611 m 33 [(.int (0 : Int32))]
 refine go_st (fun _ kq => XS.iload X611.here hx rfl (hb hby d12_33) rfl kq) ?_
 show Gg T611 m 35 [(.int (1 : Int32)), (.int (0 : Int32))]
 refine go_st (fun _ kq => XS.icmpNo X611.here hx rfl (hb hby d12_35) rfl (XT.ii_ge_f (by decide)) kq) ?_
 show Gg T611 m 38 []
 refine go_st (fun _ kq => XS.aloadN X611.here hx rfl (hb hby d12_38) rfl rfl kq) ?_
 show Gg T611 m 39 [(.ref a)]
 have c612 := Fld.other W611 P22 (Or.inl P7)
 refine go_getF X611 hx hZ hown (host := "") (Or.inl (wd hw 33 rfl)) Via.refl e611 c612 (hb hby d12_39) rfl rfl ?_
 intro T613 X613 e613
 show Gg T613 m 42 [(.long (0 : Int64))]
 refine go_st (fun _ kq => XS.aloadN X613.here hx rfl (hb hby d12_42) rfl rfl kq) ?_
 show Gg T613 m 43 [(.ref a), (.long (0 : Int64))]
 have c614 := Fld.other W611 P21 (Or.inl P7)
 refine go_getF X613 hx hZ hown (host := "") (Or.inl (wd hw 10 rfl)) Via.refl e613 c614 (hb hby d12_43) rfl rfl ?_
 intro T615 X615 e615
 show Gg T615 m 46 [(.long xl), (.long (0 : Int64))]
 refine go_st (fun _ kq => XT.lcmp X615.here hx rfl (hb hby d12_46) rfl kq) ?_
 show Gg T615 m 47 [(.int (XT.cmpL (0 : Int64) xl))]
 refine go_st (fun _ kq => XS.ifYes X615.here hx rfl (pc0 := 47) (pc' := 176) rfl (hb hby d12_47) rfl (XT.ll_ge_t P32) (by decide) (by decide) kq) ?_
 show Gg T615 m 176 []
 refine go_st (fun _ kq => XS.aloadN X615.here hx rfl (hb hby d12_176) rfl rfl kq) ?_
 show Gg T615 m 177 [(.ref a)]
 refine go_st (fun _ kq => XS.iload X615.here hx rfl (hb hby d12_177) rfl kq) ?_
 show Gg T615 m 179 [(.int (1 : Int32)), (.ref a)]
 have c616 := Fld.other W611 P25 (Or.inl P7)
 have c617 := Exa.wr W611 P0
 refine go_putF X615 hx hZ hown (host := "") (Or.inl (wd hw 102 rfl)) Via.refl e615 c616 c617 (Or.inl (wd hw 103 rfl)) (wd hw 1 rfl) (ty := .int) (by decide) rfl rfl (hb hby d12_179) rfl rfl ?_
 intro T618 h618 X618 e618 W618
 have N618 := Fr.snoc X618 N611 P4
 have F618 : Fld Z h618 a "com/example/copse/copse/graph/TargetSearch" "queued" "I" (.int (1 : Int32)) := Fld.same W618 c616
 show Gg T618 m 182 []
 refine go_st (fun _ kq => XS.iload X618.here hx rfl (hb hby d12_182) rfl kq) ?_
 show Gg T618 m 184 [(.int (0 : Int32))]
 have c619 := Fld.other W618 c614 (Or.inr (slot_ne (a0 := a0) (t := .long) (t' := .int) (Or.inl (wd hw 11 rfl)) (Or.inl (wd hw 103 rfl)) (by decide) (by decide) (by decide)))
 have c620 := Fld.other W618 c612 (Or.inr (slot_ne (a0 := a0) (t := .long) (t' := .int) (Or.inl (wd hw 34 rfl)) (Or.inl (wd hw 103 rfl)) (by decide) (by decide) (by decide)))
 have c621 := Fld.other W611 P23 (Or.inl P7)
 have c622 := Fld.other W618 c621 (Or.inr (slot_ne (a0 := a0) (t := .int) (t' := .int) (Or.inl (wd hw 76 rfl)) (Or.inl (wd hw 103 rfl)) (by decide) (by decide) (by decide)))
 have c623 := Fld.other W611 P24 (Or.inl P7)
 have c624 := Fld.other W618 c623 (Or.inr (slot_ne (a0 := a0) (t := .int) (t' := .int) (Or.inl (wd hw 79 rfl)) (Or.inl (wd hw 103 rfl)) (by decide) (by decide) (by decide)))
 have c625 := Fld.other W611 P26 (Or.inl P7)
 have c626 := Fld.other W618 c625 (Or.inr (slot_ne (a0 := a0) (t := (.array .int)) (t' := .int) (Or.inr (wd hw 19 rfl)) (Or.inl (wd hw 103 rfl)) (by decide) (by decide) (by decide)))
 have c627 := Fld.other W611 P27 (Or.inl P7)
 have c628 := Fld.other W618 c627 (Or.inr (slot_ne (a0 := a0) (t := (.array .int)) (t' := .int) (Or.inr (wd hw 25 rfl)) (Or.inl (wd hw 103 rfl)) (by decide) (by decide) (by decide)))
 have c629 := Fld.other W611 P28 (Or.inl P7)
 have c630 := Fld.other W618 c629 (Or.inr (slot_ne (a0 := a0) (t := (.array .int)) (t' := .int) (Or.inr (wd hw 27 rfl)) (Or.inl (wd hw 103 rfl)) (by decide) (by decide) (by decide)))
 exact go_retB (w := (0 : Int32)) X618 hx hlk hret (hb hby d12_184) (by decide) (by decide) (by decide) (by rw [e618]; exact ⟨rfl, N618, (Keep.wr (Keep.wr (Keep.refl h0 [a, pe]) W611 (Or.inl (by simp))) W618 (Or.inl (by simp))), c619, c620, c622, c624, F618, c626, c628, c630⟩)
def Q_bft (Z : State) (cK : ClassId) (a : Addr) (o : Addr) (f : Addr) (xl : Int64) (ra : Addr) (pe : Addr) (wa : Addr) (dq : Int32) (h0 : Heap) (n0 : Nat) (v : Option Value) (h : Heap) (L : List Loc) : Prop := v = some (.int (0 : Int32)) ∧ Fr n0 L ∧ Keep h0 h [a, pe] ∧ Fld Z h a "com/example/copse/copse/graph/TargetSearch" "arcLimit" "J" (.long xl) ∧ Fld Z h a "com/example/copse/copse/graph/TargetSearch" "arcsLookedAt" "J" (.long dq.toInt64) ∧ Fld Z h a "com/example/copse/copse/graph/TargetSearch" "search" "I" (.int (1 : Int32)) ∧ Fld Z h a "com/example/copse/copse/graph/TargetSearch" "unreached" "I" (.int (1 : Int32)) ∧ Fld Z h a "com/example/copse/copse/graph/TargetSearch" "queued" "I" (.int (1 : Int32)) ∧ Fld Z h a "com/example/copse/copse/graph/TargetSearch" "reachedIn" "[I" (.ref ra) ∧ Fld Z h a "com/example/copse/copse/graph/TargetSearch" "pending" "[I" (.ref pe) ∧ Fld Z h a "com/example/copse/copse/graph/TargetSearch" "wantedIn" "[I" (.ref wa)
abbrev rm_bft : Room := ({ frames := 2, cells := 0, slots := 0, locals := 26 } : Room)
theorem met_bft (l : Launch) (Z : State) (a0 : Array Value) (hw : ∀ d ∈ tables_1, d.before a0 Z = true) (cK : ClassId) (a : Addr) (o : Addr) (f : Addr) (xl : Int64) (ra : Addr) (pe : Addr) (wa : Addr) (dq : Int32) (h0 : Heap) (n0 : Nat) (Z0 : n0 ≤ h0.size) (P0 : Exa Z h0 a "com/example/copse/copse/graph/TargetSearch") (P1 : Exa Z h0 o "com/example/copse/copse/graph/TargetSearchArcLimitReachedPinLaw") (P2 : Fld Z h0 o "com/example/copse/copse/graph/TargetSearchArcLimitReachedPinLaw" "degree" "I" (.int dq)) (P3 : LamAt h0 f cK a) (P4 : n0 ≤ a) (P5 : n0 ≤ pe) (P6 : a ≠ ra) (P7 : a ≠ pe) (P8 : a ≠ wa) (P9 : a ≠ o) (P10 : a ≠ f) (P11 : ra ≠ pe) (P12 : ra ≠ wa) (P13 : ra ≠ o) (P14 : ra ≠ f) (P15 : pe ≠ wa) (P16 : pe ≠ o) (P17 : pe ≠ f) (P18 : wa ≠ o) (P19 : wa ≠ f) (P20 : o ≠ f) (P21 : Fld Z h0 a "com/example/copse/copse/graph/TargetSearch" "arcLimit" "J" (.long xl)) (P22 : Fld Z h0 a "com/example/copse/copse/graph/TargetSearch" "arcsLookedAt" "J" (.long (0 : Int64))) (P23 : Fld Z h0 a "com/example/copse/copse/graph/TargetSearch" "search" "I" (.int (1 : Int32))) (P24 : Fld Z h0 a "com/example/copse/copse/graph/TargetSearch" "unreached" "I" (.int (1 : Int32))) (P25 : Fld Z h0 a "com/example/copse/copse/graph/TargetSearch" "queued" "I" (.int (0 : Int32))) (P26 : Fld Z h0 a "com/example/copse/copse/graph/TargetSearch" "reachedIn" "[I" (.ref ra)) (P27 : Fld Z h0 a "com/example/copse/copse/graph/TargetSearch" "pending" "[I" (.ref pe)) (P28 : Fld Z h0 a "com/example/copse/copse/graph/TargetSearch" "wantedIn" "[I" (.ref wa)) (P29 : GA Z h0 ra .int 2 (fun i => .int (own_c2 (1 : Int32) (0 : Int32) i))) (P30 : GA Z h0 pe .int 2 (fun i => .int (own_c2 (0 : Int32) (0 : Int32) i))) (P31 : GA Z h0 wa .int 2 (fun i => .int (own_c2 (0 : Int32) (1 : Int32) i))) (P32 : (0 : Int64) < xl) (P33 : own_lt8 dq) :
  MetH l (⟨"com/example/copse/copse/graph/TargetSearch", "breadthFirst", "(Lcom/example/copse/copse/graph/SuccessorLists;ILjava/util/function/IntPredicate;)Z"⟩ : MethodName) prog_46_method_11_code 11 (some FieldType.boolean) [] rm_bft Z cK #[(.ref a), (.ref o), (.int (0 : Int32)), (.ref f)] h0 (Q_bft Z cK a o f xl ra pe wa dq h0 n0) rm_bft.cells rm_bft.slots := by
 rcases P33 with rfl | rfl | rfl | rfl | rfl | rfl | rfl | rfl
 ·have h := met_bf0t l Z a0 hw cK a o f xl ra pe wa h0 n0 Z0 P0 P1 P2 P3 P4 P5 P6 P7 P8 P9 P10 P11 P12 P13 P14 P15 P16 P17 P18 P19 P20 P21 P22 P23 P24 P25 P26 P27 P28 P29 P30 P31 P32
  have e : Q_bf0t Z cK a o f xl ra pe wa h0 n0 = Q_bft Z cK a o f xl ra pe wa (0 : Int32) h0 n0 := by
   unfold Q_bf0t Q_bft; rw [show (0 : Int32).toInt64 = (0 : Int64) from by decide]
  rw [← e]; exact h
 ·have h := met_bf1t l Z a0 hw cK a o f xl ra pe wa h0 n0 Z0 P0 P1 P2 P3 P4 P5 P6 P7 P8 P9 P10 P11 P12 P13 P14 P15 P16 P17 P18 P19 P20 P21 P22 P23 P24 P25 P26 P27 P28 P29 P30 P31 P32
  have e : Q_bf1t Z cK a o f xl ra pe wa h0 n0 = Q_bft Z cK a o f xl ra pe wa (1 : Int32) h0 n0 := by
   unfold Q_bf1t Q_bft; rw [show (1 : Int32).toInt64 = (1 : Int64) from by decide]
  rw [← e]; exact h
 ·have h := met_bf2t l Z a0 hw cK a o f xl ra pe wa h0 n0 Z0 P0 P1 P2 P3 P4 P5 P6 P7 P8 P9 P10 P11 P12 P13 P14 P15 P16 P17 P18 P19 P20 P21 P22 P23 P24 P25 P26 P27 P28 P29 P30 P31 P32
  have e : Q_bf2t Z cK a o f xl ra pe wa h0 n0 = Q_bft Z cK a o f xl ra pe wa (2 : Int32) h0 n0 := by
   unfold Q_bf2t Q_bft; rw [show (2 : Int32).toInt64 = (2 : Int64) from by decide]
  rw [← e]; exact h
 ·have h := met_bf3t l Z a0 hw cK a o f xl ra pe wa h0 n0 Z0 P0 P1 P2 P3 P4 P5 P6 P7 P8 P9 P10 P11 P12 P13 P14 P15 P16 P17 P18 P19 P20 P21 P22 P23 P24 P25 P26 P27 P28 P29 P30 P31 P32
  have e : Q_bf3t Z cK a o f xl ra pe wa h0 n0 = Q_bft Z cK a o f xl ra pe wa (3 : Int32) h0 n0 := by
   unfold Q_bf3t Q_bft; rw [show (3 : Int32).toInt64 = (3 : Int64) from by decide]
  rw [← e]; exact h
 ·have h := met_bf4t l Z a0 hw cK a o f xl ra pe wa h0 n0 Z0 P0 P1 P2 P3 P4 P5 P6 P7 P8 P9 P10 P11 P12 P13 P14 P15 P16 P17 P18 P19 P20 P21 P22 P23 P24 P25 P26 P27 P28 P29 P30 P31 P32
  have e : Q_bf4t Z cK a o f xl ra pe wa h0 n0 = Q_bft Z cK a o f xl ra pe wa (4 : Int32) h0 n0 := by
   unfold Q_bf4t Q_bft; rw [show (4 : Int32).toInt64 = (4 : Int64) from by decide]
  rw [← e]; exact h
 ·have h := met_bf5t l Z a0 hw cK a o f xl ra pe wa h0 n0 Z0 P0 P1 P2 P3 P4 P5 P6 P7 P8 P9 P10 P11 P12 P13 P14 P15 P16 P17 P18 P19 P20 P21 P22 P23 P24 P25 P26 P27 P28 P29 P30 P31 P32
  have e : Q_bf5t Z cK a o f xl ra pe wa h0 n0 = Q_bft Z cK a o f xl ra pe wa (5 : Int32) h0 n0 := by
   unfold Q_bf5t Q_bft; rw [show (5 : Int32).toInt64 = (5 : Int64) from by decide]
  rw [← e]; exact h
 ·have h := met_bf6t l Z a0 hw cK a o f xl ra pe wa h0 n0 Z0 P0 P1 P2 P3 P4 P5 P6 P7 P8 P9 P10 P11 P12 P13 P14 P15 P16 P17 P18 P19 P20 P21 P22 P23 P24 P25 P26 P27 P28 P29 P30 P31 P32
  have e : Q_bf6t Z cK a o f xl ra pe wa h0 n0 = Q_bft Z cK a o f xl ra pe wa (6 : Int32) h0 n0 := by
   unfold Q_bf6t Q_bft; rw [show (6 : Int32).toInt64 = (6 : Int64) from by decide]
  rw [← e]; exact h
 ·have h := met_bf7t l Z a0 hw cK a o f xl ra pe wa h0 n0 Z0 P0 P1 P2 P3 P4 P5 P6 P7 P8 P9 P10 P11 P12 P13 P14 P15 P16 P17 P18 P19 P20 P21 P22 P23 P24 P25 P26 P27 P28 P29 P30 P31 P32
  have e : Q_bf7t Z cK a o f xl ra pe wa h0 n0 = Q_bft Z cK a o f xl ra pe wa (7 : Int32) h0 n0 := by
   unfold Q_bf7t Q_bft; rw [show (7 : Int32).toInt64 = (7 : Int64) from by decide]
  rw [← e]; exact h
theorem d7_0 : decode prog_46_method_7_code 0 = .ok (.aload_n 0, 1) := by decide +kernel
theorem d7_1 : decode prog_46_method_7_code 1 = .ok (.aload_n 1, 1) := by decide +kernel
theorem d7_2 : decode prog_46_method_7_code 2 = .ok (.iload_n 2, 1) := by decide +kernel
theorem d7_3 : decode prog_46_method_7_code 3 = .ok (.invokevirtual 42, 3) := by decide +kernel
theorem d7_6 : decode prog_46_method_7_code 6 = .ok (.aload_n 0, 1) := by decide +kernel
theorem d7_7 : decode prog_46_method_7_code 7 = .ok (.iconst 0, 1) := by decide +kernel
theorem d7_8 : decode prog_46_method_7_code 8 = .ok (.putfield 77, 3) := by decide +kernel
theorem d7_11 : decode prog_46_method_7_code 11 = .ok (.aload_n 3, 1) := by decide +kernel
theorem d7_12 : decode prog_46_method_7_code 12 = .ok (.astore 4, 2) := by decide +kernel
theorem d7_14 : decode prog_46_method_7_code 14 = .ok (.aload 4, 2) := by decide +kernel
theorem d7_16 : decode prog_46_method_7_code 16 = .ok (.arraylength, 1) := by decide +kernel
theorem d7_17 : decode prog_46_method_7_code 17 = .ok (.istore 5, 2) := by decide +kernel
theorem d7_19 : decode prog_46_method_7_code 19 = .ok (.iconst 0, 1) := by decide +kernel
theorem d7_20 : decode prog_46_method_7_code 20 = .ok (.istore 6, 2) := by decide +kernel
theorem d7_22 : decode prog_46_method_7_code 22 = .ok (.iload 6, 2) := by decide +kernel
theorem d7_24 : decode prog_46_method_7_code 24 = .ok (.iload 5, 2) := by decide +kernel
theorem d7_26 : decode prog_46_method_7_code 26 = .ok (.if_icmp .ge 59, 3) := by decide +kernel
theorem d7_29 : decode prog_46_method_7_code 29 = .ok (.aload 4, 2) := by decide +kernel
theorem d7_31 : decode prog_46_method_7_code 31 = .ok (.iload 6, 2) := by decide +kernel
theorem d7_33 : decode prog_46_method_7_code 33 = .ok (.iaload, 1) := by decide +kernel
theorem d7_34 : decode prog_46_method_7_code 34 = .ok (.istore 7, 2) := by decide +kernel
theorem d7_36 : decode prog_46_method_7_code 36 = .ok (.aload_n 0, 1) := by decide +kernel
theorem d7_37 : decode prog_46_method_7_code 37 = .ok (.getfield 36, 3) := by decide +kernel
theorem d7_40 : decode prog_46_method_7_code 40 = .ok (.iload 7, 2) := by decide +kernel
theorem d7_42 : decode prog_46_method_7_code 42 = .ok (.aload_n 0, 1) := by decide +kernel
theorem d7_43 : decode prog_46_method_7_code 43 = .ok (.getfield 36, 3) := by decide +kernel
theorem d7_46 : decode prog_46_method_7_code 46 = .ok (.arraylength, 1) := by decide +kernel
theorem d7_47 : decode prog_46_method_7_code 47 = .ok (.invokestatic 71, 3) := by decide +kernel
theorem d7_50 : decode prog_46_method_7_code 50 = .ok (.iaload, 1) := by decide +kernel
theorem d7_51 : decode prog_46_method_7_code 51 = .ok (.aload_n 0, 1) := by decide +kernel
theorem d7_52 : decode prog_46_method_7_code 52 = .ok (.getfield 46, 3) := by decide +kernel
theorem d7_55 : decode prog_46_method_7_code 55 = .ok (.if_icmp .eq 24, 3) := by decide +kernel
theorem d7_58 : decode prog_46_method_7_code 58 = .ok (.aload_n 0, 1) := by decide +kernel
theorem d7_59 : decode prog_46_method_7_code 59 = .ok (.getfield 36, 3) := by decide +kernel
theorem d7_62 : decode prog_46_method_7_code 62 = .ok (.iload 7, 2) := by decide +kernel
theorem d7_64 : decode prog_46_method_7_code 64 = .ok (.aload_n 0, 1) := by decide +kernel
theorem d7_65 : decode prog_46_method_7_code 65 = .ok (.getfield 46, 3) := by decide +kernel
theorem d7_68 : decode prog_46_method_7_code 68 = .ok (.iastore, 1) := by decide +kernel
theorem d7_69 : decode prog_46_method_7_code 69 = .ok (.aload_n 0, 1) := by decide +kernel
theorem d7_70 : decode prog_46_method_7_code 70 = .ok (.dup, 1) := by decide +kernel
theorem d7_71 : decode prog_46_method_7_code 71 = .ok (.getfield 77, 3) := by decide +kernel
theorem d7_74 : decode prog_46_method_7_code 74 = .ok (.iconst 1, 1) := by decide +kernel
theorem d7_75 : decode prog_46_method_7_code 75 = .ok (.iadd, 1) := by decide +kernel
theorem d7_76 : decode prog_46_method_7_code 76 = .ok (.putfield 77, 3) := by decide +kernel
theorem d7_79 : decode prog_46_method_7_code 79 = .ok (.iinc 6 1, 3) := by decide +kernel
theorem d7_82 : decode prog_46_method_7_code 82 = .ok (.goto (-60), 3) := by decide +kernel
theorem d7_85 : decode prog_46_method_7_code 85 = .ok (.aload_n 0, 1) := by decide +kernel
theorem d7_86 : decode prog_46_method_7_code 86 = .ok (.getfield 77, 3) := by decide +kernel
theorem d7_89 : decode prog_46_method_7_code 89 = .ok (.ifCond .le 26, 3) := by decide +kernel
theorem d7_92 : decode prog_46_method_7_code 92 = .ok (.aload_n 0, 1) := by decide +kernel
theorem d7_93 : decode prog_46_method_7_code 93 = .ok (.getfield 23, 3) := by decide +kernel
theorem d7_96 : decode prog_46_method_7_code 96 = .ok (.iload_n 2, 1) := by decide +kernel
theorem d7_97 : decode prog_46_method_7_code 97 = .ok (.aload_n 0, 1) := by decide +kernel
theorem d7_98 : decode prog_46_method_7_code 98 = .ok (.getfield 46, 3) := by decide +kernel
theorem d7_101 : decode prog_46_method_7_code 101 = .ok (.iastore, 1) := by decide +kernel
theorem d7_102 : decode prog_46_method_7_code 102 = .ok (.aload_n 0, 1) := by decide +kernel
theorem d7_103 : decode prog_46_method_7_code 103 = .ok (.aload_n 1, 1) := by decide +kernel
theorem d7_104 : decode prog_46_method_7_code 104 = .ok (.iload_n 2, 1) := by decide +kernel
theorem d7_105 : decode prog_46_method_7_code 105 = .ok (.aload_n 0, 1) := by decide +kernel
theorem d7_106 : decode prog_46_method_7_code 106 = .ok (.invokedynamic 80, 5) := by decide +kernel
theorem d7_111 : decode prog_46_method_7_code 111 = .ok (.invokevirtual 50, 3) := by decide +kernel
theorem d7_114 : decode prog_46_method_7_code 114 = .ok (.pop, 1) := by decide +kernel
theorem d7_115 : decode prog_46_method_7_code 115 = .ok (.aload_n 0, 1) := by decide +kernel
theorem d7_116 : decode prog_46_method_7_code 116 = .ok (.getfield 77, 3) := by decide +kernel
theorem d7_119 : decode prog_46_method_7_code 119 = .ok (.ifCond .ne 7, 3) := by decide +kernel
theorem d7_122 : decode prog_46_method_7_code 122 = .ok (.iconst 1, 1) := by decide +kernel
theorem d7_123 : decode prog_46_method_7_code 123 = .ok (.goto 4, 3) := by decide +kernel
theorem d7_126 : decode prog_46_method_7_code 126 = .ok (.iconst 0, 1) := by decide +kernel
theorem d7_127 : decode prog_46_method_7_code 127 = .ok (.ireturn, 1) := by decide +kernel
theorem pn14 : plainFor (⟨"com/example/copse/copse/graph/TargetSearch", "reachesAll", "(Lcom/example/copse/copse/graph/SuccessorLists;I[I)Z"⟩ : MethodName) = true := by first | (refine plainFor_of_name ?_; simp [plainName, overriddenIn]; done) | (refine plainFor_of_name ?_; decide +kernel) | decide +kernel
def Q_reat (Z : State) (cK : ClassId) (a : Addr) (o : Addr) (b : Addr) (xl : Int64) (ra : Addr) (pe : Addr) (wa : Addr) (dq : Int32) (h0 : Heap) (n0 : Nat) (v : Option Value) (h : Heap) (L : List Loc) : Prop := v = some (.int (0 : Int32)) ∧ Fr n0 L ∧ Keep h0 h [a, ra, pe, wa] ∧ Fld Z h a "com/example/copse/copse/graph/TargetSearch" "arcLimit" "J" (.long xl) ∧ Fld Z h a "com/example/copse/copse/graph/TargetSearch" "arcsLookedAt" "J" (.long dq.toInt64) ∧ Fld Z h a "com/example/copse/copse/graph/TargetSearch" "search" "I" (.int (1 : Int32)) ∧ Fld Z h a "com/example/copse/copse/graph/TargetSearch" "unreached" "I" (.int (1 : Int32)) ∧ Fld Z h a "com/example/copse/copse/graph/TargetSearch" "queued" "I" (.int (1 : Int32)) ∧ Fld Z h a "com/example/copse/copse/graph/TargetSearch" "reachedIn" "[I" (.ref ra) ∧ Fld Z h a "com/example/copse/copse/graph/TargetSearch" "pending" "[I" (.ref pe) ∧ Fld Z h a "com/example/copse/copse/graph/TargetSearch" "wantedIn" "[I" (.ref wa)
theorem pd5 : parseMethodDescriptor "(Lcom/example/copse/copse/graph/SuccessorLists;I)V" = some ⟨[(.object "com/example/copse/copse/graph/SuccessorLists"), .int], none⟩ := by decide +kernel
theorem pd6 : parseMethodDescriptor "(Lcom/example/copse/copse/graph/SuccessorLists;ILjava/util/function/IntPredicate;)Z" = some ⟨[(.object "com/example/copse/copse/graph/SuccessorLists"), .int, (.object "java/util/function/IntPredicate")], (some .boolean)⟩ := by decide +kernel
theorem ef_reat (m : MethodId) (cK : ClassId) (a : Addr) (o : Addr) (b : Addr) (xl : Int64) (ra : Addr) (pe : Addr) (wa : Addr) (dq : Int32) : entryFrame m #[(.ref a), (.ref o), (.int (0 : Int32)), (.ref b)] 8 = mkF m 0 #[.val (.ref a), .val (.ref o), .val (.int (0 : Int32)), .val (.ref b), .unset, .unset, .unset, .unset] [] := by first | (simp [entryFrame, mkF, argsToLocals, Value.category]; done) | rfl
abbrev rm_reat : Room := ({ frames := 3, cells := 1, slots := 1, locals := 3076 } : Room)
set_option maxRecDepth 65536 in
set_option maxHeartbeats 4000000 in
theorem met_reat (l : Launch) (Z : State) (a0 : Array Value) (hw : ∀ d ∈ tables_1, d.before a0 Z = true) (cK : ClassId) (a : Addr) (o : Addr) (b : Addr) (xl : Int64) (ra : Addr) (pe : Addr) (wa : Addr) (dq : Int32) (h0 : Heap) (n0 : Nat) (Z0 : n0 ≤ h0.size) (P0 : Exa Z h0 a "com/example/copse/copse/graph/TargetSearch") (P1 : Exa Z h0 o "com/example/copse/copse/graph/TargetSearchArcLimitReachedPinLaw") (P2 : Fld Z h0 o "com/example/copse/copse/graph/TargetSearchArcLimitReachedPinLaw" "degree" "I" (.int dq)) (P3 : GA Z h0 b .int 1 (fun i => .int (own_c2 (1 : Int32) (0 : Int32) i))) (P4 : n0 ≤ a) (P5 : n0 ≤ ra) (P6 : n0 ≤ pe) (P7 : n0 ≤ wa) (P8 : a ≠ ra) (P9 : a ≠ pe) (P10 : a ≠ wa) (P11 : a ≠ o) (P12 : a ≠ b) (P13 : ra ≠ pe) (P14 : ra ≠ wa) (P15 : ra ≠ o) (P16 : ra ≠ b) (P17 : pe ≠ wa) (P18 : pe ≠ o) (P19 : pe ≠ b) (P20 : wa ≠ o) (P21 : wa ≠ b) (P22 : o ≠ b) (P23 : Fld Z h0 a "com/example/copse/copse/graph/TargetSearch" "arcLimit" "J" (.long xl)) (P24 : Fld Z h0 a "com/example/copse/copse/graph/TargetSearch" "arcsLookedAt" "J" (.long (0 : Int64))) (P25 : Fld Z h0 a "com/example/copse/copse/graph/TargetSearch" "search" "I" (.int (0 : Int32))) (P26 : Fld Z h0 a "com/example/copse/copse/graph/TargetSearch" "unreached" "I" (.int (0 : Int32))) (P27 : Fld Z h0 a "com/example/copse/copse/graph/TargetSearch" "queued" "I" (.int (0 : Int32))) (P28 : Fld Z h0 a "com/example/copse/copse/graph/TargetSearch" "reachedIn" "[I" (.ref ra)) (P29 : Fld Z h0 a "com/example/copse/copse/graph/TargetSearch" "pending" "[I" (.ref pe)) (P30 : Fld Z h0 a "com/example/copse/copse/graph/TargetSearch" "wantedIn" "[I" (.ref wa)) (P31 : GA Z h0 ra .int 2 (fun i => .int (own_c2 (0 : Int32) (0 : Int32) i))) (P32 : GA Z h0 pe .int 2 (fun i => .int (own_c2 (0 : Int32) (0 : Int32) i))) (P33 : GA Z h0 wa .int 2 (fun i => .int (own_c2 (0 : Int32) (0 : Int32) i))) (P34 : (0 : Int64) < xl) (P35 : own_lt8 dq) :
  MetH l (⟨"com/example/copse/copse/graph/TargetSearch", "reachesAll", "(Lcom/example/copse/copse/graph/SuccessorLists;I[I)Z"⟩ : MethodName) prog_46_method_7_code 8 (some FieldType.boolean) [] rm_reat Z cK #[(.ref a), (.ref o), (.int (0 : Int32)), (.ref b)] h0 (Q_reat Z cK a o b xl ra pe wa dq h0 n0) rm_reat.cells rm_reat.slots := by
 refine own_bodyH pn14 ?_
 intro p e s m below meth c s₁ ct X0 e0 hLam hnamed
 obtain ⟨hx, hZ, hown, hby, hml, hret, hlk, hnm⟩ := ct
 have lt_a : a < h0.size := P0.lt
 have lt_o : o < h0.size := P1.lt
 have lt_ra : ra < h0.size := P31.lt
 have lt_pe : pe < h0.size := P32.lt
 have lt_wa : wa < h0.size := P33.lt
 have N0 := Fr.nil n0
 refine castGo (ef_reat m cK a o b xl ra pe wa dq) ?_
 show Gg s₁ m 0 []
 refine go_st (fun _ kq => XS.aloadN X0.here hx rfl (hb hby d7_0) rfl rfl kq) ?_
 show Gg s₁ m 1 [(.ref a)]
 refine go_st (fun _ kq => XS.aloadN X0.here hx rfl (hb hby d7_1) rfl rfl kq) ?_
 show Gg s₁ m 2 [(.ref o), (.ref a)]
 refine go_st (fun _ kq => XS.iloadN X0.here hx rfl (hb hby d7_2) rfl kq) ?_
 show Gg s₁ m 3 [(.int (0 : Int32)), (.ref o), (.ref a)]
 refine go_callP X0 hx hZ hml hown (wd hw 54 rfl) (wd hw 56 rfl) (wd hw 1 rfl) (wd hw 55 rfl) (wd hw 57 rfl) (wd hw 2 rfl) e0 P0 (argsL := [(.ref o), (.int (0 : Int32))]) (rest := []) (W := 0) (met_sts l Z a0 hw a o xl ra pe wa h0 n0 Z0 P0 P1 P4 P8 P23 P24 P25 P26 P27 P28 P29 P30 P31) (hb hby d7_3) rfl rfl rfl (lenOf pd5 rfl) (by show 2 * 0 + _ ≤ _; exact Nat.le_of_eq rfl) (by decide) (by decide) (by decide) (by decide) (by decide) ?_
 intro T631 v631 L631 X631 q631
 obtain ⟨rfl, M631, K631, f631_0, f631_1, f631_2, f631_3, f631_4, f631_5, f631_6, f631_7⟩ := q631
 have N631 := Fr.app N0 M631
 show Gg T631 m 6 []
 refine go_st (fun _ kq => XS.aloadN X631.here hx rfl (hb hby d7_6) rfl rfl kq) ?_
 show Gg T631 m 7 [(.ref a)]
 refine go_st (fun _ kq => XT.iconstV X631.here hx rfl (0 : Int32) (hb hby d7_7) (by decide) kq) ?_
 show Gg T631 m 8 [(.int (0 : Int32)), (.ref a)]
 have c632 := Exa.keep P0 K631
 refine go_putF X631 hx hZ hown (host := "") (Or.inl (wd hw 78 rfl)) Via.refl rfl f631_3 c632 (Or.inl (wd hw 79 rfl)) (wd hw 1 rfl) (ty := .int) (by decide) rfl rfl (hb hby d7_8) rfl rfl ?_
 intro T633 h633 X633 e633 W633
 have N633 := Fr.snoc X633 N631 P4
 have F633 : Fld Z h633 a "com/example/copse/copse/graph/TargetSearch" "unreached" "I" (.int (0 : Int32)) := Fld.same W633 f631_3
 show Gg T633 m 11 []
 refine go_st (fun _ kq => XS.aloadN X633.here hx rfl (hb hby d7_11) rfl rfl kq) ?_
 show Gg T633 m 12 [(.ref b)]
 refine go_st (fun _ kq => XS.astore X633.here hx rfl (hb hby d7_12) rfl rfl (l' := #[.val (.ref a), .val (.ref o), .val (.int (0 : Int32)), .val (.ref b), .val (.ref b), .unset, .unset, .unset]) rfl kq) ?_
 show Gg T633 m 14 []
 refine go_st (fun _ kq => XS.aload X633.here hx rfl (hb hby d7_14) rfl rfl kq) ?_
 show Gg T633 m 16 [(.ref b)]
 have c634 := GA.keep P3 K631 (ninS (Ne.symm P12) nin0)
 have c635 := c634.other W633 (Ne.symm P12)
 refine go_alen X633 hx hZ e633 c635 (hb hby d7_16) rfl rfl (1 : Int32) (by decide) ?_
 show Gg T633 m 17 [(.int (1 : Int32))]
 refine go_st (fun _ kq => XS.istore X633.here hx rfl (hb hby d7_17) rfl (l' := #[.val (.ref a), .val (.ref o), .val (.int (0 : Int32)), .val (.ref b), .val (.ref b), .val (.int (1 : Int32)), .unset, .unset]) rfl kq) ?_
 show Gg T633 m 19 []
 refine go_st (fun _ kq => XT.iconstV X633.here hx rfl (0 : Int32) (hb hby d7_19) (by decide) kq) ?_
 show Gg T633 m 20 [(.int (0 : Int32))]
 refine go_st (fun _ kq => XS.istore X633.here hx rfl (hb hby d7_20) rfl (l' := #[.val (.ref a), .val (.ref o), .val (.int (0 : Int32)), .val (.ref b), .val (.ref b), .val (.int (1 : Int32)), .val (.int (0 : Int32)), .unset]) rfl kq) ?_
 show Gg T633 m 22 []
 refine go_st (fun _ kq => XS.iload X633.here hx rfl (hb hby d7_22) rfl kq) ?_
 show Gg T633 m 24 [(.int (0 : Int32))]
 refine go_st (fun _ kq => XS.iload X633.here hx rfl (hb hby d7_24) rfl kq) ?_
 show Gg T633 m 26 [(.int (1 : Int32)), (.int (0 : Int32))]
 refine go_st (fun _ kq => XS.icmpNo X633.here hx rfl (hb hby d7_26) rfl (XT.ii_ge_f (by decide)) kq) ?_
 show Gg T633 m 29 []
 refine go_st (fun _ kq => XS.aload X633.here hx rfl (hb hby d7_29) rfl rfl kq) ?_
 show Gg T633 m 31 [(.ref b)]
 refine go_st (fun _ kq => XS.iload X633.here hx rfl (hb hby d7_31) rfl kq) ?_
 show Gg T633 m 33 [(.int (0 : Int32)), (.ref b)]
 refine go_iald X633 hx hZ e633 c635 (hb hby d7_33) rfl rfl (by decide) (.int (1 : Int32)) rfl ?_
 show Gg T633 m 34 [(.int (1 : Int32))]
 refine go_st (fun _ kq => XS.istore X633.here hx rfl (hb hby d7_34) rfl (l' := #[.val (.ref a), .val (.ref o), .val (.int (0 : Int32)), .val (.ref b), .val (.ref b), .val (.int (1 : Int32)), .val (.int (0 : Int32)), .val (.int (1 : Int32))]) rfl kq) ?_
 show Gg T633 m 36 []
 refine go_st (fun _ kq => XS.aloadN X633.here hx rfl (hb hby d7_36) rfl rfl kq) ?_
 show Gg T633 m 37 [(.ref a)]
 have c636 := Fld.other W633 f631_7 (Or.inr (slot_ne (a0 := a0) (t := (.array .int)) (t' := .int) (Or.inr (wd hw 27 rfl)) (Or.inl (wd hw 79 rfl)) (by decide) (by decide) (by decide)))
 refine go_getF X633 hx hZ hown (host := "") (Or.inl (wd hw 26 rfl)) Via.refl e633 c636 (hb hby d7_37) rfl rfl ?_
 intro T637 X637 e637
 show Gg T637 m 40 [(.ref wa)]
 refine go_st (fun _ kq => XS.iload X637.here hx rfl (hb hby d7_40) rfl kq) ?_
 show Gg T637 m 42 [(.int (1 : Int32)), (.ref wa)]
 refine go_st (fun _ kq => XS.aloadN X637.here hx rfl (hb hby d7_42) rfl rfl kq) ?_
 show Gg T637 m 43 [(.ref a), (.int (1 : Int32)), (.ref wa)]
 refine go_getF X637 hx hZ hown (host := "") (Or.inl (wd hw 26 rfl)) Via.refl e637 c636 (hb hby d7_43) rfl rfl ?_
 intro T638 X638 e638
 show Gg T638 m 46 [(.ref wa), (.int (1 : Int32)), (.ref wa)]
 have c639 := GA.keep P33 K631 (ninS (Ne.symm P10) nin0)
 have c640 := c639.other W633 (Ne.symm P10)
 refine go_alen X638 hx hZ e638 c640 (hb hby d7_46) rfl rfl (2 : Int32) (by decide) ?_
 show Gg T638 m 47 [(.int (2 : Int32)), (.int (1 : Int32)), (.ref wa)]
 have z642 : n0 ≤ T631.heap.size := Nat.le_trans Z0 K631.1
 have z643 : n0 ≤ h633.size := (Wr.size W633).symm ▸ z642
 refine go_callS X638 hx hZ hml hown (wd hw 67 rfl) (wd hw 68 rfl) (wd hw 69 rfl) (wd hw 70 rfl) e638 (argsL := [(.int (1 : Int32)), (.int (2 : Int32))]) (rest := [(.ref wa)]) (W := 1) (met_10 l Z a0 hw (1 : Int32) (2 : Int32) h633 n0 z643 (by first | assumption | decide | omega) (by first | assumption | decide | omega)) (hb hby d7_47) rfl rfl rfl (lenOf pd3 rfl) (by show 2 * 0 + _ ≤ _; exact Nat.le_of_eq rfl) (by decide) (by decide) (by decide) (by decide) (by decide) ?_
 intro T641 v641 L641 X641 q641
 obtain ⟨rfl, M641, e641⟩ := q641
 have N641 := Fr.app N633 M641
 show Gg T641 m 50 [(.int (1 : Int32)), (.ref wa)]
 refine go_iald X641 hx hZ e641 c640 (hb hby d7_50) rfl rfl (by decide) (.int (0 : Int32)) rfl ?_
 show Gg T641 m 51 [(.int (0 : Int32))]
 refine go_st (fun _ kq => XS.aloadN X641.here hx rfl (hb hby d7_51) rfl rfl kq) ?_
 show Gg T641 m 52 [(.ref a), (.int (0 : Int32))]
 have c644 := Fld.other W633 f631_2 (Or.inr (slot_ne (a0 := a0) (t := .int) (t' := .int) (Or.inl (wd hw 76 rfl)) (Or.inl (wd hw 79 rfl)) (by decide) (by decide) (by decide)))
 refine go_getF X641 hx hZ hown (host := "") (Or.inl (wd hw 75 rfl)) Via.refl e641 c644 (hb hby d7_52) rfl rfl ?_
 intro T645 X645 e645
 show Gg T645 m 55 [(.int (1 : Int32)), (.int (0 : Int32))]
 refine go_st (fun _ kq => XS.icmpNo X645.here hx rfl (hb hby d7_55) rfl (XT.ii_eq_f (by decide)) kq) ?_
 show Gg T645 m 58 []
 refine go_st (fun _ kq => XS.aloadN X645.here hx rfl (hb hby d7_58) rfl rfl kq) ?_
 show Gg T645 m 59 [(.ref a)]
 refine go_getF X645 hx hZ hown (host := "") (Or.inl (wd hw 26 rfl)) Via.refl e645 c636 (hb hby d7_59) rfl rfl ?_
 intro T646 X646 e646
 show Gg T646 m 62 [(.ref wa)]
 refine go_st (fun _ kq => XS.iload X646.here hx rfl (hb hby d7_62) rfl kq) ?_
 show Gg T646 m 64 [(.int (1 : Int32)), (.ref wa)]
 refine go_st (fun _ kq => XS.aloadN X646.here hx rfl (hb hby d7_64) rfl rfl kq) ?_
 show Gg T646 m 65 [(.ref a), (.int (1 : Int32)), (.ref wa)]
 refine go_getF X646 hx hZ hown (host := "") (Or.inl (wd hw 75 rfl)) Via.refl e646 c644 (hb hby d7_65) rfl rfl ?_
 intro T647 X647 e647
 show Gg T647 m 68 [(.int (1 : Int32)), (.int (1 : Int32)), (.ref wa)]
 refine go_iast X647 hx hZ e647 c640 (hb hby d7_68) rfl rfl (by decide) ?_
 intro T648 h648 X648 e648 W648 G648
 have N648 := Fr.snoc X648 N641 P7
 have A648 : GA Z h648 wa .int 2 (fun i => .int (own_c2 (0 : Int32) (1 : Int32) i)) := (own_sti (by decide) (own_c21 (1 : Int32) (0 : Int32) (0 : Int32)) G648)
 show Gg T648 m 69 []
 refine go_st (fun _ kq => XS.aloadN X648.here hx rfl (hb hby d7_69) rfl rfl kq) ?_
 show Gg T648 m 70 [(.ref a)]
 refine go_st (fun _ kq => XS.dup X648.here hx rfl (hb hby d7_70) rfl rfl kq) ?_
 show Gg T648 m 71 [(.ref a), (.ref a)]
 have c649 := Fld.other W648 F633 (Or.inl P10)
 refine go_getF X648 hx hZ hown (host := "") (Or.inl (wd hw 78 rfl)) Via.refl e648 c649 (hb hby d7_71) rfl rfl ?_
 intro T650 X650 e650
 show Gg T650 m 74 [(.int (0 : Int32)), (.ref a)]
 refine go_st (fun _ kq => XT.iconstV X650.here hx rfl (1 : Int32) (hb hby d7_74) (by decide) kq) ?_
 show Gg T650 m 75 [(.int (1 : Int32)), (.int (0 : Int32)), (.ref a)]
 refine go_st (fun _ kq => XS.iadd X650.here hx rfl (hb hby d7_75) rfl kq) ?_
 rw [show ((0 : Int32) + (1 : Int32)) = (1 : Int32) from by decide +kernel]
 show Gg T650 m 76 [(.int (1 : Int32)), (.ref a)]
 have c651 := Exa.wr W633 c632
 have c652 := Exa.wr W648 c651
 refine go_putF X650 hx hZ hown (host := "") (Or.inl (wd hw 78 rfl)) Via.refl e650 c649 c652 (Or.inl (wd hw 79 rfl)) (wd hw 1 rfl) (ty := .int) (by decide) rfl rfl (hb hby d7_76) rfl rfl ?_
 intro T653 h653 X653 e653 W653
 have N653 := Fr.snoc X653 N648 P4
 have F653 : Fld Z h653 a "com/example/copse/copse/graph/TargetSearch" "unreached" "I" (.int (1 : Int32)) := Fld.same W653 c649
 show Gg T653 m 79 []
 refine go_st (fun _ kq => XT.iincV X653.here hx rfl (1 : Int32) (hb hby d7_79) (by decide) rfl (l' := #[.val (.ref a), .val (.ref o), .val (.int (0 : Int32)), .val (.ref b), .val (.ref b), .val (.int (1 : Int32)), .val (.int (1 : Int32)), .val (.int (1 : Int32))]) rfl kq) ?_
 show Gg T653 m 82 []
 refine go_st (fun _ kq => XS.goto X653.here hx rfl (pc0 := 82) (pc' := 22) rfl (hb hby d7_82) (by decide) (by decide) kq) ?_
 show Gg T653 m 22 []
 refine go_st (fun _ kq => XS.iload X653.here hx rfl (hb hby d7_22) rfl kq) ?_
 show Gg T653 m 24 [(.int (1 : Int32))]
 refine go_st (fun _ kq => XS.iload X653.here hx rfl (hb hby d7_24) rfl kq) ?_
 show Gg T653 m 26 [(.int (1 : Int32)), (.int (1 : Int32))]
 refine go_st (fun _ kq => XS.icmpYes X653.here hx rfl (pc0 := 26) (pc' := 85) rfl (hb hby d7_26) rfl (XT.ii_ge_t (by decide)) (by decide) (by decide) kq) ?_
 show Gg T653 m 85 []
 refine go_st (fun _ kq => XS.aloadN X653.here hx rfl (hb hby d7_85) rfl rfl kq) ?_
 show Gg T653 m 86 [(.ref a)]
 refine go_getF X653 hx hZ hown (host := "") (Or.inl (wd hw 78 rfl)) Via.refl e653 F653 (hb hby d7_86) rfl rfl ?_
 intro T654 X654 e654
 show Gg T654 m 89 [(.int (1 : Int32))]
 refine go_st (fun _ kq => XS.ifNo X654.here hx rfl (hb hby d7_89) rfl (XT.i0_le_f (by decide)) kq) ?_
 show Gg T654 m 92 []
 refine go_st (fun _ kq => XS.aloadN X654.here hx rfl (hb hby d7_92) rfl rfl kq) ?_
 show Gg T654 m 93 [(.ref a)]
 have c655 := Fld.other W633 f631_5 (Or.inr (slot_ne (a0 := a0) (t := (.array .int)) (t' := .int) (Or.inr (wd hw 19 rfl)) (Or.inl (wd hw 79 rfl)) (by decide) (by decide) (by decide)))
 have c656 := Fld.other W648 c655 (Or.inl P10)
 have c657 := Fld.other W653 c656 (Or.inr (slot_ne (a0 := a0) (t := (.array .int)) (t' := .int) (Or.inr (wd hw 19 rfl)) (Or.inl (wd hw 79 rfl)) (by decide) (by decide) (by decide)))
 refine go_getF X654 hx hZ hown (host := "") (Or.inl (wd hw 18 rfl)) Via.refl e654 c657 (hb hby d7_93) rfl rfl ?_
 intro T658 X658 e658
 show Gg T658 m 96 [(.ref ra)]
 refine go_st (fun _ kq => XS.iloadN X658.here hx rfl (hb hby d7_96) rfl kq) ?_
 show Gg T658 m 97 [(.int (0 : Int32)), (.ref ra)]
 refine go_st (fun _ kq => XS.aloadN X658.here hx rfl (hb hby d7_97) rfl rfl kq) ?_
 show Gg T658 m 98 [(.ref a), (.int (0 : Int32)), (.ref ra)]
 have c659 := Fld.other W648 c644 (Or.inl P10)
 have c660 := Fld.other W653 c659 (Or.inr (slot_ne (a0 := a0) (t := .int) (t' := .int) (Or.inl (wd hw 76 rfl)) (Or.inl (wd hw 79 rfl)) (by decide) (by decide) (by decide)))
 refine go_getF X658 hx hZ hown (host := "") (Or.inl (wd hw 75 rfl)) Via.refl e658 c660 (hb hby d7_98) rfl rfl ?_
 intro T661 X661 e661
 show Gg T661 m 101 [(.int (1 : Int32)), (.int (0 : Int32)), (.ref ra)]
 have c662 := GA.keep P31 K631 (ninS (Ne.symm P8) nin0)
 have c663 := c662.other W633 (Ne.symm P8)
 have c664 := c663.other W648 P14
 have c665 := c664.other W653 (Ne.symm P8)
 refine go_iast X661 hx hZ e661 c665 (hb hby d7_101) rfl rfl (by decide) ?_
 intro T666 h666 X666 e666 W666 G666
 have N666 := Fr.snoc X666 N653 P5
 have A666 : GA Z h666 ra .int 2 (fun i => .int (own_c2 (1 : Int32) (0 : Int32) i)) := (own_sti (by decide) (own_c20 (1 : Int32) (0 : Int32) (0 : Int32)) G666)
 show Gg T666 m 102 []
 refine go_st (fun _ kq => XS.aloadN X666.here hx rfl (hb hby d7_102) rfl rfl kq) ?_
 show Gg T666 m 103 [(.ref a)]
 refine go_st (fun _ kq => XS.aloadN X666.here hx rfl (hb hby d7_103) rfl rfl kq) ?_
 show Gg T666 m 104 [(.ref o), (.ref a)]
 refine go_st (fun _ kq => XS.iloadN X666.here hx rfl (hb hby d7_104) rfl kq) ?_
 show Gg T666 m 105 [(.int (0 : Int32)), (.ref o), (.ref a)]
 refine go_st (fun _ kq => XS.aloadN X666.here hx rfl (hb hby d7_105) rfl rfl kq) ?_
 show Gg T666 m 106 [(.ref a), (.int (0 : Int32)), (.ref o), (.ref a)]
 refine go_lam X666 hx hZ hml hLam hnamed (wd hw 83 rfl) own_cp e666 (t := a) (K := "com/example/copse/copse/graph/TargetSearch") (by decide) (hb hby d7_106) rfl rfl rfl rfl (by show 2 * 0 + 4 + 3072 ≤ _; decide) (by decide) (by decide) ?_
 intro T667 h667 a667 g667 X667 e667 E667 A667
 have c673 : a < T631.heap.size := Nat.lt_of_lt_of_le lt_a K631.1
 have c674 : a < h633.size := (Wr.size W633).symm ▸ c673
 have c675 : a < h648.size := (Wr.size W648).symm ▸ c674
 have c676 : a < h653.size := (Wr.size W653).symm ▸ c675
 have c677 : a < h666.size := (Wr.size W666).symm ▸ c676
 have ne678 : a ≠ a667 := fun q => Nat.lt_irrefl _ (Nat.lt_of_lt_of_le c677 (Nat.le_of_eq (g667.symm.trans q.symm)))
 have c679 : o < T631.heap.size := Nat.lt_of_lt_of_le lt_o K631.1
 have c680 : o < h633.size := (Wr.size W633).symm ▸ c679
 have c681 : o < h648.size := (Wr.size W648).symm ▸ c680
 have c682 : o < h653.size := (Wr.size W653).symm ▸ c681
 have c683 : o < h666.size := (Wr.size W666).symm ▸ c682
 have ne684 : o ≠ a667 := fun q => Nat.lt_irrefl _ (Nat.lt_of_lt_of_le c683 (Nat.le_of_eq (g667.symm.trans q.symm)))
 have c691 : ra < T631.heap.size := Nat.lt_of_lt_of_le lt_ra K631.1
 have c692 : ra < h633.size := (Wr.size W633).symm ▸ c691
 have c693 : ra < h648.size := (Wr.size W648).symm ▸ c692
 have c694 : ra < h653.size := (Wr.size W653).symm ▸ c693
 have c695 : ra < h666.size := (Wr.size W666).symm ▸ c694
 have ne696 : ra ≠ a667 := fun q => Nat.lt_irrefl _ (Nat.lt_of_lt_of_le c695 (Nat.le_of_eq (g667.symm.trans q.symm)))
 have c697 : pe < T631.heap.size := Nat.lt_of_lt_of_le lt_pe K631.1
 have c698 : pe < h633.size := (Wr.size W633).symm ▸ c697
 have c699 : pe < h648.size := (Wr.size W648).symm ▸ c698
 have c700 : pe < h653.size := (Wr.size W653).symm ▸ c699
 have c701 : pe < h666.size := (Wr.size W666).symm ▸ c700
 have ne702 : pe ≠ a667 := fun q => Nat.lt_irrefl _ (Nat.lt_of_lt_of_le c701 (Nat.le_of_eq (g667.symm.trans q.symm)))
 have c703 : wa < T631.heap.size := Nat.lt_of_lt_of_le lt_wa K631.1
 have c704 : wa < h633.size := (Wr.size W633).symm ▸ c703
 have c705 : wa < h648.size := (Wr.size W648).symm ▸ c704
 have c706 : wa < h653.size := (Wr.size W653).symm ▸ c705
 have c707 : wa < h666.size := (Wr.size W666).symm ▸ c706
 have ne708 : wa ≠ a667 := fun q => Nat.lt_irrefl _ (Nat.lt_of_lt_of_le c707 (Nat.le_of_eq (g667.symm.trans q.symm)))
 have z709 : n0 ≤ h648.size := (Wr.size W648).symm ▸ z643
 have z710 : n0 ≤ h653.size := (Wr.size W653).symm ▸ z709
 have z711 : n0 ≤ h666.size := (Wr.size W666).symm ▸ z710
 show Gg T667 m 111 [(.ref a667), (.int (0 : Int32)), (.ref o), (.ref a)]
 have c713 := Exa.wr W653 c652
 have c714 := Exa.wr W666 c713
 have c715 := Exa.ext E667 c714
 have c716 := Exa.keep P1 K631
 have c717 := Exa.wr W633 c716
 have c718 := Exa.wr W648 c717
 have c719 := Exa.wr W653 c718
 have c720 := Exa.wr W666 c719
 have c721 := Exa.ext E667 c720
 have c722 := Fld.keep P2 K631 (ninS (Ne.symm P11) nin0)
 have c723 := Fld.other W633 c722 (Or.inl (Ne.symm P11))
 have c724 := Fld.other W648 c723 (Or.inl (Ne.symm P20))
 have c725 := Fld.other W653 c724 (Or.inl (Ne.symm P11))
 have c726 := Fld.other W666 c725 (Or.inl (Ne.symm P15))
 have c727 := Fld.ext E667 c726
 have c728 := Fld.other W633 f631_0 (Or.inr (slot_ne (a0 := a0) (t := .long) (t' := .int) (Or.inl (wd hw 11 rfl)) (Or.inl (wd hw 79 rfl)) (by decide) (by decide) (by decide)))
 have c729 := Fld.other W648 c728 (Or.inl P10)
 have c730 := Fld.other W653 c729 (Or.inr (slot_ne (a0 := a0) (t := .long) (t' := .int) (Or.inl (wd hw 11 rfl)) (Or.inl (wd hw 79 rfl)) (by decide) (by decide) (by decide)))
 have c731 := Fld.other W666 c730 (Or.inl P8)
 have c732 := Fld.ext E667 c731
 have c733 := Fld.other W633 f631_1 (Or.inr (slot_ne (a0 := a0) (t := .long) (t' := .int) (Or.inl (wd hw 34 rfl)) (Or.inl (wd hw 79 rfl)) (by decide) (by decide) (by decide)))
 have c734 := Fld.other W648 c733 (Or.inl P10)
 have c735 := Fld.other W653 c734 (Or.inr (slot_ne (a0 := a0) (t := .long) (t' := .int) (Or.inl (wd hw 34 rfl)) (Or.inl (wd hw 79 rfl)) (by decide) (by decide) (by decide)))
 have c736 := Fld.other W666 c735 (Or.inl P8)
 have c737 := Fld.ext E667 c736
 have c738 := Fld.other W666 c660 (Or.inl P8)
 have c739 := Fld.ext E667 c738
 have c740 := Fld.other W666 F653 (Or.inl P8)
 have c741 := Fld.ext E667 c740
 have c742 := Fld.other W633 f631_4 (Or.inr (slot_ne (a0 := a0) (t := .int) (t' := .int) (Or.inl (wd hw 103 rfl)) (Or.inl (wd hw 79 rfl)) (by decide) (by decide) (by decide)))
 have c743 := Fld.other W648 c742 (Or.inl P10)
 have c744 := Fld.other W653 c743 (Or.inr (slot_ne (a0 := a0) (t := .int) (t' := .int) (Or.inl (wd hw 103 rfl)) (Or.inl (wd hw 79 rfl)) (by decide) (by decide) (by decide)))
 have c745 := Fld.other W666 c744 (Or.inl P8)
 have c746 := Fld.ext E667 c745
 have c747 := Fld.other W666 c657 (Or.inl P8)
 have c748 := Fld.ext E667 c747
 have c749 := Fld.other W633 f631_6 (Or.inr (slot_ne (a0 := a0) (t := (.array .int)) (t' := .int) (Or.inr (wd hw 25 rfl)) (Or.inl (wd hw 79 rfl)) (by decide) (by decide) (by decide)))
 have c750 := Fld.other W648 c749 (Or.inl P10)
 have c751 := Fld.other W653 c750 (Or.inr (slot_ne (a0 := a0) (t := (.array .int)) (t' := .int) (Or.inr (wd hw 25 rfl)) (Or.inl (wd hw 79 rfl)) (by decide) (by decide) (by decide)))
 have c752 := Fld.other W666 c751 (Or.inl P8)
 have c753 := Fld.ext E667 c752
 have c754 := Fld.other W648 c636 (Or.inl P10)
 have c755 := Fld.other W653 c754 (Or.inr (slot_ne (a0 := a0) (t := (.array .int)) (t' := .int) (Or.inr (wd hw 27 rfl)) (Or.inl (wd hw 79 rfl)) (by decide) (by decide) (by decide)))
 have c756 := Fld.other W666 c755 (Or.inl P8)
 have c757 := Fld.ext E667 c756
 have c758 := A666.ext E667
 have c759 := GA.keep P32 K631 (ninS (Ne.symm P9) nin0)
 have c760 := c759.other W633 (Ne.symm P9)
 have c761 := c760.other W648 P17
 have c762 := c761.other W653 (Ne.symm P9)
 have c763 := c762.other W666 (Ne.symm P13)
 have c764 := c763.ext E667
 have c765 := A648.other W653 (Ne.symm P10)
 have c766 := c765.other W666 (Ne.symm P14)
 have c767 := c766.ext E667
 have z768 : n0 ≤ h667.size := Nat.le_trans z711 E667.1
 refine go_callPH X667 hx hZ hml hown (wd hw 84 rfl) (wd hw 86 rfl) (wd hw 1 rfl) (wd hw 85 rfl) (wd hw 87 rfl) (wd hw 2 rfl) e667 c715 (argsL := [(.ref o), (.int (0 : Int32)), (.ref a667)]) (rest := []) (W := 0) hLam (met_bft l Z a0 hw cK a o a667 xl ra pe wa dq h667 n0 z768 c715 c721 c727 A667 P4 P6 P8 P9 P10 P11 ne678 P13 P14 P15 ne696 P17 P18 ne702 P20 ne708 ne684 c732 c737 c739 c741 c746 c748 c753 c757 c758 c764 c767 P34 P35) (hb hby d7_111) rfl rfl rfl (lenOf pd6 rfl) (by show 2 * 0 + _ ≤ _; exact Nat.le_of_eq rfl) (by decide) (by decide) (by decide) (by decide) (by decide) ?_
 intro T712 v712 L712 X712 q712
 obtain ⟨rfl, M712, K712, f712_0, f712_1, f712_2, f712_3, f712_4, f712_5, f712_6, f712_7⟩ := q712
 have N712 := Fr.app N666 M712
 show Gg T712 m 114 [(.int (0 : Int32))]
 refine go_st (fun _ kq => XT.pop X712.here hx rfl (hb hby d7_114) rfl rfl kq) ?_
 show Gg T712 m 115 []
 refine go_st (fun _ kq => XS.aloadN X712.here hx rfl (hb hby d7_115) rfl rfl kq) ?_
 show Gg T712 m 116 [(.ref a)]
 refine go_getF X712 hx hZ hown (host := "") (Or.inl (wd hw 78 rfl)) Via.refl rfl f712_3 (hb hby d7_116) rfl rfl ?_
 intro T769 X769 e769
 show Gg T769 m 119 [(.int (1 : Int32))]
 refine go_st (fun _ kq => XS.ifYes X769.here hx rfl (pc0 := 119) (pc' := 126) rfl (hb hby d7_119) rfl (XT.i0_ne_t (by decide)) (by decide) (by decide) kq) ?_
 show Gg T769 m 126 []
 refine go_st (fun _ kq => XT.iconstV X769.here hx rfl (0 : Int32) (hb hby d7_126) (by decide) kq) ?_
 show Gg T769 m 127 [(.int (0 : Int32))]
 exact go_retB (w := (0 : Int32)) X769 hx hlk hret (hb hby d7_127) (by decide) (by decide) (by decide) (by rw [e769]; exact ⟨rfl, N712, (Keep.trans (Keep.ext (Keep.wr (Keep.wr (Keep.wr (Keep.wr (Keep.trans (Keep.refl h0 [a, ra, pe, wa]) K631 (allS (Or.inl (by simp)) all0)) W633 (Or.inl (by simp))) W648 (Or.inl (by simp))) W653 (Or.inl (by simp))) W666 (Or.inl (by simp))) E667) K712 (allS (Or.inl (by simp)) (allS (Or.inl (by simp)) all0))), f712_0, f712_1, f712_2, f712_3, f712_4, f712_5, f712_6, f712_7⟩)
def Q_reaf (Z : State) (cK : ClassId) (a : Addr) (o : Addr) (b : Addr) (xl : Int64) (ra : Addr) (pe : Addr) (wa : Addr) (dq : Int32) (h0 : Heap) (n0 : Nat) (v : Option Value) (h : Heap) (L : List Loc) : Prop := v = some (.int (0 : Int32)) ∧ Fr n0 L ∧ Keep h0 h [a, ra, pe, wa] ∧ Fld Z h a "com/example/copse/copse/graph/TargetSearch" "arcLimit" "J" (.long xl) ∧ Fld Z h a "com/example/copse/copse/graph/TargetSearch" "arcsLookedAt" "J" (.long (0 : Int64)) ∧ Fld Z h a "com/example/copse/copse/graph/TargetSearch" "search" "I" (.int (1 : Int32)) ∧ Fld Z h a "com/example/copse/copse/graph/TargetSearch" "unreached" "I" (.int (1 : Int32)) ∧ Fld Z h a "com/example/copse/copse/graph/TargetSearch" "queued" "I" (.int (1 : Int32)) ∧ Fld Z h a "com/example/copse/copse/graph/TargetSearch" "reachedIn" "[I" (.ref ra) ∧ Fld Z h a "com/example/copse/copse/graph/TargetSearch" "pending" "[I" (.ref pe) ∧ Fld Z h a "com/example/copse/copse/graph/TargetSearch" "wantedIn" "[I" (.ref wa)
theorem ef_reaf (m : MethodId) (cK : ClassId) (a : Addr) (o : Addr) (b : Addr) (xl : Int64) (ra : Addr) (pe : Addr) (wa : Addr) (dq : Int32) : entryFrame m #[(.ref a), (.ref o), (.int (0 : Int32)), (.ref b)] 8 = mkF m 0 #[.val (.ref a), .val (.ref o), .val (.int (0 : Int32)), .val (.ref b), .unset, .unset, .unset, .unset] [] := by first | (simp [entryFrame, mkF, argsToLocals, Value.category]; done) | rfl
abbrev rm_reaf : Room := ({ frames := 3, cells := 1, slots := 1, locals := 3076 } : Room)
set_option maxRecDepth 65536 in
set_option maxHeartbeats 4000000 in
theorem met_reaf (l : Launch) (Z : State) (a0 : Array Value) (hw : ∀ d ∈ tables_1, d.before a0 Z = true) (cK : ClassId) (a : Addr) (o : Addr) (b : Addr) (xl : Int64) (ra : Addr) (pe : Addr) (wa : Addr) (dq : Int32) (h0 : Heap) (n0 : Nat) (Z0 : n0 ≤ h0.size) (P0 : Exa Z h0 a "com/example/copse/copse/graph/TargetSearch") (P1 : Exa Z h0 o "com/example/copse/copse/graph/TargetSearchArcLimitReachedPinLaw") (P2 : Fld Z h0 o "com/example/copse/copse/graph/TargetSearchArcLimitReachedPinLaw" "degree" "I" (.int dq)) (P3 : GA Z h0 b .int 1 (fun i => .int (own_c2 (1 : Int32) (0 : Int32) i))) (P4 : n0 ≤ a) (P5 : n0 ≤ ra) (P6 : n0 ≤ pe) (P7 : n0 ≤ wa) (P8 : a ≠ ra) (P9 : a ≠ pe) (P10 : a ≠ wa) (P11 : a ≠ o) (P12 : a ≠ b) (P13 : ra ≠ pe) (P14 : ra ≠ wa) (P15 : ra ≠ o) (P16 : ra ≠ b) (P17 : pe ≠ wa) (P18 : pe ≠ o) (P19 : pe ≠ b) (P20 : wa ≠ o) (P21 : wa ≠ b) (P22 : o ≠ b) (P23 : Fld Z h0 a "com/example/copse/copse/graph/TargetSearch" "arcLimit" "J" (.long xl)) (P24 : Fld Z h0 a "com/example/copse/copse/graph/TargetSearch" "arcsLookedAt" "J" (.long (0 : Int64))) (P25 : Fld Z h0 a "com/example/copse/copse/graph/TargetSearch" "search" "I" (.int (0 : Int32))) (P26 : Fld Z h0 a "com/example/copse/copse/graph/TargetSearch" "unreached" "I" (.int (0 : Int32))) (P27 : Fld Z h0 a "com/example/copse/copse/graph/TargetSearch" "queued" "I" (.int (0 : Int32))) (P28 : Fld Z h0 a "com/example/copse/copse/graph/TargetSearch" "reachedIn" "[I" (.ref ra)) (P29 : Fld Z h0 a "com/example/copse/copse/graph/TargetSearch" "pending" "[I" (.ref pe)) (P30 : Fld Z h0 a "com/example/copse/copse/graph/TargetSearch" "wantedIn" "[I" (.ref wa)) (P31 : GA Z h0 ra .int 2 (fun i => .int (own_c2 (0 : Int32) (0 : Int32) i))) (P32 : GA Z h0 pe .int 2 (fun i => .int (own_c2 (0 : Int32) (0 : Int32) i))) (P33 : GA Z h0 wa .int 2 (fun i => .int (own_c2 (0 : Int32) (0 : Int32) i))) (P34 : ¬ ((0 : Int64) < xl)) :
  MetH l (⟨"com/example/copse/copse/graph/TargetSearch", "reachesAll", "(Lcom/example/copse/copse/graph/SuccessorLists;I[I)Z"⟩ : MethodName) prog_46_method_7_code 8 (some FieldType.boolean) [] rm_reaf Z cK #[(.ref a), (.ref o), (.int (0 : Int32)), (.ref b)] h0 (Q_reaf Z cK a o b xl ra pe wa dq h0 n0) rm_reaf.cells rm_reaf.slots := by
 refine own_bodyH pn14 ?_
 intro p e s m below meth c s₁ ct X0 e0 hLam hnamed
 obtain ⟨hx, hZ, hown, hby, hml, hret, hlk, hnm⟩ := ct
 have lt_a : a < h0.size := P0.lt
 have lt_o : o < h0.size := P1.lt
 have lt_ra : ra < h0.size := P31.lt
 have lt_pe : pe < h0.size := P32.lt
 have lt_wa : wa < h0.size := P33.lt
 have N0 := Fr.nil n0
 refine castGo (ef_reaf m cK a o b xl ra pe wa dq) ?_
 show Gg s₁ m 0 []
 refine go_st (fun _ kq => XS.aloadN X0.here hx rfl (hb hby d7_0) rfl rfl kq) ?_
 show Gg s₁ m 1 [(.ref a)]
 refine go_st (fun _ kq => XS.aloadN X0.here hx rfl (hb hby d7_1) rfl rfl kq) ?_
 show Gg s₁ m 2 [(.ref o), (.ref a)]
 refine go_st (fun _ kq => XS.iloadN X0.here hx rfl (hb hby d7_2) rfl kq) ?_
 show Gg s₁ m 3 [(.int (0 : Int32)), (.ref o), (.ref a)]
 refine go_callP X0 hx hZ hml hown (wd hw 54 rfl) (wd hw 56 rfl) (wd hw 1 rfl) (wd hw 55 rfl) (wd hw 57 rfl) (wd hw 2 rfl) e0 P0 (argsL := [(.ref o), (.int (0 : Int32))]) (rest := []) (W := 0) (met_sts l Z a0 hw a o xl ra pe wa h0 n0 Z0 P0 P1 P4 P8 P23 P24 P25 P26 P27 P28 P29 P30 P31) (hb hby d7_3) rfl rfl rfl (lenOf pd5 rfl) (by show 2 * 0 + _ ≤ _; exact Nat.le_of_eq rfl) (by decide) (by decide) (by decide) (by decide) (by decide) ?_
 intro T770 v770 L770 X770 q770
 obtain ⟨rfl, M770, K770, f770_0, f770_1, f770_2, f770_3, f770_4, f770_5, f770_6, f770_7⟩ := q770
 have N770 := Fr.app N0 M770
 show Gg T770 m 6 []
 refine go_st (fun _ kq => XS.aloadN X770.here hx rfl (hb hby d7_6) rfl rfl kq) ?_
 show Gg T770 m 7 [(.ref a)]
 refine go_st (fun _ kq => XT.iconstV X770.here hx rfl (0 : Int32) (hb hby d7_7) (by decide) kq) ?_
 show Gg T770 m 8 [(.int (0 : Int32)), (.ref a)]
 have c771 := Exa.keep P0 K770
 refine go_putF X770 hx hZ hown (host := "") (Or.inl (wd hw 78 rfl)) Via.refl rfl f770_3 c771 (Or.inl (wd hw 79 rfl)) (wd hw 1 rfl) (ty := .int) (by decide) rfl rfl (hb hby d7_8) rfl rfl ?_
 intro T772 h772 X772 e772 W772
 have N772 := Fr.snoc X772 N770 P4
 have F772 : Fld Z h772 a "com/example/copse/copse/graph/TargetSearch" "unreached" "I" (.int (0 : Int32)) := Fld.same W772 f770_3
 show Gg T772 m 11 []
 refine go_st (fun _ kq => XS.aloadN X772.here hx rfl (hb hby d7_11) rfl rfl kq) ?_
 show Gg T772 m 12 [(.ref b)]
 refine go_st (fun _ kq => XS.astore X772.here hx rfl (hb hby d7_12) rfl rfl (l' := #[.val (.ref a), .val (.ref o), .val (.int (0 : Int32)), .val (.ref b), .val (.ref b), .unset, .unset, .unset]) rfl kq) ?_
 show Gg T772 m 14 []
 refine go_st (fun _ kq => XS.aload X772.here hx rfl (hb hby d7_14) rfl rfl kq) ?_
 show Gg T772 m 16 [(.ref b)]
 have c773 := GA.keep P3 K770 (ninS (Ne.symm P12) nin0)
 have c774 := c773.other W772 (Ne.symm P12)
 refine go_alen X772 hx hZ e772 c774 (hb hby d7_16) rfl rfl (1 : Int32) (by decide) ?_
 show Gg T772 m 17 [(.int (1 : Int32))]
 refine go_st (fun _ kq => XS.istore X772.here hx rfl (hb hby d7_17) rfl (l' := #[.val (.ref a), .val (.ref o), .val (.int (0 : Int32)), .val (.ref b), .val (.ref b), .val (.int (1 : Int32)), .unset, .unset]) rfl kq) ?_
 show Gg T772 m 19 []
 refine go_st (fun _ kq => XT.iconstV X772.here hx rfl (0 : Int32) (hb hby d7_19) (by decide) kq) ?_
 show Gg T772 m 20 [(.int (0 : Int32))]
 refine go_st (fun _ kq => XS.istore X772.here hx rfl (hb hby d7_20) rfl (l' := #[.val (.ref a), .val (.ref o), .val (.int (0 : Int32)), .val (.ref b), .val (.ref b), .val (.int (1 : Int32)), .val (.int (0 : Int32)), .unset]) rfl kq) ?_
 show Gg T772 m 22 []
 refine go_st (fun _ kq => XS.iload X772.here hx rfl (hb hby d7_22) rfl kq) ?_
 show Gg T772 m 24 [(.int (0 : Int32))]
 refine go_st (fun _ kq => XS.iload X772.here hx rfl (hb hby d7_24) rfl kq) ?_
 show Gg T772 m 26 [(.int (1 : Int32)), (.int (0 : Int32))]
 refine go_st (fun _ kq => XS.icmpNo X772.here hx rfl (hb hby d7_26) rfl (XT.ii_ge_f (by decide)) kq) ?_
 show Gg T772 m 29 []
 refine go_st (fun _ kq => XS.aload X772.here hx rfl (hb hby d7_29) rfl rfl kq) ?_
 show Gg T772 m 31 [(.ref b)]
 refine go_st (fun _ kq => XS.iload X772.here hx rfl (hb hby d7_31) rfl kq) ?_
 show Gg T772 m 33 [(.int (0 : Int32)), (.ref b)]
 refine go_iald X772 hx hZ e772 c774 (hb hby d7_33) rfl rfl (by decide) (.int (1 : Int32)) rfl ?_
 show Gg T772 m 34 [(.int (1 : Int32))]
 refine go_st (fun _ kq => XS.istore X772.here hx rfl (hb hby d7_34) rfl (l' := #[.val (.ref a), .val (.ref o), .val (.int (0 : Int32)), .val (.ref b), .val (.ref b), .val (.int (1 : Int32)), .val (.int (0 : Int32)), .val (.int (1 : Int32))]) rfl kq) ?_
 show Gg T772 m 36 []
 refine go_st (fun _ kq => XS.aloadN X772.here hx rfl (hb hby d7_36) rfl rfl kq) ?_
 show Gg T772 m 37 [(.ref a)]
 have c775 := Fld.other W772 f770_7 (Or.inr (slot_ne (a0 := a0) (t := (.array .int)) (t' := .int) (Or.inr (wd hw 27 rfl)) (Or.inl (wd hw 79 rfl)) (by decide) (by decide) (by decide)))
 refine go_getF X772 hx hZ hown (host := "") (Or.inl (wd hw 26 rfl)) Via.refl e772 c775 (hb hby d7_37) rfl rfl ?_
 intro T776 X776 e776
 show Gg T776 m 40 [(.ref wa)]
 refine go_st (fun _ kq => XS.iload X776.here hx rfl (hb hby d7_40) rfl kq) ?_
 show Gg T776 m 42 [(.int (1 : Int32)), (.ref wa)]
 refine go_st (fun _ kq => XS.aloadN X776.here hx rfl (hb hby d7_42) rfl rfl kq) ?_
 show Gg T776 m 43 [(.ref a), (.int (1 : Int32)), (.ref wa)]
 refine go_getF X776 hx hZ hown (host := "") (Or.inl (wd hw 26 rfl)) Via.refl e776 c775 (hb hby d7_43) rfl rfl ?_
 intro T777 X777 e777
 show Gg T777 m 46 [(.ref wa), (.int (1 : Int32)), (.ref wa)]
 have c778 := GA.keep P33 K770 (ninS (Ne.symm P10) nin0)
 have c779 := c778.other W772 (Ne.symm P10)
 refine go_alen X777 hx hZ e777 c779 (hb hby d7_46) rfl rfl (2 : Int32) (by decide) ?_
 show Gg T777 m 47 [(.int (2 : Int32)), (.int (1 : Int32)), (.ref wa)]
 have z781 : n0 ≤ T770.heap.size := Nat.le_trans Z0 K770.1
 have z782 : n0 ≤ h772.size := (Wr.size W772).symm ▸ z781
 refine go_callS X777 hx hZ hml hown (wd hw 67 rfl) (wd hw 68 rfl) (wd hw 69 rfl) (wd hw 70 rfl) e777 (argsL := [(.int (1 : Int32)), (.int (2 : Int32))]) (rest := [(.ref wa)]) (W := 1) (met_10 l Z a0 hw (1 : Int32) (2 : Int32) h772 n0 z782 (by first | assumption | decide | omega) (by first | assumption | decide | omega)) (hb hby d7_47) rfl rfl rfl (lenOf pd3 rfl) (by show 2 * 0 + _ ≤ _; exact Nat.le_of_eq rfl) (by decide) (by decide) (by decide) (by decide) (by decide) ?_
 intro T780 v780 L780 X780 q780
 obtain ⟨rfl, M780, e780⟩ := q780
 have N780 := Fr.app N772 M780
 show Gg T780 m 50 [(.int (1 : Int32)), (.ref wa)]
 refine go_iald X780 hx hZ e780 c779 (hb hby d7_50) rfl rfl (by decide) (.int (0 : Int32)) rfl ?_
 show Gg T780 m 51 [(.int (0 : Int32))]
 refine go_st (fun _ kq => XS.aloadN X780.here hx rfl (hb hby d7_51) rfl rfl kq) ?_
 show Gg T780 m 52 [(.ref a), (.int (0 : Int32))]
 have c783 := Fld.other W772 f770_2 (Or.inr (slot_ne (a0 := a0) (t := .int) (t' := .int) (Or.inl (wd hw 76 rfl)) (Or.inl (wd hw 79 rfl)) (by decide) (by decide) (by decide)))
 refine go_getF X780 hx hZ hown (host := "") (Or.inl (wd hw 75 rfl)) Via.refl e780 c783 (hb hby d7_52) rfl rfl ?_
 intro T784 X784 e784
 show Gg T784 m 55 [(.int (1 : Int32)), (.int (0 : Int32))]
 refine go_st (fun _ kq => XS.icmpNo X784.here hx rfl (hb hby d7_55) rfl (XT.ii_eq_f (by decide)) kq) ?_
 show Gg T784 m 58 []
 refine go_st (fun _ kq => XS.aloadN X784.here hx rfl (hb hby d7_58) rfl rfl kq) ?_
 show Gg T784 m 59 [(.ref a)]
 refine go_getF X784 hx hZ hown (host := "") (Or.inl (wd hw 26 rfl)) Via.refl e784 c775 (hb hby d7_59) rfl rfl ?_
 intro T785 X785 e785
 show Gg T785 m 62 [(.ref wa)]
 refine go_st (fun _ kq => XS.iload X785.here hx rfl (hb hby d7_62) rfl kq) ?_
 show Gg T785 m 64 [(.int (1 : Int32)), (.ref wa)]
 refine go_st (fun _ kq => XS.aloadN X785.here hx rfl (hb hby d7_64) rfl rfl kq) ?_
 show Gg T785 m 65 [(.ref a), (.int (1 : Int32)), (.ref wa)]
 refine go_getF X785 hx hZ hown (host := "") (Or.inl (wd hw 75 rfl)) Via.refl e785 c783 (hb hby d7_65) rfl rfl ?_
 intro T786 X786 e786
 show Gg T786 m 68 [(.int (1 : Int32)), (.int (1 : Int32)), (.ref wa)]
 refine go_iast X786 hx hZ e786 c779 (hb hby d7_68) rfl rfl (by decide) ?_
 intro T787 h787 X787 e787 W787 G787
 have N787 := Fr.snoc X787 N780 P7
 have A787 : GA Z h787 wa .int 2 (fun i => .int (own_c2 (0 : Int32) (1 : Int32) i)) := (own_sti (by decide) (own_c21 (1 : Int32) (0 : Int32) (0 : Int32)) G787)
 show Gg T787 m 69 []
 refine go_st (fun _ kq => XS.aloadN X787.here hx rfl (hb hby d7_69) rfl rfl kq) ?_
 show Gg T787 m 70 [(.ref a)]
 refine go_st (fun _ kq => XS.dup X787.here hx rfl (hb hby d7_70) rfl rfl kq) ?_
 show Gg T787 m 71 [(.ref a), (.ref a)]
 have c788 := Fld.other W787 F772 (Or.inl P10)
 refine go_getF X787 hx hZ hown (host := "") (Or.inl (wd hw 78 rfl)) Via.refl e787 c788 (hb hby d7_71) rfl rfl ?_
 intro T789 X789 e789
 show Gg T789 m 74 [(.int (0 : Int32)), (.ref a)]
 refine go_st (fun _ kq => XT.iconstV X789.here hx rfl (1 : Int32) (hb hby d7_74) (by decide) kq) ?_
 show Gg T789 m 75 [(.int (1 : Int32)), (.int (0 : Int32)), (.ref a)]
 refine go_st (fun _ kq => XS.iadd X789.here hx rfl (hb hby d7_75) rfl kq) ?_
 rw [show ((0 : Int32) + (1 : Int32)) = (1 : Int32) from by decide +kernel]
 show Gg T789 m 76 [(.int (1 : Int32)), (.ref a)]
 have c790 := Exa.wr W772 c771
 have c791 := Exa.wr W787 c790
 refine go_putF X789 hx hZ hown (host := "") (Or.inl (wd hw 78 rfl)) Via.refl e789 c788 c791 (Or.inl (wd hw 79 rfl)) (wd hw 1 rfl) (ty := .int) (by decide) rfl rfl (hb hby d7_76) rfl rfl ?_
 intro T792 h792 X792 e792 W792
 have N792 := Fr.snoc X792 N787 P4
 have F792 : Fld Z h792 a "com/example/copse/copse/graph/TargetSearch" "unreached" "I" (.int (1 : Int32)) := Fld.same W792 c788
 show Gg T792 m 79 []
 refine go_st (fun _ kq => XT.iincV X792.here hx rfl (1 : Int32) (hb hby d7_79) (by decide) rfl (l' := #[.val (.ref a), .val (.ref o), .val (.int (0 : Int32)), .val (.ref b), .val (.ref b), .val (.int (1 : Int32)), .val (.int (1 : Int32)), .val (.int (1 : Int32))]) rfl kq) ?_
 show Gg T792 m 82 []
 refine go_st (fun _ kq => XS.goto X792.here hx rfl (pc0 := 82) (pc' := 22) rfl (hb hby d7_82) (by decide) (by decide) kq) ?_
 show Gg T792 m 22 []
 refine go_st (fun _ kq => XS.iload X792.here hx rfl (hb hby d7_22) rfl kq) ?_
 show Gg T792 m 24 [(.int (1 : Int32))]
 refine go_st (fun _ kq => XS.iload X792.here hx rfl (hb hby d7_24) rfl kq) ?_
 show Gg T792 m 26 [(.int (1 : Int32)), (.int (1 : Int32))]
 refine go_st (fun _ kq => XS.icmpYes X792.here hx rfl (pc0 := 26) (pc' := 85) rfl (hb hby d7_26) rfl (XT.ii_ge_t (by decide)) (by decide) (by decide) kq) ?_
 show Gg T792 m 85 []
 refine go_st (fun _ kq => XS.aloadN X792.here hx rfl (hb hby d7_85) rfl rfl kq) ?_
 show Gg T792 m 86 [(.ref a)]
 refine go_getF X792 hx hZ hown (host := "") (Or.inl (wd hw 78 rfl)) Via.refl e792 F792 (hb hby d7_86) rfl rfl ?_
 intro T793 X793 e793
 show Gg T793 m 89 [(.int (1 : Int32))]
 refine go_st (fun _ kq => XS.ifNo X793.here hx rfl (hb hby d7_89) rfl (XT.i0_le_f (by decide)) kq) ?_
 show Gg T793 m 92 []
 refine go_st (fun _ kq => XS.aloadN X793.here hx rfl (hb hby d7_92) rfl rfl kq) ?_
 show Gg T793 m 93 [(.ref a)]
 have c794 := Fld.other W772 f770_5 (Or.inr (slot_ne (a0 := a0) (t := (.array .int)) (t' := .int) (Or.inr (wd hw 19 rfl)) (Or.inl (wd hw 79 rfl)) (by decide) (by decide) (by decide)))
 have c795 := Fld.other W787 c794 (Or.inl P10)
 have c796 := Fld.other W792 c795 (Or.inr (slot_ne (a0 := a0) (t := (.array .int)) (t' := .int) (Or.inr (wd hw 19 rfl)) (Or.inl (wd hw 79 rfl)) (by decide) (by decide) (by decide)))
 refine go_getF X793 hx hZ hown (host := "") (Or.inl (wd hw 18 rfl)) Via.refl e793 c796 (hb hby d7_93) rfl rfl ?_
 intro T797 X797 e797
 show Gg T797 m 96 [(.ref ra)]
 refine go_st (fun _ kq => XS.iloadN X797.here hx rfl (hb hby d7_96) rfl kq) ?_
 show Gg T797 m 97 [(.int (0 : Int32)), (.ref ra)]
 refine go_st (fun _ kq => XS.aloadN X797.here hx rfl (hb hby d7_97) rfl rfl kq) ?_
 show Gg T797 m 98 [(.ref a), (.int (0 : Int32)), (.ref ra)]
 have c798 := Fld.other W787 c783 (Or.inl P10)
 have c799 := Fld.other W792 c798 (Or.inr (slot_ne (a0 := a0) (t := .int) (t' := .int) (Or.inl (wd hw 76 rfl)) (Or.inl (wd hw 79 rfl)) (by decide) (by decide) (by decide)))
 refine go_getF X797 hx hZ hown (host := "") (Or.inl (wd hw 75 rfl)) Via.refl e797 c799 (hb hby d7_98) rfl rfl ?_
 intro T800 X800 e800
 show Gg T800 m 101 [(.int (1 : Int32)), (.int (0 : Int32)), (.ref ra)]
 have c801 := GA.keep P31 K770 (ninS (Ne.symm P8) nin0)
 have c802 := c801.other W772 (Ne.symm P8)
 have c803 := c802.other W787 P14
 have c804 := c803.other W792 (Ne.symm P8)
 refine go_iast X800 hx hZ e800 c804 (hb hby d7_101) rfl rfl (by decide) ?_
 intro T805 h805 X805 e805 W805 G805
 have N805 := Fr.snoc X805 N792 P5
 have A805 : GA Z h805 ra .int 2 (fun i => .int (own_c2 (1 : Int32) (0 : Int32) i)) := (own_sti (by decide) (own_c20 (1 : Int32) (0 : Int32) (0 : Int32)) G805)
 show Gg T805 m 102 []
 refine go_st (fun _ kq => XS.aloadN X805.here hx rfl (hb hby d7_102) rfl rfl kq) ?_
 show Gg T805 m 103 [(.ref a)]
 refine go_st (fun _ kq => XS.aloadN X805.here hx rfl (hb hby d7_103) rfl rfl kq) ?_
 show Gg T805 m 104 [(.ref o), (.ref a)]
 refine go_st (fun _ kq => XS.iloadN X805.here hx rfl (hb hby d7_104) rfl kq) ?_
 show Gg T805 m 105 [(.int (0 : Int32)), (.ref o), (.ref a)]
 refine go_st (fun _ kq => XS.aloadN X805.here hx rfl (hb hby d7_105) rfl rfl kq) ?_
 show Gg T805 m 106 [(.ref a), (.int (0 : Int32)), (.ref o), (.ref a)]
 refine go_lam X805 hx hZ hml hLam hnamed (wd hw 83 rfl) own_cp e805 (t := a) (K := "com/example/copse/copse/graph/TargetSearch") (by decide) (hb hby d7_106) rfl rfl rfl rfl (by show 2 * 0 + 4 + 3072 ≤ _; decide) (by decide) (by decide) ?_
 intro T806 h806 a806 g806 X806 e806 E806 A806
 have c812 : a < T770.heap.size := Nat.lt_of_lt_of_le lt_a K770.1
 have c813 : a < h772.size := (Wr.size W772).symm ▸ c812
 have c814 : a < h787.size := (Wr.size W787).symm ▸ c813
 have c815 : a < h792.size := (Wr.size W792).symm ▸ c814
 have c816 : a < h805.size := (Wr.size W805).symm ▸ c815
 have ne817 : a ≠ a806 := fun q => Nat.lt_irrefl _ (Nat.lt_of_lt_of_le c816 (Nat.le_of_eq (g806.symm.trans q.symm)))
 have c818 : o < T770.heap.size := Nat.lt_of_lt_of_le lt_o K770.1
 have c819 : o < h772.size := (Wr.size W772).symm ▸ c818
 have c820 : o < h787.size := (Wr.size W787).symm ▸ c819
 have c821 : o < h792.size := (Wr.size W792).symm ▸ c820
 have c822 : o < h805.size := (Wr.size W805).symm ▸ c821
 have ne823 : o ≠ a806 := fun q => Nat.lt_irrefl _ (Nat.lt_of_lt_of_le c822 (Nat.le_of_eq (g806.symm.trans q.symm)))
 have c830 : ra < T770.heap.size := Nat.lt_of_lt_of_le lt_ra K770.1
 have c831 : ra < h772.size := (Wr.size W772).symm ▸ c830
 have c832 : ra < h787.size := (Wr.size W787).symm ▸ c831
 have c833 : ra < h792.size := (Wr.size W792).symm ▸ c832
 have c834 : ra < h805.size := (Wr.size W805).symm ▸ c833
 have ne835 : ra ≠ a806 := fun q => Nat.lt_irrefl _ (Nat.lt_of_lt_of_le c834 (Nat.le_of_eq (g806.symm.trans q.symm)))
 have c836 : pe < T770.heap.size := Nat.lt_of_lt_of_le lt_pe K770.1
 have c837 : pe < h772.size := (Wr.size W772).symm ▸ c836
 have c838 : pe < h787.size := (Wr.size W787).symm ▸ c837
 have c839 : pe < h792.size := (Wr.size W792).symm ▸ c838
 have c840 : pe < h805.size := (Wr.size W805).symm ▸ c839
 have ne841 : pe ≠ a806 := fun q => Nat.lt_irrefl _ (Nat.lt_of_lt_of_le c840 (Nat.le_of_eq (g806.symm.trans q.symm)))
 have c842 : wa < T770.heap.size := Nat.lt_of_lt_of_le lt_wa K770.1
 have c843 : wa < h772.size := (Wr.size W772).symm ▸ c842
 have c844 : wa < h787.size := (Wr.size W787).symm ▸ c843
 have c845 : wa < h792.size := (Wr.size W792).symm ▸ c844
 have c846 : wa < h805.size := (Wr.size W805).symm ▸ c845
 have ne847 : wa ≠ a806 := fun q => Nat.lt_irrefl _ (Nat.lt_of_lt_of_le c846 (Nat.le_of_eq (g806.symm.trans q.symm)))
 have z848 : n0 ≤ h787.size := (Wr.size W787).symm ▸ z782
 have z849 : n0 ≤ h792.size := (Wr.size W792).symm ▸ z848
 have z850 : n0 ≤ h805.size := (Wr.size W805).symm ▸ z849
 show Gg T806 m 111 [(.ref a806), (.int (0 : Int32)), (.ref o), (.ref a)]
 have c852 := Exa.wr W792 c791
 have c853 := Exa.wr W805 c852
 have c854 := Exa.ext E806 c853
 have c855 := Exa.keep P1 K770
 have c856 := Exa.wr W772 c855
 have c857 := Exa.wr W787 c856
 have c858 := Exa.wr W792 c857
 have c859 := Exa.wr W805 c858
 have c860 := Exa.ext E806 c859
 have c861 := Fld.keep P2 K770 (ninS (Ne.symm P11) nin0)
 have c862 := Fld.other W772 c861 (Or.inl (Ne.symm P11))
 have c863 := Fld.other W787 c862 (Or.inl (Ne.symm P20))
 have c864 := Fld.other W792 c863 (Or.inl (Ne.symm P11))
 have c865 := Fld.other W805 c864 (Or.inl (Ne.symm P15))
 have c866 := Fld.ext E806 c865
 have c867 := Fld.other W772 f770_0 (Or.inr (slot_ne (a0 := a0) (t := .long) (t' := .int) (Or.inl (wd hw 11 rfl)) (Or.inl (wd hw 79 rfl)) (by decide) (by decide) (by decide)))
 have c868 := Fld.other W787 c867 (Or.inl P10)
 have c869 := Fld.other W792 c868 (Or.inr (slot_ne (a0 := a0) (t := .long) (t' := .int) (Or.inl (wd hw 11 rfl)) (Or.inl (wd hw 79 rfl)) (by decide) (by decide) (by decide)))
 have c870 := Fld.other W805 c869 (Or.inl P8)
 have c871 := Fld.ext E806 c870
 have c872 := Fld.other W772 f770_1 (Or.inr (slot_ne (a0 := a0) (t := .long) (t' := .int) (Or.inl (wd hw 34 rfl)) (Or.inl (wd hw 79 rfl)) (by decide) (by decide) (by decide)))
 have c873 := Fld.other W787 c872 (Or.inl P10)
 have c874 := Fld.other W792 c873 (Or.inr (slot_ne (a0 := a0) (t := .long) (t' := .int) (Or.inl (wd hw 34 rfl)) (Or.inl (wd hw 79 rfl)) (by decide) (by decide) (by decide)))
 have c875 := Fld.other W805 c874 (Or.inl P8)
 have c876 := Fld.ext E806 c875
 have c877 := Fld.other W805 c799 (Or.inl P8)
 have c878 := Fld.ext E806 c877
 have c879 := Fld.other W805 F792 (Or.inl P8)
 have c880 := Fld.ext E806 c879
 have c881 := Fld.other W772 f770_4 (Or.inr (slot_ne (a0 := a0) (t := .int) (t' := .int) (Or.inl (wd hw 103 rfl)) (Or.inl (wd hw 79 rfl)) (by decide) (by decide) (by decide)))
 have c882 := Fld.other W787 c881 (Or.inl P10)
 have c883 := Fld.other W792 c882 (Or.inr (slot_ne (a0 := a0) (t := .int) (t' := .int) (Or.inl (wd hw 103 rfl)) (Or.inl (wd hw 79 rfl)) (by decide) (by decide) (by decide)))
 have c884 := Fld.other W805 c883 (Or.inl P8)
 have c885 := Fld.ext E806 c884
 have c886 := Fld.other W805 c796 (Or.inl P8)
 have c887 := Fld.ext E806 c886
 have c888 := Fld.other W772 f770_6 (Or.inr (slot_ne (a0 := a0) (t := (.array .int)) (t' := .int) (Or.inr (wd hw 25 rfl)) (Or.inl (wd hw 79 rfl)) (by decide) (by decide) (by decide)))
 have c889 := Fld.other W787 c888 (Or.inl P10)
 have c890 := Fld.other W792 c889 (Or.inr (slot_ne (a0 := a0) (t := (.array .int)) (t' := .int) (Or.inr (wd hw 25 rfl)) (Or.inl (wd hw 79 rfl)) (by decide) (by decide) (by decide)))
 have c891 := Fld.other W805 c890 (Or.inl P8)
 have c892 := Fld.ext E806 c891
 have c893 := Fld.other W787 c775 (Or.inl P10)
 have c894 := Fld.other W792 c893 (Or.inr (slot_ne (a0 := a0) (t := (.array .int)) (t' := .int) (Or.inr (wd hw 27 rfl)) (Or.inl (wd hw 79 rfl)) (by decide) (by decide) (by decide)))
 have c895 := Fld.other W805 c894 (Or.inl P8)
 have c896 := Fld.ext E806 c895
 have c897 := A805.ext E806
 have c898 := GA.keep P32 K770 (ninS (Ne.symm P9) nin0)
 have c899 := c898.other W772 (Ne.symm P9)
 have c900 := c899.other W787 P17
 have c901 := c900.other W792 (Ne.symm P9)
 have c902 := c901.other W805 (Ne.symm P13)
 have c903 := c902.ext E806
 have c904 := A787.other W792 (Ne.symm P10)
 have c905 := c904.other W805 (Ne.symm P14)
 have c906 := c905.ext E806
 have z907 : n0 ≤ h806.size := Nat.le_trans z850 E806.1
 refine go_callPH X806 hx hZ hml hown (wd hw 84 rfl) (wd hw 86 rfl) (wd hw 1 rfl) (wd hw 85 rfl) (wd hw 87 rfl) (wd hw 2 rfl) e806 c854 (argsL := [(.ref o), (.int (0 : Int32)), (.ref a806)]) (rest := []) (W := 0) hLam (met_bf0f l Z a0 hw cK a o a806 xl ra pe wa dq h806 n0 z907 c854 c860 c866 A806 P4 P6 P8 P9 P10 P11 ne817 P13 P14 P15 ne835 P17 P18 ne841 P20 ne847 ne823 c871 c876 c878 c880 c885 c887 c892 c896 c897 c903 c906 P34) (hb hby d7_111) rfl rfl rfl (lenOf pd6 rfl) (by show 2 * 0 + _ ≤ _; exact Nat.le_of_eq rfl) (by decide) (by decide) (by decide) (by decide) (by decide) ?_
 intro T851 v851 L851 X851 q851
 obtain ⟨rfl, M851, K851, f851_0, f851_1, f851_2, f851_3, f851_4, f851_5, f851_6, f851_7⟩ := q851
 have N851 := Fr.app N805 M851
 show Gg T851 m 114 [(.int (0 : Int32))]
 refine go_st (fun _ kq => XT.pop X851.here hx rfl (hb hby d7_114) rfl rfl kq) ?_
 show Gg T851 m 115 []
 refine go_st (fun _ kq => XS.aloadN X851.here hx rfl (hb hby d7_115) rfl rfl kq) ?_
 show Gg T851 m 116 [(.ref a)]
 refine go_getF X851 hx hZ hown (host := "") (Or.inl (wd hw 78 rfl)) Via.refl rfl f851_3 (hb hby d7_116) rfl rfl ?_
 intro T908 X908 e908
 show Gg T908 m 119 [(.int (1 : Int32))]
 refine go_st (fun _ kq => XS.ifYes X908.here hx rfl (pc0 := 119) (pc' := 126) rfl (hb hby d7_119) rfl (XT.i0_ne_t (by decide)) (by decide) (by decide) kq) ?_
 show Gg T908 m 126 []
 refine go_st (fun _ kq => XT.iconstV X908.here hx rfl (0 : Int32) (hb hby d7_126) (by decide) kq) ?_
 show Gg T908 m 127 [(.int (0 : Int32))]
 exact go_retB (w := (0 : Int32)) X908 hx hlk hret (hb hby d7_127) (by decide) (by decide) (by decide) (by rw [e908]; exact ⟨rfl, N851, (Keep.trans (Keep.ext (Keep.wr (Keep.wr (Keep.wr (Keep.wr (Keep.trans (Keep.refl h0 [a, ra, pe, wa]) K770 (allS (Or.inl (by simp)) all0)) W772 (Or.inl (by simp))) W787 (Or.inl (by simp))) W792 (Or.inl (by simp))) W805 (Or.inl (by simp))) E806) K851 (allS (Or.inl (by simp)) (allS (Or.inl (by simp)) all0))), f851_0, f851_1, f851_2, f851_3, f851_4, f851_5, f851_6, f851_7⟩)
theorem own_d8 (x : Int32) : own_lt8 (x &&& (7 : Int32)) := by
  have h := c_mask x 7 3 (by decide) (by decide)
  unfold own_lt8
  by_cases h0 : (x &&& (7 : Int32)) = (0 : Int32)
  · simp [h0]
  by_cases h1 : (x &&& (7 : Int32)) = (1 : Int32)
  · simp [h1]
  by_cases h2 : (x &&& (7 : Int32)) = (2 : Int32)
  · simp [h2]
  by_cases h3 : (x &&& (7 : Int32)) = (3 : Int32)
  · simp [h3]
  by_cases h4 : (x &&& (7 : Int32)) = (4 : Int32)
  · simp [h4]
  by_cases h5 : (x &&& (7 : Int32)) = (5 : Int32)
  · simp [h5]
  by_cases h6 : (x &&& (7 : Int32)) = (6 : Int32)
  · simp [h6]
  by_cases h7 : (x &&& (7 : Int32)) = (7 : Int32)
  · simp [h7]
  have k0 : ¬ ((x &&& (7 : Int32)).toInt = 0) := fun q => h0 (Int32.toInt_inj.mp q)
  have k1 : ¬ ((x &&& (7 : Int32)).toInt = 1) := fun q => h1 (Int32.toInt_inj.mp q)
  have k2 : ¬ ((x &&& (7 : Int32)).toInt = 2) := fun q => h2 (Int32.toInt_inj.mp q)
  have k3 : ¬ ((x &&& (7 : Int32)).toInt = 3) := fun q => h3 (Int32.toInt_inj.mp q)
  have k4 : ¬ ((x &&& (7 : Int32)).toInt = 4) := fun q => h4 (Int32.toInt_inj.mp q)
  have k5 : ¬ ((x &&& (7 : Int32)).toInt = 5) := fun q => h5 (Int32.toInt_inj.mp q)
  have k6 : ¬ ((x &&& (7 : Int32)).toInt = 6) := fun q => h6 (Int32.toInt_inj.mp q)
  have k7 : ¬ ((x &&& (7 : Int32)).toInt = 7) := fun q => h7 (Int32.toInt_inj.mp q)
  exfalso
  omega
theorem pn15 : plainFor x = true := by first | (refine plainFor_of_name ?_; simp [plainName, overriddenIn]; done) | (refine plainFor_of_name ?_; decide +kernel) | decide +kernel
theorem pd7 : parseMethodDescriptor "(I)V" = some ⟨[.int], none⟩ := by decide +kernel
theorem pd8 : parseMethodDescriptor "()Z" = some ⟨[], (some .boolean)⟩ := by decide +kernel
theorem pd9 : parseMethodDescriptor "(J)V" = some ⟨[.long], none⟩ := by decide +kernel
theorem pd10 : parseMethodDescriptor "(Lcom/example/copse/copse/graph/SuccessorLists;I[I)Z" = some ⟨[(.object "com/example/copse/copse/graph/SuccessorLists"), .int, (.array .int)], (some .boolean)⟩ := by decide +kernel
theorem pd11 : parseMethodDescriptor "()J" = some ⟨[], (some .long)⟩ := by decide +kernel
theorem ef_law (m : MethodId) (x0 : Int32) (x1 : Int64) (x2 : Int64) : entryFrame m #[(.int x0), (.long x1), (.long x2)] maxLocals = mkF m 0 #[.val (.int x0), .val (.long x1), .second, .val (.long x2), .second, .unset, .unset, .unset, .unset, .unset] [] := by first | (simp [entryFrame, mkF, argsToLocals, Value.category, maxLocals]; done) | rfl
set_option maxRecDepth 65536 in
set_option maxHeartbeats 4000000 in
theorem met_law (l : Launch) (Z : State) (a0 : Array Value) (hw : ∀ d ∈ tables_1, d.before a0 Z = true) (x0 : Int32) (x1 : Int64) (x2 : Int64) (h0 : Heap) (n0 : Nat) (Z0 : n0 ≤ h0.size) (cK : ClassId) :
  MetH l x code maxLocals ret tables_1 room_1 Z cK #[(.int x0), (.long x1), (.long x2)] h0 (QF (some (.int (1 : Int32))) n0) 32 128 := by
 refine own_bodyH pn15 ?_
 intro p e s m below meth c s₁ ct X0 e0 hLam hnamed
 obtain ⟨hx, hZ, hown, hby, hml, hret, hlk, hnm⟩ := ct
 have N0 := Fr.nil n0
 refine castGo (ef_law m x0 x1 x2) ?_
 show Gg s₁ m 0 []
 refine go_st (fun _ kq => XS.iloadN X0.here hx rfl (hb hby at_0) rfl kq) ?_
 show Gg s₁ m 1 [(.int x0)]
 refine go_st (fun _ kq => XT.bipushV X0.here hx rfl (7 : Int32) (hb hby at_1) (by decide) kq) ?_
 show Gg s₁ m 3 [(.int (7 : Int32)), (.int x0)]
 refine go_st (fun _ kq => XS.iand X0.here hx rfl (hb hby at_3) rfl kq) ?_
 show Gg s₁ m 4 [(.int (x0 &&& (7 : Int32)))]
 refine go_st (fun _ kq => XS.istore X0.here hx rfl (hb hby at_4) rfl (l' := #[.val (.int x0), .val (.long x1), .second, .val (.long x2), .second, .val (.int (x0 &&& (7 : Int32))), .unset, .unset, .unset, .unset]) rfl kq) ?_
 show Gg s₁ m 6 []
 have hd8 := own_d8 x0
 refine go_newO X0 hx hZ hown (wd hw 0 rfl) (wd hw 1 rfl) (wd hw 2 rfl) e0 (hb hby at_6) rfl (by decide) (by decide) ?_
 intro T909 h909 a909 g909 X909 e909 E909 A909 D909
 have nw_a909 : n0 ≤ a909 := Nat.le_trans Z0 (Nat.le_of_eq g909.symm)
 have lt_a909 : a909 < h909.size := A909.lt
 have F910 : Fld Z h909 a909 "com/example/copse/copse/graph/TargetSearch" "arcLimit" "J" (.long (0 : Int64)) := D909 (Or.inl (wd hw 11 rfl)) (ty := .long) (by decide)
 have F911 : Fld Z h909 a909 "com/example/copse/copse/graph/TargetSearch" "reachedIn" "[I" .null := D909 (Or.inr (wd hw 19 rfl)) (ty := (.array .int)) (by decide)
 have F912 : Fld Z h909 a909 "com/example/copse/copse/graph/TargetSearch" "place" "[I" .null := D909 (Or.inr (wd hw 21 rfl)) (ty := (.array .int)) (by decide)
 have F913 : Fld Z h909 a909 "com/example/copse/copse/graph/TargetSearch" "parent" "[I" .null := D909 (Or.inr (wd hw 23 rfl)) (ty := (.array .int)) (by decide)
 have F914 : Fld Z h909 a909 "com/example/copse/copse/graph/TargetSearch" "pending" "[I" .null := D909 (Or.inr (wd hw 25 rfl)) (ty := (.array .int)) (by decide)
 have F915 : Fld Z h909 a909 "com/example/copse/copse/graph/TargetSearch" "wantedIn" "[I" .null := D909 (Or.inr (wd hw 27 rfl)) (ty := (.array .int)) (by decide)
 have F916 : Fld Z h909 a909 "com/example/copse/copse/graph/TargetSearch" "arcsLookedAt" "J" (.long (0 : Int64)) := D909 (Or.inl (wd hw 34 rfl)) (ty := .long) (by decide)
 have F917 : Fld Z h909 a909 "com/example/copse/copse/graph/TargetSearch" "search" "I" (.int (0 : Int32)) := D909 (Or.inl (wd hw 76 rfl)) (ty := .int) (by decide)
 have F918 : Fld Z h909 a909 "com/example/copse/copse/graph/TargetSearch" "unreached" "I" (.int (0 : Int32)) := D909 (Or.inl (wd hw 79 rfl)) (ty := .int) (by decide)
 have F919 : Fld Z h909 a909 "com/example/copse/copse/graph/TargetSearch" "queued" "I" (.int (0 : Int32)) := D909 (Or.inl (wd hw 103 rfl)) (ty := .int) (by decide)
 show Gg T909 m 9 [(.ref a909)]
 refine go_st (fun _ kq => XS.dup X909.here hx rfl (hb hby at_9) rfl rfl kq) ?_
 show Gg T909 m 10 [(.ref a909), (.ref a909)]
 refine go_st (fun _ kq => XT.iconstV X909.here hx rfl (2 : Int32) (hb hby at_10) (by decide) kq) ?_
 show Gg T909 m 11 [(.int (2 : Int32)), (.ref a909), (.ref a909)]
 have z921 : n0 ≤ h909.size := Nat.le_trans Z0 E909.1
 refine go_callI X909 hx hZ hml hown rfl (wd hw 3 rfl) (wd hw 4 rfl) (wd hw 5 rfl) (wd hw 2 rfl) e909 (argsL := [(.int (2 : Int32))]) (rest := [(.ref a909)]) (W := 1) (met_ini l Z a0 hw a909 h909 n0 z921 A909 F910 F916 F917 F918 F919 F911 F912 F913 F914 F915 nw_a909) (hb hby at_11) rfl rfl rfl (lenOf pd7 rfl) (by show 2 * 0 + _ ≤ _; exact Nat.le_of_eq rfl) (by decide) (by decide) (by decide) (by decide) (by decide) ?_
 intro T920 v920 L920 X920 q920
 obtain ⟨ra_920, pe_920, wa_920, rfl, M920, K920, fz920_ra, fz920_pe, fz920_wa, p920_0, p920_1, p920_2, p920_3, p920_4, p920_5, f920_0, f920_1, f920_2, f920_3, f920_4, f920_5, f920_6, f920_7, f920_8, f920_9, f920_10⟩ := q920
 have N920 := Fr.app N0 M920
 have nw_ra_920 : n0 ≤ ra_920 := Nat.le_trans z921 fz920_ra
 have nw_pe_920 : n0 ≤ pe_920 := Nat.le_trans z921 fz920_pe
 have nw_wa_920 : n0 ≤ wa_920 := Nat.le_trans z921 fz920_wa
 have lt_ra_920 : ra_920 < T920.heap.size := f920_8.lt
 have lt_pe_920 : pe_920 < T920.heap.size := f920_9.lt
 have lt_wa_920 : wa_920 < T920.heap.size := f920_10.lt
 show Gg T920 m 14 [(.ref a909)]
 refine go_st (fun _ kq => XS.astore X920.here hx rfl (hb hby at_14) rfl rfl (l' := #[.val (.int x0), .val (.long x1), .second, .val (.long x2), .second, .val (.int (x0 &&& (7 : Int32))), .val (.ref a909), .unset, .unset, .unset]) rfl kq) ?_
 show Gg T920 m 16 []
 refine go_st (fun _ kq => XS.aload X920.here hx rfl (hb hby at_16) rfl rfl kq) ?_
 show Gg T920 m 18 [(.ref a909)]
 have z927 : n0 ≤ T920.heap.size := Nat.le_trans z921 K920.1
 have c928 := Exa.keep A909 K920
 refine go_callV X920 hx hZ hml hown (wd hw 28 rfl) (wd hw 29 rfl) (notFace_of_selects (args := #[]) (mvT hZ (wd hw 31 rfl))) (wd hw 31 rfl) (wd hw 30 rfl) (wd hw 32 rfl) (wd hw 2 rfl) rfl c928 (argsL := []) (rest := []) (W := 0) (met_alr1 l Z a0 hw a909 (0 : Int64) (9223372036854775807 : Int64) T920.heap n0 z927 f920_1 f920_0 (by first | assumption | decide | omega)) (hb hby at_18) rfl rfl rfl (lenOf pd8 rfl) (by show 2 * 0 + _ ≤ _; exact Nat.le_of_eq rfl) (by decide) (by decide) (by decide) (by decide) (by decide) ?_
 intro T926 v926 L926 X926 q926
 obtain ⟨rfl, M926, e926⟩ := q926
 have N926 := Fr.app N920 M926
 show Gg T926 m 21 [(.int (0 : Int32))]
 refine go_st (fun _ kq => XS.ifNo X926.here hx rfl (hb hby at_21) rfl (XT.i0_ne_f (by decide)) kq) ?_
 show Gg T926 m 24 []
 refine go_st (fun _ kq => XT.iconstV X926.here hx rfl (1 : Int32) (hb hby at_24) (by decide) kq) ?_
 show Gg T926 m 25 [(.int (1 : Int32))]
 refine go_st (fun _ kq => XS.goto X926.here hx rfl (pc0 := 25) (pc' := 29) rfl (hb hby at_25) (by decide) (by decide) kq) ?_
 show Gg T926 m 29 [(.int (1 : Int32))]
 refine go_st (fun _ kq => XS.istore X926.here hx rfl (hb hby at_29) rfl (l' := #[.val (.int x0), .val (.long x1), .second, .val (.long x2), .second, .val (.int (x0 &&& (7 : Int32))), .val (.ref a909), .val (.int (1 : Int32)), .unset, .unset]) rfl kq) ?_
 show Gg T926 m 31 []
 refine go_st (fun _ kq => XS.aload X926.here hx rfl (hb hby at_31) rfl rfl kq) ?_
 show Gg T926 m 33 [(.ref a909)]
 refine go_st (fun _ kq => XT.lloadN X926.here hx rfl (hb hby at_33) rfl kq) ?_
 show Gg T926 m 34 [(.long x1), (.ref a909)]
 refine go_callV X926 hx hZ hml hown (wd hw 35 rfl) (wd hw 36 rfl) (notFace_of_selects (args := #[]) (mvT hZ (wd hw 38 rfl))) (wd hw 38 rfl) (wd hw 37 rfl) (wd hw 39 rfl) (wd hw 2 rfl) e926 c928 (argsL := [(.long x1)]) (rest := []) (W := 0) (met_sal l Z a0 hw a909 x1 (9223372036854775807 : Int64) (0 : Int64) (0 : Int32) (0 : Int32) (0 : Int32) ra_920 pe_920 wa_920 T920.heap n0 z927 c928 nw_a909 f920_0 f920_1 f920_2 f920_3 f920_4 f920_5 f920_6 f920_7) (hb hby at_34) rfl rfl rfl (lenOf pd9 rfl) (by show 2 * 0 + _ ≤ _; exact Nat.le_of_eq rfl) (by decide) (by decide) (by decide) (by decide) (by decide) ?_
 intro T929 v929 L929 X929 q929
 obtain ⟨rfl, M929, K929, f929_0, f929_1, f929_2, f929_3, f929_4, f929_5, f929_6, f929_7⟩ := q929
 have N929 := Fr.app N926 M929
 show Gg T929 m 37 []
 refine go_st (fun _ kq => XS.iload X929.here hx rfl (hb hby at_37) rfl kq) ?_
 show Gg T929 m 39 [(.int (1 : Int32))]
 refine go_st (fun _ kq => XS.ifNo X929.here hx rfl (hb hby at_39) rfl (XT.i0_eq_f (by decide)) kq) ?_
 show Gg T929 m 42 []
 refine go_st (fun _ kq => XS.aload X929.here hx rfl (hb hby at_42) rfl rfl kq) ?_
 show Gg T929 m 44 [(.ref a909)]
 by_cases hc930 : (0 : Int64) < x1
 ·show Gg T929 m 44 [(.ref a909)]
  have z932 : n0 ≤ T929.heap.size := Nat.le_trans z927 K929.1
  have c933 := Exa.keep c928 K929
  refine go_callV X929 hx hZ hml hown (wd hw 28 rfl) (wd hw 29 rfl) (notFace_of_selects (args := #[]) (mvT hZ (wd hw 31 rfl))) (wd hw 31 rfl) (wd hw 30 rfl) (wd hw 32 rfl) (wd hw 2 rfl) rfl c933 (argsL := []) (rest := []) (W := 0) (met_alr1 l Z a0 hw a909 (0 : Int64) x1 T929.heap n0 z932 f929_1 f929_0 hc930) (hb hby at_44) rfl rfl rfl (lenOf pd8 rfl) (by show 2 * 0 + _ ≤ _; exact Nat.le_of_eq rfl) (by decide) (by decide) (by decide) (by decide) (by decide) ?_
  intro T931 v931 L931 X931 q931
  obtain ⟨rfl, M931, e931⟩ := q931
  have N931 := Fr.app N929 M931
  show Gg T931 m 47 [(.int (0 : Int32))]
  refine go_st (fun _ kq => XT.lconstV X931.here hx rfl (0 : Int64) (hb hby at_47) (by decide) kq) ?_
  show Gg T931 m 48 [(.long (0 : Int64)), (.int (0 : Int32))]
  refine go_st (fun _ kq => XT.lloadN X931.here hx rfl (hb hby at_48) rfl kq) ?_
  show Gg T931 m 49 [(.long x1), (.long (0 : Int64)), (.int (0 : Int32))]
  refine go_st (fun _ kq => XT.lcmp X931.here hx rfl (hb hby at_49) rfl kq) ?_
  show Gg T931 m 50 [(.int (XT.cmpL (0 : Int64) x1)), (.int (0 : Int32))]
  refine go_st (fun _ kq => XS.ifYes X931.here hx rfl (pc0 := 50) (pc' := 57) rfl (hb hby at_50) rfl (XT.ll_lt_t hc930) (by decide) (by decide) kq) ?_
  show Gg T931 m 57 [(.int (0 : Int32))]
  refine go_st (fun _ kq => XT.iconstV X931.here hx rfl (0 : Int32) (hb hby at_57) (by decide) kq) ?_
  show Gg T931 m 58 [(.int (0 : Int32)), (.int (0 : Int32))]
  refine go_st (fun _ kq => XS.icmpNo X931.here hx rfl (hb hby at_58) rfl (XT.ii_ne_f (by decide)) kq) ?_
  show Gg T931 m 61 []
  refine go_st (fun _ kq => XT.iconstV X931.here hx rfl (1 : Int32) (hb hby at_61) (by decide) kq) ?_
  show Gg T931 m 62 [(.int (1 : Int32))]
  refine go_st (fun _ kq => XS.goto X931.here hx rfl (pc0 := 62) (pc' := 66) rfl (hb hby at_62) (by decide) (by decide) kq) ?_
  show Gg T931 m 66 [(.int (1 : Int32))]
  refine go_st (fun _ kq => XS.istore X931.here hx rfl (hb hby at_66) rfl (l' := #[.val (.int x0), .val (.long x1), .second, .val (.long x2), .second, .val (.int (x0 &&& (7 : Int32))), .val (.ref a909), .val (.int (1 : Int32)), .unset, .unset]) rfl kq) ?_
  show Gg T931 m 68 []
  refine go_st (fun _ kq => XS.aload X931.here hx rfl (hb hby at_68) rfl rfl kq) ?_
  show Gg T931 m 70 [(.ref a909)]
  refine go_newO X931 hx hZ hown (wd hw 40 rfl) (wd hw 41 rfl) (wd hw 42 rfl) e931 (hb hby at_70) rfl (by decide) (by decide) ?_
  intro T934 h934 a934 g934 X934 e934 E934 A934 D934
  have c937 : a909 < T920.heap.size := Nat.lt_of_lt_of_le lt_a909 K920.1
  have c938 : a909 < T929.heap.size := Nat.lt_of_lt_of_le c937 K929.1
  have ne939 : a909 ≠ a934 := fun q => Nat.lt_irrefl _ (Nat.lt_of_lt_of_le c938 (Nat.le_of_eq (g934.symm.trans q.symm)))
  have c940 : ra_920 < T929.heap.size := Nat.lt_of_lt_of_le lt_ra_920 K929.1
  have ne941 : ra_920 ≠ a934 := fun q => Nat.lt_irrefl _ (Nat.lt_of_lt_of_le c940 (Nat.le_of_eq (g934.symm.trans q.symm)))
  have c942 : pe_920 < T929.heap.size := Nat.lt_of_lt_of_le lt_pe_920 K929.1
  have ne943 : pe_920 ≠ a934 := fun q => Nat.lt_irrefl _ (Nat.lt_of_lt_of_le c942 (Nat.le_of_eq (g934.symm.trans q.symm)))
  have c944 : wa_920 < T929.heap.size := Nat.lt_of_lt_of_le lt_wa_920 K929.1
  have ne945 : wa_920 ≠ a934 := fun q => Nat.lt_irrefl _ (Nat.lt_of_lt_of_le c944 (Nat.le_of_eq (g934.symm.trans q.symm)))
  have nw_a934 : n0 ≤ a934 := Nat.le_trans z932 (Nat.le_of_eq g934.symm)
  have lt_a934 : a934 < h934.size := A934.lt
  have F946 : Fld Z h934 a934 "com/example/copse/copse/graph/TargetSearchArcLimitReachedPinLaw" "degree" "I" (.int (0 : Int32)) := D934 (Or.inr (wd hw 48 rfl)) (ty := .int) (by decide)
  show Gg T934 m 73 [(.ref a934), (.ref a909)]
  refine go_st (fun _ kq => XS.dup X934.here hx rfl (hb hby at_73) rfl rfl kq) ?_
  show Gg T934 m 74 [(.ref a934), (.ref a934), (.ref a909)]
  refine go_st (fun _ kq => XS.iload X934.here hx rfl (hb hby at_74) rfl kq) ?_
  show Gg T934 m 76 [(.int (x0 &&& (7 : Int32))), (.ref a934), (.ref a934), (.ref a909)]
  have z948 : n0 ≤ h934.size := Nat.le_trans z932 E934.1
  refine go_callI X934 hx hZ hml hown rfl (wd hw 43 rfl) (wd hw 44 rfl) (wd hw 45 rfl) (wd hw 42 rfl) e934 (argsL := [(.int (x0 &&& (7 : Int32)))]) (rest := [(.ref a934), (.ref a909)]) (W := 2) (met_lci l Z a0 hw a934 (x0 &&& (7 : Int32)) h934 n0 z948 A934 F946 nw_a934) (hb hby at_76) rfl rfl rfl (lenOf pd7 rfl) (by show 2 * 0 + _ ≤ _; exact Nat.le_of_eq rfl) (by decide) (by decide) (by decide) (by decide) (by decide) ?_
  intro T947 v947 L947 X947 q947
  obtain ⟨rfl, M947, K947, f947_0⟩ := q947
  have N947 := Fr.app N931 M947
  show Gg T947 m 79 [(.ref a934), (.ref a909)]
  refine go_st (fun _ kq => XT.iconstV X947.here hx rfl (0 : Int32) (hb hby at_79) (by decide) kq) ?_
  show Gg T947 m 80 [(.int (0 : Int32)), (.ref a934), (.ref a909)]
  refine go_st (fun _ kq => XT.iconstV X947.here hx rfl (1 : Int32) (hb hby at_80) (by decide) kq) ?_
  show Gg T947 m 81 [(.int (1 : Int32)), (.int (0 : Int32)), (.ref a934), (.ref a909)]
  refine go_newP X947 hx hZ (wd hw 17 rfl) rfl (hb hby at_81) rfl rfl 1 (by decide) 1 (Nat.le_refl _) (by decide) (by decide) (by decide) ?_
  intro T949 h949 a949 g949 X949 e949 E949 G949
  have c952 : a909 < h934.size := Nat.lt_of_lt_of_le c938 E934.1
  have c953 : a909 < T947.heap.size := Nat.lt_of_lt_of_le c952 K947.1
  have ne954 : a909 ≠ a949 := fun q => Nat.lt_irrefl _ (Nat.lt_of_lt_of_le c953 (Nat.le_of_eq (g949.symm.trans q.symm)))
  have c955 : ra_920 < h934.size := Nat.lt_of_lt_of_le c940 E934.1
  have c956 : ra_920 < T947.heap.size := Nat.lt_of_lt_of_le c955 K947.1
  have ne957 : ra_920 ≠ a949 := fun q => Nat.lt_irrefl _ (Nat.lt_of_lt_of_le c956 (Nat.le_of_eq (g949.symm.trans q.symm)))
  have c958 : pe_920 < h934.size := Nat.lt_of_lt_of_le c942 E934.1
  have c959 : pe_920 < T947.heap.size := Nat.lt_of_lt_of_le c958 K947.1
  have ne960 : pe_920 ≠ a949 := fun q => Nat.lt_irrefl _ (Nat.lt_of_lt_of_le c959 (Nat.le_of_eq (g949.symm.trans q.symm)))
  have c961 : wa_920 < h934.size := Nat.lt_of_lt_of_le c944 E934.1
  have c962 : wa_920 < T947.heap.size := Nat.lt_of_lt_of_le c961 K947.1
  have ne963 : wa_920 ≠ a949 := fun q => Nat.lt_irrefl _ (Nat.lt_of_lt_of_le c962 (Nat.le_of_eq (g949.symm.trans q.symm)))
  have c964 : a934 < T947.heap.size := Nat.lt_of_lt_of_le lt_a934 K947.1
  have ne965 : a934 ≠ a949 := fun q => Nat.lt_irrefl _ (Nat.lt_of_lt_of_le c964 (Nat.le_of_eq (g949.symm.trans q.symm)))
  have z966 : n0 ≤ T947.heap.size := Nat.le_trans z948 K947.1
  have nw_a949 : n0 ≤ a949 := Nat.le_trans z966 (Nat.le_of_eq g949.symm)
  have A949 : GA Z h949 a949 .int 1 (fun i => .int (own_c2 (0 : Int32) (0 : Int32) i)) := (GA.congr G949 (fun i _ => own_z2 i))
  show Gg T949 m 83 [(.ref a949), (.int (0 : Int32)), (.ref a934), (.ref a909)]
  refine go_st (fun _ kq => XS.dup X949.here hx rfl (hb hby at_83) rfl rfl kq) ?_
  show Gg T949 m 84 [(.ref a949), (.ref a949), (.int (0 : Int32)), (.ref a934), (.ref a909)]
  refine go_st (fun _ kq => XT.iconstV X949.here hx rfl (0 : Int32) (hb hby at_84) (by decide) kq) ?_
  show Gg T949 m 85 [(.int (0 : Int32)), (.ref a949), (.ref a949), (.int (0 : Int32)), (.ref a934), (.ref a909)]
  refine go_st (fun _ kq => XT.iconstV X949.here hx rfl (1 : Int32) (hb hby at_85) (by decide) kq) ?_
  show Gg T949 m 86 [(.int (1 : Int32)), (.int (0 : Int32)), (.ref a949), (.ref a949), (.int (0 : Int32)), (.ref a934), (.ref a909)]
  refine go_iast X949 hx hZ e949 A949 (hb hby at_86) rfl rfl (by decide) ?_
  intro T967 h967 X967 e967 W967 G967
  have N967 := Fr.snoc X967 N947 nw_a949
  have A967 : GA Z h967 a949 .int 1 (fun i => .int (own_c2 (1 : Int32) (0 : Int32) i)) := (own_sti (by decide) (own_c20 (1 : Int32) (0 : Int32) (0 : Int32)) G967)
  show Gg T967 m 87 [(.ref a949), (.int (0 : Int32)), (.ref a934), (.ref a909)]
  have c969 := Exa.ext E934 c933
  have c970 := Exa.keep c969 K947
  have c971 := Exa.ext E949 c970
  have c972 := Exa.wr W967 c971
  have c973 := Exa.keep A934 K947
  have c974 := Exa.ext E949 c973
  have c975 := Exa.wr W967 c974
  have c976 := Fld.ext E949 f947_0
  have c977 := Fld.other W967 c976 (Or.inl ne965)
  have c978 := Fld.ext E934 f929_0
  have c979 := Fld.keep c978 K947 (ninS ne939 nin0)
  have c980 := Fld.ext E949 c979
  have c981 := Fld.other W967 c980 (Or.inl ne954)
  have c982 := Fld.ext E934 f929_1
  have c983 := Fld.keep c982 K947 (ninS ne939 nin0)
  have c984 := Fld.ext E949 c983
  have c985 := Fld.other W967 c984 (Or.inl ne954)
  have c986 := Fld.ext E934 f929_2
  have c987 := Fld.keep c986 K947 (ninS ne939 nin0)
  have c988 := Fld.ext E949 c987
  have c989 := Fld.other W967 c988 (Or.inl ne954)
  have c990 := Fld.ext E934 f929_3
  have c991 := Fld.keep c990 K947 (ninS ne939 nin0)
  have c992 := Fld.ext E949 c991
  have c993 := Fld.other W967 c992 (Or.inl ne954)
  have c994 := Fld.ext E934 f929_4
  have c995 := Fld.keep c994 K947 (ninS ne939 nin0)
  have c996 := Fld.ext E949 c995
  have c997 := Fld.other W967 c996 (Or.inl ne954)
  have c998 := Fld.ext E934 f929_5
  have c999 := Fld.keep c998 K947 (ninS ne939 nin0)
  have c1000 := Fld.ext E949 c999
  have c1001 := Fld.other W967 c1000 (Or.inl ne954)
  have c1002 := Fld.ext E934 f929_6
  have c1003 := Fld.keep c1002 K947 (ninS ne939 nin0)
  have c1004 := Fld.ext E949 c1003
  have c1005 := Fld.other W967 c1004 (Or.inl ne954)
  have c1006 := Fld.ext E934 f929_7
  have c1007 := Fld.keep c1006 K947 (ninS ne939 nin0)
  have c1008 := Fld.ext E949 c1007
  have c1009 := Fld.other W967 c1008 (Or.inl ne954)
  have c1010 := GA.keep f920_8 K929 (ninS (Ne.symm p920_3) nin0)
  have c1011 := c1010.ext E934
  have c1012 := GA.keep c1011 K947 (ninS ne941 nin0)
  have c1013 := c1012.ext E949
  have c1014 := c1013.other W967 ne957
  have c1015 := GA.keep f920_9 K929 (ninS (Ne.symm p920_4) nin0)
  have c1016 := c1015.ext E934
  have c1017 := GA.keep c1016 K947 (ninS ne943 nin0)
  have c1018 := c1017.ext E949
  have c1019 := c1018.other W967 ne960
  have c1020 := GA.keep f920_10 K929 (ninS (Ne.symm p920_5) nin0)
  have c1021 := c1020.ext E934
  have c1022 := GA.keep c1021 K947 (ninS ne945 nin0)
  have c1023 := c1022.ext E949
  have c1024 := c1023.other W967 ne963
  have z1025 : n0 ≤ h949.size := Nat.le_trans z966 E949.1
  have z1026 : n0 ≤ h967.size := (Wr.size W967).symm ▸ z1025
  refine go_callVH X967 hx hZ hml hown (wd hw 49 rfl) (wd hw 50 rfl) (notFace_of_selects (args := #[]) (mvT hZ (wd hw 52 rfl))) (wd hw 52 rfl) (wd hw 51 rfl) (wd hw 53 rfl) (wd hw 2 rfl) e967 c972 (argsL := [(.ref a934), (.int (0 : Int32)), (.ref a949)]) (rest := []) (W := 0) hLam (met_reat l Z a0 hw cK a909 a934 a949 x1 ra_920 pe_920 wa_920 (x0 &&& (7 : Int32)) h967 n0 z1026 c972 c975 c977 A967 nw_a909 nw_ra_920 nw_pe_920 nw_wa_920 p920_3 p920_4 p920_5 ne939 ne954 p920_0 p920_1 ne941 ne957 p920_2 ne943 ne960 ne945 ne963 ne965 c981 c985 c989 c993 c997 c1001 c1005 c1009 c1014 c1019 c1024 hc930 hd8) (hb hby at_87) rfl rfl rfl (lenOf pd10 rfl) (by show 2 * 0 + _ ≤ _; exact Nat.le_of_eq rfl) (by decide) (by decide) (by decide) (by decide) (by decide) ?_
  intro T968 v968 L968 X968 q968
  obtain ⟨rfl, M968, K968, f968_0, f968_1, f968_2, f968_3, f968_4, f968_5, f968_6, f968_7⟩ := q968
  have N968 := Fr.app N967 M968
  show Gg T968 m 90 [(.int (0 : Int32))]
  refine go_st (fun _ kq => XT.pop X968.here hx rfl (hb hby at_90) rfl rfl kq) ?_
  show Gg T968 m 91 []
  refine go_st (fun _ kq => XT.lloadN X968.here hx rfl (hb hby at_91) rfl kq) ?_
  show Gg T968 m 92 [(.long x1)]
  refine go_st (fun _ kq => XT.lconstV X968.here hx rfl (0 : Int64) (hb hby at_92) (by decide) kq) ?_
  show Gg T968 m 93 [(.long (0 : Int64)), (.long x1)]
  refine go_st (fun _ kq => XT.lcmp X968.here hx rfl (hb hby at_93) rfl kq) ?_
  show Gg T968 m 94 [(.int (XT.cmpL x1 (0 : Int64)))]
  refine go_st (fun _ kq => XS.ifNo X968.here hx rfl (hb hby at_94) rfl (XT.ll_le_f hc930) kq) ?_
  show Gg T968 m 97 []
  refine go_st (fun _ kq => XS.iload X968.here hx rfl (hb hby at_97) rfl kq) ?_
  show Gg T968 m 99 [(.int (x0 &&& (7 : Int32)))]
  refine go_st (fun _ kq => XT.i2l X968.here hx rfl (hb hby at_99) rfl kq) ?_
  show Gg T968 m 100 [(.long (x0 &&& (7 : Int32)).toInt64)]
  refine go_st (fun _ kq => XS.goto X968.here hx rfl (pc0 := 100) (pc' := 104) rfl (hb hby at_100) (by decide) (by decide) kq) ?_
  show Gg T968 m 104 [(.long (x0 &&& (7 : Int32)).toInt64)]
  refine go_st (fun _ kq => XT.lstore X968.here hx rfl (hb hby at_104) rfl (l' := #[.val (.int x0), .val (.long x1), .second, .val (.long x2), .second, .val (.int (x0 &&& (7 : Int32))), .val (.ref a909), .val (.int (1 : Int32)), .val (.long (x0 &&& (7 : Int32)).toInt64), .second]) rfl kq) ?_
  show Gg T968 m 106 []
  refine go_st (fun _ kq => XS.iload X968.here hx rfl (hb hby at_106) rfl kq) ?_
  show Gg T968 m 108 [(.int (1 : Int32))]
  refine go_st (fun _ kq => XS.ifNo X968.here hx rfl (hb hby at_108) rfl (XT.i0_eq_f (by decide)) kq) ?_
  show Gg T968 m 111 []
  refine go_st (fun _ kq => XS.aload X968.here hx rfl (hb hby at_111) rfl rfl kq) ?_
  show Gg T968 m 113 [(.ref a909)]
  have z1028 : n0 ≤ T968.heap.size := Nat.le_trans z1026 K968.1
  have c1029 := Exa.keep c972 K968
  refine go_callV X968 hx hZ hml hown (wd hw 104 rfl) (wd hw 105 rfl) (notFace_of_selects (args := #[]) (mvT hZ (wd hw 107 rfl))) (wd hw 107 rfl) (wd hw 106 rfl) (wd hw 108 rfl) (wd hw 2 rfl) rfl c1029 (argsL := []) (rest := []) (W := 0) (met_15 l Z a0 hw a909 (x0 &&& (7 : Int32)).toInt64 T968.heap n0 z1028 f968_1) (hb hby at_113) rfl rfl rfl (lenOf pd11 rfl) (by show 2 * 0 + _ ≤ _; exact Nat.le_of_eq rfl) (by decide) (by decide) (by decide) (by decide) (by decide) ?_
  intro T1027 v1027 L1027 X1027 q1027
  obtain ⟨rfl, M1027, e1027⟩ := q1027
  have N1027 := Fr.app N968 M1027
  show Gg T1027 m 116 [(.long (x0 &&& (7 : Int32)).toInt64)]
  refine go_st (fun _ kq => XT.lload X1027.here hx rfl (hb hby at_116) rfl kq) ?_
  show Gg T1027 m 118 [(.long (x0 &&& (7 : Int32)).toInt64), (.long (x0 &&& (7 : Int32)).toInt64)]
  refine go_st (fun _ kq => XT.lcmp X1027.here hx rfl (hb hby at_118) rfl kq) ?_
  show Gg T1027 m 119 [(.int (XT.cmpL (x0 &&& (7 : Int32)).toInt64 (x0 &&& (7 : Int32)).toInt64))]
  refine go_st (fun _ kq => XS.ifNo X1027.here hx rfl (hb hby at_119) rfl (XT.ll_ne_f rfl) kq) ?_
  show Gg T1027 m 122 []
  refine go_st (fun _ kq => XT.iconstV X1027.here hx rfl (1 : Int32) (hb hby at_122) (by decide) kq) ?_
  show Gg T1027 m 123 [(.int (1 : Int32))]
  refine go_st (fun _ kq => XS.goto X1027.here hx rfl (pc0 := 123) (pc' := 127) rfl (hb hby at_123) (by decide) (by decide) kq) ?_
  show Gg T1027 m 127 [(.int (1 : Int32))]
  refine go_st (fun _ kq => XS.istore X1027.here hx rfl (hb hby at_127) rfl (l' := #[.val (.int x0), .val (.long x1), .second, .val (.long x2), .second, .val (.int (x0 &&& (7 : Int32))), .val (.ref a909), .val (.int (1 : Int32)), .val (.long (x0 &&& (7 : Int32)).toInt64), .second]) rfl kq) ?_
  show Gg T1027 m 129 []
  refine go_st (fun _ kq => XS.iload X1027.here hx rfl (hb hby at_129) rfl kq) ?_
  show Gg T1027 m 131 [(.int (1 : Int32))]
  refine go_st (fun _ kq => XS.ifNo X1027.here hx rfl (hb hby at_131) rfl (XT.i0_eq_f (by decide)) kq) ?_
  show Gg T1027 m 134 []
  refine go_st (fun _ kq => XS.aload X1027.here hx rfl (hb hby at_134) rfl rfl kq) ?_
  show Gg T1027 m 136 [(.ref a909)]
  by_cases hc1030 : (x0 &&& (7 : Int32)).toInt64 < x1
  ·show Gg T1027 m 136 [(.ref a909)]
   refine go_callV X1027 hx hZ hml hown (wd hw 28 rfl) (wd hw 29 rfl) (notFace_of_selects (args := #[]) (mvT hZ (wd hw 31 rfl))) (wd hw 31 rfl) (wd hw 30 rfl) (wd hw 32 rfl) (wd hw 2 rfl) e1027 c1029 (argsL := []) (rest := []) (W := 0) (met_alr1 l Z a0 hw a909 (x0 &&& (7 : Int32)).toInt64 x1 T968.heap n0 z1028 f968_1 f968_0 hc1030) (hb hby at_136) rfl rfl rfl (lenOf pd8 rfl) (by show 2 * 0 + _ ≤ _; exact Nat.le_of_eq rfl) (by decide) (by decide) (by decide) (by decide) (by decide) ?_
   intro T1031 v1031 L1031 X1031 q1031
   obtain ⟨rfl, M1031, e1031⟩ := q1031
   have N1031 := Fr.app N1027 M1031
   show Gg T1031 m 139 [(.int (0 : Int32))]
   refine go_st (fun _ kq => XT.lload X1031.here hx rfl (hb hby at_139) rfl kq) ?_
   show Gg T1031 m 141 [(.long (x0 &&& (7 : Int32)).toInt64), (.int (0 : Int32))]
   refine go_st (fun _ kq => XT.lloadN X1031.here hx rfl (hb hby at_141) rfl kq) ?_
   show Gg T1031 m 142 [(.long x1), (.long (x0 &&& (7 : Int32)).toInt64), (.int (0 : Int32))]
   refine go_st (fun _ kq => XT.lcmp X1031.here hx rfl (hb hby at_142) rfl kq) ?_
   show Gg T1031 m 143 [(.int (XT.cmpL (x0 &&& (7 : Int32)).toInt64 x1)), (.int (0 : Int32))]
   refine go_st (fun _ kq => XS.ifYes X1031.here hx rfl (pc0 := 143) (pc' := 150) rfl (hb hby at_143) rfl (XT.ll_lt_t hc1030) (by decide) (by decide) kq) ?_
   show Gg T1031 m 150 [(.int (0 : Int32))]
   refine go_st (fun _ kq => XT.iconstV X1031.here hx rfl (0 : Int32) (hb hby at_150) (by decide) kq) ?_
   show Gg T1031 m 151 [(.int (0 : Int32)), (.int (0 : Int32))]
   refine go_st (fun _ kq => XS.icmpNo X1031.here hx rfl (hb hby at_151) rfl (XT.ii_ne_f (by decide)) kq) ?_
   show Gg T1031 m 154 []
   refine go_st (fun _ kq => XT.iconstV X1031.here hx rfl (1 : Int32) (hb hby at_154) (by decide) kq) ?_
   show Gg T1031 m 155 [(.int (1 : Int32))]
   refine go_st (fun _ kq => XS.goto X1031.here hx rfl (pc0 := 155) (pc' := 159) rfl (hb hby at_155) (by decide) (by decide) kq) ?_
   show Gg T1031 m 159 [(.int (1 : Int32))]
   refine go_st (fun _ kq => XS.istore X1031.here hx rfl (hb hby at_159) rfl (l' := #[.val (.int x0), .val (.long x1), .second, .val (.long x2), .second, .val (.int (x0 &&& (7 : Int32))), .val (.ref a909), .val (.int (1 : Int32)), .val (.long (x0 &&& (7 : Int32)).toInt64), .second]) rfl kq) ?_
   show Gg T1031 m 161 []
   refine go_st (fun _ kq => XS.aload X1031.here hx rfl (hb hby at_161) rfl rfl kq) ?_
   show Gg T1031 m 163 [(.ref a909)]
   refine go_st (fun _ kq => XT.lloadN X1031.here hx rfl (hb hby at_163) rfl kq) ?_
   show Gg T1031 m 164 [(.long x2), (.ref a909)]
   refine go_callV X1031 hx hZ hml hown (wd hw 35 rfl) (wd hw 36 rfl) (notFace_of_selects (args := #[]) (mvT hZ (wd hw 38 rfl))) (wd hw 38 rfl) (wd hw 37 rfl) (wd hw 39 rfl) (wd hw 2 rfl) e1031 c1029 (argsL := [(.long x2)]) (rest := []) (W := 0) (met_sal l Z a0 hw a909 x2 x1 (x0 &&& (7 : Int32)).toInt64 (1 : Int32) (1 : Int32) (1 : Int32) ra_920 pe_920 wa_920 T968.heap n0 z1028 c1029 nw_a909 f968_0 f968_1 f968_2 f968_3 f968_4 f968_5 f968_6 f968_7) (hb hby at_164) rfl rfl rfl (lenOf pd9 rfl) (by show 2 * 0 + _ ≤ _; exact Nat.le_of_eq rfl) (by decide) (by decide) (by decide) (by decide) (by decide) ?_
   intro T1032 v1032 L1032 X1032 q1032
   obtain ⟨rfl, M1032, K1032, f1032_0, f1032_1, f1032_2, f1032_3, f1032_4, f1032_5, f1032_6, f1032_7⟩ := q1032
   have N1032 := Fr.app N1031 M1032
   show Gg T1032 m 167 []
   refine go_st (fun _ kq => XS.iload X1032.here hx rfl (hb hby at_167) rfl kq) ?_
   show Gg T1032 m 169 [(.int (1 : Int32))]
   refine go_st (fun _ kq => XS.ifNo X1032.here hx rfl (hb hby at_169) rfl (XT.i0_eq_f (by decide)) kq) ?_
   show Gg T1032 m 172 []
   refine go_st (fun _ kq => XS.aload X1032.here hx rfl (hb hby at_172) rfl rfl kq) ?_
   show Gg T1032 m 174 [(.ref a909)]
   by_cases hc1033 : (x0 &&& (7 : Int32)).toInt64 < x2
   ·show Gg T1032 m 174 [(.ref a909)]
    have z1035 : n0 ≤ T1032.heap.size := Nat.le_trans z1028 K1032.1
    have c1036 := Exa.keep c1029 K1032
    refine go_callV X1032 hx hZ hml hown (wd hw 28 rfl) (wd hw 29 rfl) (notFace_of_selects (args := #[]) (mvT hZ (wd hw 31 rfl))) (wd hw 31 rfl) (wd hw 30 rfl) (wd hw 32 rfl) (wd hw 2 rfl) rfl c1036 (argsL := []) (rest := []) (W := 0) (met_alr1 l Z a0 hw a909 (x0 &&& (7 : Int32)).toInt64 x2 T1032.heap n0 z1035 f1032_1 f1032_0 hc1033) (hb hby at_174) rfl rfl rfl (lenOf pd8 rfl) (by show 2 * 0 + _ ≤ _; exact Nat.le_of_eq rfl) (by decide) (by decide) (by decide) (by decide) (by decide) ?_
    intro T1034 v1034 L1034 X1034 q1034
    obtain ⟨rfl, M1034, e1034⟩ := q1034
    have N1034 := Fr.app N1032 M1034
    show Gg T1034 m 177 [(.int (0 : Int32))]
    refine go_st (fun _ kq => XT.lload X1034.here hx rfl (hb hby at_177) rfl kq) ?_
    show Gg T1034 m 179 [(.long (x0 &&& (7 : Int32)).toInt64), (.int (0 : Int32))]
    refine go_st (fun _ kq => XT.lloadN X1034.here hx rfl (hb hby at_179) rfl kq) ?_
    show Gg T1034 m 180 [(.long x2), (.long (x0 &&& (7 : Int32)).toInt64), (.int (0 : Int32))]
    refine go_st (fun _ kq => XT.lcmp X1034.here hx rfl (hb hby at_180) rfl kq) ?_
    show Gg T1034 m 181 [(.int (XT.cmpL (x0 &&& (7 : Int32)).toInt64 x2)), (.int (0 : Int32))]
    refine go_st (fun _ kq => XS.ifYes X1034.here hx rfl (pc0 := 181) (pc' := 188) rfl (hb hby at_181) rfl (XT.ll_lt_t hc1033) (by decide) (by decide) kq) ?_
    show Gg T1034 m 188 [(.int (0 : Int32))]
    refine go_st (fun _ kq => XT.iconstV X1034.here hx rfl (0 : Int32) (hb hby at_188) (by decide) kq) ?_
    show Gg T1034 m 189 [(.int (0 : Int32)), (.int (0 : Int32))]
    refine go_st (fun _ kq => XS.icmpNo X1034.here hx rfl (hb hby at_189) rfl (XT.ii_ne_f (by decide)) kq) ?_
    show Gg T1034 m 192 []
    refine go_st (fun _ kq => XT.iconstV X1034.here hx rfl (1 : Int32) (hb hby at_192) (by decide) kq) ?_
    show Gg T1034 m 193 [(.int (1 : Int32))]
    refine go_st (fun _ kq => XS.goto X1034.here hx rfl (pc0 := 193) (pc' := 197) rfl (hb hby at_193) (by decide) (by decide) kq) ?_
    show Gg T1034 m 197 [(.int (1 : Int32))]
    refine go_st (fun _ kq => XS.istore X1034.here hx rfl (hb hby at_197) rfl (l' := #[.val (.int x0), .val (.long x1), .second, .val (.long x2), .second, .val (.int (x0 &&& (7 : Int32))), .val (.ref a909), .val (.int (1 : Int32)), .val (.long (x0 &&& (7 : Int32)).toInt64), .second]) rfl kq) ?_
    show Gg T1034 m 199 []
    refine go_st (fun _ kq => XS.iload X1034.here hx rfl (hb hby at_199) rfl kq) ?_
    show Gg T1034 m 201 [(.int (1 : Int32))]
    exact go_retB (w := (1 : Int32)) X1034 hx hlk hret (hb hby at_201) (by decide) (by decide) (by decide) ⟨rfl, N1034⟩
   ·show Gg T1032 m 174 [(.ref a909)]
    have z1038 : n0 ≤ T1032.heap.size := Nat.le_trans z1028 K1032.1
    have c1039 := Exa.keep c1029 K1032
    refine go_callV X1032 hx hZ hml hown (wd hw 28 rfl) (wd hw 29 rfl) (notFace_of_selects (args := #[]) (mvT hZ (wd hw 31 rfl))) (wd hw 31 rfl) (wd hw 30 rfl) (wd hw 32 rfl) (wd hw 2 rfl) rfl c1039 (argsL := []) (rest := []) (W := 0) (met_alr0 l Z a0 hw a909 (x0 &&& (7 : Int32)).toInt64 x2 T1032.heap n0 z1038 f1032_1 f1032_0 hc1033) (hb hby at_174) rfl rfl rfl (lenOf pd8 rfl) (by show 2 * 0 + _ ≤ _; exact Nat.le_of_eq rfl) (by decide) (by decide) (by decide) (by decide) (by decide) ?_
    intro T1037 v1037 L1037 X1037 q1037
    obtain ⟨rfl, M1037, e1037⟩ := q1037
    have N1037 := Fr.app N1032 M1037
    show Gg T1037 m 177 [(.int (1 : Int32))]
    refine go_st (fun _ kq => XT.lload X1037.here hx rfl (hb hby at_177) rfl kq) ?_
    show Gg T1037 m 179 [(.long (x0 &&& (7 : Int32)).toInt64), (.int (1 : Int32))]
    refine go_st (fun _ kq => XT.lloadN X1037.here hx rfl (hb hby at_179) rfl kq) ?_
    show Gg T1037 m 180 [(.long x2), (.long (x0 &&& (7 : Int32)).toInt64), (.int (1 : Int32))]
    refine go_st (fun _ kq => XT.lcmp X1037.here hx rfl (hb hby at_180) rfl kq) ?_
    show Gg T1037 m 181 [(.int (XT.cmpL (x0 &&& (7 : Int32)).toInt64 x2)), (.int (1 : Int32))]
    refine go_st (fun _ kq => XS.ifNo X1037.here hx rfl (hb hby at_181) rfl (XT.ll_lt_f hc1033) kq) ?_
    show Gg T1037 m 184 [(.int (1 : Int32))]
    refine go_st (fun _ kq => XT.iconstV X1037.here hx rfl (1 : Int32) (hb hby at_184) (by decide) kq) ?_
    show Gg T1037 m 185 [(.int (1 : Int32)), (.int (1 : Int32))]
    refine go_st (fun _ kq => XS.goto X1037.here hx rfl (pc0 := 185) (pc' := 189) rfl (hb hby at_185) (by decide) (by decide) kq) ?_
    show Gg T1037 m 189 [(.int (1 : Int32)), (.int (1 : Int32))]
    refine go_st (fun _ kq => XS.icmpNo X1037.here hx rfl (hb hby at_189) rfl (XT.ii_ne_f (by decide)) kq) ?_
    show Gg T1037 m 192 []
    refine go_st (fun _ kq => XT.iconstV X1037.here hx rfl (1 : Int32) (hb hby at_192) (by decide) kq) ?_
    show Gg T1037 m 193 [(.int (1 : Int32))]
    refine go_st (fun _ kq => XS.goto X1037.here hx rfl (pc0 := 193) (pc' := 197) rfl (hb hby at_193) (by decide) (by decide) kq) ?_
    show Gg T1037 m 197 [(.int (1 : Int32))]
    refine go_st (fun _ kq => XS.istore X1037.here hx rfl (hb hby at_197) rfl (l' := #[.val (.int x0), .val (.long x1), .second, .val (.long x2), .second, .val (.int (x0 &&& (7 : Int32))), .val (.ref a909), .val (.int (1 : Int32)), .val (.long (x0 &&& (7 : Int32)).toInt64), .second]) rfl kq) ?_
    show Gg T1037 m 199 []
    refine go_st (fun _ kq => XS.iload X1037.here hx rfl (hb hby at_199) rfl kq) ?_
    show Gg T1037 m 201 [(.int (1 : Int32))]
    exact go_retB (w := (1 : Int32)) X1037 hx hlk hret (hb hby at_201) (by decide) (by decide) (by decide) ⟨rfl, N1037⟩
  ·show Gg T1027 m 136 [(.ref a909)]
   refine go_callV X1027 hx hZ hml hown (wd hw 28 rfl) (wd hw 29 rfl) (notFace_of_selects (args := #[]) (mvT hZ (wd hw 31 rfl))) (wd hw 31 rfl) (wd hw 30 rfl) (wd hw 32 rfl) (wd hw 2 rfl) e1027 c1029 (argsL := []) (rest := []) (W := 0) (met_alr0 l Z a0 hw a909 (x0 &&& (7 : Int32)).toInt64 x1 T968.heap n0 z1028 f968_1 f968_0 hc1030) (hb hby at_136) rfl rfl rfl (lenOf pd8 rfl) (by show 2 * 0 + _ ≤ _; exact Nat.le_of_eq rfl) (by decide) (by decide) (by decide) (by decide) (by decide) ?_
   intro T1040 v1040 L1040 X1040 q1040
   obtain ⟨rfl, M1040, e1040⟩ := q1040
   have N1040 := Fr.app N1027 M1040
   show Gg T1040 m 139 [(.int (1 : Int32))]
   refine go_st (fun _ kq => XT.lload X1040.here hx rfl (hb hby at_139) rfl kq) ?_
   show Gg T1040 m 141 [(.long (x0 &&& (7 : Int32)).toInt64), (.int (1 : Int32))]
   refine go_st (fun _ kq => XT.lloadN X1040.here hx rfl (hb hby at_141) rfl kq) ?_
   show Gg T1040 m 142 [(.long x1), (.long (x0 &&& (7 : Int32)).toInt64), (.int (1 : Int32))]
   refine go_st (fun _ kq => XT.lcmp X1040.here hx rfl (hb hby at_142) rfl kq) ?_
   show Gg T1040 m 143 [(.int (XT.cmpL (x0 &&& (7 : Int32)).toInt64 x1)), (.int (1 : Int32))]
   refine go_st (fun _ kq => XS.ifNo X1040.here hx rfl (hb hby at_143) rfl (XT.ll_lt_f hc1030) kq) ?_
   show Gg T1040 m 146 [(.int (1 : Int32))]
   refine go_st (fun _ kq => XT.iconstV X1040.here hx rfl (1 : Int32) (hb hby at_146) (by decide) kq) ?_
   show Gg T1040 m 147 [(.int (1 : Int32)), (.int (1 : Int32))]
   refine go_st (fun _ kq => XS.goto X1040.here hx rfl (pc0 := 147) (pc' := 151) rfl (hb hby at_147) (by decide) (by decide) kq) ?_
   show Gg T1040 m 151 [(.int (1 : Int32)), (.int (1 : Int32))]
   refine go_st (fun _ kq => XS.icmpNo X1040.here hx rfl (hb hby at_151) rfl (XT.ii_ne_f (by decide)) kq) ?_
   show Gg T1040 m 154 []
   refine go_st (fun _ kq => XT.iconstV X1040.here hx rfl (1 : Int32) (hb hby at_154) (by decide) kq) ?_
   show Gg T1040 m 155 [(.int (1 : Int32))]
   refine go_st (fun _ kq => XS.goto X1040.here hx rfl (pc0 := 155) (pc' := 159) rfl (hb hby at_155) (by decide) (by decide) kq) ?_
   show Gg T1040 m 159 [(.int (1 : Int32))]
   refine go_st (fun _ kq => XS.istore X1040.here hx rfl (hb hby at_159) rfl (l' := #[.val (.int x0), .val (.long x1), .second, .val (.long x2), .second, .val (.int (x0 &&& (7 : Int32))), .val (.ref a909), .val (.int (1 : Int32)), .val (.long (x0 &&& (7 : Int32)).toInt64), .second]) rfl kq) ?_
   show Gg T1040 m 161 []
   refine go_st (fun _ kq => XS.aload X1040.here hx rfl (hb hby at_161) rfl rfl kq) ?_
   show Gg T1040 m 163 [(.ref a909)]
   refine go_st (fun _ kq => XT.lloadN X1040.here hx rfl (hb hby at_163) rfl kq) ?_
   show Gg T1040 m 164 [(.long x2), (.ref a909)]
   refine go_callV X1040 hx hZ hml hown (wd hw 35 rfl) (wd hw 36 rfl) (notFace_of_selects (args := #[]) (mvT hZ (wd hw 38 rfl))) (wd hw 38 rfl) (wd hw 37 rfl) (wd hw 39 rfl) (wd hw 2 rfl) e1040 c1029 (argsL := [(.long x2)]) (rest := []) (W := 0) (met_sal l Z a0 hw a909 x2 x1 (x0 &&& (7 : Int32)).toInt64 (1 : Int32) (1 : Int32) (1 : Int32) ra_920 pe_920 wa_920 T968.heap n0 z1028 c1029 nw_a909 f968_0 f968_1 f968_2 f968_3 f968_4 f968_5 f968_6 f968_7) (hb hby at_164) rfl rfl rfl (lenOf pd9 rfl) (by show 2 * 0 + _ ≤ _; exact Nat.le_of_eq rfl) (by decide) (by decide) (by decide) (by decide) (by decide) ?_
   intro T1041 v1041 L1041 X1041 q1041
   obtain ⟨rfl, M1041, K1041, f1041_0, f1041_1, f1041_2, f1041_3, f1041_4, f1041_5, f1041_6, f1041_7⟩ := q1041
   have N1041 := Fr.app N1040 M1041
   show Gg T1041 m 167 []
   refine go_st (fun _ kq => XS.iload X1041.here hx rfl (hb hby at_167) rfl kq) ?_
   show Gg T1041 m 169 [(.int (1 : Int32))]
   refine go_st (fun _ kq => XS.ifNo X1041.here hx rfl (hb hby at_169) rfl (XT.i0_eq_f (by decide)) kq) ?_
   show Gg T1041 m 172 []
   refine go_st (fun _ kq => XS.aload X1041.here hx rfl (hb hby at_172) rfl rfl kq) ?_
   show Gg T1041 m 174 [(.ref a909)]
   by_cases hc1042 : (x0 &&& (7 : Int32)).toInt64 < x2
   ·show Gg T1041 m 174 [(.ref a909)]
    have z1044 : n0 ≤ T1041.heap.size := Nat.le_trans z1028 K1041.1
    have c1045 := Exa.keep c1029 K1041
    refine go_callV X1041 hx hZ hml hown (wd hw 28 rfl) (wd hw 29 rfl) (notFace_of_selects (args := #[]) (mvT hZ (wd hw 31 rfl))) (wd hw 31 rfl) (wd hw 30 rfl) (wd hw 32 rfl) (wd hw 2 rfl) rfl c1045 (argsL := []) (rest := []) (W := 0) (met_alr1 l Z a0 hw a909 (x0 &&& (7 : Int32)).toInt64 x2 T1041.heap n0 z1044 f1041_1 f1041_0 hc1042) (hb hby at_174) rfl rfl rfl (lenOf pd8 rfl) (by show 2 * 0 + _ ≤ _; exact Nat.le_of_eq rfl) (by decide) (by decide) (by decide) (by decide) (by decide) ?_
    intro T1043 v1043 L1043 X1043 q1043
    obtain ⟨rfl, M1043, e1043⟩ := q1043
    have N1043 := Fr.app N1041 M1043
    show Gg T1043 m 177 [(.int (0 : Int32))]
    refine go_st (fun _ kq => XT.lload X1043.here hx rfl (hb hby at_177) rfl kq) ?_
    show Gg T1043 m 179 [(.long (x0 &&& (7 : Int32)).toInt64), (.int (0 : Int32))]
    refine go_st (fun _ kq => XT.lloadN X1043.here hx rfl (hb hby at_179) rfl kq) ?_
    show Gg T1043 m 180 [(.long x2), (.long (x0 &&& (7 : Int32)).toInt64), (.int (0 : Int32))]
    refine go_st (fun _ kq => XT.lcmp X1043.here hx rfl (hb hby at_180) rfl kq) ?_
    show Gg T1043 m 181 [(.int (XT.cmpL (x0 &&& (7 : Int32)).toInt64 x2)), (.int (0 : Int32))]
    refine go_st (fun _ kq => XS.ifYes X1043.here hx rfl (pc0 := 181) (pc' := 188) rfl (hb hby at_181) rfl (XT.ll_lt_t hc1042) (by decide) (by decide) kq) ?_
    show Gg T1043 m 188 [(.int (0 : Int32))]
    refine go_st (fun _ kq => XT.iconstV X1043.here hx rfl (0 : Int32) (hb hby at_188) (by decide) kq) ?_
    show Gg T1043 m 189 [(.int (0 : Int32)), (.int (0 : Int32))]
    refine go_st (fun _ kq => XS.icmpNo X1043.here hx rfl (hb hby at_189) rfl (XT.ii_ne_f (by decide)) kq) ?_
    show Gg T1043 m 192 []
    refine go_st (fun _ kq => XT.iconstV X1043.here hx rfl (1 : Int32) (hb hby at_192) (by decide) kq) ?_
    show Gg T1043 m 193 [(.int (1 : Int32))]
    refine go_st (fun _ kq => XS.goto X1043.here hx rfl (pc0 := 193) (pc' := 197) rfl (hb hby at_193) (by decide) (by decide) kq) ?_
    show Gg T1043 m 197 [(.int (1 : Int32))]
    refine go_st (fun _ kq => XS.istore X1043.here hx rfl (hb hby at_197) rfl (l' := #[.val (.int x0), .val (.long x1), .second, .val (.long x2), .second, .val (.int (x0 &&& (7 : Int32))), .val (.ref a909), .val (.int (1 : Int32)), .val (.long (x0 &&& (7 : Int32)).toInt64), .second]) rfl kq) ?_
    show Gg T1043 m 199 []
    refine go_st (fun _ kq => XS.iload X1043.here hx rfl (hb hby at_199) rfl kq) ?_
    show Gg T1043 m 201 [(.int (1 : Int32))]
    exact go_retB (w := (1 : Int32)) X1043 hx hlk hret (hb hby at_201) (by decide) (by decide) (by decide) ⟨rfl, N1043⟩
   ·show Gg T1041 m 174 [(.ref a909)]
    have z1047 : n0 ≤ T1041.heap.size := Nat.le_trans z1028 K1041.1
    have c1048 := Exa.keep c1029 K1041
    refine go_callV X1041 hx hZ hml hown (wd hw 28 rfl) (wd hw 29 rfl) (notFace_of_selects (args := #[]) (mvT hZ (wd hw 31 rfl))) (wd hw 31 rfl) (wd hw 30 rfl) (wd hw 32 rfl) (wd hw 2 rfl) rfl c1048 (argsL := []) (rest := []) (W := 0) (met_alr0 l Z a0 hw a909 (x0 &&& (7 : Int32)).toInt64 x2 T1041.heap n0 z1047 f1041_1 f1041_0 hc1042) (hb hby at_174) rfl rfl rfl (lenOf pd8 rfl) (by show 2 * 0 + _ ≤ _; exact Nat.le_of_eq rfl) (by decide) (by decide) (by decide) (by decide) (by decide) ?_
    intro T1046 v1046 L1046 X1046 q1046
    obtain ⟨rfl, M1046, e1046⟩ := q1046
    have N1046 := Fr.app N1041 M1046
    show Gg T1046 m 177 [(.int (1 : Int32))]
    refine go_st (fun _ kq => XT.lload X1046.here hx rfl (hb hby at_177) rfl kq) ?_
    show Gg T1046 m 179 [(.long (x0 &&& (7 : Int32)).toInt64), (.int (1 : Int32))]
    refine go_st (fun _ kq => XT.lloadN X1046.here hx rfl (hb hby at_179) rfl kq) ?_
    show Gg T1046 m 180 [(.long x2), (.long (x0 &&& (7 : Int32)).toInt64), (.int (1 : Int32))]
    refine go_st (fun _ kq => XT.lcmp X1046.here hx rfl (hb hby at_180) rfl kq) ?_
    show Gg T1046 m 181 [(.int (XT.cmpL (x0 &&& (7 : Int32)).toInt64 x2)), (.int (1 : Int32))]
    refine go_st (fun _ kq => XS.ifNo X1046.here hx rfl (hb hby at_181) rfl (XT.ll_lt_f hc1042) kq) ?_
    show Gg T1046 m 184 [(.int (1 : Int32))]
    refine go_st (fun _ kq => XT.iconstV X1046.here hx rfl (1 : Int32) (hb hby at_184) (by decide) kq) ?_
    show Gg T1046 m 185 [(.int (1 : Int32)), (.int (1 : Int32))]
    refine go_st (fun _ kq => XS.goto X1046.here hx rfl (pc0 := 185) (pc' := 189) rfl (hb hby at_185) (by decide) (by decide) kq) ?_
    show Gg T1046 m 189 [(.int (1 : Int32)), (.int (1 : Int32))]
    refine go_st (fun _ kq => XS.icmpNo X1046.here hx rfl (hb hby at_189) rfl (XT.ii_ne_f (by decide)) kq) ?_
    show Gg T1046 m 192 []
    refine go_st (fun _ kq => XT.iconstV X1046.here hx rfl (1 : Int32) (hb hby at_192) (by decide) kq) ?_
    show Gg T1046 m 193 [(.int (1 : Int32))]
    refine go_st (fun _ kq => XS.goto X1046.here hx rfl (pc0 := 193) (pc' := 197) rfl (hb hby at_193) (by decide) (by decide) kq) ?_
    show Gg T1046 m 197 [(.int (1 : Int32))]
    refine go_st (fun _ kq => XS.istore X1046.here hx rfl (hb hby at_197) rfl (l' := #[.val (.int x0), .val (.long x1), .second, .val (.long x2), .second, .val (.int (x0 &&& (7 : Int32))), .val (.ref a909), .val (.int (1 : Int32)), .val (.long (x0 &&& (7 : Int32)).toInt64), .second]) rfl kq) ?_
    show Gg T1046 m 199 []
    refine go_st (fun _ kq => XS.iload X1046.here hx rfl (hb hby at_199) rfl kq) ?_
    show Gg T1046 m 201 [(.int (1 : Int32))]
    exact go_retB (w := (1 : Int32)) X1046 hx hlk hret (hb hby at_201) (by decide) (by decide) (by decide) ⟨rfl, N1046⟩
 ·show Gg T929 m 44 [(.ref a909)]
  have z1050 : n0 ≤ T929.heap.size := Nat.le_trans z927 K929.1
  have c1051 := Exa.keep c928 K929
  refine go_callV X929 hx hZ hml hown (wd hw 28 rfl) (wd hw 29 rfl) (notFace_of_selects (args := #[]) (mvT hZ (wd hw 31 rfl))) (wd hw 31 rfl) (wd hw 30 rfl) (wd hw 32 rfl) (wd hw 2 rfl) rfl c1051 (argsL := []) (rest := []) (W := 0) (met_alr0 l Z a0 hw a909 (0 : Int64) x1 T929.heap n0 z1050 f929_1 f929_0 hc930) (hb hby at_44) rfl rfl rfl (lenOf pd8 rfl) (by show 2 * 0 + _ ≤ _; exact Nat.le_of_eq rfl) (by decide) (by decide) (by decide) (by decide) (by decide) ?_
  intro T1049 v1049 L1049 X1049 q1049
  obtain ⟨rfl, M1049, e1049⟩ := q1049
  have N1049 := Fr.app N929 M1049
  show Gg T1049 m 47 [(.int (1 : Int32))]
  refine go_st (fun _ kq => XT.lconstV X1049.here hx rfl (0 : Int64) (hb hby at_47) (by decide) kq) ?_
  show Gg T1049 m 48 [(.long (0 : Int64)), (.int (1 : Int32))]
  refine go_st (fun _ kq => XT.lloadN X1049.here hx rfl (hb hby at_48) rfl kq) ?_
  show Gg T1049 m 49 [(.long x1), (.long (0 : Int64)), (.int (1 : Int32))]
  refine go_st (fun _ kq => XT.lcmp X1049.here hx rfl (hb hby at_49) rfl kq) ?_
  show Gg T1049 m 50 [(.int (XT.cmpL (0 : Int64) x1)), (.int (1 : Int32))]
  refine go_st (fun _ kq => XS.ifNo X1049.here hx rfl (hb hby at_50) rfl (XT.ll_lt_f hc930) kq) ?_
  show Gg T1049 m 53 [(.int (1 : Int32))]
  refine go_st (fun _ kq => XT.iconstV X1049.here hx rfl (1 : Int32) (hb hby at_53) (by decide) kq) ?_
  show Gg T1049 m 54 [(.int (1 : Int32)), (.int (1 : Int32))]
  refine go_st (fun _ kq => XS.goto X1049.here hx rfl (pc0 := 54) (pc' := 58) rfl (hb hby at_54) (by decide) (by decide) kq) ?_
  show Gg T1049 m 58 [(.int (1 : Int32)), (.int (1 : Int32))]
  refine go_st (fun _ kq => XS.icmpNo X1049.here hx rfl (hb hby at_58) rfl (XT.ii_ne_f (by decide)) kq) ?_
  show Gg T1049 m 61 []
  refine go_st (fun _ kq => XT.iconstV X1049.here hx rfl (1 : Int32) (hb hby at_61) (by decide) kq) ?_
  show Gg T1049 m 62 [(.int (1 : Int32))]
  refine go_st (fun _ kq => XS.goto X1049.here hx rfl (pc0 := 62) (pc' := 66) rfl (hb hby at_62) (by decide) (by decide) kq) ?_
  show Gg T1049 m 66 [(.int (1 : Int32))]
  refine go_st (fun _ kq => XS.istore X1049.here hx rfl (hb hby at_66) rfl (l' := #[.val (.int x0), .val (.long x1), .second, .val (.long x2), .second, .val (.int (x0 &&& (7 : Int32))), .val (.ref a909), .val (.int (1 : Int32)), .unset, .unset]) rfl kq) ?_
  show Gg T1049 m 68 []
  refine go_st (fun _ kq => XS.aload X1049.here hx rfl (hb hby at_68) rfl rfl kq) ?_
  show Gg T1049 m 70 [(.ref a909)]
  refine go_newO X1049 hx hZ hown (wd hw 40 rfl) (wd hw 41 rfl) (wd hw 42 rfl) e1049 (hb hby at_70) rfl (by decide) (by decide) ?_
  intro T1052 h1052 a1052 g1052 X1052 e1052 E1052 A1052 D1052
  have c1055 : a909 < T920.heap.size := Nat.lt_of_lt_of_le lt_a909 K920.1
  have c1056 : a909 < T929.heap.size := Nat.lt_of_lt_of_le c1055 K929.1
  have ne1057 : a909 ≠ a1052 := fun q => Nat.lt_irrefl _ (Nat.lt_of_lt_of_le c1056 (Nat.le_of_eq (g1052.symm.trans q.symm)))
  have c1058 : ra_920 < T929.heap.size := Nat.lt_of_lt_of_le lt_ra_920 K929.1
  have ne1059 : ra_920 ≠ a1052 := fun q => Nat.lt_irrefl _ (Nat.lt_of_lt_of_le c1058 (Nat.le_of_eq (g1052.symm.trans q.symm)))
  have c1060 : pe_920 < T929.heap.size := Nat.lt_of_lt_of_le lt_pe_920 K929.1
  have ne1061 : pe_920 ≠ a1052 := fun q => Nat.lt_irrefl _ (Nat.lt_of_lt_of_le c1060 (Nat.le_of_eq (g1052.symm.trans q.symm)))
  have c1062 : wa_920 < T929.heap.size := Nat.lt_of_lt_of_le lt_wa_920 K929.1
  have ne1063 : wa_920 ≠ a1052 := fun q => Nat.lt_irrefl _ (Nat.lt_of_lt_of_le c1062 (Nat.le_of_eq (g1052.symm.trans q.symm)))
  have nw_a1052 : n0 ≤ a1052 := Nat.le_trans z1050 (Nat.le_of_eq g1052.symm)
  have lt_a1052 : a1052 < h1052.size := A1052.lt
  have F1064 : Fld Z h1052 a1052 "com/example/copse/copse/graph/TargetSearchArcLimitReachedPinLaw" "degree" "I" (.int (0 : Int32)) := D1052 (Or.inr (wd hw 48 rfl)) (ty := .int) (by decide)
  show Gg T1052 m 73 [(.ref a1052), (.ref a909)]
  refine go_st (fun _ kq => XS.dup X1052.here hx rfl (hb hby at_73) rfl rfl kq) ?_
  show Gg T1052 m 74 [(.ref a1052), (.ref a1052), (.ref a909)]
  refine go_st (fun _ kq => XS.iload X1052.here hx rfl (hb hby at_74) rfl kq) ?_
  show Gg T1052 m 76 [(.int (x0 &&& (7 : Int32))), (.ref a1052), (.ref a1052), (.ref a909)]
  have z1066 : n0 ≤ h1052.size := Nat.le_trans z1050 E1052.1
  refine go_callI X1052 hx hZ hml hown rfl (wd hw 43 rfl) (wd hw 44 rfl) (wd hw 45 rfl) (wd hw 42 rfl) e1052 (argsL := [(.int (x0 &&& (7 : Int32)))]) (rest := [(.ref a1052), (.ref a909)]) (W := 2) (met_lci l Z a0 hw a1052 (x0 &&& (7 : Int32)) h1052 n0 z1066 A1052 F1064 nw_a1052) (hb hby at_76) rfl rfl rfl (lenOf pd7 rfl) (by show 2 * 0 + _ ≤ _; exact Nat.le_of_eq rfl) (by decide) (by decide) (by decide) (by decide) (by decide) ?_
  intro T1065 v1065 L1065 X1065 q1065
  obtain ⟨rfl, M1065, K1065, f1065_0⟩ := q1065
  have N1065 := Fr.app N1049 M1065
  show Gg T1065 m 79 [(.ref a1052), (.ref a909)]
  refine go_st (fun _ kq => XT.iconstV X1065.here hx rfl (0 : Int32) (hb hby at_79) (by decide) kq) ?_
  show Gg T1065 m 80 [(.int (0 : Int32)), (.ref a1052), (.ref a909)]
  refine go_st (fun _ kq => XT.iconstV X1065.here hx rfl (1 : Int32) (hb hby at_80) (by decide) kq) ?_
  show Gg T1065 m 81 [(.int (1 : Int32)), (.int (0 : Int32)), (.ref a1052), (.ref a909)]
  refine go_newP X1065 hx hZ (wd hw 17 rfl) rfl (hb hby at_81) rfl rfl 1 (by decide) 1 (Nat.le_refl _) (by decide) (by decide) (by decide) ?_
  intro T1067 h1067 a1067 g1067 X1067 e1067 E1067 G1067
  have c1070 : a909 < h1052.size := Nat.lt_of_lt_of_le c1056 E1052.1
  have c1071 : a909 < T1065.heap.size := Nat.lt_of_lt_of_le c1070 K1065.1
  have ne1072 : a909 ≠ a1067 := fun q => Nat.lt_irrefl _ (Nat.lt_of_lt_of_le c1071 (Nat.le_of_eq (g1067.symm.trans q.symm)))
  have c1073 : ra_920 < h1052.size := Nat.lt_of_lt_of_le c1058 E1052.1
  have c1074 : ra_920 < T1065.heap.size := Nat.lt_of_lt_of_le c1073 K1065.1
  have ne1075 : ra_920 ≠ a1067 := fun q => Nat.lt_irrefl _ (Nat.lt_of_lt_of_le c1074 (Nat.le_of_eq (g1067.symm.trans q.symm)))
  have c1076 : pe_920 < h1052.size := Nat.lt_of_lt_of_le c1060 E1052.1
  have c1077 : pe_920 < T1065.heap.size := Nat.lt_of_lt_of_le c1076 K1065.1
  have ne1078 : pe_920 ≠ a1067 := fun q => Nat.lt_irrefl _ (Nat.lt_of_lt_of_le c1077 (Nat.le_of_eq (g1067.symm.trans q.symm)))
  have c1079 : wa_920 < h1052.size := Nat.lt_of_lt_of_le c1062 E1052.1
  have c1080 : wa_920 < T1065.heap.size := Nat.lt_of_lt_of_le c1079 K1065.1
  have ne1081 : wa_920 ≠ a1067 := fun q => Nat.lt_irrefl _ (Nat.lt_of_lt_of_le c1080 (Nat.le_of_eq (g1067.symm.trans q.symm)))
  have c1082 : a1052 < T1065.heap.size := Nat.lt_of_lt_of_le lt_a1052 K1065.1
  have ne1083 : a1052 ≠ a1067 := fun q => Nat.lt_irrefl _ (Nat.lt_of_lt_of_le c1082 (Nat.le_of_eq (g1067.symm.trans q.symm)))
  have z1084 : n0 ≤ T1065.heap.size := Nat.le_trans z1066 K1065.1
  have nw_a1067 : n0 ≤ a1067 := Nat.le_trans z1084 (Nat.le_of_eq g1067.symm)
  have A1067 : GA Z h1067 a1067 .int 1 (fun i => .int (own_c2 (0 : Int32) (0 : Int32) i)) := (GA.congr G1067 (fun i _ => own_z2 i))
  show Gg T1067 m 83 [(.ref a1067), (.int (0 : Int32)), (.ref a1052), (.ref a909)]
  refine go_st (fun _ kq => XS.dup X1067.here hx rfl (hb hby at_83) rfl rfl kq) ?_
  show Gg T1067 m 84 [(.ref a1067), (.ref a1067), (.int (0 : Int32)), (.ref a1052), (.ref a909)]
  refine go_st (fun _ kq => XT.iconstV X1067.here hx rfl (0 : Int32) (hb hby at_84) (by decide) kq) ?_
  show Gg T1067 m 85 [(.int (0 : Int32)), (.ref a1067), (.ref a1067), (.int (0 : Int32)), (.ref a1052), (.ref a909)]
  refine go_st (fun _ kq => XT.iconstV X1067.here hx rfl (1 : Int32) (hb hby at_85) (by decide) kq) ?_
  show Gg T1067 m 86 [(.int (1 : Int32)), (.int (0 : Int32)), (.ref a1067), (.ref a1067), (.int (0 : Int32)), (.ref a1052), (.ref a909)]
  refine go_iast X1067 hx hZ e1067 A1067 (hb hby at_86) rfl rfl (by decide) ?_
  intro T1085 h1085 X1085 e1085 W1085 G1085
  have N1085 := Fr.snoc X1085 N1065 nw_a1067
  have A1085 : GA Z h1085 a1067 .int 1 (fun i => .int (own_c2 (1 : Int32) (0 : Int32) i)) := (own_sti (by decide) (own_c20 (1 : Int32) (0 : Int32) (0 : Int32)) G1085)
  show Gg T1085 m 87 [(.ref a1067), (.int (0 : Int32)), (.ref a1052), (.ref a909)]
  have c1087 := Exa.ext E1052 c1051
  have c1088 := Exa.keep c1087 K1065
  have c1089 := Exa.ext E1067 c1088
  have c1090 := Exa.wr W1085 c1089
  have c1091 := Exa.keep A1052 K1065
  have c1092 := Exa.ext E1067 c1091
  have c1093 := Exa.wr W1085 c1092
  have c1094 := Fld.ext E1067 f1065_0
  have c1095 := Fld.other W1085 c1094 (Or.inl ne1083)
  have c1096 := Fld.ext E1052 f929_0
  have c1097 := Fld.keep c1096 K1065 (ninS ne1057 nin0)
  have c1098 := Fld.ext E1067 c1097
  have c1099 := Fld.other W1085 c1098 (Or.inl ne1072)
  have c1100 := Fld.ext E1052 f929_1
  have c1101 := Fld.keep c1100 K1065 (ninS ne1057 nin0)
  have c1102 := Fld.ext E1067 c1101
  have c1103 := Fld.other W1085 c1102 (Or.inl ne1072)
  have c1104 := Fld.ext E1052 f929_2
  have c1105 := Fld.keep c1104 K1065 (ninS ne1057 nin0)
  have c1106 := Fld.ext E1067 c1105
  have c1107 := Fld.other W1085 c1106 (Or.inl ne1072)
  have c1108 := Fld.ext E1052 f929_3
  have c1109 := Fld.keep c1108 K1065 (ninS ne1057 nin0)
  have c1110 := Fld.ext E1067 c1109
  have c1111 := Fld.other W1085 c1110 (Or.inl ne1072)
  have c1112 := Fld.ext E1052 f929_4
  have c1113 := Fld.keep c1112 K1065 (ninS ne1057 nin0)
  have c1114 := Fld.ext E1067 c1113
  have c1115 := Fld.other W1085 c1114 (Or.inl ne1072)
  have c1116 := Fld.ext E1052 f929_5
  have c1117 := Fld.keep c1116 K1065 (ninS ne1057 nin0)
  have c1118 := Fld.ext E1067 c1117
  have c1119 := Fld.other W1085 c1118 (Or.inl ne1072)
  have c1120 := Fld.ext E1052 f929_6
  have c1121 := Fld.keep c1120 K1065 (ninS ne1057 nin0)
  have c1122 := Fld.ext E1067 c1121
  have c1123 := Fld.other W1085 c1122 (Or.inl ne1072)
  have c1124 := Fld.ext E1052 f929_7
  have c1125 := Fld.keep c1124 K1065 (ninS ne1057 nin0)
  have c1126 := Fld.ext E1067 c1125
  have c1127 := Fld.other W1085 c1126 (Or.inl ne1072)
  have c1128 := GA.keep f920_8 K929 (ninS (Ne.symm p920_3) nin0)
  have c1129 := c1128.ext E1052
  have c1130 := GA.keep c1129 K1065 (ninS ne1059 nin0)
  have c1131 := c1130.ext E1067
  have c1132 := c1131.other W1085 ne1075
  have c1133 := GA.keep f920_9 K929 (ninS (Ne.symm p920_4) nin0)
  have c1134 := c1133.ext E1052
  have c1135 := GA.keep c1134 K1065 (ninS ne1061 nin0)
  have c1136 := c1135.ext E1067
  have c1137 := c1136.other W1085 ne1078
  have c1138 := GA.keep f920_10 K929 (ninS (Ne.symm p920_5) nin0)
  have c1139 := c1138.ext E1052
  have c1140 := GA.keep c1139 K1065 (ninS ne1063 nin0)
  have c1141 := c1140.ext E1067
  have c1142 := c1141.other W1085 ne1081
  have z1143 : n0 ≤ h1067.size := Nat.le_trans z1084 E1067.1
  have z1144 : n0 ≤ h1085.size := (Wr.size W1085).symm ▸ z1143
  refine go_callVH X1085 hx hZ hml hown (wd hw 49 rfl) (wd hw 50 rfl) (notFace_of_selects (args := #[]) (mvT hZ (wd hw 52 rfl))) (wd hw 52 rfl) (wd hw 51 rfl) (wd hw 53 rfl) (wd hw 2 rfl) e1085 c1090 (argsL := [(.ref a1052), (.int (0 : Int32)), (.ref a1067)]) (rest := []) (W := 0) hLam (met_reaf l Z a0 hw cK a909 a1052 a1067 x1 ra_920 pe_920 wa_920 (x0 &&& (7 : Int32)) h1085 n0 z1144 c1090 c1093 c1095 A1085 nw_a909 nw_ra_920 nw_pe_920 nw_wa_920 p920_3 p920_4 p920_5 ne1057 ne1072 p920_0 p920_1 ne1059 ne1075 p920_2 ne1061 ne1078 ne1063 ne1081 ne1083 c1099 c1103 c1107 c1111 c1115 c1119 c1123 c1127 c1132 c1137 c1142 hc930) (hb hby at_87) rfl rfl rfl (lenOf pd10 rfl) (by show 2 * 0 + _ ≤ _; exact Nat.le_of_eq rfl) (by decide) (by decide) (by decide) (by decide) (by decide) ?_
  intro T1086 v1086 L1086 X1086 q1086
  obtain ⟨rfl, M1086, K1086, f1086_0, f1086_1, f1086_2, f1086_3, f1086_4, f1086_5, f1086_6, f1086_7⟩ := q1086
  have N1086 := Fr.app N1085 M1086
  show Gg T1086 m 90 [(.int (0 : Int32))]
  refine go_st (fun _ kq => XT.pop X1086.here hx rfl (hb hby at_90) rfl rfl kq) ?_
  show Gg T1086 m 91 []
  refine go_st (fun _ kq => XT.lloadN X1086.here hx rfl (hb hby at_91) rfl kq) ?_
  show Gg T1086 m 92 [(.long x1)]
  refine go_st (fun _ kq => XT.lconstV X1086.here hx rfl (0 : Int64) (hb hby at_92) (by decide) kq) ?_
  show Gg T1086 m 93 [(.long (0 : Int64)), (.long x1)]
  refine go_st (fun _ kq => XT.lcmp X1086.here hx rfl (hb hby at_93) rfl kq) ?_
  show Gg T1086 m 94 [(.int (XT.cmpL x1 (0 : Int64)))]
  refine go_st (fun _ kq => XS.ifYes X1086.here hx rfl (pc0 := 94) (pc' := 103) rfl (hb hby at_94) rfl (XT.ll_le_t hc930) (by decide) (by decide) kq) ?_
  show Gg T1086 m 103 []
  refine go_st (fun _ kq => XT.lconstV X1086.here hx rfl (0 : Int64) (hb hby at_103) (by decide) kq) ?_
  show Gg T1086 m 104 [(.long (0 : Int64))]
  refine go_st (fun _ kq => XT.lstore X1086.here hx rfl (hb hby at_104) rfl (l' := #[.val (.int x0), .val (.long x1), .second, .val (.long x2), .second, .val (.int (x0 &&& (7 : Int32))), .val (.ref a909), .val (.int (1 : Int32)), .val (.long (0 : Int64)), .second]) rfl kq) ?_
  show Gg T1086 m 106 []
  refine go_st (fun _ kq => XS.iload X1086.here hx rfl (hb hby at_106) rfl kq) ?_
  show Gg T1086 m 108 [(.int (1 : Int32))]
  refine go_st (fun _ kq => XS.ifNo X1086.here hx rfl (hb hby at_108) rfl (XT.i0_eq_f (by decide)) kq) ?_
  show Gg T1086 m 111 []
  refine go_st (fun _ kq => XS.aload X1086.here hx rfl (hb hby at_111) rfl rfl kq) ?_
  show Gg T1086 m 113 [(.ref a909)]
  have z1146 : n0 ≤ T1086.heap.size := Nat.le_trans z1144 K1086.1
  have c1147 := Exa.keep c1090 K1086
  refine go_callV X1086 hx hZ hml hown (wd hw 104 rfl) (wd hw 105 rfl) (notFace_of_selects (args := #[]) (mvT hZ (wd hw 107 rfl))) (wd hw 107 rfl) (wd hw 106 rfl) (wd hw 108 rfl) (wd hw 2 rfl) rfl c1147 (argsL := []) (rest := []) (W := 0) (met_15 l Z a0 hw a909 (0 : Int64) T1086.heap n0 z1146 f1086_1) (hb hby at_113) rfl rfl rfl (lenOf pd11 rfl) (by show 2 * 0 + _ ≤ _; exact Nat.le_of_eq rfl) (by decide) (by decide) (by decide) (by decide) (by decide) ?_
  intro T1145 v1145 L1145 X1145 q1145
  obtain ⟨rfl, M1145, e1145⟩ := q1145
  have N1145 := Fr.app N1086 M1145
  show Gg T1145 m 116 [(.long (0 : Int64))]
  refine go_st (fun _ kq => XT.lload X1145.here hx rfl (hb hby at_116) rfl kq) ?_
  show Gg T1145 m 118 [(.long (0 : Int64)), (.long (0 : Int64))]
  refine go_st (fun _ kq => XT.lcmp X1145.here hx rfl (hb hby at_118) rfl kq) ?_
  show Gg T1145 m 119 [(.int (XT.cmpL (0 : Int64) (0 : Int64)))]
  refine go_st (fun _ kq => XS.ifNo X1145.here hx rfl (hb hby at_119) rfl (XT.ll_ne_f (by decide)) kq) ?_
  show Gg T1145 m 122 []
  refine go_st (fun _ kq => XT.iconstV X1145.here hx rfl (1 : Int32) (hb hby at_122) (by decide) kq) ?_
  show Gg T1145 m 123 [(.int (1 : Int32))]
  refine go_st (fun _ kq => XS.goto X1145.here hx rfl (pc0 := 123) (pc' := 127) rfl (hb hby at_123) (by decide) (by decide) kq) ?_
  show Gg T1145 m 127 [(.int (1 : Int32))]
  refine go_st (fun _ kq => XS.istore X1145.here hx rfl (hb hby at_127) rfl (l' := #[.val (.int x0), .val (.long x1), .second, .val (.long x2), .second, .val (.int (x0 &&& (7 : Int32))), .val (.ref a909), .val (.int (1 : Int32)), .val (.long (0 : Int64)), .second]) rfl kq) ?_
  show Gg T1145 m 129 []
  refine go_st (fun _ kq => XS.iload X1145.here hx rfl (hb hby at_129) rfl kq) ?_
  show Gg T1145 m 131 [(.int (1 : Int32))]
  refine go_st (fun _ kq => XS.ifNo X1145.here hx rfl (hb hby at_131) rfl (XT.i0_eq_f (by decide)) kq) ?_
  show Gg T1145 m 134 []
  refine go_st (fun _ kq => XS.aload X1145.here hx rfl (hb hby at_134) rfl rfl kq) ?_
  show Gg T1145 m 136 [(.ref a909)]
  refine go_callV X1145 hx hZ hml hown (wd hw 28 rfl) (wd hw 29 rfl) (notFace_of_selects (args := #[]) (mvT hZ (wd hw 31 rfl))) (wd hw 31 rfl) (wd hw 30 rfl) (wd hw 32 rfl) (wd hw 2 rfl) e1145 c1147 (argsL := []) (rest := []) (W := 0) (met_alr0 l Z a0 hw a909 (0 : Int64) x1 T1086.heap n0 z1146 f1086_1 f1086_0 hc930) (hb hby at_136) rfl rfl rfl (lenOf pd8 rfl) (by show 2 * 0 + _ ≤ _; exact Nat.le_of_eq rfl) (by decide) (by decide) (by decide) (by decide) (by decide) ?_
  intro T1148 v1148 L1148 X1148 q1148
  obtain ⟨rfl, M1148, e1148⟩ := q1148
  have N1148 := Fr.app N1145 M1148
  show Gg T1148 m 139 [(.int (1 : Int32))]
  refine go_st (fun _ kq => XT.lload X1148.here hx rfl (hb hby at_139) rfl kq) ?_
  show Gg T1148 m 141 [(.long (0 : Int64)), (.int (1 : Int32))]
  refine go_st (fun _ kq => XT.lloadN X1148.here hx rfl (hb hby at_141) rfl kq) ?_
  show Gg T1148 m 142 [(.long x1), (.long (0 : Int64)), (.int (1 : Int32))]
  refine go_st (fun _ kq => XT.lcmp X1148.here hx rfl (hb hby at_142) rfl kq) ?_
  show Gg T1148 m 143 [(.int (XT.cmpL (0 : Int64) x1)), (.int (1 : Int32))]
  refine go_st (fun _ kq => XS.ifNo X1148.here hx rfl (hb hby at_143) rfl (XT.ll_lt_f hc930) kq) ?_
  show Gg T1148 m 146 [(.int (1 : Int32))]
  refine go_st (fun _ kq => XT.iconstV X1148.here hx rfl (1 : Int32) (hb hby at_146) (by decide) kq) ?_
  show Gg T1148 m 147 [(.int (1 : Int32)), (.int (1 : Int32))]
  refine go_st (fun _ kq => XS.goto X1148.here hx rfl (pc0 := 147) (pc' := 151) rfl (hb hby at_147) (by decide) (by decide) kq) ?_
  show Gg T1148 m 151 [(.int (1 : Int32)), (.int (1 : Int32))]
  refine go_st (fun _ kq => XS.icmpNo X1148.here hx rfl (hb hby at_151) rfl (XT.ii_ne_f (by decide)) kq) ?_
  show Gg T1148 m 154 []
  refine go_st (fun _ kq => XT.iconstV X1148.here hx rfl (1 : Int32) (hb hby at_154) (by decide) kq) ?_
  show Gg T1148 m 155 [(.int (1 : Int32))]
  refine go_st (fun _ kq => XS.goto X1148.here hx rfl (pc0 := 155) (pc' := 159) rfl (hb hby at_155) (by decide) (by decide) kq) ?_
  show Gg T1148 m 159 [(.int (1 : Int32))]
  refine go_st (fun _ kq => XS.istore X1148.here hx rfl (hb hby at_159) rfl (l' := #[.val (.int x0), .val (.long x1), .second, .val (.long x2), .second, .val (.int (x0 &&& (7 : Int32))), .val (.ref a909), .val (.int (1 : Int32)), .val (.long (0 : Int64)), .second]) rfl kq) ?_
  show Gg T1148 m 161 []
  refine go_st (fun _ kq => XS.aload X1148.here hx rfl (hb hby at_161) rfl rfl kq) ?_
  show Gg T1148 m 163 [(.ref a909)]
  refine go_st (fun _ kq => XT.lloadN X1148.here hx rfl (hb hby at_163) rfl kq) ?_
  show Gg T1148 m 164 [(.long x2), (.ref a909)]
  refine go_callV X1148 hx hZ hml hown (wd hw 35 rfl) (wd hw 36 rfl) (notFace_of_selects (args := #[]) (mvT hZ (wd hw 38 rfl))) (wd hw 38 rfl) (wd hw 37 rfl) (wd hw 39 rfl) (wd hw 2 rfl) e1148 c1147 (argsL := [(.long x2)]) (rest := []) (W := 0) (met_sal l Z a0 hw a909 x2 x1 (0 : Int64) (1 : Int32) (1 : Int32) (1 : Int32) ra_920 pe_920 wa_920 T1086.heap n0 z1146 c1147 nw_a909 f1086_0 f1086_1 f1086_2 f1086_3 f1086_4 f1086_5 f1086_6 f1086_7) (hb hby at_164) rfl rfl rfl (lenOf pd9 rfl) (by show 2 * 0 + _ ≤ _; exact Nat.le_of_eq rfl) (by decide) (by decide) (by decide) (by decide) (by decide) ?_
  intro T1149 v1149 L1149 X1149 q1149
  obtain ⟨rfl, M1149, K1149, f1149_0, f1149_1, f1149_2, f1149_3, f1149_4, f1149_5, f1149_6, f1149_7⟩ := q1149
  have N1149 := Fr.app N1148 M1149
  show Gg T1149 m 167 []
  refine go_st (fun _ kq => XS.iload X1149.here hx rfl (hb hby at_167) rfl kq) ?_
  show Gg T1149 m 169 [(.int (1 : Int32))]
  refine go_st (fun _ kq => XS.ifNo X1149.here hx rfl (hb hby at_169) rfl (XT.i0_eq_f (by decide)) kq) ?_
  show Gg T1149 m 172 []
  refine go_st (fun _ kq => XS.aload X1149.here hx rfl (hb hby at_172) rfl rfl kq) ?_
  show Gg T1149 m 174 [(.ref a909)]
  by_cases hc1150 : (0 : Int64) < x2
  ·show Gg T1149 m 174 [(.ref a909)]
   have z1152 : n0 ≤ T1149.heap.size := Nat.le_trans z1146 K1149.1
   have c1153 := Exa.keep c1147 K1149
   refine go_callV X1149 hx hZ hml hown (wd hw 28 rfl) (wd hw 29 rfl) (notFace_of_selects (args := #[]) (mvT hZ (wd hw 31 rfl))) (wd hw 31 rfl) (wd hw 30 rfl) (wd hw 32 rfl) (wd hw 2 rfl) rfl c1153 (argsL := []) (rest := []) (W := 0) (met_alr1 l Z a0 hw a909 (0 : Int64) x2 T1149.heap n0 z1152 f1149_1 f1149_0 hc1150) (hb hby at_174) rfl rfl rfl (lenOf pd8 rfl) (by show 2 * 0 + _ ≤ _; exact Nat.le_of_eq rfl) (by decide) (by decide) (by decide) (by decide) (by decide) ?_
   intro T1151 v1151 L1151 X1151 q1151
   obtain ⟨rfl, M1151, e1151⟩ := q1151
   have N1151 := Fr.app N1149 M1151
   show Gg T1151 m 177 [(.int (0 : Int32))]
   refine go_st (fun _ kq => XT.lload X1151.here hx rfl (hb hby at_177) rfl kq) ?_
   show Gg T1151 m 179 [(.long (0 : Int64)), (.int (0 : Int32))]
   refine go_st (fun _ kq => XT.lloadN X1151.here hx rfl (hb hby at_179) rfl kq) ?_
   show Gg T1151 m 180 [(.long x2), (.long (0 : Int64)), (.int (0 : Int32))]
   refine go_st (fun _ kq => XT.lcmp X1151.here hx rfl (hb hby at_180) rfl kq) ?_
   show Gg T1151 m 181 [(.int (XT.cmpL (0 : Int64) x2)), (.int (0 : Int32))]
   refine go_st (fun _ kq => XS.ifYes X1151.here hx rfl (pc0 := 181) (pc' := 188) rfl (hb hby at_181) rfl (XT.ll_lt_t hc1150) (by decide) (by decide) kq) ?_
   show Gg T1151 m 188 [(.int (0 : Int32))]
   refine go_st (fun _ kq => XT.iconstV X1151.here hx rfl (0 : Int32) (hb hby at_188) (by decide) kq) ?_
   show Gg T1151 m 189 [(.int (0 : Int32)), (.int (0 : Int32))]
   refine go_st (fun _ kq => XS.icmpNo X1151.here hx rfl (hb hby at_189) rfl (XT.ii_ne_f (by decide)) kq) ?_
   show Gg T1151 m 192 []
   refine go_st (fun _ kq => XT.iconstV X1151.here hx rfl (1 : Int32) (hb hby at_192) (by decide) kq) ?_
   show Gg T1151 m 193 [(.int (1 : Int32))]
   refine go_st (fun _ kq => XS.goto X1151.here hx rfl (pc0 := 193) (pc' := 197) rfl (hb hby at_193) (by decide) (by decide) kq) ?_
   show Gg T1151 m 197 [(.int (1 : Int32))]
   refine go_st (fun _ kq => XS.istore X1151.here hx rfl (hb hby at_197) rfl (l' := #[.val (.int x0), .val (.long x1), .second, .val (.long x2), .second, .val (.int (x0 &&& (7 : Int32))), .val (.ref a909), .val (.int (1 : Int32)), .val (.long (0 : Int64)), .second]) rfl kq) ?_
   show Gg T1151 m 199 []
   refine go_st (fun _ kq => XS.iload X1151.here hx rfl (hb hby at_199) rfl kq) ?_
   show Gg T1151 m 201 [(.int (1 : Int32))]
   exact go_retB (w := (1 : Int32)) X1151 hx hlk hret (hb hby at_201) (by decide) (by decide) (by decide) ⟨rfl, N1151⟩
  ·show Gg T1149 m 174 [(.ref a909)]
   have z1155 : n0 ≤ T1149.heap.size := Nat.le_trans z1146 K1149.1
   have c1156 := Exa.keep c1147 K1149
   refine go_callV X1149 hx hZ hml hown (wd hw 28 rfl) (wd hw 29 rfl) (notFace_of_selects (args := #[]) (mvT hZ (wd hw 31 rfl))) (wd hw 31 rfl) (wd hw 30 rfl) (wd hw 32 rfl) (wd hw 2 rfl) rfl c1156 (argsL := []) (rest := []) (W := 0) (met_alr0 l Z a0 hw a909 (0 : Int64) x2 T1149.heap n0 z1155 f1149_1 f1149_0 hc1150) (hb hby at_174) rfl rfl rfl (lenOf pd8 rfl) (by show 2 * 0 + _ ≤ _; exact Nat.le_of_eq rfl) (by decide) (by decide) (by decide) (by decide) (by decide) ?_
   intro T1154 v1154 L1154 X1154 q1154
   obtain ⟨rfl, M1154, e1154⟩ := q1154
   have N1154 := Fr.app N1149 M1154
   show Gg T1154 m 177 [(.int (1 : Int32))]
   refine go_st (fun _ kq => XT.lload X1154.here hx rfl (hb hby at_177) rfl kq) ?_
   show Gg T1154 m 179 [(.long (0 : Int64)), (.int (1 : Int32))]
   refine go_st (fun _ kq => XT.lloadN X1154.here hx rfl (hb hby at_179) rfl kq) ?_
   show Gg T1154 m 180 [(.long x2), (.long (0 : Int64)), (.int (1 : Int32))]
   refine go_st (fun _ kq => XT.lcmp X1154.here hx rfl (hb hby at_180) rfl kq) ?_
   show Gg T1154 m 181 [(.int (XT.cmpL (0 : Int64) x2)), (.int (1 : Int32))]
   refine go_st (fun _ kq => XS.ifNo X1154.here hx rfl (hb hby at_181) rfl (XT.ll_lt_f hc1150) kq) ?_
   show Gg T1154 m 184 [(.int (1 : Int32))]
   refine go_st (fun _ kq => XT.iconstV X1154.here hx rfl (1 : Int32) (hb hby at_184) (by decide) kq) ?_
   show Gg T1154 m 185 [(.int (1 : Int32)), (.int (1 : Int32))]
   refine go_st (fun _ kq => XS.goto X1154.here hx rfl (pc0 := 185) (pc' := 189) rfl (hb hby at_185) (by decide) (by decide) kq) ?_
   show Gg T1154 m 189 [(.int (1 : Int32)), (.int (1 : Int32))]
   refine go_st (fun _ kq => XS.icmpNo X1154.here hx rfl (hb hby at_189) rfl (XT.ii_ne_f (by decide)) kq) ?_
   show Gg T1154 m 192 []
   refine go_st (fun _ kq => XT.iconstV X1154.here hx rfl (1 : Int32) (hb hby at_192) (by decide) kq) ?_
   show Gg T1154 m 193 [(.int (1 : Int32))]
   refine go_st (fun _ kq => XS.goto X1154.here hx rfl (pc0 := 193) (pc' := 197) rfl (hb hby at_193) (by decide) (by decide) kq) ?_
   show Gg T1154 m 197 [(.int (1 : Int32))]
   refine go_st (fun _ kq => XS.istore X1154.here hx rfl (hb hby at_197) rfl (l' := #[.val (.int x0), .val (.long x1), .second, .val (.long x2), .second, .val (.int (x0 &&& (7 : Int32))), .val (.ref a909), .val (.int (1 : Int32)), .val (.long (0 : Int64)), .second]) rfl kq) ?_
   show Gg T1154 m 199 []
   refine go_st (fun _ kq => XS.iload X1154.here hx rfl (hb hby at_199) rfl kq) ?_
   show Gg T1154 m 201 [(.int (1 : Int32))]
   exact go_retB (w := (1 : Int32)) X1154 hx hlk hret (hb hby at_201) (by decide) (by decide) (by decide) ⟨rfl, N1154⟩
set_option maxRecDepth 65536 in
set_option maxHeartbeats 4000000 in
theorem comes_1 {Post : Tables → Env → Array Value → State → Outcome → State → Prop} (hpost : ∀ tb e args s v u, (limb_1_1.after args s (.returned v) u = true ∧ limb_1_2.after args s (.returned v) u = true ∧ True) → FrameEnd s (.returned v) u (Jvm.fieldLocs frame_1_writes args s ++ Jvm.arrayLocs frame_1_arrays args s ++ Jvm.staticLocs frame_1_statics s) 32 128 → Post tb e args s (.returned v) u) :
    ArmFor flags0 classFile x code maxLocals ret World_1 tables_1 room_1 Calls_1 rest_1 Pre_1 Post := by
  intro l hfl _ _ p e ha hc hk s m args below hf hA hF happ hP
  obtain ⟨hcalls, hrest, hpre⟩ := hP
  obtain ⟨-, -, -, hnamed, -, -, -, hat⟩ := (Spec.applies_iff hf).mp happ
  obtain ⟨hg, hn⟩ := and_e (Cond.before_iff.mp (show (Jvm.Cond.and given_1 narrow_1).before args s = true from hpre))
  obtain ⟨k1, r1⟩ := and_e hg
  obtain ⟨g0, r2⟩ := and_e r1
  obtain ⟨g1, r3⟩ := and_e r2
  have g2 := r3
  obtain ⟨w0, w1, w2, rfl⟩ : ∃ w0 w1 w2 : Value, args = #[w0, w1, w2] := by
    have hs : args.size = 3 := by simpa [Cond.value, given_1] using k1
    obtain ⟨L⟩ := args
    match L, hs with
    | [w0, w1, w2], _ => exact ⟨w0, w1, w2, rfl⟩
  have hw := fun d (hd : d ∈ tables_1) => atoms_spec (ws := Jvm.Cond.code x code maxLocals ret :: tables_1) hat d (List.mem_cons_of_mem _ hd)
  have hfit : Fit s := fun {y c} hc i hi => by
    obtain ⟨ha, rfl⟩ := Array.getElem?_eq_some_iff.mp hc
    have q := List.all_eq_true.mp ((Array.all_eq_true_iff_forall_mem.mp hF) _ (Array.getElem_mem ha)) i (List.mem_range.mpr hi)
    simpa [Array.getElem?_eq_getElem hi] using q
  obtain ⟨i0, f0⟩ := is_v g0
  obtain rfl : w0 = (.int i0) := Option.some.inj f0
  obtain ⟨i1, f1⟩ := isL_v g1
  obtain rfl : w1 = (.long i1) := Option.some.inj f1
  obtain ⟨i2, f2⟩ := isL_v g2
  obtain rfl : w2 = (.long i2) := Option.some.inj f2
  obtain ⟨cK, one, hat⟩ := Cond.lambdaSite_spec (wd hw 80 rfl)
  obtain rfl : one = none := by
    obtain ⟨_, _, _, _, _, _, -, -, -, -, -, -, -, -, hlk⟩ := State.lambdaAt?_spec hat
    rcases hlk with ⟨_, _, -, -, hc0, -⟩ | ⟨-, h0, -⟩
    · exact absurd hc0 (by decide)
    · exact h0
  have hm := met_law l s _ hw i0 i1 i2 s.heap s.heap.size (Nat.le_refl _) cK
  obtain ⟨n, o, h1, h2, h3, _, L, rfl, ⟨rfl, N⟩, hq⟩ := hm p e ha hc hk s m _ below hf ((Spec.applies_iff_loose hf).mp happ).1 ⟨rfl, State.Warmed39.refl s, rfl, hat⟩ trivial
  refine ⟨n, _, h1, h2, h3, hpost _ _ _ _ _ _ ⟨Cond.after_iff.mpr rfl, Cond.after_iff.mpr (eq_i res_at (Term.int_eval (1)) rfl), trivial⟩ ⟨hq.1, hq.2.1, (hq.2.2.sift fun y hy => Or.inr (N y hy)).mono (by decide) (by decide)⟩⟩
theorem main_1_1 : Claimed_1_1 := comes_1 fun _ _ _ _ _ _ h hF => ⟨h.1, ReturnedEndW.of_narrow hF.1 hF.2.1 hF.2.2⟩
theorem main_1_2 : Claimed_1_2 := comes_1 fun _ _ _ _ _ _ h hF => ⟨h.2.1, ReturnedEndW.of_narrow hF.1 hF.2.1 hF.2.2⟩
end Jvm.Pilot.@@N@@
namespace Jvm.Pilot.@@N@@
open Jvm Jvm.ClassFile Sem Op Lib Jvm.Free Jvm.Stand Jvm.Pilot.@@N@@.Jvm.D
/-! MADE BY PROGRAM (witnessworld.py) out of the Statement's table words and the real class files: 15 classes; the members and pool entries that the words name. The judged class is class 2, her method 4. -/
namespace start1
open Jvm.ClassFile
def u (s : String) : CpInfo := .utf8 (stringToUtf16 s)
/-- a pool by its gaps: so many unusable entries, then the entry; so many at the end -/
def gap : Nat → List CpInfo → List CpInfo
  | 0, r => r
  | n + 1, r => .unusable :: gap n r
def poolList (es : List (Nat × CpInfo)) (last : Nat) : List CpInfo := es.foldr (fun e r => gap e.1 (e.2 :: r)) (gap last [])
def pool (es : List (Nat × CpInfo)) (last : Nat) : Array CpInfo := ⟨poolList es last⟩
def fileOf (pool : Array CpInfo) (this : Nat) (attrs : Array Attribute := #[]) (ms : Array MethodInfo := #[]) (fl : Nat := 33) (sup : Nat := 0) (ifs : Array Nat := #[]) (fds : Array FieldInfo := #[]) : ClassFile where
  minorVersion := 0
  majorVersion := 65
  constantPool := pool
  accessFlags := fl
  thisClass := this
  superClass := sup
  interfaces := ifs
  fields := fds
  methods := ms
  attributes := attrs
def plain (name : String) (sup : Option ClassId) : Class where
  name := name
  kind := .ordinary
  loader := none
  accessFlags := 33
  super := sup
  interfaces := #[]
  cf := none
  fields := #[]
  methods := #[]
  instanceTypes := #[]
  staticTypes := #[]
  resolved := #[]
  callSites := []
  init := .initialized
  statics := none
  mirror := none

def pool0 : Array CpInfo := pool [(5, u "<init>"), (0, u "()V"), (1, .class_ 10), (1, u "java/lang/Object")] 113

def k0c0 : Code := { maxStack := 0, maxLocals := 1, code := object_method_1_code, exceptionTable := #[], attributes := #[] }
def k0m0 : Method := { name := "<init>", desc := "()V", sig := { parameters := [], returnType := none }, accessFlags := 1, code := some k0c0 }
/-- java/lang/Object -/
def k0 : Class := { plain "java/lang/Object" none with
  accessFlags := 33
  interfaces := #[]
  cf := some (fileOf pool0 8 #[] #[{ accessFlags := 1, nameIndex := 5, descriptorIndex := 6, attributes := #[] }] 33 0 #[] #[])
  fields := #[]
  methods := #[k0m0]
  instanceTypes := #[]
  staticTypes := #[]
  resolved := Array.replicate 124 none
  statics := none }

def pool1 : Array CpInfo := pool [(1, .class_ 2), (0, u "com/example/copse/copse/graph/SuccessorLists"), (0, .class_ 4), (0, u "java/lang/Object"), (0, u "nodeCount"), (0, u "()I"), (0, u "outDegree"), (0, u "(I)I"), (0, u "successor"), (0, u "(II)I")] 2

def k1m0 : Method := { name := "nodeCount", desc := "()I", sig := { parameters := [], returnType := some .int }, accessFlags := 1025, code := none }
def k1m1 : Method := { name := "outDegree", desc := "(I)I", sig := { parameters := [.int], returnType := some .int }, accessFlags := 1025, code := none }
def k1m2 : Method := { name := "successor", desc := "(II)I", sig := { parameters := [.int, .int], returnType := some .int }, accessFlags := 1025, code := none }
/-- com/example/copse/copse/graph/SuccessorLists -/
def k1 : Class := { plain "com/example/copse/copse/graph/SuccessorLists" (some 0) with
  accessFlags := 1537
  interfaces := #[]
  cf := some (fileOf pool1 1 #[] #[{ accessFlags := 1025, nameIndex := 5, descriptorIndex := 6, attributes := #[] }, { accessFlags := 1025, nameIndex := 7, descriptorIndex := 8, attributes := #[] }, { accessFlags := 1025, nameIndex := 9, descriptorIndex := 10, attributes := #[] }] 1537 3 #[] #[])
  fields := #[]
  methods := #[k1m0, k1m1, k1m2]
  instanceTypes := #[]
  staticTypes := #[]
  resolved := Array.replicate 13 none
  statics := none }

def pool2 : Array CpInfo := pool [(1, .methodref 2 3), (0, .class_ 4), (0, .nameAndType 5 6), (0, u "java/lang/Object"), (0, u "<init>"), (0, u "()V"), (0, .fieldref 8 9), (0, .class_ 10), (0, .nameAndType 11 12), (0, u "com/example/copse/copse/graph/TargetSearchArcLimitReachedPinLaw"), (0, u "degree"), (0, u "I"), (0, .class_ 14), (0, u "com/example/copse/copse/graph/TargetSearch"), (0, .methodref 13 16), (0, .nameAndType 5 17), (0, u "(I)V"), (0, .methodref 13 19), (0, .nameAndType 20 21), (0, u "arcLimitReached"), (0, u "()Z"), (0, .methodref 13 23), (0, .nameAndType 24 25), (0, u "setArcLimit"), (0, u "(J)V"), (0, .methodref 8 16), (0, .methodref 13 28), (0, .nameAndType 29 30), (0, u "reachesAll"), (0, u "(Lcom/example/copse/copse/graph/SuccessorLists;I[I)Z"), (0, .methodref 13 32), (0, .nameAndType 33 34), (0, u "arcsLookedAt"), (0, u "()J"), (0, .class_ 36), (0, u "com/example/copse/copse/graph/SuccessorLists"), (2, u "nodeCount"), (0, u "()I"), (0, u "outDegree"), (0, u "(I)I"), (1, u "successor"), (0, u "(II)I"), (0, u "law"), (0, u "(IJJ)Z")] 2

def k2c0 : Code := { maxStack := 2, maxLocals := 2, code := method_1_code, exceptionTable := #[], attributes := #[] }
def k2m0 : Method := { name := "<init>", desc := "(I)V", sig := { parameters := [.int], returnType := none }, accessFlags := 2, code := some k2c0 }
def k2c1 : Code := { maxStack := 1, maxLocals := 1, code := method_2_code, exceptionTable := #[], attributes := #[] }
def k2m1 : Method := { name := "nodeCount", desc := "()I", sig := { parameters := [], returnType := some .int }, accessFlags := 1, code := some k2c1 }
def k2c2 : Code := { maxStack := 1, maxLocals := 2, code := method_3_code, exceptionTable := #[], attributes := #[] }
def k2m2 : Method := { name := "outDegree", desc := "(I)I", sig := { parameters := [.int], returnType := some .int }, accessFlags := 1, code := some k2c2 }
def k2c3 : Code := { maxStack := 1, maxLocals := 3, code := method_4_code, exceptionTable := #[], attributes := #[] }
def k2m3 : Method := { name := "successor", desc := "(II)I", sig := { parameters := [.int, .int], returnType := some .int }, accessFlags := 1, code := some k2c3 }
def k2c4 : Code := { maxStack := 7, maxLocals := 10, code := code, exceptionTable := #[], attributes := #[] }
def k2m4 : Method := { name := "law", desc := "(IJJ)Z", sig := { parameters := [.int, .long, .long], returnType := some .boolean }, accessFlags := 9, code := some k2c4 }
/-- com/example/copse/copse/graph/TargetSearchArcLimitReachedPinLaw -/
def k2 : Class := { plain "com/example/copse/copse/graph/TargetSearchArcLimitReachedPinLaw" (some 0) with
  accessFlags := 49
  interfaces := #[1]
  cf := some (fileOf pool2 8 #[] #[{ accessFlags := 2, nameIndex := 5, descriptorIndex := 17, attributes := #[] }, { accessFlags := 1, nameIndex := 39, descriptorIndex := 40, attributes := #[] }, { accessFlags := 1, nameIndex := 41, descriptorIndex := 42, attributes := #[] }, { accessFlags := 1, nameIndex := 44, descriptorIndex := 45, attributes := #[] }, { accessFlags := 9, nameIndex := 46, descriptorIndex := 47, attributes := #[] }] 49 2 #[35] #[{ accessFlags := 18, nameIndex := 11, descriptorIndex := 12, attributes := #[] }])
  fields := #[{ name := "degree", type := .int, accessFlags := 18, slot := 0, constantValue := 0 }]
  methods := #[k2m0, k2m1, k2m2, k2m3, k2m4]
  instanceTypes := #[.int]
  staticTypes := #[]
  resolved := Array.replicate 50 none
  statics := none }

def pool3 : Array CpInfo := pool [(1, .methodref 2 3), (0, .class_ 4), (0, .nameAndType 5 6), (0, u "java/lang/Object"), (0, u "<init>"), (0, u "()V"), (2, .long 9223372036854775807), (1, .fieldref 12 13), (0, .class_ 14), (0, .nameAndType 15 16), (0, u "com/example/copse/copse/graph/TargetSearch"), (0, u "arcLimit"), (0, u "J"), (0, .methodref 18 19), (0, .class_ 20), (0, .nameAndType 21 22), (0, u "com/example/copse/copse/graph/GraphArrays"), (0, u "checkNodeCount"), (0, u "(I)I"), (0, .fieldref 12 24), (0, .nameAndType 25 26), (0, u "reachedIn"), (0, u "[I"), (0, .fieldref 12 28), (0, .nameAndType 29 26), (0, u "place"), (0, .fieldref 12 31), (0, .nameAndType 32 26), (0, u "parent"), (0, .fieldref 12 34), (0, .nameAndType 35 26), (0, u "pending"), (0, .fieldref 12 37), (0, .nameAndType 38 26), (0, u "wantedIn"), (0, .fieldref 12 40), (0, .nameAndType 41 16), (0, u "arcsLookedAt"), (0, .methodref 12 43), (0, .nameAndType 44 45), (0, u "startSearch"), (0, u "(Lcom/example/copse/copse/graph/SuccessorLists;I)V"), (0, .fieldref 12 47), (0, .nameAndType 48 49), (0, u "search"), (0, u "I"), (0, .methodref 12 51), (0, .nameAndType 52 53), (0, u "breadthFirst"), (0, u "(Lcom/example/copse/copse/graph/SuccessorLists;ILjava/util/function/IntPredicate;)Z"), (0, .fieldref 12 55), (0, .nameAndType 56 49), (0, u "queued"), (14, .methodref 72 73), (0, .class_ 74), (0, .nameAndType 75 76), (0, u "java/util/Objects"), (0, u "checkIndex"), (0, u "(II)I"), (0, .fieldref 12 78), (0, .nameAndType 79 49), (0, u "unreached"), (0, .invokeDynamic 0 81), (0, .nameAndType 82 83), (0, u "test"), (0, u "(Lcom/example/copse/copse/graph/TargetSearch;)Ljava/util/function/IntPredicate;"), (3, .interfaceMethodref 88 89), (0, .class_ 90), (0, .nameAndType 91 22), (0, u "com/example/copse/copse/graph/SuccessorLists"), (0, u "outDegree"), (0, .interfaceMethodref 88 93), (0, .nameAndType 94 76), (0, u "successor"), (0, .interfaceMethodref 96 97), (0, .class_ 98), (0, .nameAndType 82 99), (0, u "java/util/function/IntPredicate"), (0, u "(I)Z"), (15, .interfaceMethodref 88 116), (0, .nameAndType 117 118), (0, u "nodeCount"), (0, u "()I"), (11, .integer 2147483647), (4, u "(I)V"), (2, u "()J"), (0, u "setArcLimit"), (0, u "(J)V"), (0, u "arcLimitReached"), (0, u "()Z"), (7, u "reachesAll"), (0, u "(Lcom/example/copse/copse/graph/SuccessorLists;I[I)Z"), (7, u "lambda$reachesAll$0"), (3, .methodType 99), (0, .methodHandle 5 165), (0, .methodref 12 166), (0, .nameAndType 159 99), (5, .methodHandle 6 173), (0, .methodref 174 175), (0, .class_ 176), (0, .nameAndType 177 178), (0, u "java/lang/invoke/LambdaMetafactory"), (0, u "metafactory"), (0, u "(Ljava/lang/invoke/MethodHandles$Lookup;Ljava/lang/String;Ljava/lang/invoke/MethodType;Ljava/lang/invoke/MethodType;Ljava/lang/invoke/MethodHandle;Ljava/lang/invoke/MethodType;)Ljava/lang/invoke/CallSite;")] 12

def k3c0 : Code := { maxStack := 3, maxLocals := 2, code := prog_46_method_1_code, exceptionTable := #[], attributes := #[] }
def k3m0 : Method := { name := "<init>", desc := "(I)V", sig := { parameters := [.int], returnType := none }, accessFlags := 1, code := some k3c0 }
def k3c1 : Code := { maxStack := 2, maxLocals := 1, code := prog_46_method_2_code, exceptionTable := #[], attributes := #[] }
def k3m1 : Method := { name := "arcsLookedAt", desc := "()J", sig := { parameters := [], returnType := some .long }, accessFlags := 1, code := some k3c1 }
def k3c2 : Code := { maxStack := 3, maxLocals := 3, code := prog_46_method_3_code, exceptionTable := #[], attributes := #[] }
def k3m2 : Method := { name := "setArcLimit", desc := "(J)V", sig := { parameters := [.long], returnType := none }, accessFlags := 1, code := some k3c2 }
def k3c3 : Code := { maxStack := 4, maxLocals := 1, code := prog_46_method_4_code, exceptionTable := #[], attributes := #[] }
def k3m3 : Method := { name := "arcLimitReached", desc := "()Z", sig := { parameters := [], returnType := some .boolean }, accessFlags := 1, code := some k3c3 }
def k3c4 : Code := { maxStack := 4, maxLocals := 8, code := prog_46_method_7_code, exceptionTable := #[], attributes := #[] }
def k3m4 : Method := { name := "reachesAll", desc := "(Lcom/example/copse/copse/graph/SuccessorLists;I[I)Z", sig := { parameters := [(.object "com/example/copse/copse/graph/SuccessorLists"), .int, (.array .int)], returnType := some .boolean }, accessFlags := 1, code := some k3c4 }
def k3c5 : Code := { maxStack := 5, maxLocals := 11, code := prog_46_method_11_code, exceptionTable := #[], attributes := #[] }
def k3m5 : Method := { name := "breadthFirst", desc := "(Lcom/example/copse/copse/graph/SuccessorLists;ILjava/util/function/IntPredicate;)Z", sig := { parameters := [(.object "com/example/copse/copse/graph/SuccessorLists"), .int, (.object "java/util/function/IntPredicate")], returnType := some .boolean }, accessFlags := 2, code := some k3c5 }
def k3c6 : Code := { maxStack := 4, maxLocals := 3, code := prog_46_method_13_code, exceptionTable := #[], attributes := #[] }
def k3m6 : Method := { name := "startSearch", desc := "(Lcom/example/copse/copse/graph/SuccessorLists;I)V", sig := { parameters := [(.object "com/example/copse/copse/graph/SuccessorLists"), .int], returnType := none }, accessFlags := 2, code := some k3c6 }
def k3c7 : Code := { maxStack := 3, maxLocals := 2, code := prog_46_method_15_code, exceptionTable := #[], attributes := #[] }
def k3m7 : Method := { name := "lambda$reachesAll$0", desc := "(I)Z", sig := { parameters := [.int], returnType := some .boolean }, accessFlags := 4098, code := some k3c7 }
/-- com/example/copse/copse/graph/TargetSearch -/
def k3 : Class := { plain "com/example/copse/copse/graph/TargetSearch" (some 0) with
  accessFlags := 33
  interfaces := #[]
  cf := some (fileOf pool3 12 #[.bootstrapMethods #[⟨172, #[163, 164, 163]⟩, ⟨0, #[]⟩, ⟨0, #[]⟩]] #[{ accessFlags := 1, nameIndex := 5, descriptorIndex := 135, attributes := #[] }, { accessFlags := 1, nameIndex := 41, descriptorIndex := 138, attributes := #[] }, { accessFlags := 1, nameIndex := 139, descriptorIndex := 140, attributes := #[] }, { accessFlags := 1, nameIndex := 141, descriptorIndex := 142, attributes := #[] }, { accessFlags := 1, nameIndex := 150, descriptorIndex := 151, attributes := #[] }, { accessFlags := 2, nameIndex := 52, descriptorIndex := 53, attributes := #[] }, { accessFlags := 2, nameIndex := 44, descriptorIndex := 45, attributes := #[] }, { accessFlags := 4098, nameIndex := 159, descriptorIndex := 99, attributes := #[] }] 33 2 #[] #[{ accessFlags := 18, nameIndex := 25, descriptorIndex := 26, attributes := #[] }, { accessFlags := 18, nameIndex := 29, descriptorIndex := 26, attributes := #[] }, { accessFlags := 18, nameIndex := 32, descriptorIndex := 26, attributes := #[] }, { accessFlags := 18, nameIndex := 35, descriptorIndex := 26, attributes := #[] }, { accessFlags := 18, nameIndex := 38, descriptorIndex := 26, attributes := #[] }, { accessFlags := 2, nameIndex := 48, descriptorIndex := 49, attributes := #[] }, { accessFlags := 2, nameIndex := 79, descriptorIndex := 49, attributes := #[] }, { accessFlags := 2, nameIndex := 56, descriptorIndex := 49, attributes := #[] }, { accessFlags := 2, nameIndex := 41, descriptorIndex := 16, attributes := #[] }, { accessFlags := 2, nameIndex := 15, descriptorIndex := 16, attributes := #[] }])
  fields := #[{ name := "reachedIn", type := (.array .int), accessFlags := 18, slot := 0, constantValue := 0 }, { name := "place", type := (.array .int), accessFlags := 18, slot := 1, constantValue := 0 }, { name := "parent", type := (.array .int), accessFlags := 18, slot := 2, constantValue := 0 }, { name := "pending", type := (.array .int), accessFlags := 18, slot := 3, constantValue := 0 }, { name := "wantedIn", type := (.array .int), accessFlags := 18, slot := 4, constantValue := 0 }, { name := "search", type := .int, accessFlags := 2, slot := 5, constantValue := 0 }, { name := "unreached", type := .int, accessFlags := 2, slot := 6, constantValue := 0 }, { name := "queued", type := .int, accessFlags := 2, slot := 7, constantValue := 0 }, { name := "arcsLookedAt", type := .long, accessFlags := 2, slot := 8, constantValue := 0 }, { name := "arcLimit", type := .long, accessFlags := 2, slot := 9, constantValue := 0 }]
  methods := #[k3m0, k3m1, k3m2, k3m3, k3m4, k3m5, k3m6, k3m7]
  instanceTypes := #[(.array .int), (.array .int), (.array .int), (.array .int), (.array .int), .int, .int, .int, .long, .long]
  staticTypes := #[]
  resolved := Array.replicate 191 none
  callSites := [(4, 106, .makes 14)]
  statics := none }

def pool4 : Array CpInfo := pool [(4, .class_ 6), (1, u "java/lang/Object"), (0, u "<init>"), (0, u "()V"), (0, .class_ 10), (0, u "com/example/copse/copse/graph/GraphArrays"), (0, .integer 2147483639), (25, u "MAX_LENGTH"), (0, u "I"), (3, u "checkNodeCount"), (0, u "(I)I")] 22

def k4m0 : Method := { name := "<init>", desc := "()V", sig := { parameters := [], returnType := none }, accessFlags := 2, code := none }
def k4c1 : Code := { maxStack := 3, maxLocals := 1, code := prog_40_method_2_code, exceptionTable := #[], attributes := #[] }
def k4m1 : Method := { name := "checkNodeCount", desc := "(I)I", sig := { parameters := [.int], returnType := some .int }, accessFlags := 8, code := some k4c1 }
/-- com/example/copse/copse/graph/GraphArrays -/
def k4 : Class := { plain "com/example/copse/copse/graph/GraphArrays" (some 0) with
  accessFlags := 32
  interfaces := #[]
  cf := some (fileOf pool4 9 #[] #[{ accessFlags := 2, nameIndex := 7, descriptorIndex := 8, attributes := #[] }, { accessFlags := 8, nameIndex := 42, descriptorIndex := 43, attributes := #[] }] 32 4 #[] #[{ accessFlags := 24, nameIndex := 37, descriptorIndex := 38, attributes := #[] }])
  fields := #[{ name := "MAX_LENGTH", type := .int, accessFlags := 24, slot := 0, constantValue := 0 }]
  methods := #[k4m0, k4m1]
  instanceTypes := #[]
  staticTypes := #[.int]
  resolved := Array.replicate 66 none
  statics := none }

def pool5 : Array CpInfo := pool [(2, .class_ 4), (1, u "java/lang/Object"), (0, u "<init>"), (0, u "()V"), (35, .class_ 44), (1, u "java/util/Objects"), (60, .methodref 106 107), (0, .class_ 108), (0, .nameAndType 109 110), (0, u "jdk/internal/util/Preconditions"), (0, u "checkIndex"), (0, u "(IILjava/util/function/BiFunction;)I"), (60, u "(II)I")] 12

def k5m0 : Method := { name := "<init>", desc := "()V", sig := { parameters := [], returnType := none }, accessFlags := 2, code := none }
def k5c1 : Code := { maxStack := 3, maxLocals := 2, code := jdk_31_method_17_code, exceptionTable := #[], attributes := #[] }
def k5m1 : Method := { name := "checkIndex", desc := "(II)I", sig := { parameters := [.int, .int], returnType := some .int }, accessFlags := 9, code := some k5c1 }
/-- java/util/Objects -/
def k5 : Class := { plain "java/util/Objects" (some 0) with
  accessFlags := 49
  interfaces := #[]
  cf := some (fileOf pool5 42 #[] #[{ accessFlags := 2, nameIndex := 5, descriptorIndex := 6, attributes := #[] }, { accessFlags := 9, nameIndex := 109, descriptorIndex := 171, attributes := #[] }] 49 2 #[] #[])
  fields := #[]
  methods := #[k5m0, k5m1]
  instanceTypes := #[]
  staticTypes := #[]
  resolved := Array.replicate 184 none
  statics := none }

def pool6 : Array CpInfo := pool [(2, .class_ 4), (1, u "java/lang/Object"), (0, u "<init>"), (0, u "()V"), (17, .class_ 26), (1, u "jdk/internal/util/Preconditions"), (6, u "checkIndex"), (21, .class_ 56), (0, u "jdk/internal/util/Preconditions$4"), (57, .class_ 115), (0, u "jdk/internal/util/Preconditions$1"), (7, u "SIOOBE_FORMATTER"), (0, u "Ljava/util/function/BiFunction;"), (0, .class_ 126), (0, u "jdk/internal/util/Preconditions$2"), (3, u "AIOOBE_FORMATTER"), (0, .class_ 132), (0, u "jdk/internal/util/Preconditions$3"), (3, u "IOOBE_FORMATTER"), (41, u "(IILjava/util/function/BiFunction;)I")] 15

def k6m0 : Method := { name := "<init>", desc := "()V", sig := { parameters := [], returnType := none }, accessFlags := 1, code := none }
def k6c1 : Code := { maxStack := 3, maxLocals := 3, code := jdk_41_method_11_code, exceptionTable := #[], attributes := #[] }
def k6m1 : Method := { name := "checkIndex", desc := "(IILjava/util/function/BiFunction;)I", sig := { parameters := [.int, .int, (.object "java/util/function/BiFunction")], returnType := some .int }, accessFlags := 9, code := some k6c1 }
/-- jdk/internal/util/Preconditions -/
def k6 : Class := { plain "jdk/internal/util/Preconditions" (some 0) with
  accessFlags := 33
  interfaces := #[]
  cf := some (fileOf pool6 24 #[.nestMembers #[55, 131, 125, 114]] #[{ accessFlags := 1, nameIndex := 5, descriptorIndex := 6, attributes := #[] }, { accessFlags := 9, nameIndex := 33, descriptorIndex := 178, attributes := #[] }] 33 2 #[] #[{ accessFlags := 25, nameIndex := 123, descriptorIndex := 124, attributes := #[] }, { accessFlags := 25, nameIndex := 130, descriptorIndex := 124, attributes := #[] }, { accessFlags := 25, nameIndex := 136, descriptorIndex := 124, attributes := #[] }])
  fields := #[{ name := "SIOOBE_FORMATTER", type := (.object "java/util/function/BiFunction"), accessFlags := 25, slot := 0, constantValue := 0 }, { name := "AIOOBE_FORMATTER", type := (.object "java/util/function/BiFunction"), accessFlags := 25, slot := 1, constantValue := 0 }, { name := "IOOBE_FORMATTER", type := (.object "java/util/function/BiFunction"), accessFlags := 25, slot := 2, constantValue := 0 }]
  methods := #[k6m0, k6m1]
  instanceTypes := #[]
  staticTypes := #[(.object "java/util/function/BiFunction"), (.object "java/util/function/BiFunction"), (.object "java/util/function/BiFunction")]
  resolved := Array.replicate 194 none
  statics := none }

def pool7 : Array CpInfo := pool [(9, u "test"), (6, .class_ 18), (1, u "java/util/function/IntPredicate"), (0, u "(I)Z"), (0, .class_ 21), (0, u "java/lang/Object")] 45

def k7m0 : Method := { name := "test", desc := "(I)Z", sig := { parameters := [.int], returnType := some .boolean }, accessFlags := 1025, code := none }
/-- java/util/function/IntPredicate -/
def k7 : Class := { plain "java/util/function/IntPredicate" (some 0) with
  accessFlags := 1537
  interfaces := #[]
  cf := some (fileOf pool7 16 #[] #[{ accessFlags := 1025, nameIndex := 9, descriptorIndex := 19, attributes := #[] }] 1537 20 #[] #[])
  fields := #[]
  methods := #[k7m0]
  instanceTypes := #[]
  staticTypes := #[]
  resolved := Array.replicate 67 none
  statics := none }

def pool8 : Array CpInfo := pool [(1, u "java/lang/Cloneable"), (0, .class_ 1), (0, u "java/lang/Object"), (0, .class_ 3)] 3

/-- java/lang/Cloneable -/
def k8 : Class := { plain "java/lang/Cloneable" (some 0) with
  accessFlags := 1537
  interfaces := #[]
  cf := some (fileOf pool8 2 #[] #[] 1537 4 #[] #[])
  fields := #[]
  methods := #[]
  instanceTypes := #[]
  staticTypes := #[]
  resolved := Array.replicate 8 none
  statics := none }

def pool9 : Array CpInfo := pool [(1, u "java/io/Serializable"), (0, .class_ 1), (0, u "java/lang/Object"), (0, .class_ 3)] 3

/-- java/io/Serializable -/
def k9 : Class := { plain "java/io/Serializable" (some 0) with
  accessFlags := 1537
  interfaces := #[]
  cf := some (fileOf pool9 2 #[] #[] 1537 4 #[] #[])
  fields := #[]
  methods := #[]
  instanceTypes := #[]
  staticTypes := #[]
  resolved := Array.replicate 8 none
  statics := none }

/-- the primitive byte -/
def k10 : Class := { plain "byte" none with kind := .primitive 'B', accessFlags := 0x411 }
/-- [B -/
def k11 : Class := { plain "[B" (some 0) with kind := .array 10 .byte, interfaces := #[8, 9], accessFlags := 1041 }

/-- the primitive int -/
def k12 : Class := { plain "int" none with kind := .primitive 'I', accessFlags := 0x411 }
/-- [I -/
def k13 : Class := { plain "[I" (some 0) with kind := .array 12 .int, interfaces := #[8, 9], accessFlags := 1041 }

def classes0 : Array Class := #[k0, k1, k2, k3, k4, k5, k6, k7, k8, k9, k10, k11, k12, k13]
/-- the class that the rule has made for the site at 106 of com/example/copse/copse/graph/TargetSearch.reachesAll -/
def k14 : Class := Jvm.LamKit.madeRec { classes := classes0 } "com/example/copse/copse/graph/TargetSearch" (Jvm.Lambda.Shape.mk "java/util/function/IntPredicate" "test" (Jvm.ClassFile.MethodDescriptor.mk ([Jvm.ClassFile.FieldType.int] : List Jvm.ClassFile.FieldType) (Option.some Jvm.ClassFile.FieldType.boolean)) ([(Jvm.ClassFile.FieldType.object "com/example/copse/copse/graph/TargetSearch")] : List Jvm.ClassFile.FieldType) (5 : Nat) "com/example/copse/copse/graph/TargetSearch" "lambda$reachesAll$0" (Jvm.ClassFile.MethodDescriptor.mk ([Jvm.ClassFile.FieldType.int] : List Jvm.ClassFile.FieldType) (Option.some Jvm.ClassFile.FieldType.boolean)) false (Jvm.ClassFile.MethodDescriptor.mk ([Jvm.ClassFile.FieldType.int] : List Jvm.ClassFile.FieldType) (Option.some Jvm.ClassFile.FieldType.boolean))) 14

def heap : Heap := #[]
def classes : Array Class := #[k0, k1, k2, k3, k4, k5, k6, k7, k8, k9, k10, k11, k12, k13, k14]
def interned : List (Array UInt16 × Addr) := []
def slotsUsed : Nat := 0
def theMethod : MethodId := ⟨2, 4⟩
def args0 : Array Value := #[.int 5, .long 6, .long 7]
def aboutOver (below : List Frame) : State where
  vm := { classes := classes, interned := interned.toArray }
  heap := heap
  slotsUsed := slotsUsed
  threads := #[{ frames := .invoking theMethod args0 :: below }]
def below0 : List Frame := [.native { method := ⟨0, 0⟩, args := #[] }]
def about1 : State := aboutOver below0
def p0 : Program := .bare "" "" ""
def e0 : Env := launch0.env 0 0 0
theorem w_frames : about1.frames = Frame.invoking theMethod args0 :: below0 := rfl
set_option maxRecDepth 65536 in
theorem w_args : argsFit about1.vm theMethod args0 = true := by decide +kernel
set_option maxRecDepth 65536 in
theorem w_heap : heapFits about1 = true := by decide +kernel
set_option maxRecDepth 65536 in
theorem w_runnable : about1.curStatus? = some .runnable := by decide +kernel
set_option maxRecDepth 65536 in
theorem w_alone : about1.alone = true := by decide +kernel
set_option maxRecDepth 65536 in
theorem w_named : about1.methodNamed? x = some theMethod := by decide +kernel
set_option maxRecDepth 65536 in
theorem w_hears : about1.hears theMethod below0 = true := by decide +kernel
set_option maxRecDepth 65536 in
theorem w_ripe : about1.ripe theMethod args0 below0 = true := by decide +kernel
theorem w_running : about1.status = .running := rfl
set_option maxRecDepth 65536 in
theorem w_room : about1.hasRoom e0.platform room_1 = true :=
  launch0.hasRoom_least _ room_1 (by decide +kernel) (by decide +kernel) (by decide +kernel) (by decide +kernel) (by decide +kernel) (by decide +kernel)
theorem allAtoms_all (ts : List Jvm.Cond) (a : Array Jvm.Value) (st : Jvm.State) : (allAtoms ts).before a st = ts.all (fun c => c.before a st) := by
  induction ts with
  | nil => rfl
  | cons c t ih =>
    show (Jvm.Cond.and c (allAtoms t)).before a st = _
    rw [Jvm.Cond.before_and, ih, List.all_cons]
def words1 : List Jvm.Cond := Jvm.Cond.code x code maxLocals ret :: tables_1
/-- a 'code' word, met by the world's own term for the bytes: nothing is compared byte by byte -/
theorem code_word {y : MethodName} {bytes : ByteArray} {mx : Nat} {rt : Option FieldType} {a : Array Value} {s : State} {m : MethodId} {meth : Method} {c : Code} (h1 : s.methodNamed? y = some m) (h2 : s.vm.method? m = some meth) (h3 : meth.code = some c) (h4 : c.code = bytes)
    (h5 : (c.maxLocals == mx && c.exceptionTable.isEmpty && decide (c.maxStack ≤ mostOperands) && decide (meth.sig.returnType = rt) && !meth.locks && decide (parseMethodDescriptor y.desc = some meth.sig)) = true) : (Jvm.Cond.code y bytes mx rt).before a s = true := by
  simp only [Bool.and_eq_true, beq_iff_eq, Bool.not_eq_true', decide_eq_true_eq] at h5
  obtain ⟨⟨⟨⟨⟨g1, g2⟩, g3⟩, g4⟩, g5⟩, g6⟩ := h5
  simp [Cond.before, Cond.holds, Cond.value, h1, h2, h3, h4, g1, g2, g3, g4, g5, g6]
def isCode : Jvm.Cond → Bool
  | .code _ _ _ _ => true
  | _ => false
theorem all_split {L : List Jvm.Cond} {P : Jvm.Cond → Bool} (h1 : L.all (fun c => isCode c || P c) = true) (h2 : ∀ c ∈ L.filter isCode, P c = true) : L.all P = true := by
  refine List.all_eq_true.mpr fun c hc => ?_
  have h := List.all_eq_true.mp h1 c hc
  rcases Bool.eq_false_or_eq_true (isCode c) with hi | hi
  · exact h2 c (List.mem_filter.mpr ⟨hc, hi⟩)
  · simpa [hi] using h
set_option maxRecDepth 65536 in
theorem w_c0 : (Jvm.Cond.code x code maxLocals ret).before args0 about1 = true := code_word (m := ⟨2, 4⟩) (meth := k2m4) (c := k2c4) (by decide +kernel) rfl rfl rfl (by decide +kernel)
set_option maxRecDepth 65536 in
theorem w_c1 : (Jvm.Cond.code ({ cls := "com/example/copse/copse/graph/TargetSearch", name := "<init>", desc := "(I)V" } : Jvm.MethodName) prog_46_method_1_code (2 : Nat) (Option.none : Option Jvm.ClassFile.FieldType)).before args0 about1 = true := code_word (m := ⟨3, 0⟩) (meth := k3m0) (c := k3c0) (by decide +kernel) rfl rfl rfl (by decide +kernel)
set_option maxRecDepth 65536 in
theorem w_c2 : (Jvm.Cond.code ({ cls := "java/lang/Object", name := "<init>", desc := "()V" } : Jvm.MethodName) object_method_1_code (1 : Nat) (Option.none : Option Jvm.ClassFile.FieldType)).before args0 about1 = true := code_word (m := ⟨0, 0⟩) (meth := k0m0) (c := k0c0) (by decide +kernel) rfl rfl rfl (by decide +kernel)
set_option maxRecDepth 65536 in
theorem w_c3 : (Jvm.Cond.code ({ cls := "com/example/copse/copse/graph/GraphArrays", name := "checkNodeCount", desc := "(I)I" } : Jvm.MethodName) prog_40_method_2_code (1 : Nat) (Option.some Jvm.ClassFile.FieldType.int)).before args0 about1 = true := code_word (m := ⟨4, 1⟩) (meth := k4m1) (c := k4c1) (by decide +kernel) rfl rfl rfl (by decide +kernel)
set_option maxRecDepth 65536 in
theorem w_c4 : (Jvm.Cond.code ({ cls := "com/example/copse/copse/graph/TargetSearch", name := "arcLimitReached", desc := "()Z" } : Jvm.MethodName) prog_46_method_4_code (1 : Nat) (Option.some Jvm.ClassFile.FieldType.boolean)).before args0 about1 = true := code_word (m := ⟨3, 3⟩) (meth := k3m3) (c := k3c3) (by decide +kernel) rfl rfl rfl (by decide +kernel)
set_option maxRecDepth 65536 in
theorem w_c5 : (Jvm.Cond.code ({ cls := "com/example/copse/copse/graph/TargetSearch", name := "setArcLimit", desc := "(J)V" } : Jvm.MethodName) prog_46_method_3_code (3 : Nat) (Option.none : Option Jvm.ClassFile.FieldType)).before args0 about1 = true := code_word (m := ⟨3, 2⟩) (meth := k3m2) (c := k3c2) (by decide +kernel) rfl rfl rfl (by decide +kernel)
set_option maxRecDepth 65536 in
theorem w_c6 : (Jvm.Cond.code ({ cls := "com/example/copse/copse/graph/TargetSearchArcLimitReachedPinLaw", name := "<init>", desc := "(I)V" } : Jvm.MethodName) method_1_code (2 : Nat) (Option.none : Option Jvm.ClassFile.FieldType)).before args0 about1 = true := code_word (m := ⟨2, 0⟩) (meth := k2m0) (c := k2c0) (by decide +kernel) rfl rfl rfl (by decide +kernel)
set_option maxRecDepth 65536 in
theorem w_c7 : (Jvm.Cond.code ({ cls := "com/example/copse/copse/graph/TargetSearch", name := "reachesAll", desc := "(Lcom/example/copse/copse/graph/SuccessorLists;I[I)Z" } : Jvm.MethodName) prog_46_method_7_code (8 : Nat) (Option.some Jvm.ClassFile.FieldType.boolean)).before args0 about1 = true := code_word (m := ⟨3, 4⟩) (meth := k3m4) (c := k3c4) (by decide +kernel) rfl rfl rfl (by decide +kernel)
set_option maxRecDepth 65536 in
theorem w_c8 : (Jvm.Cond.code ({ cls := "com/example/copse/copse/graph/TargetSearch", name := "startSearch", desc := "(Lcom/example/copse/copse/graph/SuccessorLists;I)V" } : Jvm.MethodName) prog_46_method_13_code (3 : Nat) (Option.none : Option Jvm.ClassFile.FieldType)).before args0 about1 = true := code_word (m := ⟨3, 6⟩) (meth := k3m6) (c := k3c6) (by decide +kernel) rfl rfl rfl (by decide +kernel)
set_option maxRecDepth 65536 in
theorem w_c9 : (Jvm.Cond.code ({ cls := "com/example/copse/copse/graph/TargetSearchArcLimitReachedPinLaw", name := "nodeCount", desc := "()I" } : Jvm.MethodName) method_2_code (1 : Nat) (Option.some Jvm.ClassFile.FieldType.int)).before args0 about1 = true := code_word (m := ⟨2, 1⟩) (meth := k2m1) (c := k2c1) (by decide +kernel) rfl rfl rfl (by decide +kernel)
set_option maxRecDepth 65536 in
theorem w_c10 : (Jvm.Cond.code ({ cls := "java/util/Objects", name := "checkIndex", desc := "(II)I" } : Jvm.MethodName) jdk_31_method_17_code (2 : Nat) (Option.some Jvm.ClassFile.FieldType.int)).before args0 about1 = true := code_word (m := ⟨5, 1⟩) (meth := k5m1) (c := k5c1) (by decide +kernel) rfl rfl rfl (by decide +kernel)
set_option maxRecDepth 65536 in
theorem w_c11 : (Jvm.Cond.code ({ cls := "jdk/internal/util/Preconditions", name := "checkIndex", desc := "(IILjava/util/function/BiFunction;)I" } : Jvm.MethodName) jdk_41_method_11_code (3 : Nat) (Option.some Jvm.ClassFile.FieldType.int)).before args0 about1 = true := code_word (m := ⟨6, 1⟩) (meth := k6m1) (c := k6c1) (by decide +kernel) rfl rfl rfl (by decide +kernel)
set_option maxRecDepth 65536 in
theorem w_c12 : (Jvm.Cond.code ({ cls := "com/example/copse/copse/graph/TargetSearch", name := "breadthFirst", desc := "(Lcom/example/copse/copse/graph/SuccessorLists;ILjava/util/function/IntPredicate;)Z" } : Jvm.MethodName) prog_46_method_11_code (11 : Nat) (Option.some Jvm.ClassFile.FieldType.boolean)).before args0 about1 = true := code_word (m := ⟨3, 5⟩) (meth := k3m5) (c := k3c5) (by decide +kernel) rfl rfl rfl (by decide +kernel)
set_option maxRecDepth 65536 in
theorem w_c13 : (Jvm.Cond.code ({ cls := "com/example/copse/copse/graph/TargetSearch", name := "lambda$reachesAll$0", desc := "(I)Z" } : Jvm.MethodName) prog_46_method_15_code (2 : Nat) (Option.some Jvm.ClassFile.FieldType.boolean)).before args0 about1 = true := code_word (m := ⟨3, 7⟩) (meth := k3m7) (c := k3c7) (by decide +kernel) rfl rfl rfl (by decide +kernel)
set_option maxRecDepth 65536 in
theorem w_c14 : (Jvm.Cond.code ({ cls := "com/example/copse/copse/graph/TargetSearchArcLimitReachedPinLaw", name := "outDegree", desc := "(I)I" } : Jvm.MethodName) method_3_code (2 : Nat) (Option.some Jvm.ClassFile.FieldType.int)).before args0 about1 = true := code_word (m := ⟨2, 2⟩) (meth := k2m2) (c := k2c2) (by decide +kernel) rfl rfl rfl (by decide +kernel)
set_option maxRecDepth 65536 in
theorem w_c15 : (Jvm.Cond.code ({ cls := "com/example/copse/copse/graph/TargetSearch", name := "arcsLookedAt", desc := "()J" } : Jvm.MethodName) prog_46_method_2_code (1 : Nat) (Option.some Jvm.ClassFile.FieldType.long)).before args0 about1 = true := code_word (m := ⟨3, 1⟩) (meth := k3m1) (c := k3c1) (by decide +kernel) rfl rfl rfl (by decide +kernel)
set_option maxRecDepth 65536 in
theorem w_c16 : (Jvm.Cond.code ({ cls := "com/example/copse/copse/graph/TargetSearchArcLimitReachedPinLaw", name := "successor", desc := "(II)I" } : Jvm.MethodName) method_4_code (3 : Nat) (Option.some Jvm.ClassFile.FieldType.int)).before args0 about1 = true := code_word (m := ⟨2, 3⟩) (meth := k2m3) (c := k2c3) (by decide +kernel) rfl rfl rfl (by decide +kernel)
def codes1 : List Jvm.Cond := [Jvm.Cond.code x code maxLocals ret, Jvm.Cond.code ({ cls := "com/example/copse/copse/graph/TargetSearch", name := "<init>", desc := "(I)V" } : Jvm.MethodName) prog_46_method_1_code (2 : Nat) (Option.none : Option Jvm.ClassFile.FieldType), Jvm.Cond.code ({ cls := "java/lang/Object", name := "<init>", desc := "()V" } : Jvm.MethodName) object_method_1_code (1 : Nat) (Option.none : Option Jvm.ClassFile.FieldType), Jvm.Cond.code ({ cls := "com/example/copse/copse/graph/GraphArrays", name := "checkNodeCount", desc := "(I)I" } : Jvm.MethodName) prog_40_method_2_code (1 : Nat) (Option.some Jvm.ClassFile.FieldType.int), Jvm.Cond.code ({ cls := "com/example/copse/copse/graph/TargetSearch", name := "arcLimitReached", desc := "()Z" } : Jvm.MethodName) prog_46_method_4_code (1 : Nat) (Option.some Jvm.ClassFile.FieldType.boolean), Jvm.Cond.code ({ cls := "com/example/copse/copse/graph/TargetSearch", name := "setArcLimit", desc := "(J)V" } : Jvm.MethodName) prog_46_method_3_code (3 : Nat) (Option.none : Option Jvm.ClassFile.FieldType), Jvm.Cond.code ({ cls := "com/example/copse/copse/graph/TargetSearchArcLimitReachedPinLaw", name := "<init>", desc := "(I)V" } : Jvm.MethodName) method_1_code (2 : Nat) (Option.none : Option Jvm.ClassFile.FieldType), Jvm.Cond.code ({ cls := "com/example/copse/copse/graph/TargetSearch", name := "reachesAll", desc := "(Lcom/example/copse/copse/graph/SuccessorLists;I[I)Z" } : Jvm.MethodName) prog_46_method_7_code (8 : Nat) (Option.some Jvm.ClassFile.FieldType.boolean), Jvm.Cond.code ({ cls := "com/example/copse/copse/graph/TargetSearch", name := "startSearch", desc := "(Lcom/example/copse/copse/graph/SuccessorLists;I)V" } : Jvm.MethodName) prog_46_method_13_code (3 : Nat) (Option.none : Option Jvm.ClassFile.FieldType), Jvm.Cond.code ({ cls := "com/example/copse/copse/graph/TargetSearchArcLimitReachedPinLaw", name := "nodeCount", desc := "()I" } : Jvm.MethodName) method_2_code (1 : Nat) (Option.some Jvm.ClassFile.FieldType.int), Jvm.Cond.code ({ cls := "java/util/Objects", name := "checkIndex", desc := "(II)I" } : Jvm.MethodName) jdk_31_method_17_code (2 : Nat) (Option.some Jvm.ClassFile.FieldType.int), Jvm.Cond.code ({ cls := "jdk/internal/util/Preconditions", name := "checkIndex", desc := "(IILjava/util/function/BiFunction;)I" } : Jvm.MethodName) jdk_41_method_11_code (3 : Nat) (Option.some Jvm.ClassFile.FieldType.int), Jvm.Cond.code ({ cls := "com/example/copse/copse/graph/TargetSearch", name := "breadthFirst", desc := "(Lcom/example/copse/copse/graph/SuccessorLists;ILjava/util/function/IntPredicate;)Z" } : Jvm.MethodName) prog_46_method_11_code (11 : Nat) (Option.some Jvm.ClassFile.FieldType.boolean), Jvm.Cond.code ({ cls := "com/example/copse/copse/graph/TargetSearch", name := "lambda$reachesAll$0", desc := "(I)Z" } : Jvm.MethodName) prog_46_method_15_code (2 : Nat) (Option.some Jvm.ClassFile.FieldType.boolean), Jvm.Cond.code ({ cls := "com/example/copse/copse/graph/TargetSearchArcLimitReachedPinLaw", name := "outDegree", desc := "(I)I" } : Jvm.MethodName) method_3_code (2 : Nat) (Option.some Jvm.ClassFile.FieldType.int), Jvm.Cond.code ({ cls := "com/example/copse/copse/graph/TargetSearch", name := "arcsLookedAt", desc := "()J" } : Jvm.MethodName) prog_46_method_2_code (1 : Nat) (Option.some Jvm.ClassFile.FieldType.long), Jvm.Cond.code ({ cls := "com/example/copse/copse/graph/TargetSearchArcLimitReachedPinLaw", name := "successor", desc := "(II)I" } : Jvm.MethodName) method_4_code (3 : Nat) (Option.some Jvm.ClassFile.FieldType.int)]
set_option maxRecDepth 65536 in
theorem codes_eq : words1.filter isCode = codes1 := rfl
theorem w_codes : ∀ c ∈ words1.filter isCode, c.before args0 about1 = true := by
  rw [codes_eq]
  intro c hc
  simp only [codes1, List.mem_cons, List.not_mem_nil, or_false] at hc
  rcases hc with rfl | rfl | rfl | rfl | rfl | rfl | rfl | rfl | rfl | rfl | rfl | rfl | rfl | rfl | rfl | rfl | rfl
  · exact w_c0
  · exact w_c1
  · exact w_c2
  · exact w_c3
  · exact w_c4
  · exact w_c5
  · exact w_c6
  · exact w_c7
  · exact w_c8
  · exact w_c9
  · exact w_c10
  · exact w_c11
  · exact w_c12
  · exact w_c13
  · exact w_c14
  · exact w_c15
  · exact w_c16
set_option maxRecDepth 65536 in
theorem w_t1 : (words1.take 24).all (fun c => isCode c || c.before args0 about1) = true := by decide +kernel
set_option maxRecDepth 65536 in
theorem w_t2 : ((words1.drop 24).take 24).all (fun c => isCode c || c.before args0 about1) = true := by decide +kernel
set_option maxRecDepth 65536 in
theorem w_t3 : (((words1.drop 24).drop 24).take 24).all (fun c => isCode c || c.before args0 about1) = true := by decide +kernel
set_option maxRecDepth 65536 in
theorem w_t4 : ((((words1.drop 24).drop 24).drop 24).take 24).all (fun c => isCode c || c.before args0 about1) = true := by decide +kernel
set_option maxRecDepth 65536 in
theorem w_t5 : ((((words1.drop 24).drop 24).drop 24).drop 24).all (fun c => isCode c || c.before args0 about1) = true := by decide +kernel
theorem w_tables : (allAtoms (Jvm.Cond.code x code maxLocals ret :: tables_1)).before args0 about1 = true := by
  rw [allAtoms_all]
  show words1.all (fun c => c.before args0 about1) = true
  refine all_split ?_ w_codes
  rw [← List.take_append_drop 24 words1, List.all_append, w_t1, ← List.take_append_drop 24 (words1.drop 24), List.all_append, w_t2, ← List.take_append_drop 24 ((words1.drop 24).drop 24), List.all_append, w_t3, ← List.take_append_drop 24 (((words1.drop 24).drop 24).drop 24), List.all_append, w_t4, w_t5]
  rfl
set_option maxRecDepth 65536 in
theorem w_case : (Jvm.Cond.and given_1 narrow_1).before args0 about1 = true := by decide +kernel
theorem w_applies : (headSpec (Jvm.Cond.code x code maxLocals ret :: tables_1) room_1).applies x e0.platform about1 = true :=
  (Spec.applies_iff w_frames).mpr ⟨w_running, w_runnable, w_alone, w_named, w_hears, w_ripe, w_room, w_tables⟩
theorem atStart : AtStart classFile x code maxLocals ret World_1 tables_1 room_1 Calls_1 rest_1 Pre_1 launch0 p0 e0 about1 theMethod args0 below0 :=
  ⟨lists_1, trivial, launch0.admits_env _ _ _, launch0.least_env, fairChoices_fair.cas, fairChoices_fair.clock, w_frames, w_args, w_heap, w_applies, trivial, trivial, w_case⟩
end start1
theorem witness_1 : WitnessClaimed_1 := ⟨start1.p0, start1.e0, start1.about1, start1.theMethod, start1.args0, start1.below0, start1.atStart⟩
end Jvm.Pilot.@@N@@
