import JvmDerived
import JvmDerived.Pilot.@@N@@Statement
import JvmDerived.Pilot.@@N@@Code
set_option linter.unusedVariables false
set_option linter.unusedSimpArgs false
namespace Jvm.Pilot.@@N@@
open Jvm Jvm.ClassFile Sem Op Lib Jvm.Free Jvm.Stand Jvm.LawKit Jvm.RoadKit Bundle Jvm.Pilot.@@N@@.Jvm.D
/-! own layer: a run that ends well, said backwards -/
section OwnGo
variable {p : Program} {l : Launch} {e : Env} {R : Room} {s : State} {m : MethodId} {args : Array Value} {below : List Frame} {meth : Method} {c : Code} {T T' : State} {locs : List Loc} {cells slots : Nat} {Z : State} {a0 : Array Value} {h : Heap} {Q : Option Value → Heap → List Loc → Prop} {C S maxL0 : Nat} {g g' : JFrame}
def Go (p : Program) (e : Env) (below : List Frame) (s : State) (Q : Option Value → Heap → List Loc → Prop) (C S : Nat) (T : State) (g : JFrame) : Prop :=
  ∃ s₂ o, Steps p.tables e below (T.setTop g) s₂ ∧ s₂.status = .running ∧ Ended s₂ below o ∧ ∃ v L, o = .returned v ∧ Q v s₂.heap L ∧ FrameEnd s o s₂ L C S
abbrev Gg {p : Program} {e : Env} {below : List Frame} {s : State} {Q : Option Value → Heap → List Loc → Prop} {C S : Nat} {Ls : Array Slot} (T : State) (m : MethodId) (pc : Nat) (st : List Value) : Prop := Go p e below s Q C S T (mkF m pc Ls st)
theorem wd {a0 : Array Value} {Z : State} {ts : List Cond} (hw : ∀ d ∈ ts, d.before a0 Z = true) (i : Nat) {d : Cond} (h : ts[i]? = some d) : d.before a0 Z = true := hw _ (List.mem_of_getElem? h)
def Ct (p : Program) (s : State) (m : MethodId) (meth : Method) (c : Code) (Z : State) (own nm : String) (bytes : ByteArray) (maxL : Nat) (ret : Option FieldType) : Prop :=
  p.tables.exec = Jvm.exec ∧ Z.Warmed39 s.vm ∧ s.vm.findClass own = some m.cls ∧ c.code = bytes ∧ c.maxLocals = maxL ∧ meth.sig.returnType = ret ∧ meth.locks = false ∧ meth.name = nm
theorem go_st (k : ∀ t, Steps p.tables e below (T'.setTop g') t → Steps p.tables e below (T.setTop g) t) (q : Go p e below s Q C S T' g') : Go p e below s Q C S T g := by
  obtain ⟨s2, o, q1, q2⟩ := q
  exact ⟨s2, o, k _ q1, q2⟩
theorem castGo (q : g = g') (k : Go p e below s Q C S T g') : Go p e below s Q C S T g := by rw [q]; exact k
theorem go_tr (k : Steps p.tables e below (T.setTop g) (T'.setTop g')) (q : Go p e below s Q C S T' g') : Go p e below s Q C S T g := by
  obtain ⟨s2, o, q1, q2⟩ := q
  exact ⟨s2, o, k.trans q1, q2⟩
theorem go_end (X : Stand p l e R s m args below meth c T locs cells slots) (hlk : meth.locks = false) {v : Option Value} (hv : meth.sig.returnType = none → v = none)
    (hr : ∀ fs, (∀ (f : JFrame) (acts : List Action), f.method = m → f.locked = none → f.entered = [] → (doReturn e (T.setTop f) acts v).1 = T.setFrames fs) → Steps p.tables e below (T.setTop g) (T.setFrames fs))
    (hC : cells ≤ C) (hS : slots ≤ S) (hQ : Q v T.heap locs) : Go p e below s Q C S T g := by
  obtain ⟨fs, h1, hrun, hended, hW, hsame⟩ := X.leave (v := v) hv hlk
  exact ⟨_, _, hr fs h1, hrun, hended, _, _, rfl, hQ, ⟨_, rfl⟩, hW, hsame.mono hC hS⟩
theorem go_retI (X : Stand p l e R s m args below meth c T locs cells slots) (hx : p.tables.exec = Jvm.exec) (hlk : meth.locks = false) (hret : meth.sig.returnType = some .int) {pc : Nat} {Ls : Array Slot} {z : Int32} {rest : List Value} (hd : decode c.code pc = .ok (.ireturn, 1))
    (hC : cells ≤ C) (hS : slots ≤ S) (hQ : Q (some (.int z)) T.heap locs) : Go p e below s Q C S T (mkF m pc Ls (.int z :: rest)) :=
  go_end X hlk (fun h => by rw [hret] at h; cases h) (fun fs h1 => retOut X hx hret rfl (Or.inl ⟨rfl, Or.inl rfl, _, rfl⟩) hd h1) hC hS hQ
theorem go_retL (X : Stand p l e R s m args below meth c T locs cells slots) (hx : p.tables.exec = Jvm.exec) (hlk : meth.locks = false) (hret : meth.sig.returnType = some .long) {pc : Nat} {Ls : Array Slot} {z : Int64} {rest : List Value} (hd : decode c.code pc = .ok (.lreturn, 1))
    (hC : cells ≤ C) (hS : slots ≤ S) (hQ : Q (some (.long z)) T.heap locs) : Go p e below s Q C S T (mkF m pc Ls (.long z :: rest)) :=
  go_end X hlk (fun h => by rw [hret] at h; cases h) (fun fs h1 => retOut X hx hret rfl (Or.inr (Or.inl ⟨rfl, rfl, _, rfl⟩)) hd h1) hC hS hQ
theorem go_retD (X : Stand p l e R s m args below meth c T locs cells slots) (hx : p.tables.exec = Jvm.exec) (hlk : meth.locks = false) (hret : meth.sig.returnType = some .double) {pc : Nat} {Ls : Array Slot} {z : UInt64} {rest : List Value} (hd : decode c.code pc = .ok (.dreturn, 1))
    (hC : cells ≤ C) (hS : slots ≤ S) (hQ : Q (some (.double z)) T.heap locs) : Go p e below s Q C S T (mkF m pc Ls (.double z :: rest)) :=
  go_end X hlk (fun h => by rw [hret] at h; cases h) (fun fs h1 => retOut X hx hret rfl (Or.inr (Or.inr (Or.inl ⟨rfl, rfl, _, rfl⟩))) hd h1) hC hS hQ
theorem go_retA (X : Stand p l e R s m args below meth c T locs cells slots) (hx : p.tables.exec = Jvm.exec) (hlk : meth.locks = false) {t : FieldType} (hret : meth.sig.returnType = some t) (ht : t.isReference = true) {w : Value} (hw : w.isRef = true) {pc : Nat} {Ls : Array Slot} {rest : List Value} (hd : decode c.code pc = .ok (.areturn, 1))
    (hC : cells ≤ C) (hS : slots ≤ S) (hQ : Q (some w) T.heap locs) : Go p e below s Q C S T (mkF m pc Ls (w :: rest)) :=
  go_end X hlk (fun h => by rw [hret] at h; cases h) (fun fs h1 => retOut X hx hret (by cases t <;> simp_all [FieldType.isReference, narrow] <;> cases w <;> simp_all [Value.isRef, narrow]) (Or.inr (Or.inr (Or.inr (Or.inr ⟨rfl, ht, hw⟩)))) hd h1) hC hS hQ
theorem go_retB (X : Stand p l e R s m args below meth c T locs cells slots) (hx : p.tables.exec = Jvm.exec) (hlk : meth.locks = false) (hret : meth.sig.returnType = some .boolean) {pc : Nat} {Ls : Array Slot} {z w : Int32} {rest : List Value} (hd : decode c.code pc = .ok (.ireturn, 1)) (hw : z &&& 1 = w)
    (hC : cells ≤ C) (hS : slots ≤ S) (hQ : Q (some (.int w)) T.heap locs) : Go p e below s Q C S T (mkF m pc Ls (.int z :: rest)) := by
  subst hw
  exact go_end X hlk (fun h => by rw [hret] at h; cases h) (fun fs h1 => retN X hx (t := .boolean) hret (by simp) hd h1) hC hS hQ
theorem go_ret0 (X : Stand p l e R s m args below meth c T locs cells slots) (hx : p.tables.exec = Jvm.exec) (hlk : meth.locks = false) (hret : meth.sig.returnType = none) {pc : Nat} {Ls : Array Slot} (hd : decode c.code pc = .ok (.return_, 1))
    (hC : cells ≤ C) (hS : slots ≤ S) (hQ : Q none T.heap locs) : Go p e below s Q C S T (mkF m pc Ls []) :=
  go_end X hlk (fun _ => rfl) (fun fs h1 => X.returnOut hx hret hd h1) hC hS hQ
def Met (l : Launch) (y : MethodName) (bytes : ByteArray) (maxL : Nat) (ret : Option FieldType) (ws : List Cond) (rm : Room) (Z : State) (as' : Array Value) (h0 : Heap) (Q : Option Value → Heap → List Loc → Prop) (C S : Nat) : Prop :=
  MetFree l y (head1 (Jvm.Cond.code y bytes maxL ret :: ws) rm) (fun a U => a = as' ∧ Z.Warmed39 U.vm ∧ U.heap = h0) (fun _ _ _ _ _ => True) (fun _ U o U' => ∃ v L, o = .returned v ∧ Q v U'.heap L ∧ FrameEnd U o U' L C S)
def QV (w : Option Value) (h0 : Heap) (n0 : Nat) (v : Option Value) (h : Heap) (L : List Loc) : Prop := v = w ∧ Fr n0 L ∧ h = h0
def QF (w : Option Value) (n0 : Nat) (v : Option Value) (h : Heap) (L : List Loc) : Prop := v = w ∧ Fr n0 L
theorem own_body {y : MethodName} {bytes : ByteArray} {maxL : Nat} {ret : Option FieldType} {rm : Room} {as' : Array Value} {h0 : Heap} {ws : List Cond} (hn : plainFor y = true) {C S : Nat}
    (H : ∀ p e s m below meth c s₁, Ct p s m meth c Z y.cls y.name bytes maxL ret → Stand p l e rm s m as' below meth c s₁ [] 0 0 → s₁.heap = h0 → Go p e below s Q C S s₁ (entryFrame m as' maxL)) :
    Met l y bytes maxL ret ws rm Z as' h0 Q C S := by
  refine MetFree.of_bodySF hn hisR ?_
  intro p e s m args below meth c s₁ Bd hml0 hP hK
  obtain ⟨rfl, hZ, hh⟩ := hP
  have hown : s.vm.findClass y.cls = some m.cls := findClass_of_methodNamed Bd.named
  have hnm := (name_of_methodNamed Bd.named Bd.method).1
  have X0 : Stand p l e rm s m args below meth c s₁ [] 0 0 := Stand.of_body Bd
  have e0 : s₁.heap = h0 := by rw [← hh, Bd.state]; rfl
  exact H p e s m below meth c s₁ ⟨Bd.exec, hZ, hown, Bd.bytes, hml0, Bd.returns, Bd.notSynchronized, hnm⟩ X0 e0
theorem go_callS (X : Stand p l e R s m args below meth c T locs cells slots) (hx : p.tables.exec = Jvm.exec) (hZ : Z.Warmed39 s.vm) (hml : c.maxLocals = maxL0) {own : String} {index : Nat} {y : MethodName} {bytes : ByteArray} {maxL : Nat} {ret : Option FieldType} (hown : s.vm.findClass own = some m.cls)
    (w1 : (Cond.methodLink own index y).before a0 Z = true) (w2 : (Cond.static y).before a0 Z = true) (w3 : (Cond.initialized y.cls).before a0 Z = true) (w4 : (Cond.code y bytes maxL ret).before a0 Z = true) (eT : T.heap = h) {argsL rest : List Value} {rm : Room} {Q' : Option Value → Heap → List Loc → Prop} {W : Nat}
    (hM : Met l y bytes maxL ret [] rm Z argsL.toArray h Q' rm.cells rm.slots)
    (hd : decode c.code g.pc = .ok (.invokestatic index, 3)) (hs : g.stack = argsL.reverse ++ rest) (hg : g.method = m) (hsz : g.locals.size = maxL0) (hlen : ∀ sig, parseMethodDescriptor y.desc = some sig → argsL.length = sig.parameters.length) (hW : 2 * g.monitorRoom + (rest.map fun v => v.category).sum ≤ W)
    (hy : y.cls ≠ "java/lang/invoke/MethodHandle" ∧ y.cls ≠ "java/lang/invoke/VarHandle") (hf : rm.frames + 1 ≤ R.frames) (hl : W + (maxL + 11) + rm.locals ≤ R.locals) (hc : cells + rm.cells ≤ R.cells) (hsl : slots + rm.slots ≤ R.slots)
    (k : ∀ T' v L, Stand p l e R s m args below meth c T' (locs ++ L) (cells + rm.cells) (slots + rm.slots) → Q' v T'.heap L → Go p e below s Q C S T' { g with pc := g.pc + 3, stack := v.toList ++ rest }) : Go p e below s Q C S T g := by
  obtain ⟨v, _, ⟨T1, L1, k1, n1⟩, -, X1, ⟨Lc, hQ, l1, y1, z1⟩, st⟩ := Jvm.LawKit.callS X hx (y := y) hown (mvT hZ w1) (mvT hZ w2) (mvT hZ w3) (mvT hZ w4) hy (backOf (W := W) hM hZ w4 w3 hf hl) (g := g) hg (hsz.trans hml.symm) (argsL := argsL) (rest := rest) hlen hs hW hd (fun _ _ => ⟨rfl, eT, hc, hsl⟩)
  dsimp only [Pt.U, Pt.locs, Pt.cells, Pt.slots] at X1 l1 y1 z1 st hQ
  subst l1 y1 z1
  exact go_st st (k _ _ _ X1 hQ)
theorem go_callV (X : Stand p l e R s m args below meth c T locs cells slots) (hx : p.tables.exec = Jvm.exec) (hZ : Z.Warmed39 s.vm) (hml : c.maxLocals = maxL0) {own K : String} {index : Nat} {y z : MethodName} {bytes : ByteArray} {maxL : Nat} {ret : Option FieldType} (hown : s.vm.findClass own = some m.cls)
    (w1 : (Cond.methodLink own index y).before a0 Z = true) (w2 : (Cond.declares y).before a0 Z = true) (w2' : NotFace s y) (w3 : (Cond.selects K y z).before a0 Z = true) (w3' : (Cond.instanceMethod z).before a0 Z = true) (w4 : (Cond.code z bytes maxL ret).before a0 Z = true) (w5 : (Cond.initialized z.cls).before a0 Z = true) (eT : T.heap = h) {a : Addr} (E : Exa Z h a K) {argsL rest : List Value} {rm : Room} {Q' : Option Value → Heap → List Loc → Prop} {W : Nat}
    (hM : Met l z bytes maxL ret [] rm Z (.ref a :: argsL).toArray h Q' rm.cells rm.slots)
    (hd : decode c.code g.pc = .ok (.invokevirtual index, 3)) (hs : g.stack = argsL.reverse ++ .ref a :: rest) (hg : g.method = m) (hsz : g.locals.size = maxL0) (hlen : ∀ sig, parseMethodDescriptor y.desc = some sig → argsL.length = sig.parameters.length) (hW : 2 * g.monitorRoom + (rest.map fun v => v.category).sum ≤ W)
    (hy : y.cls ≠ "java/lang/invoke/MethodHandle" ∧ y.cls ≠ "java/lang/invoke/VarHandle") (hf : rm.frames + 1 ≤ R.frames) (hl : W + (maxL + 11) + rm.locals ≤ R.locals) (hc : cells + rm.cells ≤ R.cells) (hsl : slots + rm.slots ≤ R.slots)
    (k : ∀ T' v L, Stand p l e R s m args below meth c T' (locs ++ L) (cells + rm.cells) (slots + rm.slots) → Q' v T'.heap L → Go p e below s Q C S T' { g with pc := g.pc + 3, stack := v.toList ++ rest }) : Go p e below s Q C S T g := by
  obtain ⟨cB, kB, q1, q2, q3⟩ := isOf hZ eT E
  obtain ⟨v, _, ⟨T1, L1, k1, n1⟩, -, X1, ⟨Lc, hQ, l1, y1, z1⟩, st⟩ := X.virtualBack hx (y := y) (z := z) hown (mvT hZ w1) (mvT hZ w2) w2' (mvT hZ w3) (mvT hZ w3') hy (backOf (W := W) hM hZ w4 w5 hf hl) q1 q3 (g := g) hg (hsz.trans hml.symm) (Steps.refl _) (argsL := argsL) (rest := rest) hlen hs hW hd (fun _ _ => ⟨rfl, eT, hc, hsl⟩)
  dsimp only [Pt.U, Pt.locs, Pt.cells, Pt.slots] at X1 l1 y1 z1 st hQ
  subst l1 y1 z1
  exact go_tr st (k _ _ _ X1 hQ)
theorem go_callU (X : Stand p l e R s m args below meth c T locs cells slots) (hx : p.tables.exec = Jvm.exec) (hZ : Z.Warmed39 s.vm) (hml : c.maxLocals = maxL0) {own K owner : String} {index : Nat} {y z : MethodName} {bytes : ByteArray} {maxL : Nat} {ret : Option FieldType} (hown : s.vm.findClass own = some m.cls)
    (w1 : (Cond.methodLink own index y).before a0 Z = true) (w2 : (Cond.sameMethod y.cls owner y.name y.desc).before a0 Z = true) (w2' : (Cond.declares ⟨owner, y.name, y.desc⟩).before a0 Z = true) (ho : owner ≠ "java/lang/invoke/MethodHandle" ∧ owner ≠ "java/lang/invoke/VarHandle") (w3 : (Cond.selects K y z).before a0 Z = true) (w3' : (Cond.instanceMethod z).before a0 Z = true) (w4 : (Cond.code z bytes maxL ret).before a0 Z = true) (w5 : (Cond.initialized z.cls).before a0 Z = true) (eT : T.heap = h) {a : Addr} (E : Exa Z h a K) {argsL rest : List Value} {rm : Room} {Q' : Option Value → Heap → List Loc → Prop} {W : Nat}
    (hM : Met l z bytes maxL ret [] rm Z (.ref a :: argsL).toArray h Q' rm.cells rm.slots)
    (hd : decode c.code g.pc = .ok (.invokevirtual index, 3)) (hs : g.stack = argsL.reverse ++ .ref a :: rest) (hg : g.method = m) (hsz : g.locals.size = maxL0) (hlen : ∀ sig, parseMethodDescriptor y.desc = some sig → argsL.length = sig.parameters.length) (hW : 2 * g.monitorRoom + (rest.map fun v => v.category).sum ≤ W)
    (hf : rm.frames + 1 ≤ R.frames) (hl : W + (maxL + 11) + rm.locals ≤ R.locals) (hc : cells + rm.cells ≤ R.cells) (hsl : slots + rm.slots ≤ R.slots)
    (k : ∀ T' v L, Stand p l e R s m args below meth c T' (locs ++ L) (cells + rm.cells) (slots + rm.slots) → Q' v T'.heap L → Go p e below s Q C S T' { g with pc := g.pc + 3, stack := v.toList ++ rest }) : Go p e below s Q C S T g := by
  obtain ⟨cB, kB, q1, q2, q3⟩ := isOf hZ eT E
  obtain ⟨v, _, ⟨T1, L1, k1, n1⟩, -, X1, ⟨Lc, hQ, l1, y1, z1⟩, st⟩ := X.virtualBackUp hx (x := y) (y := z) hown (mvT hZ w1) (mvT hZ w2) (mvT hZ w2') ho (mvT hZ w3) (mvT hZ w3') (backOf (W := W) hM hZ w4 w5 hf hl) q1 q3 (g := g) hg (hsz.trans hml.symm) (Steps.refl _) (argsL := argsL) (rest := rest) hlen hs hW hd (fun _ _ => ⟨rfl, eT, hc, hsl⟩)
  dsimp only [Pt.U, Pt.locs, Pt.cells, Pt.slots] at X1 l1 y1 z1 st hQ
  subst l1 y1 z1
  exact go_tr st (k _ _ _ X1 hQ)
theorem go_callI (X : Stand p l e R s m args below meth c T locs cells slots) (hx : p.tables.exec = Jvm.exec) (hZ : Z.Warmed39 s.vm) (hml : c.maxLocals = maxL0) {own : String} {index : Nat} {y : MethodName} {bytes : ByteArray} {maxL : Nat} (hown : s.vm.findClass own = some m.cls) (hy1 : y.name = "<init>")
    (w1 : (Cond.methodLink own index y).before a0 Z = true) (w2 : (Cond.instanceMethod y).before a0 Z = true) (w4 : (Cond.code y bytes maxL none).before a0 Z = true) (w5 : (Cond.initialized y.cls).before a0 Z = true) (eT : T.heap = h) {a : Addr} {argsL rest : List Value} {rm : Room} {Q' : Option Value → Heap → List Loc → Prop} {W : Nat}
    (hM : Met l y bytes maxL none [] rm Z (.ref a :: argsL).toArray h Q' rm.cells rm.slots)
    (hd : decode c.code g.pc = .ok (.invokespecial index, 3)) (hs : g.stack = argsL.reverse ++ .ref a :: rest) (hg : g.method = m) (hsz : g.locals.size = maxL0) (hlen : ∀ sig, parseMethodDescriptor y.desc = some sig → argsL.length = sig.parameters.length) (hW : 2 * g.monitorRoom + (rest.map fun v => v.category).sum ≤ W)
    (hy : y.cls ≠ "java/lang/invoke/MethodHandle" ∧ y.cls ≠ "java/lang/invoke/VarHandle") (hf : rm.frames + 1 ≤ R.frames) (hl : W + (maxL + 11) + rm.locals ≤ R.locals) (hc : cells + rm.cells ≤ R.cells) (hsl : slots + rm.slots ≤ R.slots)
    (k : ∀ T' v L, Stand p l e R s m args below meth c T' (locs ++ L) (cells + rm.cells) (slots + rm.slots) → Q' v T'.heap L → Go p e below s Q C S T' { g with pc := g.pc + 3, stack := v.toList ++ rest }) : Go p e below s Q C S T g := by
  obtain ⟨v, _, ⟨T1, L1, k1, n1⟩, -, X1, ⟨Lc, hQ, l1, y1, z1⟩, st⟩ := X.specialBack hx (y := y) hy1 hown (mvT hZ w1) (mvT hZ w2) (mvT hZ w4) hy (backOf (W := W) hM hZ w4 w5 hf hl) (g := g) hg (hsz.trans hml.symm) (Steps.refl _) (a := a) (argsL := argsL) (rest := rest) hlen hs hW hd (fun _ _ => ⟨rfl, eT, hc, hsl⟩)
  dsimp only [Pt.U, Pt.locs, Pt.cells, Pt.slots] at X1 l1 y1 z1 st hQ
  subst l1 y1 z1
  exact go_tr st (k _ _ _ X1 hQ)
theorem go_getF (X : Stand p l e R s m args below meth c T locs cells slots) (hx : p.tables.exec = Jvm.exec) (hZ : Z.Warmed39 s.vm) {own R0 O n d host : String} {index : Nat} (hown : s.vm.findClass own = some m.cls) (w : (Cond.fieldLink own index R0 n d).before a0 Z = true ∨ (Cond.fieldLinkNest own index R0 n d host).before a0 Z = true) (via : Via Z R0 O n d)
    (eT : T.heap = h) {a : Addr} {v : Value} (F : Fld Z h a O n d v) {rest : List Value} (hd : decode c.code g.pc = .ok (.getfield index, 3)) (hg : g.method = m) (hs : g.stack = .ref a :: rest)
    (k : ∀ T', Stand p l e R s m args below meth c T' locs cells slots → T'.heap = h → Go p e below s Q C S T' { g with pc := g.pc + 3, stack := v :: rest }) : Go p e below s Q C S T g := by
  obtain ⟨T1, X1, e1, st⟩ := getF X hx hZ hown w via eT F hg hs hd
  exact go_st st (k _ X1 e1)
theorem go_getS (X : Stand p l e R s m args below meth c T locs cells slots) (hx : p.tables.exec = Jvm.exec) (hZ : Z.Warmed39 s.vm) {own R0 O n d host : String} {index : Nat} (hown : s.vm.findClass own = some m.cls) (w : (Cond.fieldLink own index R0 n d).before a0 Z = true ∨ (Cond.fieldLinkNest own index R0 n d host).before a0 Z = true) (via : Via Z R0 O n d)
    (eT : T.heap = h) {v : Value} (F : Sta Z h O n d v) (hd : decode c.code g.pc = .ok (.getstatic index, 3)) (hg : g.method = m)
    (k : ∀ T', Stand p l e R s m args below meth c T' locs cells slots → T'.heap = h → Go p e below s Q C S T' { g with pc := g.pc + 3, stack := v :: g.stack }) : Go p e below s Q C S T g := by
  obtain ⟨T1, X1, e1, st⟩ := getS2 X hx hZ hown w via eT F hg hd
  exact go_st st (k _ X1 e1)
theorem go_putF (X : Stand p l e R s m args below meth c T locs cells slots) (hx : p.tables.exec = Jvm.exec) (hZ : Z.Warmed39 s.vm) {own R0 O n d host K : String} {index kk : Nat} {ty : FieldType} (hown : s.vm.findClass own = some m.cls) (w : (Cond.fieldLink own index R0 n d).before a0 Z = true ∨ (Cond.fieldLinkNest own index R0 n d host).before a0 Z = true) (via : Via Z R0 O n d)
    (eT : T.heap = h) {a : Addr} {v old : Value} (F : Fld Z h a O n d old) (E : Exa Z h a K) (L : (Cond.lays K O n d).before a0 Z = true ∨ ((Cond.laysFinal K O n d).before a0 Z = true ∧ own = O ∧ meth.name = "<init>")) (wi : (Cond.instantiable K kk).before a0 Z = true)
    (hty : parseFieldDescriptor d = some ty) (hn : narrow ty v = v) (hf : fits ty v = true) {rest : List Value} (hd : decode c.code g.pc = .ok (.putfield index, 3)) (hg : g.method = m) (hs : g.stack = v :: .ref a :: rest)
    (k : ∀ T' h', Stand p l e R s m args below meth c T' (locs ++ [⟨a, Jvm.RoadKit.slotOf Z O n d⟩]) cells slots → T'.heap = h' → Wr h h' a (Jvm.RoadKit.slotOf Z O n d) v → Go p e below s Q C S T' { g with pc := g.pc + 3, stack := rest }) : Go p e below s Q C S T g := by
  obtain ⟨T1, h1, X1, e1, W1, st⟩ := putF X hx hZ hown w via eT F E L wi hty hn hf hg hs hd
  exact go_st st (k _ _ X1 e1 W1)
theorem go_newO (X : Stand p l e R s m args below meth c T locs cells slots) (hx : p.tables.exec = Jvm.exec) (hZ : Z.Warmed39 s.vm) {own K : String} {index n : Nat} (hown : s.vm.findClass own = some m.cls) (w : (Cond.classLink own index K).before a0 Z = true) (wi : (Cond.instantiable K n).before a0 Z = true) (wz : (Cond.initialized K).before a0 Z = true) (eT : T.heap = h)
    (hd : decode c.code g.pc = .ok (.new index, 3)) (hg : g.method = m) (hc : cells + 1 ≤ R.cells) (hl : slots + n ≤ R.slots)
    (k : ∀ T' h' a, a = h.size → Stand p l e R s m args below meth c T' locs (cells + 1) (slots + n) → T'.heap = h' → Ext h h' → Exa Z h' a K → (∀ {O nm d : String} {ty : FieldType}, Laid Z a0 K O nm d → parseFieldDescriptor d = some ty → Fld Z h' a O nm d (defaultValue ty)) → Go p e below s Q C S T' { g with pc := g.pc + 3, stack := .ref a :: g.stack }) : Go p e below s Q C S T g := by
  obtain ⟨T1, h1, X1, e1, E1, A1, D1, -, st⟩ := newO X hx hZ hown w wi wz eT hg hd hc hl
  exact go_st st (k _ _ _ rfl X1 e1 E1 A1 D1)
theorem go_initO (X : Stand p l e R s m args below meth c T locs cells slots) (hx : p.tables.exec = Jvm.exec) (hZ : Z.Warmed39 s.vm) (hml : c.maxLocals = maxL0) {own : String} {idx : Nat} (hown : s.vm.findClass own = some m.cls) (w1 : (Cond.methodLink own idx Lib.objectInit).before a0 Z = true) (w2 : (Cond.instanceMethod Lib.objectInit).before a0 Z = true)
    (w3 : (Cond.code Lib.objectInit ⟨#[0xb1]⟩ 1 none).before a0 Z = true) (eT : T.heap = h) {a : Addr} {rest : List Value} (hd : decode c.code g.pc = .ok (.invokespecial idx, 3)) (hg : g.method = m) (hsz : g.locals.size = maxL0) (hs : g.stack = .ref a :: rest)
    (hf : 1 ≤ R.frames) {W : Nat} (hW : 2 * g.monitorRoom + (rest.map fun v => v.category).sum ≤ W) (hl : W + 12 ≤ R.locals)
    (k : ∀ T', Stand p l e R s m args below meth c T' locs cells slots → T'.heap = h → Go p e below s Q C S T' { g with pc := g.pc + 3, stack := rest }) : Go p e below s Q C S T g := by
  obtain ⟨T1, X1, e1, st⟩ := initO X hx hZ hown w1 w2 w3 eT hg (hsz.trans hml.symm) hs hd hf hW hl
  exact go_st st (k _ X1 e1)
theorem own_lrem {tb : Tables} [Ours tb] {target : State} (hh : At T m c below) (hx : tb.exec = Jvm.exec) (hg : g.method = m) {x y : Int64} {rest : List Value} (hd : decode c.code g.pc = .ok (.lrem, 1)) (hs : g.stack = .long y :: .long x :: rest) (hy : y ≠ 0)
    (hr : Steps tb e below (T.setTop { g with pc := g.pc + 1, stack := .long (x % y) :: rest }) target) : Steps tb e below (T.setTop g) target :=
  XT.lrem hh hx hg hd hs hy (by rw [lrem_mod]; exact hr)
/-! arrays, their places by a function -/
def GA (Z : State) (h : Heap) (a : Addr) (ty : FieldType) (n : Nat) (f : Nat → Value) : Prop := ∃ cl : Cell, Arr Z h a cl ty ∧ cl.slots.size = n ∧ n < 2 ^ 31 ∧ ∀ i, i < n → cl.slots[i]? = some (f i)
theorem GA.lt {a : Addr} {ty : FieldType} {n : Nat} {f : Nat → Value} (A : GA Z h a ty n f) : a < h.size := by
  obtain ⟨cl, A1, -⟩ := A
  exact A1.lt
theorem GA.ext {a : Addr} {ty : FieldType} {n : Nat} {f : Nat → Value} {h' : Heap} (A : GA Z h a ty n f) (E : Ext h h') : GA Z h' a ty n f := by
  obtain ⟨cl, A1, r⟩ := A
  exact ⟨cl, A1.ext E, r⟩
theorem GA.other {a b : Addr} {ty : FieldType} {n sl : Nat} {v : Value} {f : Nat → Value} {h' : Heap} (A : GA Z h b ty n f) (W : Wr h h' a sl v) (q : b ≠ a) : GA Z h' b ty n f := by
  obtain ⟨cl, A1, r⟩ := A
  exact ⟨cl, A1.other W q, r⟩
theorem GA.keep {a : Addr} {ty : FieldType} {n : Nat} {f : Nat → Value} {h' : Heap} {ws : List Addr} (A : GA Z h a ty n f) (K : Keep h h' ws) (q : a ∉ ws) : GA Z h' a ty n f := by
  obtain ⟨cl, A1, r⟩ := A
  exact ⟨cl, ⟨K.2.1 _ _ A1.1 q, A1.2⟩, r⟩
theorem GA.congr {a : Addr} {ty : FieldType} {n : Nat} {f f' : Nat → Value} (A : GA Z h a ty n f) (q : ∀ i, i < n → f i = f' i) : GA Z h a ty n f' := by
  obtain ⟨cl, A1, A2, A3, A4⟩ := A
  exact ⟨cl, A1, A2, A3, fun i hi => (A4 i hi).trans (by rw [q i hi])⟩
theorem GA.set {a : Addr} {ty : FieldType} {n j : Nat} {v : Value} {f : Nat → Value} {h' : Heap} (A : GA Z h a ty n f) (W : Wr h h' a j v) : GA Z h' a ty n (fun i => if i = j then v else f i) := by
  obtain ⟨cl, A1, A2, A3, A4⟩ := A
  obtain ⟨c2, w1, w2, w3, w4⟩ := W
  obtain rfl : cl = c2 := Option.some.inj (A1.1.symm.trans w1)
  refine ⟨cl.setSlot j v, A1.same ⟨cl, w1, w2, w3, w4⟩, (sz_set cl j v).trans A2, A3, fun i hi => ?_⟩
  show (cl.slots.setIfInBounds j v)[i]? = _
  rw [Array.getElem?_setIfInBounds]
  by_cases q : i = j
  · subst q
    rw [if_pos rfl, if_pos w3]
    simp only [if_true]
  · rw [if_neg (fun h => q h.symm)]
    simp only [if_neg q]
    exact A4 i hi
theorem GA.len {a : Addr} {ty : FieldType} {n : Nat} {f : Nat → Value} (A : GA Z h a ty n f) : n < 2 ^ 31 := by
  obtain ⟨cl, -, -, A3, -⟩ := A
  exact A3
def OC (Z : State) (h : Heap) (a : Addr) (ty : FieldType) (K : String) : Prop := ∃ cl : Cell, Arr Z h a cl ty ∧ Ovr Z cl.cls K
theorem OC.ext {a : Addr} {ty : FieldType} {K : String} {h' : Heap} (A : OC Z h a ty K) (E : Ext h h') : OC Z h' a ty K := by
  obtain ⟨cl, A1, A2⟩ := A
  exact ⟨cl, A1.ext E, A2⟩
theorem OC.wr {a b : Addr} {ty : FieldType} {K : String} {sl : Nat} {v : Value} {h' : Heap} (A : OC Z h b ty K) (W : Wr h h' a sl v) : OC Z h' b ty K := by
  obtain ⟨cl, A1, A2⟩ := A
  by_cases q : b = a
  · subst q
    exact ⟨_, A1.same W, A2⟩
  · exact ⟨cl, A1.other W q, A2⟩
theorem OC.keep {b : Addr} {ty : FieldType} {K : String} {h' : Heap} {ws : List Addr} (A : OC Z h b ty K) (Kp : Keep h h' ws) : OC Z h' b ty K := by
  obtain ⟨cl, ⟨A1, A3, A4⟩, A2⟩ := A
  obtain ⟨c', q1, q2, q3, q4⟩ := Kp.2.2 _ _ A1
  refine ⟨c', ⟨q1, ?_, by rw [q3]; exact A4⟩, by rw [q2]; exact A2⟩
  unfold State.isArrayOf at A3 ⊢
  rw [q2, q3]
  exact A3
theorem OC.sto {a y : Addr} {ty : FieldType} {K : String} (A : OC Z h a ty K) (I : Ins Z h y K true) : Sto Z h a (.ref y) := by
  obtain ⟨cl, A1, A2⟩ := A
  exact Sto.of A1 A2 I
theorem own_in {j : Int32} {n : Nat} (q : 0 ≤ j.toInt ∧ j.toInt < n) : ¬ (j < 0 ∨ n ≤ j.toNatClampNeg) := by
  have h1 : (j.toNatClampNeg : Int) = j.toInt := by have := q.1; simp only [Int32.toNatClampNeg]; omega
  rw [Int32.lt_iff_toInt_lt]
  have : (0 : Int32).toInt = 0 := rfl
  omega
theorem go_alen (X : Stand p l e R s m args below meth c T locs cells slots) (hx : p.tables.exec = Jvm.exec) (hZ : Z.Warmed39 s.vm) (eT : T.heap = h) {a : Addr} {ty : FieldType} {n : Nat} {f : Nat → Value} (A : GA Z h a ty n f) {rest : List Value}
    (hd : decode c.code g.pc = .ok (.arraylength, 1)) (hg : g.method = m) (hs : g.stack = .ref a :: rest) (w : Int32) (hw : Nat.toInt32 n = w) (k : Go p e below s Q C S T { g with pc := g.pc + 1, stack := .int w :: rest }) : Go p e below s Q C S T g := by
  obtain ⟨cl, A1, rfl, -, -⟩ := A
  subst hw
  exact go_st (fun t => X.arraylength hx (by rw [eT]; exact A1.1) (State.isArrayOf_alike hZ.alike A1.2.1) hg hs hd t) k
theorem go_iald (X : Stand p l e R s m args below meth c T locs cells slots) (hx : p.tables.exec = Jvm.exec) (hZ : Z.Warmed39 s.vm) (eT : T.heap = h) {a : Addr} {n : Nat} {f : Nat → Value} (A : GA Z h a .int n f) {j : Int32} {rest : List Value}
    (hd : decode c.code g.pc = .ok (.iaload, 1)) (hg : g.method = m) (hs : g.stack = .int j :: .ref a :: rest) (q : 0 ≤ j.toInt ∧ j.toInt < n) (w : Value) (hw : f j.toNatClampNeg = w) (k : Go p e below s Q C S T { g with pc := g.pc + 1, stack := w :: rest }) : Go p e below s Q C S T g := by
  obtain ⟨cl, A1, rfl, -, A4⟩ := A
  have q2 := own_in q
  refine go_st (fun t => X.iaload hx (j := j) (v := w) (by rw [eT]; exact A1.1) (State.isArrayOf_alike hZ.alike A1.2.1) A1.2.2 q2 ?_ hg hs hd t) k
  rw [A4 _ (by omega), hw]
theorem go_lald (X : Stand p l e R s m args below meth c T locs cells slots) (hx : p.tables.exec = Jvm.exec) (hZ : Z.Warmed39 s.vm) (eT : T.heap = h) {a : Addr} {n : Nat} {f : Nat → Value} (A : GA Z h a .long n f) {j : Int32} {rest : List Value}
    (hd : decode c.code g.pc = .ok (.laload, 1)) (hg : g.method = m) (hs : g.stack = .int j :: .ref a :: rest) (q : 0 ≤ j.toInt ∧ j.toInt < n) (w : Value) (hw : f j.toNatClampNeg = w) (k : Go p e below s Q C S T { g with pc := g.pc + 1, stack := w :: rest }) : Go p e below s Q C S T g := by
  obtain ⟨cl, A1, rfl, -, A4⟩ := A
  have q2 := own_in q
  refine go_st (fun t => X.laload hx (j := j) (v := w) (by rw [eT]; exact A1.1) (State.isArrayOf_alike hZ.alike A1.2.1) A1.2.2 q2 ?_ hg hs hd t) k
  rw [A4 _ (by omega), hw]
theorem go_bald (X : Stand p l e R s m args below meth c T locs cells slots) (hx : p.tables.exec = Jvm.exec) (hZ : Z.Warmed39 s.vm) (eT : T.heap = h) {a : Addr} {n : Nat} {f : Nat → Value} (A : GA Z h a .byte n f) {j : Int32} {rest : List Value}
    (hd : decode c.code g.pc = .ok (.baload, 1)) (hg : g.method = m) (hs : g.stack = .int j :: .ref a :: rest) (q : 0 ≤ j.toInt ∧ j.toInt < n) (w : Value) (hw : f j.toNatClampNeg = w) (k : Go p e below s Q C S T { g with pc := g.pc + 1, stack := w :: rest }) : Go p e below s Q C S T g := by
  obtain ⟨cl, A1, rfl, -, A4⟩ := A
  have q2 := own_in q
  refine go_st (fun t => X.baloadBytes hx (j := j) (v := w) (by rw [eT]; exact A1.1) (State.isArrayOf_alike hZ.alike A1.2.1) A1.2.2 q2 ?_ hg hs hd t) k
  rw [A4 _ (by omega), hw]
theorem go_cald (X : Stand p l e R s m args below meth c T locs cells slots) (hx : p.tables.exec = Jvm.exec) (hZ : Z.Warmed39 s.vm) (eT : T.heap = h) {a : Addr} {n : Nat} {f : Nat → Value} (A : GA Z h a .char n f) {j : Int32} {rest : List Value}
    (hd : decode c.code g.pc = .ok (.caload, 1)) (hg : g.method = m) (hs : g.stack = .int j :: .ref a :: rest) (q : 0 ≤ j.toInt ∧ j.toInt < n) (w : Value) (hw : f j.toNatClampNeg = w) (k : Go p e below s Q C S T { g with pc := g.pc + 1, stack := w :: rest }) : Go p e below s Q C S T g := by
  obtain ⟨cl, A1, rfl, -, A4⟩ := A
  have q2 := own_in q
  refine go_st (fun t => X.caload hx (j := j) (v := w) (by rw [eT]; exact A1.1) (State.isArrayOf_alike hZ.alike A1.2.1) A1.2.2 q2 ?_ hg hs hd t) k
  rw [A4 _ (by omega), hw]
theorem go_aald (X : Stand p l e R s m args below meth c T locs cells slots) (hx : p.tables.exec = Jvm.exec) (hZ : Z.Warmed39 s.vm) (eT : T.heap = h) {a : Addr} {ty : FieldType} {n : Nat} {f : Nat → Value} (A : GA Z h a ty n f) (hty : ty.isReference = true) {j : Int32} {rest : List Value}
    (hd : decode c.code g.pc = .ok (.aaload, 1)) (hg : g.method = m) (hs : g.stack = .int j :: .ref a :: rest) (q : 0 ≤ j.toInt ∧ j.toInt < n) (w : Value) (hw : f j.toNatClampNeg = w) (k : Go p e below s Q C S T { g with pc := g.pc + 1, stack := w :: rest }) : Go p e below s Q C S T g := by
  obtain ⟨cl, A1, rfl, -, A4⟩ := A
  have q2 := own_in q
  refine go_st (fun t => X.aaload hx (j := j) (v := w) (by rw [eT]; exact A1.1) (State.isArrayOf_alike hZ.alike A1.2.1) hty A1.2.2 q2 ?_ hg hs hd t) k
  rw [A4 _ (by omega), hw]
theorem go_iast (X : Stand p l e R s m args below meth c T locs cells slots) (hx : p.tables.exec = Jvm.exec) (hZ : Z.Warmed39 s.vm) (eT : T.heap = h) {a : Addr} {n : Nat} {f : Nat → Value} (A : GA Z h a .int n f) {j x : Int32} {rest : List Value}
    (hd : decode c.code g.pc = .ok (.iastore, 1)) (hg : g.method = m) (hs : g.stack = .int x :: .int j :: .ref a :: rest) (q : 0 ≤ j.toInt ∧ j.toInt < n)
    (k : ∀ T' h', Stand p l e R s m args below meth c T' (locs ++ [⟨a, j.toNatClampNeg⟩]) cells slots → T'.heap = h' → Wr h h' a j.toNatClampNeg (.int x) → GA Z h' a .int n (fun i => if i = j.toNatClampNeg then .int x else f i) → Go p e below s Q C S T' { g with pc := g.pc + 1, stack := rest }) : Go p e below s Q C S T g := by
  have A' := A
  obtain ⟨cl, A1, rfl, -, A4⟩ := A
  obtain ⟨T1, h1, X1, e1, W1, st⟩ := stI X hx hZ eT A1 (own_in q) hg hs hd
  exact go_st st (k _ _ X1 e1 W1 (A'.set W1))
theorem go_last (X : Stand p l e R s m args below meth c T locs cells slots) (hx : p.tables.exec = Jvm.exec) (hZ : Z.Warmed39 s.vm) (eT : T.heap = h) {a : Addr} {n : Nat} {f : Nat → Value} (A : GA Z h a .long n f) {j : Int32} {x : Int64} {rest : List Value}
    (hd : decode c.code g.pc = .ok (.lastore, 1)) (hg : g.method = m) (hs : g.stack = .long x :: .int j :: .ref a :: rest) (q : 0 ≤ j.toInt ∧ j.toInt < n)
    (k : ∀ T' h', Stand p l e R s m args below meth c T' (locs ++ [⟨a, j.toNatClampNeg⟩]) cells slots → T'.heap = h' → Wr h h' a j.toNatClampNeg (.long x) → GA Z h' a .long n (fun i => if i = j.toNatClampNeg then .long x else f i) → Go p e below s Q C S T' { g with pc := g.pc + 1, stack := rest }) : Go p e below s Q C S T g := by
  have A' := A
  obtain ⟨cl, A1, rfl, -, A4⟩ := A
  obtain ⟨T1, h1, X1, e1, W1, st⟩ := stJ X hx hZ eT A1 (own_in q) hg hs hd
  exact go_st st (k _ _ X1 e1 W1 (A'.set W1))
theorem go_bast (X : Stand p l e R s m args below meth c T locs cells slots) (hx : p.tables.exec = Jvm.exec) (hZ : Z.Warmed39 s.vm) (eT : T.heap = h) {a : Addr} {n : Nat} {f : Nat → Value} (A : GA Z h a .byte n f) {j x : Int32} {rest : List Value}
    (hd : decode c.code g.pc = .ok (.bastore, 1)) (hg : g.method = m) (hs : g.stack = .int x :: .int j :: .ref a :: rest) (q : 0 ≤ j.toInt ∧ j.toInt < n)
    (k : ∀ T' h', Stand p l e R s m args below meth c T' (locs ++ [⟨a, j.toNatClampNeg⟩]) cells slots → T'.heap = h' → Wr h h' a j.toNatClampNeg (.int x.toInt8.toInt32) → GA Z h' a .byte n (fun i => if i = j.toNatClampNeg then .int x.toInt8.toInt32 else f i) → Go p e below s Q C S T' { g with pc := g.pc + 1, stack := rest }) : Go p e below s Q C S T g := by
  have A' := A
  obtain ⟨cl, A1, rfl, -, A4⟩ := A
  obtain ⟨T1, h1, X1, e1, W1, st⟩ := stB X hx hZ eT A1 (own_in q) hg hs hd
  exact go_st st (k _ _ X1 e1 W1 (A'.set W1))
theorem go_cast (X : Stand p l e R s m args below meth c T locs cells slots) (hx : p.tables.exec = Jvm.exec) (hZ : Z.Warmed39 s.vm) (eT : T.heap = h) {a : Addr} {n : Nat} {f : Nat → Value} (A : GA Z h a .char n f) {j x : Int32} {rest : List Value}
    (hd : decode c.code g.pc = .ok (.castore, 1)) (hg : g.method = m) (hs : g.stack = .int x :: .int j :: .ref a :: rest) (q : 0 ≤ j.toInt ∧ j.toInt < n)
    (k : ∀ T' h', Stand p l e R s m args below meth c T' (locs ++ [⟨a, j.toNatClampNeg⟩]) cells slots → T'.heap = h' → Wr h h' a j.toNatClampNeg (.int (nar .char x)) → GA Z h' a .char n (fun i => if i = j.toNatClampNeg then .int (nar .char x) else f i) → Go p e below s Q C S T' { g with pc := g.pc + 1, stack := rest }) : Go p e below s Q C S T g := by
  have A' := A
  obtain ⟨cl, A1, rfl, -, A4⟩ := A
  obtain ⟨T1, h1, X1, e1, W1, st⟩ := stC X hx hZ eT A1 (own_in q) hg hs hd
  exact go_st st (k _ _ X1 e1 W1 (A'.set W1))
theorem go_aast (X : Stand p l e R s m args below meth c T locs cells slots) (hx : p.tables.exec = Jvm.exec) (hZ : Z.Warmed39 s.vm) (eT : T.heap = h) {a : Addr} {ty : FieldType} {n : Nat} {f : Nat → Value} (A : GA Z h a ty n f) (hty : ty.isReference = true) {j : Int32} {v : Value} (F : Sto Z h a v) {rest : List Value}
    (hd : decode c.code g.pc = .ok (.aastore, 1)) (hg : g.method = m) (hs : g.stack = v :: .int j :: .ref a :: rest) (q : 0 ≤ j.toInt ∧ j.toInt < n)
    (k : ∀ T' h', Stand p l e R s m args below meth c T' (locs ++ [⟨a, j.toNatClampNeg⟩]) cells slots → T'.heap = h' → Wr h h' a j.toNatClampNeg v → GA Z h' a ty n (fun i => if i = j.toNatClampNeg then v else f i) → Go p e below s Q C S T' { g with pc := g.pc + 1, stack := rest }) : Go p e below s Q C S T g := by
  have A' := A
  obtain ⟨cl, A1, rfl, -, A4⟩ := A
  obtain ⟨T1, h1, X1, e1, W1, st⟩ := stR X hx hZ eT A1 (own_in q) hty F hg hs hd
  exact go_st st (k _ _ X1 e1 W1 (A'.set W1))
theorem own_clamp {n : Int32} {N : Nat} (q : n.toInt = N) : n.toNatClampNeg = N := by simp only [Int32.toNatClampNeg]; omega
theorem own_nneg {n : Int32} {N : Nat} (q : n.toInt = N) : ¬ n < 0 := by
  rw [Int32.lt_iff_toInt_lt]
  have : (0 : Int32).toInt = 0 := rfl
  omega
theorem go_newP (X : Stand p l e R s m args below meth c T locs cells slots) (hx : p.tables.exec = Jvm.exec) (hZ : Z.Warmed39 s.vm) {aty : ArrayType} (w : (Cond.arrayClass (newarray.typeOf aty)).before a0 Z = true) (eT : T.heap = h) {n : Int32} {rest : List Value} (hd : decode c.code g.pc = .ok (.newarray aty, 2)) (hg : g.method = m) (hs : g.stack = .int n :: rest)
    (N : Nat) (hn : n.toInt = N) (cap : Nat) (hcap : N ≤ cap) (hb : cap * 8 ≤ 536870912) (hc : cells + 1 ≤ R.cells) (hl : slots + cap ≤ R.slots)
    (k : ∀ T' h' a, a = h.size → Stand p l e R s m args below meth c T' locs (cells + 1) (slots + cap) → T'.heap = h' → Ext h h' → GA Z h' a (newarray.typeOf aty) N (fun _ => defaultValue (newarray.typeOf aty)) → Go p e below s Q C S T' { g with pc := g.pc + 2, stack := .ref a :: rest }) : Go p e below s Q C S T g := by
  have hN := own_clamp hn
  have hn0 := own_nneg hn
  obtain ⟨T1, h1, cA, X1, e1, E1, A1, st⟩ := newP X hx hZ w eT hg hd hs hn0 (cap := cap) (by omega) hb hc hl
  refine go_st st (k _ _ _ rfl X1 e1 E1 ⟨_, A1, (sz_new _ _ _).trans hN, ?_, fun i hi => ?_⟩)
  · have := (rng32 n).2
    omega
  · show (Array.replicate n.toNatClampNeg (defaultValue _))[i]? = _
    rw [hN, Array.getElem?_replicate, if_pos hi]
theorem go_newR (X : Stand p l e R s m args below meth c T locs cells slots) (hx : p.tables.exec = Jvm.exec) (hZ : Z.Warmed39 s.vm) {own K : String} {index : Nat} (hown : s.vm.findClass own = some m.cls) (w1 : (Cond.classLink own index K).before a0 Z = true) (w2 : (Cond.arrayOver (.object K)).before a0 Z = true) (eT : T.heap = h) {n : Int32} {rest : List Value} (hd : decode c.code g.pc = .ok (.anewarray index, 3)) (hg : g.method = m) (hs : g.stack = .int n :: rest)
    (N : Nat) (hn : n.toInt = N) (cap : Nat) (hcap : N ≤ cap) (hb : cap * 8 ≤ 536870912) (hc : cells + 1 ≤ R.cells) (hl : slots + cap ≤ R.slots)
    (k : ∀ T' h' a, a = h.size → Stand p l e R s m args below meth c T' locs (cells + 1) (slots + cap) → T'.heap = h' → Ext h h' → GA Z h' a (.object K) N (fun _ => .null) → OC Z h' a (.object K) K → Go p e below s Q C S T' { g with pc := g.pc + 3, stack := .ref a :: rest }) : Go p e below s Q C S T g := by
  have hN := own_clamp hn
  have hn0 := own_nneg hn
  obtain ⟨T1, h1, cA, X1, e1, E1, A1, O1, st⟩ := newR X hx hZ hown w1 w2 eT hg hd hs hn0 (cap := cap) (by omega) hb hc hl
  refine go_st st (k _ _ _ rfl X1 e1 E1 ⟨_, A1, (sz_new _ _ _).trans hN, ?_, fun i hi => ?_⟩ ⟨_, A1, O1⟩)
  · have := (rng32 n).2
    omega
  · show (Array.replicate n.toNatClampNeg (defaultValue _))[i]? = _
    rw [hN, Array.getElem?_replicate, if_pos hi]
    rfl
end OwnGo
section OwnMore
variable {p : Program} {l : Launch} {e : Env} {R : Room} {s : State} {m : MethodId} {args : Array Value} {below : List Frame} {meth : Method} {c : Code} {T T' : State} {locs : List Loc} {cells slots : Nat} {Z : State} {a0 : Array Value} {h : Heap} {Q : Option Value → Heap → List Loc → Prop} {C S maxL0 : Nat} {g g' : JFrame}
theorem go_zald (X : Stand p l e R s m args below meth c T locs cells slots) (hx : p.tables.exec = Jvm.exec) (hZ : Z.Warmed39 s.vm) (eT : T.heap = h) {a : Addr} {n : Nat} {f : Nat → Value} (A : GA Z h a .boolean n f) {j : Int32} {rest : List Value}
    (hd : decode c.code g.pc = .ok (.baload, 1)) (hg : g.method = m) (hs : g.stack = .int j :: .ref a :: rest) (q : 0 ≤ j.toInt ∧ j.toInt < n) (w : Value) (hw : f j.toNatClampNeg = w) (k : Go p e below s Q C S T { g with pc := g.pc + 1, stack := w :: rest }) : Go p e below s Q C S T g := by
  obtain ⟨cl, A1, rfl, -, A4⟩ := A
  have q2 := own_in q
  refine go_st (fun t => X.baloadBooleans hx (j := j) (v := w) (by rw [eT]; exact A1.1) (State.isArrayOf_alike hZ.alike A1.2.1) A1.2.2 q2 ?_ hg hs hd t) k
  rw [A4 _ (by omega), hw]
theorem go_zast (X : Stand p l e R s m args below meth c T locs cells slots) (hx : p.tables.exec = Jvm.exec) (hZ : Z.Warmed39 s.vm) (eT : T.heap = h) {a : Addr} {n : Nat} {f : Nat → Value} (A : GA Z h a .boolean n f) {j x : Int32} {rest : List Value}
    (hd : decode c.code g.pc = .ok (.bastore, 1)) (hg : g.method = m) (hs : g.stack = .int x :: .int j :: .ref a :: rest) (q : 0 ≤ j.toInt ∧ j.toInt < n)
    (k : ∀ T' h', Stand p l e R s m args below meth c T' (locs ++ [⟨a, j.toNatClampNeg⟩]) cells slots → T'.heap = h' → Wr h h' a j.toNatClampNeg (.int (x &&& 1)) → GA Z h' a .boolean n (fun i => if i = j.toNatClampNeg then .int (x &&& 1) else f i) → Go p e below s Q C S T' { g with pc := g.pc + 1, stack := rest }) : Go p e below s Q C S T g := by
  have A' := A
  obtain ⟨cl, A1, rfl, -, A4⟩ := A
  obtain ⟨T1, h1, X1, e1, W1, st⟩ := stZ X hx hZ eT A1 (own_in q) hg hs hd
  exact go_st st (k _ _ X1 e1 W1 (A'.set W1))
theorem own_arv {a : Addr} {ty : FieldType} {N : Nat} {f : Nat → Value} {dv : Value} (A : GA Z h a ty N f) (fa : ∀ i, i < N → fits ty (f i) = true) {z : Int32} (hz : z.toInt = N) : ∃ k, Arv Z h a k ty z ((List.range N).map f) dv := by
  obtain ⟨cl, A1, A2, A3, A4⟩ := A
  have hz2 := own_clamp hz
  refine ⟨cl.cls, cl, A1, rfl, by rw [A2, hz2], own_nneg hz, fun i hi => ?_, fun i hi => ?_⟩
  · rw [A2] at hi
    rw [A4 i hi, List.getD_eq_getElem?_getD, List.getElem?_map, List.getElem?_range hi]
    rfl
  · rw [A2] at hi
    rw [List.getD_eq_getElem?_getD, List.getElem?_map, List.getElem?_range hi]
    exact fa i hi
theorem own_ga {a : Addr} {k : ClassId} {ty : FieldType} {N : Nat} {f : Nat → Value} {dv : Value} {z : Int32} (hz : z.toInt = N) {vs : List Value} (F : Arv Z h a k ty z vs dv) (hv : ∀ i, i < N → vs.getD i dv = f i) : GA Z h a ty N f := by
  obtain ⟨cl, A1, -, A2, A3, A4, -⟩ := F
  have hz2 := own_clamp hz
  have := (rng32 z).2
  exact ⟨cl, A1, by rw [A2, hz2], by omega, fun i hi => by rw [A4 i (by rw [A2, hz2]; exact hi), hv i hi]⟩
theorem go_acpy (X : Stand p l e R s m args below meth c T locs cells slots) (hx : p.tables.exec = Jvm.exec) (hZ : Z.Warmed39 s.vm) (hml : c.maxLocals = maxL0) {own : String} {index : Nat} (hown : s.vm.findClass own = some m.cls)
    (w1 : (Cond.methodLink own index Jvm.Stand.acN).before a0 Z = true) (w2 : (Cond.native Jvm.Stand.acN).before a0 Z = true) (w3 : (Cond.static Jvm.Stand.acN).before a0 Z = true) (w4 : (Cond.initialized "java/lang/System").before a0 Z = true) (eT : T.heap = h)
    {a b : Addr} {ty : FieldType} (hty : refKind ty = false) {N : Nat} {f f' : Nat → Value} (A : GA Z h a ty N f) (B : GA Z h b ty N f') (fa : ∀ i, i < N → fits ty (f i) = true) (fb : ∀ i, i < N → fits ty (f' i) = true) {nn : Int32} (hnn : nn.toInt = N) {n0 : Nat} (N0 : Fr n0 locs) (ge : n0 ≤ b) {rest : List Value}
    (hd : decode c.code g.pc = .ok (.invokestatic index, 3)) (hg : g.method = m) (hsz : g.locals.size = maxL0) (hs : g.stack = .int nn :: .int 0 :: .ref b :: .int 0 :: .ref a :: rest)
    (hf : 1 ≤ R.frames) {W : Nat} (hW : 2 * g.monitorRoom + (rest.map fun v => v.category).sum ≤ W) (hlo : W + (nativeFrameWords "java/lang/System" "arraycopy" 5 + 11) ≤ R.locals)
    (k : ∀ T' h' L, Stand p l e R s m args below meth c T' L cells slots → T'.heap = h' → Fr n0 L → Keep h h' [b] → GA Z h' b ty N f → Go p e below s Q C S T' { g with pc := g.pc + 3, stack := rest }) : Go p e below s Q C S T g := by
  obtain ⟨k1, A1⟩ := own_arv (dv := .null) A fa hnn
  obtain ⟨k2, B1⟩ := own_arv (dv := .null) B fb hnn
  have hz2 := own_clamp hnn
  have h0 : (0 : Int32).toNatClampNeg = 0 := rfl
  obtain ⟨T1, h1, L1, X1, e1, N1, K1, G1, st⟩ := cpA X hx hZ hown w1 w2 w3 w4 eT A1 B1 (us := (List.range N).map f) (Or.inl ⟨rfl, hty⟩) (sp := 0) (dp := 0) (nn := nn) (by decide) (by decide) (own_nneg hnn) (by rw [h0, hz2]; omega) (by rw [h0, hz2]; omega)
    (by
      rw [h0, hz2]
      apply List.map_congr_left
      intro i hi
      have hi' := List.mem_range.mp hi
      rw [Nat.zero_add, List.getD_eq_getElem?_getD, List.getElem?_map, List.getElem?_range hi']
      rfl) (by rw [h0, hz2]; simp) N0 ge hg (hsz.trans hml.symm) hs hd hf hW hlo
  refine go_st st (k _ _ _ X1 e1 N1 K1 (own_ga hnn G1 fun i hi => ?_))
  rw [h0, hz2, List.take_zero, List.nil_append, Nat.zero_add, List.drop_eq_nil_of_le (by simp), List.append_nil, List.getD_eq_getElem?_getD, List.getElem?_map, List.getElem?_range hi]
  rfl
theorem go_grid (X : Stand p l e R s m args below meth c T locs cells slots) (hx : p.tables.exec = Jvm.exec) (hZ : Z.Warmed39 s.vm) {own : String} {index : Nat} (hown : s.vm.findClass own = some m.cls) (w1 : (Cond.classLink own index "[[B").before a0 Z = true) (w2 : (Cond.arrayOver (.array .byte)).before a0 Z = true) (w3 : (Cond.arrayClass .byte).before a0 Z = true) (eT : T.heap = h)
    {n kk : Int32} {rest : List Value} (hd : decode c.code g.pc = .ok (.multianewarray index 2, 4)) (hg : g.method = m) (hs : g.stack = .int kk :: .int n :: rest) (N M : Nat) (hn : n.toInt = N) (hk : kk.toInt = M) (hN : N ≤ 1000) (hM : M ≤ 1000) (cc cs : Nat) (hcc : 1 + N ≤ cc) (hcs : N + N * M ≤ cs) (hc : cells + cc ≤ R.cells) (hl : slots + cs ≤ R.slots)
    (k : ∀ T' h' a (rows : Nat → Addr), a = h.size → (∀ i, rows i = h.size + 1 + i) → Stand p l e R s m args below meth c T' locs (cells + cc) (slots + cs) → T'.heap = h' → Ext h h' → GA Z h' a (.array .byte) N (fun i => .ref (rows i)) → (∀ i, i < N → GA Z h' (rows i) .byte M (fun _ => .int 0)) → Go p e below s Q C S T' { g with pc := g.pc + 4, stack := .ref a :: rest }) : Go p e below s Q C S T g := by
  have hN2 := own_clamp hn
  have hM2 := own_clamp hk
  obtain ⟨T1, h1, cA, comp, X1, e1, E1, V1, -, -, I1, st⟩ := gridM X hx hZ (ty := .byte) hown (C := "[B") (ad := "[[B") (by decide) (by decide) w1 w2 w3 eT hg hd hs (own_nneg hn) (own_nneg hk) (xs := (List.range N).map fun j => h.size + 1 + j) hN2 rfl (cap := M) (by omega) (by omega) (by omega) (by decide) (by decide) (by omega) (by omega)
  refine go_st st (k _ _ _ (fun i => h.size + 1 + i) rfl (fun _ => rfl) (X1.mono (by omega) (by omega)) e1 E1 (own_ga hn V1 fun i hi => ?_) fun i hi => ?_)
  · rw [List.getD_eq_getElem?_getD, List.getElem?_map, List.getElem?_map, List.getElem?_range hi]
    rfl
  · have q := (I1 i (h.size + 1 + i) (by rw [List.getElem?_map, List.getElem?_range hi]; rfl)).1
    have := (rng32 kk).2
    refine ⟨_, q, (sz_new _ _ _).trans hM2, by omega, fun j hj => ?_⟩
    show (Array.replicate kk.toNatClampNeg (defaultValue _))[j]? = _
    rw [hM2, Array.getElem?_replicate, if_pos hj]
    rfl
end OwnMore

section OwnPriv
variable {p : Program} {l : Launch} {e : Env} {R : Room} {s : State} {m : MethodId} {args : Array Value} {below : List Frame} {meth : Method} {c : Code} {T T' : State} {locs : List Loc} {cells slots : Nat} {Z : State} {a0 : Array Value} {h : Heap} {Q : Option Value → Heap → List Loc → Prop} {C S maxL0 : Nat} {g g' : JFrame}
theorem go_callP (X : Stand p l e R s m args below meth c T locs cells slots) (hx : p.tables.exec = Jvm.exec) (hZ : Z.Warmed39 s.vm) (hml : c.maxLocals = maxL0) {own K : String} {index nk : Nat} {y : MethodName} {bytes : ByteArray} {maxL : Nat} {ret : Option FieldType} (hown : s.vm.findClass own = some m.cls)
    (w1 : (Cond.methodLink own index y).before a0 Z = true) (w2 : (Cond.privateMethod y).before a0 Z = true) (w3 : (Cond.instantiable y.cls nk).before a0 Z = true) (w3' : (Cond.instanceMethod y).before a0 Z = true) (w4 : (Cond.code y bytes maxL ret).before a0 Z = true) (w5 : (Cond.initialized y.cls).before a0 Z = true) (eT : T.heap = h) {a : Addr} (E : Exa Z h a K) {argsL rest : List Value} {rm : Room} {Q' : Option Value → Heap → List Loc → Prop} {W : Nat}
    (hM : Met l y bytes maxL ret [] rm Z (.ref a :: argsL).toArray h Q' rm.cells rm.slots)
    (hd : decode c.code g.pc = .ok (.invokevirtual index, 3)) (hs : g.stack = argsL.reverse ++ .ref a :: rest) (hg : g.method = m) (hsz : g.locals.size = maxL0) (hlen : ∀ sig, parseMethodDescriptor y.desc = some sig → argsL.length = sig.parameters.length) (hW : 2 * g.monitorRoom + (rest.map fun v => v.category).sum ≤ W)
    (hy : y.cls ≠ "java/lang/invoke/MethodHandle" ∧ y.cls ≠ "java/lang/invoke/VarHandle") (hf : rm.frames + 1 ≤ R.frames) (hl : W + (maxL + 11) + rm.locals ≤ R.locals) (hc : cells + rm.cells ≤ R.cells) (hsl : slots + rm.slots ≤ R.slots)
    (k : ∀ T' v L, Stand p l e R s m args below meth c T' (locs ++ L) (cells + rm.cells) (slots + rm.slots) → Q' v T'.heap L → Go p e below s Q C S T' { g with pc := g.pc + 3, stack := v.toList ++ rest }) : Go p e below s Q C S T g := by
  obtain ⟨cB, kB, q1, q2, cell, q3, q4, q5⟩ := isOf hZ eT E
  have w3s := mvT (args := args) hZ w3
  obtain ⟨ck, kk, i1, i2, i3, i4, -⟩ := Cond.instantiable_spec w3s
  have hp := Cond.privateMethod_at (mvT (args := args) hZ w2)
  have hsel := selects_self_of_private (args := args) i1 i2 (by cases hq : kk.isInterface <;> simp_all) hp (mvT hZ w3') hy
  obtain ⟨v, _, ⟨T1, L1, k1, n1⟩, -, X1, ⟨Lc, hQ, l1, y1, z1⟩, st⟩ := X.privateBack hx (y := y) hown (mvT hZ w1) (mvT hZ w3') hsel hp (mvT hZ w4) hy (backOf (W := W) hM hZ w4 w5 hf hl) (g := g) hg (hsz.trans hml.symm) (Steps.refl _) q3 (fun qq hqq => by rw [hqq] at q5; exact Bool.noConfusion (show true = false from q5)) (argsL := argsL) (rest := rest) hlen hs hW hd (fun _ _ => ⟨rfl, eT, hc, hsl⟩)
  dsimp only [Pt.U, Pt.locs, Pt.cells, Pt.slots] at X1 l1 y1 z1 st hQ
  subst l1 y1 z1
  exact go_tr st (k _ _ _ X1 hQ)
end OwnPriv
section OwnZero
variable {p : Program} {l : Launch} {e : Env} {R : Room} {s : State} {m : MethodId} {args : Array Value} {below : List Frame} {meth : Method} {c : Code} {T T' : State} {locs : List Loc} {cells slots : Nat} {Z : State} {a0 : Array Value} {h : Heap} {Q : Option Value → Heap → List Loc → Prop} {C S maxL0 : Nat} {g g' : JFrame}
theorem go_acp0 (X : Stand p l e R s m args below meth c T locs cells slots) (hx : p.tables.exec = Jvm.exec) (hZ : Z.Warmed39 s.vm) (hml : c.maxLocals = maxL0) {own : String} {index : Nat} (hown : s.vm.findClass own = some m.cls)
    (w1 : (Cond.methodLink own index Jvm.Stand.acN).before a0 Z = true) (w2 : (Cond.native Jvm.Stand.acN).before a0 Z = true) (w3 : (Cond.static Jvm.Stand.acN).before a0 Z = true) (w4 : (Cond.initialized "java/lang/System").before a0 Z = true) (eT : T.heap = h)
    {a b : Addr} {ty : FieldType} (hty : refKind ty = false) {M N : Nat} {f f' : Nat → Value} (A : GA Z h a ty M f) (B : GA Z h b ty N f') (fa : ∀ i, i < M → fits ty (f i) = true) (fb : ∀ i, i < N → fits ty (f' i) = true) {zm zn : Int32} (hm : zm.toInt = M) (hn : zn.toInt = N) {n0 : Nat} (N0 : Fr n0 locs) (ge : n0 ≤ b) {rest : List Value}
    (hd : decode c.code g.pc = .ok (.invokestatic index, 3)) (hg : g.method = m) (hsz : g.locals.size = maxL0) (hs : g.stack = .int 0 :: .int 0 :: .ref b :: .int 0 :: .ref a :: rest)
    (hf : 1 ≤ R.frames) {W : Nat} (hW : 2 * g.monitorRoom + (rest.map fun v => v.category).sum ≤ W) (hlo : W + (nativeFrameWords "java/lang/System" "arraycopy" 5 + 11) ≤ R.locals)
    (k : ∀ T' h' L, Stand p l e R s m args below meth c T' L cells slots → T'.heap = h' → Fr n0 L → Keep h h' [b] → GA Z h' b ty N f' → Go p e below s Q C S T' { g with pc := g.pc + 3, stack := rest }) : Go p e below s Q C S T g := by
  obtain ⟨k1, A1⟩ := own_arv (dv := .null) A fa hm
  obtain ⟨k2, B1⟩ := own_arv (dv := .null) B fb hn
  have h0 : (0 : Int32).toNatClampNeg = 0 := rfl
  obtain ⟨T1, h1, L1, X1, e1, N1, K1, G1, st⟩ := cpA X hx hZ hown w1 w2 w3 w4 eT A1 B1 (us := []) (Or.inl ⟨rfl, hty⟩) (sp := 0) (dp := 0) (nn := 0) (by decide) (by decide) (by decide) (by rw [h0]; omega) (by rw [h0]; omega)
    (by rw [h0]; rfl) (by rw [h0]; simp) N0 ge hg (hsz.trans hml.symm) hs hd hf hW hlo
  refine go_st st (k _ _ _ X1 e1 N1 K1 (own_ga hn G1 fun i hi => ?_))
  rw [h0, List.take_zero, List.nil_append, List.nil_append, Nat.zero_add, List.drop_zero, List.getD_eq_getElem?_getD, List.getElem?_map, List.getElem?_range hi]
  rfl
theorem own_ga0 {s : State} {args : Array Value} {t : Term} {a : Addr} {ty : FieldType} {f : Nat → Value} (ev : t.eval args s none [] s = some (.ref a)) (hx : (Cond.arrayOf t ty).value args s none s [] = some true) (hl : (Cond.eq (.length t) (.int 0)).value args s none s [] = some true) : GA s s.heap a ty 0 f := by
  obtain ⟨cl, A⟩ := Arr.start ev hx
  obtain ⟨u, v, h1, h2, h3, h4⟩ := cmp_v (Or.inl hl)
  have hat := IntBox.arrayAt_of A.1 A.2.1 A.2.2
  by_cases hs : cl.slots.size < 2 ^ 31
  · have h5 := len_f ev hat hs
    have h6 := gotT (Cond.eq_ints h5 (Term.int_eval 0)) hl
    have h7 := congrArg Int32.toInt h6
    rw [len_toInt hs] at h7
    have e0 : (0 : Int32).toInt = 0 := rfl
    exact ⟨cl, A, by omega, by omega, fun i hi => absurd hi (Nat.not_lt_zero _)⟩
  · simp [Term.eval, ev, hat, hs] at h1
end OwnZero

section OwnN
variable {p : Program} {l : Launch} {e : Env} {R : Room} {s : State} {m : MethodId} {args : Array Value} {below : List Frame} {meth : Method} {c : Code} {T T' : State} {locs : List Loc} {cells slots : Nat} {Z : State} {a0 : Array Value} {h : Heap} {Q : Option Value → Heap → List Loc → Prop} {C S maxL0 : Nat} {g g' : JFrame}
theorem go_retN (X : Stand p l e R s m args below meth c T locs cells slots) (hx : p.tables.exec = Jvm.exec) (hlk : meth.locks = false) {t : FieldType} (hret : meth.sig.returnType = some t) (ht : t = .boolean ∨ t = .byte ∨ t = .char ∨ t = .short) {pc : Nat} {Ls : Array Slot} {z w : Int32} {rest : List Value} (hd : decode c.code pc = .ok (.ireturn, 1)) (hw : nar t z = w)
    (hC : cells ≤ C) (hS : slots ≤ S) (hQ : Q (some (.int w)) T.heap locs) : Go p e below s Q C S T (mkF m pc Ls (.int z :: rest)) := by
  subst hw
  exact go_end X hlk (fun h => by rw [hret] at h; cases h) (fun fs h1 => retN X hx (t := t) hret ht hd h1) hC hS hQ
end OwnN

section OwnW1
variable {p : Program} {l : Launch} {e : Env} {R : Room} {s : State} {m : MethodId} {args : Array Value} {below : List Frame} {meth : Method} {c : Code} {T T' : State} {locs : List Loc} {cells slots : Nat} {Z : State} {a0 : Array Value} {h : Heap} {Q : Option Value → Heap → List Loc → Prop} {C S maxL0 : Nat} {g g' : JFrame}
def GoW (p : Program) (e : Env) (below : List Frame) (s : State) (Q : Option Value → Heap → List Loc → Prop) (C S : Nat) (T : State) (g : JFrame) : Prop :=
  ∃ s₂ o, Steps p.tables e below (T.setTop g) s₂ ∧ s₂.status = .running ∧ Ended s₂ below o ∧ ∃ v L, o = .returned v ∧ Q v s₂.heap L ∧ ReturnedEndW s o s₂ L C S
abbrev Gwg {p : Program} {e : Env} {below : List Frame} {s : State} {Q : Option Value → Heap → List Loc → Prop} {C S : Nat} {Ls : Array Slot} (T : State) (m : MethodId) (pc : Nat) (st : List Value) : Prop := GoW p e below s Q C S T (mkF m pc Ls st)
theorem gw_st (k : ∀ t, Steps p.tables e below (T'.setTop g') t → Steps p.tables e below (T.setTop g) t) (q : GoW p e below s Q C S T' g') : GoW p e below s Q C S T g := by
  obtain ⟨s2, o, q1, q2⟩ := q
  exact ⟨s2, o, k _ q1, q2⟩
theorem castGoW (q : g = g') (k : GoW p e below s Q C S T g') : GoW p e below s Q C S T g := by rw [q]; exact k
theorem gw_tr (k : Steps p.tables e below (T.setTop g) (T'.setTop g')) (q : GoW p e below s Q C S T' g') : GoW p e below s Q C S T g := by
  obtain ⟨s2, o, q1, q2⟩ := q
  exact ⟨s2, o, k.trans q1, q2⟩
theorem gw_end (X : Stand p l e R s m args below meth c T locs cells slots) (hlk : meth.locks = false) {v : Option Value} (hv : meth.sig.returnType = none → v = none)
    (hr : ∀ fs, (∀ (f : JFrame) (acts : List Action), f.method = m → f.locked = none → f.entered = [] → (doReturn e (T.setTop f) acts v).1 = T.setFrames fs) → Steps p.tables e below (T.setTop g) (T.setFrames fs))
    (hC : cells ≤ C) (hS : slots ≤ S) (hQ : Q v T.heap locs) : GoW p e below s Q C S T g := by
  obtain ⟨fs, h1, hrun, hended, hW, hsame⟩ := X.leave (v := v) hv hlk
  exact ⟨_, _, hr fs h1, hrun, hended, _, _, rfl, hQ, ReturnedEndW.of_narrow ⟨_, rfl⟩ hW (hsame.mono hC hS)⟩
theorem gw_retI (X : Stand p l e R s m args below meth c T locs cells slots) (hx : p.tables.exec = Jvm.exec) (hlk : meth.locks = false) (hret : meth.sig.returnType = some .int) {pc : Nat} {Ls : Array Slot} {z : Int32} {rest : List Value} (hd : decode c.code pc = .ok (.ireturn, 1))
    (hC : cells ≤ C) (hS : slots ≤ S) (hQ : Q (some (.int z)) T.heap locs) : GoW p e below s Q C S T (mkF m pc Ls (.int z :: rest)) :=
  gw_end X hlk (fun h => by rw [hret] at h; cases h) (fun fs h1 => retOut X hx hret rfl (Or.inl ⟨rfl, Or.inl rfl, _, rfl⟩) hd h1) hC hS hQ
theorem gw_retL (X : Stand p l e R s m args below meth c T locs cells slots) (hx : p.tables.exec = Jvm.exec) (hlk : meth.locks = false) (hret : meth.sig.returnType = some .long) {pc : Nat} {Ls : Array Slot} {z : Int64} {rest : List Value} (hd : decode c.code pc = .ok (.lreturn, 1))
    (hC : cells ≤ C) (hS : slots ≤ S) (hQ : Q (some (.long z)) T.heap locs) : GoW p e below s Q C S T (mkF m pc Ls (.long z :: rest)) :=
  gw_end X hlk (fun h => by rw [hret] at h; cases h) (fun fs h1 => retOut X hx hret rfl (Or.inr (Or.inl ⟨rfl, rfl, _, rfl⟩)) hd h1) hC hS hQ
theorem gw_retD (X : Stand p l e R s m args below meth c T locs cells slots) (hx : p.tables.exec = Jvm.exec) (hlk : meth.locks = false) (hret : meth.sig.returnType = some .double) {pc : Nat} {Ls : Array Slot} {z : UInt64} {rest : List Value} (hd : decode c.code pc = .ok (.dreturn, 1))
    (hC : cells ≤ C) (hS : slots ≤ S) (hQ : Q (some (.double z)) T.heap locs) : GoW p e below s Q C S T (mkF m pc Ls (.double z :: rest)) :=
  gw_end X hlk (fun h => by rw [hret] at h; cases h) (fun fs h1 => retOut X hx hret rfl (Or.inr (Or.inr (Or.inl ⟨rfl, rfl, _, rfl⟩))) hd h1) hC hS hQ
theorem gw_retA (X : Stand p l e R s m args below meth c T locs cells slots) (hx : p.tables.exec = Jvm.exec) (hlk : meth.locks = false) {t : FieldType} (hret : meth.sig.returnType = some t) (ht : t.isReference = true) {w : Value} (hw : w.isRef = true) {pc : Nat} {Ls : Array Slot} {rest : List Value} (hd : decode c.code pc = .ok (.areturn, 1))
    (hC : cells ≤ C) (hS : slots ≤ S) (hQ : Q (some w) T.heap locs) : GoW p e below s Q C S T (mkF m pc Ls (w :: rest)) :=
  gw_end X hlk (fun h => by rw [hret] at h; cases h) (fun fs h1 => retOut X hx hret (by cases t <;> simp_all [FieldType.isReference, narrow] <;> cases w <;> simp_all [Value.isRef, narrow]) (Or.inr (Or.inr (Or.inr (Or.inr ⟨rfl, ht, hw⟩)))) hd h1) hC hS hQ
theorem gw_retB (X : Stand p l e R s m args below meth c T locs cells slots) (hx : p.tables.exec = Jvm.exec) (hlk : meth.locks = false) (hret : meth.sig.returnType = some .boolean) {pc : Nat} {Ls : Array Slot} {z w : Int32} {rest : List Value} (hd : decode c.code pc = .ok (.ireturn, 1)) (hw : z &&& 1 = w)
    (hC : cells ≤ C) (hS : slots ≤ S) (hQ : Q (some (.int w)) T.heap locs) : GoW p e below s Q C S T (mkF m pc Ls (.int z :: rest)) := by
  subst hw
  exact gw_end X hlk (fun h => by rw [hret] at h; cases h) (fun fs h1 => retN X hx (t := .boolean) hret (by simp) hd h1) hC hS hQ
theorem gw_ret0 (X : Stand p l e R s m args below meth c T locs cells slots) (hx : p.tables.exec = Jvm.exec) (hlk : meth.locks = false) (hret : meth.sig.returnType = none) {pc : Nat} {Ls : Array Slot} (hd : decode c.code pc = .ok (.return_, 1))
    (hC : cells ≤ C) (hS : slots ≤ S) (hQ : Q none T.heap locs) : GoW p e below s Q C S T (mkF m pc Ls []) :=
  gw_end X hlk (fun _ => rfl) (fun fs h1 => X.returnOut hx hret hd h1) hC hS hQ
theorem gw_callS (X : Stand p l e R s m args below meth c T locs cells slots) (hx : p.tables.exec = Jvm.exec) (hZ : Z.Warmed39 s.vm) (hml : c.maxLocals = maxL0) {own : String} {index : Nat} {y : MethodName} {bytes : ByteArray} {maxL : Nat} {ret : Option FieldType} (hown : s.vm.findClass own = some m.cls)
    (w1 : (Cond.methodLink own index y).before a0 Z = true) (w2 : (Cond.static y).before a0 Z = true) (w3 : (Cond.initialized y.cls).before a0 Z = true) (w4 : (Cond.code y bytes maxL ret).before a0 Z = true) (eT : T.heap = h) {argsL rest : List Value} {rm : Room} {Q' : Option Value → Heap → List Loc → Prop} {W : Nat}
    (hM : Met l y bytes maxL ret [] rm Z argsL.toArray h Q' rm.cells rm.slots)
    (hd : decode c.code g.pc = .ok (.invokestatic index, 3)) (hs : g.stack = argsL.reverse ++ rest) (hg : g.method = m) (hsz : g.locals.size = maxL0) (hlen : ∀ sig, parseMethodDescriptor y.desc = some sig → argsL.length = sig.parameters.length) (hW : 2 * g.monitorRoom + (rest.map fun v => v.category).sum ≤ W)
    (hy : y.cls ≠ "java/lang/invoke/MethodHandle" ∧ y.cls ≠ "java/lang/invoke/VarHandle") (hf : rm.frames + 1 ≤ R.frames) (hl : W + (maxL + 11) + rm.locals ≤ R.locals) (hc : cells + rm.cells ≤ R.cells) (hsl : slots + rm.slots ≤ R.slots)
    (k : ∀ T' v L, Stand p l e R s m args below meth c T' (locs ++ L) (cells + rm.cells) (slots + rm.slots) → Q' v T'.heap L → GoW p e below s Q C S T' { g with pc := g.pc + 3, stack := v.toList ++ rest }) : GoW p e below s Q C S T g := by
  obtain ⟨v, _, ⟨T1, L1, k1, n1⟩, -, X1, ⟨Lc, hQ, l1, y1, z1⟩, st⟩ := Jvm.LawKit.callS X hx (y := y) hown (mvT hZ w1) (mvT hZ w2) (mvT hZ w3) (mvT hZ w4) hy (backOf (W := W) hM hZ w4 w3 hf hl) (g := g) hg (hsz.trans hml.symm) (argsL := argsL) (rest := rest) hlen hs hW hd (fun _ _ => ⟨rfl, eT, hc, hsl⟩)
  dsimp only [Pt.U, Pt.locs, Pt.cells, Pt.slots] at X1 l1 y1 z1 st hQ
  subst l1 y1 z1
  exact gw_st st (k _ _ _ X1 hQ)
theorem gw_callV (X : Stand p l e R s m args below meth c T locs cells slots) (hx : p.tables.exec = Jvm.exec) (hZ : Z.Warmed39 s.vm) (hml : c.maxLocals = maxL0) {own K : String} {index : Nat} {y z : MethodName} {bytes : ByteArray} {maxL : Nat} {ret : Option FieldType} (hown : s.vm.findClass own = some m.cls)
    (w1 : (Cond.methodLink own index y).before a0 Z = true) (w2 : (Cond.declares y).before a0 Z = true) (w2' : NotFace s y) (w3 : (Cond.selects K y z).before a0 Z = true) (w3' : (Cond.instanceMethod z).before a0 Z = true) (w4 : (Cond.code z bytes maxL ret).before a0 Z = true) (w5 : (Cond.initialized z.cls).before a0 Z = true) (eT : T.heap = h) {a : Addr} (E : Exa Z h a K) {argsL rest : List Value} {rm : Room} {Q' : Option Value → Heap → List Loc → Prop} {W : Nat}
    (hM : Met l z bytes maxL ret [] rm Z (.ref a :: argsL).toArray h Q' rm.cells rm.slots)
    (hd : decode c.code g.pc = .ok (.invokevirtual index, 3)) (hs : g.stack = argsL.reverse ++ .ref a :: rest) (hg : g.method = m) (hsz : g.locals.size = maxL0) (hlen : ∀ sig, parseMethodDescriptor y.desc = some sig → argsL.length = sig.parameters.length) (hW : 2 * g.monitorRoom + (rest.map fun v => v.category).sum ≤ W)
    (hy : y.cls ≠ "java/lang/invoke/MethodHandle" ∧ y.cls ≠ "java/lang/invoke/VarHandle") (hf : rm.frames + 1 ≤ R.frames) (hl : W + (maxL + 11) + rm.locals ≤ R.locals) (hc : cells + rm.cells ≤ R.cells) (hsl : slots + rm.slots ≤ R.slots)
    (k : ∀ T' v L, Stand p l e R s m args below meth c T' (locs ++ L) (cells + rm.cells) (slots + rm.slots) → Q' v T'.heap L → GoW p e below s Q C S T' { g with pc := g.pc + 3, stack := v.toList ++ rest }) : GoW p e below s Q C S T g := by
  obtain ⟨cB, kB, q1, q2, q3⟩ := isOf hZ eT E
  obtain ⟨v, _, ⟨T1, L1, k1, n1⟩, -, X1, ⟨Lc, hQ, l1, y1, z1⟩, st⟩ := X.virtualBack hx (y := y) (z := z) hown (mvT hZ w1) (mvT hZ w2) w2' (mvT hZ w3) (mvT hZ w3') hy (backOf (W := W) hM hZ w4 w5 hf hl) q1 q3 (g := g) hg (hsz.trans hml.symm) (Steps.refl _) (argsL := argsL) (rest := rest) hlen hs hW hd (fun _ _ => ⟨rfl, eT, hc, hsl⟩)
  dsimp only [Pt.U, Pt.locs, Pt.cells, Pt.slots] at X1 l1 y1 z1 st hQ
  subst l1 y1 z1
  exact gw_tr st (k _ _ _ X1 hQ)
theorem gw_callU (X : Stand p l e R s m args below meth c T locs cells slots) (hx : p.tables.exec = Jvm.exec) (hZ : Z.Warmed39 s.vm) (hml : c.maxLocals = maxL0) {own K owner : String} {index : Nat} {y z : MethodName} {bytes : ByteArray} {maxL : Nat} {ret : Option FieldType} (hown : s.vm.findClass own = some m.cls)
    (w1 : (Cond.methodLink own index y).before a0 Z = true) (w2 : (Cond.sameMethod y.cls owner y.name y.desc).before a0 Z = true) (w2' : (Cond.declares ⟨owner, y.name, y.desc⟩).before a0 Z = true) (ho : owner ≠ "java/lang/invoke/MethodHandle" ∧ owner ≠ "java/lang/invoke/VarHandle") (w3 : (Cond.selects K y z).before a0 Z = true) (w3' : (Cond.instanceMethod z).before a0 Z = true) (w4 : (Cond.code z bytes maxL ret).before a0 Z = true) (w5 : (Cond.initialized z.cls).before a0 Z = true) (eT : T.heap = h) {a : Addr} (E : Exa Z h a K) {argsL rest : List Value} {rm : Room} {Q' : Option Value → Heap → List Loc → Prop} {W : Nat}
    (hM : Met l z bytes maxL ret [] rm Z (.ref a :: argsL).toArray h Q' rm.cells rm.slots)
    (hd : decode c.code g.pc = .ok (.invokevirtual index, 3)) (hs : g.stack = argsL.reverse ++ .ref a :: rest) (hg : g.method = m) (hsz : g.locals.size = maxL0) (hlen : ∀ sig, parseMethodDescriptor y.desc = some sig → argsL.length = sig.parameters.length) (hW : 2 * g.monitorRoom + (rest.map fun v => v.category).sum ≤ W)
    (hf : rm.frames + 1 ≤ R.frames) (hl : W + (maxL + 11) + rm.locals ≤ R.locals) (hc : cells + rm.cells ≤ R.cells) (hsl : slots + rm.slots ≤ R.slots)
    (k : ∀ T' v L, Stand p l e R s m args below meth c T' (locs ++ L) (cells + rm.cells) (slots + rm.slots) → Q' v T'.heap L → GoW p e below s Q C S T' { g with pc := g.pc + 3, stack := v.toList ++ rest }) : GoW p e below s Q C S T g := by
  obtain ⟨cB, kB, q1, q2, q3⟩ := isOf hZ eT E
  obtain ⟨v, _, ⟨T1, L1, k1, n1⟩, -, X1, ⟨Lc, hQ, l1, y1, z1⟩, st⟩ := X.virtualBackUp hx (x := y) (y := z) hown (mvT hZ w1) (mvT hZ w2) (mvT hZ w2') ho (mvT hZ w3) (mvT hZ w3') (backOf (W := W) hM hZ w4 w5 hf hl) q1 q3 (g := g) hg (hsz.trans hml.symm) (Steps.refl _) (argsL := argsL) (rest := rest) hlen hs hW hd (fun _ _ => ⟨rfl, eT, hc, hsl⟩)
  dsimp only [Pt.U, Pt.locs, Pt.cells, Pt.slots] at X1 l1 y1 z1 st hQ
  subst l1 y1 z1
  exact gw_tr st (k _ _ _ X1 hQ)
theorem gw_callI (X : Stand p l e R s m args below meth c T locs cells slots) (hx : p.tables.exec = Jvm.exec) (hZ : Z.Warmed39 s.vm) (hml : c.maxLocals = maxL0) {own : String} {index : Nat} {y : MethodName} {bytes : ByteArray} {maxL : Nat} (hown : s.vm.findClass own = some m.cls) (hy1 : y.name = "<init>")
    (w1 : (Cond.methodLink own index y).before a0 Z = true) (w2 : (Cond.instanceMethod y).before a0 Z = true) (w4 : (Cond.code y bytes maxL none).before a0 Z = true) (w5 : (Cond.initialized y.cls).before a0 Z = true) (eT : T.heap = h) {a : Addr} {argsL rest : List Value} {rm : Room} {Q' : Option Value → Heap → List Loc → Prop} {W : Nat}
    (hM : Met l y bytes maxL none [] rm Z (.ref a :: argsL).toArray h Q' rm.cells rm.slots)
    (hd : decode c.code g.pc = .ok (.invokespecial index, 3)) (hs : g.stack = argsL.reverse ++ .ref a :: rest) (hg : g.method = m) (hsz : g.locals.size = maxL0) (hlen : ∀ sig, parseMethodDescriptor y.desc = some sig → argsL.length = sig.parameters.length) (hW : 2 * g.monitorRoom + (rest.map fun v => v.category).sum ≤ W)
    (hy : y.cls ≠ "java/lang/invoke/MethodHandle" ∧ y.cls ≠ "java/lang/invoke/VarHandle") (hf : rm.frames + 1 ≤ R.frames) (hl : W + (maxL + 11) + rm.locals ≤ R.locals) (hc : cells + rm.cells ≤ R.cells) (hsl : slots + rm.slots ≤ R.slots)
    (k : ∀ T' v L, Stand p l e R s m args below meth c T' (locs ++ L) (cells + rm.cells) (slots + rm.slots) → Q' v T'.heap L → GoW p e below s Q C S T' { g with pc := g.pc + 3, stack := v.toList ++ rest }) : GoW p e below s Q C S T g := by
  obtain ⟨v, _, ⟨T1, L1, k1, n1⟩, -, X1, ⟨Lc, hQ, l1, y1, z1⟩, st⟩ := X.specialBack hx (y := y) hy1 hown (mvT hZ w1) (mvT hZ w2) (mvT hZ w4) hy (backOf (W := W) hM hZ w4 w5 hf hl) (g := g) hg (hsz.trans hml.symm) (Steps.refl _) (a := a) (argsL := argsL) (rest := rest) hlen hs hW hd (fun _ _ => ⟨rfl, eT, hc, hsl⟩)
  dsimp only [Pt.U, Pt.locs, Pt.cells, Pt.slots] at X1 l1 y1 z1 st hQ
  subst l1 y1 z1
  exact gw_tr st (k _ _ _ X1 hQ)
theorem gw_getF (X : Stand p l e R s m args below meth c T locs cells slots) (hx : p.tables.exec = Jvm.exec) (hZ : Z.Warmed39 s.vm) {own R0 O n d host : String} {index : Nat} (hown : s.vm.findClass own = some m.cls) (w : (Cond.fieldLink own index R0 n d).before a0 Z = true ∨ (Cond.fieldLinkNest own index R0 n d host).before a0 Z = true) (via : Via Z R0 O n d)
    (eT : T.heap = h) {a : Addr} {v : Value} (F : Fld Z h a O n d v) {rest : List Value} (hd : decode c.code g.pc = .ok (.getfield index, 3)) (hg : g.method = m) (hs : g.stack = .ref a :: rest)
    (k : ∀ T', Stand p l e R s m args below meth c T' locs cells slots → T'.heap = h → GoW p e below s Q C S T' { g with pc := g.pc + 3, stack := v :: rest }) : GoW p e below s Q C S T g := by
  obtain ⟨T1, X1, e1, st⟩ := getF X hx hZ hown w via eT F hg hs hd
  exact gw_st st (k _ X1 e1)
theorem gw_getS (X : Stand p l e R s m args below meth c T locs cells slots) (hx : p.tables.exec = Jvm.exec) (hZ : Z.Warmed39 s.vm) {own R0 O n d host : String} {index : Nat} (hown : s.vm.findClass own = some m.cls) (w : (Cond.fieldLink own index R0 n d).before a0 Z = true ∨ (Cond.fieldLinkNest own index R0 n d host).before a0 Z = true) (via : Via Z R0 O n d)
    (eT : T.heap = h) {v : Value} (F : Sta Z h O n d v) (hd : decode c.code g.pc = .ok (.getstatic index, 3)) (hg : g.method = m)
    (k : ∀ T', Stand p l e R s m args below meth c T' locs cells slots → T'.heap = h → GoW p e below s Q C S T' { g with pc := g.pc + 3, stack := v :: g.stack }) : GoW p e below s Q C S T g := by
  obtain ⟨T1, X1, e1, st⟩ := getS2 X hx hZ hown w via eT F hg hd
  exact gw_st st (k _ X1 e1)
theorem gw_putF (X : Stand p l e R s m args below meth c T locs cells slots) (hx : p.tables.exec = Jvm.exec) (hZ : Z.Warmed39 s.vm) {own R0 O n d host K : String} {index kk : Nat} {ty : FieldType} (hown : s.vm.findClass own = some m.cls) (w : (Cond.fieldLink own index R0 n d).before a0 Z = true ∨ (Cond.fieldLinkNest own index R0 n d host).before a0 Z = true) (via : Via Z R0 O n d)
    (eT : T.heap = h) {a : Addr} {v old : Value} (F : Fld Z h a O n d old) (E : Exa Z h a K) (L : (Cond.lays K O n d).before a0 Z = true ∨ ((Cond.laysFinal K O n d).before a0 Z = true ∧ own = O ∧ meth.name = "<init>")) (wi : (Cond.instantiable K kk).before a0 Z = true)
    (hty : parseFieldDescriptor d = some ty) (hn : narrow ty v = v) (hf : fits ty v = true) {rest : List Value} (hd : decode c.code g.pc = .ok (.putfield index, 3)) (hg : g.method = m) (hs : g.stack = v :: .ref a :: rest)
    (k : ∀ T' h', Stand p l e R s m args below meth c T' (locs ++ [⟨a, Jvm.RoadKit.slotOf Z O n d⟩]) cells slots → T'.heap = h' → Wr h h' a (Jvm.RoadKit.slotOf Z O n d) v → GoW p e below s Q C S T' { g with pc := g.pc + 3, stack := rest }) : GoW p e below s Q C S T g := by
  obtain ⟨T1, h1, X1, e1, W1, st⟩ := putF X hx hZ hown w via eT F E L wi hty hn hf hg hs hd
  exact gw_st st (k _ _ X1 e1 W1)
theorem gw_newO (X : Stand p l e R s m args below meth c T locs cells slots) (hx : p.tables.exec = Jvm.exec) (hZ : Z.Warmed39 s.vm) {own K : String} {index n : Nat} (hown : s.vm.findClass own = some m.cls) (w : (Cond.classLink own index K).before a0 Z = true) (wi : (Cond.instantiable K n).before a0 Z = true) (wz : (Cond.initialized K).before a0 Z = true) (eT : T.heap = h)
    (hd : decode c.code g.pc = .ok (.new index, 3)) (hg : g.method = m) (hc : cells + 1 ≤ R.cells) (hl : slots + n ≤ R.slots)
    (k : ∀ T' h' a, a = h.size → Stand p l e R s m args below meth c T' locs (cells + 1) (slots + n) → T'.heap = h' → Ext h h' → Exa Z h' a K → (∀ {O nm d : String} {ty : FieldType}, Laid Z a0 K O nm d → parseFieldDescriptor d = some ty → Fld Z h' a O nm d (defaultValue ty)) → GoW p e below s Q C S T' { g with pc := g.pc + 3, stack := .ref a :: g.stack }) : GoW p e below s Q C S T g := by
  obtain ⟨T1, h1, X1, e1, E1, A1, D1, -, st⟩ := newO X hx hZ hown w wi wz eT hg hd hc hl
  exact gw_st st (k _ _ _ rfl X1 e1 E1 A1 D1)
theorem gw_initO (X : Stand p l e R s m args below meth c T locs cells slots) (hx : p.tables.exec = Jvm.exec) (hZ : Z.Warmed39 s.vm) (hml : c.maxLocals = maxL0) {own : String} {idx : Nat} (hown : s.vm.findClass own = some m.cls) (w1 : (Cond.methodLink own idx Lib.objectInit).before a0 Z = true) (w2 : (Cond.instanceMethod Lib.objectInit).before a0 Z = true)
    (w3 : (Cond.code Lib.objectInit ⟨#[0xb1]⟩ 1 none).before a0 Z = true) (eT : T.heap = h) {a : Addr} {rest : List Value} (hd : decode c.code g.pc = .ok (.invokespecial idx, 3)) (hg : g.method = m) (hsz : g.locals.size = maxL0) (hs : g.stack = .ref a :: rest)
    (hf : 1 ≤ R.frames) {W : Nat} (hW : 2 * g.monitorRoom + (rest.map fun v => v.category).sum ≤ W) (hl : W + 12 ≤ R.locals)
    (k : ∀ T', Stand p l e R s m args below meth c T' locs cells slots → T'.heap = h → GoW p e below s Q C S T' { g with pc := g.pc + 3, stack := rest }) : GoW p e below s Q C S T g := by
  obtain ⟨T1, X1, e1, st⟩ := initO X hx hZ hown w1 w2 w3 eT hg (hsz.trans hml.symm) hs hd hf hW hl
  exact gw_st st (k _ X1 e1)
theorem gw_alen (X : Stand p l e R s m args below meth c T locs cells slots) (hx : p.tables.exec = Jvm.exec) (hZ : Z.Warmed39 s.vm) (eT : T.heap = h) {a : Addr} {ty : FieldType} {n : Nat} {f : Nat → Value} (A : GA Z h a ty n f) {rest : List Value}
    (hd : decode c.code g.pc = .ok (.arraylength, 1)) (hg : g.method = m) (hs : g.stack = .ref a :: rest) (w : Int32) (hw : Nat.toInt32 n = w) (k : GoW p e below s Q C S T { g with pc := g.pc + 1, stack := .int w :: rest }) : GoW p e below s Q C S T g := by
  obtain ⟨cl, A1, rfl, -, -⟩ := A
  subst hw
  exact gw_st (fun t => X.arraylength hx (by rw [eT]; exact A1.1) (State.isArrayOf_alike hZ.alike A1.2.1) hg hs hd t) k
theorem gw_iald (X : Stand p l e R s m args below meth c T locs cells slots) (hx : p.tables.exec = Jvm.exec) (hZ : Z.Warmed39 s.vm) (eT : T.heap = h) {a : Addr} {n : Nat} {f : Nat → Value} (A : GA Z h a .int n f) {j : Int32} {rest : List Value}
    (hd : decode c.code g.pc = .ok (.iaload, 1)) (hg : g.method = m) (hs : g.stack = .int j :: .ref a :: rest) (q : 0 ≤ j.toInt ∧ j.toInt < n) (w : Value) (hw : f j.toNatClampNeg = w) (k : GoW p e below s Q C S T { g with pc := g.pc + 1, stack := w :: rest }) : GoW p e below s Q C S T g := by
  obtain ⟨cl, A1, rfl, -, A4⟩ := A
  have q2 := own_in q
  refine gw_st (fun t => X.iaload hx (j := j) (v := w) (by rw [eT]; exact A1.1) (State.isArrayOf_alike hZ.alike A1.2.1) A1.2.2 q2 ?_ hg hs hd t) k
  rw [A4 _ (by omega), hw]
theorem gw_lald (X : Stand p l e R s m args below meth c T locs cells slots) (hx : p.tables.exec = Jvm.exec) (hZ : Z.Warmed39 s.vm) (eT : T.heap = h) {a : Addr} {n : Nat} {f : Nat → Value} (A : GA Z h a .long n f) {j : Int32} {rest : List Value}
    (hd : decode c.code g.pc = .ok (.laload, 1)) (hg : g.method = m) (hs : g.stack = .int j :: .ref a :: rest) (q : 0 ≤ j.toInt ∧ j.toInt < n) (w : Value) (hw : f j.toNatClampNeg = w) (k : GoW p e below s Q C S T { g with pc := g.pc + 1, stack := w :: rest }) : GoW p e below s Q C S T g := by
  obtain ⟨cl, A1, rfl, -, A4⟩ := A
  have q2 := own_in q
  refine gw_st (fun t => X.laload hx (j := j) (v := w) (by rw [eT]; exact A1.1) (State.isArrayOf_alike hZ.alike A1.2.1) A1.2.2 q2 ?_ hg hs hd t) k
  rw [A4 _ (by omega), hw]
theorem gw_bald (X : Stand p l e R s m args below meth c T locs cells slots) (hx : p.tables.exec = Jvm.exec) (hZ : Z.Warmed39 s.vm) (eT : T.heap = h) {a : Addr} {n : Nat} {f : Nat → Value} (A : GA Z h a .byte n f) {j : Int32} {rest : List Value}
    (hd : decode c.code g.pc = .ok (.baload, 1)) (hg : g.method = m) (hs : g.stack = .int j :: .ref a :: rest) (q : 0 ≤ j.toInt ∧ j.toInt < n) (w : Value) (hw : f j.toNatClampNeg = w) (k : GoW p e below s Q C S T { g with pc := g.pc + 1, stack := w :: rest }) : GoW p e below s Q C S T g := by
  obtain ⟨cl, A1, rfl, -, A4⟩ := A
  have q2 := own_in q
  refine gw_st (fun t => X.baloadBytes hx (j := j) (v := w) (by rw [eT]; exact A1.1) (State.isArrayOf_alike hZ.alike A1.2.1) A1.2.2 q2 ?_ hg hs hd t) k
  rw [A4 _ (by omega), hw]
theorem gw_cald (X : Stand p l e R s m args below meth c T locs cells slots) (hx : p.tables.exec = Jvm.exec) (hZ : Z.Warmed39 s.vm) (eT : T.heap = h) {a : Addr} {n : Nat} {f : Nat → Value} (A : GA Z h a .char n f) {j : Int32} {rest : List Value}
    (hd : decode c.code g.pc = .ok (.caload, 1)) (hg : g.method = m) (hs : g.stack = .int j :: .ref a :: rest) (q : 0 ≤ j.toInt ∧ j.toInt < n) (w : Value) (hw : f j.toNatClampNeg = w) (k : GoW p e below s Q C S T { g with pc := g.pc + 1, stack := w :: rest }) : GoW p e below s Q C S T g := by
  obtain ⟨cl, A1, rfl, -, A4⟩ := A
  have q2 := own_in q
  refine gw_st (fun t => X.caload hx (j := j) (v := w) (by rw [eT]; exact A1.1) (State.isArrayOf_alike hZ.alike A1.2.1) A1.2.2 q2 ?_ hg hs hd t) k
  rw [A4 _ (by omega), hw]
theorem gw_aald (X : Stand p l e R s m args below meth c T locs cells slots) (hx : p.tables.exec = Jvm.exec) (hZ : Z.Warmed39 s.vm) (eT : T.heap = h) {a : Addr} {ty : FieldType} {n : Nat} {f : Nat → Value} (A : GA Z h a ty n f) (hty : ty.isReference = true) {j : Int32} {rest : List Value}
    (hd : decode c.code g.pc = .ok (.aaload, 1)) (hg : g.method = m) (hs : g.stack = .int j :: .ref a :: rest) (q : 0 ≤ j.toInt ∧ j.toInt < n) (w : Value) (hw : f j.toNatClampNeg = w) (k : GoW p e below s Q C S T { g with pc := g.pc + 1, stack := w :: rest }) : GoW p e below s Q C S T g := by
  obtain ⟨cl, A1, rfl, -, A4⟩ := A
  have q2 := own_in q
  refine gw_st (fun t => X.aaload hx (j := j) (v := w) (by rw [eT]; exact A1.1) (State.isArrayOf_alike hZ.alike A1.2.1) hty A1.2.2 q2 ?_ hg hs hd t) k
  rw [A4 _ (by omega), hw]
theorem gw_iast (X : Stand p l e R s m args below meth c T locs cells slots) (hx : p.tables.exec = Jvm.exec) (hZ : Z.Warmed39 s.vm) (eT : T.heap = h) {a : Addr} {n : Nat} {f : Nat → Value} (A : GA Z h a .int n f) {j x : Int32} {rest : List Value}
    (hd : decode c.code g.pc = .ok (.iastore, 1)) (hg : g.method = m) (hs : g.stack = .int x :: .int j :: .ref a :: rest) (q : 0 ≤ j.toInt ∧ j.toInt < n)
    (k : ∀ T' h', Stand p l e R s m args below meth c T' (locs ++ [⟨a, j.toNatClampNeg⟩]) cells slots → T'.heap = h' → Wr h h' a j.toNatClampNeg (.int x) → GA Z h' a .int n (fun i => if i = j.toNatClampNeg then .int x else f i) → GoW p e below s Q C S T' { g with pc := g.pc + 1, stack := rest }) : GoW p e below s Q C S T g := by
  have A' := A
  obtain ⟨cl, A1, rfl, -, A4⟩ := A
  obtain ⟨T1, h1, X1, e1, W1, st⟩ := stI X hx hZ eT A1 (own_in q) hg hs hd
  exact gw_st st (k _ _ X1 e1 W1 (A'.set W1))
theorem gw_last (X : Stand p l e R s m args below meth c T locs cells slots) (hx : p.tables.exec = Jvm.exec) (hZ : Z.Warmed39 s.vm) (eT : T.heap = h) {a : Addr} {n : Nat} {f : Nat → Value} (A : GA Z h a .long n f) {j : Int32} {x : Int64} {rest : List Value}
    (hd : decode c.code g.pc = .ok (.lastore, 1)) (hg : g.method = m) (hs : g.stack = .long x :: .int j :: .ref a :: rest) (q : 0 ≤ j.toInt ∧ j.toInt < n)
    (k : ∀ T' h', Stand p l e R s m args below meth c T' (locs ++ [⟨a, j.toNatClampNeg⟩]) cells slots → T'.heap = h' → Wr h h' a j.toNatClampNeg (.long x) → GA Z h' a .long n (fun i => if i = j.toNatClampNeg then .long x else f i) → GoW p e below s Q C S T' { g with pc := g.pc + 1, stack := rest }) : GoW p e below s Q C S T g := by
  have A' := A
  obtain ⟨cl, A1, rfl, -, A4⟩ := A
  obtain ⟨T1, h1, X1, e1, W1, st⟩ := stJ X hx hZ eT A1 (own_in q) hg hs hd
  exact gw_st st (k _ _ X1 e1 W1 (A'.set W1))
theorem gw_bast (X : Stand p l e R s m args below meth c T locs cells slots) (hx : p.tables.exec = Jvm.exec) (hZ : Z.Warmed39 s.vm) (eT : T.heap = h) {a : Addr} {n : Nat} {f : Nat → Value} (A : GA Z h a .byte n f) {j x : Int32} {rest : List Value}
    (hd : decode c.code g.pc = .ok (.bastore, 1)) (hg : g.method = m) (hs : g.stack = .int x :: .int j :: .ref a :: rest) (q : 0 ≤ j.toInt ∧ j.toInt < n)
    (k : ∀ T' h', Stand p l e R s m args below meth c T' (locs ++ [⟨a, j.toNatClampNeg⟩]) cells slots → T'.heap = h' → Wr h h' a j.toNatClampNeg (.int x.toInt8.toInt32) → GA Z h' a .byte n (fun i => if i = j.toNatClampNeg then .int x.toInt8.toInt32 else f i) → GoW p e below s Q C S T' { g with pc := g.pc + 1, stack := rest }) : GoW p e below s Q C S T g := by
  have A' := A
  obtain ⟨cl, A1, rfl, -, A4⟩ := A
  obtain ⟨T1, h1, X1, e1, W1, st⟩ := stB X hx hZ eT A1 (own_in q) hg hs hd
  exact gw_st st (k _ _ X1 e1 W1 (A'.set W1))
theorem gw_cast (X : Stand p l e R s m args below meth c T locs cells slots) (hx : p.tables.exec = Jvm.exec) (hZ : Z.Warmed39 s.vm) (eT : T.heap = h) {a : Addr} {n : Nat} {f : Nat → Value} (A : GA Z h a .char n f) {j x : Int32} {rest : List Value}
    (hd : decode c.code g.pc = .ok (.castore, 1)) (hg : g.method = m) (hs : g.stack = .int x :: .int j :: .ref a :: rest) (q : 0 ≤ j.toInt ∧ j.toInt < n)
    (k : ∀ T' h', Stand p l e R s m args below meth c T' (locs ++ [⟨a, j.toNatClampNeg⟩]) cells slots → T'.heap = h' → Wr h h' a j.toNatClampNeg (.int (nar .char x)) → GA Z h' a .char n (fun i => if i = j.toNatClampNeg then .int (nar .char x) else f i) → GoW p e below s Q C S T' { g with pc := g.pc + 1, stack := rest }) : GoW p e below s Q C S T g := by
  have A' := A
  obtain ⟨cl, A1, rfl, -, A4⟩ := A
  obtain ⟨T1, h1, X1, e1, W1, st⟩ := stC X hx hZ eT A1 (own_in q) hg hs hd
  exact gw_st st (k _ _ X1 e1 W1 (A'.set W1))
theorem gw_aast (X : Stand p l e R s m args below meth c T locs cells slots) (hx : p.tables.exec = Jvm.exec) (hZ : Z.Warmed39 s.vm) (eT : T.heap = h) {a : Addr} {ty : FieldType} {n : Nat} {f : Nat → Value} (A : GA Z h a ty n f) (hty : ty.isReference = true) {j : Int32} {v : Value} (F : Sto Z h a v) {rest : List Value}
    (hd : decode c.code g.pc = .ok (.aastore, 1)) (hg : g.method = m) (hs : g.stack = v :: .int j :: .ref a :: rest) (q : 0 ≤ j.toInt ∧ j.toInt < n)
    (k : ∀ T' h', Stand p l e R s m args below meth c T' (locs ++ [⟨a, j.toNatClampNeg⟩]) cells slots → T'.heap = h' → Wr h h' a j.toNatClampNeg v → GA Z h' a ty n (fun i => if i = j.toNatClampNeg then v else f i) → GoW p e below s Q C S T' { g with pc := g.pc + 1, stack := rest }) : GoW p e below s Q C S T g := by
  have A' := A
  obtain ⟨cl, A1, rfl, -, A4⟩ := A
  obtain ⟨T1, h1, X1, e1, W1, st⟩ := stR X hx hZ eT A1 (own_in q) hty F hg hs hd
  exact gw_st st (k _ _ X1 e1 W1 (A'.set W1))
theorem gw_newP (X : Stand p l e R s m args below meth c T locs cells slots) (hx : p.tables.exec = Jvm.exec) (hZ : Z.Warmed39 s.vm) {aty : ArrayType} (w : (Cond.arrayClass (newarray.typeOf aty)).before a0 Z = true) (eT : T.heap = h) {n : Int32} {rest : List Value} (hd : decode c.code g.pc = .ok (.newarray aty, 2)) (hg : g.method = m) (hs : g.stack = .int n :: rest)
    (N : Nat) (hn : n.toInt = N) (cap : Nat) (hcap : N ≤ cap) (hb : cap * 8 ≤ 536870912) (hc : cells + 1 ≤ R.cells) (hl : slots + cap ≤ R.slots)
    (k : ∀ T' h' a, a = h.size → Stand p l e R s m args below meth c T' locs (cells + 1) (slots + cap) → T'.heap = h' → Ext h h' → GA Z h' a (newarray.typeOf aty) N (fun _ => defaultValue (newarray.typeOf aty)) → GoW p e below s Q C S T' { g with pc := g.pc + 2, stack := .ref a :: rest }) : GoW p e below s Q C S T g := by
  have hN := own_clamp hn
  have hn0 := own_nneg hn
  obtain ⟨T1, h1, cA, X1, e1, E1, A1, st⟩ := newP X hx hZ w eT hg hd hs hn0 (cap := cap) (by omega) hb hc hl
  refine gw_st st (k _ _ _ rfl X1 e1 E1 ⟨_, A1, (sz_new _ _ _).trans hN, ?_, fun i hi => ?_⟩)
  · have := (rng32 n).2
    omega
  · show (Array.replicate n.toNatClampNeg (defaultValue _))[i]? = _
    rw [hN, Array.getElem?_replicate, if_pos hi]
theorem gw_newR (X : Stand p l e R s m args below meth c T locs cells slots) (hx : p.tables.exec = Jvm.exec) (hZ : Z.Warmed39 s.vm) {own K : String} {index : Nat} (hown : s.vm.findClass own = some m.cls) (w1 : (Cond.classLink own index K).before a0 Z = true) (w2 : (Cond.arrayOver (.object K)).before a0 Z = true) (eT : T.heap = h) {n : Int32} {rest : List Value} (hd : decode c.code g.pc = .ok (.anewarray index, 3)) (hg : g.method = m) (hs : g.stack = .int n :: rest)
    (N : Nat) (hn : n.toInt = N) (cap : Nat) (hcap : N ≤ cap) (hb : cap * 8 ≤ 536870912) (hc : cells + 1 ≤ R.cells) (hl : slots + cap ≤ R.slots)
    (k : ∀ T' h' a, a = h.size → Stand p l e R s m args below meth c T' locs (cells + 1) (slots + cap) → T'.heap = h' → Ext h h' → GA Z h' a (.object K) N (fun _ => .null) → OC Z h' a (.object K) K → GoW p e below s Q C S T' { g with pc := g.pc + 3, stack := .ref a :: rest }) : GoW p e below s Q C S T g := by
  have hN := own_clamp hn
  have hn0 := own_nneg hn
  obtain ⟨T1, h1, cA, X1, e1, E1, A1, O1, st⟩ := newR X hx hZ hown w1 w2 eT hg hd hs hn0 (cap := cap) (by omega) hb hc hl
  refine gw_st st (k _ _ _ rfl X1 e1 E1 ⟨_, A1, (sz_new _ _ _).trans hN, ?_, fun i hi => ?_⟩ ⟨_, A1, O1⟩)
  · have := (rng32 n).2
    omega
  · show (Array.replicate n.toNatClampNeg (defaultValue _))[i]? = _
    rw [hN, Array.getElem?_replicate, if_pos hi]
    rfl
theorem gw_retN (X : Stand p l e R s m args below meth c T locs cells slots) (hx : p.tables.exec = Jvm.exec) (hlk : meth.locks = false) {t : FieldType} (hret : meth.sig.returnType = some t) (ht : t = .boolean ∨ t = .byte ∨ t = .char ∨ t = .short) {pc : Nat} {Ls : Array Slot} {z w : Int32} {rest : List Value} (hd : decode c.code pc = .ok (.ireturn, 1)) (hw : nar t z = w)
    (hC : cells ≤ C) (hS : slots ≤ S) (hQ : Q (some (.int w)) T.heap locs) : GoW p e below s Q C S T (mkF m pc Ls (.int z :: rest)) := by
  subst hw
  exact gw_end X hlk (fun h => by rw [hret] at h; cases h) (fun fs h1 => retN X hx (t := t) hret ht hd h1) hC hS hQ
end OwnW1
section OwnW2
variable {p : Program} {l : Launch} {e : Env} {R : Room} {s : State} {m : MethodId} {args : Array Value} {below : List Frame} {meth : Method} {c : Code} {T T' : State} {locs : List Loc} {cells slots : Nat} {Z : State} {a0 : Array Value} {h : Heap} {Q : Option Value → Heap → List Loc → Prop} {C S maxL0 : Nat} {g g' : JFrame} {EL : List (String × Nat)}
theorem gw_of (q : Go p e below s Q C S T g) : GoW p e below s Q C S T g := by
  obtain ⟨s2, o, q1, q2, q3, v, L, rfl, q5, hr, hW, hs⟩ := q
  exact ⟨s2, _, q1, q2, q3, v, L, rfl, q5, ReturnedEndW.of_narrow ⟨_, rfl⟩ hW hs⟩
theorem gw_rebase {vm1 : Vm} {n : Nat} (hS : s.Since vm1 n) (hn : n ≤ T.heap.size) (q : GoW p e below (s.setVm vm1) Q C S T g) : GoW p e below s Q C S T g := by
  obtain ⟨s2, o, q1, q2, q3, v, L, rfl, q5, hr, hW, hB, hs⟩ := q
  have hle : T.heap.size ≤ s2.heap.size := q1.heap_le
  obtain ⟨h1, h2⟩ := hS.trans (n₂ := s2.heap.size) ⟨hW, hB⟩ (Nat.le_trans hn hle)
  exact ⟨s2, _, q1, q2, q3, v, L, rfl, q5, ⟨_, rfl⟩, h1, h2, hs.setVm s.vm⟩
def MetW (l : Launch) (y : MethodName) (bytes : ByteArray) (maxL : Nat) (ret : Option FieldType) (ws : List Cond) (rm : Room) (Z : State) (EL : List (String × Nat)) (sa : Addr) (as' : Array Value) (h0 : Heap) (Q : Option Value → Heap → List Loc → Prop) (C S : Nat) : Prop :=
  MetFree l y (head1 (Jvm.Cond.code y bytes maxL ret :: ws) rm) (fun a U => a = as' ∧ Z.Warmed39 U.vm ∧ U.heap = h0 ∧ CHv Z EL U.vm h0 ∧ Safe Z EL U.vm h0 sa) (fun _ _ _ _ _ => True) (fun _ U o U' => ∃ v L, o = .returned v ∧ Q v U'.heap L ∧ ReturnedEndW U o U' L C S)
theorem own_bodyW {y : MethodName} {bytes : ByteArray} {maxL : Nat} {ret : Option FieldType} {rm : Room} {as' : Array Value} {h0 : Heap} {ws : List Cond} {sa : Addr} (hn : plainFor y = true) {C S : Nat}
    (H : ∀ p e s m below meth c s₁, Ct p s m meth c Z y.cls y.name bytes maxL ret → Stand p l e rm s m as' below meth c s₁ [] 0 0 → s₁.heap = h0 → CHv Z EL s.vm h0 → Safe Z EL s.vm h0 sa → GoW p e below s Q C S s₁ (entryFrame m as' maxL)) :
    MetW l y bytes maxL ret ws rm Z EL sa as' h0 Q C S := by
  refine MetFree.of_bodySF hn hisR ?_
  intro p e s m args below meth c s₁ Bd hml0 hP hK
  obtain ⟨rfl, hZ, hh, hC, hSa⟩ := hP
  have hown : s.vm.findClass y.cls = some m.cls := findClass_of_methodNamed Bd.named
  have hnm := (name_of_methodNamed Bd.named Bd.method).1
  have X0 : Stand p l e rm s m args below meth c s₁ [] 0 0 := Stand.of_body Bd
  have e0 : s₁.heap = h0 := by rw [← hh, Bd.state]; rfl
  exact H p e s m below meth c s₁ ⟨Bd.exec, hZ, hown, Bd.bytes, hml0, Bd.returns, Bd.notSynchronized, hnm⟩ X0 e0 hC hSa
theorem own_backW {y : MethodName} {bytes : ByteArray} {maxL : Nat} {ret : Option FieldType} {rm : Room} {len W : Nat} {as' : Array Value} {sa : Addr} (hM : MetW l y bytes maxL ret [] rm Z EL sa as' h Q rm.cells rm.slots)
    (hZ : Z.Warmed39 s.vm) (wc : (Cond.code y bytes maxL ret).before a0 Z = true) (wz : (Cond.initialized y.cls).before a0 Z = true) (hf : rm.frames + 1 ≤ R.frames) (hl : W + (maxL + 11) + rm.locals ≤ R.locals) (hEL : EW Z a0 EL) (H : CHv Z EL s.vm h) (hsa : sa < h.size) (Sa : Safe Z EL s.vm h sa) :
    BackS l R p e below s args y len W (fun A a => a = as' ∧ A.U.heap = h ∧ A.cells + rm.cells ≤ R.cells ∧ A.slots + rm.slots ≤ R.slots)
      (fun A _ v B => ∃ L, Q v B.U.heap L ∧ B.locs = A.locs ++ L ∧ B.cells = A.cells + rm.cells ∧ B.slots = A.slots + rm.slots) := by
  refine BackS.of_freeW (bytes := bytes) (maxL := maxL) (ret := ret) (E := fun _ _ o t L k n => k = rm.cells ∧ n = rm.slots ∧ ∃ v, o = .returned v ∧ Q v t.heap L) hM hf hl ?_ ?_ (fun _ _ _ _ _ _ _ _ _ => trivial) (fun _ _ _ _ ⟨v, L, h1, h2, h3⟩ => ⟨L, _, _, h3, rfl, rfl, v, h1, h2⟩) ?_
  · intro m meth c A a Y hp
    have hU : Z.Warmed39 A.U.vm := wtrans hZ Y.warmed
    refine ⟨?_, mv hU wc, mv hU wz, hp.2.2.1, hp.2.2.2⟩
    show (Cond.and _ .tt).before a A.U = true
    rw [Cond.before_and, mv hU wc]
    rfl
  · intro m meth c A a g mk Y hp
    have Y' : Stand p l e R (s.setVm s.vm) m args below meth c A.U A.locs A.cells A.slots := Y
    have hr := CHv.at (s := s) (vm0 := s.vm) Y' hZ hEL H
    exact ⟨hp.1, wtrans hZ Y.warmed, hp.2.1, hr.1, hr.safe hsa Sa⟩
  · intro m meth c A a g mk v t L k n Y hp _ _ q
    obtain ⟨e1, e2, v', e3, e4⟩ := q
    cases e3
    subst e1 e2
    exact ⟨L, e4, rfl, rfl, rfl⟩
theorem gw_callIW (X : Stand p l e R s m args below meth c T locs cells slots) (hx : p.tables.exec = Jvm.exec) (hZ : Z.Warmed39 s.vm) (hml : c.maxLocals = maxL0) {own : String} {index : Nat} {y : MethodName} {bytes : ByteArray} {maxL : Nat} (hown : s.vm.findClass own = some m.cls) (hy1 : y.name = "<init>")
    (w1 : (Cond.methodLink own index y).before a0 Z = true) (w2 : (Cond.instanceMethod y).before a0 Z = true) (w4 : (Cond.code y bytes maxL none).before a0 Z = true) (w5 : (Cond.initialized y.cls).before a0 Z = true) (eT : T.heap = h) (hEL : EW Z a0 EL) (H : CHv Z EL s.vm h) {a : Addr} (hsa : a < h.size) (Sa : Safe Z EL s.vm h a) {argsL rest : List Value} {rm : Room} {Q' : Option Value → Heap → List Loc → Prop} {W : Nat}
    (hM : MetW l y bytes maxL none [] rm Z EL a (.ref a :: argsL).toArray h Q' rm.cells rm.slots)
    (hd : decode c.code g.pc = .ok (.invokespecial index, 3)) (hs : g.stack = argsL.reverse ++ .ref a :: rest) (hg : g.method = m) (hsz : g.locals.size = maxL0) (hlen : ∀ sig, parseMethodDescriptor y.desc = some sig → argsL.length = sig.parameters.length) (hW : 2 * g.monitorRoom + (rest.map fun v => v.category).sum ≤ W)
    (hy : y.cls ≠ "java/lang/invoke/MethodHandle" ∧ y.cls ≠ "java/lang/invoke/VarHandle") (hf : rm.frames + 1 ≤ R.frames) (hl : W + (maxL + 11) + rm.locals ≤ R.locals) (hc : cells + rm.cells ≤ R.cells) (hsl : slots + rm.slots ≤ R.slots)
    (k : ∀ s' T' v L, Z.Warmed39 s'.vm → s'.vm.findClass own = some m.cls → Stand p l e R s' m args below meth c T' (locs ++ L) (cells + rm.cells) (slots + rm.slots) → Q' v T'.heap L → GoW p e below s' Q C S T' { g with pc := g.pc + 3, stack := v.toList ++ rest }) : GoW p e below s Q C S T g := by
  obtain ⟨v, _, ⟨T1, L1, k1, n1⟩, -, X1, hS, hgr, ⟨Lc, hQ, l1, y1, z1⟩, st⟩ := X.specialBackS hx (y := y) hy1 hown (mvT hZ w1) (mvT hZ w2) (mvT hZ w4) hy (own_backW (W := W) hM hZ w4 w5 hf hl hEL H hsa Sa) (g := g) hg (hsz.trans hml.symm) (Steps.refl _) (a := a) (argsL := argsL) (rest := rest) hlen hs hW hd (fun _ _ => ⟨rfl, eT, hc, hsl⟩)
  dsimp only [Pt.U, Pt.locs, Pt.cells, Pt.slots] at X1 hS hgr l1 y1 z1 st hQ
  subst l1 y1 z1
  exact gw_tr st (gw_rebase hS (Nat.le_refl _) (k (s.setVm T1.vm) T1 v Lc (State.Warmed39.trans hZ hS.1) ((hS.1.alike.findClass _ _).trans hown) X1 hQ))
theorem gw_ldcE (X : Stand p l e R s m args below meth c T locs cells slots) (hx : p.tables.exec = Jvm.exec) (hZ : Z.Warmed39 s.vm) {own : String} {index : Nat} (hown : s.vm.findClass own = some m.cls) (w : (Cond.stringLink own index "").before a0 Z = true) (wS : ∀ a ∈ Bundle.stringAtoms, a.before a0 Z = true)
    (eT : T.heap = h) (hEL : EW Z a0 EL) (hmem : (own, index) ∈ EL) (H : CHv Z EL s.vm h) (hd : decode c.code g.pc = .ok (.ldc index, 2)) (hg : g.method = m) (hc : cells + 2 ≤ R.cells) (hl : slots + 4 ≤ R.slots)
    (k : ∀ s' T' h' a b, Z.Warmed39 s'.vm → s'.vm.findClass own = some m.cls → Stand p l e R s' m args below meth c T' locs (cells + 2) (slots + 4) → T'.heap = h' → Ext h h' → Exa Z h' a "java/lang/String" → Fld Z h' a "java/lang/String" "coder" "B" (.int 0) → Fld Z h' a "java/lang/String" "value" "[B" (.ref b) → GA Z h' b .byte 0 (fun _ => .null) → Lit s' own index a → (∀ x, x < h.size → Safe Z EL s.vm h x → x ≠ a ∧ x ≠ b) → GoW p e below s' Q C S T' { g with pc := g.pc + 2, stack := .ref a :: g.stack }) : GoW p e below s Q C S T g := by
  have X0 : Stand p l e R (s.setVm s.vm) m args below meth c T locs cells slots := X
  obtain ⟨a, T', h', k1, b, kk, X1, e1, E1, hS, hk1, hW, hf, A1, A2, A3, A4, la, lb, hC, hL, hsafe, st⟩ := ldcCH (s := s) (vm0 := s.vm) X0 hx hZ hown w wS eT (k0 := 0) ((State.WarmedH.refl s).since 0) (Nat.zero_le _) hEL hmem H (vs := []) (z := 0) ⟨by simp, rfl⟩ (by decide) rfl hg hd (n := 0) (by decide) (by decide) hc hl
  obtain ⟨cl, B1, -, B3, -⟩ := A4
  exact gw_st st (gw_rebase hS (by rw [e1]; exact hk1) (k (s.setVm T'.vm) T' h' a b hW hf X1 e1 E1 A1 A2 A3 ⟨cl, B1, B3.trans rfl, by decide, fun i hi => absurd hi (Nat.not_lt_zero _)⟩ hL (fun x hx hs => hsafe x (hC.safe hx hs))))
theorem gw_ldcA (X : Stand p l e R s m args below meth c T locs cells slots) (hx : p.tables.exec = Jvm.exec) (hZ : Z.Warmed39 s.vm) {own text : String} {index : Nat} (hown : s.vm.findClass own = some m.cls) (w : (Cond.stringLink own index text).before a0 Z = true) {a : Addr} (L : Lit s own index a)
    (hd : decode c.code g.pc = .ok (.ldc index, 2)) (hg : g.method = m) (k : GoW p e below s Q C S T { g with pc := g.pc + 2, stack := .ref a :: g.stack }) : GoW p e below s Q C S T g := by
  have X0 : Stand p l e R (s.setVm s.vm) m args below meth c T locs cells slots := X
  have L0 : Lit (s.setVm s.vm) own index a := L
  exact gw_st (ldcAgain (s := s) (vm0 := s.vm) X0 hx hZ hown w L0 hg hd) k
theorem own_exaga {x b : Addr} {K : String} {n : Nat} {ty : FieldType} {f : Nat → Value} (E : Exa Z h x K) (A : GA Z h b ty 0 f) (w : (Cond.instantiable K n).before a0 Z = true) : x ≠ b := by
  obtain ⟨k, B⟩ := own_arv (dv := .null) A (fun i hi => absurd hi (Nat.not_lt_zero _)) (z := 0) rfl
  exact Exa.neArv E B w
theorem own_safeA {x : Addr} {ty : FieldType} {n : Nat} {f : Nat → Value} {vm : Vm} (hZ : Z.Warmed39 vm) (A : GA Z h x ty n f) (ht : ty ≠ .byte) : Safe Z EL vm h x := by
  obtain ⟨cl, A1, -⟩ := A
  exact Safe.arr hZ.alike A1 ht
end OwnW2

def own_c3 (x y z : Int32) : Nat → Int32
  | 0 => x
  | 1 => y
  | 2 => z
  | _ => 0
def own_by (x : Int32) : Int32 := x.toInt8.toInt32
def Lat (x : Int32) : Prop := ∃ k : Nat, k < 256 ∧ x = Int32.ofNat k
theorem own_lat (x : Int32) : Lat (x &&& (255 : Int32)) := by
  have h := c_mask x 255 8 (by decide) (by decide)
  refine ⟨(x &&& (255 : Int32)).toInt.toNat, by omega, ?_⟩
  apply Int32.toInt_inj.mp
  rw [Int32.toInt_ofNat_of_lt (by omega)]
  omega
theorem own_i2cT : ∀ k : Nat, k < 256 → (Int32.ofNat k).toUInt32.toUInt16.toUInt32.toInt32 = Int32.ofNat k := by decide +kernel
theorem own_by2T : ∀ k : Nat, k < 256 → ((Int32.ofNat k).toInt8.toInt32).toInt8.toInt32 = (Int32.ofNat k).toInt8.toInt32 := by decide +kernel
theorem own_chrT : ∀ k : Nat, k < 256 → (((Int32.ofNat k).toInt8.toInt32) &&& (255 : Int32)).toUInt32.toUInt16.toUInt32.toInt32.toUInt32.toUInt16.toUInt32.toInt32 = Int32.ofNat k := by decide +kernel
theorem own_leT : ∀ k : Nat, k < 256 → ¬ ((255 : Int32) < Int32.ofNat k) := by decide +kernel
theorem own_i2c (x : Int32) : (x &&& (255 : Int32)).toUInt32.toUInt16.toUInt32.toInt32 = x &&& (255 : Int32) := by
  obtain ⟨k, h1, h2⟩ := own_lat x
  rw [h2]
  exact own_i2cT k h1
theorem own_nc {x : Int32} (h : Lat x) : nar .char x = x := by
  obtain ⟨k, h1, rfl⟩ := h
  exact own_i2cT k h1
theorem own_by2 {x : Int32} (h : Lat x) : (x.toInt8.toInt32).toInt8.toInt32 = own_by x := by
  obtain ⟨k, h1, rfl⟩ := h
  exact own_by2T k h1
theorem own_chr {x : Int32} (h : Lat x) : nar .char ((own_by x &&& (255 : Int32)).toUInt32.toUInt16.toUInt32.toInt32) = x := by
  obtain ⟨k, h1, rfl⟩ := h
  exact own_chrT k h1
theorem own_le255 {x : Int32} (h : Lat x) : ¬ ((255 : Int32) < x) := by
  obtain ⟨k, h1, rfl⟩ := h
  exact own_leT k h1
theorem own_z3 (i : Nat) : Value.int 0 = Value.int (own_c3 0 0 0 i) := by
  match i with
  | 0 => rfl
  | 1 => rfl
  | 2 => rfl
  | n + 3 => rfl
theorem own_c30 (w x y z : Int32) (i : Nat) : own_c3 w y z i = if i = 0 then w else own_c3 x y z i := by
  match i with
  | 0 => rfl
  | 1 => rfl
  | 2 => rfl
  | n + 3 => rfl
theorem own_c31 (w x y z : Int32) (i : Nat) : own_c3 x w z i = if i = 1 then w else own_c3 x y z i := by
  match i with
  | 0 => rfl
  | 1 => rfl
  | 2 => rfl
  | n + 3 => rfl
theorem own_c32 (w x y z : Int32) (i : Nat) : own_c3 x y w i = if i = 2 then w else own_c3 x y z i := by
  match i with
  | 0 => rfl
  | 1 => rfl
  | 2 => rfl
  | n + 3 => rfl
theorem own_stc {Z : State} {h : Heap} {a : Addr} {ty : FieldType} {n q : Nat} {x x' j : Int32} {f f' : Nat → Int32} (hx : x = x') (hj : j.toNatClampNeg = q) (hf : ∀ i, f' i = if i = q then x' else f i) (G : GA Z h a ty n (fun i => if i = j.toNatClampNeg then .int x else (fun i => .int (f i)) i)) : GA Z h a ty n (fun i => .int (f' i)) := by
  subst hx hj
  refine G.congr fun i _ => ?_
  rw [hf]
  dsimp only
  split <;> rfl
theorem own_mem : ("java/lang/String", 7) ∈ consts_1 := by simp [consts_1]
theorem own_EL (Z : State) (a0 : Array Value) (hw : ∀ d ∈ tables_1, d.before a0 Z = true) : EW Z a0 consts_1 :=
  EW.cons (wd hw 92 rfl) (by simp) EW.nil
theorem own_wS (Z : State) (a0 : Array Value) (hw : ∀ d ∈ tables_1, d.before a0 Z = true) : ∀ a ∈ Bundle.stringAtoms, a.before a0 Z = true := by
  intro d hd
  simp only [Bundle.stringAtoms, List.mem_cons, List.not_mem_nil, or_false] at hd
  rcases hd with rfl | rfl | rfl | rfl | rfl | rfl | rfl
  · exact (wd hw 6 rfl)
  · exact (wd hw 5 rfl)
  · exact (wd hw 22 rfl)
  · exact (wd hw 32 rfl)
  · exact (wd hw 30 rfl)
  · exact (wd hw 93 rfl)
  · exact (wd hw 94 rfl)

theorem d5_0 : decode jdk_52_method_21_code 0 = .ok (.iconst 0, 1) := by decide +kernel
theorem d5_1 : decode jdk_52_method_21_code 1 = .ok (.istore 5, 2) := by decide +kernel
theorem d5_3 : decode jdk_52_method_21_code 3 = .ok (.iload 5, 2) := by decide +kernel
theorem d5_5 : decode jdk_52_method_21_code 5 = .ok (.iload 4, 2) := by decide +kernel
theorem d5_7 : decode jdk_52_method_21_code 7 = .ok (.if_icmp .ge 37, 3) := by decide +kernel
theorem d5_10 : decode jdk_52_method_21_code 10 = .ok (.aload_n 0, 1) := by decide +kernel
theorem d5_11 : decode jdk_52_method_21_code 11 = .ok (.iload_n 1, 1) := by decide +kernel
theorem d5_12 : decode jdk_52_method_21_code 12 = .ok (.caload, 1) := by decide +kernel
theorem d5_13 : decode jdk_52_method_21_code 13 = .ok (.istore 6, 2) := by decide +kernel
theorem d5_15 : decode jdk_52_method_21_code 15 = .ok (.iload 6, 2) := by decide +kernel
theorem d5_17 : decode jdk_52_method_21_code 17 = .ok (.sipush 255, 3) := by decide +kernel
theorem d5_20 : decode jdk_52_method_21_code 20 = .ok (.if_icmp .le 6, 3) := by decide +kernel
theorem d5_23 : decode jdk_52_method_21_code 23 = .ok (.iload 5, 2) := by decide +kernel
theorem d5_25 : decode jdk_52_method_21_code 25 = .ok (.ireturn, 1) := by decide +kernel
theorem d5_26 : decode jdk_52_method_21_code 26 = .ok (.aload_n 2, 1) := by decide +kernel
theorem d5_27 : decode jdk_52_method_21_code 27 = .ok (.iload_n 3, 1) := by decide +kernel
theorem d5_28 : decode jdk_52_method_21_code 28 = .ok (.iload 6, 2) := by decide +kernel
theorem d5_30 : decode jdk_52_method_21_code 30 = .ok (.i2b, 1) := by decide +kernel
theorem d5_31 : decode jdk_52_method_21_code 31 = .ok (.bastore, 1) := by decide +kernel
theorem d5_32 : decode jdk_52_method_21_code 32 = .ok (.iinc 1 1, 3) := by decide +kernel
theorem d5_35 : decode jdk_52_method_21_code 35 = .ok (.iinc 3 1, 3) := by decide +kernel
theorem d5_38 : decode jdk_52_method_21_code 38 = .ok (.iinc 5 1, 3) := by decide +kernel
theorem d5_41 : decode jdk_52_method_21_code 41 = .ok (.goto (-38), 3) := by decide +kernel
theorem d5_44 : decode jdk_52_method_21_code 44 = .ok (.iload 4, 2) := by decide +kernel
theorem d5_46 : decode jdk_52_method_21_code 46 = .ok (.ireturn, 1) := by decide +kernel
theorem pn0 : plainFor (⟨"java/lang/StringUTF16", "compress", "([CI[BII)I"⟩ : MethodName) = true := by first | (refine plainFor_of_name ?_; simp [plainName, overriddenIn]; done) | (refine plainFor_of_name ?_; decide +kernel) | decide +kernel
def Q_cpi1 (Z : State) (a : Addr) (b : Addr) (va : Int32) (h0 : Heap) (n0 : Nat) (v : Option Value) (h : Heap) (L : List Loc) : Prop := v = some (.int (1 : Int32)) ∧ Fr n0 L ∧ Keep h0 h [b] ∧ GA Z h b .byte 1 (fun i => .int (own_c3 (own_by va) (0 : Int32) (0 : Int32) i))
theorem ef_cpi1 (m : MethodId) (a : Addr) (b : Addr) (va : Int32) : entryFrame m #[(.ref a), (.int (0 : Int32)), (.ref b), (.int (0 : Int32)), (.int (1 : Int32))] 7 = mkF m 0 #[.val (.ref a), .val (.int (0 : Int32)), .val (.ref b), .val (.int (0 : Int32)), .val (.int (1 : Int32)), .unset, .unset] [] := by first | (simp [entryFrame, mkF, argsToLocals, Value.category]; done) | rfl
abbrev rm_cpi1 : Room := ({ frames := 0, cells := 0, slots := 0, locals := 0 } : Room)
set_option maxRecDepth 65536 in
set_option maxHeartbeats 4000000 in
theorem met_cpi1 (l : Launch) (Z : State) (a0 : Array Value) (hw : ∀ d ∈ tables_1, d.before a0 Z = true) (a : Addr) (b : Addr) (va : Int32) (h0 : Heap) (n0 : Nat) (Z0 : n0 ≤ h0.size) (P0 : GA Z h0 a .char 1 (fun i => .int (own_c3 va (0 : Int32) (0 : Int32) i))) (P1 : GA Z h0 b .byte 1 (fun i => .int (own_c3 (0 : Int32) (0 : Int32) (0 : Int32) i))) (P2 : n0 ≤ b) (P3 : a ≠ b) (P4 : Lat va) :
  Met l (⟨"java/lang/StringUTF16", "compress", "([CI[BII)I"⟩ : MethodName) jdk_52_method_21_code 7 (some FieldType.int) [] rm_cpi1 Z #[(.ref a), (.int (0 : Int32)), (.ref b), (.int (0 : Int32)), (.int (1 : Int32))] h0 (Q_cpi1 Z a b va h0 n0) rm_cpi1.cells rm_cpi1.slots := by
 refine own_body pn0 ?_
 intro p e s m below meth c s₁ ct X0 e0
 obtain ⟨hx, hZ, hown, hby, hml, hret, hlk, hnm⟩ := ct
 have N0 := Fr.nil n0
 refine castGo (ef_cpi1 m a b va) ?_
 show Gg s₁ m 0 []
 refine go_st (fun _ kq => XT.iconstV X0.here hx rfl (0 : Int32) (hb hby d5_0) (by decide) kq) ?_
 show Gg s₁ m 1 [(.int (0 : Int32))]
 refine go_st (fun _ kq => XS.istore X0.here hx rfl (hb hby d5_1) rfl (l' := #[.val (.ref a), .val (.int (0 : Int32)), .val (.ref b), .val (.int (0 : Int32)), .val (.int (1 : Int32)), .val (.int (0 : Int32)), .unset]) rfl kq) ?_
 show Gg s₁ m 3 []
 refine go_st (fun _ kq => XS.iload X0.here hx rfl (hb hby d5_3) rfl kq) ?_
 show Gg s₁ m 5 [(.int (0 : Int32))]
 refine go_st (fun _ kq => XS.iload X0.here hx rfl (hb hby d5_5) rfl kq) ?_
 show Gg s₁ m 7 [(.int (1 : Int32)), (.int (0 : Int32))]
 refine go_st (fun _ kq => XS.icmpNo X0.here hx rfl (hb hby d5_7) rfl (XT.ii_ge_f (by decide)) kq) ?_
 show Gg s₁ m 10 []
 refine go_st (fun _ kq => XS.aloadN X0.here hx rfl (hb hby d5_10) rfl rfl kq) ?_
 show Gg s₁ m 11 [(.ref a)]
 refine go_st (fun _ kq => XS.iloadN X0.here hx rfl (hb hby d5_11) rfl kq) ?_
 show Gg s₁ m 12 [(.int (0 : Int32)), (.ref a)]
 refine go_cald X0 hx hZ e0 P0 (hb hby d5_12) rfl rfl (by decide) (.int va) rfl ?_
 show Gg s₁ m 13 [(.int va)]
 refine go_st (fun _ kq => XS.istore X0.here hx rfl (hb hby d5_13) rfl (l' := #[.val (.ref a), .val (.int (0 : Int32)), .val (.ref b), .val (.int (0 : Int32)), .val (.int (1 : Int32)), .val (.int (0 : Int32)), .val (.int va)]) rfl kq) ?_
 show Gg s₁ m 15 []
 refine go_st (fun _ kq => XS.iload X0.here hx rfl (hb hby d5_15) rfl kq) ?_
 show Gg s₁ m 17 [(.int va)]
 refine go_st (fun _ kq => XT.sipushV X0.here hx rfl (255 : Int32) (hb hby d5_17) (by decide) kq) ?_
 show Gg s₁ m 20 [(.int (255 : Int32)), (.int va)]
 have hb1 : ¬ ((255 : Int32) < va) := by exact own_le255 P4
 refine go_st (fun _ kq => XS.icmpYes X0.here hx rfl (pc0 := 20) (pc' := 26) rfl (hb hby d5_20) rfl (XT.ii_le_t hb1) (by decide) (by decide) kq) ?_
 show Gg s₁ m 26 []
 refine go_st (fun _ kq => XS.aloadN X0.here hx rfl (hb hby d5_26) rfl rfl kq) ?_
 show Gg s₁ m 27 [(.ref b)]
 refine go_st (fun _ kq => XS.iloadN X0.here hx rfl (hb hby d5_27) rfl kq) ?_
 show Gg s₁ m 28 [(.int (0 : Int32)), (.ref b)]
 refine go_st (fun _ kq => XS.iload X0.here hx rfl (hb hby d5_28) rfl kq) ?_
 show Gg s₁ m 30 [(.int va), (.int (0 : Int32)), (.ref b)]
 refine go_st (fun _ kq => XT.i2b X0.here hx rfl (hb hby d5_30) rfl kq) ?_
 show Gg s₁ m 31 [(.int va.toInt8.toInt32), (.int (0 : Int32)), (.ref b)]
 refine go_bast X0 hx hZ e0 P1 (hb hby d5_31) rfl rfl (by decide) ?_
 intro T2 h2 X2 e2 W2 G2
 have N2 := Fr.snoc X2 N0 P2
 have A2 : GA Z h2 b .byte 1 (fun i => .int (own_c3 (own_by va) (0 : Int32) (0 : Int32) i)) := (own_stc (own_by2 P4) (by decide) (own_c30 (own_by va) (0 : Int32) (0 : Int32) (0 : Int32)) G2)
 show Gg T2 m 32 []
 refine go_st (fun _ kq => XT.iincV X2.here hx rfl (1 : Int32) (hb hby d5_32) (by decide) rfl (l' := #[.val (.ref a), .val (.int (1 : Int32)), .val (.ref b), .val (.int (0 : Int32)), .val (.int (1 : Int32)), .val (.int (0 : Int32)), .val (.int va)]) rfl kq) ?_
 show Gg T2 m 35 []
 refine go_st (fun _ kq => XT.iincV X2.here hx rfl (1 : Int32) (hb hby d5_35) (by decide) rfl (l' := #[.val (.ref a), .val (.int (1 : Int32)), .val (.ref b), .val (.int (1 : Int32)), .val (.int (1 : Int32)), .val (.int (0 : Int32)), .val (.int va)]) rfl kq) ?_
 show Gg T2 m 38 []
 refine go_st (fun _ kq => XT.iincV X2.here hx rfl (1 : Int32) (hb hby d5_38) (by decide) rfl (l' := #[.val (.ref a), .val (.int (1 : Int32)), .val (.ref b), .val (.int (1 : Int32)), .val (.int (1 : Int32)), .val (.int (1 : Int32)), .val (.int va)]) rfl kq) ?_
 show Gg T2 m 41 []
 refine go_st (fun _ kq => XS.goto X2.here hx rfl (pc0 := 41) (pc' := 3) rfl (hb hby d5_41) (by decide) (by decide) kq) ?_
 show Gg T2 m 3 []
 refine go_st (fun _ kq => XS.iload X2.here hx rfl (hb hby d5_3) rfl kq) ?_
 show Gg T2 m 5 [(.int (1 : Int32))]
 refine go_st (fun _ kq => XS.iload X2.here hx rfl (hb hby d5_5) rfl kq) ?_
 show Gg T2 m 7 [(.int (1 : Int32)), (.int (1 : Int32))]
 refine go_st (fun _ kq => XS.icmpYes X2.here hx rfl (pc0 := 7) (pc' := 44) rfl (hb hby d5_7) rfl (XT.ii_ge_t (by decide)) (by decide) (by decide) kq) ?_
 show Gg T2 m 44 []
 refine go_st (fun _ kq => XS.iload X2.here hx rfl (hb hby d5_44) rfl kq) ?_
 show Gg T2 m 46 [(.int (1 : Int32))]
 exact go_retI X2 hx hlk hret (hb hby d5_46) (by decide) (by decide) (by rw [e2]; exact ⟨rfl, N2, (Keep.wr (Keep.refl h0 [b]) W2 (Or.inl (by simp))), A2⟩)
theorem d4_0 : decode jdk_52_method_16_code 0 = .ok (.iload_n 2, 1) := by decide +kernel
theorem d4_1 : decode jdk_52_method_16_code 1 = .ok (.newarray .byte, 2) := by decide +kernel
theorem d4_3 : decode jdk_52_method_16_code 3 = .ok (.astore_n 3, 1) := by decide +kernel
theorem d4_4 : decode jdk_52_method_16_code 4 = .ok (.aload_n 0, 1) := by decide +kernel
theorem d4_5 : decode jdk_52_method_16_code 5 = .ok (.iload_n 1, 1) := by decide +kernel
theorem d4_6 : decode jdk_52_method_16_code 6 = .ok (.aload_n 3, 1) := by decide +kernel
theorem d4_7 : decode jdk_52_method_16_code 7 = .ok (.iconst 0, 1) := by decide +kernel
theorem d4_8 : decode jdk_52_method_16_code 8 = .ok (.iload_n 2, 1) := by decide +kernel
theorem d4_9 : decode jdk_52_method_16_code 9 = .ok (.invokestatic 115, 3) := by decide +kernel
theorem d4_12 : decode jdk_52_method_16_code 12 = .ok (.istore 4, 2) := by decide +kernel
theorem d4_14 : decode jdk_52_method_16_code 14 = .ok (.iload 4, 2) := by decide +kernel
theorem d4_16 : decode jdk_52_method_16_code 16 = .ok (.iload_n 2, 1) := by decide +kernel
theorem d4_17 : decode jdk_52_method_16_code 17 = .ok (.if_icmp .eq 40, 3) := by decide +kernel
theorem d4_20 : decode jdk_52_method_16_code 20 = .ok (.aload_n 0, 1) := by decide +kernel
theorem d4_21 : decode jdk_52_method_16_code 21 = .ok (.iload_n 1, 1) := by decide +kernel
theorem d4_22 : decode jdk_52_method_16_code 22 = .ok (.iload_n 2, 1) := by decide +kernel
theorem d4_23 : decode jdk_52_method_16_code 23 = .ok (.invokestatic 119, 3) := by decide +kernel
theorem d4_26 : decode jdk_52_method_16_code 26 = .ok (.astore 5, 2) := by decide +kernel
theorem d4_28 : decode jdk_52_method_16_code 28 = .ok (.aload 5, 2) := by decide +kernel
theorem d4_30 : decode jdk_52_method_16_code 30 = .ok (.iload 4, 2) := by decide +kernel
theorem d4_32 : decode jdk_52_method_16_code 32 = .ok (.invokestatic 71, 3) := by decide +kernel
theorem d4_35 : decode jdk_52_method_16_code 35 = .ok (.sipush 255, 3) := by decide +kernel
theorem d4_38 : decode jdk_52_method_16_code 38 = .ok (.if_icmp .gt 16, 3) := by decide +kernel
theorem d4_41 : decode jdk_52_method_16_code 41 = .ok (.aload 5, 2) := by decide +kernel
theorem d4_43 : decode jdk_52_method_16_code 43 = .ok (.iconst 0, 1) := by decide +kernel
theorem d4_44 : decode jdk_52_method_16_code 44 = .ok (.aload_n 3, 1) := by decide +kernel
theorem d4_45 : decode jdk_52_method_16_code 45 = .ok (.iconst 0, 1) := by decide +kernel
theorem d4_46 : decode jdk_52_method_16_code 46 = .ok (.iload_n 2, 1) := by decide +kernel
theorem d4_47 : decode jdk_52_method_16_code 47 = .ok (.invokestatic 123, 3) := by decide +kernel
theorem d4_50 : decode jdk_52_method_16_code 50 = .ok (.iload_n 2, 1) := by decide +kernel
theorem d4_51 : decode jdk_52_method_16_code 51 = .ok (.if_icmp .eq 6, 3) := by decide +kernel
theorem d4_54 : decode jdk_52_method_16_code 54 = .ok (.aload 5, 2) := by decide +kernel
theorem d4_56 : decode jdk_52_method_16_code 56 = .ok (.areturn, 1) := by decide +kernel
theorem d4_57 : decode jdk_52_method_16_code 57 = .ok (.aload_n 3, 1) := by decide +kernel
theorem d4_58 : decode jdk_52_method_16_code 58 = .ok (.areturn, 1) := by decide +kernel
theorem pn1 : plainFor (⟨"java/lang/StringUTF16", "compress", "([CII)[B"⟩ : MethodName) = true := by first | (refine plainFor_of_name ?_; simp [plainName, overriddenIn]; done) | (refine plainFor_of_name ?_; decide +kernel) | decide +kernel
def Q_cp1 (Z : State) (a : Addr) (va : Int32) (h0 : Heap) (n0 : Nat) (v : Option Value) (h : Heap) (L : List Loc) : Prop := ∃ r : Addr, v = some (.ref r) ∧ Fr n0 L ∧ Keep h0 h [] ∧ h0.size ≤ r ∧ GA Z h r .byte 1 (fun i => .int (own_c3 (own_by va) (0 : Int32) (0 : Int32) i))
theorem pd0 : parseMethodDescriptor "([CI[BII)I" = some ⟨[(.array .char), .int, (.array .byte), .int, .int], (some .int)⟩ := by decide +kernel
theorem ef_cp1 (m : MethodId) (a : Addr) (va : Int32) : entryFrame m #[(.ref a), (.int (0 : Int32)), (.int (1 : Int32))] 6 = mkF m 0 #[.val (.ref a), .val (.int (0 : Int32)), .val (.int (1 : Int32)), .unset, .unset, .unset] [] := by first | (simp [entryFrame, mkF, argsToLocals, Value.category]; done) | rfl
abbrev rm_cp1 : Room := ({ frames := 1, cells := 1, slots := 1, locals := 18 } : Room)
set_option maxRecDepth 65536 in
set_option maxHeartbeats 4000000 in
theorem met_cp1 (l : Launch) (Z : State) (a0 : Array Value) (hw : ∀ d ∈ tables_1, d.before a0 Z = true) (a : Addr) (va : Int32) (h0 : Heap) (n0 : Nat) (Z0 : n0 ≤ h0.size) (P0 : GA Z h0 a .char 1 (fun i => .int (own_c3 va (0 : Int32) (0 : Int32) i))) (P1 : Lat va) :
  Met l (⟨"java/lang/StringUTF16", "compress", "([CII)[B"⟩ : MethodName) jdk_52_method_16_code 6 (some (FieldType.array FieldType.byte)) [] rm_cp1 Z #[(.ref a), (.int (0 : Int32)), (.int (1 : Int32))] h0 (Q_cp1 Z a va h0 n0) rm_cp1.cells rm_cp1.slots := by
 refine own_body pn1 ?_
 intro p e s m below meth c s₁ ct X0 e0
 obtain ⟨hx, hZ, hown, hby, hml, hret, hlk, hnm⟩ := ct
 have lt_a : a < h0.size := P0.lt
 have N0 := Fr.nil n0
 refine castGo (ef_cp1 m a va) ?_
 show Gg s₁ m 0 []
 refine go_st (fun _ kq => XS.iloadN X0.here hx rfl (hb hby d4_0) rfl kq) ?_
 show Gg s₁ m 1 [(.int (1 : Int32))]
 refine go_newP X0 hx hZ (wd hw 22 rfl) e0 (hb hby d4_1) rfl rfl 1 (by decide) 1 (Nat.le_refl _) (by decide) (by decide) (by decide) ?_
 intro T3 h3 a3 g3 X3 e3 E3 G3
 have ne4 : a ≠ a3 := fun q => Nat.lt_irrefl _ (Nat.lt_of_lt_of_le lt_a (Nat.le_of_eq (g3.symm.trans q.symm)))
 have nw_a3 : n0 ≤ a3 := Nat.le_trans Z0 (Nat.le_of_eq g3.symm)
 have A3 : GA Z h3 a3 .byte 1 (fun i => .int (own_c3 (0 : Int32) (0 : Int32) (0 : Int32) i)) := (GA.congr G3 (fun i _ => own_z3 i))
 show Gg T3 m 3 [(.ref a3)]
 refine go_st (fun _ kq => XS.astoreN X3.here hx rfl (hb hby d4_3) rfl rfl (l' := #[.val (.ref a), .val (.int (0 : Int32)), .val (.int (1 : Int32)), .val (.ref a3), .unset, .unset]) rfl kq) ?_
 show Gg T3 m 4 []
 refine go_st (fun _ kq => XS.aloadN X3.here hx rfl (hb hby d4_4) rfl rfl kq) ?_
 show Gg T3 m 5 [(.ref a)]
 refine go_st (fun _ kq => XS.iloadN X3.here hx rfl (hb hby d4_5) rfl kq) ?_
 show Gg T3 m 6 [(.int (0 : Int32)), (.ref a)]
 refine go_st (fun _ kq => XS.aloadN X3.here hx rfl (hb hby d4_6) rfl rfl kq) ?_
 show Gg T3 m 7 [(.ref a3), (.int (0 : Int32)), (.ref a)]
 refine go_st (fun _ kq => XT.iconstV X3.here hx rfl (0 : Int32) (hb hby d4_7) (by decide) kq) ?_
 show Gg T3 m 8 [(.int (0 : Int32)), (.ref a3), (.int (0 : Int32)), (.ref a)]
 refine go_st (fun _ kq => XS.iloadN X3.here hx rfl (hb hby d4_8) rfl kq) ?_
 show Gg T3 m 9 [(.int (1 : Int32)), (.int (0 : Int32)), (.ref a3), (.int (0 : Int32)), (.ref a)]
 have c6 := P0.ext E3
 have z7 : n0 ≤ h3.size := Nat.le_trans Z0 E3.1
 refine go_callS X3 hx hZ hml hown (wd hw 23 rfl) (wd hw 24 rfl) (wd hw 20 rfl) (wd hw 25 rfl) e3 (argsL := [(.ref a), (.int (0 : Int32)), (.ref a3), (.int (0 : Int32)), (.int (1 : Int32))]) (rest := []) (W := 0) (met_cpi1 l Z a0 hw a a3 va h3 n0 z7 c6 A3 nw_a3 ne4 P1) (hb hby d4_9) rfl rfl rfl (lenOf pd0 rfl) (by show 2 * 0 + _ ≤ _; exact Nat.le_of_eq rfl) (by decide) (by decide) (by decide) (by decide) (by decide) ?_
 intro T5 v5 L5 X5 q5
 obtain ⟨rfl, M5, K5, f5_0⟩ := q5
 have N5 := Fr.app N0 M5
 show Gg T5 m 12 [(.int (1 : Int32))]
 refine go_st (fun _ kq => XS.istore X5.here hx rfl (hb hby d4_12) rfl (l' := #[.val (.ref a), .val (.int (0 : Int32)), .val (.int (1 : Int32)), .val (.ref a3), .val (.int (1 : Int32)), .unset]) rfl kq) ?_
 show Gg T5 m 14 []
 refine go_st (fun _ kq => XS.iload X5.here hx rfl (hb hby d4_14) rfl kq) ?_
 show Gg T5 m 16 [(.int (1 : Int32))]
 refine go_st (fun _ kq => XS.iloadN X5.here hx rfl (hb hby d4_16) rfl kq) ?_
 show Gg T5 m 17 [(.int (1 : Int32)), (.int (1 : Int32))]
 refine go_st (fun _ kq => XS.icmpYes X5.here hx rfl (pc0 := 17) (pc' := 57) rfl (hb hby d4_17) rfl (XT.ii_eq_t (by decide)) (by decide) (by decide) kq) ?_
 show Gg T5 m 57 []
 refine go_st (fun _ kq => XS.aloadN X5.here hx rfl (hb hby d4_57) rfl rfl kq) ?_
 show Gg T5 m 58 [(.ref a3)]
 exact go_retA X5 hx hlk hret rfl rfl (hb hby d4_58) (by decide) (by decide) ⟨a3, rfl, N5, (Keep.trans (Keep.ext (Keep.refl h0 []) E3) K5 (allS (Or.inr (Nat.le_trans (Nat.le_refl _) (Nat.le_of_eq g3.symm))) all0)), (Nat.le_trans (Nat.le_refl _) (Nat.le_of_eq g3.symm)), f5_0⟩
theorem d6_0 : decode jdk_52_method_15_code 0 = .ok (.iload_n 1, 1) := by decide +kernel
theorem d6_1 : decode jdk_52_method_15_code 1 = .ok (.aload_n 0, 1) := by decide +kernel
theorem d6_2 : decode jdk_52_method_15_code 2 = .ok (.arraylength, 1) := by decide +kernel
theorem d6_3 : decode jdk_52_method_15_code 3 = .ok (.isub, 1) := by decide +kernel
theorem d6_4 : decode jdk_52_method_15_code 4 = .ok (.bipush 31, 2) := by decide +kernel
theorem d6_6 : decode jdk_52_method_15_code 6 = .ok (.iushr, 1) := by decide +kernel
theorem d6_7 : decode jdk_52_method_15_code 7 = .ok (.i2b, 1) := by decide +kernel
theorem d6_8 : decode jdk_52_method_15_code 8 = .ok (.ireturn, 1) := by decide +kernel
theorem pn2 : plainFor (⟨"java/lang/StringUTF16", "coderFromArrayLen", "([BI)B"⟩ : MethodName) = true := by first | (refine plainFor_of_name ?_; simp [plainName, overriddenIn]; done) | (refine plainFor_of_name ?_; decide +kernel) | decide +kernel
def fCfl1  : Int32 := (0 : Int32)
theorem ef_cfl1 (m : MethodId) (b : Addr) (fq : Nat → Value) : entryFrame m #[(.ref b), (.int (1 : Int32))] 2 = mkF m 0 #[.val (.ref b), .val (.int (1 : Int32))] [] := by first | (simp [entryFrame, mkF, argsToLocals, Value.category]; done) | rfl
abbrev rm_cfl1 : Room := ({ frames := 0, cells := 0, slots := 0, locals := 0 } : Room)
set_option maxRecDepth 65536 in
set_option maxHeartbeats 4000000 in
theorem met_cfl1 (l : Launch) (Z : State) (a0 : Array Value) (hw : ∀ d ∈ tables_1, d.before a0 Z = true) (b : Addr) (fq : Nat → Value) (h0 : Heap) (n0 : Nat) (Z0 : n0 ≤ h0.size) (P0 : GA Z h0 b .byte 1 fq) :
  Met l (⟨"java/lang/StringUTF16", "coderFromArrayLen", "([BI)B"⟩ : MethodName) jdk_52_method_15_code 2 (some FieldType.byte) [] rm_cfl1 Z #[(.ref b), (.int (1 : Int32))] h0 (QV (some (.int (fCfl1 ))) h0 n0) 0 0 := by
 refine own_body pn2 ?_
 intro p e s m below meth c s₁ ct X0 e0
 obtain ⟨hx, hZ, hown, hby, hml, hret, hlk, hnm⟩ := ct
 have N0 := Fr.nil n0
 refine castGo (ef_cfl1 m b fq) ?_
 unfold fCfl1
 show Gg s₁ m 0 []
 refine go_st (fun _ kq => XS.iloadN X0.here hx rfl (hb hby d6_0) rfl kq) ?_
 show Gg s₁ m 1 [(.int (1 : Int32))]
 refine go_st (fun _ kq => XS.aloadN X0.here hx rfl (hb hby d6_1) rfl rfl kq) ?_
 show Gg s₁ m 2 [(.ref b), (.int (1 : Int32))]
 refine go_alen X0 hx hZ e0 P0 (hb hby d6_2) rfl rfl (1 : Int32) (by decide) ?_
 show Gg s₁ m 3 [(.int (1 : Int32)), (.int (1 : Int32))]
 refine go_st (fun _ kq => XS.isub X0.here hx rfl (hb hby d6_3) rfl kq) ?_
 rw [show ((1 : Int32) - (1 : Int32)) = (0 : Int32) from by decide +kernel]
 show Gg s₁ m 4 [(.int (0 : Int32))]
 refine go_st (fun _ kq => XT.bipushV X0.here hx rfl (31 : Int32) (hb hby d6_4) (by decide) kq) ?_
 show Gg s₁ m 6 [(.int (31 : Int32)), (.int (0 : Int32))]
 refine go_st (fun _ kq => XT.iushr X0.here hx rfl (hb hby d6_6) rfl kq) ?_
 rw [show (XT.ushr (0 : Int32) (31 : Int32)) = (0 : Int32) from by decide +kernel]
 show Gg s₁ m 7 [(.int (0 : Int32))]
 refine go_st (fun _ kq => XT.i2b X0.here hx rfl (hb hby d6_7) rfl kq) ?_
 rw [show (0 : Int32).toInt8.toInt32 = (0 : Int32) from by decide +kernel]
 show Gg s₁ m 8 [(.int (0 : Int32))]
 exact go_retN (t := .byte) (w := (0 : Int32)) X0 hx hlk hret (by simp) (hb hby d6_8) (by decide +kernel) (by decide) (by decide) ⟨rfl, N0, e0⟩
def Q_cpi2 (Z : State) (a : Addr) (b : Addr) (va : Int32) (vb : Int32) (h0 : Heap) (n0 : Nat) (v : Option Value) (h : Heap) (L : List Loc) : Prop := v = some (.int (2 : Int32)) ∧ Fr n0 L ∧ Keep h0 h [b] ∧ GA Z h b .byte 2 (fun i => .int (own_c3 (own_by va) (own_by vb) (0 : Int32) i))
theorem ef_cpi2 (m : MethodId) (a : Addr) (b : Addr) (va : Int32) (vb : Int32) : entryFrame m #[(.ref a), (.int (0 : Int32)), (.ref b), (.int (0 : Int32)), (.int (2 : Int32))] 7 = mkF m 0 #[.val (.ref a), .val (.int (0 : Int32)), .val (.ref b), .val (.int (0 : Int32)), .val (.int (2 : Int32)), .unset, .unset] [] := by first | (simp [entryFrame, mkF, argsToLocals, Value.category]; done) | rfl
abbrev rm_cpi2 : Room := ({ frames := 0, cells := 0, slots := 0, locals := 0 } : Room)
set_option maxRecDepth 65536 in
set_option maxHeartbeats 4000000 in
theorem met_cpi2 (l : Launch) (Z : State) (a0 : Array Value) (hw : ∀ d ∈ tables_1, d.before a0 Z = true) (a : Addr) (b : Addr) (va : Int32) (vb : Int32) (h0 : Heap) (n0 : Nat) (Z0 : n0 ≤ h0.size) (P0 : GA Z h0 a .char 2 (fun i => .int (own_c3 va vb (0 : Int32) i))) (P1 : GA Z h0 b .byte 2 (fun i => .int (own_c3 (0 : Int32) (0 : Int32) (0 : Int32) i))) (P2 : n0 ≤ b) (P3 : a ≠ b) (P4 : Lat va) (P5 : Lat vb) :
  Met l (⟨"java/lang/StringUTF16", "compress", "([CI[BII)I"⟩ : MethodName) jdk_52_method_21_code 7 (some FieldType.int) [] rm_cpi2 Z #[(.ref a), (.int (0 : Int32)), (.ref b), (.int (0 : Int32)), (.int (2 : Int32))] h0 (Q_cpi2 Z a b va vb h0 n0) rm_cpi2.cells rm_cpi2.slots := by
 refine own_body pn0 ?_
 intro p e s m below meth c s₁ ct X0 e0
 obtain ⟨hx, hZ, hown, hby, hml, hret, hlk, hnm⟩ := ct
 have N0 := Fr.nil n0
 refine castGo (ef_cpi2 m a b va vb) ?_
 show Gg s₁ m 0 []
 refine go_st (fun _ kq => XT.iconstV X0.here hx rfl (0 : Int32) (hb hby d5_0) (by decide) kq) ?_
 show Gg s₁ m 1 [(.int (0 : Int32))]
 refine go_st (fun _ kq => XS.istore X0.here hx rfl (hb hby d5_1) rfl (l' := #[.val (.ref a), .val (.int (0 : Int32)), .val (.ref b), .val (.int (0 : Int32)), .val (.int (2 : Int32)), .val (.int (0 : Int32)), .unset]) rfl kq) ?_
 show Gg s₁ m 3 []
 refine go_st (fun _ kq => XS.iload X0.here hx rfl (hb hby d5_3) rfl kq) ?_
 show Gg s₁ m 5 [(.int (0 : Int32))]
 refine go_st (fun _ kq => XS.iload X0.here hx rfl (hb hby d5_5) rfl kq) ?_
 show Gg s₁ m 7 [(.int (2 : Int32)), (.int (0 : Int32))]
 refine go_st (fun _ kq => XS.icmpNo X0.here hx rfl (hb hby d5_7) rfl (XT.ii_ge_f (by decide)) kq) ?_
 show Gg s₁ m 10 []
 refine go_st (fun _ kq => XS.aloadN X0.here hx rfl (hb hby d5_10) rfl rfl kq) ?_
 show Gg s₁ m 11 [(.ref a)]
 refine go_st (fun _ kq => XS.iloadN X0.here hx rfl (hb hby d5_11) rfl kq) ?_
 show Gg s₁ m 12 [(.int (0 : Int32)), (.ref a)]
 refine go_cald X0 hx hZ e0 P0 (hb hby d5_12) rfl rfl (by decide) (.int va) rfl ?_
 show Gg s₁ m 13 [(.int va)]
 refine go_st (fun _ kq => XS.istore X0.here hx rfl (hb hby d5_13) rfl (l' := #[.val (.ref a), .val (.int (0 : Int32)), .val (.ref b), .val (.int (0 : Int32)), .val (.int (2 : Int32)), .val (.int (0 : Int32)), .val (.int va)]) rfl kq) ?_
 show Gg s₁ m 15 []
 refine go_st (fun _ kq => XS.iload X0.here hx rfl (hb hby d5_15) rfl kq) ?_
 show Gg s₁ m 17 [(.int va)]
 refine go_st (fun _ kq => XT.sipushV X0.here hx rfl (255 : Int32) (hb hby d5_17) (by decide) kq) ?_
 show Gg s₁ m 20 [(.int (255 : Int32)), (.int va)]
 have hb8 : ¬ ((255 : Int32) < va) := by exact own_le255 P4
 refine go_st (fun _ kq => XS.icmpYes X0.here hx rfl (pc0 := 20) (pc' := 26) rfl (hb hby d5_20) rfl (XT.ii_le_t hb8) (by decide) (by decide) kq) ?_
 show Gg s₁ m 26 []
 refine go_st (fun _ kq => XS.aloadN X0.here hx rfl (hb hby d5_26) rfl rfl kq) ?_
 show Gg s₁ m 27 [(.ref b)]
 refine go_st (fun _ kq => XS.iloadN X0.here hx rfl (hb hby d5_27) rfl kq) ?_
 show Gg s₁ m 28 [(.int (0 : Int32)), (.ref b)]
 refine go_st (fun _ kq => XS.iload X0.here hx rfl (hb hby d5_28) rfl kq) ?_
 show Gg s₁ m 30 [(.int va), (.int (0 : Int32)), (.ref b)]
 refine go_st (fun _ kq => XT.i2b X0.here hx rfl (hb hby d5_30) rfl kq) ?_
 show Gg s₁ m 31 [(.int va.toInt8.toInt32), (.int (0 : Int32)), (.ref b)]
 refine go_bast X0 hx hZ e0 P1 (hb hby d5_31) rfl rfl (by decide) ?_
 intro T9 h9 X9 e9 W9 G9
 have N9 := Fr.snoc X9 N0 P2
 have A9 : GA Z h9 b .byte 2 (fun i => .int (own_c3 (own_by va) (0 : Int32) (0 : Int32) i)) := (own_stc (own_by2 P4) (by decide) (own_c30 (own_by va) (0 : Int32) (0 : Int32) (0 : Int32)) G9)
 show Gg T9 m 32 []
 refine go_st (fun _ kq => XT.iincV X9.here hx rfl (1 : Int32) (hb hby d5_32) (by decide) rfl (l' := #[.val (.ref a), .val (.int (1 : Int32)), .val (.ref b), .val (.int (0 : Int32)), .val (.int (2 : Int32)), .val (.int (0 : Int32)), .val (.int va)]) rfl kq) ?_
 show Gg T9 m 35 []
 refine go_st (fun _ kq => XT.iincV X9.here hx rfl (1 : Int32) (hb hby d5_35) (by decide) rfl (l' := #[.val (.ref a), .val (.int (1 : Int32)), .val (.ref b), .val (.int (1 : Int32)), .val (.int (2 : Int32)), .val (.int (0 : Int32)), .val (.int va)]) rfl kq) ?_
 show Gg T9 m 38 []
 refine go_st (fun _ kq => XT.iincV X9.here hx rfl (1 : Int32) (hb hby d5_38) (by decide) rfl (l' := #[.val (.ref a), .val (.int (1 : Int32)), .val (.ref b), .val (.int (1 : Int32)), .val (.int (2 : Int32)), .val (.int (1 : Int32)), .val (.int va)]) rfl kq) ?_
 show Gg T9 m 41 []
 refine go_st (fun _ kq => XS.goto X9.here hx rfl (pc0 := 41) (pc' := 3) rfl (hb hby d5_41) (by decide) (by decide) kq) ?_
 show Gg T9 m 3 []
 refine go_st (fun _ kq => XS.iload X9.here hx rfl (hb hby d5_3) rfl kq) ?_
 show Gg T9 m 5 [(.int (1 : Int32))]
 refine go_st (fun _ kq => XS.iload X9.here hx rfl (hb hby d5_5) rfl kq) ?_
 show Gg T9 m 7 [(.int (2 : Int32)), (.int (1 : Int32))]
 refine go_st (fun _ kq => XS.icmpNo X9.here hx rfl (hb hby d5_7) rfl (XT.ii_ge_f (by decide)) kq) ?_
 show Gg T9 m 10 []
 refine go_st (fun _ kq => XS.aloadN X9.here hx rfl (hb hby d5_10) rfl rfl kq) ?_
 show Gg T9 m 11 [(.ref a)]
 refine go_st (fun _ kq => XS.iloadN X9.here hx rfl (hb hby d5_11) rfl kq) ?_
 show Gg T9 m 12 [(.int (1 : Int32)), (.ref a)]
 have c10 := P0.other W9 P3
 refine go_cald X9 hx hZ e9 c10 (hb hby d5_12) rfl rfl (by decide) (.int vb) rfl ?_
 show Gg T9 m 13 [(.int vb)]
 refine go_st (fun _ kq => XS.istore X9.here hx rfl (hb hby d5_13) rfl (l' := #[.val (.ref a), .val (.int (1 : Int32)), .val (.ref b), .val (.int (1 : Int32)), .val (.int (2 : Int32)), .val (.int (1 : Int32)), .val (.int vb)]) rfl kq) ?_
 show Gg T9 m 15 []
 refine go_st (fun _ kq => XS.iload X9.here hx rfl (hb hby d5_15) rfl kq) ?_
 show Gg T9 m 17 [(.int vb)]
 refine go_st (fun _ kq => XT.sipushV X9.here hx rfl (255 : Int32) (hb hby d5_17) (by decide) kq) ?_
 show Gg T9 m 20 [(.int (255 : Int32)), (.int vb)]
 have hb11 : ¬ ((255 : Int32) < vb) := by exact own_le255 P5
 refine go_st (fun _ kq => XS.icmpYes X9.here hx rfl (pc0 := 20) (pc' := 26) rfl (hb hby d5_20) rfl (XT.ii_le_t hb11) (by decide) (by decide) kq) ?_
 show Gg T9 m 26 []
 refine go_st (fun _ kq => XS.aloadN X9.here hx rfl (hb hby d5_26) rfl rfl kq) ?_
 show Gg T9 m 27 [(.ref b)]
 refine go_st (fun _ kq => XS.iloadN X9.here hx rfl (hb hby d5_27) rfl kq) ?_
 show Gg T9 m 28 [(.int (1 : Int32)), (.ref b)]
 refine go_st (fun _ kq => XS.iload X9.here hx rfl (hb hby d5_28) rfl kq) ?_
 show Gg T9 m 30 [(.int vb), (.int (1 : Int32)), (.ref b)]
 refine go_st (fun _ kq => XT.i2b X9.here hx rfl (hb hby d5_30) rfl kq) ?_
 show Gg T9 m 31 [(.int vb.toInt8.toInt32), (.int (1 : Int32)), (.ref b)]
 refine go_bast X9 hx hZ e9 A9 (hb hby d5_31) rfl rfl (by decide) ?_
 intro T12 h12 X12 e12 W12 G12
 have N12 := Fr.snoc X12 N9 P2
 have A12 : GA Z h12 b .byte 2 (fun i => .int (own_c3 (own_by va) (own_by vb) (0 : Int32) i)) := (own_stc (own_by2 P5) (by decide) (own_c31 (own_by vb) (own_by va) (0 : Int32) (0 : Int32)) G12)
 show Gg T12 m 32 []
 refine go_st (fun _ kq => XT.iincV X12.here hx rfl (1 : Int32) (hb hby d5_32) (by decide) rfl (l' := #[.val (.ref a), .val (.int (2 : Int32)), .val (.ref b), .val (.int (1 : Int32)), .val (.int (2 : Int32)), .val (.int (1 : Int32)), .val (.int vb)]) rfl kq) ?_
 show Gg T12 m 35 []
 refine go_st (fun _ kq => XT.iincV X12.here hx rfl (1 : Int32) (hb hby d5_35) (by decide) rfl (l' := #[.val (.ref a), .val (.int (2 : Int32)), .val (.ref b), .val (.int (2 : Int32)), .val (.int (2 : Int32)), .val (.int (1 : Int32)), .val (.int vb)]) rfl kq) ?_
 show Gg T12 m 38 []
 refine go_st (fun _ kq => XT.iincV X12.here hx rfl (1 : Int32) (hb hby d5_38) (by decide) rfl (l' := #[.val (.ref a), .val (.int (2 : Int32)), .val (.ref b), .val (.int (2 : Int32)), .val (.int (2 : Int32)), .val (.int (2 : Int32)), .val (.int vb)]) rfl kq) ?_
 show Gg T12 m 41 []
 refine go_st (fun _ kq => XS.goto X12.here hx rfl (pc0 := 41) (pc' := 3) rfl (hb hby d5_41) (by decide) (by decide) kq) ?_
 show Gg T12 m 3 []
 refine go_st (fun _ kq => XS.iload X12.here hx rfl (hb hby d5_3) rfl kq) ?_
 show Gg T12 m 5 [(.int (2 : Int32))]
 refine go_st (fun _ kq => XS.iload X12.here hx rfl (hb hby d5_5) rfl kq) ?_
 show Gg T12 m 7 [(.int (2 : Int32)), (.int (2 : Int32))]
 refine go_st (fun _ kq => XS.icmpYes X12.here hx rfl (pc0 := 7) (pc' := 44) rfl (hb hby d5_7) rfl (XT.ii_ge_t (by decide)) (by decide) (by decide) kq) ?_
 show Gg T12 m 44 []
 refine go_st (fun _ kq => XS.iload X12.here hx rfl (hb hby d5_44) rfl kq) ?_
 show Gg T12 m 46 [(.int (2 : Int32))]
 exact go_retI X12 hx hlk hret (hb hby d5_46) (by decide) (by decide) (by rw [e12]; exact ⟨rfl, N12, (Keep.wr (Keep.wr (Keep.refl h0 [b]) W9 (Or.inl (by simp))) W12 (Or.inl (by simp))), A12⟩)
def Q_cp2 (Z : State) (a : Addr) (va : Int32) (vb : Int32) (h0 : Heap) (n0 : Nat) (v : Option Value) (h : Heap) (L : List Loc) : Prop := ∃ r : Addr, v = some (.ref r) ∧ Fr n0 L ∧ Keep h0 h [] ∧ h0.size ≤ r ∧ GA Z h r .byte 2 (fun i => .int (own_c3 (own_by va) (own_by vb) (0 : Int32) i))
theorem ef_cp2 (m : MethodId) (a : Addr) (va : Int32) (vb : Int32) : entryFrame m #[(.ref a), (.int (0 : Int32)), (.int (2 : Int32))] 6 = mkF m 0 #[.val (.ref a), .val (.int (0 : Int32)), .val (.int (2 : Int32)), .unset, .unset, .unset] [] := by first | (simp [entryFrame, mkF, argsToLocals, Value.category]; done) | rfl
abbrev rm_cp2 : Room := ({ frames := 1, cells := 1, slots := 2, locals := 18 } : Room)
set_option maxRecDepth 65536 in
set_option maxHeartbeats 4000000 in
theorem met_cp2 (l : Launch) (Z : State) (a0 : Array Value) (hw : ∀ d ∈ tables_1, d.before a0 Z = true) (a : Addr) (va : Int32) (vb : Int32) (h0 : Heap) (n0 : Nat) (Z0 : n0 ≤ h0.size) (P0 : GA Z h0 a .char 2 (fun i => .int (own_c3 va vb (0 : Int32) i))) (P1 : Lat va) (P2 : Lat vb) :
  Met l (⟨"java/lang/StringUTF16", "compress", "([CII)[B"⟩ : MethodName) jdk_52_method_16_code 6 (some (FieldType.array FieldType.byte)) [] rm_cp2 Z #[(.ref a), (.int (0 : Int32)), (.int (2 : Int32))] h0 (Q_cp2 Z a va vb h0 n0) rm_cp2.cells rm_cp2.slots := by
 refine own_body pn1 ?_
 intro p e s m below meth c s₁ ct X0 e0
 obtain ⟨hx, hZ, hown, hby, hml, hret, hlk, hnm⟩ := ct
 have lt_a : a < h0.size := P0.lt
 have N0 := Fr.nil n0
 refine castGo (ef_cp2 m a va vb) ?_
 show Gg s₁ m 0 []
 refine go_st (fun _ kq => XS.iloadN X0.here hx rfl (hb hby d4_0) rfl kq) ?_
 show Gg s₁ m 1 [(.int (2 : Int32))]
 refine go_newP X0 hx hZ (wd hw 22 rfl) e0 (hb hby d4_1) rfl rfl 2 (by decide) 2 (Nat.le_refl _) (by decide) (by decide) (by decide) ?_
 intro T13 h13 a13 g13 X13 e13 E13 G13
 have ne14 : a ≠ a13 := fun q => Nat.lt_irrefl _ (Nat.lt_of_lt_of_le lt_a (Nat.le_of_eq (g13.symm.trans q.symm)))
 have nw_a13 : n0 ≤ a13 := Nat.le_trans Z0 (Nat.le_of_eq g13.symm)
 have A13 : GA Z h13 a13 .byte 2 (fun i => .int (own_c3 (0 : Int32) (0 : Int32) (0 : Int32) i)) := (GA.congr G13 (fun i _ => own_z3 i))
 show Gg T13 m 3 [(.ref a13)]
 refine go_st (fun _ kq => XS.astoreN X13.here hx rfl (hb hby d4_3) rfl rfl (l' := #[.val (.ref a), .val (.int (0 : Int32)), .val (.int (2 : Int32)), .val (.ref a13), .unset, .unset]) rfl kq) ?_
 show Gg T13 m 4 []
 refine go_st (fun _ kq => XS.aloadN X13.here hx rfl (hb hby d4_4) rfl rfl kq) ?_
 show Gg T13 m 5 [(.ref a)]
 refine go_st (fun _ kq => XS.iloadN X13.here hx rfl (hb hby d4_5) rfl kq) ?_
 show Gg T13 m 6 [(.int (0 : Int32)), (.ref a)]
 refine go_st (fun _ kq => XS.aloadN X13.here hx rfl (hb hby d4_6) rfl rfl kq) ?_
 show Gg T13 m 7 [(.ref a13), (.int (0 : Int32)), (.ref a)]
 refine go_st (fun _ kq => XT.iconstV X13.here hx rfl (0 : Int32) (hb hby d4_7) (by decide) kq) ?_
 show Gg T13 m 8 [(.int (0 : Int32)), (.ref a13), (.int (0 : Int32)), (.ref a)]
 refine go_st (fun _ kq => XS.iloadN X13.here hx rfl (hb hby d4_8) rfl kq) ?_
 show Gg T13 m 9 [(.int (2 : Int32)), (.int (0 : Int32)), (.ref a13), (.int (0 : Int32)), (.ref a)]
 have c16 := P0.ext E13
 have z17 : n0 ≤ h13.size := Nat.le_trans Z0 E13.1
 refine go_callS X13 hx hZ hml hown (wd hw 23 rfl) (wd hw 24 rfl) (wd hw 20 rfl) (wd hw 25 rfl) e13 (argsL := [(.ref a), (.int (0 : Int32)), (.ref a13), (.int (0 : Int32)), (.int (2 : Int32))]) (rest := []) (W := 0) (met_cpi2 l Z a0 hw a a13 va vb h13 n0 z17 c16 A13 nw_a13 ne14 P1 P2) (hb hby d4_9) rfl rfl rfl (lenOf pd0 rfl) (by show 2 * 0 + _ ≤ _; exact Nat.le_of_eq rfl) (by decide) (by decide) (by decide) (by decide) (by decide) ?_
 intro T15 v15 L15 X15 q15
 obtain ⟨rfl, M15, K15, f15_0⟩ := q15
 have N15 := Fr.app N0 M15
 show Gg T15 m 12 [(.int (2 : Int32))]
 refine go_st (fun _ kq => XS.istore X15.here hx rfl (hb hby d4_12) rfl (l' := #[.val (.ref a), .val (.int (0 : Int32)), .val (.int (2 : Int32)), .val (.ref a13), .val (.int (2 : Int32)), .unset]) rfl kq) ?_
 show Gg T15 m 14 []
 refine go_st (fun _ kq => XS.iload X15.here hx rfl (hb hby d4_14) rfl kq) ?_
 show Gg T15 m 16 [(.int (2 : Int32))]
 refine go_st (fun _ kq => XS.iloadN X15.here hx rfl (hb hby d4_16) rfl kq) ?_
 show Gg T15 m 17 [(.int (2 : Int32)), (.int (2 : Int32))]
 refine go_st (fun _ kq => XS.icmpYes X15.here hx rfl (pc0 := 17) (pc' := 57) rfl (hb hby d4_17) rfl (XT.ii_eq_t (by decide)) (by decide) (by decide) kq) ?_
 show Gg T15 m 57 []
 refine go_st (fun _ kq => XS.aloadN X15.here hx rfl (hb hby d4_57) rfl rfl kq) ?_
 show Gg T15 m 58 [(.ref a13)]
 exact go_retA X15 hx hlk hret rfl rfl (hb hby d4_58) (by decide) (by decide) ⟨a13, rfl, N15, (Keep.trans (Keep.ext (Keep.refl h0 []) E13) K15 (allS (Or.inr (Nat.le_trans (Nat.le_refl _) (Nat.le_of_eq g13.symm))) all0)), (Nat.le_trans (Nat.le_refl _) (Nat.le_of_eq g13.symm)), f15_0⟩
def fCfl2  : Int32 := (0 : Int32)
theorem ef_cfl2 (m : MethodId) (b : Addr) (fq : Nat → Value) : entryFrame m #[(.ref b), (.int (2 : Int32))] 2 = mkF m 0 #[.val (.ref b), .val (.int (2 : Int32))] [] := by first | (simp [entryFrame, mkF, argsToLocals, Value.category]; done) | rfl
abbrev rm_cfl2 : Room := ({ frames := 0, cells := 0, slots := 0, locals := 0 } : Room)
set_option maxRecDepth 65536 in
set_option maxHeartbeats 4000000 in
theorem met_cfl2 (l : Launch) (Z : State) (a0 : Array Value) (hw : ∀ d ∈ tables_1, d.before a0 Z = true) (b : Addr) (fq : Nat → Value) (h0 : Heap) (n0 : Nat) (Z0 : n0 ≤ h0.size) (P0 : GA Z h0 b .byte 2 fq) :
  Met l (⟨"java/lang/StringUTF16", "coderFromArrayLen", "([BI)B"⟩ : MethodName) jdk_52_method_15_code 2 (some FieldType.byte) [] rm_cfl2 Z #[(.ref b), (.int (2 : Int32))] h0 (QV (some (.int (fCfl2 ))) h0 n0) 0 0 := by
 refine own_body pn2 ?_
 intro p e s m below meth c s₁ ct X0 e0
 obtain ⟨hx, hZ, hown, hby, hml, hret, hlk, hnm⟩ := ct
 have N0 := Fr.nil n0
 refine castGo (ef_cfl2 m b fq) ?_
 unfold fCfl2
 show Gg s₁ m 0 []
 refine go_st (fun _ kq => XS.iloadN X0.here hx rfl (hb hby d6_0) rfl kq) ?_
 show Gg s₁ m 1 [(.int (2 : Int32))]
 refine go_st (fun _ kq => XS.aloadN X0.here hx rfl (hb hby d6_1) rfl rfl kq) ?_
 show Gg s₁ m 2 [(.ref b), (.int (2 : Int32))]
 refine go_alen X0 hx hZ e0 P0 (hb hby d6_2) rfl rfl (2 : Int32) (by decide) ?_
 show Gg s₁ m 3 [(.int (2 : Int32)), (.int (2 : Int32))]
 refine go_st (fun _ kq => XS.isub X0.here hx rfl (hb hby d6_3) rfl kq) ?_
 rw [show ((2 : Int32) - (2 : Int32)) = (0 : Int32) from by decide +kernel]
 show Gg s₁ m 4 [(.int (0 : Int32))]
 refine go_st (fun _ kq => XT.bipushV X0.here hx rfl (31 : Int32) (hb hby d6_4) (by decide) kq) ?_
 show Gg s₁ m 6 [(.int (31 : Int32)), (.int (0 : Int32))]
 refine go_st (fun _ kq => XT.iushr X0.here hx rfl (hb hby d6_6) rfl kq) ?_
 rw [show (XT.ushr (0 : Int32) (31 : Int32)) = (0 : Int32) from by decide +kernel]
 show Gg s₁ m 7 [(.int (0 : Int32))]
 refine go_st (fun _ kq => XT.i2b X0.here hx rfl (hb hby d6_7) rfl kq) ?_
 rw [show (0 : Int32).toInt8.toInt32 = (0 : Int32) from by decide +kernel]
 show Gg s₁ m 8 [(.int (0 : Int32))]
 exact go_retN (t := .byte) (w := (0 : Int32)) X0 hx hlk hret (by simp) (hb hby d6_8) (by decide +kernel) (by decide) (by decide) ⟨rfl, N0, e0⟩
def Q_cpi3 (Z : State) (a : Addr) (b : Addr) (va : Int32) (vb : Int32) (vc : Int32) (h0 : Heap) (n0 : Nat) (v : Option Value) (h : Heap) (L : List Loc) : Prop := v = some (.int (3 : Int32)) ∧ Fr n0 L ∧ Keep h0 h [b] ∧ GA Z h b .byte 3 (fun i => .int (own_c3 (own_by va) (own_by vb) (own_by vc) i))
theorem ef_cpi3 (m : MethodId) (a : Addr) (b : Addr) (va : Int32) (vb : Int32) (vc : Int32) : entryFrame m #[(.ref a), (.int (0 : Int32)), (.ref b), (.int (0 : Int32)), (.int (3 : Int32))] 7 = mkF m 0 #[.val (.ref a), .val (.int (0 : Int32)), .val (.ref b), .val (.int (0 : Int32)), .val (.int (3 : Int32)), .unset, .unset] [] := by first | (simp [entryFrame, mkF, argsToLocals, Value.category]; done) | rfl
abbrev rm_cpi3 : Room := ({ frames := 0, cells := 0, slots := 0, locals := 0 } : Room)
set_option maxRecDepth 65536 in
set_option maxHeartbeats 4000000 in
theorem met_cpi3 (l : Launch) (Z : State) (a0 : Array Value) (hw : ∀ d ∈ tables_1, d.before a0 Z = true) (a : Addr) (b : Addr) (va : Int32) (vb : Int32) (vc : Int32) (h0 : Heap) (n0 : Nat) (Z0 : n0 ≤ h0.size) (P0 : GA Z h0 a .char 3 (fun i => .int (own_c3 va vb vc i))) (P1 : GA Z h0 b .byte 3 (fun i => .int (own_c3 (0 : Int32) (0 : Int32) (0 : Int32) i))) (P2 : n0 ≤ b) (P3 : a ≠ b) (P4 : Lat va) (P5 : Lat vb) (P6 : Lat vc) :
  Met l (⟨"java/lang/StringUTF16", "compress", "([CI[BII)I"⟩ : MethodName) jdk_52_method_21_code 7 (some FieldType.int) [] rm_cpi3 Z #[(.ref a), (.int (0 : Int32)), (.ref b), (.int (0 : Int32)), (.int (3 : Int32))] h0 (Q_cpi3 Z a b va vb vc h0 n0) rm_cpi3.cells rm_cpi3.slots := by
 refine own_body pn0 ?_
 intro p e s m below meth c s₁ ct X0 e0
 obtain ⟨hx, hZ, hown, hby, hml, hret, hlk, hnm⟩ := ct
 have N0 := Fr.nil n0
 refine castGo (ef_cpi3 m a b va vb vc) ?_
 show Gg s₁ m 0 []
 refine go_st (fun _ kq => XT.iconstV X0.here hx rfl (0 : Int32) (hb hby d5_0) (by decide) kq) ?_
 show Gg s₁ m 1 [(.int (0 : Int32))]
 refine go_st (fun _ kq => XS.istore X0.here hx rfl (hb hby d5_1) rfl (l' := #[.val (.ref a), .val (.int (0 : Int32)), .val (.ref b), .val (.int (0 : Int32)), .val (.int (3 : Int32)), .val (.int (0 : Int32)), .unset]) rfl kq) ?_
 show Gg s₁ m 3 []
 refine go_st (fun _ kq => XS.iload X0.here hx rfl (hb hby d5_3) rfl kq) ?_
 show Gg s₁ m 5 [(.int (0 : Int32))]
 refine go_st (fun _ kq => XS.iload X0.here hx rfl (hb hby d5_5) rfl kq) ?_
 show Gg s₁ m 7 [(.int (3 : Int32)), (.int (0 : Int32))]
 refine go_st (fun _ kq => XS.icmpNo X0.here hx rfl (hb hby d5_7) rfl (XT.ii_ge_f (by decide)) kq) ?_
 show Gg s₁ m 10 []
 refine go_st (fun _ kq => XS.aloadN X0.here hx rfl (hb hby d5_10) rfl rfl kq) ?_
 show Gg s₁ m 11 [(.ref a)]
 refine go_st (fun _ kq => XS.iloadN X0.here hx rfl (hb hby d5_11) rfl kq) ?_
 show Gg s₁ m 12 [(.int (0 : Int32)), (.ref a)]
 refine go_cald X0 hx hZ e0 P0 (hb hby d5_12) rfl rfl (by decide) (.int va) rfl ?_
 show Gg s₁ m 13 [(.int va)]
 refine go_st (fun _ kq => XS.istore X0.here hx rfl (hb hby d5_13) rfl (l' := #[.val (.ref a), .val (.int (0 : Int32)), .val (.ref b), .val (.int (0 : Int32)), .val (.int (3 : Int32)), .val (.int (0 : Int32)), .val (.int va)]) rfl kq) ?_
 show Gg s₁ m 15 []
 refine go_st (fun _ kq => XS.iload X0.here hx rfl (hb hby d5_15) rfl kq) ?_
 show Gg s₁ m 17 [(.int va)]
 refine go_st (fun _ kq => XT.sipushV X0.here hx rfl (255 : Int32) (hb hby d5_17) (by decide) kq) ?_
 show Gg s₁ m 20 [(.int (255 : Int32)), (.int va)]
 have hb18 : ¬ ((255 : Int32) < va) := by exact own_le255 P4
 refine go_st (fun _ kq => XS.icmpYes X0.here hx rfl (pc0 := 20) (pc' := 26) rfl (hb hby d5_20) rfl (XT.ii_le_t hb18) (by decide) (by decide) kq) ?_
 show Gg s₁ m 26 []
 refine go_st (fun _ kq => XS.aloadN X0.here hx rfl (hb hby d5_26) rfl rfl kq) ?_
 show Gg s₁ m 27 [(.ref b)]
 refine go_st (fun _ kq => XS.iloadN X0.here hx rfl (hb hby d5_27) rfl kq) ?_
 show Gg s₁ m 28 [(.int (0 : Int32)), (.ref b)]
 refine go_st (fun _ kq => XS.iload X0.here hx rfl (hb hby d5_28) rfl kq) ?_
 show Gg s₁ m 30 [(.int va), (.int (0 : Int32)), (.ref b)]
 refine go_st (fun _ kq => XT.i2b X0.here hx rfl (hb hby d5_30) rfl kq) ?_
 show Gg s₁ m 31 [(.int va.toInt8.toInt32), (.int (0 : Int32)), (.ref b)]
 refine go_bast X0 hx hZ e0 P1 (hb hby d5_31) rfl rfl (by decide) ?_
 intro T19 h19 X19 e19 W19 G19
 have N19 := Fr.snoc X19 N0 P2
 have A19 : GA Z h19 b .byte 3 (fun i => .int (own_c3 (own_by va) (0 : Int32) (0 : Int32) i)) := (own_stc (own_by2 P4) (by decide) (own_c30 (own_by va) (0 : Int32) (0 : Int32) (0 : Int32)) G19)
 show Gg T19 m 32 []
 refine go_st (fun _ kq => XT.iincV X19.here hx rfl (1 : Int32) (hb hby d5_32) (by decide) rfl (l' := #[.val (.ref a), .val (.int (1 : Int32)), .val (.ref b), .val (.int (0 : Int32)), .val (.int (3 : Int32)), .val (.int (0 : Int32)), .val (.int va)]) rfl kq) ?_
 show Gg T19 m 35 []
 refine go_st (fun _ kq => XT.iincV X19.here hx rfl (1 : Int32) (hb hby d5_35) (by decide) rfl (l' := #[.val (.ref a), .val (.int (1 : Int32)), .val (.ref b), .val (.int (1 : Int32)), .val (.int (3 : Int32)), .val (.int (0 : Int32)), .val (.int va)]) rfl kq) ?_
 show Gg T19 m 38 []
 refine go_st (fun _ kq => XT.iincV X19.here hx rfl (1 : Int32) (hb hby d5_38) (by decide) rfl (l' := #[.val (.ref a), .val (.int (1 : Int32)), .val (.ref b), .val (.int (1 : Int32)), .val (.int (3 : Int32)), .val (.int (1 : Int32)), .val (.int va)]) rfl kq) ?_
 show Gg T19 m 41 []
 refine go_st (fun _ kq => XS.goto X19.here hx rfl (pc0 := 41) (pc' := 3) rfl (hb hby d5_41) (by decide) (by decide) kq) ?_
 show Gg T19 m 3 []
 refine go_st (fun _ kq => XS.iload X19.here hx rfl (hb hby d5_3) rfl kq) ?_
 show Gg T19 m 5 [(.int (1 : Int32))]
 refine go_st (fun _ kq => XS.iload X19.here hx rfl (hb hby d5_5) rfl kq) ?_
 show Gg T19 m 7 [(.int (3 : Int32)), (.int (1 : Int32))]
 refine go_st (fun _ kq => XS.icmpNo X19.here hx rfl (hb hby d5_7) rfl (XT.ii_ge_f (by decide)) kq) ?_
 show Gg T19 m 10 []
 refine go_st (fun _ kq => XS.aloadN X19.here hx rfl (hb hby d5_10) rfl rfl kq) ?_
 show Gg T19 m 11 [(.ref a)]
 refine go_st (fun _ kq => XS.iloadN X19.here hx rfl (hb hby d5_11) rfl kq) ?_
 show Gg T19 m 12 [(.int (1 : Int32)), (.ref a)]
 have c20 := P0.other W19 P3
 refine go_cald X19 hx hZ e19 c20 (hb hby d5_12) rfl rfl (by decide) (.int vb) rfl ?_
 show Gg T19 m 13 [(.int vb)]
 refine go_st (fun _ kq => XS.istore X19.here hx rfl (hb hby d5_13) rfl (l' := #[.val (.ref a), .val (.int (1 : Int32)), .val (.ref b), .val (.int (1 : Int32)), .val (.int (3 : Int32)), .val (.int (1 : Int32)), .val (.int vb)]) rfl kq) ?_
 show Gg T19 m 15 []
 refine go_st (fun _ kq => XS.iload X19.here hx rfl (hb hby d5_15) rfl kq) ?_
 show Gg T19 m 17 [(.int vb)]
 refine go_st (fun _ kq => XT.sipushV X19.here hx rfl (255 : Int32) (hb hby d5_17) (by decide) kq) ?_
 show Gg T19 m 20 [(.int (255 : Int32)), (.int vb)]
 have hb21 : ¬ ((255 : Int32) < vb) := by exact own_le255 P5
 refine go_st (fun _ kq => XS.icmpYes X19.here hx rfl (pc0 := 20) (pc' := 26) rfl (hb hby d5_20) rfl (XT.ii_le_t hb21) (by decide) (by decide) kq) ?_
 show Gg T19 m 26 []
 refine go_st (fun _ kq => XS.aloadN X19.here hx rfl (hb hby d5_26) rfl rfl kq) ?_
 show Gg T19 m 27 [(.ref b)]
 refine go_st (fun _ kq => XS.iloadN X19.here hx rfl (hb hby d5_27) rfl kq) ?_
 show Gg T19 m 28 [(.int (1 : Int32)), (.ref b)]
 refine go_st (fun _ kq => XS.iload X19.here hx rfl (hb hby d5_28) rfl kq) ?_
 show Gg T19 m 30 [(.int vb), (.int (1 : Int32)), (.ref b)]
 refine go_st (fun _ kq => XT.i2b X19.here hx rfl (hb hby d5_30) rfl kq) ?_
 show Gg T19 m 31 [(.int vb.toInt8.toInt32), (.int (1 : Int32)), (.ref b)]
 refine go_bast X19 hx hZ e19 A19 (hb hby d5_31) rfl rfl (by decide) ?_
 intro T22 h22 X22 e22 W22 G22
 have N22 := Fr.snoc X22 N19 P2
 have A22 : GA Z h22 b .byte 3 (fun i => .int (own_c3 (own_by va) (own_by vb) (0 : Int32) i)) := (own_stc (own_by2 P5) (by decide) (own_c31 (own_by vb) (own_by va) (0 : Int32) (0 : Int32)) G22)
 show Gg T22 m 32 []
 refine go_st (fun _ kq => XT.iincV X22.here hx rfl (1 : Int32) (hb hby d5_32) (by decide) rfl (l' := #[.val (.ref a), .val (.int (2 : Int32)), .val (.ref b), .val (.int (1 : Int32)), .val (.int (3 : Int32)), .val (.int (1 : Int32)), .val (.int vb)]) rfl kq) ?_
 show Gg T22 m 35 []
 refine go_st (fun _ kq => XT.iincV X22.here hx rfl (1 : Int32) (hb hby d5_35) (by decide) rfl (l' := #[.val (.ref a), .val (.int (2 : Int32)), .val (.ref b), .val (.int (2 : Int32)), .val (.int (3 : Int32)), .val (.int (1 : Int32)), .val (.int vb)]) rfl kq) ?_
 show Gg T22 m 38 []
 refine go_st (fun _ kq => XT.iincV X22.here hx rfl (1 : Int32) (hb hby d5_38) (by decide) rfl (l' := #[.val (.ref a), .val (.int (2 : Int32)), .val (.ref b), .val (.int (2 : Int32)), .val (.int (3 : Int32)), .val (.int (2 : Int32)), .val (.int vb)]) rfl kq) ?_
 show Gg T22 m 41 []
 refine go_st (fun _ kq => XS.goto X22.here hx rfl (pc0 := 41) (pc' := 3) rfl (hb hby d5_41) (by decide) (by decide) kq) ?_
 show Gg T22 m 3 []
 refine go_st (fun _ kq => XS.iload X22.here hx rfl (hb hby d5_3) rfl kq) ?_
 show Gg T22 m 5 [(.int (2 : Int32))]
 refine go_st (fun _ kq => XS.iload X22.here hx rfl (hb hby d5_5) rfl kq) ?_
 show Gg T22 m 7 [(.int (3 : Int32)), (.int (2 : Int32))]
 refine go_st (fun _ kq => XS.icmpNo X22.here hx rfl (hb hby d5_7) rfl (XT.ii_ge_f (by decide)) kq) ?_
 show Gg T22 m 10 []
 refine go_st (fun _ kq => XS.aloadN X22.here hx rfl (hb hby d5_10) rfl rfl kq) ?_
 show Gg T22 m 11 [(.ref a)]
 refine go_st (fun _ kq => XS.iloadN X22.here hx rfl (hb hby d5_11) rfl kq) ?_
 show Gg T22 m 12 [(.int (2 : Int32)), (.ref a)]
 have c23 := c20.other W22 P3
 refine go_cald X22 hx hZ e22 c23 (hb hby d5_12) rfl rfl (by decide) (.int vc) rfl ?_
 show Gg T22 m 13 [(.int vc)]
 refine go_st (fun _ kq => XS.istore X22.here hx rfl (hb hby d5_13) rfl (l' := #[.val (.ref a), .val (.int (2 : Int32)), .val (.ref b), .val (.int (2 : Int32)), .val (.int (3 : Int32)), .val (.int (2 : Int32)), .val (.int vc)]) rfl kq) ?_
 show Gg T22 m 15 []
 refine go_st (fun _ kq => XS.iload X22.here hx rfl (hb hby d5_15) rfl kq) ?_
 show Gg T22 m 17 [(.int vc)]
 refine go_st (fun _ kq => XT.sipushV X22.here hx rfl (255 : Int32) (hb hby d5_17) (by decide) kq) ?_
 show Gg T22 m 20 [(.int (255 : Int32)), (.int vc)]
 have hb24 : ¬ ((255 : Int32) < vc) := by exact own_le255 P6
 refine go_st (fun _ kq => XS.icmpYes X22.here hx rfl (pc0 := 20) (pc' := 26) rfl (hb hby d5_20) rfl (XT.ii_le_t hb24) (by decide) (by decide) kq) ?_
 show Gg T22 m 26 []
 refine go_st (fun _ kq => XS.aloadN X22.here hx rfl (hb hby d5_26) rfl rfl kq) ?_
 show Gg T22 m 27 [(.ref b)]
 refine go_st (fun _ kq => XS.iloadN X22.here hx rfl (hb hby d5_27) rfl kq) ?_
 show Gg T22 m 28 [(.int (2 : Int32)), (.ref b)]
 refine go_st (fun _ kq => XS.iload X22.here hx rfl (hb hby d5_28) rfl kq) ?_
 show Gg T22 m 30 [(.int vc), (.int (2 : Int32)), (.ref b)]
 refine go_st (fun _ kq => XT.i2b X22.here hx rfl (hb hby d5_30) rfl kq) ?_
 show Gg T22 m 31 [(.int vc.toInt8.toInt32), (.int (2 : Int32)), (.ref b)]
 refine go_bast X22 hx hZ e22 A22 (hb hby d5_31) rfl rfl (by decide) ?_
 intro T25 h25 X25 e25 W25 G25
 have N25 := Fr.snoc X25 N22 P2
 have A25 : GA Z h25 b .byte 3 (fun i => .int (own_c3 (own_by va) (own_by vb) (own_by vc) i)) := (own_stc (own_by2 P6) (by decide) (own_c32 (own_by vc) (own_by va) (own_by vb) (0 : Int32)) G25)
 show Gg T25 m 32 []
 refine go_st (fun _ kq => XT.iincV X25.here hx rfl (1 : Int32) (hb hby d5_32) (by decide) rfl (l' := #[.val (.ref a), .val (.int (3 : Int32)), .val (.ref b), .val (.int (2 : Int32)), .val (.int (3 : Int32)), .val (.int (2 : Int32)), .val (.int vc)]) rfl kq) ?_
 show Gg T25 m 35 []
 refine go_st (fun _ kq => XT.iincV X25.here hx rfl (1 : Int32) (hb hby d5_35) (by decide) rfl (l' := #[.val (.ref a), .val (.int (3 : Int32)), .val (.ref b), .val (.int (3 : Int32)), .val (.int (3 : Int32)), .val (.int (2 : Int32)), .val (.int vc)]) rfl kq) ?_
 show Gg T25 m 38 []
 refine go_st (fun _ kq => XT.iincV X25.here hx rfl (1 : Int32) (hb hby d5_38) (by decide) rfl (l' := #[.val (.ref a), .val (.int (3 : Int32)), .val (.ref b), .val (.int (3 : Int32)), .val (.int (3 : Int32)), .val (.int (3 : Int32)), .val (.int vc)]) rfl kq) ?_
 show Gg T25 m 41 []
 refine go_st (fun _ kq => XS.goto X25.here hx rfl (pc0 := 41) (pc' := 3) rfl (hb hby d5_41) (by decide) (by decide) kq) ?_
 show Gg T25 m 3 []
 refine go_st (fun _ kq => XS.iload X25.here hx rfl (hb hby d5_3) rfl kq) ?_
 show Gg T25 m 5 [(.int (3 : Int32))]
 refine go_st (fun _ kq => XS.iload X25.here hx rfl (hb hby d5_5) rfl kq) ?_
 show Gg T25 m 7 [(.int (3 : Int32)), (.int (3 : Int32))]
 refine go_st (fun _ kq => XS.icmpYes X25.here hx rfl (pc0 := 7) (pc' := 44) rfl (hb hby d5_7) rfl (XT.ii_ge_t (by decide)) (by decide) (by decide) kq) ?_
 show Gg T25 m 44 []
 refine go_st (fun _ kq => XS.iload X25.here hx rfl (hb hby d5_44) rfl kq) ?_
 show Gg T25 m 46 [(.int (3 : Int32))]
 exact go_retI X25 hx hlk hret (hb hby d5_46) (by decide) (by decide) (by rw [e25]; exact ⟨rfl, N25, (Keep.wr (Keep.wr (Keep.wr (Keep.refl h0 [b]) W19 (Or.inl (by simp))) W22 (Or.inl (by simp))) W25 (Or.inl (by simp))), A25⟩)
def Q_cp3 (Z : State) (a : Addr) (va : Int32) (vb : Int32) (vc : Int32) (h0 : Heap) (n0 : Nat) (v : Option Value) (h : Heap) (L : List Loc) : Prop := ∃ r : Addr, v = some (.ref r) ∧ Fr n0 L ∧ Keep h0 h [] ∧ h0.size ≤ r ∧ GA Z h r .byte 3 (fun i => .int (own_c3 (own_by va) (own_by vb) (own_by vc) i))
theorem ef_cp3 (m : MethodId) (a : Addr) (va : Int32) (vb : Int32) (vc : Int32) : entryFrame m #[(.ref a), (.int (0 : Int32)), (.int (3 : Int32))] 6 = mkF m 0 #[.val (.ref a), .val (.int (0 : Int32)), .val (.int (3 : Int32)), .unset, .unset, .unset] [] := by first | (simp [entryFrame, mkF, argsToLocals, Value.category]; done) | rfl
abbrev rm_cp3 : Room := ({ frames := 1, cells := 1, slots := 3, locals := 18 } : Room)
set_option maxRecDepth 65536 in
set_option maxHeartbeats 4000000 in
theorem met_cp3 (l : Launch) (Z : State) (a0 : Array Value) (hw : ∀ d ∈ tables_1, d.before a0 Z = true) (a : Addr) (va : Int32) (vb : Int32) (vc : Int32) (h0 : Heap) (n0 : Nat) (Z0 : n0 ≤ h0.size) (P0 : GA Z h0 a .char 3 (fun i => .int (own_c3 va vb vc i))) (P1 : Lat va) (P2 : Lat vb) (P3 : Lat vc) :
  Met l (⟨"java/lang/StringUTF16", "compress", "([CII)[B"⟩ : MethodName) jdk_52_method_16_code 6 (some (FieldType.array FieldType.byte)) [] rm_cp3 Z #[(.ref a), (.int (0 : Int32)), (.int (3 : Int32))] h0 (Q_cp3 Z a va vb vc h0 n0) rm_cp3.cells rm_cp3.slots := by
 refine own_body pn1 ?_
 intro p e s m below meth c s₁ ct X0 e0
 obtain ⟨hx, hZ, hown, hby, hml, hret, hlk, hnm⟩ := ct
 have lt_a : a < h0.size := P0.lt
 have N0 := Fr.nil n0
 refine castGo (ef_cp3 m a va vb vc) ?_
 show Gg s₁ m 0 []
 refine go_st (fun _ kq => XS.iloadN X0.here hx rfl (hb hby d4_0) rfl kq) ?_
 show Gg s₁ m 1 [(.int (3 : Int32))]
 refine go_newP X0 hx hZ (wd hw 22 rfl) e0 (hb hby d4_1) rfl rfl 3 (by decide) 3 (Nat.le_refl _) (by decide) (by decide) (by decide) ?_
 intro T26 h26 a26 g26 X26 e26 E26 G26
 have ne27 : a ≠ a26 := fun q => Nat.lt_irrefl _ (Nat.lt_of_lt_of_le lt_a (Nat.le_of_eq (g26.symm.trans q.symm)))
 have nw_a26 : n0 ≤ a26 := Nat.le_trans Z0 (Nat.le_of_eq g26.symm)
 have A26 : GA Z h26 a26 .byte 3 (fun i => .int (own_c3 (0 : Int32) (0 : Int32) (0 : Int32) i)) := (GA.congr G26 (fun i _ => own_z3 i))
 show Gg T26 m 3 [(.ref a26)]
 refine go_st (fun _ kq => XS.astoreN X26.here hx rfl (hb hby d4_3) rfl rfl (l' := #[.val (.ref a), .val (.int (0 : Int32)), .val (.int (3 : Int32)), .val (.ref a26), .unset, .unset]) rfl kq) ?_
 show Gg T26 m 4 []
 refine go_st (fun _ kq => XS.aloadN X26.here hx rfl (hb hby d4_4) rfl rfl kq) ?_
 show Gg T26 m 5 [(.ref a)]
 refine go_st (fun _ kq => XS.iloadN X26.here hx rfl (hb hby d4_5) rfl kq) ?_
 show Gg T26 m 6 [(.int (0 : Int32)), (.ref a)]
 refine go_st (fun _ kq => XS.aloadN X26.here hx rfl (hb hby d4_6) rfl rfl kq) ?_
 show Gg T26 m 7 [(.ref a26), (.int (0 : Int32)), (.ref a)]
 refine go_st (fun _ kq => XT.iconstV X26.here hx rfl (0 : Int32) (hb hby d4_7) (by decide) kq) ?_
 show Gg T26 m 8 [(.int (0 : Int32)), (.ref a26), (.int (0 : Int32)), (.ref a)]
 refine go_st (fun _ kq => XS.iloadN X26.here hx rfl (hb hby d4_8) rfl kq) ?_
 show Gg T26 m 9 [(.int (3 : Int32)), (.int (0 : Int32)), (.ref a26), (.int (0 : Int32)), (.ref a)]
 have c29 := P0.ext E26
 have z30 : n0 ≤ h26.size := Nat.le_trans Z0 E26.1
 refine go_callS X26 hx hZ hml hown (wd hw 23 rfl) (wd hw 24 rfl) (wd hw 20 rfl) (wd hw 25 rfl) e26 (argsL := [(.ref a), (.int (0 : Int32)), (.ref a26), (.int (0 : Int32)), (.int (3 : Int32))]) (rest := []) (W := 0) (met_cpi3 l Z a0 hw a a26 va vb vc h26 n0 z30 c29 A26 nw_a26 ne27 P1 P2 P3) (hb hby d4_9) rfl rfl rfl (lenOf pd0 rfl) (by show 2 * 0 + _ ≤ _; exact Nat.le_of_eq rfl) (by decide) (by decide) (by decide) (by decide) (by decide) ?_
 intro T28 v28 L28 X28 q28
 obtain ⟨rfl, M28, K28, f28_0⟩ := q28
 have N28 := Fr.app N0 M28
 show Gg T28 m 12 [(.int (3 : Int32))]
 refine go_st (fun _ kq => XS.istore X28.here hx rfl (hb hby d4_12) rfl (l' := #[.val (.ref a), .val (.int (0 : Int32)), .val (.int (3 : Int32)), .val (.ref a26), .val (.int (3 : Int32)), .unset]) rfl kq) ?_
 show Gg T28 m 14 []
 refine go_st (fun _ kq => XS.iload X28.here hx rfl (hb hby d4_14) rfl kq) ?_
 show Gg T28 m 16 [(.int (3 : Int32))]
 refine go_st (fun _ kq => XS.iloadN X28.here hx rfl (hb hby d4_16) rfl kq) ?_
 show Gg T28 m 17 [(.int (3 : Int32)), (.int (3 : Int32))]
 refine go_st (fun _ kq => XS.icmpYes X28.here hx rfl (pc0 := 17) (pc' := 57) rfl (hb hby d4_17) rfl (XT.ii_eq_t (by decide)) (by decide) (by decide) kq) ?_
 show Gg T28 m 57 []
 refine go_st (fun _ kq => XS.aloadN X28.here hx rfl (hb hby d4_57) rfl rfl kq) ?_
 show Gg T28 m 58 [(.ref a26)]
 exact go_retA X28 hx hlk hret rfl rfl (hb hby d4_58) (by decide) (by decide) ⟨a26, rfl, N28, (Keep.trans (Keep.ext (Keep.refl h0 []) E26) K28 (allS (Or.inr (Nat.le_trans (Nat.le_refl _) (Nat.le_of_eq g26.symm))) all0)), (Nat.le_trans (Nat.le_refl _) (Nat.le_of_eq g26.symm)), f28_0⟩
def fCfl3  : Int32 := (0 : Int32)
theorem ef_cfl3 (m : MethodId) (b : Addr) (fq : Nat → Value) : entryFrame m #[(.ref b), (.int (3 : Int32))] 2 = mkF m 0 #[.val (.ref b), .val (.int (3 : Int32))] [] := by first | (simp [entryFrame, mkF, argsToLocals, Value.category]; done) | rfl
abbrev rm_cfl3 : Room := ({ frames := 0, cells := 0, slots := 0, locals := 0 } : Room)
set_option maxRecDepth 65536 in
set_option maxHeartbeats 4000000 in
theorem met_cfl3 (l : Launch) (Z : State) (a0 : Array Value) (hw : ∀ d ∈ tables_1, d.before a0 Z = true) (b : Addr) (fq : Nat → Value) (h0 : Heap) (n0 : Nat) (Z0 : n0 ≤ h0.size) (P0 : GA Z h0 b .byte 3 fq) :
  Met l (⟨"java/lang/StringUTF16", "coderFromArrayLen", "([BI)B"⟩ : MethodName) jdk_52_method_15_code 2 (some FieldType.byte) [] rm_cfl3 Z #[(.ref b), (.int (3 : Int32))] h0 (QV (some (.int (fCfl3 ))) h0 n0) 0 0 := by
 refine own_body pn2 ?_
 intro p e s m below meth c s₁ ct X0 e0
 obtain ⟨hx, hZ, hown, hby, hml, hret, hlk, hnm⟩ := ct
 have N0 := Fr.nil n0
 refine castGo (ef_cfl3 m b fq) ?_
 unfold fCfl3
 show Gg s₁ m 0 []
 refine go_st (fun _ kq => XS.iloadN X0.here hx rfl (hb hby d6_0) rfl kq) ?_
 show Gg s₁ m 1 [(.int (3 : Int32))]
 refine go_st (fun _ kq => XS.aloadN X0.here hx rfl (hb hby d6_1) rfl rfl kq) ?_
 show Gg s₁ m 2 [(.ref b), (.int (3 : Int32))]
 refine go_alen X0 hx hZ e0 P0 (hb hby d6_2) rfl rfl (3 : Int32) (by decide) ?_
 show Gg s₁ m 3 [(.int (3 : Int32)), (.int (3 : Int32))]
 refine go_st (fun _ kq => XS.isub X0.here hx rfl (hb hby d6_3) rfl kq) ?_
 rw [show ((3 : Int32) - (3 : Int32)) = (0 : Int32) from by decide +kernel]
 show Gg s₁ m 4 [(.int (0 : Int32))]
 refine go_st (fun _ kq => XT.bipushV X0.here hx rfl (31 : Int32) (hb hby d6_4) (by decide) kq) ?_
 show Gg s₁ m 6 [(.int (31 : Int32)), (.int (0 : Int32))]
 refine go_st (fun _ kq => XT.iushr X0.here hx rfl (hb hby d6_6) rfl kq) ?_
 rw [show (XT.ushr (0 : Int32) (31 : Int32)) = (0 : Int32) from by decide +kernel]
 show Gg s₁ m 7 [(.int (0 : Int32))]
 refine go_st (fun _ kq => XT.i2b X0.here hx rfl (hb hby d6_7) rfl kq) ?_
 rw [show (0 : Int32).toInt8.toInt32 = (0 : Int32) from by decide +kernel]
 show Gg s₁ m 8 [(.int (0 : Int32))]
 exact go_retN (t := .byte) (w := (0 : Int32)) X0 hx hlk hret (by simp) (hb hby d6_8) (by decide +kernel) (by decide) (by decide) ⟨rfl, N0, e0⟩
theorem d2_0 : decode jdk_42_method_149_code 0 = .ok (.aload_n 0, 1) := by decide +kernel
theorem d2_1 : decode jdk_42_method_149_code 1 = .ok (.invokespecial 1, 3) := by decide +kernel
theorem d2_4 : decode jdk_42_method_149_code 4 = .ok (.iload_n 3, 1) := by decide +kernel
theorem d2_5 : decode jdk_42_method_149_code 5 = .ok (.ifCond .ne 22, 3) := by decide +kernel
theorem d2_8 : decode jdk_42_method_149_code 8 = .ok (.aload_n 0, 1) := by decide +kernel
theorem d2_9 : decode jdk_42_method_149_code 9 = .ok (.ldc 7, 2) := by decide +kernel
theorem d2_11 : decode jdk_42_method_149_code 11 = .ok (.getfield 9, 3) := by decide +kernel
theorem d2_14 : decode jdk_42_method_149_code 14 = .ok (.putfield 9, 3) := by decide +kernel
theorem d2_17 : decode jdk_42_method_149_code 17 = .ok (.aload_n 0, 1) := by decide +kernel
theorem d2_18 : decode jdk_42_method_149_code 18 = .ok (.ldc 7, 2) := by decide +kernel
theorem d2_20 : decode jdk_42_method_149_code 20 = .ok (.getfield 15, 3) := by decide +kernel
theorem d2_23 : decode jdk_42_method_149_code 23 = .ok (.putfield 15, 3) := by decide +kernel
theorem d2_26 : decode jdk_42_method_149_code 26 = .ok (.return_, 1) := by decide +kernel
theorem d2_27 : decode jdk_42_method_149_code 27 = .ok (.getstatic 38, 3) := by decide +kernel
theorem d2_30 : decode jdk_42_method_149_code 30 = .ok (.ifCond .eq 28, 3) := by decide +kernel
theorem d2_33 : decode jdk_42_method_149_code 33 = .ok (.aload_n 1, 1) := by decide +kernel
theorem d2_34 : decode jdk_42_method_149_code 34 = .ok (.iload_n 2, 1) := by decide +kernel
theorem d2_35 : decode jdk_42_method_149_code 35 = .ok (.iload_n 3, 1) := by decide +kernel
theorem d2_36 : decode jdk_42_method_149_code 36 = .ok (.invokestatic 177, 3) := by decide +kernel
theorem d2_39 : decode jdk_42_method_149_code 39 = .ok (.astore 5, 2) := by decide +kernel
theorem d2_41 : decode jdk_42_method_149_code 41 = .ok (.aload_n 0, 1) := by decide +kernel
theorem d2_42 : decode jdk_42_method_149_code 42 = .ok (.aload 5, 2) := by decide +kernel
theorem d2_44 : decode jdk_42_method_149_code 44 = .ok (.iload_n 3, 1) := by decide +kernel
theorem d2_45 : decode jdk_42_method_149_code 45 = .ok (.invokestatic 47, 3) := by decide +kernel
theorem d2_48 : decode jdk_42_method_149_code 48 = .ok (.putfield 15, 3) := by decide +kernel
theorem d2_51 : decode jdk_42_method_149_code 51 = .ok (.aload_n 0, 1) := by decide +kernel
theorem d2_52 : decode jdk_42_method_149_code 52 = .ok (.aload 5, 2) := by decide +kernel
theorem d2_54 : decode jdk_42_method_149_code 54 = .ok (.putfield 9, 3) := by decide +kernel
theorem d2_57 : decode jdk_42_method_149_code 57 = .ok (.return_, 1) := by decide +kernel
theorem d2_58 : decode jdk_42_method_149_code 58 = .ok (.aload_n 0, 1) := by decide +kernel
theorem d2_59 : decode jdk_42_method_149_code 59 = .ok (.iconst 1, 1) := by decide +kernel
theorem d2_60 : decode jdk_42_method_149_code 60 = .ok (.putfield 15, 3) := by decide +kernel
theorem d2_63 : decode jdk_42_method_149_code 63 = .ok (.aload_n 0, 1) := by decide +kernel
theorem d2_64 : decode jdk_42_method_149_code 64 = .ok (.aload_n 1, 1) := by decide +kernel
theorem d2_65 : decode jdk_42_method_149_code 65 = .ok (.iload_n 2, 1) := by decide +kernel
theorem d2_66 : decode jdk_42_method_149_code 66 = .ok (.iload_n 3, 1) := by decide +kernel
theorem d2_67 : decode jdk_42_method_149_code 67 = .ok (.invokestatic 180, 3) := by decide +kernel
theorem d2_70 : decode jdk_42_method_149_code 70 = .ok (.putfield 9, 3) := by decide +kernel
theorem d2_73 : decode jdk_42_method_149_code 73 = .ok (.return_, 1) := by decide +kernel
theorem pn3 : plainFor (⟨"java/lang/String", "<init>", "([CIILjava/lang/Void;)V"⟩ : MethodName) = true := by first | (refine plainFor_of_name ?_; simp [plainName, overriddenIn]; done) | (refine plainFor_of_name ?_; decide +kernel) | decide +kernel
def Q_si0 (Z : State) (a : Addr) (b : Addr) (h0 : Heap) (n0 : Nat) (v : Option Value) (h : Heap) (L : List Loc) : Prop := ∃ r : Addr, v = none ∧ Fr n0 L ∧ Keep h0 h [a] ∧ Exa Z h a "java/lang/String" ∧ Fld Z h a "java/lang/String" "value" "[B" (.ref r) ∧ Fld Z h a "java/lang/String" "coder" "B" (.int (0 : Int32)) ∧ GA Z h r .byte 0 (fun _ => .null)
theorem ef_si0 (m : MethodId) (a : Addr) (b : Addr) : entryFrame m #[(.ref a), (.ref b), (.int (0 : Int32)), (.int (0 : Int32)), .null] 6 = mkF m 0 #[.val (.ref a), .val (.ref b), .val (.int (0 : Int32)), .val (.int (0 : Int32)), .val .null, .unset] [] := by first | (simp [entryFrame, mkF, argsToLocals, Value.category]; done) | rfl
abbrev rm_si0 : Room := ({ frames := 1, cells := 2, slots := 4, locals := 12 } : Room)
set_option maxRecDepth 65536 in
set_option maxHeartbeats 4000000 in
theorem met_si0 (l : Launch) (Z : State) (a0 : Array Value) (hw : ∀ d ∈ tables_1, d.before a0 Z = true) (a : Addr) (b : Addr) (h0 : Heap) (n0 : Nat) (Z0 : n0 ≤ h0.size) (P0 : Exa Z h0 a "java/lang/String") (P1 : Fld Z h0 a "java/lang/String" "value" "[B" .null) (P2 : Fld Z h0 a "java/lang/String" "coder" "B" (.int (0 : Int32))) (P3 : n0 ≤ a) :
  MetW l (⟨"java/lang/String", "<init>", "([CIILjava/lang/Void;)V"⟩ : MethodName) jdk_42_method_149_code 6 none [] rm_si0 Z consts_1 a #[(.ref a), (.ref b), (.int (0 : Int32)), (.int (0 : Int32)), .null] h0 (Q_si0 Z a b h0 n0) rm_si0.cells rm_si0.slots := by
 refine own_bodyW pn3 ?_
 intro p e s m below meth c s₁ ct X0 e0 hC0 hSa0
 obtain ⟨hx, hZ, hown, hby, hml, hret, hlk, hnm⟩ := ct
 have lt_a : a < h0.size := P0.lt
 have N0 := Fr.nil n0
 refine castGoW (ef_si0 m a b) ?_
 show Gwg s₁ m 0 []
 refine gw_st (fun _ kq => XS.aloadN X0.here hx rfl (hb hby d2_0) rfl rfl kq) ?_
 show Gwg s₁ m 1 [(.ref a)]
 refine gw_initO X0 hx hZ hml hown (wd hw 14 rfl) (wd hw 15 rfl) (wd hw 16 rfl) e0 (hb hby d2_1) rfl rfl rfl (by decide) (W := 0) (by show 2 * 0 + _ ≤ _; exact Nat.le_of_eq rfl) (by decide) ?_
 intro T31 X31 e31
 show Gwg T31 m 4 []
 refine gw_st (fun _ kq => XS.iloadN X31.here hx rfl (hb hby d2_4) rfl kq) ?_
 show Gwg T31 m 5 [(.int (0 : Int32))]
 refine gw_st (fun _ kq => XS.ifNo X31.here hx rfl (hb hby d2_5) rfl (XT.i0_ne_f (by decide)) kq) ?_
 show Gwg T31 m 8 []
 refine gw_st (fun _ kq => XS.aloadN X31.here hx rfl (hb hby d2_8) rfl rfl kq) ?_
 show Gwg T31 m 9 [(.ref a)]
 refine gw_ldcE X31 hx hZ hown (wd hw 92 rfl) (own_wS Z a0 hw) e31 (own_EL Z a0 hw) own_mem hC0 (hb hby d2_9) rfl (by decide) (by decide) ?_
 intro s T32 h32 a32 b32 hZ hown X32 e32 E32 A32 C32 V32 G32 L32 SF32
 have ne32_a := SF32 a lt_a hSa0
 show Gwg T32 m 11 [(.ref a32), (.ref a)]
 refine gw_getF X32 hx hZ hown (host := "") (Or.inl (wd hw 31 rfl)) Via.refl e32 V32 (hb hby d2_11) rfl rfl ?_
 intro T33 X33 e33
 show Gwg T33 m 14 [(.ref b32), (.ref a)]
 have c34 := Fld.ext E32 P1
 have c35 := Exa.ext E32 P0
 refine gw_putF X33 hx hZ hown (host := "") (Or.inl (wd hw 31 rfl)) Via.refl e33 c34 c35 (Or.inr ⟨(wd hw 32 rfl), rfl, hnm⟩) (wd hw 5 rfl) (ty := (.array .byte)) (by decide) rfl rfl (hb hby d2_14) rfl rfl ?_
 intro T36 h36 X36 e36 W36
 have N36 := Fr.snoc X36 N0 P3
 have F36 : Fld Z h36 a "java/lang/String" "value" "[B" (.ref b32) := Fld.same W36 c34
 show Gwg T36 m 17 []
 refine gw_st (fun _ kq => XS.aloadN X36.here hx rfl (hb hby d2_17) rfl rfl kq) ?_
 show Gwg T36 m 18 [(.ref a)]
 refine gw_ldcA X36 hx hZ hown (wd hw 92 rfl) L32 (hb hby d2_18) rfl ?_
 show Gwg T36 m 20 [(.ref a32), (.ref a)]
 have c37 := Fld.other W36 C32 (Or.inl (Ne.symm ne32_a.1))
 refine gw_getF X36 hx hZ hown (host := "") (Or.inl (wd hw 29 rfl)) Via.refl e36 c37 (hb hby d2_20) rfl rfl ?_
 intro T38 X38 e38
 show Gwg T38 m 23 [(.int (0 : Int32)), (.ref a)]
 have c39 := Fld.ext E32 P2
 have c40 := Fld.other W36 c39 (Or.inr (slot_ne (a0 := a0) (t := .byte) (t' := (.array .byte)) (Or.inr (wd hw 30 rfl)) (Or.inr (wd hw 32 rfl)) (by decide) (by decide) (by decide)))
 have c41 := Exa.wr W36 c35
 refine gw_putF X38 hx hZ hown (host := "") (Or.inl (wd hw 29 rfl)) Via.refl e38 c40 c41 (Or.inr ⟨(wd hw 30 rfl), rfl, hnm⟩) (wd hw 5 rfl) (ty := .byte) (by decide) (by decide +kernel) (by decide +kernel) (hb hby d2_23) rfl rfl ?_
 intro T42 h42 X42 e42 W42
 have N42 := Fr.snoc X42 N36 P3
 have F42 : Fld Z h42 a "java/lang/String" "coder" "B" (.int (0 : Int32)) := Fld.same W42 c40
 show Gwg T42 m 26 []
 have c43 := Exa.wr W42 c41
 have c44 := Fld.other W42 F36 (Or.inr (slot_ne (a0 := a0) (t := (.array .byte)) (t' := .byte) (Or.inr (wd hw 32 rfl)) (Or.inr (wd hw 30 rfl)) (by decide) (by decide) (by decide)))
 have c45 := G32.other W36 (Ne.symm ne32_a.2)
 have c46 := c45.other W42 (Ne.symm ne32_a.2)
 exact gw_ret0 X42 hx hlk hret (hb hby d2_26) (by decide) (by decide) (by rw [e42]; exact ⟨b32, rfl, N42, (Keep.wr (Keep.wr (Keep.ext (Keep.refl h0 [a]) E32) W36 (Or.inl (by simp))) W42 (Or.inl (by simp))), c43, c44, F42, c46⟩)
theorem d1_0 : decode jdk_42_method_3_code 0 = .ok (.aload_n 0, 1) := by decide +kernel
theorem d1_1 : decode jdk_42_method_3_code 1 = .ok (.aload_n 1, 1) := by decide +kernel
theorem d1_2 : decode jdk_42_method_3_code 2 = .ok (.iconst 0, 1) := by decide +kernel
theorem d1_3 : decode jdk_42_method_3_code 3 = .ok (.aload_n 1, 1) := by decide +kernel
theorem d1_4 : decode jdk_42_method_3_code 4 = .ok (.arraylength, 1) := by decide +kernel
theorem d1_5 : decode jdk_42_method_3_code 5 = .ok (.aconst_null, 1) := by decide +kernel
theorem d1_6 : decode jdk_42_method_3_code 6 = .ok (.invokespecial 27, 3) := by decide +kernel
theorem d1_9 : decode jdk_42_method_3_code 9 = .ok (.return_, 1) := by decide +kernel
theorem pn4 : plainFor (⟨"java/lang/String", "<init>", "([C)V"⟩ : MethodName) = true := by first | (refine plainFor_of_name ?_; simp [plainName, overriddenIn]; done) | (refine plainFor_of_name ?_; decide +kernel) | decide +kernel
def Q_s0 (Z : State) (a : Addr) (b : Addr) (fq : Nat → Value) (h0 : Heap) (n0 : Nat) (v : Option Value) (h : Heap) (L : List Loc) : Prop := ∃ r : Addr, v = none ∧ Fr n0 L ∧ Keep h0 h [a] ∧ Exa Z h a "java/lang/String" ∧ Fld Z h a "java/lang/String" "value" "[B" (.ref r) ∧ Fld Z h a "java/lang/String" "coder" "B" (.int (0 : Int32)) ∧ GA Z h r .byte 0 (fun _ => .null)
theorem pd1 : parseMethodDescriptor "([CIILjava/lang/Void;)V" = some ⟨[(.array .char), .int, .int, (.object "java/lang/Void")], none⟩ := by decide +kernel
theorem ef_s0 (m : MethodId) (a : Addr) (b : Addr) (fq : Nat → Value) : entryFrame m #[(.ref a), (.ref b)] 2 = mkF m 0 #[.val (.ref a), .val (.ref b)] [] := by first | (simp [entryFrame, mkF, argsToLocals, Value.category]; done) | rfl
abbrev rm_s0 : Room := ({ frames := 2, cells := 2, slots := 4, locals := 29 } : Room)
set_option maxRecDepth 65536 in
set_option maxHeartbeats 4000000 in
theorem met_s0 (l : Launch) (Z : State) (a0 : Array Value) (hw : ∀ d ∈ tables_1, d.before a0 Z = true) (a : Addr) (b : Addr) (fq : Nat → Value) (h0 : Heap) (n0 : Nat) (Z0 : n0 ≤ h0.size) (P0 : Exa Z h0 a "java/lang/String") (P1 : Fld Z h0 a "java/lang/String" "value" "[B" .null) (P2 : Fld Z h0 a "java/lang/String" "coder" "B" (.int (0 : Int32))) (P3 : n0 ≤ a) (P4 : GA Z h0 b .char 0 fq) :
  MetW l (⟨"java/lang/String", "<init>", "([C)V"⟩ : MethodName) jdk_42_method_3_code 2 none [] rm_s0 Z consts_1 a #[(.ref a), (.ref b)] h0 (Q_s0 Z a b fq h0 n0) rm_s0.cells rm_s0.slots := by
 refine own_bodyW pn4 ?_
 intro p e s m below meth c s₁ ct X0 e0 hC0 hSa0
 obtain ⟨hx, hZ, hown, hby, hml, hret, hlk, hnm⟩ := ct
 have lt_a : a < h0.size := P0.lt
 have N0 := Fr.nil n0
 refine castGoW (ef_s0 m a b fq) ?_
 show Gwg s₁ m 0 []
 refine gw_st (fun _ kq => XS.aloadN X0.here hx rfl (hb hby d1_0) rfl rfl kq) ?_
 show Gwg s₁ m 1 [(.ref a)]
 refine gw_st (fun _ kq => XS.aloadN X0.here hx rfl (hb hby d1_1) rfl rfl kq) ?_
 show Gwg s₁ m 2 [(.ref b), (.ref a)]
 refine gw_st (fun _ kq => XT.iconstV X0.here hx rfl (0 : Int32) (hb hby d1_2) (by decide) kq) ?_
 show Gwg s₁ m 3 [(.int (0 : Int32)), (.ref b), (.ref a)]
 refine gw_st (fun _ kq => XS.aloadN X0.here hx rfl (hb hby d1_3) rfl rfl kq) ?_
 show Gwg s₁ m 4 [(.ref b), (.int (0 : Int32)), (.ref b), (.ref a)]
 refine gw_alen X0 hx hZ e0 P4 (hb hby d1_4) rfl rfl (0 : Int32) (by decide) ?_
 show Gwg s₁ m 5 [(.int (0 : Int32)), (.int (0 : Int32)), (.ref b), (.ref a)]
 refine gw_st (fun _ kq => XS.aconstNull X0.here hx rfl (hb hby d1_5) kq) ?_
 show Gwg s₁ m 6 [.null, (.int (0 : Int32)), (.int (0 : Int32)), (.ref b), (.ref a)]
 refine gw_callIW X0 hx hZ hml hown rfl (wd hw 10 rfl) (wd hw 11 rfl) (wd hw 13 rfl) (wd hw 6 rfl) e0 (own_EL Z a0 hw) hC0 lt_a hSa0 (argsL := [(.ref b), (.int (0 : Int32)), (.int (0 : Int32)), .null]) (rest := []) (W := 0) (met_si0 l Z a0 hw a b h0 n0 Z0 P0 P1 P2 P3) (hb hby d1_6) rfl rfl rfl (lenOf pd1 rfl) (by show 2 * 0 + _ ≤ _; exact Nat.le_of_eq rfl) (by decide) (by decide) (by decide) (by decide) (by decide) ?_
 intro s T47 v47 L47 hZ hown X47 q47
 obtain ⟨r_47, rfl, M47, K47, f47_0, f47_1, f47_2, f47_3⟩ := q47
 have N47 := Fr.app N0 M47
 show Gwg T47 m 9 []
 exact gw_ret0 X47 hx hlk hret (hb hby d1_9) (by decide) (by decide) ⟨r_47, rfl, N47, (Keep.trans (Keep.refl h0 [a]) K47 (allS (Or.inl (by simp)) all0)), f47_0, f47_1, f47_2, f47_3⟩
def Q_si1 (Z : State) (a : Addr) (b : Addr) (va : Int32) (zc : Int32) (h0 : Heap) (n0 : Nat) (v : Option Value) (h : Heap) (L : List Loc) : Prop := ∃ r : Addr, v = none ∧ Fr n0 L ∧ Keep h0 h [a] ∧ h0.size ≤ r ∧ Exa Z h a "java/lang/String" ∧ Fld Z h a "java/lang/String" "value" "[B" (.ref r) ∧ Fld Z h a "java/lang/String" "coder" "B" (.int (0 : Int32)) ∧ GA Z h r .byte 1 (fun i => .int (own_c3 (own_by va) (0 : Int32) (0 : Int32) i))
theorem pd2 : parseMethodDescriptor "([CII)[B" = some ⟨[(.array .char), .int, .int], (some (.array .byte))⟩ := by decide +kernel
theorem pd3 : parseMethodDescriptor "([BI)B" = some ⟨[(.array .byte), .int], (some .byte)⟩ := by decide +kernel
theorem ef_si1 (m : MethodId) (a : Addr) (b : Addr) (va : Int32) (zc : Int32) : entryFrame m #[(.ref a), (.ref b), (.int (0 : Int32)), (.int (1 : Int32)), .null] 6 = mkF m 0 #[.val (.ref a), .val (.ref b), .val (.int (0 : Int32)), .val (.int (1 : Int32)), .val .null, .unset] [] := by first | (simp [entryFrame, mkF, argsToLocals, Value.category]; done) | rfl
abbrev rm_si1 : Room := ({ frames := 2, cells := 1, slots := 1, locals := 35 } : Room)
set_option maxRecDepth 65536 in
set_option maxHeartbeats 4000000 in
theorem met_si1 (l : Launch) (Z : State) (a0 : Array Value) (hw : ∀ d ∈ tables_1, d.before a0 Z = true) (a : Addr) (b : Addr) (va : Int32) (zc : Int32) (h0 : Heap) (n0 : Nat) (Z0 : n0 ≤ h0.size) (P0 : Exa Z h0 a "java/lang/String") (P1 : Fld Z h0 a "java/lang/String" "value" "[B" .null) (P2 : Fld Z h0 a "java/lang/String" "coder" "B" (.int (0 : Int32))) (P3 : n0 ≤ a) (P4 : GA Z h0 b .char 1 (fun i => .int (own_c3 va (0 : Int32) (0 : Int32) i))) (P5 : a ≠ b) (P6 : Lat va) (P7 : Old Z n0 h0) (P8 : Sta Z Z.heap "java/lang/String" "COMPACT_STRINGS" "Z" (.int zc)) (P9 : ¬ (zc = (0 : Int32))) :
  Met l (⟨"java/lang/String", "<init>", "([CIILjava/lang/Void;)V"⟩ : MethodName) jdk_42_method_149_code 6 none [] rm_si1 Z #[(.ref a), (.ref b), (.int (0 : Int32)), (.int (1 : Int32)), .null] h0 (Q_si1 Z a b va zc h0 n0) rm_si1.cells rm_si1.slots := by
 refine own_body pn3 ?_
 intro p e s m below meth c s₁ ct X0 e0
 obtain ⟨hx, hZ, hown, hby, hml, hret, hlk, hnm⟩ := ct
 have lt_a : a < h0.size := P0.lt
 have N0 := Fr.nil n0
 refine castGo (ef_si1 m a b va zc) ?_
 show Gg s₁ m 0 []
 refine go_st (fun _ kq => XS.aloadN X0.here hx rfl (hb hby d2_0) rfl rfl kq) ?_
 show Gg s₁ m 1 [(.ref a)]
 refine go_initO X0 hx hZ hml hown (wd hw 14 rfl) (wd hw 15 rfl) (wd hw 16 rfl) e0 (hb hby d2_1) rfl rfl rfl (by decide) (W := 0) (by show 2 * 0 + _ ≤ _; exact Nat.le_of_eq rfl) (by decide) ?_
 intro T48 X48 e48
 show Gg T48 m 4 []
 refine go_st (fun _ kq => XS.iloadN X48.here hx rfl (hb hby d2_4) rfl kq) ?_
 show Gg T48 m 5 [(.int (1 : Int32))]
 refine go_st (fun _ kq => XS.ifYes X48.here hx rfl (pc0 := 5) (pc' := 27) rfl (hb hby d2_5) rfl (XT.i0_ne_t (by decide)) (by decide) (by decide) kq) ?_
 show Gg T48 m 27 []
 refine go_getS X48 hx hZ hown (host := "") (Or.inl (wd hw 17 rfl)) Via.refl e48 (Sta.ext P7.2 P8) (hb hby d2_27) rfl ?_
 intro T49 X49 e49
 show Gg T49 m 30 [(.int zc)]
 refine go_st (fun _ kq => XS.ifNo X49.here hx rfl (hb hby d2_30) rfl (XT.i0_eq_f P9) kq) ?_
 show Gg T49 m 33 []
 refine go_st (fun _ kq => XS.aloadN X49.here hx rfl (hb hby d2_33) rfl rfl kq) ?_
 show Gg T49 m 34 [(.ref b)]
 refine go_st (fun _ kq => XS.iloadN X49.here hx rfl (hb hby d2_34) rfl kq) ?_
 show Gg T49 m 35 [(.int (0 : Int32)), (.ref b)]
 refine go_st (fun _ kq => XS.iloadN X49.here hx rfl (hb hby d2_35) rfl kq) ?_
 show Gg T49 m 36 [(.int (1 : Int32)), (.int (0 : Int32)), (.ref b)]
 refine go_callS X49 hx hZ hml hown (wd hw 18 rfl) (wd hw 19 rfl) (wd hw 20 rfl) (wd hw 21 rfl) e49 (argsL := [(.ref b), (.int (0 : Int32)), (.int (1 : Int32))]) (rest := []) (W := 0) (met_cp1 l Z a0 hw b va h0 n0 Z0 P4 P6) (hb hby d2_36) rfl rfl rfl (lenOf pd2 rfl) (by show 2 * 0 + _ ≤ _; exact Nat.le_of_eq rfl) (by decide) (by decide) (by decide) (by decide) (by decide) ?_
 intro T50 v50 L50 X50 q50
 obtain ⟨r_50, rfl, M50, K50, fz50_r, f50_0⟩ := q50
 have N50 := Fr.app N0 M50
 have ne51 : a ≠ r_50 := Nat.ne_of_lt (Nat.lt_of_lt_of_le lt_a fz50_r)
 show Gg T50 m 39 [(.ref r_50)]
 refine go_st (fun _ kq => XS.astore X50.here hx rfl (hb hby d2_39) rfl rfl (l' := #[.val (.ref a), .val (.ref b), .val (.int (0 : Int32)), .val (.int (1 : Int32)), .val .null, .val (.ref r_50)]) rfl kq) ?_
 show Gg T50 m 41 []
 refine go_st (fun _ kq => XS.aloadN X50.here hx rfl (hb hby d2_41) rfl rfl kq) ?_
 show Gg T50 m 42 [(.ref a)]
 refine go_st (fun _ kq => XS.aload X50.here hx rfl (hb hby d2_42) rfl rfl kq) ?_
 show Gg T50 m 44 [(.ref r_50), (.ref a)]
 refine go_st (fun _ kq => XS.iloadN X50.here hx rfl (hb hby d2_44) rfl kq) ?_
 show Gg T50 m 45 [(.int (1 : Int32)), (.ref r_50), (.ref a)]
 have z54 : n0 ≤ T50.heap.size := Nat.le_trans Z0 K50.1
 refine go_callS X50 hx hZ hml hown (wd hw 26 rfl) (wd hw 27 rfl) (wd hw 20 rfl) (wd hw 28 rfl) rfl (argsL := [(.ref r_50), (.int (1 : Int32))]) (rest := [(.ref a)]) (W := 1) (met_cfl1 l Z a0 hw r_50 (fun i => .int (own_c3 (own_by va) (0 : Int32) (0 : Int32) i)) T50.heap n0 z54 f50_0) (hb hby d2_45) rfl rfl rfl (lenOf pd3 rfl) (by show 2 * 0 + _ ≤ _; exact Nat.le_of_eq rfl) (by decide) (by decide) (by decide) (by decide) (by decide) ?_
 intro T53 v53 L53 X53 q53
 obtain ⟨rfl, M53, e53⟩ := q53
 have N53 := Fr.app N50 M53
 show Gg T53 m 48 [(.int (0 : Int32)), (.ref a)]
 have c55 := Fld.keep P2 K50 nin0
 have c56 := Exa.keep P0 K50
 refine go_putF X53 hx hZ hown (host := "") (Or.inl (wd hw 29 rfl)) Via.refl e53 c55 c56 (Or.inr ⟨(wd hw 30 rfl), rfl, hnm⟩) (wd hw 5 rfl) (ty := .byte) (by decide) (by decide +kernel) (by decide +kernel) (hb hby d2_48) rfl rfl ?_
 intro T57 h57 X57 e57 W57
 have N57 := Fr.snoc X57 N53 P3
 have F57 : Fld Z h57 a "java/lang/String" "coder" "B" (.int (0 : Int32)) := Fld.same W57 c55
 show Gg T57 m 51 []
 refine go_st (fun _ kq => XS.aloadN X57.here hx rfl (hb hby d2_51) rfl rfl kq) ?_
 show Gg T57 m 52 [(.ref a)]
 refine go_st (fun _ kq => XS.aload X57.here hx rfl (hb hby d2_52) rfl rfl kq) ?_
 show Gg T57 m 54 [(.ref r_50), (.ref a)]
 have c58 := Fld.keep P1 K50 nin0
 have c59 := Fld.other W57 c58 (Or.inr (slot_ne (a0 := a0) (t := (.array .byte)) (t' := .byte) (Or.inr (wd hw 32 rfl)) (Or.inr (wd hw 30 rfl)) (by decide) (by decide) (by decide)))
 have c60 := Exa.wr W57 c56
 refine go_putF X57 hx hZ hown (host := "") (Or.inl (wd hw 31 rfl)) Via.refl e57 c59 c60 (Or.inr ⟨(wd hw 32 rfl), rfl, hnm⟩) (wd hw 5 rfl) (ty := (.array .byte)) (by decide) rfl rfl (hb hby d2_54) rfl rfl ?_
 intro T61 h61 X61 e61 W61
 have N61 := Fr.snoc X61 N57 P3
 have F61 : Fld Z h61 a "java/lang/String" "value" "[B" (.ref r_50) := Fld.same W61 c59
 show Gg T61 m 57 []
 have c62 := Exa.wr W61 c60
 have c63 := Fld.other W61 F57 (Or.inr (slot_ne (a0 := a0) (t := .byte) (t' := (.array .byte)) (Or.inr (wd hw 30 rfl)) (Or.inr (wd hw 32 rfl)) (by decide) (by decide) (by decide)))
 have c64 := f50_0.other W57 (Ne.symm ne51)
 have c65 := c64.other W61 (Ne.symm ne51)
 exact go_ret0 X61 hx hlk hret (hb hby d2_57) (by decide) (by decide) (by rw [e61]; exact ⟨r_50, rfl, N61, (Keep.wr (Keep.wr (Keep.trans (Keep.refl h0 [a]) K50 all0) W57 (Or.inl (by simp))) W61 (Or.inl (by simp))), (Nat.le_trans (Nat.le_refl _) fz50_r), c62, F61, c63, c65⟩)
def Q_s1 (Z : State) (a : Addr) (b : Addr) (va : Int32) (zc : Int32) (h0 : Heap) (n0 : Nat) (v : Option Value) (h : Heap) (L : List Loc) : Prop := ∃ r : Addr, v = none ∧ Fr n0 L ∧ Keep h0 h [a] ∧ h0.size ≤ r ∧ Exa Z h a "java/lang/String" ∧ Fld Z h a "java/lang/String" "value" "[B" (.ref r) ∧ Fld Z h a "java/lang/String" "coder" "B" (.int (0 : Int32)) ∧ GA Z h r .byte 1 (fun i => .int (own_c3 (own_by va) (0 : Int32) (0 : Int32) i))
theorem ef_s1 (m : MethodId) (a : Addr) (b : Addr) (va : Int32) (zc : Int32) : entryFrame m #[(.ref a), (.ref b)] 2 = mkF m 0 #[.val (.ref a), .val (.ref b)] [] := by first | (simp [entryFrame, mkF, argsToLocals, Value.category]; done) | rfl
abbrev rm_s1 : Room := ({ frames := 3, cells := 1, slots := 1, locals := 52 } : Room)
set_option maxRecDepth 65536 in
set_option maxHeartbeats 4000000 in
theorem met_s1 (l : Launch) (Z : State) (a0 : Array Value) (hw : ∀ d ∈ tables_1, d.before a0 Z = true) (a : Addr) (b : Addr) (va : Int32) (zc : Int32) (h0 : Heap) (n0 : Nat) (Z0 : n0 ≤ h0.size) (P0 : Exa Z h0 a "java/lang/String") (P1 : Fld Z h0 a "java/lang/String" "value" "[B" .null) (P2 : Fld Z h0 a "java/lang/String" "coder" "B" (.int (0 : Int32))) (P3 : n0 ≤ a) (P4 : GA Z h0 b .char 1 (fun i => .int (own_c3 va (0 : Int32) (0 : Int32) i))) (P5 : a ≠ b) (P6 : Lat va) (P7 : Old Z n0 h0) (P8 : Sta Z Z.heap "java/lang/String" "COMPACT_STRINGS" "Z" (.int zc)) (P9 : ¬ (zc = (0 : Int32))) :
  Met l (⟨"java/lang/String", "<init>", "([C)V"⟩ : MethodName) jdk_42_method_3_code 2 none [] rm_s1 Z #[(.ref a), (.ref b)] h0 (Q_s1 Z a b va zc h0 n0) rm_s1.cells rm_s1.slots := by
 refine own_body pn4 ?_
 intro p e s m below meth c s₁ ct X0 e0
 obtain ⟨hx, hZ, hown, hby, hml, hret, hlk, hnm⟩ := ct
 have N0 := Fr.nil n0
 refine castGo (ef_s1 m a b va zc) ?_
 show Gg s₁ m 0 []
 refine go_st (fun _ kq => XS.aloadN X0.here hx rfl (hb hby d1_0) rfl rfl kq) ?_
 show Gg s₁ m 1 [(.ref a)]
 refine go_st (fun _ kq => XS.aloadN X0.here hx rfl (hb hby d1_1) rfl rfl kq) ?_
 show Gg s₁ m 2 [(.ref b), (.ref a)]
 refine go_st (fun _ kq => XT.iconstV X0.here hx rfl (0 : Int32) (hb hby d1_2) (by decide) kq) ?_
 show Gg s₁ m 3 [(.int (0 : Int32)), (.ref b), (.ref a)]
 refine go_st (fun _ kq => XS.aloadN X0.here hx rfl (hb hby d1_3) rfl rfl kq) ?_
 show Gg s₁ m 4 [(.ref b), (.int (0 : Int32)), (.ref b), (.ref a)]
 refine go_alen X0 hx hZ e0 P4 (hb hby d1_4) rfl rfl (1 : Int32) (by decide) ?_
 show Gg s₁ m 5 [(.int (1 : Int32)), (.int (0 : Int32)), (.ref b), (.ref a)]
 refine go_st (fun _ kq => XS.aconstNull X0.here hx rfl (hb hby d1_5) kq) ?_
 show Gg s₁ m 6 [.null, (.int (1 : Int32)), (.int (0 : Int32)), (.ref b), (.ref a)]
 refine go_callI X0 hx hZ hml hown rfl (wd hw 10 rfl) (wd hw 11 rfl) (wd hw 13 rfl) (wd hw 6 rfl) e0 (argsL := [(.ref b), (.int (0 : Int32)), (.int (1 : Int32)), .null]) (rest := []) (W := 0) (met_si1 l Z a0 hw a b va zc h0 n0 Z0 P0 P1 P2 P3 P4 P5 P6 P7 P8 P9) (hb hby d1_6) rfl rfl rfl (lenOf pd1 rfl) (by show 2 * 0 + _ ≤ _; exact Nat.le_of_eq rfl) (by decide) (by decide) (by decide) (by decide) (by decide) ?_
 intro T66 v66 L66 X66 q66
 obtain ⟨r_66, rfl, M66, K66, fz66_r, f66_0, f66_1, f66_2, f66_3⟩ := q66
 have N66 := Fr.app N0 M66
 show Gg T66 m 9 []
 exact go_ret0 X66 hx hlk hret (hb hby d1_9) (by decide) (by decide) ⟨r_66, rfl, N66, (Keep.trans (Keep.refl h0 [a]) K66 (allS (Or.inl (by simp)) all0)), (Nat.le_trans (Nat.le_refl _) fz66_r), f66_0, f66_1, f66_2, f66_3⟩
def Q_si2 (Z : State) (a : Addr) (b : Addr) (va : Int32) (vb : Int32) (zc : Int32) (h0 : Heap) (n0 : Nat) (v : Option Value) (h : Heap) (L : List Loc) : Prop := ∃ r : Addr, v = none ∧ Fr n0 L ∧ Keep h0 h [a] ∧ h0.size ≤ r ∧ Exa Z h a "java/lang/String" ∧ Fld Z h a "java/lang/String" "value" "[B" (.ref r) ∧ Fld Z h a "java/lang/String" "coder" "B" (.int (0 : Int32)) ∧ GA Z h r .byte 2 (fun i => .int (own_c3 (own_by va) (own_by vb) (0 : Int32) i))
theorem ef_si2 (m : MethodId) (a : Addr) (b : Addr) (va : Int32) (vb : Int32) (zc : Int32) : entryFrame m #[(.ref a), (.ref b), (.int (0 : Int32)), (.int (2 : Int32)), .null] 6 = mkF m 0 #[.val (.ref a), .val (.ref b), .val (.int (0 : Int32)), .val (.int (2 : Int32)), .val .null, .unset] [] := by first | (simp [entryFrame, mkF, argsToLocals, Value.category]; done) | rfl
abbrev rm_si2 : Room := ({ frames := 2, cells := 1, slots := 2, locals := 35 } : Room)
set_option maxRecDepth 65536 in
set_option maxHeartbeats 4000000 in
theorem met_si2 (l : Launch) (Z : State) (a0 : Array Value) (hw : ∀ d ∈ tables_1, d.before a0 Z = true) (a : Addr) (b : Addr) (va : Int32) (vb : Int32) (zc : Int32) (h0 : Heap) (n0 : Nat) (Z0 : n0 ≤ h0.size) (P0 : Exa Z h0 a "java/lang/String") (P1 : Fld Z h0 a "java/lang/String" "value" "[B" .null) (P2 : Fld Z h0 a "java/lang/String" "coder" "B" (.int (0 : Int32))) (P3 : n0 ≤ a) (P4 : GA Z h0 b .char 2 (fun i => .int (own_c3 va vb (0 : Int32) i))) (P5 : a ≠ b) (P6 : Lat va) (P7 : Lat vb) (P8 : Old Z n0 h0) (P9 : Sta Z Z.heap "java/lang/String" "COMPACT_STRINGS" "Z" (.int zc)) (P10 : ¬ (zc = (0 : Int32))) :
  Met l (⟨"java/lang/String", "<init>", "([CIILjava/lang/Void;)V"⟩ : MethodName) jdk_42_method_149_code 6 none [] rm_si2 Z #[(.ref a), (.ref b), (.int (0 : Int32)), (.int (2 : Int32)), .null] h0 (Q_si2 Z a b va vb zc h0 n0) rm_si2.cells rm_si2.slots := by
 refine own_body pn3 ?_
 intro p e s m below meth c s₁ ct X0 e0
 obtain ⟨hx, hZ, hown, hby, hml, hret, hlk, hnm⟩ := ct
 have lt_a : a < h0.size := P0.lt
 have N0 := Fr.nil n0
 refine castGo (ef_si2 m a b va vb zc) ?_
 show Gg s₁ m 0 []
 refine go_st (fun _ kq => XS.aloadN X0.here hx rfl (hb hby d2_0) rfl rfl kq) ?_
 show Gg s₁ m 1 [(.ref a)]
 refine go_initO X0 hx hZ hml hown (wd hw 14 rfl) (wd hw 15 rfl) (wd hw 16 rfl) e0 (hb hby d2_1) rfl rfl rfl (by decide) (W := 0) (by show 2 * 0 + _ ≤ _; exact Nat.le_of_eq rfl) (by decide) ?_
 intro T69 X69 e69
 show Gg T69 m 4 []
 refine go_st (fun _ kq => XS.iloadN X69.here hx rfl (hb hby d2_4) rfl kq) ?_
 show Gg T69 m 5 [(.int (2 : Int32))]
 refine go_st (fun _ kq => XS.ifYes X69.here hx rfl (pc0 := 5) (pc' := 27) rfl (hb hby d2_5) rfl (XT.i0_ne_t (by decide)) (by decide) (by decide) kq) ?_
 show Gg T69 m 27 []
 refine go_getS X69 hx hZ hown (host := "") (Or.inl (wd hw 17 rfl)) Via.refl e69 (Sta.ext P8.2 P9) (hb hby d2_27) rfl ?_
 intro T70 X70 e70
 show Gg T70 m 30 [(.int zc)]
 refine go_st (fun _ kq => XS.ifNo X70.here hx rfl (hb hby d2_30) rfl (XT.i0_eq_f P10) kq) ?_
 show Gg T70 m 33 []
 refine go_st (fun _ kq => XS.aloadN X70.here hx rfl (hb hby d2_33) rfl rfl kq) ?_
 show Gg T70 m 34 [(.ref b)]
 refine go_st (fun _ kq => XS.iloadN X70.here hx rfl (hb hby d2_34) rfl kq) ?_
 show Gg T70 m 35 [(.int (0 : Int32)), (.ref b)]
 refine go_st (fun _ kq => XS.iloadN X70.here hx rfl (hb hby d2_35) rfl kq) ?_
 show Gg T70 m 36 [(.int (2 : Int32)), (.int (0 : Int32)), (.ref b)]
 refine go_callS X70 hx hZ hml hown (wd hw 18 rfl) (wd hw 19 rfl) (wd hw 20 rfl) (wd hw 21 rfl) e70 (argsL := [(.ref b), (.int (0 : Int32)), (.int (2 : Int32))]) (rest := []) (W := 0) (met_cp2 l Z a0 hw b va vb h0 n0 Z0 P4 P6 P7) (hb hby d2_36) rfl rfl rfl (lenOf pd2 rfl) (by show 2 * 0 + _ ≤ _; exact Nat.le_of_eq rfl) (by decide) (by decide) (by decide) (by decide) (by decide) ?_
 intro T71 v71 L71 X71 q71
 obtain ⟨r_71, rfl, M71, K71, fz71_r, f71_0⟩ := q71
 have N71 := Fr.app N0 M71
 have ne72 : a ≠ r_71 := Nat.ne_of_lt (Nat.lt_of_lt_of_le lt_a fz71_r)
 show Gg T71 m 39 [(.ref r_71)]
 refine go_st (fun _ kq => XS.astore X71.here hx rfl (hb hby d2_39) rfl rfl (l' := #[.val (.ref a), .val (.ref b), .val (.int (0 : Int32)), .val (.int (2 : Int32)), .val .null, .val (.ref r_71)]) rfl kq) ?_
 show Gg T71 m 41 []
 refine go_st (fun _ kq => XS.aloadN X71.here hx rfl (hb hby d2_41) rfl rfl kq) ?_
 show Gg T71 m 42 [(.ref a)]
 refine go_st (fun _ kq => XS.aload X71.here hx rfl (hb hby d2_42) rfl rfl kq) ?_
 show Gg T71 m 44 [(.ref r_71), (.ref a)]
 refine go_st (fun _ kq => XS.iloadN X71.here hx rfl (hb hby d2_44) rfl kq) ?_
 show Gg T71 m 45 [(.int (2 : Int32)), (.ref r_71), (.ref a)]
 have z75 : n0 ≤ T71.heap.size := Nat.le_trans Z0 K71.1
 refine go_callS X71 hx hZ hml hown (wd hw 26 rfl) (wd hw 27 rfl) (wd hw 20 rfl) (wd hw 28 rfl) rfl (argsL := [(.ref r_71), (.int (2 : Int32))]) (rest := [(.ref a)]) (W := 1) (met_cfl2 l Z a0 hw r_71 (fun i => .int (own_c3 (own_by va) (own_by vb) (0 : Int32) i)) T71.heap n0 z75 f71_0) (hb hby d2_45) rfl rfl rfl (lenOf pd3 rfl) (by show 2 * 0 + _ ≤ _; exact Nat.le_of_eq rfl) (by decide) (by decide) (by decide) (by decide) (by decide) ?_
 intro T74 v74 L74 X74 q74
 obtain ⟨rfl, M74, e74⟩ := q74
 have N74 := Fr.app N71 M74
 show Gg T74 m 48 [(.int (0 : Int32)), (.ref a)]
 have c76 := Fld.keep P2 K71 nin0
 have c77 := Exa.keep P0 K71
 refine go_putF X74 hx hZ hown (host := "") (Or.inl (wd hw 29 rfl)) Via.refl e74 c76 c77 (Or.inr ⟨(wd hw 30 rfl), rfl, hnm⟩) (wd hw 5 rfl) (ty := .byte) (by decide) (by decide +kernel) (by decide +kernel) (hb hby d2_48) rfl rfl ?_
 intro T78 h78 X78 e78 W78
 have N78 := Fr.snoc X78 N74 P3
 have F78 : Fld Z h78 a "java/lang/String" "coder" "B" (.int (0 : Int32)) := Fld.same W78 c76
 show Gg T78 m 51 []
 refine go_st (fun _ kq => XS.aloadN X78.here hx rfl (hb hby d2_51) rfl rfl kq) ?_
 show Gg T78 m 52 [(.ref a)]
 refine go_st (fun _ kq => XS.aload X78.here hx rfl (hb hby d2_52) rfl rfl kq) ?_
 show Gg T78 m 54 [(.ref r_71), (.ref a)]
 have c79 := Fld.keep P1 K71 nin0
 have c80 := Fld.other W78 c79 (Or.inr (slot_ne (a0 := a0) (t := (.array .byte)) (t' := .byte) (Or.inr (wd hw 32 rfl)) (Or.inr (wd hw 30 rfl)) (by decide) (by decide) (by decide)))
 have c81 := Exa.wr W78 c77
 refine go_putF X78 hx hZ hown (host := "") (Or.inl (wd hw 31 rfl)) Via.refl e78 c80 c81 (Or.inr ⟨(wd hw 32 rfl), rfl, hnm⟩) (wd hw 5 rfl) (ty := (.array .byte)) (by decide) rfl rfl (hb hby d2_54) rfl rfl ?_
 intro T82 h82 X82 e82 W82
 have N82 := Fr.snoc X82 N78 P3
 have F82 : Fld Z h82 a "java/lang/String" "value" "[B" (.ref r_71) := Fld.same W82 c80
 show Gg T82 m 57 []
 have c83 := Exa.wr W82 c81
 have c84 := Fld.other W82 F78 (Or.inr (slot_ne (a0 := a0) (t := .byte) (t' := (.array .byte)) (Or.inr (wd hw 30 rfl)) (Or.inr (wd hw 32 rfl)) (by decide) (by decide) (by decide)))
 have c85 := f71_0.other W78 (Ne.symm ne72)
 have c86 := c85.other W82 (Ne.symm ne72)
 exact go_ret0 X82 hx hlk hret (hb hby d2_57) (by decide) (by decide) (by rw [e82]; exact ⟨r_71, rfl, N82, (Keep.wr (Keep.wr (Keep.trans (Keep.refl h0 [a]) K71 all0) W78 (Or.inl (by simp))) W82 (Or.inl (by simp))), (Nat.le_trans (Nat.le_refl _) fz71_r), c83, F82, c84, c86⟩)
def Q_s2 (Z : State) (a : Addr) (b : Addr) (va : Int32) (vb : Int32) (zc : Int32) (h0 : Heap) (n0 : Nat) (v : Option Value) (h : Heap) (L : List Loc) : Prop := ∃ r : Addr, v = none ∧ Fr n0 L ∧ Keep h0 h [a] ∧ h0.size ≤ r ∧ Exa Z h a "java/lang/String" ∧ Fld Z h a "java/lang/String" "value" "[B" (.ref r) ∧ Fld Z h a "java/lang/String" "coder" "B" (.int (0 : Int32)) ∧ GA Z h r .byte 2 (fun i => .int (own_c3 (own_by va) (own_by vb) (0 : Int32) i))
theorem ef_s2 (m : MethodId) (a : Addr) (b : Addr) (va : Int32) (vb : Int32) (zc : Int32) : entryFrame m #[(.ref a), (.ref b)] 2 = mkF m 0 #[.val (.ref a), .val (.ref b)] [] := by first | (simp [entryFrame, mkF, argsToLocals, Value.category]; done) | rfl
abbrev rm_s2 : Room := ({ frames := 3, cells := 1, slots := 2, locals := 52 } : Room)
set_option maxRecDepth 65536 in
set_option maxHeartbeats 4000000 in
theorem met_s2 (l : Launch) (Z : State) (a0 : Array Value) (hw : ∀ d ∈ tables_1, d.before a0 Z = true) (a : Addr) (b : Addr) (va : Int32) (vb : Int32) (zc : Int32) (h0 : Heap) (n0 : Nat) (Z0 : n0 ≤ h0.size) (P0 : Exa Z h0 a "java/lang/String") (P1 : Fld Z h0 a "java/lang/String" "value" "[B" .null) (P2 : Fld Z h0 a "java/lang/String" "coder" "B" (.int (0 : Int32))) (P3 : n0 ≤ a) (P4 : GA Z h0 b .char 2 (fun i => .int (own_c3 va vb (0 : Int32) i))) (P5 : a ≠ b) (P6 : Lat va) (P7 : Lat vb) (P8 : Old Z n0 h0) (P9 : Sta Z Z.heap "java/lang/String" "COMPACT_STRINGS" "Z" (.int zc)) (P10 : ¬ (zc = (0 : Int32))) :
  Met l (⟨"java/lang/String", "<init>", "([C)V"⟩ : MethodName) jdk_42_method_3_code 2 none [] rm_s2 Z #[(.ref a), (.ref b)] h0 (Q_s2 Z a b va vb zc h0 n0) rm_s2.cells rm_s2.slots := by
 refine own_body pn4 ?_
 intro p e s m below meth c s₁ ct X0 e0
 obtain ⟨hx, hZ, hown, hby, hml, hret, hlk, hnm⟩ := ct
 have N0 := Fr.nil n0
 refine castGo (ef_s2 m a b va vb zc) ?_
 show Gg s₁ m 0 []
 refine go_st (fun _ kq => XS.aloadN X0.here hx rfl (hb hby d1_0) rfl rfl kq) ?_
 show Gg s₁ m 1 [(.ref a)]
 refine go_st (fun _ kq => XS.aloadN X0.here hx rfl (hb hby d1_1) rfl rfl kq) ?_
 show Gg s₁ m 2 [(.ref b), (.ref a)]
 refine go_st (fun _ kq => XT.iconstV X0.here hx rfl (0 : Int32) (hb hby d1_2) (by decide) kq) ?_
 show Gg s₁ m 3 [(.int (0 : Int32)), (.ref b), (.ref a)]
 refine go_st (fun _ kq => XS.aloadN X0.here hx rfl (hb hby d1_3) rfl rfl kq) ?_
 show Gg s₁ m 4 [(.ref b), (.int (0 : Int32)), (.ref b), (.ref a)]
 refine go_alen X0 hx hZ e0 P4 (hb hby d1_4) rfl rfl (2 : Int32) (by decide) ?_
 show Gg s₁ m 5 [(.int (2 : Int32)), (.int (0 : Int32)), (.ref b), (.ref a)]
 refine go_st (fun _ kq => XS.aconstNull X0.here hx rfl (hb hby d1_5) kq) ?_
 show Gg s₁ m 6 [.null, (.int (2 : Int32)), (.int (0 : Int32)), (.ref b), (.ref a)]
 refine go_callI X0 hx hZ hml hown rfl (wd hw 10 rfl) (wd hw 11 rfl) (wd hw 13 rfl) (wd hw 6 rfl) e0 (argsL := [(.ref b), (.int (0 : Int32)), (.int (2 : Int32)), .null]) (rest := []) (W := 0) (met_si2 l Z a0 hw a b va vb zc h0 n0 Z0 P0 P1 P2 P3 P4 P5 P6 P7 P8 P9 P10) (hb hby d1_6) rfl rfl rfl (lenOf pd1 rfl) (by show 2 * 0 + _ ≤ _; exact Nat.le_of_eq rfl) (by decide) (by decide) (by decide) (by decide) (by decide) ?_
 intro T87 v87 L87 X87 q87
 obtain ⟨r_87, rfl, M87, K87, fz87_r, f87_0, f87_1, f87_2, f87_3⟩ := q87
 have N87 := Fr.app N0 M87
 show Gg T87 m 9 []
 exact go_ret0 X87 hx hlk hret (hb hby d1_9) (by decide) (by decide) ⟨r_87, rfl, N87, (Keep.trans (Keep.refl h0 [a]) K87 (allS (Or.inl (by simp)) all0)), (Nat.le_trans (Nat.le_refl _) fz87_r), f87_0, f87_1, f87_2, f87_3⟩
def Q_si3 (Z : State) (a : Addr) (b : Addr) (va : Int32) (vb : Int32) (vc : Int32) (zc : Int32) (h0 : Heap) (n0 : Nat) (v : Option Value) (h : Heap) (L : List Loc) : Prop := ∃ r : Addr, v = none ∧ Fr n0 L ∧ Keep h0 h [a] ∧ h0.size ≤ r ∧ Exa Z h a "java/lang/String" ∧ Fld Z h a "java/lang/String" "value" "[B" (.ref r) ∧ Fld Z h a "java/lang/String" "coder" "B" (.int (0 : Int32)) ∧ GA Z h r .byte 3 (fun i => .int (own_c3 (own_by va) (own_by vb) (own_by vc) i))
theorem ef_si3 (m : MethodId) (a : Addr) (b : Addr) (va : Int32) (vb : Int32) (vc : Int32) (zc : Int32) : entryFrame m #[(.ref a), (.ref b), (.int (0 : Int32)), (.int (3 : Int32)), .null] 6 = mkF m 0 #[.val (.ref a), .val (.ref b), .val (.int (0 : Int32)), .val (.int (3 : Int32)), .val .null, .unset] [] := by first | (simp [entryFrame, mkF, argsToLocals, Value.category]; done) | rfl
abbrev rm_si3 : Room := ({ frames := 2, cells := 1, slots := 3, locals := 35 } : Room)
set_option maxRecDepth 65536 in
set_option maxHeartbeats 4000000 in
theorem met_si3 (l : Launch) (Z : State) (a0 : Array Value) (hw : ∀ d ∈ tables_1, d.before a0 Z = true) (a : Addr) (b : Addr) (va : Int32) (vb : Int32) (vc : Int32) (zc : Int32) (h0 : Heap) (n0 : Nat) (Z0 : n0 ≤ h0.size) (P0 : Exa Z h0 a "java/lang/String") (P1 : Fld Z h0 a "java/lang/String" "value" "[B" .null) (P2 : Fld Z h0 a "java/lang/String" "coder" "B" (.int (0 : Int32))) (P3 : n0 ≤ a) (P4 : GA Z h0 b .char 3 (fun i => .int (own_c3 va vb vc i))) (P5 : a ≠ b) (P6 : Lat va) (P7 : Lat vb) (P8 : Lat vc) (P9 : Old Z n0 h0) (P10 : Sta Z Z.heap "java/lang/String" "COMPACT_STRINGS" "Z" (.int zc)) (P11 : ¬ (zc = (0 : Int32))) :
  Met l (⟨"java/lang/String", "<init>", "([CIILjava/lang/Void;)V"⟩ : MethodName) jdk_42_method_149_code 6 none [] rm_si3 Z #[(.ref a), (.ref b), (.int (0 : Int32)), (.int (3 : Int32)), .null] h0 (Q_si3 Z a b va vb vc zc h0 n0) rm_si3.cells rm_si3.slots := by
 refine own_body pn3 ?_
 intro p e s m below meth c s₁ ct X0 e0
 obtain ⟨hx, hZ, hown, hby, hml, hret, hlk, hnm⟩ := ct
 have lt_a : a < h0.size := P0.lt
 have N0 := Fr.nil n0
 refine castGo (ef_si3 m a b va vb vc zc) ?_
 show Gg s₁ m 0 []
 refine go_st (fun _ kq => XS.aloadN X0.here hx rfl (hb hby d2_0) rfl rfl kq) ?_
 show Gg s₁ m 1 [(.ref a)]
 refine go_initO X0 hx hZ hml hown (wd hw 14 rfl) (wd hw 15 rfl) (wd hw 16 rfl) e0 (hb hby d2_1) rfl rfl rfl (by decide) (W := 0) (by show 2 * 0 + _ ≤ _; exact Nat.le_of_eq rfl) (by decide) ?_
 intro T90 X90 e90
 show Gg T90 m 4 []
 refine go_st (fun _ kq => XS.iloadN X90.here hx rfl (hb hby d2_4) rfl kq) ?_
 show Gg T90 m 5 [(.int (3 : Int32))]
 refine go_st (fun _ kq => XS.ifYes X90.here hx rfl (pc0 := 5) (pc' := 27) rfl (hb hby d2_5) rfl (XT.i0_ne_t (by decide)) (by decide) (by decide) kq) ?_
 show Gg T90 m 27 []
 refine go_getS X90 hx hZ hown (host := "") (Or.inl (wd hw 17 rfl)) Via.refl e90 (Sta.ext P9.2 P10) (hb hby d2_27) rfl ?_
 intro T91 X91 e91
 show Gg T91 m 30 [(.int zc)]
 refine go_st (fun _ kq => XS.ifNo X91.here hx rfl (hb hby d2_30) rfl (XT.i0_eq_f P11) kq) ?_
 show Gg T91 m 33 []
 refine go_st (fun _ kq => XS.aloadN X91.here hx rfl (hb hby d2_33) rfl rfl kq) ?_
 show Gg T91 m 34 [(.ref b)]
 refine go_st (fun _ kq => XS.iloadN X91.here hx rfl (hb hby d2_34) rfl kq) ?_
 show Gg T91 m 35 [(.int (0 : Int32)), (.ref b)]
 refine go_st (fun _ kq => XS.iloadN X91.here hx rfl (hb hby d2_35) rfl kq) ?_
 show Gg T91 m 36 [(.int (3 : Int32)), (.int (0 : Int32)), (.ref b)]
 refine go_callS X91 hx hZ hml hown (wd hw 18 rfl) (wd hw 19 rfl) (wd hw 20 rfl) (wd hw 21 rfl) e91 (argsL := [(.ref b), (.int (0 : Int32)), (.int (3 : Int32))]) (rest := []) (W := 0) (met_cp3 l Z a0 hw b va vb vc h0 n0 Z0 P4 P6 P7 P8) (hb hby d2_36) rfl rfl rfl (lenOf pd2 rfl) (by show 2 * 0 + _ ≤ _; exact Nat.le_of_eq rfl) (by decide) (by decide) (by decide) (by decide) (by decide) ?_
 intro T92 v92 L92 X92 q92
 obtain ⟨r_92, rfl, M92, K92, fz92_r, f92_0⟩ := q92
 have N92 := Fr.app N0 M92
 have ne93 : a ≠ r_92 := Nat.ne_of_lt (Nat.lt_of_lt_of_le lt_a fz92_r)
 show Gg T92 m 39 [(.ref r_92)]
 refine go_st (fun _ kq => XS.astore X92.here hx rfl (hb hby d2_39) rfl rfl (l' := #[.val (.ref a), .val (.ref b), .val (.int (0 : Int32)), .val (.int (3 : Int32)), .val .null, .val (.ref r_92)]) rfl kq) ?_
 show Gg T92 m 41 []
 refine go_st (fun _ kq => XS.aloadN X92.here hx rfl (hb hby d2_41) rfl rfl kq) ?_
 show Gg T92 m 42 [(.ref a)]
 refine go_st (fun _ kq => XS.aload X92.here hx rfl (hb hby d2_42) rfl rfl kq) ?_
 show Gg T92 m 44 [(.ref r_92), (.ref a)]
 refine go_st (fun _ kq => XS.iloadN X92.here hx rfl (hb hby d2_44) rfl kq) ?_
 show Gg T92 m 45 [(.int (3 : Int32)), (.ref r_92), (.ref a)]
 have z96 : n0 ≤ T92.heap.size := Nat.le_trans Z0 K92.1
 refine go_callS X92 hx hZ hml hown (wd hw 26 rfl) (wd hw 27 rfl) (wd hw 20 rfl) (wd hw 28 rfl) rfl (argsL := [(.ref r_92), (.int (3 : Int32))]) (rest := [(.ref a)]) (W := 1) (met_cfl3 l Z a0 hw r_92 (fun i => .int (own_c3 (own_by va) (own_by vb) (own_by vc) i)) T92.heap n0 z96 f92_0) (hb hby d2_45) rfl rfl rfl (lenOf pd3 rfl) (by show 2 * 0 + _ ≤ _; exact Nat.le_of_eq rfl) (by decide) (by decide) (by decide) (by decide) (by decide) ?_
 intro T95 v95 L95 X95 q95
 obtain ⟨rfl, M95, e95⟩ := q95
 have N95 := Fr.app N92 M95
 show Gg T95 m 48 [(.int (0 : Int32)), (.ref a)]
 have c97 := Fld.keep P2 K92 nin0
 have c98 := Exa.keep P0 K92
 refine go_putF X95 hx hZ hown (host := "") (Or.inl (wd hw 29 rfl)) Via.refl e95 c97 c98 (Or.inr ⟨(wd hw 30 rfl), rfl, hnm⟩) (wd hw 5 rfl) (ty := .byte) (by decide) (by decide +kernel) (by decide +kernel) (hb hby d2_48) rfl rfl ?_
 intro T99 h99 X99 e99 W99
 have N99 := Fr.snoc X99 N95 P3
 have F99 : Fld Z h99 a "java/lang/String" "coder" "B" (.int (0 : Int32)) := Fld.same W99 c97
 show Gg T99 m 51 []
 refine go_st (fun _ kq => XS.aloadN X99.here hx rfl (hb hby d2_51) rfl rfl kq) ?_
 show Gg T99 m 52 [(.ref a)]
 refine go_st (fun _ kq => XS.aload X99.here hx rfl (hb hby d2_52) rfl rfl kq) ?_
 show Gg T99 m 54 [(.ref r_92), (.ref a)]
 have c100 := Fld.keep P1 K92 nin0
 have c101 := Fld.other W99 c100 (Or.inr (slot_ne (a0 := a0) (t := (.array .byte)) (t' := .byte) (Or.inr (wd hw 32 rfl)) (Or.inr (wd hw 30 rfl)) (by decide) (by decide) (by decide)))
 have c102 := Exa.wr W99 c98
 refine go_putF X99 hx hZ hown (host := "") (Or.inl (wd hw 31 rfl)) Via.refl e99 c101 c102 (Or.inr ⟨(wd hw 32 rfl), rfl, hnm⟩) (wd hw 5 rfl) (ty := (.array .byte)) (by decide) rfl rfl (hb hby d2_54) rfl rfl ?_
 intro T103 h103 X103 e103 W103
 have N103 := Fr.snoc X103 N99 P3
 have F103 : Fld Z h103 a "java/lang/String" "value" "[B" (.ref r_92) := Fld.same W103 c101
 show Gg T103 m 57 []
 have c104 := Exa.wr W103 c102
 have c105 := Fld.other W103 F99 (Or.inr (slot_ne (a0 := a0) (t := .byte) (t' := (.array .byte)) (Or.inr (wd hw 30 rfl)) (Or.inr (wd hw 32 rfl)) (by decide) (by decide) (by decide)))
 have c106 := f92_0.other W99 (Ne.symm ne93)
 have c107 := c106.other W103 (Ne.symm ne93)
 exact go_ret0 X103 hx hlk hret (hb hby d2_57) (by decide) (by decide) (by rw [e103]; exact ⟨r_92, rfl, N103, (Keep.wr (Keep.wr (Keep.trans (Keep.refl h0 [a]) K92 all0) W99 (Or.inl (by simp))) W103 (Or.inl (by simp))), (Nat.le_trans (Nat.le_refl _) fz92_r), c104, F103, c105, c107⟩)
def Q_s3 (Z : State) (a : Addr) (b : Addr) (va : Int32) (vb : Int32) (vc : Int32) (zc : Int32) (h0 : Heap) (n0 : Nat) (v : Option Value) (h : Heap) (L : List Loc) : Prop := ∃ r : Addr, v = none ∧ Fr n0 L ∧ Keep h0 h [a] ∧ h0.size ≤ r ∧ Exa Z h a "java/lang/String" ∧ Fld Z h a "java/lang/String" "value" "[B" (.ref r) ∧ Fld Z h a "java/lang/String" "coder" "B" (.int (0 : Int32)) ∧ GA Z h r .byte 3 (fun i => .int (own_c3 (own_by va) (own_by vb) (own_by vc) i))
theorem ef_s3 (m : MethodId) (a : Addr) (b : Addr) (va : Int32) (vb : Int32) (vc : Int32) (zc : Int32) : entryFrame m #[(.ref a), (.ref b)] 2 = mkF m 0 #[.val (.ref a), .val (.ref b)] [] := by first | (simp [entryFrame, mkF, argsToLocals, Value.category]; done) | rfl
abbrev rm_s3 : Room := ({ frames := 3, cells := 1, slots := 3, locals := 52 } : Room)
set_option maxRecDepth 65536 in
set_option maxHeartbeats 4000000 in
theorem met_s3 (l : Launch) (Z : State) (a0 : Array Value) (hw : ∀ d ∈ tables_1, d.before a0 Z = true) (a : Addr) (b : Addr) (va : Int32) (vb : Int32) (vc : Int32) (zc : Int32) (h0 : Heap) (n0 : Nat) (Z0 : n0 ≤ h0.size) (P0 : Exa Z h0 a "java/lang/String") (P1 : Fld Z h0 a "java/lang/String" "value" "[B" .null) (P2 : Fld Z h0 a "java/lang/String" "coder" "B" (.int (0 : Int32))) (P3 : n0 ≤ a) (P4 : GA Z h0 b .char 3 (fun i => .int (own_c3 va vb vc i))) (P5 : a ≠ b) (P6 : Lat va) (P7 : Lat vb) (P8 : Lat vc) (P9 : Old Z n0 h0) (P10 : Sta Z Z.heap "java/lang/String" "COMPACT_STRINGS" "Z" (.int zc)) (P11 : ¬ (zc = (0 : Int32))) :
  Met l (⟨"java/lang/String", "<init>", "([C)V"⟩ : MethodName) jdk_42_method_3_code 2 none [] rm_s3 Z #[(.ref a), (.ref b)] h0 (Q_s3 Z a b va vb vc zc h0 n0) rm_s3.cells rm_s3.slots := by
 refine own_body pn4 ?_
 intro p e s m below meth c s₁ ct X0 e0
 obtain ⟨hx, hZ, hown, hby, hml, hret, hlk, hnm⟩ := ct
 have N0 := Fr.nil n0
 refine castGo (ef_s3 m a b va vb vc zc) ?_
 show Gg s₁ m 0 []
 refine go_st (fun _ kq => XS.aloadN X0.here hx rfl (hb hby d1_0) rfl rfl kq) ?_
 show Gg s₁ m 1 [(.ref a)]
 refine go_st (fun _ kq => XS.aloadN X0.here hx rfl (hb hby d1_1) rfl rfl kq) ?_
 show Gg s₁ m 2 [(.ref b), (.ref a)]
 refine go_st (fun _ kq => XT.iconstV X0.here hx rfl (0 : Int32) (hb hby d1_2) (by decide) kq) ?_
 show Gg s₁ m 3 [(.int (0 : Int32)), (.ref b), (.ref a)]
 refine go_st (fun _ kq => XS.aloadN X0.here hx rfl (hb hby d1_3) rfl rfl kq) ?_
 show Gg s₁ m 4 [(.ref b), (.int (0 : Int32)), (.ref b), (.ref a)]
 refine go_alen X0 hx hZ e0 P4 (hb hby d1_4) rfl rfl (3 : Int32) (by decide) ?_
 show Gg s₁ m 5 [(.int (3 : Int32)), (.int (0 : Int32)), (.ref b), (.ref a)]
 refine go_st (fun _ kq => XS.aconstNull X0.here hx rfl (hb hby d1_5) kq) ?_
 show Gg s₁ m 6 [.null, (.int (3 : Int32)), (.int (0 : Int32)), (.ref b), (.ref a)]
 refine go_callI X0 hx hZ hml hown rfl (wd hw 10 rfl) (wd hw 11 rfl) (wd hw 13 rfl) (wd hw 6 rfl) e0 (argsL := [(.ref b), (.int (0 : Int32)), (.int (3 : Int32)), .null]) (rest := []) (W := 0) (met_si3 l Z a0 hw a b va vb vc zc h0 n0 Z0 P0 P1 P2 P3 P4 P5 P6 P7 P8 P9 P10 P11) (hb hby d1_6) rfl rfl rfl (lenOf pd1 rfl) (by show 2 * 0 + _ ≤ _; exact Nat.le_of_eq rfl) (by decide) (by decide) (by decide) (by decide) (by decide) ?_
 intro T108 v108 L108 X108 q108
 obtain ⟨r_108, rfl, M108, K108, fz108_r, f108_0, f108_1, f108_2, f108_3⟩ := q108
 have N108 := Fr.app N0 M108
 show Gg T108 m 9 []
 exact go_ret0 X108 hx hlk hret (hb hby d1_9) (by decide) (by decide) ⟨r_108, rfl, N108, (Keep.trans (Keep.refl h0 [a]) K108 (allS (Or.inl (by simp)) all0)), (Nat.le_trans (Nat.le_refl _) fz108_r), f108_0, f108_1, f108_2, f108_3⟩
theorem d10_0 : decode jdk_42_method_152_code 0 = .ok (.getstatic 38, 3) := by decide +kernel
theorem d10_3 : decode jdk_42_method_152_code 3 = .ok (.ifCond .eq 10, 3) := by decide +kernel
theorem d10_6 : decode jdk_42_method_152_code 6 = .ok (.aload_n 0, 1) := by decide +kernel
theorem d10_7 : decode jdk_42_method_152_code 7 = .ok (.getfield 15, 3) := by decide +kernel
theorem d10_10 : decode jdk_42_method_152_code 10 = .ok (.goto 4, 3) := by decide +kernel
theorem d10_13 : decode jdk_42_method_152_code 13 = .ok (.iconst 1, 1) := by decide +kernel
theorem d10_14 : decode jdk_42_method_152_code 14 = .ok (.ireturn, 1) := by decide +kernel
theorem pn5 : plainFor (⟨"java/lang/String", "coder", "()B"⟩ : MethodName) = true := by first | (refine plainFor_of_name ?_; simp [plainName, overriddenIn]; done) | (refine plainFor_of_name ?_; decide +kernel) | decide +kernel
def fCoder  : Int32 := (0 : Int32)
theorem ef_10 (m : MethodId) (a : Addr) (zc : Int32) : entryFrame m #[(.ref a)] 1 = mkF m 0 #[.val (.ref a)] [] := by first | (simp [entryFrame, mkF, argsToLocals, Value.category]; done) | rfl
abbrev rm_10 : Room := ({ frames := 0, cells := 0, slots := 0, locals := 0 } : Room)
set_option maxRecDepth 65536 in
set_option maxHeartbeats 4000000 in
theorem met_10 (l : Launch) (Z : State) (a0 : Array Value) (hw : ∀ d ∈ tables_1, d.before a0 Z = true) (a : Addr) (zc : Int32) (h0 : Heap) (n0 : Nat) (Z0 : n0 ≤ h0.size) (P0 : Fld Z h0 a "java/lang/String" "coder" "B" (.int (0 : Int32))) (P1 : Old Z n0 h0) (P2 : Sta Z Z.heap "java/lang/String" "COMPACT_STRINGS" "Z" (.int zc)) (P3 : ¬ (zc = (0 : Int32))) :
  Met l (⟨"java/lang/String", "coder", "()B"⟩ : MethodName) jdk_42_method_152_code 1 (some FieldType.byte) [] rm_10 Z #[(.ref a)] h0 (QV (some (.int (fCoder ))) h0 n0) 0 0 := by
 refine own_body pn5 ?_
 intro p e s m below meth c s₁ ct X0 e0
 obtain ⟨hx, hZ, hown, hby, hml, hret, hlk, hnm⟩ := ct
 have N0 := Fr.nil n0
 refine castGo (ef_10 m a zc) ?_
 unfold fCoder
 show Gg s₁ m 0 []
 refine go_getS X0 hx hZ hown (host := "") (Or.inl (wd hw 17 rfl)) Via.refl e0 (Sta.ext P1.2 P2) (hb hby d10_0) rfl ?_
 intro T111 X111 e111
 show Gg T111 m 3 [(.int zc)]
 refine go_st (fun _ kq => XS.ifNo X111.here hx rfl (hb hby d10_3) rfl (XT.i0_eq_f P3) kq) ?_
 show Gg T111 m 6 []
 refine go_st (fun _ kq => XS.aloadN X111.here hx rfl (hb hby d10_6) rfl rfl kq) ?_
 show Gg T111 m 7 [(.ref a)]
 refine go_getF X111 hx hZ hown (host := "") (Or.inl (wd hw 29 rfl)) Via.refl e111 P0 (hb hby d10_7) rfl rfl ?_
 intro T112 X112 e112
 show Gg T112 m 10 [(.int (0 : Int32))]
 refine go_st (fun _ kq => XS.goto X112.here hx rfl (pc0 := 10) (pc' := 14) rfl (hb hby d10_10) (by decide) (by decide) kq) ?_
 show Gg T112 m 14 [(.int (0 : Int32))]
 exact go_retN (t := .byte) (w := (0 : Int32)) X112 hx hlk hret (by simp) (hb hby d10_14) (by decide +kernel) (by decide) (by decide) ⟨rfl, N0, e112⟩
theorem d9_0 : decode jdk_42_method_54_code 0 = .ok (.aload_n 0, 1) := by decide +kernel
theorem d9_1 : decode jdk_42_method_54_code 1 = .ok (.getfield 9, 3) := by decide +kernel
theorem d9_4 : decode jdk_42_method_54_code 4 = .ok (.arraylength, 1) := by decide +kernel
theorem d9_5 : decode jdk_42_method_54_code 5 = .ok (.aload_n 0, 1) := by decide +kernel
theorem d9_6 : decode jdk_42_method_54_code 6 = .ok (.invokevirtual 335, 3) := by decide +kernel
theorem d9_9 : decode jdk_42_method_54_code 9 = .ok (.ishr, 1) := by decide +kernel
theorem d9_10 : decode jdk_42_method_54_code 10 = .ok (.ireturn, 1) := by decide +kernel
theorem pn6 : plainFor (⟨"java/lang/String", "length", "()I"⟩ : MethodName) = true := by first | (refine plainFor_of_name ?_; simp [plainName, overriddenIn]; done) | (refine plainFor_of_name ?_; decide +kernel) | decide +kernel
theorem pd4 : parseMethodDescriptor "()B" = some ⟨[], (some .byte)⟩ := by decide +kernel
def fLen0  : Int32 := (0 : Int32)
theorem ef_len0 (m : MethodId) (a : Addr) (b : Addr) (fq : Nat → Value) (zc : Int32) : entryFrame m #[(.ref a)] 1 = mkF m 0 #[.val (.ref a)] [] := by first | (simp [entryFrame, mkF, argsToLocals, Value.category]; done) | rfl
abbrev rm_len0 : Room := ({ frames := 1, cells := 0, slots := 0, locals := 13 } : Room)
set_option maxRecDepth 65536 in
set_option maxHeartbeats 4000000 in
theorem met_len0 (l : Launch) (Z : State) (a0 : Array Value) (hw : ∀ d ∈ tables_1, d.before a0 Z = true) (a : Addr) (b : Addr) (fq : Nat → Value) (zc : Int32) (h0 : Heap) (n0 : Nat) (Z0 : n0 ≤ h0.size) (P0 : Exa Z h0 a "java/lang/String") (P1 : Fld Z h0 a "java/lang/String" "value" "[B" (.ref b)) (P2 : Fld Z h0 a "java/lang/String" "coder" "B" (.int (0 : Int32))) (P3 : GA Z h0 b .byte 0 fq) (P4 : Old Z n0 h0) (P5 : Sta Z Z.heap "java/lang/String" "COMPACT_STRINGS" "Z" (.int zc)) (P6 : ¬ (zc = (0 : Int32))) :
  Met l (⟨"java/lang/String", "length", "()I"⟩ : MethodName) jdk_42_method_54_code 1 (some FieldType.int) [] rm_len0 Z #[(.ref a)] h0 (QV (some (.int (fLen0 ))) h0 n0) 0 0 := by
 refine own_body pn6 ?_
 intro p e s m below meth c s₁ ct X0 e0
 obtain ⟨hx, hZ, hown, hby, hml, hret, hlk, hnm⟩ := ct
 have N0 := Fr.nil n0
 refine castGo (ef_len0 m a b fq zc) ?_
 unfold fLen0
 show Gg s₁ m 0 []
 refine go_st (fun _ kq => XS.aloadN X0.here hx rfl (hb hby d9_0) rfl rfl kq) ?_
 show Gg s₁ m 1 [(.ref a)]
 refine go_getF X0 hx hZ hown (host := "") (Or.inl (wd hw 31 rfl)) Via.refl e0 P1 (hb hby d9_1) rfl rfl ?_
 intro T113 X113 e113
 show Gg T113 m 4 [(.ref b)]
 refine go_alen X113 hx hZ e113 P3 (hb hby d9_4) rfl rfl (0 : Int32) (by decide) ?_
 show Gg T113 m 5 [(.int (0 : Int32))]
 refine go_st (fun _ kq => XS.aloadN X113.here hx rfl (hb hby d9_5) rfl rfl kq) ?_
 show Gg T113 m 6 [(.ref a), (.int (0 : Int32))]
 refine go_callV X113 hx hZ hml hown (wd hw 51 rfl) (wd hw 52 rfl) (notFace_of_selects (args := #[]) (mvT hZ (wd hw 54 rfl))) (wd hw 54 rfl) (wd hw 53 rfl) (wd hw 55 rfl) (wd hw 6 rfl) e113 P0 (argsL := []) (rest := [(.int (0 : Int32))]) (W := 1) (met_10 l Z a0 hw a zc h0 n0 Z0 P2 P4 P5 P6) (hb hby d9_6) rfl rfl rfl (lenOf pd4 rfl) (by show 2 * 0 + _ ≤ _; exact Nat.le_of_eq rfl) (by decide) (by decide) (by decide) (by decide) (by decide) ?_
 intro T114 v114 L114 X114 q114
 obtain ⟨rfl, M114, e114⟩ := q114
 have N114 := Fr.app N0 M114
 show Gg T114 m 9 [(.int (0 : Int32)), (.int (0 : Int32))]
 refine go_st (fun _ kq => XT.ishr X114.here hx rfl (hb hby d9_9) rfl kq) ?_
 rw [show ((0 : Int32) >>> ((0 : Int32) &&& 31)) = (0 : Int32) from by decide +kernel]
 show Gg T114 m 10 [(.int (0 : Int32))]
 exact go_retI X114 hx hlk hret (hb hby d9_10) (by decide) (by decide) ⟨rfl, N114, e114⟩
def fLen1  : Int32 := (1 : Int32)
theorem ef_len1 (m : MethodId) (a : Addr) (b : Addr) (fq : Nat → Value) (zc : Int32) : entryFrame m #[(.ref a)] 1 = mkF m 0 #[.val (.ref a)] [] := by first | (simp [entryFrame, mkF, argsToLocals, Value.category]; done) | rfl
abbrev rm_len1 : Room := ({ frames := 1, cells := 0, slots := 0, locals := 13 } : Room)
set_option maxRecDepth 65536 in
set_option maxHeartbeats 4000000 in
theorem met_len1 (l : Launch) (Z : State) (a0 : Array Value) (hw : ∀ d ∈ tables_1, d.before a0 Z = true) (a : Addr) (b : Addr) (fq : Nat → Value) (zc : Int32) (h0 : Heap) (n0 : Nat) (Z0 : n0 ≤ h0.size) (P0 : Exa Z h0 a "java/lang/String") (P1 : Fld Z h0 a "java/lang/String" "value" "[B" (.ref b)) (P2 : Fld Z h0 a "java/lang/String" "coder" "B" (.int (0 : Int32))) (P3 : GA Z h0 b .byte 1 fq) (P4 : Old Z n0 h0) (P5 : Sta Z Z.heap "java/lang/String" "COMPACT_STRINGS" "Z" (.int zc)) (P6 : ¬ (zc = (0 : Int32))) :
  Met l (⟨"java/lang/String", "length", "()I"⟩ : MethodName) jdk_42_method_54_code 1 (some FieldType.int) [] rm_len1 Z #[(.ref a)] h0 (QV (some (.int (fLen1 ))) h0 n0) 0 0 := by
 refine own_body pn6 ?_
 intro p e s m below meth c s₁ ct X0 e0
 obtain ⟨hx, hZ, hown, hby, hml, hret, hlk, hnm⟩ := ct
 have N0 := Fr.nil n0
 refine castGo (ef_len1 m a b fq zc) ?_
 unfold fLen1
 show Gg s₁ m 0 []
 refine go_st (fun _ kq => XS.aloadN X0.here hx rfl (hb hby d9_0) rfl rfl kq) ?_
 show Gg s₁ m 1 [(.ref a)]
 refine go_getF X0 hx hZ hown (host := "") (Or.inl (wd hw 31 rfl)) Via.refl e0 P1 (hb hby d9_1) rfl rfl ?_
 intro T115 X115 e115
 show Gg T115 m 4 [(.ref b)]
 refine go_alen X115 hx hZ e115 P3 (hb hby d9_4) rfl rfl (1 : Int32) (by decide) ?_
 show Gg T115 m 5 [(.int (1 : Int32))]
 refine go_st (fun _ kq => XS.aloadN X115.here hx rfl (hb hby d9_5) rfl rfl kq) ?_
 show Gg T115 m 6 [(.ref a), (.int (1 : Int32))]
 refine go_callV X115 hx hZ hml hown (wd hw 51 rfl) (wd hw 52 rfl) (notFace_of_selects (args := #[]) (mvT hZ (wd hw 54 rfl))) (wd hw 54 rfl) (wd hw 53 rfl) (wd hw 55 rfl) (wd hw 6 rfl) e115 P0 (argsL := []) (rest := [(.int (1 : Int32))]) (W := 1) (met_10 l Z a0 hw a zc h0 n0 Z0 P2 P4 P5 P6) (hb hby d9_6) rfl rfl rfl (lenOf pd4 rfl) (by show 2 * 0 + _ ≤ _; exact Nat.le_of_eq rfl) (by decide) (by decide) (by decide) (by decide) (by decide) ?_
 intro T116 v116 L116 X116 q116
 obtain ⟨rfl, M116, e116⟩ := q116
 have N116 := Fr.app N0 M116
 show Gg T116 m 9 [(.int (0 : Int32)), (.int (1 : Int32))]
 refine go_st (fun _ kq => XT.ishr X116.here hx rfl (hb hby d9_9) rfl kq) ?_
 rw [show ((1 : Int32) >>> ((0 : Int32) &&& 31)) = (1 : Int32) from by decide +kernel]
 show Gg T116 m 10 [(.int (1 : Int32))]
 exact go_retI X116 hx hlk hret (hb hby d9_10) (by decide) (by decide) ⟨rfl, N116, e116⟩
def fLen2  : Int32 := (2 : Int32)
theorem ef_len2 (m : MethodId) (a : Addr) (b : Addr) (fq : Nat → Value) (zc : Int32) : entryFrame m #[(.ref a)] 1 = mkF m 0 #[.val (.ref a)] [] := by first | (simp [entryFrame, mkF, argsToLocals, Value.category]; done) | rfl
abbrev rm_len2 : Room := ({ frames := 1, cells := 0, slots := 0, locals := 13 } : Room)
set_option maxRecDepth 65536 in
set_option maxHeartbeats 4000000 in
theorem met_len2 (l : Launch) (Z : State) (a0 : Array Value) (hw : ∀ d ∈ tables_1, d.before a0 Z = true) (a : Addr) (b : Addr) (fq : Nat → Value) (zc : Int32) (h0 : Heap) (n0 : Nat) (Z0 : n0 ≤ h0.size) (P0 : Exa Z h0 a "java/lang/String") (P1 : Fld Z h0 a "java/lang/String" "value" "[B" (.ref b)) (P2 : Fld Z h0 a "java/lang/String" "coder" "B" (.int (0 : Int32))) (P3 : GA Z h0 b .byte 2 fq) (P4 : Old Z n0 h0) (P5 : Sta Z Z.heap "java/lang/String" "COMPACT_STRINGS" "Z" (.int zc)) (P6 : ¬ (zc = (0 : Int32))) :
  Met l (⟨"java/lang/String", "length", "()I"⟩ : MethodName) jdk_42_method_54_code 1 (some FieldType.int) [] rm_len2 Z #[(.ref a)] h0 (QV (some (.int (fLen2 ))) h0 n0) 0 0 := by
 refine own_body pn6 ?_
 intro p e s m below meth c s₁ ct X0 e0
 obtain ⟨hx, hZ, hown, hby, hml, hret, hlk, hnm⟩ := ct
 have N0 := Fr.nil n0
 refine castGo (ef_len2 m a b fq zc) ?_
 unfold fLen2
 show Gg s₁ m 0 []
 refine go_st (fun _ kq => XS.aloadN X0.here hx rfl (hb hby d9_0) rfl rfl kq) ?_
 show Gg s₁ m 1 [(.ref a)]
 refine go_getF X0 hx hZ hown (host := "") (Or.inl (wd hw 31 rfl)) Via.refl e0 P1 (hb hby d9_1) rfl rfl ?_
 intro T117 X117 e117
 show Gg T117 m 4 [(.ref b)]
 refine go_alen X117 hx hZ e117 P3 (hb hby d9_4) rfl rfl (2 : Int32) (by decide) ?_
 show Gg T117 m 5 [(.int (2 : Int32))]
 refine go_st (fun _ kq => XS.aloadN X117.here hx rfl (hb hby d9_5) rfl rfl kq) ?_
 show Gg T117 m 6 [(.ref a), (.int (2 : Int32))]
 refine go_callV X117 hx hZ hml hown (wd hw 51 rfl) (wd hw 52 rfl) (notFace_of_selects (args := #[]) (mvT hZ (wd hw 54 rfl))) (wd hw 54 rfl) (wd hw 53 rfl) (wd hw 55 rfl) (wd hw 6 rfl) e117 P0 (argsL := []) (rest := [(.int (2 : Int32))]) (W := 1) (met_10 l Z a0 hw a zc h0 n0 Z0 P2 P4 P5 P6) (hb hby d9_6) rfl rfl rfl (lenOf pd4 rfl) (by show 2 * 0 + _ ≤ _; exact Nat.le_of_eq rfl) (by decide) (by decide) (by decide) (by decide) (by decide) ?_
 intro T118 v118 L118 X118 q118
 obtain ⟨rfl, M118, e118⟩ := q118
 have N118 := Fr.app N0 M118
 show Gg T118 m 9 [(.int (0 : Int32)), (.int (2 : Int32))]
 refine go_st (fun _ kq => XT.ishr X118.here hx rfl (hb hby d9_9) rfl kq) ?_
 rw [show ((2 : Int32) >>> ((0 : Int32) &&& 31)) = (2 : Int32) from by decide +kernel]
 show Gg T118 m 10 [(.int (2 : Int32))]
 exact go_retI X118 hx hlk hret (hb hby d9_10) (by decide) (by decide) ⟨rfl, N118, e118⟩
def fLen3  : Int32 := (3 : Int32)
theorem ef_len3 (m : MethodId) (a : Addr) (b : Addr) (fq : Nat → Value) (zc : Int32) : entryFrame m #[(.ref a)] 1 = mkF m 0 #[.val (.ref a)] [] := by first | (simp [entryFrame, mkF, argsToLocals, Value.category]; done) | rfl
abbrev rm_len3 : Room := ({ frames := 1, cells := 0, slots := 0, locals := 13 } : Room)
set_option maxRecDepth 65536 in
set_option maxHeartbeats 4000000 in
theorem met_len3 (l : Launch) (Z : State) (a0 : Array Value) (hw : ∀ d ∈ tables_1, d.before a0 Z = true) (a : Addr) (b : Addr) (fq : Nat → Value) (zc : Int32) (h0 : Heap) (n0 : Nat) (Z0 : n0 ≤ h0.size) (P0 : Exa Z h0 a "java/lang/String") (P1 : Fld Z h0 a "java/lang/String" "value" "[B" (.ref b)) (P2 : Fld Z h0 a "java/lang/String" "coder" "B" (.int (0 : Int32))) (P3 : GA Z h0 b .byte 3 fq) (P4 : Old Z n0 h0) (P5 : Sta Z Z.heap "java/lang/String" "COMPACT_STRINGS" "Z" (.int zc)) (P6 : ¬ (zc = (0 : Int32))) :
  Met l (⟨"java/lang/String", "length", "()I"⟩ : MethodName) jdk_42_method_54_code 1 (some FieldType.int) [] rm_len3 Z #[(.ref a)] h0 (QV (some (.int (fLen3 ))) h0 n0) 0 0 := by
 refine own_body pn6 ?_
 intro p e s m below meth c s₁ ct X0 e0
 obtain ⟨hx, hZ, hown, hby, hml, hret, hlk, hnm⟩ := ct
 have N0 := Fr.nil n0
 refine castGo (ef_len3 m a b fq zc) ?_
 unfold fLen3
 show Gg s₁ m 0 []
 refine go_st (fun _ kq => XS.aloadN X0.here hx rfl (hb hby d9_0) rfl rfl kq) ?_
 show Gg s₁ m 1 [(.ref a)]
 refine go_getF X0 hx hZ hown (host := "") (Or.inl (wd hw 31 rfl)) Via.refl e0 P1 (hb hby d9_1) rfl rfl ?_
 intro T119 X119 e119
 show Gg T119 m 4 [(.ref b)]
 refine go_alen X119 hx hZ e119 P3 (hb hby d9_4) rfl rfl (3 : Int32) (by decide) ?_
 show Gg T119 m 5 [(.int (3 : Int32))]
 refine go_st (fun _ kq => XS.aloadN X119.here hx rfl (hb hby d9_5) rfl rfl kq) ?_
 show Gg T119 m 6 [(.ref a), (.int (3 : Int32))]
 refine go_callV X119 hx hZ hml hown (wd hw 51 rfl) (wd hw 52 rfl) (notFace_of_selects (args := #[]) (mvT hZ (wd hw 54 rfl))) (wd hw 54 rfl) (wd hw 53 rfl) (wd hw 55 rfl) (wd hw 6 rfl) e119 P0 (argsL := []) (rest := [(.int (3 : Int32))]) (W := 1) (met_10 l Z a0 hw a zc h0 n0 Z0 P2 P4 P5 P6) (hb hby d9_6) rfl rfl rfl (lenOf pd4 rfl) (by show 2 * 0 + _ ≤ _; exact Nat.le_of_eq rfl) (by decide) (by decide) (by decide) (by decide) (by decide) ?_
 intro T120 v120 L120 X120 q120
 obtain ⟨rfl, M120, e120⟩ := q120
 have N120 := Fr.app N0 M120
 show Gg T120 m 9 [(.int (0 : Int32)), (.int (3 : Int32))]
 refine go_st (fun _ kq => XT.ishr X120.here hx rfl (hb hby d9_9) rfl kq) ?_
 rw [show ((3 : Int32) >>> ((0 : Int32) &&& 31)) = (3 : Int32) from by decide +kernel]
 show Gg T120 m 10 [(.int (3 : Int32))]
 exact go_retI X120 hx hlk hret (hb hby d9_10) (by decide) (by decide) ⟨rfl, N120, e120⟩
theorem d7_0 : decode prog_21_method_1_code 0 = .ok (.aload_n 0, 1) := by decide +kernel
theorem d7_1 : decode prog_21_method_1_code 1 = .ok (.invokespecial 1, 3) := by decide +kernel
theorem d7_4 : decode prog_21_method_1_code 4 = .ok (.aload_n 0, 1) := by decide +kernel
theorem d7_5 : decode prog_21_method_1_code 5 = .ok (.aload_n 1, 1) := by decide +kernel
theorem d7_6 : decode prog_21_method_1_code 6 = .ok (.putfield 7, 3) := by decide +kernel
theorem d7_9 : decode prog_21_method_1_code 9 = .ok (.return_, 1) := by decide +kernel
theorem pn7 : plainFor (⟨"com/example/wirecall/wirecall/TextCursor", "<init>", "(Ljava/lang/String;)V"⟩ : MethodName) = true := by first | (refine plainFor_of_name ?_; simp [plainName, overriddenIn]; done) | (refine plainFor_of_name ?_; decide +kernel) | decide +kernel
def Q_tci (Z : State) (a : Addr) (t : Addr) (h0 : Heap) (n0 : Nat) (v : Option Value) (h : Heap) (L : List Loc) : Prop := v = none ∧ Fr n0 L ∧ Keep h0 h [a] ∧ Fld Z h a "com/example/wirecall/wirecall/TextCursor" "text" "Ljava/lang/String;" (.ref t) ∧ Fld Z h a "com/example/wirecall/wirecall/TextCursor" "pos" "I" (.int (0 : Int32))
theorem ef_tci (m : MethodId) (a : Addr) (t : Addr) : entryFrame m #[(.ref a), (.ref t)] 2 = mkF m 0 #[.val (.ref a), .val (.ref t)] [] := by first | (simp [entryFrame, mkF, argsToLocals, Value.category]; done) | rfl
abbrev rm_tci : Room := ({ frames := 1, cells := 0, slots := 0, locals := 12 } : Room)
set_option maxRecDepth 65536 in
set_option maxHeartbeats 4000000 in
theorem met_tci (l : Launch) (Z : State) (a0 : Array Value) (hw : ∀ d ∈ tables_1, d.before a0 Z = true) (a : Addr) (t : Addr) (h0 : Heap) (n0 : Nat) (Z0 : n0 ≤ h0.size) (P0 : Exa Z h0 a "com/example/wirecall/wirecall/TextCursor") (P1 : Fld Z h0 a "com/example/wirecall/wirecall/TextCursor" "text" "Ljava/lang/String;" .null) (P2 : Fld Z h0 a "com/example/wirecall/wirecall/TextCursor" "pos" "I" (.int (0 : Int32))) (P3 : n0 ≤ a) :
  Met l (⟨"com/example/wirecall/wirecall/TextCursor", "<init>", "(Ljava/lang/String;)V"⟩ : MethodName) prog_21_method_1_code 2 none [] rm_tci Z #[(.ref a), (.ref t)] h0 (Q_tci Z a t h0 n0) rm_tci.cells rm_tci.slots := by
 refine own_body pn7 ?_
 intro p e s m below meth c s₁ ct X0 e0
 obtain ⟨hx, hZ, hown, hby, hml, hret, hlk, hnm⟩ := ct
 have N0 := Fr.nil n0
 refine castGo (ef_tci m a t) ?_
 show Gg s₁ m 0 []
 refine go_st (fun _ kq => XS.aloadN X0.here hx rfl (hb hby d7_0) rfl rfl kq) ?_
 show Gg s₁ m 1 [(.ref a)]
 refine go_initO X0 hx hZ hml hown (wd hw 36 rfl) (wd hw 15 rfl) (wd hw 16 rfl) e0 (hb hby d7_1) rfl rfl rfl (by decide) (W := 0) (by show 2 * 0 + _ ≤ _; exact Nat.le_of_eq rfl) (by decide) ?_
 intro T121 X121 e121
 show Gg T121 m 4 []
 refine go_st (fun _ kq => XS.aloadN X121.here hx rfl (hb hby d7_4) rfl rfl kq) ?_
 show Gg T121 m 5 [(.ref a)]
 refine go_st (fun _ kq => XS.aloadN X121.here hx rfl (hb hby d7_5) rfl rfl kq) ?_
 show Gg T121 m 6 [(.ref t), (.ref a)]
 refine go_putF X121 hx hZ hown (host := "") (Or.inl (wd hw 37 rfl)) Via.refl e121 P1 P0 (Or.inr ⟨(wd hw 38 rfl), rfl, hnm⟩) (wd hw 2 rfl) (ty := (.object "java/lang/String")) (by decide) rfl rfl (hb hby d7_6) rfl rfl ?_
 intro T122 h122 X122 e122 W122
 have N122 := Fr.snoc X122 N0 P3
 have F122 : Fld Z h122 a "com/example/wirecall/wirecall/TextCursor" "text" "Ljava/lang/String;" (.ref t) := Fld.same W122 P1
 show Gg T122 m 9 []
 have c123 := Fld.other W122 P2 (Or.inr (slot_ne (a0 := a0) (t := .int) (t' := (.object "java/lang/String")) (Or.inl (wd hw 45 rfl)) (Or.inr (wd hw 38 rfl)) (by decide) (by decide) (by decide)))
 exact go_ret0 X122 hx hlk hret (hb hby d7_9) (by decide) (by decide) (by rw [e122]; exact ⟨rfl, N122, (Keep.wr (Keep.refl h0 [a]) W122 (Or.inl (by simp))), F122, c123⟩)
theorem d16_0 : decode prog_21_method_2_code 0 = .ok (.aload_n 0, 1) := by decide +kernel
theorem d16_1 : decode prog_21_method_2_code 1 = .ok (.getfield 13, 3) := by decide +kernel
theorem d16_4 : decode prog_21_method_2_code 4 = .ok (.ireturn, 1) := by decide +kernel
theorem pn8 : plainFor (⟨"com/example/wirecall/wirecall/TextCursor", "offset", "()I"⟩ : MethodName) = true := by first | (refine plainFor_of_name ?_; simp [plainName, overriddenIn]; done) | (refine plainFor_of_name ?_; decide +kernel) | decide +kernel
def fOff (q : Int32) : Int32 := q
theorem ef_16 (m : MethodId) (a : Addr) (q : Int32) : entryFrame m #[(.ref a)] 1 = mkF m 0 #[.val (.ref a)] [] := by first | (simp [entryFrame, mkF, argsToLocals, Value.category]; done) | rfl
abbrev rm_16 : Room := ({ frames := 0, cells := 0, slots := 0, locals := 0 } : Room)
set_option maxRecDepth 65536 in
set_option maxHeartbeats 4000000 in
theorem met_16 (l : Launch) (Z : State) (a0 : Array Value) (hw : ∀ d ∈ tables_1, d.before a0 Z = true) (a : Addr) (q : Int32) (h0 : Heap) (n0 : Nat) (Z0 : n0 ≤ h0.size) (P0 : Fld Z h0 a "com/example/wirecall/wirecall/TextCursor" "pos" "I" (.int q)) :
  Met l (⟨"com/example/wirecall/wirecall/TextCursor", "offset", "()I"⟩ : MethodName) prog_21_method_2_code 1 (some FieldType.int) [] rm_16 Z #[(.ref a)] h0 (QV (some (.int (fOff q))) h0 n0) 0 0 := by
 refine own_body pn8 ?_
 intro p e s m below meth c s₁ ct X0 e0
 obtain ⟨hx, hZ, hown, hby, hml, hret, hlk, hnm⟩ := ct
 have N0 := Fr.nil n0
 refine castGo (ef_16 m a q) ?_
 unfold fOff
 show Gg s₁ m 0 []
 refine go_st (fun _ kq => XS.aloadN X0.here hx rfl (hb hby d16_0) rfl rfl kq) ?_
 show Gg s₁ m 1 [(.ref a)]
 refine go_getF X0 hx hZ hown (host := "") (Or.inl (wd hw 44 rfl)) Via.refl e0 P0 (hb hby d16_1) rfl rfl ?_
 intro T124 X124 e124
 show Gg T124 m 4 [(.int q)]
 exact go_retI X124 hx hlk hret (hb hby d16_4) (by decide) (by decide) ⟨rfl, N0, e124⟩
theorem d17_0 : decode prog_21_method_6_code 0 = .ok (.aload_n 0, 1) := by decide +kernel
theorem d17_1 : decode prog_21_method_6_code 1 = .ok (.dup, 1) := by decide +kernel
theorem d17_2 : decode prog_21_method_6_code 2 = .ok (.getfield 13, 3) := by decide +kernel
theorem d17_5 : decode prog_21_method_6_code 5 = .ok (.iconst 1, 1) := by decide +kernel
theorem d17_6 : decode prog_21_method_6_code 6 = .ok (.iadd, 1) := by decide +kernel
theorem d17_7 : decode prog_21_method_6_code 7 = .ok (.putfield 13, 3) := by decide +kernel
theorem d17_10 : decode prog_21_method_6_code 10 = .ok (.return_, 1) := by decide +kernel
theorem pn9 : plainFor (⟨"com/example/wirecall/wirecall/TextCursor", "skip", "()V"⟩ : MethodName) = true := by first | (refine plainFor_of_name ?_; simp [plainName, overriddenIn]; done) | (refine plainFor_of_name ?_; decide +kernel) | decide +kernel
def Q_sk0 (Z : State) (a : Addr) (t : Addr) (h0 : Heap) (n0 : Nat) (v : Option Value) (h : Heap) (L : List Loc) : Prop := v = none ∧ Fr n0 L ∧ Keep h0 h [a] ∧ Fld Z h a "com/example/wirecall/wirecall/TextCursor" "text" "Ljava/lang/String;" (.ref t) ∧ Fld Z h a "com/example/wirecall/wirecall/TextCursor" "pos" "I" (.int (1 : Int32))
theorem ef_sk0 (m : MethodId) (a : Addr) (t : Addr) : entryFrame m #[(.ref a)] 1 = mkF m 0 #[.val (.ref a)] [] := by first | (simp [entryFrame, mkF, argsToLocals, Value.category]; done) | rfl
abbrev rm_sk0 : Room := ({ frames := 0, cells := 0, slots := 0, locals := 0 } : Room)
set_option maxRecDepth 65536 in
set_option maxHeartbeats 4000000 in
theorem met_sk0 (l : Launch) (Z : State) (a0 : Array Value) (hw : ∀ d ∈ tables_1, d.before a0 Z = true) (a : Addr) (t : Addr) (h0 : Heap) (n0 : Nat) (Z0 : n0 ≤ h0.size) (P0 : Exa Z h0 a "com/example/wirecall/wirecall/TextCursor") (P1 : Fld Z h0 a "com/example/wirecall/wirecall/TextCursor" "text" "Ljava/lang/String;" (.ref t)) (P2 : Fld Z h0 a "com/example/wirecall/wirecall/TextCursor" "pos" "I" (.int (0 : Int32))) (P3 : n0 ≤ a) :
  Met l (⟨"com/example/wirecall/wirecall/TextCursor", "skip", "()V"⟩ : MethodName) prog_21_method_6_code 1 none [] rm_sk0 Z #[(.ref a)] h0 (Q_sk0 Z a t h0 n0) rm_sk0.cells rm_sk0.slots := by
 refine own_body pn9 ?_
 intro p e s m below meth c s₁ ct X0 e0
 obtain ⟨hx, hZ, hown, hby, hml, hret, hlk, hnm⟩ := ct
 have N0 := Fr.nil n0
 refine castGo (ef_sk0 m a t) ?_
 show Gg s₁ m 0 []
 refine go_st (fun _ kq => XS.aloadN X0.here hx rfl (hb hby d17_0) rfl rfl kq) ?_
 show Gg s₁ m 1 [(.ref a)]
 refine go_st (fun _ kq => XS.dup X0.here hx rfl (hb hby d17_1) rfl rfl kq) ?_
 show Gg s₁ m 2 [(.ref a), (.ref a)]
 refine go_getF X0 hx hZ hown (host := "") (Or.inl (wd hw 44 rfl)) Via.refl e0 P2 (hb hby d17_2) rfl rfl ?_
 intro T125 X125 e125
 show Gg T125 m 5 [(.int (0 : Int32)), (.ref a)]
 refine go_st (fun _ kq => XT.iconstV X125.here hx rfl (1 : Int32) (hb hby d17_5) (by decide) kq) ?_
 show Gg T125 m 6 [(.int (1 : Int32)), (.int (0 : Int32)), (.ref a)]
 refine go_st (fun _ kq => XS.iadd X125.here hx rfl (hb hby d17_6) rfl kq) ?_
 rw [show ((0 : Int32) + (1 : Int32)) = (1 : Int32) from by decide +kernel]
 show Gg T125 m 7 [(.int (1 : Int32)), (.ref a)]
 refine go_putF X125 hx hZ hown (host := "") (Or.inl (wd hw 44 rfl)) Via.refl e125 P2 P0 (Or.inl (wd hw 45 rfl)) (wd hw 2 rfl) (ty := .int) (by decide) rfl rfl (hb hby d17_7) rfl rfl ?_
 intro T126 h126 X126 e126 W126
 have N126 := Fr.snoc X126 N0 P3
 have F126 : Fld Z h126 a "com/example/wirecall/wirecall/TextCursor" "pos" "I" (.int (1 : Int32)) := Fld.same W126 P2
 show Gg T126 m 10 []
 have c127 := Fld.other W126 P1 (Or.inr (slot_ne (a0 := a0) (t := (.object "java/lang/String")) (t' := .int) (Or.inr (wd hw 38 rfl)) (Or.inl (wd hw 45 rfl)) (by decide) (by decide) (by decide)))
 exact go_ret0 X126 hx hlk hret (hb hby d17_10) (by decide) (by decide) (by rw [e126]; exact ⟨rfl, N126, (Keep.wr (Keep.refl h0 [a]) W126 (Or.inl (by simp))), c127, F126⟩)
def Q_sk1 (Z : State) (a : Addr) (t : Addr) (h0 : Heap) (n0 : Nat) (v : Option Value) (h : Heap) (L : List Loc) : Prop := v = none ∧ Fr n0 L ∧ Keep h0 h [a] ∧ Fld Z h a "com/example/wirecall/wirecall/TextCursor" "text" "Ljava/lang/String;" (.ref t) ∧ Fld Z h a "com/example/wirecall/wirecall/TextCursor" "pos" "I" (.int (2 : Int32))
theorem ef_sk1 (m : MethodId) (a : Addr) (t : Addr) : entryFrame m #[(.ref a)] 1 = mkF m 0 #[.val (.ref a)] [] := by first | (simp [entryFrame, mkF, argsToLocals, Value.category]; done) | rfl
abbrev rm_sk1 : Room := ({ frames := 0, cells := 0, slots := 0, locals := 0 } : Room)
set_option maxRecDepth 65536 in
set_option maxHeartbeats 4000000 in
theorem met_sk1 (l : Launch) (Z : State) (a0 : Array Value) (hw : ∀ d ∈ tables_1, d.before a0 Z = true) (a : Addr) (t : Addr) (h0 : Heap) (n0 : Nat) (Z0 : n0 ≤ h0.size) (P0 : Exa Z h0 a "com/example/wirecall/wirecall/TextCursor") (P1 : Fld Z h0 a "com/example/wirecall/wirecall/TextCursor" "text" "Ljava/lang/String;" (.ref t)) (P2 : Fld Z h0 a "com/example/wirecall/wirecall/TextCursor" "pos" "I" (.int (1 : Int32))) (P3 : n0 ≤ a) :
  Met l (⟨"com/example/wirecall/wirecall/TextCursor", "skip", "()V"⟩ : MethodName) prog_21_method_6_code 1 none [] rm_sk1 Z #[(.ref a)] h0 (Q_sk1 Z a t h0 n0) rm_sk1.cells rm_sk1.slots := by
 refine own_body pn9 ?_
 intro p e s m below meth c s₁ ct X0 e0
 obtain ⟨hx, hZ, hown, hby, hml, hret, hlk, hnm⟩ := ct
 have N0 := Fr.nil n0
 refine castGo (ef_sk1 m a t) ?_
 show Gg s₁ m 0 []
 refine go_st (fun _ kq => XS.aloadN X0.here hx rfl (hb hby d17_0) rfl rfl kq) ?_
 show Gg s₁ m 1 [(.ref a)]
 refine go_st (fun _ kq => XS.dup X0.here hx rfl (hb hby d17_1) rfl rfl kq) ?_
 show Gg s₁ m 2 [(.ref a), (.ref a)]
 refine go_getF X0 hx hZ hown (host := "") (Or.inl (wd hw 44 rfl)) Via.refl e0 P2 (hb hby d17_2) rfl rfl ?_
 intro T128 X128 e128
 show Gg T128 m 5 [(.int (1 : Int32)), (.ref a)]
 refine go_st (fun _ kq => XT.iconstV X128.here hx rfl (1 : Int32) (hb hby d17_5) (by decide) kq) ?_
 show Gg T128 m 6 [(.int (1 : Int32)), (.int (1 : Int32)), (.ref a)]
 refine go_st (fun _ kq => XS.iadd X128.here hx rfl (hb hby d17_6) rfl kq) ?_
 rw [show ((1 : Int32) + (1 : Int32)) = (2 : Int32) from by decide +kernel]
 show Gg T128 m 7 [(.int (2 : Int32)), (.ref a)]
 refine go_putF X128 hx hZ hown (host := "") (Or.inl (wd hw 44 rfl)) Via.refl e128 P2 P0 (Or.inl (wd hw 45 rfl)) (wd hw 2 rfl) (ty := .int) (by decide) rfl rfl (hb hby d17_7) rfl rfl ?_
 intro T129 h129 X129 e129 W129
 have N129 := Fr.snoc X129 N0 P3
 have F129 : Fld Z h129 a "com/example/wirecall/wirecall/TextCursor" "pos" "I" (.int (2 : Int32)) := Fld.same W129 P2
 show Gg T129 m 10 []
 have c130 := Fld.other W129 P1 (Or.inr (slot_ne (a0 := a0) (t := (.object "java/lang/String")) (t' := .int) (Or.inr (wd hw 38 rfl)) (Or.inl (wd hw 45 rfl)) (by decide) (by decide) (by decide)))
 exact go_ret0 X129 hx hlk hret (hb hby d17_10) (by decide) (by decide) (by rw [e129]; exact ⟨rfl, N129, (Keep.wr (Keep.refl h0 [a]) W129 (Or.inl (by simp))), c130, F129⟩)
def Q_sk2 (Z : State) (a : Addr) (t : Addr) (h0 : Heap) (n0 : Nat) (v : Option Value) (h : Heap) (L : List Loc) : Prop := v = none ∧ Fr n0 L ∧ Keep h0 h [a] ∧ Fld Z h a "com/example/wirecall/wirecall/TextCursor" "text" "Ljava/lang/String;" (.ref t) ∧ Fld Z h a "com/example/wirecall/wirecall/TextCursor" "pos" "I" (.int (3 : Int32))
theorem ef_sk2 (m : MethodId) (a : Addr) (t : Addr) : entryFrame m #[(.ref a)] 1 = mkF m 0 #[.val (.ref a)] [] := by first | (simp [entryFrame, mkF, argsToLocals, Value.category]; done) | rfl
abbrev rm_sk2 : Room := ({ frames := 0, cells := 0, slots := 0, locals := 0 } : Room)
set_option maxRecDepth 65536 in
set_option maxHeartbeats 4000000 in
theorem met_sk2 (l : Launch) (Z : State) (a0 : Array Value) (hw : ∀ d ∈ tables_1, d.before a0 Z = true) (a : Addr) (t : Addr) (h0 : Heap) (n0 : Nat) (Z0 : n0 ≤ h0.size) (P0 : Exa Z h0 a "com/example/wirecall/wirecall/TextCursor") (P1 : Fld Z h0 a "com/example/wirecall/wirecall/TextCursor" "text" "Ljava/lang/String;" (.ref t)) (P2 : Fld Z h0 a "com/example/wirecall/wirecall/TextCursor" "pos" "I" (.int (2 : Int32))) (P3 : n0 ≤ a) :
  Met l (⟨"com/example/wirecall/wirecall/TextCursor", "skip", "()V"⟩ : MethodName) prog_21_method_6_code 1 none [] rm_sk2 Z #[(.ref a)] h0 (Q_sk2 Z a t h0 n0) rm_sk2.cells rm_sk2.slots := by
 refine own_body pn9 ?_
 intro p e s m below meth c s₁ ct X0 e0
 obtain ⟨hx, hZ, hown, hby, hml, hret, hlk, hnm⟩ := ct
 have N0 := Fr.nil n0
 refine castGo (ef_sk2 m a t) ?_
 show Gg s₁ m 0 []
 refine go_st (fun _ kq => XS.aloadN X0.here hx rfl (hb hby d17_0) rfl rfl kq) ?_
 show Gg s₁ m 1 [(.ref a)]
 refine go_st (fun _ kq => XS.dup X0.here hx rfl (hb hby d17_1) rfl rfl kq) ?_
 show Gg s₁ m 2 [(.ref a), (.ref a)]
 refine go_getF X0 hx hZ hown (host := "") (Or.inl (wd hw 44 rfl)) Via.refl e0 P2 (hb hby d17_2) rfl rfl ?_
 intro T131 X131 e131
 show Gg T131 m 5 [(.int (2 : Int32)), (.ref a)]
 refine go_st (fun _ kq => XT.iconstV X131.here hx rfl (1 : Int32) (hb hby d17_5) (by decide) kq) ?_
 show Gg T131 m 6 [(.int (1 : Int32)), (.int (2 : Int32)), (.ref a)]
 refine go_st (fun _ kq => XS.iadd X131.here hx rfl (hb hby d17_6) rfl kq) ?_
 rw [show ((2 : Int32) + (1 : Int32)) = (3 : Int32) from by decide +kernel]
 show Gg T131 m 7 [(.int (3 : Int32)), (.ref a)]
 refine go_putF X131 hx hZ hown (host := "") (Or.inl (wd hw 44 rfl)) Via.refl e131 P2 P0 (Or.inl (wd hw 45 rfl)) (wd hw 2 rfl) (ty := .int) (by decide) rfl rfl (hb hby d17_7) rfl rfl ?_
 intro T132 h132 X132 e132 W132
 have N132 := Fr.snoc X132 N0 P3
 have F132 : Fld Z h132 a "com/example/wirecall/wirecall/TextCursor" "pos" "I" (.int (3 : Int32)) := Fld.same W132 P2
 show Gg T132 m 10 []
 have c133 := Fld.other W132 P1 (Or.inr (slot_ne (a0 := a0) (t := (.object "java/lang/String")) (t' := .int) (Or.inr (wd hw 38 rfl)) (Or.inl (wd hw 45 rfl)) (by decide) (by decide) (by decide)))
 exact go_ret0 X132 hx hlk hret (hb hby d17_10) (by decide) (by decide) (by rw [e132]; exact ⟨rfl, N132, (Keep.wr (Keep.refl h0 [a]) W132 (Or.inl (by simp))), c133, F132⟩)
theorem d15_0 : decode jdk_41_method_11_code 0 = .ok (.iload_n 0, 1) := by decide +kernel
theorem d15_1 : decode jdk_41_method_11_code 1 = .ok (.ifCond .lt 8, 3) := by decide +kernel
theorem d15_4 : decode jdk_41_method_11_code 4 = .ok (.iload_n 0, 1) := by decide +kernel
theorem d15_5 : decode jdk_41_method_11_code 5 = .ok (.iload_n 1, 1) := by decide +kernel
theorem d15_6 : decode jdk_41_method_11_code 6 = .ok (.if_icmp .lt 10, 3) := by decide +kernel
theorem d15_9 : decode jdk_41_method_11_code 9 = .ok (.aload_n 2, 1) := by decide +kernel
theorem d15_10 : decode jdk_41_method_11_code 10 = .ok (.iload_n 0, 1) := by decide +kernel
theorem d15_11 : decode jdk_41_method_11_code 11 = .ok (.iload_n 1, 1) := by decide +kernel
theorem d15_12 : decode jdk_41_method_11_code 12 = .ok (.invokestatic 95, 3) := by decide +kernel
theorem d15_15 : decode jdk_41_method_11_code 15 = .ok (.athrow, 1) := by decide +kernel
theorem d15_16 : decode jdk_41_method_11_code 16 = .ok (.iload_n 0, 1) := by decide +kernel
theorem d15_17 : decode jdk_41_method_11_code 17 = .ok (.ireturn, 1) := by decide +kernel
theorem pn10 : plainFor (⟨"jdk/internal/util/Preconditions", "checkIndex", "(IILjava/util/function/BiFunction;)I"⟩ : MethodName) = true := by first | (refine plainFor_of_name ?_; simp [plainName, overriddenIn]; done) | (refine plainFor_of_name ?_; decide +kernel) | decide +kernel
def fPck (xa : Int32) : Int32 := xa
theorem ef_15 (m : MethodId) (xa : Int32) (xb : Int32) (vf : Value) (rf : vf.isRef = true) : entryFrame m #[(.int xa), (.int xb), vf] 3 = mkF m 0 #[.val (.int xa), .val (.int xb), .val vf] [] := by first | (simp [entryFrame, mkF, argsToLocals, Value.category]; done) | rfl | (cases vf <;> first | (simp [entryFrame, mkF, argsToLocals, Value.category]; done) | rfl | (simp [Value.isRef] at rf))
abbrev rm_15 : Room := ({ frames := 0, cells := 0, slots := 0, locals := 0 } : Room)
set_option maxRecDepth 65536 in
set_option maxHeartbeats 4000000 in
theorem met_15 (l : Launch) (Z : State) (a0 : Array Value) (hw : ∀ d ∈ tables_1, d.before a0 Z = true) (xa : Int32) (xb : Int32) (vf : Value) (rf : vf.isRef = true) (h0 : Heap) (n0 : Nat) (Z0 : n0 ≤ h0.size) (P0 : ¬ (xa < (0 : Int32))) (P1 : xa < xb) :
  Met l (⟨"jdk/internal/util/Preconditions", "checkIndex", "(IILjava/util/function/BiFunction;)I"⟩ : MethodName) jdk_41_method_11_code 3 (some FieldType.int) [] rm_15 Z #[(.int xa), (.int xb), vf] h0 (QV (some (.int (fPck xa))) h0 n0) 0 0 := by
 refine own_body pn10 ?_
 intro p e s m below meth c s₁ ct X0 e0
 obtain ⟨hx, hZ, hown, hby, hml, hret, hlk, hnm⟩ := ct
 have N0 := Fr.nil n0
 refine castGo (ef_15 m xa xb vf rf) ?_
 unfold fPck
 show Gg s₁ m 0 []
 refine go_st (fun _ kq => XS.iloadN X0.here hx rfl (hb hby d15_0) rfl kq) ?_
 show Gg s₁ m 1 [(.int xa)]
 refine go_st (fun _ kq => XS.ifNo X0.here hx rfl (hb hby d15_1) rfl (XT.i0_lt_f P0) kq) ?_
 show Gg s₁ m 4 []
 refine go_st (fun _ kq => XS.iloadN X0.here hx rfl (hb hby d15_4) rfl kq) ?_
 show Gg s₁ m 5 [(.int xa)]
 refine go_st (fun _ kq => XS.iloadN X0.here hx rfl (hb hby d15_5) rfl kq) ?_
 show Gg s₁ m 6 [(.int xb), (.int xa)]
 refine go_st (fun _ kq => XS.icmpYes X0.here hx rfl (pc0 := 6) (pc' := 16) rfl (hb hby d15_6) rfl (XT.ii_lt_t P1) (by decide) (by decide) kq) ?_
 show Gg s₁ m 16 []
 refine go_st (fun _ kq => XS.iloadN X0.here hx rfl (hb hby d15_16) rfl kq) ?_
 show Gg s₁ m 17 [(.int xa)]
 exact go_retI X0 hx hlk hret (hb hby d15_17) (by decide) (by decide) ⟨rfl, N0, e0⟩
theorem d14_0 : decode jdk_42_method_155_code 0 = .ok (.iload_n 0, 1) := by decide +kernel
theorem d14_1 : decode jdk_42_method_155_code 1 = .ok (.iload_n 1, 1) := by decide +kernel
theorem d14_2 : decode jdk_42_method_155_code 2 = .ok (.getstatic 1053, 3) := by decide +kernel
theorem d14_5 : decode jdk_42_method_155_code 5 = .ok (.invokestatic 1059, 3) := by decide +kernel
theorem d14_8 : decode jdk_42_method_155_code 8 = .ok (.pop, 1) := by decide +kernel
theorem d14_9 : decode jdk_42_method_155_code 9 = .ok (.return_, 1) := by decide +kernel
theorem pn11 : plainFor (⟨"java/lang/String", "checkIndex", "(II)V"⟩ : MethodName) = true := by first | (refine plainFor_of_name ?_; simp [plainName, overriddenIn]; done) | (refine plainFor_of_name ?_; decide +kernel) | decide +kernel
def Q_sck (Z : State) (xa : Int32) (xb : Int32) (vf : Value) (rf : vf.isRef = true) (h0 : Heap) (n0 : Nat) (v : Option Value) (h : Heap) (L : List Loc) : Prop := v = none ∧ Fr n0 L ∧ Keep h0 h []
theorem pd5 : parseMethodDescriptor "(IILjava/util/function/BiFunction;)I" = some ⟨[.int, .int, (.object "java/util/function/BiFunction")], (some .int)⟩ := by decide +kernel
theorem ef_sck (m : MethodId) (xa : Int32) (xb : Int32) (vf : Value) (rf : vf.isRef = true) : entryFrame m #[(.int xa), (.int xb)] 2 = mkF m 0 #[.val (.int xa), .val (.int xb)] [] := by first | (simp [entryFrame, mkF, argsToLocals, Value.category]; done) | rfl
abbrev rm_sck : Room := ({ frames := 1, cells := 0, slots := 0, locals := 14 } : Room)
set_option maxRecDepth 65536 in
set_option maxHeartbeats 4000000 in
theorem met_sck (l : Launch) (Z : State) (a0 : Array Value) (hw : ∀ d ∈ tables_1, d.before a0 Z = true) (xa : Int32) (xb : Int32) (vf : Value) (rf : vf.isRef = true) (h0 : Heap) (n0 : Nat) (Z0 : n0 ≤ h0.size) (P0 : ¬ (xa < (0 : Int32))) (P1 : xa < xb) (P2 : Old Z n0 h0) (P3 : Sta Z Z.heap "jdk/internal/util/Preconditions" "SIOOBE_FORMATTER" "Ljava/util/function/BiFunction;" vf) :
  Met l (⟨"java/lang/String", "checkIndex", "(II)V"⟩ : MethodName) jdk_42_method_155_code 2 none [] rm_sck Z #[(.int xa), (.int xb)] h0 (Q_sck Z xa xb vf rf h0 n0) rm_sck.cells rm_sck.slots := by
 refine own_body pn11 ?_
 intro p e s m below meth c s₁ ct X0 e0
 obtain ⟨hx, hZ, hown, hby, hml, hret, hlk, hnm⟩ := ct
 have N0 := Fr.nil n0
 refine castGo (ef_sck m xa xb vf rf) ?_
 show Gg s₁ m 0 []
 refine go_st (fun _ kq => XS.iloadN X0.here hx rfl (hb hby d14_0) rfl kq) ?_
 show Gg s₁ m 1 [(.int xa)]
 refine go_st (fun _ kq => XS.iloadN X0.here hx rfl (hb hby d14_1) rfl kq) ?_
 show Gg s₁ m 2 [(.int xb), (.int xa)]
 refine go_getS X0 hx hZ hown (host := "") (Or.inl (wd hw 73 rfl)) Via.refl e0 (Sta.ext P2.2 P3) (hb hby d14_2) rfl ?_
 intro T134 X134 e134
 show Gg T134 m 5 [vf, (.int xb), (.int xa)]
 refine go_callS X134 hx hZ hml hown (wd hw 75 rfl) (wd hw 76 rfl) (wd hw 74 rfl) (wd hw 77 rfl) e134 (argsL := [(.int xa), (.int xb), vf]) (rest := []) (W := 0) (met_15 l Z a0 hw xa xb vf rf h0 n0 Z0 P0 P1) (hb hby d14_5) rfl rfl rfl (lenOf pd5 rfl) (by show 2 * 0 + _ ≤ _; exact Nat.le_of_eq rfl) (by decide) (by decide) (by decide) (by decide) (by decide) ?_
 intro T135 v135 L135 X135 q135
 obtain ⟨rfl, M135, e135⟩ := q135
 have N135 := Fr.app N0 M135
 show Gg T135 m 8 [(.int xa)]
 refine go_st (fun _ kq => XT.pop X135.here hx rfl (hb hby d14_8) rfl rfl kq) ?_
 show Gg T135 m 9 []
 exact go_ret0 X135 hx hlk hret (hb hby d14_9) (by decide) (by decide) (by rw [e135]; exact ⟨rfl, N135, (Keep.refl h0 [])⟩)
theorem d12_0 : decode jdk_42_method_154_code 0 = .ok (.getstatic 38, 3) := by decide +kernel
theorem d12_3 : decode jdk_42_method_154_code 3 = .ok (.ifCond .eq 14, 3) := by decide +kernel
theorem d12_6 : decode jdk_42_method_154_code 6 = .ok (.aload_n 0, 1) := by decide +kernel
theorem d12_7 : decode jdk_42_method_154_code 7 = .ok (.getfield 15, 3) := by decide +kernel
theorem d12_10 : decode jdk_42_method_154_code 10 = .ok (.ifCond .ne 7, 3) := by decide +kernel
theorem d12_13 : decode jdk_42_method_154_code 13 = .ok (.iconst 1, 1) := by decide +kernel
theorem d12_14 : decode jdk_42_method_154_code 14 = .ok (.goto 4, 3) := by decide +kernel
theorem d12_17 : decode jdk_42_method_154_code 17 = .ok (.iconst 0, 1) := by decide +kernel
theorem d12_18 : decode jdk_42_method_154_code 18 = .ok (.ireturn, 1) := by decide +kernel
theorem pn12 : plainFor (⟨"java/lang/String", "isLatin1", "()Z"⟩ : MethodName) = true := by first | (refine plainFor_of_name ?_; simp [plainName, overriddenIn]; done) | (refine plainFor_of_name ?_; decide +kernel) | decide +kernel
def fIsL  : Int32 := (1 : Int32)
theorem ef_12 (m : MethodId) (a : Addr) (zc : Int32) : entryFrame m #[(.ref a)] 1 = mkF m 0 #[.val (.ref a)] [] := by first | (simp [entryFrame, mkF, argsToLocals, Value.category]; done) | rfl
abbrev rm_12 : Room := ({ frames := 0, cells := 0, slots := 0, locals := 0 } : Room)
set_option maxRecDepth 65536 in
set_option maxHeartbeats 4000000 in
theorem met_12 (l : Launch) (Z : State) (a0 : Array Value) (hw : ∀ d ∈ tables_1, d.before a0 Z = true) (a : Addr) (zc : Int32) (h0 : Heap) (n0 : Nat) (Z0 : n0 ≤ h0.size) (P0 : Fld Z h0 a "java/lang/String" "coder" "B" (.int (0 : Int32))) (P1 : Old Z n0 h0) (P2 : Sta Z Z.heap "java/lang/String" "COMPACT_STRINGS" "Z" (.int zc)) (P3 : ¬ (zc = (0 : Int32))) :
  Met l (⟨"java/lang/String", "isLatin1", "()Z"⟩ : MethodName) jdk_42_method_154_code 1 (some FieldType.boolean) [] rm_12 Z #[(.ref a)] h0 (QV (some (.int (fIsL ))) h0 n0) 0 0 := by
 refine own_body pn12 ?_
 intro p e s m below meth c s₁ ct X0 e0
 obtain ⟨hx, hZ, hown, hby, hml, hret, hlk, hnm⟩ := ct
 have N0 := Fr.nil n0
 refine castGo (ef_12 m a zc) ?_
 unfold fIsL
 show Gg s₁ m 0 []
 refine go_getS X0 hx hZ hown (host := "") (Or.inl (wd hw 17 rfl)) Via.refl e0 (Sta.ext P1.2 P2) (hb hby d12_0) rfl ?_
 intro T136 X136 e136
 show Gg T136 m 3 [(.int zc)]
 refine go_st (fun _ kq => XS.ifNo X136.here hx rfl (hb hby d12_3) rfl (XT.i0_eq_f P3) kq) ?_
 show Gg T136 m 6 []
 refine go_st (fun _ kq => XS.aloadN X136.here hx rfl (hb hby d12_6) rfl rfl kq) ?_
 show Gg T136 m 7 [(.ref a)]
 refine go_getF X136 hx hZ hown (host := "") (Or.inl (wd hw 29 rfl)) Via.refl e136 P0 (hb hby d12_7) rfl rfl ?_
 intro T137 X137 e137
 show Gg T137 m 10 [(.int (0 : Int32))]
 refine go_st (fun _ kq => XS.ifNo X137.here hx rfl (hb hby d12_10) rfl (XT.i0_ne_f (by decide)) kq) ?_
 show Gg T137 m 13 []
 refine go_st (fun _ kq => XT.iconstV X137.here hx rfl (1 : Int32) (hb hby d12_13) (by decide) kq) ?_
 show Gg T137 m 14 [(.int (1 : Int32))]
 refine go_st (fun _ kq => XS.goto X137.here hx rfl (pc0 := 14) (pc' := 18) rfl (hb hby d12_14) (by decide) (by decide) kq) ?_
 show Gg T137 m 18 [(.int (1 : Int32))]
 exact go_retB (w := (1 : Int32)) X137 hx hlk hret (hb hby d12_18) (by decide) (by decide) (by decide) ⟨rfl, N0, e137⟩
theorem d13_0 : decode jdk_43_method_2_code 0 = .ok (.iload_n 1, 1) := by decide +kernel
theorem d13_1 : decode jdk_43_method_2_code 1 = .ok (.aload_n 0, 1) := by decide +kernel
theorem d13_2 : decode jdk_43_method_2_code 2 = .ok (.arraylength, 1) := by decide +kernel
theorem d13_3 : decode jdk_43_method_2_code 3 = .ok (.invokestatic 9, 3) := by decide +kernel
theorem d13_6 : decode jdk_43_method_2_code 6 = .ok (.aload_n 0, 1) := by decide +kernel
theorem d13_7 : decode jdk_43_method_2_code 7 = .ok (.iload_n 1, 1) := by decide +kernel
theorem d13_8 : decode jdk_43_method_2_code 8 = .ok (.baload, 1) := by decide +kernel
theorem d13_9 : decode jdk_43_method_2_code 9 = .ok (.sipush 255, 3) := by decide +kernel
theorem d13_12 : decode jdk_43_method_2_code 12 = .ok (.iand, 1) := by decide +kernel
theorem d13_13 : decode jdk_43_method_2_code 13 = .ok (.i2c, 1) := by decide +kernel
theorem d13_14 : decode jdk_43_method_2_code 14 = .ok (.ireturn, 1) := by decide +kernel
theorem pn13 : plainFor (⟨"java/lang/StringLatin1", "charAt", "([BI)C"⟩ : MethodName) = true := by first | (refine plainFor_of_name ?_; simp [plainName, overriddenIn]; done) | (refine plainFor_of_name ?_; decide +kernel) | decide +kernel
def Q_la10 (Z : State) (b : Addr) (va : Int32) (vf : Value) (rf : vf.isRef = true) (h0 : Heap) (n0 : Nat) (v : Option Value) (h : Heap) (L : List Loc) : Prop := v = some (.int va) ∧ Fr n0 L ∧ Keep h0 h []
theorem pd6 : parseMethodDescriptor "(II)V" = some ⟨[.int, .int], none⟩ := by decide +kernel
theorem ef_la10 (m : MethodId) (b : Addr) (va : Int32) (vf : Value) (rf : vf.isRef = true) : entryFrame m #[(.ref b), (.int (0 : Int32))] 2 = mkF m 0 #[.val (.ref b), .val (.int (0 : Int32))] [] := by first | (simp [entryFrame, mkF, argsToLocals, Value.category]; done) | rfl
abbrev rm_la10 : Room := ({ frames := 2, cells := 0, slots := 0, locals := 27 } : Room)
set_option maxRecDepth 65536 in
set_option maxHeartbeats 4000000 in
theorem met_la10 (l : Launch) (Z : State) (a0 : Array Value) (hw : ∀ d ∈ tables_1, d.before a0 Z = true) (b : Addr) (va : Int32) (vf : Value) (rf : vf.isRef = true) (h0 : Heap) (n0 : Nat) (Z0 : n0 ≤ h0.size) (P0 : GA Z h0 b .byte 1 (fun i => .int (own_c3 (own_by va) (0 : Int32) (0 : Int32) i))) (P1 : Lat va) (P2 : Old Z n0 h0) (P3 : Sta Z Z.heap "jdk/internal/util/Preconditions" "SIOOBE_FORMATTER" "Ljava/util/function/BiFunction;" vf) :
  Met l (⟨"java/lang/StringLatin1", "charAt", "([BI)C"⟩ : MethodName) jdk_43_method_2_code 2 (some FieldType.char) [] rm_la10 Z #[(.ref b), (.int (0 : Int32))] h0 (Q_la10 Z b va vf rf h0 n0) rm_la10.cells rm_la10.slots := by
 refine own_body pn13 ?_
 intro p e s m below meth c s₁ ct X0 e0
 obtain ⟨hx, hZ, hown, hby, hml, hret, hlk, hnm⟩ := ct
 have N0 := Fr.nil n0
 refine castGo (ef_la10 m b va vf rf) ?_
 show Gg s₁ m 0 []
 refine go_st (fun _ kq => XS.iloadN X0.here hx rfl (hb hby d13_0) rfl kq) ?_
 show Gg s₁ m 1 [(.int (0 : Int32))]
 refine go_st (fun _ kq => XS.aloadN X0.here hx rfl (hb hby d13_1) rfl rfl kq) ?_
 show Gg s₁ m 2 [(.ref b), (.int (0 : Int32))]
 refine go_alen X0 hx hZ e0 P0 (hb hby d13_2) rfl rfl (1 : Int32) (by decide) ?_
 show Gg s₁ m 3 [(.int (1 : Int32)), (.int (0 : Int32))]
 refine go_callS X0 hx hZ hml hown (wd hw 70 rfl) (wd hw 71 rfl) (wd hw 6 rfl) (wd hw 72 rfl) e0 (argsL := [(.int (0 : Int32)), (.int (1 : Int32))]) (rest := []) (W := 0) (met_sck l Z a0 hw (0 : Int32) (1 : Int32) vf rf h0 n0 Z0 (by first | assumption | decide | omega) (by first | assumption | decide | omega) P2 P3) (hb hby d13_3) rfl rfl rfl (lenOf pd6 rfl) (by show 2 * 0 + _ ≤ _; exact Nat.le_of_eq rfl) (by decide) (by decide) (by decide) (by decide) (by decide) ?_
 intro T138 v138 L138 X138 q138
 obtain ⟨rfl, M138, K138⟩ := q138
 have N138 := Fr.app N0 M138
 show Gg T138 m 6 []
 refine go_st (fun _ kq => XS.aloadN X138.here hx rfl (hb hby d13_6) rfl rfl kq) ?_
 show Gg T138 m 7 [(.ref b)]
 refine go_st (fun _ kq => XS.iloadN X138.here hx rfl (hb hby d13_7) rfl kq) ?_
 show Gg T138 m 8 [(.int (0 : Int32)), (.ref b)]
 have c139 := GA.keep P0 K138 nin0
 refine go_bald X138 hx hZ rfl c139 (hb hby d13_8) rfl rfl (by decide) (.int (own_by va)) rfl ?_
 show Gg T138 m 9 [(.int (own_by va))]
 refine go_st (fun _ kq => XT.sipushV X138.here hx rfl (255 : Int32) (hb hby d13_9) (by decide) kq) ?_
 show Gg T138 m 12 [(.int (255 : Int32)), (.int (own_by va))]
 refine go_st (fun _ kq => XS.iand X138.here hx rfl (hb hby d13_12) rfl kq) ?_
 show Gg T138 m 13 [(.int ((own_by va) &&& (255 : Int32)))]
 refine go_st (fun _ kq => XT.i2c X138.here hx rfl (hb hby d13_13) rfl kq) ?_
 show Gg T138 m 14 [(.int ((own_by va) &&& (255 : Int32)).toUInt32.toUInt16.toUInt32.toInt32)]
 exact go_retN (t := .char) (w := va) X138 hx hlk hret (by simp) (hb hby d13_14) (own_chr P1) (by decide) (by decide) ⟨rfl, N138, (Keep.trans (Keep.refl h0 []) K138 all0)⟩
theorem d11_0 : decode jdk_42_method_56_code 0 = .ok (.aload_n 0, 1) := by decide +kernel
theorem d11_1 : decode jdk_42_method_56_code 1 = .ok (.invokevirtual 492, 3) := by decide +kernel
theorem d11_4 : decode jdk_42_method_56_code 4 = .ok (.ifCond .eq 12, 3) := by decide +kernel
theorem d11_7 : decode jdk_42_method_56_code 7 = .ok (.aload_n 0, 1) := by decide +kernel
theorem d11_8 : decode jdk_42_method_56_code 8 = .ok (.getfield 9, 3) := by decide +kernel
theorem d11_11 : decode jdk_42_method_56_code 11 = .ok (.iload_n 1, 1) := by decide +kernel
theorem d11_12 : decode jdk_42_method_56_code 12 = .ok (.invokestatic 495, 3) := by decide +kernel
theorem d11_15 : decode jdk_42_method_56_code 15 = .ok (.ireturn, 1) := by decide +kernel
theorem d11_16 : decode jdk_42_method_56_code 16 = .ok (.aload_n 0, 1) := by decide +kernel
theorem d11_17 : decode jdk_42_method_56_code 17 = .ok (.getfield 9, 3) := by decide +kernel
theorem d11_20 : decode jdk_42_method_56_code 20 = .ok (.iload_n 1, 1) := by decide +kernel
theorem d11_21 : decode jdk_42_method_56_code 21 = .ok (.invokestatic 498, 3) := by decide +kernel
theorem d11_24 : decode jdk_42_method_56_code 24 = .ok (.ireturn, 1) := by decide +kernel
theorem pn14 : plainFor (⟨"java/lang/String", "charAt", "(I)C"⟩ : MethodName) = true := by first | (refine plainFor_of_name ?_; simp [plainName, overriddenIn]; done) | (refine plainFor_of_name ?_; decide +kernel) | decide +kernel
def Q_ca10 (Z : State) (a : Addr) (b : Addr) (va : Int32) (zc : Int32) (vf : Value) (rf : vf.isRef = true) (h0 : Heap) (n0 : Nat) (v : Option Value) (h : Heap) (L : List Loc) : Prop := v = some (.int va) ∧ Fr n0 L ∧ Keep h0 h []
theorem pd7 : parseMethodDescriptor "()Z" = some ⟨[], (some .boolean)⟩ := by decide +kernel
theorem pd8 : parseMethodDescriptor "([BI)C" = some ⟨[(.array .byte), .int], (some .char)⟩ := by decide +kernel
theorem ef_ca10 (m : MethodId) (a : Addr) (b : Addr) (va : Int32) (zc : Int32) (vf : Value) (rf : vf.isRef = true) : entryFrame m #[(.ref a), (.int (0 : Int32))] 2 = mkF m 0 #[.val (.ref a), .val (.int (0 : Int32))] [] := by first | (simp [entryFrame, mkF, argsToLocals, Value.category]; done) | rfl
abbrev rm_ca10 : Room := ({ frames := 3, cells := 0, slots := 0, locals := 40 } : Room)
set_option maxRecDepth 65536 in
set_option maxHeartbeats 4000000 in
theorem met_ca10 (l : Launch) (Z : State) (a0 : Array Value) (hw : ∀ d ∈ tables_1, d.before a0 Z = true) (a : Addr) (b : Addr) (va : Int32) (zc : Int32) (vf : Value) (rf : vf.isRef = true) (h0 : Heap) (n0 : Nat) (Z0 : n0 ≤ h0.size) (P0 : Exa Z h0 a "java/lang/String") (P1 : Fld Z h0 a "java/lang/String" "value" "[B" (.ref b)) (P2 : Fld Z h0 a "java/lang/String" "coder" "B" (.int (0 : Int32))) (P3 : GA Z h0 b .byte 1 (fun i => .int (own_c3 (own_by va) (0 : Int32) (0 : Int32) i))) (P4 : Lat va) (P5 : Old Z n0 h0) (P6 : Sta Z Z.heap "java/lang/String" "COMPACT_STRINGS" "Z" (.int zc)) (P7 : ¬ (zc = (0 : Int32))) (P8 : Sta Z Z.heap "jdk/internal/util/Preconditions" "SIOOBE_FORMATTER" "Ljava/util/function/BiFunction;" vf) :
  Met l (⟨"java/lang/String", "charAt", "(I)C"⟩ : MethodName) jdk_42_method_56_code 2 (some FieldType.char) [] rm_ca10 Z #[(.ref a), (.int (0 : Int32))] h0 (Q_ca10 Z a b va zc vf rf h0 n0) rm_ca10.cells rm_ca10.slots := by
 refine own_body pn14 ?_
 intro p e s m below meth c s₁ ct X0 e0
 obtain ⟨hx, hZ, hown, hby, hml, hret, hlk, hnm⟩ := ct
 have N0 := Fr.nil n0
 refine castGo (ef_ca10 m a b va zc vf rf) ?_
 show Gg s₁ m 0 []
 refine go_st (fun _ kq => XS.aloadN X0.here hx rfl (hb hby d11_0) rfl rfl kq) ?_
 show Gg s₁ m 1 [(.ref a)]
 refine go_callV X0 hx hZ hml hown (wd hw 61 rfl) (wd hw 62 rfl) (notFace_of_selects (args := #[]) (mvT hZ (wd hw 64 rfl))) (wd hw 64 rfl) (wd hw 63 rfl) (wd hw 65 rfl) (wd hw 6 rfl) e0 P0 (argsL := []) (rest := []) (W := 0) (met_12 l Z a0 hw a zc h0 n0 Z0 P2 P5 P6 P7) (hb hby d11_1) rfl rfl rfl (lenOf pd7 rfl) (by show 2 * 0 + _ ≤ _; exact Nat.le_of_eq rfl) (by decide) (by decide) (by decide) (by decide) (by decide) ?_
 intro T140 v140 L140 X140 q140
 obtain ⟨rfl, M140, e140⟩ := q140
 have N140 := Fr.app N0 M140
 show Gg T140 m 4 [(.int (1 : Int32))]
 refine go_st (fun _ kq => XS.ifNo X140.here hx rfl (hb hby d11_4) rfl (XT.i0_eq_f (by decide)) kq) ?_
 show Gg T140 m 7 []
 refine go_st (fun _ kq => XS.aloadN X140.here hx rfl (hb hby d11_7) rfl rfl kq) ?_
 show Gg T140 m 8 [(.ref a)]
 refine go_getF X140 hx hZ hown (host := "") (Or.inl (wd hw 31 rfl)) Via.refl e140 P1 (hb hby d11_8) rfl rfl ?_
 intro T141 X141 e141
 show Gg T141 m 11 [(.ref b)]
 refine go_st (fun _ kq => XS.iloadN X141.here hx rfl (hb hby d11_11) rfl kq) ?_
 show Gg T141 m 12 [(.int (0 : Int32)), (.ref b)]
 refine go_callS X141 hx hZ hml hown (wd hw 66 rfl) (wd hw 67 rfl) (wd hw 68 rfl) (wd hw 69 rfl) e141 (argsL := [(.ref b), (.int (0 : Int32))]) (rest := []) (W := 0) (met_la10 l Z a0 hw b va vf rf h0 n0 Z0 P3 P4 P5 P8) (hb hby d11_12) rfl rfl rfl (lenOf pd8 rfl) (by show 2 * 0 + _ ≤ _; exact Nat.le_of_eq rfl) (by decide) (by decide) (by decide) (by decide) (by decide) ?_
 intro T142 v142 L142 X142 q142
 obtain ⟨rfl, M142, K142⟩ := q142
 have N142 := Fr.app N140 M142
 show Gg T142 m 15 [(.int va)]
 exact go_retN (t := .char) (w := va) X142 hx hlk hret (by simp) (hb hby d11_15) (own_nc P4) (by decide) (by decide) ⟨rfl, N142, (Keep.trans (Keep.refl h0 []) K142 all0)⟩
def Q_la20 (Z : State) (b : Addr) (va : Int32) (vb : Int32) (vf : Value) (rf : vf.isRef = true) (h0 : Heap) (n0 : Nat) (v : Option Value) (h : Heap) (L : List Loc) : Prop := v = some (.int va) ∧ Fr n0 L ∧ Keep h0 h []
theorem ef_la20 (m : MethodId) (b : Addr) (va : Int32) (vb : Int32) (vf : Value) (rf : vf.isRef = true) : entryFrame m #[(.ref b), (.int (0 : Int32))] 2 = mkF m 0 #[.val (.ref b), .val (.int (0 : Int32))] [] := by first | (simp [entryFrame, mkF, argsToLocals, Value.category]; done) | rfl
abbrev rm_la20 : Room := ({ frames := 2, cells := 0, slots := 0, locals := 27 } : Room)
set_option maxRecDepth 65536 in
set_option maxHeartbeats 4000000 in
theorem met_la20 (l : Launch) (Z : State) (a0 : Array Value) (hw : ∀ d ∈ tables_1, d.before a0 Z = true) (b : Addr) (va : Int32) (vb : Int32) (vf : Value) (rf : vf.isRef = true) (h0 : Heap) (n0 : Nat) (Z0 : n0 ≤ h0.size) (P0 : GA Z h0 b .byte 2 (fun i => .int (own_c3 (own_by va) (own_by vb) (0 : Int32) i))) (P1 : Lat va) (P2 : Lat vb) (P3 : Old Z n0 h0) (P4 : Sta Z Z.heap "jdk/internal/util/Preconditions" "SIOOBE_FORMATTER" "Ljava/util/function/BiFunction;" vf) :
  Met l (⟨"java/lang/StringLatin1", "charAt", "([BI)C"⟩ : MethodName) jdk_43_method_2_code 2 (some FieldType.char) [] rm_la20 Z #[(.ref b), (.int (0 : Int32))] h0 (Q_la20 Z b va vb vf rf h0 n0) rm_la20.cells rm_la20.slots := by
 refine own_body pn13 ?_
 intro p e s m below meth c s₁ ct X0 e0
 obtain ⟨hx, hZ, hown, hby, hml, hret, hlk, hnm⟩ := ct
 have N0 := Fr.nil n0
 refine castGo (ef_la20 m b va vb vf rf) ?_
 show Gg s₁ m 0 []
 refine go_st (fun _ kq => XS.iloadN X0.here hx rfl (hb hby d13_0) rfl kq) ?_
 show Gg s₁ m 1 [(.int (0 : Int32))]
 refine go_st (fun _ kq => XS.aloadN X0.here hx rfl (hb hby d13_1) rfl rfl kq) ?_
 show Gg s₁ m 2 [(.ref b), (.int (0 : Int32))]
 refine go_alen X0 hx hZ e0 P0 (hb hby d13_2) rfl rfl (2 : Int32) (by decide) ?_
 show Gg s₁ m 3 [(.int (2 : Int32)), (.int (0 : Int32))]
 refine go_callS X0 hx hZ hml hown (wd hw 70 rfl) (wd hw 71 rfl) (wd hw 6 rfl) (wd hw 72 rfl) e0 (argsL := [(.int (0 : Int32)), (.int (2 : Int32))]) (rest := []) (W := 0) (met_sck l Z a0 hw (0 : Int32) (2 : Int32) vf rf h0 n0 Z0 (by first | assumption | decide | omega) (by first | assumption | decide | omega) P3 P4) (hb hby d13_3) rfl rfl rfl (lenOf pd6 rfl) (by show 2 * 0 + _ ≤ _; exact Nat.le_of_eq rfl) (by decide) (by decide) (by decide) (by decide) (by decide) ?_
 intro T143 v143 L143 X143 q143
 obtain ⟨rfl, M143, K143⟩ := q143
 have N143 := Fr.app N0 M143
 show Gg T143 m 6 []
 refine go_st (fun _ kq => XS.aloadN X143.here hx rfl (hb hby d13_6) rfl rfl kq) ?_
 show Gg T143 m 7 [(.ref b)]
 refine go_st (fun _ kq => XS.iloadN X143.here hx rfl (hb hby d13_7) rfl kq) ?_
 show Gg T143 m 8 [(.int (0 : Int32)), (.ref b)]
 have c144 := GA.keep P0 K143 nin0
 refine go_bald X143 hx hZ rfl c144 (hb hby d13_8) rfl rfl (by decide) (.int (own_by va)) rfl ?_
 show Gg T143 m 9 [(.int (own_by va))]
 refine go_st (fun _ kq => XT.sipushV X143.here hx rfl (255 : Int32) (hb hby d13_9) (by decide) kq) ?_
 show Gg T143 m 12 [(.int (255 : Int32)), (.int (own_by va))]
 refine go_st (fun _ kq => XS.iand X143.here hx rfl (hb hby d13_12) rfl kq) ?_
 show Gg T143 m 13 [(.int ((own_by va) &&& (255 : Int32)))]
 refine go_st (fun _ kq => XT.i2c X143.here hx rfl (hb hby d13_13) rfl kq) ?_
 show Gg T143 m 14 [(.int ((own_by va) &&& (255 : Int32)).toUInt32.toUInt16.toUInt32.toInt32)]
 exact go_retN (t := .char) (w := va) X143 hx hlk hret (by simp) (hb hby d13_14) (own_chr P1) (by decide) (by decide) ⟨rfl, N143, (Keep.trans (Keep.refl h0 []) K143 all0)⟩
def Q_ca20 (Z : State) (a : Addr) (b : Addr) (va : Int32) (vb : Int32) (zc : Int32) (vf : Value) (rf : vf.isRef = true) (h0 : Heap) (n0 : Nat) (v : Option Value) (h : Heap) (L : List Loc) : Prop := v = some (.int va) ∧ Fr n0 L ∧ Keep h0 h []
theorem ef_ca20 (m : MethodId) (a : Addr) (b : Addr) (va : Int32) (vb : Int32) (zc : Int32) (vf : Value) (rf : vf.isRef = true) : entryFrame m #[(.ref a), (.int (0 : Int32))] 2 = mkF m 0 #[.val (.ref a), .val (.int (0 : Int32))] [] := by first | (simp [entryFrame, mkF, argsToLocals, Value.category]; done) | rfl
abbrev rm_ca20 : Room := ({ frames := 3, cells := 0, slots := 0, locals := 40 } : Room)
set_option maxRecDepth 65536 in
set_option maxHeartbeats 4000000 in
theorem met_ca20 (l : Launch) (Z : State) (a0 : Array Value) (hw : ∀ d ∈ tables_1, d.before a0 Z = true) (a : Addr) (b : Addr) (va : Int32) (vb : Int32) (zc : Int32) (vf : Value) (rf : vf.isRef = true) (h0 : Heap) (n0 : Nat) (Z0 : n0 ≤ h0.size) (P0 : Exa Z h0 a "java/lang/String") (P1 : Fld Z h0 a "java/lang/String" "value" "[B" (.ref b)) (P2 : Fld Z h0 a "java/lang/String" "coder" "B" (.int (0 : Int32))) (P3 : GA Z h0 b .byte 2 (fun i => .int (own_c3 (own_by va) (own_by vb) (0 : Int32) i))) (P4 : Lat va) (P5 : Lat vb) (P6 : Old Z n0 h0) (P7 : Sta Z Z.heap "java/lang/String" "COMPACT_STRINGS" "Z" (.int zc)) (P8 : ¬ (zc = (0 : Int32))) (P9 : Sta Z Z.heap "jdk/internal/util/Preconditions" "SIOOBE_FORMATTER" "Ljava/util/function/BiFunction;" vf) :
  Met l (⟨"java/lang/String", "charAt", "(I)C"⟩ : MethodName) jdk_42_method_56_code 2 (some FieldType.char) [] rm_ca20 Z #[(.ref a), (.int (0 : Int32))] h0 (Q_ca20 Z a b va vb zc vf rf h0 n0) rm_ca20.cells rm_ca20.slots := by
 refine own_body pn14 ?_
 intro p e s m below meth c s₁ ct X0 e0
 obtain ⟨hx, hZ, hown, hby, hml, hret, hlk, hnm⟩ := ct
 have N0 := Fr.nil n0
 refine castGo (ef_ca20 m a b va vb zc vf rf) ?_
 show Gg s₁ m 0 []
 refine go_st (fun _ kq => XS.aloadN X0.here hx rfl (hb hby d11_0) rfl rfl kq) ?_
 show Gg s₁ m 1 [(.ref a)]
 refine go_callV X0 hx hZ hml hown (wd hw 61 rfl) (wd hw 62 rfl) (notFace_of_selects (args := #[]) (mvT hZ (wd hw 64 rfl))) (wd hw 64 rfl) (wd hw 63 rfl) (wd hw 65 rfl) (wd hw 6 rfl) e0 P0 (argsL := []) (rest := []) (W := 0) (met_12 l Z a0 hw a zc h0 n0 Z0 P2 P6 P7 P8) (hb hby d11_1) rfl rfl rfl (lenOf pd7 rfl) (by show 2 * 0 + _ ≤ _; exact Nat.le_of_eq rfl) (by decide) (by decide) (by decide) (by decide) (by decide) ?_
 intro T145 v145 L145 X145 q145
 obtain ⟨rfl, M145, e145⟩ := q145
 have N145 := Fr.app N0 M145
 show Gg T145 m 4 [(.int (1 : Int32))]
 refine go_st (fun _ kq => XS.ifNo X145.here hx rfl (hb hby d11_4) rfl (XT.i0_eq_f (by decide)) kq) ?_
 show Gg T145 m 7 []
 refine go_st (fun _ kq => XS.aloadN X145.here hx rfl (hb hby d11_7) rfl rfl kq) ?_
 show Gg T145 m 8 [(.ref a)]
 refine go_getF X145 hx hZ hown (host := "") (Or.inl (wd hw 31 rfl)) Via.refl e145 P1 (hb hby d11_8) rfl rfl ?_
 intro T146 X146 e146
 show Gg T146 m 11 [(.ref b)]
 refine go_st (fun _ kq => XS.iloadN X146.here hx rfl (hb hby d11_11) rfl kq) ?_
 show Gg T146 m 12 [(.int (0 : Int32)), (.ref b)]
 refine go_callS X146 hx hZ hml hown (wd hw 66 rfl) (wd hw 67 rfl) (wd hw 68 rfl) (wd hw 69 rfl) e146 (argsL := [(.ref b), (.int (0 : Int32))]) (rest := []) (W := 0) (met_la20 l Z a0 hw b va vb vf rf h0 n0 Z0 P3 P4 P5 P6 P9) (hb hby d11_12) rfl rfl rfl (lenOf pd8 rfl) (by show 2 * 0 + _ ≤ _; exact Nat.le_of_eq rfl) (by decide) (by decide) (by decide) (by decide) (by decide) ?_
 intro T147 v147 L147 X147 q147
 obtain ⟨rfl, M147, K147⟩ := q147
 have N147 := Fr.app N145 M147
 show Gg T147 m 15 [(.int va)]
 exact go_retN (t := .char) (w := va) X147 hx hlk hret (by simp) (hb hby d11_15) (own_nc P4) (by decide) (by decide) ⟨rfl, N147, (Keep.trans (Keep.refl h0 []) K147 all0)⟩
def Q_la21 (Z : State) (b : Addr) (va : Int32) (vb : Int32) (vf : Value) (rf : vf.isRef = true) (h0 : Heap) (n0 : Nat) (v : Option Value) (h : Heap) (L : List Loc) : Prop := v = some (.int vb) ∧ Fr n0 L ∧ Keep h0 h []
theorem ef_la21 (m : MethodId) (b : Addr) (va : Int32) (vb : Int32) (vf : Value) (rf : vf.isRef = true) : entryFrame m #[(.ref b), (.int (1 : Int32))] 2 = mkF m 0 #[.val (.ref b), .val (.int (1 : Int32))] [] := by first | (simp [entryFrame, mkF, argsToLocals, Value.category]; done) | rfl
abbrev rm_la21 : Room := ({ frames := 2, cells := 0, slots := 0, locals := 27 } : Room)
set_option maxRecDepth 65536 in
set_option maxHeartbeats 4000000 in
theorem met_la21 (l : Launch) (Z : State) (a0 : Array Value) (hw : ∀ d ∈ tables_1, d.before a0 Z = true) (b : Addr) (va : Int32) (vb : Int32) (vf : Value) (rf : vf.isRef = true) (h0 : Heap) (n0 : Nat) (Z0 : n0 ≤ h0.size) (P0 : GA Z h0 b .byte 2 (fun i => .int (own_c3 (own_by va) (own_by vb) (0 : Int32) i))) (P1 : Lat va) (P2 : Lat vb) (P3 : Old Z n0 h0) (P4 : Sta Z Z.heap "jdk/internal/util/Preconditions" "SIOOBE_FORMATTER" "Ljava/util/function/BiFunction;" vf) :
  Met l (⟨"java/lang/StringLatin1", "charAt", "([BI)C"⟩ : MethodName) jdk_43_method_2_code 2 (some FieldType.char) [] rm_la21 Z #[(.ref b), (.int (1 : Int32))] h0 (Q_la21 Z b va vb vf rf h0 n0) rm_la21.cells rm_la21.slots := by
 refine own_body pn13 ?_
 intro p e s m below meth c s₁ ct X0 e0
 obtain ⟨hx, hZ, hown, hby, hml, hret, hlk, hnm⟩ := ct
 have N0 := Fr.nil n0
 refine castGo (ef_la21 m b va vb vf rf) ?_
 show Gg s₁ m 0 []
 refine go_st (fun _ kq => XS.iloadN X0.here hx rfl (hb hby d13_0) rfl kq) ?_
 show Gg s₁ m 1 [(.int (1 : Int32))]
 refine go_st (fun _ kq => XS.aloadN X0.here hx rfl (hb hby d13_1) rfl rfl kq) ?_
 show Gg s₁ m 2 [(.ref b), (.int (1 : Int32))]
 refine go_alen X0 hx hZ e0 P0 (hb hby d13_2) rfl rfl (2 : Int32) (by decide) ?_
 show Gg s₁ m 3 [(.int (2 : Int32)), (.int (1 : Int32))]
 refine go_callS X0 hx hZ hml hown (wd hw 70 rfl) (wd hw 71 rfl) (wd hw 6 rfl) (wd hw 72 rfl) e0 (argsL := [(.int (1 : Int32)), (.int (2 : Int32))]) (rest := []) (W := 0) (met_sck l Z a0 hw (1 : Int32) (2 : Int32) vf rf h0 n0 Z0 (by first | assumption | decide | omega) (by first | assumption | decide | omega) P3 P4) (hb hby d13_3) rfl rfl rfl (lenOf pd6 rfl) (by show 2 * 0 + _ ≤ _; exact Nat.le_of_eq rfl) (by decide) (by decide) (by decide) (by decide) (by decide) ?_
 intro T148 v148 L148 X148 q148
 obtain ⟨rfl, M148, K148⟩ := q148
 have N148 := Fr.app N0 M148
 show Gg T148 m 6 []
 refine go_st (fun _ kq => XS.aloadN X148.here hx rfl (hb hby d13_6) rfl rfl kq) ?_
 show Gg T148 m 7 [(.ref b)]
 refine go_st (fun _ kq => XS.iloadN X148.here hx rfl (hb hby d13_7) rfl kq) ?_
 show Gg T148 m 8 [(.int (1 : Int32)), (.ref b)]
 have c149 := GA.keep P0 K148 nin0
 refine go_bald X148 hx hZ rfl c149 (hb hby d13_8) rfl rfl (by decide) (.int (own_by vb)) rfl ?_
 show Gg T148 m 9 [(.int (own_by vb))]
 refine go_st (fun _ kq => XT.sipushV X148.here hx rfl (255 : Int32) (hb hby d13_9) (by decide) kq) ?_
 show Gg T148 m 12 [(.int (255 : Int32)), (.int (own_by vb))]
 refine go_st (fun _ kq => XS.iand X148.here hx rfl (hb hby d13_12) rfl kq) ?_
 show Gg T148 m 13 [(.int ((own_by vb) &&& (255 : Int32)))]
 refine go_st (fun _ kq => XT.i2c X148.here hx rfl (hb hby d13_13) rfl kq) ?_
 show Gg T148 m 14 [(.int ((own_by vb) &&& (255 : Int32)).toUInt32.toUInt16.toUInt32.toInt32)]
 exact go_retN (t := .char) (w := vb) X148 hx hlk hret (by simp) (hb hby d13_14) (own_chr P2) (by decide) (by decide) ⟨rfl, N148, (Keep.trans (Keep.refl h0 []) K148 all0)⟩
def Q_ca21 (Z : State) (a : Addr) (b : Addr) (va : Int32) (vb : Int32) (zc : Int32) (vf : Value) (rf : vf.isRef = true) (h0 : Heap) (n0 : Nat) (v : Option Value) (h : Heap) (L : List Loc) : Prop := v = some (.int vb) ∧ Fr n0 L ∧ Keep h0 h []
theorem ef_ca21 (m : MethodId) (a : Addr) (b : Addr) (va : Int32) (vb : Int32) (zc : Int32) (vf : Value) (rf : vf.isRef = true) : entryFrame m #[(.ref a), (.int (1 : Int32))] 2 = mkF m 0 #[.val (.ref a), .val (.int (1 : Int32))] [] := by first | (simp [entryFrame, mkF, argsToLocals, Value.category]; done) | rfl
abbrev rm_ca21 : Room := ({ frames := 3, cells := 0, slots := 0, locals := 40 } : Room)
set_option maxRecDepth 65536 in
set_option maxHeartbeats 4000000 in
theorem met_ca21 (l : Launch) (Z : State) (a0 : Array Value) (hw : ∀ d ∈ tables_1, d.before a0 Z = true) (a : Addr) (b : Addr) (va : Int32) (vb : Int32) (zc : Int32) (vf : Value) (rf : vf.isRef = true) (h0 : Heap) (n0 : Nat) (Z0 : n0 ≤ h0.size) (P0 : Exa Z h0 a "java/lang/String") (P1 : Fld Z h0 a "java/lang/String" "value" "[B" (.ref b)) (P2 : Fld Z h0 a "java/lang/String" "coder" "B" (.int (0 : Int32))) (P3 : GA Z h0 b .byte 2 (fun i => .int (own_c3 (own_by va) (own_by vb) (0 : Int32) i))) (P4 : Lat va) (P5 : Lat vb) (P6 : Old Z n0 h0) (P7 : Sta Z Z.heap "java/lang/String" "COMPACT_STRINGS" "Z" (.int zc)) (P8 : ¬ (zc = (0 : Int32))) (P9 : Sta Z Z.heap "jdk/internal/util/Preconditions" "SIOOBE_FORMATTER" "Ljava/util/function/BiFunction;" vf) :
  Met l (⟨"java/lang/String", "charAt", "(I)C"⟩ : MethodName) jdk_42_method_56_code 2 (some FieldType.char) [] rm_ca21 Z #[(.ref a), (.int (1 : Int32))] h0 (Q_ca21 Z a b va vb zc vf rf h0 n0) rm_ca21.cells rm_ca21.slots := by
 refine own_body pn14 ?_
 intro p e s m below meth c s₁ ct X0 e0
 obtain ⟨hx, hZ, hown, hby, hml, hret, hlk, hnm⟩ := ct
 have N0 := Fr.nil n0
 refine castGo (ef_ca21 m a b va vb zc vf rf) ?_
 show Gg s₁ m 0 []
 refine go_st (fun _ kq => XS.aloadN X0.here hx rfl (hb hby d11_0) rfl rfl kq) ?_
 show Gg s₁ m 1 [(.ref a)]
 refine go_callV X0 hx hZ hml hown (wd hw 61 rfl) (wd hw 62 rfl) (notFace_of_selects (args := #[]) (mvT hZ (wd hw 64 rfl))) (wd hw 64 rfl) (wd hw 63 rfl) (wd hw 65 rfl) (wd hw 6 rfl) e0 P0 (argsL := []) (rest := []) (W := 0) (met_12 l Z a0 hw a zc h0 n0 Z0 P2 P6 P7 P8) (hb hby d11_1) rfl rfl rfl (lenOf pd7 rfl) (by show 2 * 0 + _ ≤ _; exact Nat.le_of_eq rfl) (by decide) (by decide) (by decide) (by decide) (by decide) ?_
 intro T150 v150 L150 X150 q150
 obtain ⟨rfl, M150, e150⟩ := q150
 have N150 := Fr.app N0 M150
 show Gg T150 m 4 [(.int (1 : Int32))]
 refine go_st (fun _ kq => XS.ifNo X150.here hx rfl (hb hby d11_4) rfl (XT.i0_eq_f (by decide)) kq) ?_
 show Gg T150 m 7 []
 refine go_st (fun _ kq => XS.aloadN X150.here hx rfl (hb hby d11_7) rfl rfl kq) ?_
 show Gg T150 m 8 [(.ref a)]
 refine go_getF X150 hx hZ hown (host := "") (Or.inl (wd hw 31 rfl)) Via.refl e150 P1 (hb hby d11_8) rfl rfl ?_
 intro T151 X151 e151
 show Gg T151 m 11 [(.ref b)]
 refine go_st (fun _ kq => XS.iloadN X151.here hx rfl (hb hby d11_11) rfl kq) ?_
 show Gg T151 m 12 [(.int (1 : Int32)), (.ref b)]
 refine go_callS X151 hx hZ hml hown (wd hw 66 rfl) (wd hw 67 rfl) (wd hw 68 rfl) (wd hw 69 rfl) e151 (argsL := [(.ref b), (.int (1 : Int32))]) (rest := []) (W := 0) (met_la21 l Z a0 hw b va vb vf rf h0 n0 Z0 P3 P4 P5 P6 P9) (hb hby d11_12) rfl rfl rfl (lenOf pd8 rfl) (by show 2 * 0 + _ ≤ _; exact Nat.le_of_eq rfl) (by decide) (by decide) (by decide) (by decide) (by decide) ?_
 intro T152 v152 L152 X152 q152
 obtain ⟨rfl, M152, K152⟩ := q152
 have N152 := Fr.app N150 M152
 show Gg T152 m 15 [(.int vb)]
 exact go_retN (t := .char) (w := vb) X152 hx hlk hret (by simp) (hb hby d11_15) (own_nc P5) (by decide) (by decide) ⟨rfl, N152, (Keep.trans (Keep.refl h0 []) K152 all0)⟩
def Q_la30 (Z : State) (b : Addr) (va : Int32) (vb : Int32) (vc : Int32) (vf : Value) (rf : vf.isRef = true) (h0 : Heap) (n0 : Nat) (v : Option Value) (h : Heap) (L : List Loc) : Prop := v = some (.int va) ∧ Fr n0 L ∧ Keep h0 h []
theorem ef_la30 (m : MethodId) (b : Addr) (va : Int32) (vb : Int32) (vc : Int32) (vf : Value) (rf : vf.isRef = true) : entryFrame m #[(.ref b), (.int (0 : Int32))] 2 = mkF m 0 #[.val (.ref b), .val (.int (0 : Int32))] [] := by first | (simp [entryFrame, mkF, argsToLocals, Value.category]; done) | rfl
abbrev rm_la30 : Room := ({ frames := 2, cells := 0, slots := 0, locals := 27 } : Room)
set_option maxRecDepth 65536 in
set_option maxHeartbeats 4000000 in
theorem met_la30 (l : Launch) (Z : State) (a0 : Array Value) (hw : ∀ d ∈ tables_1, d.before a0 Z = true) (b : Addr) (va : Int32) (vb : Int32) (vc : Int32) (vf : Value) (rf : vf.isRef = true) (h0 : Heap) (n0 : Nat) (Z0 : n0 ≤ h0.size) (P0 : GA Z h0 b .byte 3 (fun i => .int (own_c3 (own_by va) (own_by vb) (own_by vc) i))) (P1 : Lat va) (P2 : Lat vb) (P3 : Lat vc) (P4 : Old Z n0 h0) (P5 : Sta Z Z.heap "jdk/internal/util/Preconditions" "SIOOBE_FORMATTER" "Ljava/util/function/BiFunction;" vf) :
  Met l (⟨"java/lang/StringLatin1", "charAt", "([BI)C"⟩ : MethodName) jdk_43_method_2_code 2 (some FieldType.char) [] rm_la30 Z #[(.ref b), (.int (0 : Int32))] h0 (Q_la30 Z b va vb vc vf rf h0 n0) rm_la30.cells rm_la30.slots := by
 refine own_body pn13 ?_
 intro p e s m below meth c s₁ ct X0 e0
 obtain ⟨hx, hZ, hown, hby, hml, hret, hlk, hnm⟩ := ct
 have N0 := Fr.nil n0
 refine castGo (ef_la30 m b va vb vc vf rf) ?_
 show Gg s₁ m 0 []
 refine go_st (fun _ kq => XS.iloadN X0.here hx rfl (hb hby d13_0) rfl kq) ?_
 show Gg s₁ m 1 [(.int (0 : Int32))]
 refine go_st (fun _ kq => XS.aloadN X0.here hx rfl (hb hby d13_1) rfl rfl kq) ?_
 show Gg s₁ m 2 [(.ref b), (.int (0 : Int32))]
 refine go_alen X0 hx hZ e0 P0 (hb hby d13_2) rfl rfl (3 : Int32) (by decide) ?_
 show Gg s₁ m 3 [(.int (3 : Int32)), (.int (0 : Int32))]
 refine go_callS X0 hx hZ hml hown (wd hw 70 rfl) (wd hw 71 rfl) (wd hw 6 rfl) (wd hw 72 rfl) e0 (argsL := [(.int (0 : Int32)), (.int (3 : Int32))]) (rest := []) (W := 0) (met_sck l Z a0 hw (0 : Int32) (3 : Int32) vf rf h0 n0 Z0 (by first | assumption | decide | omega) (by first | assumption | decide | omega) P4 P5) (hb hby d13_3) rfl rfl rfl (lenOf pd6 rfl) (by show 2 * 0 + _ ≤ _; exact Nat.le_of_eq rfl) (by decide) (by decide) (by decide) (by decide) (by decide) ?_
 intro T153 v153 L153 X153 q153
 obtain ⟨rfl, M153, K153⟩ := q153
 have N153 := Fr.app N0 M153
 show Gg T153 m 6 []
 refine go_st (fun _ kq => XS.aloadN X153.here hx rfl (hb hby d13_6) rfl rfl kq) ?_
 show Gg T153 m 7 [(.ref b)]
 refine go_st (fun _ kq => XS.iloadN X153.here hx rfl (hb hby d13_7) rfl kq) ?_
 show Gg T153 m 8 [(.int (0 : Int32)), (.ref b)]
 have c154 := GA.keep P0 K153 nin0
 refine go_bald X153 hx hZ rfl c154 (hb hby d13_8) rfl rfl (by decide) (.int (own_by va)) rfl ?_
 show Gg T153 m 9 [(.int (own_by va))]
 refine go_st (fun _ kq => XT.sipushV X153.here hx rfl (255 : Int32) (hb hby d13_9) (by decide) kq) ?_
 show Gg T153 m 12 [(.int (255 : Int32)), (.int (own_by va))]
 refine go_st (fun _ kq => XS.iand X153.here hx rfl (hb hby d13_12) rfl kq) ?_
 show Gg T153 m 13 [(.int ((own_by va) &&& (255 : Int32)))]
 refine go_st (fun _ kq => XT.i2c X153.here hx rfl (hb hby d13_13) rfl kq) ?_
 show Gg T153 m 14 [(.int ((own_by va) &&& (255 : Int32)).toUInt32.toUInt16.toUInt32.toInt32)]
 exact go_retN (t := .char) (w := va) X153 hx hlk hret (by simp) (hb hby d13_14) (own_chr P1) (by decide) (by decide) ⟨rfl, N153, (Keep.trans (Keep.refl h0 []) K153 all0)⟩
def Q_ca30 (Z : State) (a : Addr) (b : Addr) (va : Int32) (vb : Int32) (vc : Int32) (zc : Int32) (vf : Value) (rf : vf.isRef = true) (h0 : Heap) (n0 : Nat) (v : Option Value) (h : Heap) (L : List Loc) : Prop := v = some (.int va) ∧ Fr n0 L ∧ Keep h0 h []
theorem ef_ca30 (m : MethodId) (a : Addr) (b : Addr) (va : Int32) (vb : Int32) (vc : Int32) (zc : Int32) (vf : Value) (rf : vf.isRef = true) : entryFrame m #[(.ref a), (.int (0 : Int32))] 2 = mkF m 0 #[.val (.ref a), .val (.int (0 : Int32))] [] := by first | (simp [entryFrame, mkF, argsToLocals, Value.category]; done) | rfl
abbrev rm_ca30 : Room := ({ frames := 3, cells := 0, slots := 0, locals := 40 } : Room)
set_option maxRecDepth 65536 in
set_option maxHeartbeats 4000000 in
theorem met_ca30 (l : Launch) (Z : State) (a0 : Array Value) (hw : ∀ d ∈ tables_1, d.before a0 Z = true) (a : Addr) (b : Addr) (va : Int32) (vb : Int32) (vc : Int32) (zc : Int32) (vf : Value) (rf : vf.isRef = true) (h0 : Heap) (n0 : Nat) (Z0 : n0 ≤ h0.size) (P0 : Exa Z h0 a "java/lang/String") (P1 : Fld Z h0 a "java/lang/String" "value" "[B" (.ref b)) (P2 : Fld Z h0 a "java/lang/String" "coder" "B" (.int (0 : Int32))) (P3 : GA Z h0 b .byte 3 (fun i => .int (own_c3 (own_by va) (own_by vb) (own_by vc) i))) (P4 : Lat va) (P5 : Lat vb) (P6 : Lat vc) (P7 : Old Z n0 h0) (P8 : Sta Z Z.heap "java/lang/String" "COMPACT_STRINGS" "Z" (.int zc)) (P9 : ¬ (zc = (0 : Int32))) (P10 : Sta Z Z.heap "jdk/internal/util/Preconditions" "SIOOBE_FORMATTER" "Ljava/util/function/BiFunction;" vf) :
  Met l (⟨"java/lang/String", "charAt", "(I)C"⟩ : MethodName) jdk_42_method_56_code 2 (some FieldType.char) [] rm_ca30 Z #[(.ref a), (.int (0 : Int32))] h0 (Q_ca30 Z a b va vb vc zc vf rf h0 n0) rm_ca30.cells rm_ca30.slots := by
 refine own_body pn14 ?_
 intro p e s m below meth c s₁ ct X0 e0
 obtain ⟨hx, hZ, hown, hby, hml, hret, hlk, hnm⟩ := ct
 have N0 := Fr.nil n0
 refine castGo (ef_ca30 m a b va vb vc zc vf rf) ?_
 show Gg s₁ m 0 []
 refine go_st (fun _ kq => XS.aloadN X0.here hx rfl (hb hby d11_0) rfl rfl kq) ?_
 show Gg s₁ m 1 [(.ref a)]
 refine go_callV X0 hx hZ hml hown (wd hw 61 rfl) (wd hw 62 rfl) (notFace_of_selects (args := #[]) (mvT hZ (wd hw 64 rfl))) (wd hw 64 rfl) (wd hw 63 rfl) (wd hw 65 rfl) (wd hw 6 rfl) e0 P0 (argsL := []) (rest := []) (W := 0) (met_12 l Z a0 hw a zc h0 n0 Z0 P2 P7 P8 P9) (hb hby d11_1) rfl rfl rfl (lenOf pd7 rfl) (by show 2 * 0 + _ ≤ _; exact Nat.le_of_eq rfl) (by decide) (by decide) (by decide) (by decide) (by decide) ?_
 intro T155 v155 L155 X155 q155
 obtain ⟨rfl, M155, e155⟩ := q155
 have N155 := Fr.app N0 M155
 show Gg T155 m 4 [(.int (1 : Int32))]
 refine go_st (fun _ kq => XS.ifNo X155.here hx rfl (hb hby d11_4) rfl (XT.i0_eq_f (by decide)) kq) ?_
 show Gg T155 m 7 []
 refine go_st (fun _ kq => XS.aloadN X155.here hx rfl (hb hby d11_7) rfl rfl kq) ?_
 show Gg T155 m 8 [(.ref a)]
 refine go_getF X155 hx hZ hown (host := "") (Or.inl (wd hw 31 rfl)) Via.refl e155 P1 (hb hby d11_8) rfl rfl ?_
 intro T156 X156 e156
 show Gg T156 m 11 [(.ref b)]
 refine go_st (fun _ kq => XS.iloadN X156.here hx rfl (hb hby d11_11) rfl kq) ?_
 show Gg T156 m 12 [(.int (0 : Int32)), (.ref b)]
 refine go_callS X156 hx hZ hml hown (wd hw 66 rfl) (wd hw 67 rfl) (wd hw 68 rfl) (wd hw 69 rfl) e156 (argsL := [(.ref b), (.int (0 : Int32))]) (rest := []) (W := 0) (met_la30 l Z a0 hw b va vb vc vf rf h0 n0 Z0 P3 P4 P5 P6 P7 P10) (hb hby d11_12) rfl rfl rfl (lenOf pd8 rfl) (by show 2 * 0 + _ ≤ _; exact Nat.le_of_eq rfl) (by decide) (by decide) (by decide) (by decide) (by decide) ?_
 intro T157 v157 L157 X157 q157
 obtain ⟨rfl, M157, K157⟩ := q157
 have N157 := Fr.app N155 M157
 show Gg T157 m 15 [(.int va)]
 exact go_retN (t := .char) (w := va) X157 hx hlk hret (by simp) (hb hby d11_15) (own_nc P4) (by decide) (by decide) ⟨rfl, N157, (Keep.trans (Keep.refl h0 []) K157 all0)⟩
def Q_la31 (Z : State) (b : Addr) (va : Int32) (vb : Int32) (vc : Int32) (vf : Value) (rf : vf.isRef = true) (h0 : Heap) (n0 : Nat) (v : Option Value) (h : Heap) (L : List Loc) : Prop := v = some (.int vb) ∧ Fr n0 L ∧ Keep h0 h []
theorem ef_la31 (m : MethodId) (b : Addr) (va : Int32) (vb : Int32) (vc : Int32) (vf : Value) (rf : vf.isRef = true) : entryFrame m #[(.ref b), (.int (1 : Int32))] 2 = mkF m 0 #[.val (.ref b), .val (.int (1 : Int32))] [] := by first | (simp [entryFrame, mkF, argsToLocals, Value.category]; done) | rfl
abbrev rm_la31 : Room := ({ frames := 2, cells := 0, slots := 0, locals := 27 } : Room)
set_option maxRecDepth 65536 in
set_option maxHeartbeats 4000000 in
theorem met_la31 (l : Launch) (Z : State) (a0 : Array Value) (hw : ∀ d ∈ tables_1, d.before a0 Z = true) (b : Addr) (va : Int32) (vb : Int32) (vc : Int32) (vf : Value) (rf : vf.isRef = true) (h0 : Heap) (n0 : Nat) (Z0 : n0 ≤ h0.size) (P0 : GA Z h0 b .byte 3 (fun i => .int (own_c3 (own_by va) (own_by vb) (own_by vc) i))) (P1 : Lat va) (P2 : Lat vb) (P3 : Lat vc) (P4 : Old Z n0 h0) (P5 : Sta Z Z.heap "jdk/internal/util/Preconditions" "SIOOBE_FORMATTER" "Ljava/util/function/BiFunction;" vf) :
  Met l (⟨"java/lang/StringLatin1", "charAt", "([BI)C"⟩ : MethodName) jdk_43_method_2_code 2 (some FieldType.char) [] rm_la31 Z #[(.ref b), (.int (1 : Int32))] h0 (Q_la31 Z b va vb vc vf rf h0 n0) rm_la31.cells rm_la31.slots := by
 refine own_body pn13 ?_
 intro p e s m below meth c s₁ ct X0 e0
 obtain ⟨hx, hZ, hown, hby, hml, hret, hlk, hnm⟩ := ct
 have N0 := Fr.nil n0
 refine castGo (ef_la31 m b va vb vc vf rf) ?_
 show Gg s₁ m 0 []
 refine go_st (fun _ kq => XS.iloadN X0.here hx rfl (hb hby d13_0) rfl kq) ?_
 show Gg s₁ m 1 [(.int (1 : Int32))]
 refine go_st (fun _ kq => XS.aloadN X0.here hx rfl (hb hby d13_1) rfl rfl kq) ?_
 show Gg s₁ m 2 [(.ref b), (.int (1 : Int32))]
 refine go_alen X0 hx hZ e0 P0 (hb hby d13_2) rfl rfl (3 : Int32) (by decide) ?_
 show Gg s₁ m 3 [(.int (3 : Int32)), (.int (1 : Int32))]
 refine go_callS X0 hx hZ hml hown (wd hw 70 rfl) (wd hw 71 rfl) (wd hw 6 rfl) (wd hw 72 rfl) e0 (argsL := [(.int (1 : Int32)), (.int (3 : Int32))]) (rest := []) (W := 0) (met_sck l Z a0 hw (1 : Int32) (3 : Int32) vf rf h0 n0 Z0 (by first | assumption | decide | omega) (by first | assumption | decide | omega) P4 P5) (hb hby d13_3) rfl rfl rfl (lenOf pd6 rfl) (by show 2 * 0 + _ ≤ _; exact Nat.le_of_eq rfl) (by decide) (by decide) (by decide) (by decide) (by decide) ?_
 intro T158 v158 L158 X158 q158
 obtain ⟨rfl, M158, K158⟩ := q158
 have N158 := Fr.app N0 M158
 show Gg T158 m 6 []
 refine go_st (fun _ kq => XS.aloadN X158.here hx rfl (hb hby d13_6) rfl rfl kq) ?_
 show Gg T158 m 7 [(.ref b)]
 refine go_st (fun _ kq => XS.iloadN X158.here hx rfl (hb hby d13_7) rfl kq) ?_
 show Gg T158 m 8 [(.int (1 : Int32)), (.ref b)]
 have c159 := GA.keep P0 K158 nin0
 refine go_bald X158 hx hZ rfl c159 (hb hby d13_8) rfl rfl (by decide) (.int (own_by vb)) rfl ?_
 show Gg T158 m 9 [(.int (own_by vb))]
 refine go_st (fun _ kq => XT.sipushV X158.here hx rfl (255 : Int32) (hb hby d13_9) (by decide) kq) ?_
 show Gg T158 m 12 [(.int (255 : Int32)), (.int (own_by vb))]
 refine go_st (fun _ kq => XS.iand X158.here hx rfl (hb hby d13_12) rfl kq) ?_
 show Gg T158 m 13 [(.int ((own_by vb) &&& (255 : Int32)))]
 refine go_st (fun _ kq => XT.i2c X158.here hx rfl (hb hby d13_13) rfl kq) ?_
 show Gg T158 m 14 [(.int ((own_by vb) &&& (255 : Int32)).toUInt32.toUInt16.toUInt32.toInt32)]
 exact go_retN (t := .char) (w := vb) X158 hx hlk hret (by simp) (hb hby d13_14) (own_chr P2) (by decide) (by decide) ⟨rfl, N158, (Keep.trans (Keep.refl h0 []) K158 all0)⟩
def Q_ca31 (Z : State) (a : Addr) (b : Addr) (va : Int32) (vb : Int32) (vc : Int32) (zc : Int32) (vf : Value) (rf : vf.isRef = true) (h0 : Heap) (n0 : Nat) (v : Option Value) (h : Heap) (L : List Loc) : Prop := v = some (.int vb) ∧ Fr n0 L ∧ Keep h0 h []
theorem ef_ca31 (m : MethodId) (a : Addr) (b : Addr) (va : Int32) (vb : Int32) (vc : Int32) (zc : Int32) (vf : Value) (rf : vf.isRef = true) : entryFrame m #[(.ref a), (.int (1 : Int32))] 2 = mkF m 0 #[.val (.ref a), .val (.int (1 : Int32))] [] := by first | (simp [entryFrame, mkF, argsToLocals, Value.category]; done) | rfl
abbrev rm_ca31 : Room := ({ frames := 3, cells := 0, slots := 0, locals := 40 } : Room)
set_option maxRecDepth 65536 in
set_option maxHeartbeats 4000000 in
theorem met_ca31 (l : Launch) (Z : State) (a0 : Array Value) (hw : ∀ d ∈ tables_1, d.before a0 Z = true) (a : Addr) (b : Addr) (va : Int32) (vb : Int32) (vc : Int32) (zc : Int32) (vf : Value) (rf : vf.isRef = true) (h0 : Heap) (n0 : Nat) (Z0 : n0 ≤ h0.size) (P0 : Exa Z h0 a "java/lang/String") (P1 : Fld Z h0 a "java/lang/String" "value" "[B" (.ref b)) (P2 : Fld Z h0 a "java/lang/String" "coder" "B" (.int (0 : Int32))) (P3 : GA Z h0 b .byte 3 (fun i => .int (own_c3 (own_by va) (own_by vb) (own_by vc) i))) (P4 : Lat va) (P5 : Lat vb) (P6 : Lat vc) (P7 : Old Z n0 h0) (P8 : Sta Z Z.heap "java/lang/String" "COMPACT_STRINGS" "Z" (.int zc)) (P9 : ¬ (zc = (0 : Int32))) (P10 : Sta Z Z.heap "jdk/internal/util/Preconditions" "SIOOBE_FORMATTER" "Ljava/util/function/BiFunction;" vf) :
  Met l (⟨"java/lang/String", "charAt", "(I)C"⟩ : MethodName) jdk_42_method_56_code 2 (some FieldType.char) [] rm_ca31 Z #[(.ref a), (.int (1 : Int32))] h0 (Q_ca31 Z a b va vb vc zc vf rf h0 n0) rm_ca31.cells rm_ca31.slots := by
 refine own_body pn14 ?_
 intro p e s m below meth c s₁ ct X0 e0
 obtain ⟨hx, hZ, hown, hby, hml, hret, hlk, hnm⟩ := ct
 have N0 := Fr.nil n0
 refine castGo (ef_ca31 m a b va vb vc zc vf rf) ?_
 show Gg s₁ m 0 []
 refine go_st (fun _ kq => XS.aloadN X0.here hx rfl (hb hby d11_0) rfl rfl kq) ?_
 show Gg s₁ m 1 [(.ref a)]
 refine go_callV X0 hx hZ hml hown (wd hw 61 rfl) (wd hw 62 rfl) (notFace_of_selects (args := #[]) (mvT hZ (wd hw 64 rfl))) (wd hw 64 rfl) (wd hw 63 rfl) (wd hw 65 rfl) (wd hw 6 rfl) e0 P0 (argsL := []) (rest := []) (W := 0) (met_12 l Z a0 hw a zc h0 n0 Z0 P2 P7 P8 P9) (hb hby d11_1) rfl rfl rfl (lenOf pd7 rfl) (by show 2 * 0 + _ ≤ _; exact Nat.le_of_eq rfl) (by decide) (by decide) (by decide) (by decide) (by decide) ?_
 intro T160 v160 L160 X160 q160
 obtain ⟨rfl, M160, e160⟩ := q160
 have N160 := Fr.app N0 M160
 show Gg T160 m 4 [(.int (1 : Int32))]
 refine go_st (fun _ kq => XS.ifNo X160.here hx rfl (hb hby d11_4) rfl (XT.i0_eq_f (by decide)) kq) ?_
 show Gg T160 m 7 []
 refine go_st (fun _ kq => XS.aloadN X160.here hx rfl (hb hby d11_7) rfl rfl kq) ?_
 show Gg T160 m 8 [(.ref a)]
 refine go_getF X160 hx hZ hown (host := "") (Or.inl (wd hw 31 rfl)) Via.refl e160 P1 (hb hby d11_8) rfl rfl ?_
 intro T161 X161 e161
 show Gg T161 m 11 [(.ref b)]
 refine go_st (fun _ kq => XS.iloadN X161.here hx rfl (hb hby d11_11) rfl kq) ?_
 show Gg T161 m 12 [(.int (1 : Int32)), (.ref b)]
 refine go_callS X161 hx hZ hml hown (wd hw 66 rfl) (wd hw 67 rfl) (wd hw 68 rfl) (wd hw 69 rfl) e161 (argsL := [(.ref b), (.int (1 : Int32))]) (rest := []) (W := 0) (met_la31 l Z a0 hw b va vb vc vf rf h0 n0 Z0 P3 P4 P5 P6 P7 P10) (hb hby d11_12) rfl rfl rfl (lenOf pd8 rfl) (by show 2 * 0 + _ ≤ _; exact Nat.le_of_eq rfl) (by decide) (by decide) (by decide) (by decide) (by decide) ?_
 intro T162 v162 L162 X162 q162
 obtain ⟨rfl, M162, K162⟩ := q162
 have N162 := Fr.app N160 M162
 show Gg T162 m 15 [(.int vb)]
 exact go_retN (t := .char) (w := vb) X162 hx hlk hret (by simp) (hb hby d11_15) (own_nc P5) (by decide) (by decide) ⟨rfl, N162, (Keep.trans (Keep.refl h0 []) K162 all0)⟩
def Q_la32 (Z : State) (b : Addr) (va : Int32) (vb : Int32) (vc : Int32) (vf : Value) (rf : vf.isRef = true) (h0 : Heap) (n0 : Nat) (v : Option Value) (h : Heap) (L : List Loc) : Prop := v = some (.int vc) ∧ Fr n0 L ∧ Keep h0 h []
theorem ef_la32 (m : MethodId) (b : Addr) (va : Int32) (vb : Int32) (vc : Int32) (vf : Value) (rf : vf.isRef = true) : entryFrame m #[(.ref b), (.int (2 : Int32))] 2 = mkF m 0 #[.val (.ref b), .val (.int (2 : Int32))] [] := by first | (simp [entryFrame, mkF, argsToLocals, Value.category]; done) | rfl
abbrev rm_la32 : Room := ({ frames := 2, cells := 0, slots := 0, locals := 27 } : Room)
set_option maxRecDepth 65536 in
set_option maxHeartbeats 4000000 in
theorem met_la32 (l : Launch) (Z : State) (a0 : Array Value) (hw : ∀ d ∈ tables_1, d.before a0 Z = true) (b : Addr) (va : Int32) (vb : Int32) (vc : Int32) (vf : Value) (rf : vf.isRef = true) (h0 : Heap) (n0 : Nat) (Z0 : n0 ≤ h0.size) (P0 : GA Z h0 b .byte 3 (fun i => .int (own_c3 (own_by va) (own_by vb) (own_by vc) i))) (P1 : Lat va) (P2 : Lat vb) (P3 : Lat vc) (P4 : Old Z n0 h0) (P5 : Sta Z Z.heap "jdk/internal/util/Preconditions" "SIOOBE_FORMATTER" "Ljava/util/function/BiFunction;" vf) :
  Met l (⟨"java/lang/StringLatin1", "charAt", "([BI)C"⟩ : MethodName) jdk_43_method_2_code 2 (some FieldType.char) [] rm_la32 Z #[(.ref b), (.int (2 : Int32))] h0 (Q_la32 Z b va vb vc vf rf h0 n0) rm_la32.cells rm_la32.slots := by
 refine own_body pn13 ?_
 intro p e s m below meth c s₁ ct X0 e0
 obtain ⟨hx, hZ, hown, hby, hml, hret, hlk, hnm⟩ := ct
 have N0 := Fr.nil n0
 refine castGo (ef_la32 m b va vb vc vf rf) ?_
 show Gg s₁ m 0 []
 refine go_st (fun _ kq => XS.iloadN X0.here hx rfl (hb hby d13_0) rfl kq) ?_
 show Gg s₁ m 1 [(.int (2 : Int32))]
 refine go_st (fun _ kq => XS.aloadN X0.here hx rfl (hb hby d13_1) rfl rfl kq) ?_
 show Gg s₁ m 2 [(.ref b), (.int (2 : Int32))]
 refine go_alen X0 hx hZ e0 P0 (hb hby d13_2) rfl rfl (3 : Int32) (by decide) ?_
 show Gg s₁ m 3 [(.int (3 : Int32)), (.int (2 : Int32))]
 refine go_callS X0 hx hZ hml hown (wd hw 70 rfl) (wd hw 71 rfl) (wd hw 6 rfl) (wd hw 72 rfl) e0 (argsL := [(.int (2 : Int32)), (.int (3 : Int32))]) (rest := []) (W := 0) (met_sck l Z a0 hw (2 : Int32) (3 : Int32) vf rf h0 n0 Z0 (by first | assumption | decide | omega) (by first | assumption | decide | omega) P4 P5) (hb hby d13_3) rfl rfl rfl (lenOf pd6 rfl) (by show 2 * 0 + _ ≤ _; exact Nat.le_of_eq rfl) (by decide) (by decide) (by decide) (by decide) (by decide) ?_
 intro T163 v163 L163 X163 q163
 obtain ⟨rfl, M163, K163⟩ := q163
 have N163 := Fr.app N0 M163
 show Gg T163 m 6 []
 refine go_st (fun _ kq => XS.aloadN X163.here hx rfl (hb hby d13_6) rfl rfl kq) ?_
 show Gg T163 m 7 [(.ref b)]
 refine go_st (fun _ kq => XS.iloadN X163.here hx rfl (hb hby d13_7) rfl kq) ?_
 show Gg T163 m 8 [(.int (2 : Int32)), (.ref b)]
 have c164 := GA.keep P0 K163 nin0
 refine go_bald X163 hx hZ rfl c164 (hb hby d13_8) rfl rfl (by decide) (.int (own_by vc)) rfl ?_
 show Gg T163 m 9 [(.int (own_by vc))]
 refine go_st (fun _ kq => XT.sipushV X163.here hx rfl (255 : Int32) (hb hby d13_9) (by decide) kq) ?_
 show Gg T163 m 12 [(.int (255 : Int32)), (.int (own_by vc))]
 refine go_st (fun _ kq => XS.iand X163.here hx rfl (hb hby d13_12) rfl kq) ?_
 show Gg T163 m 13 [(.int ((own_by vc) &&& (255 : Int32)))]
 refine go_st (fun _ kq => XT.i2c X163.here hx rfl (hb hby d13_13) rfl kq) ?_
 show Gg T163 m 14 [(.int ((own_by vc) &&& (255 : Int32)).toUInt32.toUInt16.toUInt32.toInt32)]
 exact go_retN (t := .char) (w := vc) X163 hx hlk hret (by simp) (hb hby d13_14) (own_chr P3) (by decide) (by decide) ⟨rfl, N163, (Keep.trans (Keep.refl h0 []) K163 all0)⟩
def Q_ca32 (Z : State) (a : Addr) (b : Addr) (va : Int32) (vb : Int32) (vc : Int32) (zc : Int32) (vf : Value) (rf : vf.isRef = true) (h0 : Heap) (n0 : Nat) (v : Option Value) (h : Heap) (L : List Loc) : Prop := v = some (.int vc) ∧ Fr n0 L ∧ Keep h0 h []
theorem ef_ca32 (m : MethodId) (a : Addr) (b : Addr) (va : Int32) (vb : Int32) (vc : Int32) (zc : Int32) (vf : Value) (rf : vf.isRef = true) : entryFrame m #[(.ref a), (.int (2 : Int32))] 2 = mkF m 0 #[.val (.ref a), .val (.int (2 : Int32))] [] := by first | (simp [entryFrame, mkF, argsToLocals, Value.category]; done) | rfl
abbrev rm_ca32 : Room := ({ frames := 3, cells := 0, slots := 0, locals := 40 } : Room)
set_option maxRecDepth 65536 in
set_option maxHeartbeats 4000000 in
theorem met_ca32 (l : Launch) (Z : State) (a0 : Array Value) (hw : ∀ d ∈ tables_1, d.before a0 Z = true) (a : Addr) (b : Addr) (va : Int32) (vb : Int32) (vc : Int32) (zc : Int32) (vf : Value) (rf : vf.isRef = true) (h0 : Heap) (n0 : Nat) (Z0 : n0 ≤ h0.size) (P0 : Exa Z h0 a "java/lang/String") (P1 : Fld Z h0 a "java/lang/String" "value" "[B" (.ref b)) (P2 : Fld Z h0 a "java/lang/String" "coder" "B" (.int (0 : Int32))) (P3 : GA Z h0 b .byte 3 (fun i => .int (own_c3 (own_by va) (own_by vb) (own_by vc) i))) (P4 : Lat va) (P5 : Lat vb) (P6 : Lat vc) (P7 : Old Z n0 h0) (P8 : Sta Z Z.heap "java/lang/String" "COMPACT_STRINGS" "Z" (.int zc)) (P9 : ¬ (zc = (0 : Int32))) (P10 : Sta Z Z.heap "jdk/internal/util/Preconditions" "SIOOBE_FORMATTER" "Ljava/util/function/BiFunction;" vf) :
  Met l (⟨"java/lang/String", "charAt", "(I)C"⟩ : MethodName) jdk_42_method_56_code 2 (some FieldType.char) [] rm_ca32 Z #[(.ref a), (.int (2 : Int32))] h0 (Q_ca32 Z a b va vb vc zc vf rf h0 n0) rm_ca32.cells rm_ca32.slots := by
 refine own_body pn14 ?_
 intro p e s m below meth c s₁ ct X0 e0
 obtain ⟨hx, hZ, hown, hby, hml, hret, hlk, hnm⟩ := ct
 have N0 := Fr.nil n0
 refine castGo (ef_ca32 m a b va vb vc zc vf rf) ?_
 show Gg s₁ m 0 []
 refine go_st (fun _ kq => XS.aloadN X0.here hx rfl (hb hby d11_0) rfl rfl kq) ?_
 show Gg s₁ m 1 [(.ref a)]
 refine go_callV X0 hx hZ hml hown (wd hw 61 rfl) (wd hw 62 rfl) (notFace_of_selects (args := #[]) (mvT hZ (wd hw 64 rfl))) (wd hw 64 rfl) (wd hw 63 rfl) (wd hw 65 rfl) (wd hw 6 rfl) e0 P0 (argsL := []) (rest := []) (W := 0) (met_12 l Z a0 hw a zc h0 n0 Z0 P2 P7 P8 P9) (hb hby d11_1) rfl rfl rfl (lenOf pd7 rfl) (by show 2 * 0 + _ ≤ _; exact Nat.le_of_eq rfl) (by decide) (by decide) (by decide) (by decide) (by decide) ?_
 intro T165 v165 L165 X165 q165
 obtain ⟨rfl, M165, e165⟩ := q165
 have N165 := Fr.app N0 M165
 show Gg T165 m 4 [(.int (1 : Int32))]
 refine go_st (fun _ kq => XS.ifNo X165.here hx rfl (hb hby d11_4) rfl (XT.i0_eq_f (by decide)) kq) ?_
 show Gg T165 m 7 []
 refine go_st (fun _ kq => XS.aloadN X165.here hx rfl (hb hby d11_7) rfl rfl kq) ?_
 show Gg T165 m 8 [(.ref a)]
 refine go_getF X165 hx hZ hown (host := "") (Or.inl (wd hw 31 rfl)) Via.refl e165 P1 (hb hby d11_8) rfl rfl ?_
 intro T166 X166 e166
 show Gg T166 m 11 [(.ref b)]
 refine go_st (fun _ kq => XS.iloadN X166.here hx rfl (hb hby d11_11) rfl kq) ?_
 show Gg T166 m 12 [(.int (2 : Int32)), (.ref b)]
 refine go_callS X166 hx hZ hml hown (wd hw 66 rfl) (wd hw 67 rfl) (wd hw 68 rfl) (wd hw 69 rfl) e166 (argsL := [(.ref b), (.int (2 : Int32))]) (rest := []) (W := 0) (met_la32 l Z a0 hw b va vb vc vf rf h0 n0 Z0 P3 P4 P5 P6 P7 P10) (hb hby d11_12) rfl rfl rfl (lenOf pd8 rfl) (by show 2 * 0 + _ ≤ _; exact Nat.le_of_eq rfl) (by decide) (by decide) (by decide) (by decide) (by decide) ?_
 intro T167 v167 L167 X167 q167
 obtain ⟨rfl, M167, K167⟩ := q167
 have N167 := Fr.app N165 M167
 show Gg T167 m 15 [(.int vc)]
 exact go_retN (t := .char) (w := vc) X167 hx hlk hret (by simp) (hb hby d11_15) (own_nc P6) (by decide) (by decide) ⟨rfl, N167, (Keep.trans (Keep.refl h0 []) K167 all0)⟩
theorem d8_0 : decode prog_21_method_4_code 0 = .ok (.aload_n 0, 1) := by decide +kernel
theorem d8_1 : decode prog_21_method_4_code 1 = .ok (.getfield 13, 3) := by decide +kernel
theorem d8_4 : decode prog_21_method_4_code 4 = .ok (.aload_n 0, 1) := by decide +kernel
theorem d8_5 : decode prog_21_method_4_code 5 = .ok (.getfield 7, 3) := by decide +kernel
theorem d8_8 : decode prog_21_method_4_code 8 = .ok (.invokevirtual 17, 3) := by decide +kernel
theorem d8_11 : decode prog_21_method_4_code 11 = .ok (.if_icmp .ge 22, 3) := by decide +kernel
theorem d8_14 : decode prog_21_method_4_code 14 = .ok (.aload_n 0, 1) := by decide +kernel
theorem d8_15 : decode prog_21_method_4_code 15 = .ok (.getfield 7, 3) := by decide +kernel
theorem d8_18 : decode prog_21_method_4_code 18 = .ok (.aload_n 0, 1) := by decide +kernel
theorem d8_19 : decode prog_21_method_4_code 19 = .ok (.getfield 13, 3) := by decide +kernel
theorem d8_22 : decode prog_21_method_4_code 22 = .ok (.invokevirtual 23, 3) := by decide +kernel
theorem d8_25 : decode prog_21_method_4_code 25 = .ok (.iload_n 1, 1) := by decide +kernel
theorem d8_26 : decode prog_21_method_4_code 26 = .ok (.if_icmp .ne 7, 3) := by decide +kernel
theorem d8_29 : decode prog_21_method_4_code 29 = .ok (.iconst 1, 1) := by decide +kernel
theorem d8_30 : decode prog_21_method_4_code 30 = .ok (.goto 4, 3) := by decide +kernel
theorem d8_33 : decode prog_21_method_4_code 33 = .ok (.iconst 0, 1) := by decide +kernel
theorem d8_34 : decode prog_21_method_4_code 34 = .ok (.ireturn, 1) := by decide +kernel
theorem pn15 : plainFor (⟨"com/example/wirecall/wirecall/TextCursor", "peek", "(C)Z"⟩ : MethodName) = true := by first | (refine plainFor_of_name ?_; simp [plainName, overriddenIn]; done) | (refine plainFor_of_name ?_; decide +kernel) | decide +kernel
def Q_pk00 (Z : State) (a : Addr) (t : Addr) (b : Addr) (fq : Nat → Value) (cq : Int32) (zc : Int32) (h0 : Heap) (n0 : Nat) (v : Option Value) (h : Heap) (L : List Loc) : Prop := v = some (.int (0 : Int32)) ∧ Fr n0 L ∧ Keep h0 h []
theorem pd9 : parseMethodDescriptor "()I" = some ⟨[], (some .int)⟩ := by decide +kernel
theorem ef_pk00 (m : MethodId) (a : Addr) (t : Addr) (b : Addr) (fq : Nat → Value) (cq : Int32) (zc : Int32) : entryFrame m #[(.ref a), (.int cq)] 2 = mkF m 0 #[.val (.ref a), .val (.int cq)] [] := by first | (simp [entryFrame, mkF, argsToLocals, Value.category]; done) | rfl
abbrev rm_pk00 : Room := ({ frames := 2, cells := 0, slots := 0, locals := 26 } : Room)
set_option maxRecDepth 65536 in
set_option maxHeartbeats 4000000 in
theorem met_pk00 (l : Launch) (Z : State) (a0 : Array Value) (hw : ∀ d ∈ tables_1, d.before a0 Z = true) (a : Addr) (t : Addr) (b : Addr) (fq : Nat → Value) (cq : Int32) (zc : Int32) (h0 : Heap) (n0 : Nat) (Z0 : n0 ≤ h0.size) (P0 : Fld Z h0 a "com/example/wirecall/wirecall/TextCursor" "pos" "I" (.int (0 : Int32))) (P1 : Fld Z h0 a "com/example/wirecall/wirecall/TextCursor" "text" "Ljava/lang/String;" (.ref t)) (P2 : Exa Z h0 t "java/lang/String") (P3 : Fld Z h0 t "java/lang/String" "value" "[B" (.ref b)) (P4 : Fld Z h0 t "java/lang/String" "coder" "B" (.int (0 : Int32))) (P5 : GA Z h0 b .byte 0 fq) (P6 : Old Z n0 h0) (P7 : Sta Z Z.heap "java/lang/String" "COMPACT_STRINGS" "Z" (.int zc)) (P8 : ¬ (zc = (0 : Int32))) :
  Met l (⟨"com/example/wirecall/wirecall/TextCursor", "peek", "(C)Z"⟩ : MethodName) prog_21_method_4_code 2 (some FieldType.boolean) [] rm_pk00 Z #[(.ref a), (.int cq)] h0 (Q_pk00 Z a t b fq cq zc h0 n0) rm_pk00.cells rm_pk00.slots := by
 refine own_body pn15 ?_
 intro p e s m below meth c s₁ ct X0 e0
 obtain ⟨hx, hZ, hown, hby, hml, hret, hlk, hnm⟩ := ct
 have N0 := Fr.nil n0
 refine castGo (ef_pk00 m a t b fq cq zc) ?_
 show Gg s₁ m 0 []
 refine go_st (fun _ kq => XS.aloadN X0.here hx rfl (hb hby d8_0) rfl rfl kq) ?_
 show Gg s₁ m 1 [(.ref a)]
 refine go_getF X0 hx hZ hown (host := "") (Or.inl (wd hw 44 rfl)) Via.refl e0 P0 (hb hby d8_1) rfl rfl ?_
 intro T168 X168 e168
 show Gg T168 m 4 [(.int (0 : Int32))]
 refine go_st (fun _ kq => XS.aloadN X168.here hx rfl (hb hby d8_4) rfl rfl kq) ?_
 show Gg T168 m 5 [(.ref a), (.int (0 : Int32))]
 refine go_getF X168 hx hZ hown (host := "") (Or.inl (wd hw 37 rfl)) Via.refl e168 P1 (hb hby d8_5) rfl rfl ?_
 intro T169 X169 e169
 show Gg T169 m 8 [(.ref t), (.int (0 : Int32))]
 refine go_callV X169 hx hZ hml hown (wd hw 46 rfl) (wd hw 47 rfl) (notFace_of_selects (args := #[]) (mvT hZ (wd hw 49 rfl))) (wd hw 49 rfl) (wd hw 48 rfl) (wd hw 50 rfl) (wd hw 6 rfl) e169 P2 (argsL := []) (rest := [(.int (0 : Int32))]) (W := 1) (met_len0 l Z a0 hw t b fq zc h0 n0 Z0 P2 P3 P4 P5 P6 P7 P8) (hb hby d8_8) rfl rfl rfl (lenOf pd9 rfl) (by show 2 * 0 + _ ≤ _; exact Nat.le_of_eq rfl) (by decide) (by decide) (by decide) (by decide) (by decide) ?_
 intro T170 v170 L170 X170 q170
 obtain ⟨rfl, M170, e170⟩ := q170
 have N170 := Fr.app N0 M170
 show Gg T170 m 11 [(.int (0 : Int32)), (.int (0 : Int32))]
 refine go_st (fun _ kq => XS.icmpYes X170.here hx rfl (pc0 := 11) (pc' := 33) rfl (hb hby d8_11) rfl (XT.ii_ge_t (by decide)) (by decide) (by decide) kq) ?_
 show Gg T170 m 33 []
 refine go_st (fun _ kq => XT.iconstV X170.here hx rfl (0 : Int32) (hb hby d8_33) (by decide) kq) ?_
 show Gg T170 m 34 [(.int (0 : Int32))]
 exact go_retB (w := (0 : Int32)) X170 hx hlk hret (hb hby d8_34) (by decide) (by decide) (by decide) (by rw [e170]; exact ⟨rfl, N170, (Keep.refl h0 [])⟩)
def Q_pk10t (Z : State) (a : Addr) (t : Addr) (b : Addr) (va : Int32) (cq : Int32) (zc : Int32) (vf : Value) (rf : vf.isRef = true) (h0 : Heap) (n0 : Nat) (v : Option Value) (h : Heap) (L : List Loc) : Prop := v = some (.int (1 : Int32)) ∧ Fr n0 L ∧ Keep h0 h []
theorem pd10 : parseMethodDescriptor "(I)C" = some ⟨[.int], (some .char)⟩ := by decide +kernel
theorem ef_pk10t (m : MethodId) (a : Addr) (t : Addr) (b : Addr) (va : Int32) (cq : Int32) (zc : Int32) (vf : Value) (rf : vf.isRef = true) : entryFrame m #[(.ref a), (.int cq)] 2 = mkF m 0 #[.val (.ref a), .val (.int cq)] [] := by first | (simp [entryFrame, mkF, argsToLocals, Value.category]; done) | rfl
abbrev rm_pk10t : Room := ({ frames := 4, cells := 0, slots := 0, locals := 53 } : Room)
set_option maxRecDepth 65536 in
set_option maxHeartbeats 4000000 in
theorem met_pk10t (l : Launch) (Z : State) (a0 : Array Value) (hw : ∀ d ∈ tables_1, d.before a0 Z = true) (a : Addr) (t : Addr) (b : Addr) (va : Int32) (cq : Int32) (zc : Int32) (vf : Value) (rf : vf.isRef = true) (h0 : Heap) (n0 : Nat) (Z0 : n0 ≤ h0.size) (P0 : Fld Z h0 a "com/example/wirecall/wirecall/TextCursor" "pos" "I" (.int (0 : Int32))) (P1 : Fld Z h0 a "com/example/wirecall/wirecall/TextCursor" "text" "Ljava/lang/String;" (.ref t)) (P2 : Exa Z h0 t "java/lang/String") (P3 : Fld Z h0 t "java/lang/String" "value" "[B" (.ref b)) (P4 : Fld Z h0 t "java/lang/String" "coder" "B" (.int (0 : Int32))) (P5 : GA Z h0 b .byte 1 (fun i => .int (own_c3 (own_by va) (0 : Int32) (0 : Int32) i))) (P6 : Lat va) (P7 : Old Z n0 h0) (P8 : Sta Z Z.heap "java/lang/String" "COMPACT_STRINGS" "Z" (.int zc)) (P9 : ¬ (zc = (0 : Int32))) (P10 : Sta Z Z.heap "jdk/internal/util/Preconditions" "SIOOBE_FORMATTER" "Ljava/util/function/BiFunction;" vf) (P11 : va = cq) :
  Met l (⟨"com/example/wirecall/wirecall/TextCursor", "peek", "(C)Z"⟩ : MethodName) prog_21_method_4_code 2 (some FieldType.boolean) [] rm_pk10t Z #[(.ref a), (.int cq)] h0 (Q_pk10t Z a t b va cq zc vf rf h0 n0) rm_pk10t.cells rm_pk10t.slots := by
 refine own_body pn15 ?_
 intro p e s m below meth c s₁ ct X0 e0
 obtain ⟨hx, hZ, hown, hby, hml, hret, hlk, hnm⟩ := ct
 have N0 := Fr.nil n0
 refine castGo (ef_pk10t m a t b va cq zc vf rf) ?_
 show Gg s₁ m 0 []
 refine go_st (fun _ kq => XS.aloadN X0.here hx rfl (hb hby d8_0) rfl rfl kq) ?_
 show Gg s₁ m 1 [(.ref a)]
 refine go_getF X0 hx hZ hown (host := "") (Or.inl (wd hw 44 rfl)) Via.refl e0 P0 (hb hby d8_1) rfl rfl ?_
 intro T171 X171 e171
 show Gg T171 m 4 [(.int (0 : Int32))]
 refine go_st (fun _ kq => XS.aloadN X171.here hx rfl (hb hby d8_4) rfl rfl kq) ?_
 show Gg T171 m 5 [(.ref a), (.int (0 : Int32))]
 refine go_getF X171 hx hZ hown (host := "") (Or.inl (wd hw 37 rfl)) Via.refl e171 P1 (hb hby d8_5) rfl rfl ?_
 intro T172 X172 e172
 show Gg T172 m 8 [(.ref t), (.int (0 : Int32))]
 refine go_callV X172 hx hZ hml hown (wd hw 46 rfl) (wd hw 47 rfl) (notFace_of_selects (args := #[]) (mvT hZ (wd hw 49 rfl))) (wd hw 49 rfl) (wd hw 48 rfl) (wd hw 50 rfl) (wd hw 6 rfl) e172 P2 (argsL := []) (rest := [(.int (0 : Int32))]) (W := 1) (met_len1 l Z a0 hw t b (fun i => .int (own_c3 (own_by va) (0 : Int32) (0 : Int32) i)) zc h0 n0 Z0 P2 P3 P4 P5 P7 P8 P9) (hb hby d8_8) rfl rfl rfl (lenOf pd9 rfl) (by show 2 * 0 + _ ≤ _; exact Nat.le_of_eq rfl) (by decide) (by decide) (by decide) (by decide) (by decide) ?_
 intro T173 v173 L173 X173 q173
 obtain ⟨rfl, M173, e173⟩ := q173
 have N173 := Fr.app N0 M173
 show Gg T173 m 11 [(.int (1 : Int32)), (.int (0 : Int32))]
 refine go_st (fun _ kq => XS.icmpNo X173.here hx rfl (hb hby d8_11) rfl (XT.ii_ge_f (by decide)) kq) ?_
 show Gg T173 m 14 []
 refine go_st (fun _ kq => XS.aloadN X173.here hx rfl (hb hby d8_14) rfl rfl kq) ?_
 show Gg T173 m 15 [(.ref a)]
 refine go_getF X173 hx hZ hown (host := "") (Or.inl (wd hw 37 rfl)) Via.refl e173 P1 (hb hby d8_15) rfl rfl ?_
 intro T174 X174 e174
 show Gg T174 m 18 [(.ref t)]
 refine go_st (fun _ kq => XS.aloadN X174.here hx rfl (hb hby d8_18) rfl rfl kq) ?_
 show Gg T174 m 19 [(.ref a), (.ref t)]
 refine go_getF X174 hx hZ hown (host := "") (Or.inl (wd hw 44 rfl)) Via.refl e174 P0 (hb hby d8_19) rfl rfl ?_
 intro T175 X175 e175
 show Gg T175 m 22 [(.int (0 : Int32)), (.ref t)]
 refine go_callV X175 hx hZ hml hown (wd hw 56 rfl) (wd hw 57 rfl) (notFace_of_selects (args := #[]) (mvT hZ (wd hw 59 rfl))) (wd hw 59 rfl) (wd hw 58 rfl) (wd hw 60 rfl) (wd hw 6 rfl) e175 P2 (argsL := [(.int (0 : Int32))]) (rest := []) (W := 0) (met_ca10 l Z a0 hw t b va zc vf rf h0 n0 Z0 P2 P3 P4 P5 P6 P7 P8 P9 P10) (hb hby d8_22) rfl rfl rfl (lenOf pd10 rfl) (by show 2 * 0 + _ ≤ _; exact Nat.le_of_eq rfl) (by decide) (by decide) (by decide) (by decide) (by decide) ?_
 intro T176 v176 L176 X176 q176
 obtain ⟨rfl, M176, K176⟩ := q176
 have N176 := Fr.app N173 M176
 show Gg T176 m 25 [(.int va)]
 refine go_st (fun _ kq => XS.iloadN X176.here hx rfl (hb hby d8_25) rfl kq) ?_
 show Gg T176 m 26 [(.int cq), (.int va)]
 refine go_st (fun _ kq => XS.icmpNo X176.here hx rfl (hb hby d8_26) rfl (XT.ii_ne_f P11) kq) ?_
 show Gg T176 m 29 []
 refine go_st (fun _ kq => XT.iconstV X176.here hx rfl (1 : Int32) (hb hby d8_29) (by decide) kq) ?_
 show Gg T176 m 30 [(.int (1 : Int32))]
 refine go_st (fun _ kq => XS.goto X176.here hx rfl (pc0 := 30) (pc' := 34) rfl (hb hby d8_30) (by decide) (by decide) kq) ?_
 show Gg T176 m 34 [(.int (1 : Int32))]
 exact go_retB (w := (1 : Int32)) X176 hx hlk hret (hb hby d8_34) (by decide) (by decide) (by decide) ⟨rfl, N176, (Keep.trans (Keep.refl h0 []) K176 all0)⟩
def Q_pk10f (Z : State) (a : Addr) (t : Addr) (b : Addr) (va : Int32) (cq : Int32) (zc : Int32) (vf : Value) (rf : vf.isRef = true) (h0 : Heap) (n0 : Nat) (v : Option Value) (h : Heap) (L : List Loc) : Prop := v = some (.int (0 : Int32)) ∧ Fr n0 L ∧ Keep h0 h []
theorem ef_pk10f (m : MethodId) (a : Addr) (t : Addr) (b : Addr) (va : Int32) (cq : Int32) (zc : Int32) (vf : Value) (rf : vf.isRef = true) : entryFrame m #[(.ref a), (.int cq)] 2 = mkF m 0 #[.val (.ref a), .val (.int cq)] [] := by first | (simp [entryFrame, mkF, argsToLocals, Value.category]; done) | rfl
abbrev rm_pk10f : Room := ({ frames := 4, cells := 0, slots := 0, locals := 53 } : Room)
set_option maxRecDepth 65536 in
set_option maxHeartbeats 4000000 in
theorem met_pk10f (l : Launch) (Z : State) (a0 : Array Value) (hw : ∀ d ∈ tables_1, d.before a0 Z = true) (a : Addr) (t : Addr) (b : Addr) (va : Int32) (cq : Int32) (zc : Int32) (vf : Value) (rf : vf.isRef = true) (h0 : Heap) (n0 : Nat) (Z0 : n0 ≤ h0.size) (P0 : Fld Z h0 a "com/example/wirecall/wirecall/TextCursor" "pos" "I" (.int (0 : Int32))) (P1 : Fld Z h0 a "com/example/wirecall/wirecall/TextCursor" "text" "Ljava/lang/String;" (.ref t)) (P2 : Exa Z h0 t "java/lang/String") (P3 : Fld Z h0 t "java/lang/String" "value" "[B" (.ref b)) (P4 : Fld Z h0 t "java/lang/String" "coder" "B" (.int (0 : Int32))) (P5 : GA Z h0 b .byte 1 (fun i => .int (own_c3 (own_by va) (0 : Int32) (0 : Int32) i))) (P6 : Lat va) (P7 : Old Z n0 h0) (P8 : Sta Z Z.heap "java/lang/String" "COMPACT_STRINGS" "Z" (.int zc)) (P9 : ¬ (zc = (0 : Int32))) (P10 : Sta Z Z.heap "jdk/internal/util/Preconditions" "SIOOBE_FORMATTER" "Ljava/util/function/BiFunction;" vf) (P11 : ¬ (va = cq)) :
  Met l (⟨"com/example/wirecall/wirecall/TextCursor", "peek", "(C)Z"⟩ : MethodName) prog_21_method_4_code 2 (some FieldType.boolean) [] rm_pk10f Z #[(.ref a), (.int cq)] h0 (Q_pk10f Z a t b va cq zc vf rf h0 n0) rm_pk10f.cells rm_pk10f.slots := by
 refine own_body pn15 ?_
 intro p e s m below meth c s₁ ct X0 e0
 obtain ⟨hx, hZ, hown, hby, hml, hret, hlk, hnm⟩ := ct
 have N0 := Fr.nil n0
 refine castGo (ef_pk10f m a t b va cq zc vf rf) ?_
 show Gg s₁ m 0 []
 refine go_st (fun _ kq => XS.aloadN X0.here hx rfl (hb hby d8_0) rfl rfl kq) ?_
 show Gg s₁ m 1 [(.ref a)]
 refine go_getF X0 hx hZ hown (host := "") (Or.inl (wd hw 44 rfl)) Via.refl e0 P0 (hb hby d8_1) rfl rfl ?_
 intro T177 X177 e177
 show Gg T177 m 4 [(.int (0 : Int32))]
 refine go_st (fun _ kq => XS.aloadN X177.here hx rfl (hb hby d8_4) rfl rfl kq) ?_
 show Gg T177 m 5 [(.ref a), (.int (0 : Int32))]
 refine go_getF X177 hx hZ hown (host := "") (Or.inl (wd hw 37 rfl)) Via.refl e177 P1 (hb hby d8_5) rfl rfl ?_
 intro T178 X178 e178
 show Gg T178 m 8 [(.ref t), (.int (0 : Int32))]
 refine go_callV X178 hx hZ hml hown (wd hw 46 rfl) (wd hw 47 rfl) (notFace_of_selects (args := #[]) (mvT hZ (wd hw 49 rfl))) (wd hw 49 rfl) (wd hw 48 rfl) (wd hw 50 rfl) (wd hw 6 rfl) e178 P2 (argsL := []) (rest := [(.int (0 : Int32))]) (W := 1) (met_len1 l Z a0 hw t b (fun i => .int (own_c3 (own_by va) (0 : Int32) (0 : Int32) i)) zc h0 n0 Z0 P2 P3 P4 P5 P7 P8 P9) (hb hby d8_8) rfl rfl rfl (lenOf pd9 rfl) (by show 2 * 0 + _ ≤ _; exact Nat.le_of_eq rfl) (by decide) (by decide) (by decide) (by decide) (by decide) ?_
 intro T179 v179 L179 X179 q179
 obtain ⟨rfl, M179, e179⟩ := q179
 have N179 := Fr.app N0 M179
 show Gg T179 m 11 [(.int (1 : Int32)), (.int (0 : Int32))]
 refine go_st (fun _ kq => XS.icmpNo X179.here hx rfl (hb hby d8_11) rfl (XT.ii_ge_f (by decide)) kq) ?_
 show Gg T179 m 14 []
 refine go_st (fun _ kq => XS.aloadN X179.here hx rfl (hb hby d8_14) rfl rfl kq) ?_
 show Gg T179 m 15 [(.ref a)]
 refine go_getF X179 hx hZ hown (host := "") (Or.inl (wd hw 37 rfl)) Via.refl e179 P1 (hb hby d8_15) rfl rfl ?_
 intro T180 X180 e180
 show Gg T180 m 18 [(.ref t)]
 refine go_st (fun _ kq => XS.aloadN X180.here hx rfl (hb hby d8_18) rfl rfl kq) ?_
 show Gg T180 m 19 [(.ref a), (.ref t)]
 refine go_getF X180 hx hZ hown (host := "") (Or.inl (wd hw 44 rfl)) Via.refl e180 P0 (hb hby d8_19) rfl rfl ?_
 intro T181 X181 e181
 show Gg T181 m 22 [(.int (0 : Int32)), (.ref t)]
 refine go_callV X181 hx hZ hml hown (wd hw 56 rfl) (wd hw 57 rfl) (notFace_of_selects (args := #[]) (mvT hZ (wd hw 59 rfl))) (wd hw 59 rfl) (wd hw 58 rfl) (wd hw 60 rfl) (wd hw 6 rfl) e181 P2 (argsL := [(.int (0 : Int32))]) (rest := []) (W := 0) (met_ca10 l Z a0 hw t b va zc vf rf h0 n0 Z0 P2 P3 P4 P5 P6 P7 P8 P9 P10) (hb hby d8_22) rfl rfl rfl (lenOf pd10 rfl) (by show 2 * 0 + _ ≤ _; exact Nat.le_of_eq rfl) (by decide) (by decide) (by decide) (by decide) (by decide) ?_
 intro T182 v182 L182 X182 q182
 obtain ⟨rfl, M182, K182⟩ := q182
 have N182 := Fr.app N179 M182
 show Gg T182 m 25 [(.int va)]
 refine go_st (fun _ kq => XS.iloadN X182.here hx rfl (hb hby d8_25) rfl kq) ?_
 show Gg T182 m 26 [(.int cq), (.int va)]
 refine go_st (fun _ kq => XS.icmpYes X182.here hx rfl (pc0 := 26) (pc' := 33) rfl (hb hby d8_26) rfl (XT.ii_ne_t P11) (by decide) (by decide) kq) ?_
 show Gg T182 m 33 []
 refine go_st (fun _ kq => XT.iconstV X182.here hx rfl (0 : Int32) (hb hby d8_33) (by decide) kq) ?_
 show Gg T182 m 34 [(.int (0 : Int32))]
 exact go_retB (w := (0 : Int32)) X182 hx hlk hret (hb hby d8_34) (by decide) (by decide) (by decide) ⟨rfl, N182, (Keep.trans (Keep.refl h0 []) K182 all0)⟩
def Q_pk11 (Z : State) (a : Addr) (t : Addr) (b : Addr) (fq : Nat → Value) (cq : Int32) (zc : Int32) (h0 : Heap) (n0 : Nat) (v : Option Value) (h : Heap) (L : List Loc) : Prop := v = some (.int (0 : Int32)) ∧ Fr n0 L ∧ Keep h0 h []
theorem ef_pk11 (m : MethodId) (a : Addr) (t : Addr) (b : Addr) (fq : Nat → Value) (cq : Int32) (zc : Int32) : entryFrame m #[(.ref a), (.int cq)] 2 = mkF m 0 #[.val (.ref a), .val (.int cq)] [] := by first | (simp [entryFrame, mkF, argsToLocals, Value.category]; done) | rfl
abbrev rm_pk11 : Room := ({ frames := 2, cells := 0, slots := 0, locals := 26 } : Room)
set_option maxRecDepth 65536 in
set_option maxHeartbeats 4000000 in
theorem met_pk11 (l : Launch) (Z : State) (a0 : Array Value) (hw : ∀ d ∈ tables_1, d.before a0 Z = true) (a : Addr) (t : Addr) (b : Addr) (fq : Nat → Value) (cq : Int32) (zc : Int32) (h0 : Heap) (n0 : Nat) (Z0 : n0 ≤ h0.size) (P0 : Fld Z h0 a "com/example/wirecall/wirecall/TextCursor" "pos" "I" (.int (1 : Int32))) (P1 : Fld Z h0 a "com/example/wirecall/wirecall/TextCursor" "text" "Ljava/lang/String;" (.ref t)) (P2 : Exa Z h0 t "java/lang/String") (P3 : Fld Z h0 t "java/lang/String" "value" "[B" (.ref b)) (P4 : Fld Z h0 t "java/lang/String" "coder" "B" (.int (0 : Int32))) (P5 : GA Z h0 b .byte 1 fq) (P6 : Old Z n0 h0) (P7 : Sta Z Z.heap "java/lang/String" "COMPACT_STRINGS" "Z" (.int zc)) (P8 : ¬ (zc = (0 : Int32))) :
  Met l (⟨"com/example/wirecall/wirecall/TextCursor", "peek", "(C)Z"⟩ : MethodName) prog_21_method_4_code 2 (some FieldType.boolean) [] rm_pk11 Z #[(.ref a), (.int cq)] h0 (Q_pk11 Z a t b fq cq zc h0 n0) rm_pk11.cells rm_pk11.slots := by
 refine own_body pn15 ?_
 intro p e s m below meth c s₁ ct X0 e0
 obtain ⟨hx, hZ, hown, hby, hml, hret, hlk, hnm⟩ := ct
 have N0 := Fr.nil n0
 refine castGo (ef_pk11 m a t b fq cq zc) ?_
 show Gg s₁ m 0 []
 refine go_st (fun _ kq => XS.aloadN X0.here hx rfl (hb hby d8_0) rfl rfl kq) ?_
 show Gg s₁ m 1 [(.ref a)]
 refine go_getF X0 hx hZ hown (host := "") (Or.inl (wd hw 44 rfl)) Via.refl e0 P0 (hb hby d8_1) rfl rfl ?_
 intro T183 X183 e183
 show Gg T183 m 4 [(.int (1 : Int32))]
 refine go_st (fun _ kq => XS.aloadN X183.here hx rfl (hb hby d8_4) rfl rfl kq) ?_
 show Gg T183 m 5 [(.ref a), (.int (1 : Int32))]
 refine go_getF X183 hx hZ hown (host := "") (Or.inl (wd hw 37 rfl)) Via.refl e183 P1 (hb hby d8_5) rfl rfl ?_
 intro T184 X184 e184
 show Gg T184 m 8 [(.ref t), (.int (1 : Int32))]
 refine go_callV X184 hx hZ hml hown (wd hw 46 rfl) (wd hw 47 rfl) (notFace_of_selects (args := #[]) (mvT hZ (wd hw 49 rfl))) (wd hw 49 rfl) (wd hw 48 rfl) (wd hw 50 rfl) (wd hw 6 rfl) e184 P2 (argsL := []) (rest := [(.int (1 : Int32))]) (W := 1) (met_len1 l Z a0 hw t b fq zc h0 n0 Z0 P2 P3 P4 P5 P6 P7 P8) (hb hby d8_8) rfl rfl rfl (lenOf pd9 rfl) (by show 2 * 0 + _ ≤ _; exact Nat.le_of_eq rfl) (by decide) (by decide) (by decide) (by decide) (by decide) ?_
 intro T185 v185 L185 X185 q185
 obtain ⟨rfl, M185, e185⟩ := q185
 have N185 := Fr.app N0 M185
 show Gg T185 m 11 [(.int (1 : Int32)), (.int (1 : Int32))]
 refine go_st (fun _ kq => XS.icmpYes X185.here hx rfl (pc0 := 11) (pc' := 33) rfl (hb hby d8_11) rfl (XT.ii_ge_t (by decide)) (by decide) (by decide) kq) ?_
 show Gg T185 m 33 []
 refine go_st (fun _ kq => XT.iconstV X185.here hx rfl (0 : Int32) (hb hby d8_33) (by decide) kq) ?_
 show Gg T185 m 34 [(.int (0 : Int32))]
 exact go_retB (w := (0 : Int32)) X185 hx hlk hret (hb hby d8_34) (by decide) (by decide) (by decide) (by rw [e185]; exact ⟨rfl, N185, (Keep.refl h0 [])⟩)
def Q_pk20t (Z : State) (a : Addr) (t : Addr) (b : Addr) (va : Int32) (vb : Int32) (cq : Int32) (zc : Int32) (vf : Value) (rf : vf.isRef = true) (h0 : Heap) (n0 : Nat) (v : Option Value) (h : Heap) (L : List Loc) : Prop := v = some (.int (1 : Int32)) ∧ Fr n0 L ∧ Keep h0 h []
theorem ef_pk20t (m : MethodId) (a : Addr) (t : Addr) (b : Addr) (va : Int32) (vb : Int32) (cq : Int32) (zc : Int32) (vf : Value) (rf : vf.isRef = true) : entryFrame m #[(.ref a), (.int cq)] 2 = mkF m 0 #[.val (.ref a), .val (.int cq)] [] := by first | (simp [entryFrame, mkF, argsToLocals, Value.category]; done) | rfl
abbrev rm_pk20t : Room := ({ frames := 4, cells := 0, slots := 0, locals := 53 } : Room)
set_option maxRecDepth 65536 in
set_option maxHeartbeats 4000000 in
theorem met_pk20t (l : Launch) (Z : State) (a0 : Array Value) (hw : ∀ d ∈ tables_1, d.before a0 Z = true) (a : Addr) (t : Addr) (b : Addr) (va : Int32) (vb : Int32) (cq : Int32) (zc : Int32) (vf : Value) (rf : vf.isRef = true) (h0 : Heap) (n0 : Nat) (Z0 : n0 ≤ h0.size) (P0 : Fld Z h0 a "com/example/wirecall/wirecall/TextCursor" "pos" "I" (.int (0 : Int32))) (P1 : Fld Z h0 a "com/example/wirecall/wirecall/TextCursor" "text" "Ljava/lang/String;" (.ref t)) (P2 : Exa Z h0 t "java/lang/String") (P3 : Fld Z h0 t "java/lang/String" "value" "[B" (.ref b)) (P4 : Fld Z h0 t "java/lang/String" "coder" "B" (.int (0 : Int32))) (P5 : GA Z h0 b .byte 2 (fun i => .int (own_c3 (own_by va) (own_by vb) (0 : Int32) i))) (P6 : Lat va) (P7 : Lat vb) (P8 : Old Z n0 h0) (P9 : Sta Z Z.heap "java/lang/String" "COMPACT_STRINGS" "Z" (.int zc)) (P10 : ¬ (zc = (0 : Int32))) (P11 : Sta Z Z.heap "jdk/internal/util/Preconditions" "SIOOBE_FORMATTER" "Ljava/util/function/BiFunction;" vf) (P12 : va = cq) :
  Met l (⟨"com/example/wirecall/wirecall/TextCursor", "peek", "(C)Z"⟩ : MethodName) prog_21_method_4_code 2 (some FieldType.boolean) [] rm_pk20t Z #[(.ref a), (.int cq)] h0 (Q_pk20t Z a t b va vb cq zc vf rf h0 n0) rm_pk20t.cells rm_pk20t.slots := by
 refine own_body pn15 ?_
 intro p e s m below meth c s₁ ct X0 e0
 obtain ⟨hx, hZ, hown, hby, hml, hret, hlk, hnm⟩ := ct
 have N0 := Fr.nil n0
 refine castGo (ef_pk20t m a t b va vb cq zc vf rf) ?_
 show Gg s₁ m 0 []
 refine go_st (fun _ kq => XS.aloadN X0.here hx rfl (hb hby d8_0) rfl rfl kq) ?_
 show Gg s₁ m 1 [(.ref a)]
 refine go_getF X0 hx hZ hown (host := "") (Or.inl (wd hw 44 rfl)) Via.refl e0 P0 (hb hby d8_1) rfl rfl ?_
 intro T186 X186 e186
 show Gg T186 m 4 [(.int (0 : Int32))]
 refine go_st (fun _ kq => XS.aloadN X186.here hx rfl (hb hby d8_4) rfl rfl kq) ?_
 show Gg T186 m 5 [(.ref a), (.int (0 : Int32))]
 refine go_getF X186 hx hZ hown (host := "") (Or.inl (wd hw 37 rfl)) Via.refl e186 P1 (hb hby d8_5) rfl rfl ?_
 intro T187 X187 e187
 show Gg T187 m 8 [(.ref t), (.int (0 : Int32))]
 refine go_callV X187 hx hZ hml hown (wd hw 46 rfl) (wd hw 47 rfl) (notFace_of_selects (args := #[]) (mvT hZ (wd hw 49 rfl))) (wd hw 49 rfl) (wd hw 48 rfl) (wd hw 50 rfl) (wd hw 6 rfl) e187 P2 (argsL := []) (rest := [(.int (0 : Int32))]) (W := 1) (met_len2 l Z a0 hw t b (fun i => .int (own_c3 (own_by va) (own_by vb) (0 : Int32) i)) zc h0 n0 Z0 P2 P3 P4 P5 P8 P9 P10) (hb hby d8_8) rfl rfl rfl (lenOf pd9 rfl) (by show 2 * 0 + _ ≤ _; exact Nat.le_of_eq rfl) (by decide) (by decide) (by decide) (by decide) (by decide) ?_
 intro T188 v188 L188 X188 q188
 obtain ⟨rfl, M188, e188⟩ := q188
 have N188 := Fr.app N0 M188
 show Gg T188 m 11 [(.int (2 : Int32)), (.int (0 : Int32))]
 refine go_st (fun _ kq => XS.icmpNo X188.here hx rfl (hb hby d8_11) rfl (XT.ii_ge_f (by decide)) kq) ?_
 show Gg T188 m 14 []
 refine go_st (fun _ kq => XS.aloadN X188.here hx rfl (hb hby d8_14) rfl rfl kq) ?_
 show Gg T188 m 15 [(.ref a)]
 refine go_getF X188 hx hZ hown (host := "") (Or.inl (wd hw 37 rfl)) Via.refl e188 P1 (hb hby d8_15) rfl rfl ?_
 intro T189 X189 e189
 show Gg T189 m 18 [(.ref t)]
 refine go_st (fun _ kq => XS.aloadN X189.here hx rfl (hb hby d8_18) rfl rfl kq) ?_
 show Gg T189 m 19 [(.ref a), (.ref t)]
 refine go_getF X189 hx hZ hown (host := "") (Or.inl (wd hw 44 rfl)) Via.refl e189 P0 (hb hby d8_19) rfl rfl ?_
 intro T190 X190 e190
 show Gg T190 m 22 [(.int (0 : Int32)), (.ref t)]
 refine go_callV X190 hx hZ hml hown (wd hw 56 rfl) (wd hw 57 rfl) (notFace_of_selects (args := #[]) (mvT hZ (wd hw 59 rfl))) (wd hw 59 rfl) (wd hw 58 rfl) (wd hw 60 rfl) (wd hw 6 rfl) e190 P2 (argsL := [(.int (0 : Int32))]) (rest := []) (W := 0) (met_ca20 l Z a0 hw t b va vb zc vf rf h0 n0 Z0 P2 P3 P4 P5 P6 P7 P8 P9 P10 P11) (hb hby d8_22) rfl rfl rfl (lenOf pd10 rfl) (by show 2 * 0 + _ ≤ _; exact Nat.le_of_eq rfl) (by decide) (by decide) (by decide) (by decide) (by decide) ?_
 intro T191 v191 L191 X191 q191
 obtain ⟨rfl, M191, K191⟩ := q191
 have N191 := Fr.app N188 M191
 show Gg T191 m 25 [(.int va)]
 refine go_st (fun _ kq => XS.iloadN X191.here hx rfl (hb hby d8_25) rfl kq) ?_
 show Gg T191 m 26 [(.int cq), (.int va)]
 refine go_st (fun _ kq => XS.icmpNo X191.here hx rfl (hb hby d8_26) rfl (XT.ii_ne_f P12) kq) ?_
 show Gg T191 m 29 []
 refine go_st (fun _ kq => XT.iconstV X191.here hx rfl (1 : Int32) (hb hby d8_29) (by decide) kq) ?_
 show Gg T191 m 30 [(.int (1 : Int32))]
 refine go_st (fun _ kq => XS.goto X191.here hx rfl (pc0 := 30) (pc' := 34) rfl (hb hby d8_30) (by decide) (by decide) kq) ?_
 show Gg T191 m 34 [(.int (1 : Int32))]
 exact go_retB (w := (1 : Int32)) X191 hx hlk hret (hb hby d8_34) (by decide) (by decide) (by decide) ⟨rfl, N191, (Keep.trans (Keep.refl h0 []) K191 all0)⟩
def Q_pk20f (Z : State) (a : Addr) (t : Addr) (b : Addr) (va : Int32) (vb : Int32) (cq : Int32) (zc : Int32) (vf : Value) (rf : vf.isRef = true) (h0 : Heap) (n0 : Nat) (v : Option Value) (h : Heap) (L : List Loc) : Prop := v = some (.int (0 : Int32)) ∧ Fr n0 L ∧ Keep h0 h []
theorem ef_pk20f (m : MethodId) (a : Addr) (t : Addr) (b : Addr) (va : Int32) (vb : Int32) (cq : Int32) (zc : Int32) (vf : Value) (rf : vf.isRef = true) : entryFrame m #[(.ref a), (.int cq)] 2 = mkF m 0 #[.val (.ref a), .val (.int cq)] [] := by first | (simp [entryFrame, mkF, argsToLocals, Value.category]; done) | rfl
abbrev rm_pk20f : Room := ({ frames := 4, cells := 0, slots := 0, locals := 53 } : Room)
set_option maxRecDepth 65536 in
set_option maxHeartbeats 4000000 in
theorem met_pk20f (l : Launch) (Z : State) (a0 : Array Value) (hw : ∀ d ∈ tables_1, d.before a0 Z = true) (a : Addr) (t : Addr) (b : Addr) (va : Int32) (vb : Int32) (cq : Int32) (zc : Int32) (vf : Value) (rf : vf.isRef = true) (h0 : Heap) (n0 : Nat) (Z0 : n0 ≤ h0.size) (P0 : Fld Z h0 a "com/example/wirecall/wirecall/TextCursor" "pos" "I" (.int (0 : Int32))) (P1 : Fld Z h0 a "com/example/wirecall/wirecall/TextCursor" "text" "Ljava/lang/String;" (.ref t)) (P2 : Exa Z h0 t "java/lang/String") (P3 : Fld Z h0 t "java/lang/String" "value" "[B" (.ref b)) (P4 : Fld Z h0 t "java/lang/String" "coder" "B" (.int (0 : Int32))) (P5 : GA Z h0 b .byte 2 (fun i => .int (own_c3 (own_by va) (own_by vb) (0 : Int32) i))) (P6 : Lat va) (P7 : Lat vb) (P8 : Old Z n0 h0) (P9 : Sta Z Z.heap "java/lang/String" "COMPACT_STRINGS" "Z" (.int zc)) (P10 : ¬ (zc = (0 : Int32))) (P11 : Sta Z Z.heap "jdk/internal/util/Preconditions" "SIOOBE_FORMATTER" "Ljava/util/function/BiFunction;" vf) (P12 : ¬ (va = cq)) :
  Met l (⟨"com/example/wirecall/wirecall/TextCursor", "peek", "(C)Z"⟩ : MethodName) prog_21_method_4_code 2 (some FieldType.boolean) [] rm_pk20f Z #[(.ref a), (.int cq)] h0 (Q_pk20f Z a t b va vb cq zc vf rf h0 n0) rm_pk20f.cells rm_pk20f.slots := by
 refine own_body pn15 ?_
 intro p e s m below meth c s₁ ct X0 e0
 obtain ⟨hx, hZ, hown, hby, hml, hret, hlk, hnm⟩ := ct
 have N0 := Fr.nil n0
 refine castGo (ef_pk20f m a t b va vb cq zc vf rf) ?_
 show Gg s₁ m 0 []
 refine go_st (fun _ kq => XS.aloadN X0.here hx rfl (hb hby d8_0) rfl rfl kq) ?_
 show Gg s₁ m 1 [(.ref a)]
 refine go_getF X0 hx hZ hown (host := "") (Or.inl (wd hw 44 rfl)) Via.refl e0 P0 (hb hby d8_1) rfl rfl ?_
 intro T192 X192 e192
 show Gg T192 m 4 [(.int (0 : Int32))]
 refine go_st (fun _ kq => XS.aloadN X192.here hx rfl (hb hby d8_4) rfl rfl kq) ?_
 show Gg T192 m 5 [(.ref a), (.int (0 : Int32))]
 refine go_getF X192 hx hZ hown (host := "") (Or.inl (wd hw 37 rfl)) Via.refl e192 P1 (hb hby d8_5) rfl rfl ?_
 intro T193 X193 e193
 show Gg T193 m 8 [(.ref t), (.int (0 : Int32))]
 refine go_callV X193 hx hZ hml hown (wd hw 46 rfl) (wd hw 47 rfl) (notFace_of_selects (args := #[]) (mvT hZ (wd hw 49 rfl))) (wd hw 49 rfl) (wd hw 48 rfl) (wd hw 50 rfl) (wd hw 6 rfl) e193 P2 (argsL := []) (rest := [(.int (0 : Int32))]) (W := 1) (met_len2 l Z a0 hw t b (fun i => .int (own_c3 (own_by va) (own_by vb) (0 : Int32) i)) zc h0 n0 Z0 P2 P3 P4 P5 P8 P9 P10) (hb hby d8_8) rfl rfl rfl (lenOf pd9 rfl) (by show 2 * 0 + _ ≤ _; exact Nat.le_of_eq rfl) (by decide) (by decide) (by decide) (by decide) (by decide) ?_
 intro T194 v194 L194 X194 q194
 obtain ⟨rfl, M194, e194⟩ := q194
 have N194 := Fr.app N0 M194
 show Gg T194 m 11 [(.int (2 : Int32)), (.int (0 : Int32))]
 refine go_st (fun _ kq => XS.icmpNo X194.here hx rfl (hb hby d8_11) rfl (XT.ii_ge_f (by decide)) kq) ?_
 show Gg T194 m 14 []
 refine go_st (fun _ kq => XS.aloadN X194.here hx rfl (hb hby d8_14) rfl rfl kq) ?_
 show Gg T194 m 15 [(.ref a)]
 refine go_getF X194 hx hZ hown (host := "") (Or.inl (wd hw 37 rfl)) Via.refl e194 P1 (hb hby d8_15) rfl rfl ?_
 intro T195 X195 e195
 show Gg T195 m 18 [(.ref t)]
 refine go_st (fun _ kq => XS.aloadN X195.here hx rfl (hb hby d8_18) rfl rfl kq) ?_
 show Gg T195 m 19 [(.ref a), (.ref t)]
 refine go_getF X195 hx hZ hown (host := "") (Or.inl (wd hw 44 rfl)) Via.refl e195 P0 (hb hby d8_19) rfl rfl ?_
 intro T196 X196 e196
 show Gg T196 m 22 [(.int (0 : Int32)), (.ref t)]
 refine go_callV X196 hx hZ hml hown (wd hw 56 rfl) (wd hw 57 rfl) (notFace_of_selects (args := #[]) (mvT hZ (wd hw 59 rfl))) (wd hw 59 rfl) (wd hw 58 rfl) (wd hw 60 rfl) (wd hw 6 rfl) e196 P2 (argsL := [(.int (0 : Int32))]) (rest := []) (W := 0) (met_ca20 l Z a0 hw t b va vb zc vf rf h0 n0 Z0 P2 P3 P4 P5 P6 P7 P8 P9 P10 P11) (hb hby d8_22) rfl rfl rfl (lenOf pd10 rfl) (by show 2 * 0 + _ ≤ _; exact Nat.le_of_eq rfl) (by decide) (by decide) (by decide) (by decide) (by decide) ?_
 intro T197 v197 L197 X197 q197
 obtain ⟨rfl, M197, K197⟩ := q197
 have N197 := Fr.app N194 M197
 show Gg T197 m 25 [(.int va)]
 refine go_st (fun _ kq => XS.iloadN X197.here hx rfl (hb hby d8_25) rfl kq) ?_
 show Gg T197 m 26 [(.int cq), (.int va)]
 refine go_st (fun _ kq => XS.icmpYes X197.here hx rfl (pc0 := 26) (pc' := 33) rfl (hb hby d8_26) rfl (XT.ii_ne_t P12) (by decide) (by decide) kq) ?_
 show Gg T197 m 33 []
 refine go_st (fun _ kq => XT.iconstV X197.here hx rfl (0 : Int32) (hb hby d8_33) (by decide) kq) ?_
 show Gg T197 m 34 [(.int (0 : Int32))]
 exact go_retB (w := (0 : Int32)) X197 hx hlk hret (hb hby d8_34) (by decide) (by decide) (by decide) ⟨rfl, N197, (Keep.trans (Keep.refl h0 []) K197 all0)⟩
def Q_pk21t (Z : State) (a : Addr) (t : Addr) (b : Addr) (va : Int32) (vb : Int32) (cq : Int32) (zc : Int32) (vf : Value) (rf : vf.isRef = true) (h0 : Heap) (n0 : Nat) (v : Option Value) (h : Heap) (L : List Loc) : Prop := v = some (.int (1 : Int32)) ∧ Fr n0 L ∧ Keep h0 h []
theorem ef_pk21t (m : MethodId) (a : Addr) (t : Addr) (b : Addr) (va : Int32) (vb : Int32) (cq : Int32) (zc : Int32) (vf : Value) (rf : vf.isRef = true) : entryFrame m #[(.ref a), (.int cq)] 2 = mkF m 0 #[.val (.ref a), .val (.int cq)] [] := by first | (simp [entryFrame, mkF, argsToLocals, Value.category]; done) | rfl
abbrev rm_pk21t : Room := ({ frames := 4, cells := 0, slots := 0, locals := 53 } : Room)
set_option maxRecDepth 65536 in
set_option maxHeartbeats 4000000 in
theorem met_pk21t (l : Launch) (Z : State) (a0 : Array Value) (hw : ∀ d ∈ tables_1, d.before a0 Z = true) (a : Addr) (t : Addr) (b : Addr) (va : Int32) (vb : Int32) (cq : Int32) (zc : Int32) (vf : Value) (rf : vf.isRef = true) (h0 : Heap) (n0 : Nat) (Z0 : n0 ≤ h0.size) (P0 : Fld Z h0 a "com/example/wirecall/wirecall/TextCursor" "pos" "I" (.int (1 : Int32))) (P1 : Fld Z h0 a "com/example/wirecall/wirecall/TextCursor" "text" "Ljava/lang/String;" (.ref t)) (P2 : Exa Z h0 t "java/lang/String") (P3 : Fld Z h0 t "java/lang/String" "value" "[B" (.ref b)) (P4 : Fld Z h0 t "java/lang/String" "coder" "B" (.int (0 : Int32))) (P5 : GA Z h0 b .byte 2 (fun i => .int (own_c3 (own_by va) (own_by vb) (0 : Int32) i))) (P6 : Lat va) (P7 : Lat vb) (P8 : Old Z n0 h0) (P9 : Sta Z Z.heap "java/lang/String" "COMPACT_STRINGS" "Z" (.int zc)) (P10 : ¬ (zc = (0 : Int32))) (P11 : Sta Z Z.heap "jdk/internal/util/Preconditions" "SIOOBE_FORMATTER" "Ljava/util/function/BiFunction;" vf) (P12 : vb = cq) :
  Met l (⟨"com/example/wirecall/wirecall/TextCursor", "peek", "(C)Z"⟩ : MethodName) prog_21_method_4_code 2 (some FieldType.boolean) [] rm_pk21t Z #[(.ref a), (.int cq)] h0 (Q_pk21t Z a t b va vb cq zc vf rf h0 n0) rm_pk21t.cells rm_pk21t.slots := by
 refine own_body pn15 ?_
 intro p e s m below meth c s₁ ct X0 e0
 obtain ⟨hx, hZ, hown, hby, hml, hret, hlk, hnm⟩ := ct
 have N0 := Fr.nil n0
 refine castGo (ef_pk21t m a t b va vb cq zc vf rf) ?_
 show Gg s₁ m 0 []
 refine go_st (fun _ kq => XS.aloadN X0.here hx rfl (hb hby d8_0) rfl rfl kq) ?_
 show Gg s₁ m 1 [(.ref a)]
 refine go_getF X0 hx hZ hown (host := "") (Or.inl (wd hw 44 rfl)) Via.refl e0 P0 (hb hby d8_1) rfl rfl ?_
 intro T198 X198 e198
 show Gg T198 m 4 [(.int (1 : Int32))]
 refine go_st (fun _ kq => XS.aloadN X198.here hx rfl (hb hby d8_4) rfl rfl kq) ?_
 show Gg T198 m 5 [(.ref a), (.int (1 : Int32))]
 refine go_getF X198 hx hZ hown (host := "") (Or.inl (wd hw 37 rfl)) Via.refl e198 P1 (hb hby d8_5) rfl rfl ?_
 intro T199 X199 e199
 show Gg T199 m 8 [(.ref t), (.int (1 : Int32))]
 refine go_callV X199 hx hZ hml hown (wd hw 46 rfl) (wd hw 47 rfl) (notFace_of_selects (args := #[]) (mvT hZ (wd hw 49 rfl))) (wd hw 49 rfl) (wd hw 48 rfl) (wd hw 50 rfl) (wd hw 6 rfl) e199 P2 (argsL := []) (rest := [(.int (1 : Int32))]) (W := 1) (met_len2 l Z a0 hw t b (fun i => .int (own_c3 (own_by va) (own_by vb) (0 : Int32) i)) zc h0 n0 Z0 P2 P3 P4 P5 P8 P9 P10) (hb hby d8_8) rfl rfl rfl (lenOf pd9 rfl) (by show 2 * 0 + _ ≤ _; exact Nat.le_of_eq rfl) (by decide) (by decide) (by decide) (by decide) (by decide) ?_
 intro T200 v200 L200 X200 q200
 obtain ⟨rfl, M200, e200⟩ := q200
 have N200 := Fr.app N0 M200
 show Gg T200 m 11 [(.int (2 : Int32)), (.int (1 : Int32))]
 refine go_st (fun _ kq => XS.icmpNo X200.here hx rfl (hb hby d8_11) rfl (XT.ii_ge_f (by decide)) kq) ?_
 show Gg T200 m 14 []
 refine go_st (fun _ kq => XS.aloadN X200.here hx rfl (hb hby d8_14) rfl rfl kq) ?_
 show Gg T200 m 15 [(.ref a)]
 refine go_getF X200 hx hZ hown (host := "") (Or.inl (wd hw 37 rfl)) Via.refl e200 P1 (hb hby d8_15) rfl rfl ?_
 intro T201 X201 e201
 show Gg T201 m 18 [(.ref t)]
 refine go_st (fun _ kq => XS.aloadN X201.here hx rfl (hb hby d8_18) rfl rfl kq) ?_
 show Gg T201 m 19 [(.ref a), (.ref t)]
 refine go_getF X201 hx hZ hown (host := "") (Or.inl (wd hw 44 rfl)) Via.refl e201 P0 (hb hby d8_19) rfl rfl ?_
 intro T202 X202 e202
 show Gg T202 m 22 [(.int (1 : Int32)), (.ref t)]
 refine go_callV X202 hx hZ hml hown (wd hw 56 rfl) (wd hw 57 rfl) (notFace_of_selects (args := #[]) (mvT hZ (wd hw 59 rfl))) (wd hw 59 rfl) (wd hw 58 rfl) (wd hw 60 rfl) (wd hw 6 rfl) e202 P2 (argsL := [(.int (1 : Int32))]) (rest := []) (W := 0) (met_ca21 l Z a0 hw t b va vb zc vf rf h0 n0 Z0 P2 P3 P4 P5 P6 P7 P8 P9 P10 P11) (hb hby d8_22) rfl rfl rfl (lenOf pd10 rfl) (by show 2 * 0 + _ ≤ _; exact Nat.le_of_eq rfl) (by decide) (by decide) (by decide) (by decide) (by decide) ?_
 intro T203 v203 L203 X203 q203
 obtain ⟨rfl, M203, K203⟩ := q203
 have N203 := Fr.app N200 M203
 show Gg T203 m 25 [(.int vb)]
 refine go_st (fun _ kq => XS.iloadN X203.here hx rfl (hb hby d8_25) rfl kq) ?_
 show Gg T203 m 26 [(.int cq), (.int vb)]
 refine go_st (fun _ kq => XS.icmpNo X203.here hx rfl (hb hby d8_26) rfl (XT.ii_ne_f P12) kq) ?_
 show Gg T203 m 29 []
 refine go_st (fun _ kq => XT.iconstV X203.here hx rfl (1 : Int32) (hb hby d8_29) (by decide) kq) ?_
 show Gg T203 m 30 [(.int (1 : Int32))]
 refine go_st (fun _ kq => XS.goto X203.here hx rfl (pc0 := 30) (pc' := 34) rfl (hb hby d8_30) (by decide) (by decide) kq) ?_
 show Gg T203 m 34 [(.int (1 : Int32))]
 exact go_retB (w := (1 : Int32)) X203 hx hlk hret (hb hby d8_34) (by decide) (by decide) (by decide) ⟨rfl, N203, (Keep.trans (Keep.refl h0 []) K203 all0)⟩
def Q_pk21f (Z : State) (a : Addr) (t : Addr) (b : Addr) (va : Int32) (vb : Int32) (cq : Int32) (zc : Int32) (vf : Value) (rf : vf.isRef = true) (h0 : Heap) (n0 : Nat) (v : Option Value) (h : Heap) (L : List Loc) : Prop := v = some (.int (0 : Int32)) ∧ Fr n0 L ∧ Keep h0 h []
theorem ef_pk21f (m : MethodId) (a : Addr) (t : Addr) (b : Addr) (va : Int32) (vb : Int32) (cq : Int32) (zc : Int32) (vf : Value) (rf : vf.isRef = true) : entryFrame m #[(.ref a), (.int cq)] 2 = mkF m 0 #[.val (.ref a), .val (.int cq)] [] := by first | (simp [entryFrame, mkF, argsToLocals, Value.category]; done) | rfl
abbrev rm_pk21f : Room := ({ frames := 4, cells := 0, slots := 0, locals := 53 } : Room)
set_option maxRecDepth 65536 in
set_option maxHeartbeats 4000000 in
theorem met_pk21f (l : Launch) (Z : State) (a0 : Array Value) (hw : ∀ d ∈ tables_1, d.before a0 Z = true) (a : Addr) (t : Addr) (b : Addr) (va : Int32) (vb : Int32) (cq : Int32) (zc : Int32) (vf : Value) (rf : vf.isRef = true) (h0 : Heap) (n0 : Nat) (Z0 : n0 ≤ h0.size) (P0 : Fld Z h0 a "com/example/wirecall/wirecall/TextCursor" "pos" "I" (.int (1 : Int32))) (P1 : Fld Z h0 a "com/example/wirecall/wirecall/TextCursor" "text" "Ljava/lang/String;" (.ref t)) (P2 : Exa Z h0 t "java/lang/String") (P3 : Fld Z h0 t "java/lang/String" "value" "[B" (.ref b)) (P4 : Fld Z h0 t "java/lang/String" "coder" "B" (.int (0 : Int32))) (P5 : GA Z h0 b .byte 2 (fun i => .int (own_c3 (own_by va) (own_by vb) (0 : Int32) i))) (P6 : Lat va) (P7 : Lat vb) (P8 : Old Z n0 h0) (P9 : Sta Z Z.heap "java/lang/String" "COMPACT_STRINGS" "Z" (.int zc)) (P10 : ¬ (zc = (0 : Int32))) (P11 : Sta Z Z.heap "jdk/internal/util/Preconditions" "SIOOBE_FORMATTER" "Ljava/util/function/BiFunction;" vf) (P12 : ¬ (vb = cq)) :
  Met l (⟨"com/example/wirecall/wirecall/TextCursor", "peek", "(C)Z"⟩ : MethodName) prog_21_method_4_code 2 (some FieldType.boolean) [] rm_pk21f Z #[(.ref a), (.int cq)] h0 (Q_pk21f Z a t b va vb cq zc vf rf h0 n0) rm_pk21f.cells rm_pk21f.slots := by
 refine own_body pn15 ?_
 intro p e s m below meth c s₁ ct X0 e0
 obtain ⟨hx, hZ, hown, hby, hml, hret, hlk, hnm⟩ := ct
 have N0 := Fr.nil n0
 refine castGo (ef_pk21f m a t b va vb cq zc vf rf) ?_
 show Gg s₁ m 0 []
 refine go_st (fun _ kq => XS.aloadN X0.here hx rfl (hb hby d8_0) rfl rfl kq) ?_
 show Gg s₁ m 1 [(.ref a)]
 refine go_getF X0 hx hZ hown (host := "") (Or.inl (wd hw 44 rfl)) Via.refl e0 P0 (hb hby d8_1) rfl rfl ?_
 intro T204 X204 e204
 show Gg T204 m 4 [(.int (1 : Int32))]
 refine go_st (fun _ kq => XS.aloadN X204.here hx rfl (hb hby d8_4) rfl rfl kq) ?_
 show Gg T204 m 5 [(.ref a), (.int (1 : Int32))]
 refine go_getF X204 hx hZ hown (host := "") (Or.inl (wd hw 37 rfl)) Via.refl e204 P1 (hb hby d8_5) rfl rfl ?_
 intro T205 X205 e205
 show Gg T205 m 8 [(.ref t), (.int (1 : Int32))]
 refine go_callV X205 hx hZ hml hown (wd hw 46 rfl) (wd hw 47 rfl) (notFace_of_selects (args := #[]) (mvT hZ (wd hw 49 rfl))) (wd hw 49 rfl) (wd hw 48 rfl) (wd hw 50 rfl) (wd hw 6 rfl) e205 P2 (argsL := []) (rest := [(.int (1 : Int32))]) (W := 1) (met_len2 l Z a0 hw t b (fun i => .int (own_c3 (own_by va) (own_by vb) (0 : Int32) i)) zc h0 n0 Z0 P2 P3 P4 P5 P8 P9 P10) (hb hby d8_8) rfl rfl rfl (lenOf pd9 rfl) (by show 2 * 0 + _ ≤ _; exact Nat.le_of_eq rfl) (by decide) (by decide) (by decide) (by decide) (by decide) ?_
 intro T206 v206 L206 X206 q206
 obtain ⟨rfl, M206, e206⟩ := q206
 have N206 := Fr.app N0 M206
 show Gg T206 m 11 [(.int (2 : Int32)), (.int (1 : Int32))]
 refine go_st (fun _ kq => XS.icmpNo X206.here hx rfl (hb hby d8_11) rfl (XT.ii_ge_f (by decide)) kq) ?_
 show Gg T206 m 14 []
 refine go_st (fun _ kq => XS.aloadN X206.here hx rfl (hb hby d8_14) rfl rfl kq) ?_
 show Gg T206 m 15 [(.ref a)]
 refine go_getF X206 hx hZ hown (host := "") (Or.inl (wd hw 37 rfl)) Via.refl e206 P1 (hb hby d8_15) rfl rfl ?_
 intro T207 X207 e207
 show Gg T207 m 18 [(.ref t)]
 refine go_st (fun _ kq => XS.aloadN X207.here hx rfl (hb hby d8_18) rfl rfl kq) ?_
 show Gg T207 m 19 [(.ref a), (.ref t)]
 refine go_getF X207 hx hZ hown (host := "") (Or.inl (wd hw 44 rfl)) Via.refl e207 P0 (hb hby d8_19) rfl rfl ?_
 intro T208 X208 e208
 show Gg T208 m 22 [(.int (1 : Int32)), (.ref t)]
 refine go_callV X208 hx hZ hml hown (wd hw 56 rfl) (wd hw 57 rfl) (notFace_of_selects (args := #[]) (mvT hZ (wd hw 59 rfl))) (wd hw 59 rfl) (wd hw 58 rfl) (wd hw 60 rfl) (wd hw 6 rfl) e208 P2 (argsL := [(.int (1 : Int32))]) (rest := []) (W := 0) (met_ca21 l Z a0 hw t b va vb zc vf rf h0 n0 Z0 P2 P3 P4 P5 P6 P7 P8 P9 P10 P11) (hb hby d8_22) rfl rfl rfl (lenOf pd10 rfl) (by show 2 * 0 + _ ≤ _; exact Nat.le_of_eq rfl) (by decide) (by decide) (by decide) (by decide) (by decide) ?_
 intro T209 v209 L209 X209 q209
 obtain ⟨rfl, M209, K209⟩ := q209
 have N209 := Fr.app N206 M209
 show Gg T209 m 25 [(.int vb)]
 refine go_st (fun _ kq => XS.iloadN X209.here hx rfl (hb hby d8_25) rfl kq) ?_
 show Gg T209 m 26 [(.int cq), (.int vb)]
 refine go_st (fun _ kq => XS.icmpYes X209.here hx rfl (pc0 := 26) (pc' := 33) rfl (hb hby d8_26) rfl (XT.ii_ne_t P12) (by decide) (by decide) kq) ?_
 show Gg T209 m 33 []
 refine go_st (fun _ kq => XT.iconstV X209.here hx rfl (0 : Int32) (hb hby d8_33) (by decide) kq) ?_
 show Gg T209 m 34 [(.int (0 : Int32))]
 exact go_retB (w := (0 : Int32)) X209 hx hlk hret (hb hby d8_34) (by decide) (by decide) (by decide) ⟨rfl, N209, (Keep.trans (Keep.refl h0 []) K209 all0)⟩
def Q_pk22 (Z : State) (a : Addr) (t : Addr) (b : Addr) (fq : Nat → Value) (cq : Int32) (zc : Int32) (h0 : Heap) (n0 : Nat) (v : Option Value) (h : Heap) (L : List Loc) : Prop := v = some (.int (0 : Int32)) ∧ Fr n0 L ∧ Keep h0 h []
theorem ef_pk22 (m : MethodId) (a : Addr) (t : Addr) (b : Addr) (fq : Nat → Value) (cq : Int32) (zc : Int32) : entryFrame m #[(.ref a), (.int cq)] 2 = mkF m 0 #[.val (.ref a), .val (.int cq)] [] := by first | (simp [entryFrame, mkF, argsToLocals, Value.category]; done) | rfl
abbrev rm_pk22 : Room := ({ frames := 2, cells := 0, slots := 0, locals := 26 } : Room)
set_option maxRecDepth 65536 in
set_option maxHeartbeats 4000000 in
theorem met_pk22 (l : Launch) (Z : State) (a0 : Array Value) (hw : ∀ d ∈ tables_1, d.before a0 Z = true) (a : Addr) (t : Addr) (b : Addr) (fq : Nat → Value) (cq : Int32) (zc : Int32) (h0 : Heap) (n0 : Nat) (Z0 : n0 ≤ h0.size) (P0 : Fld Z h0 a "com/example/wirecall/wirecall/TextCursor" "pos" "I" (.int (2 : Int32))) (P1 : Fld Z h0 a "com/example/wirecall/wirecall/TextCursor" "text" "Ljava/lang/String;" (.ref t)) (P2 : Exa Z h0 t "java/lang/String") (P3 : Fld Z h0 t "java/lang/String" "value" "[B" (.ref b)) (P4 : Fld Z h0 t "java/lang/String" "coder" "B" (.int (0 : Int32))) (P5 : GA Z h0 b .byte 2 fq) (P6 : Old Z n0 h0) (P7 : Sta Z Z.heap "java/lang/String" "COMPACT_STRINGS" "Z" (.int zc)) (P8 : ¬ (zc = (0 : Int32))) :
  Met l (⟨"com/example/wirecall/wirecall/TextCursor", "peek", "(C)Z"⟩ : MethodName) prog_21_method_4_code 2 (some FieldType.boolean) [] rm_pk22 Z #[(.ref a), (.int cq)] h0 (Q_pk22 Z a t b fq cq zc h0 n0) rm_pk22.cells rm_pk22.slots := by
 refine own_body pn15 ?_
 intro p e s m below meth c s₁ ct X0 e0
 obtain ⟨hx, hZ, hown, hby, hml, hret, hlk, hnm⟩ := ct
 have N0 := Fr.nil n0
 refine castGo (ef_pk22 m a t b fq cq zc) ?_
 show Gg s₁ m 0 []
 refine go_st (fun _ kq => XS.aloadN X0.here hx rfl (hb hby d8_0) rfl rfl kq) ?_
 show Gg s₁ m 1 [(.ref a)]
 refine go_getF X0 hx hZ hown (host := "") (Or.inl (wd hw 44 rfl)) Via.refl e0 P0 (hb hby d8_1) rfl rfl ?_
 intro T210 X210 e210
 show Gg T210 m 4 [(.int (2 : Int32))]
 refine go_st (fun _ kq => XS.aloadN X210.here hx rfl (hb hby d8_4) rfl rfl kq) ?_
 show Gg T210 m 5 [(.ref a), (.int (2 : Int32))]
 refine go_getF X210 hx hZ hown (host := "") (Or.inl (wd hw 37 rfl)) Via.refl e210 P1 (hb hby d8_5) rfl rfl ?_
 intro T211 X211 e211
 show Gg T211 m 8 [(.ref t), (.int (2 : Int32))]
 refine go_callV X211 hx hZ hml hown (wd hw 46 rfl) (wd hw 47 rfl) (notFace_of_selects (args := #[]) (mvT hZ (wd hw 49 rfl))) (wd hw 49 rfl) (wd hw 48 rfl) (wd hw 50 rfl) (wd hw 6 rfl) e211 P2 (argsL := []) (rest := [(.int (2 : Int32))]) (W := 1) (met_len2 l Z a0 hw t b fq zc h0 n0 Z0 P2 P3 P4 P5 P6 P7 P8) (hb hby d8_8) rfl rfl rfl (lenOf pd9 rfl) (by show 2 * 0 + _ ≤ _; exact Nat.le_of_eq rfl) (by decide) (by decide) (by decide) (by decide) (by decide) ?_
 intro T212 v212 L212 X212 q212
 obtain ⟨rfl, M212, e212⟩ := q212
 have N212 := Fr.app N0 M212
 show Gg T212 m 11 [(.int (2 : Int32)), (.int (2 : Int32))]
 refine go_st (fun _ kq => XS.icmpYes X212.here hx rfl (pc0 := 11) (pc' := 33) rfl (hb hby d8_11) rfl (XT.ii_ge_t (by decide)) (by decide) (by decide) kq) ?_
 show Gg T212 m 33 []
 refine go_st (fun _ kq => XT.iconstV X212.here hx rfl (0 : Int32) (hb hby d8_33) (by decide) kq) ?_
 show Gg T212 m 34 [(.int (0 : Int32))]
 exact go_retB (w := (0 : Int32)) X212 hx hlk hret (hb hby d8_34) (by decide) (by decide) (by decide) (by rw [e212]; exact ⟨rfl, N212, (Keep.refl h0 [])⟩)
def Q_pk30t (Z : State) (a : Addr) (t : Addr) (b : Addr) (va : Int32) (vb : Int32) (vc : Int32) (cq : Int32) (zc : Int32) (vf : Value) (rf : vf.isRef = true) (h0 : Heap) (n0 : Nat) (v : Option Value) (h : Heap) (L : List Loc) : Prop := v = some (.int (1 : Int32)) ∧ Fr n0 L ∧ Keep h0 h []
theorem ef_pk30t (m : MethodId) (a : Addr) (t : Addr) (b : Addr) (va : Int32) (vb : Int32) (vc : Int32) (cq : Int32) (zc : Int32) (vf : Value) (rf : vf.isRef = true) : entryFrame m #[(.ref a), (.int cq)] 2 = mkF m 0 #[.val (.ref a), .val (.int cq)] [] := by first | (simp [entryFrame, mkF, argsToLocals, Value.category]; done) | rfl
abbrev rm_pk30t : Room := ({ frames := 4, cells := 0, slots := 0, locals := 53 } : Room)
set_option maxRecDepth 65536 in
set_option maxHeartbeats 4000000 in
theorem met_pk30t (l : Launch) (Z : State) (a0 : Array Value) (hw : ∀ d ∈ tables_1, d.before a0 Z = true) (a : Addr) (t : Addr) (b : Addr) (va : Int32) (vb : Int32) (vc : Int32) (cq : Int32) (zc : Int32) (vf : Value) (rf : vf.isRef = true) (h0 : Heap) (n0 : Nat) (Z0 : n0 ≤ h0.size) (P0 : Fld Z h0 a "com/example/wirecall/wirecall/TextCursor" "pos" "I" (.int (0 : Int32))) (P1 : Fld Z h0 a "com/example/wirecall/wirecall/TextCursor" "text" "Ljava/lang/String;" (.ref t)) (P2 : Exa Z h0 t "java/lang/String") (P3 : Fld Z h0 t "java/lang/String" "value" "[B" (.ref b)) (P4 : Fld Z h0 t "java/lang/String" "coder" "B" (.int (0 : Int32))) (P5 : GA Z h0 b .byte 3 (fun i => .int (own_c3 (own_by va) (own_by vb) (own_by vc) i))) (P6 : Lat va) (P7 : Lat vb) (P8 : Lat vc) (P9 : Old Z n0 h0) (P10 : Sta Z Z.heap "java/lang/String" "COMPACT_STRINGS" "Z" (.int zc)) (P11 : ¬ (zc = (0 : Int32))) (P12 : Sta Z Z.heap "jdk/internal/util/Preconditions" "SIOOBE_FORMATTER" "Ljava/util/function/BiFunction;" vf) (P13 : va = cq) :
  Met l (⟨"com/example/wirecall/wirecall/TextCursor", "peek", "(C)Z"⟩ : MethodName) prog_21_method_4_code 2 (some FieldType.boolean) [] rm_pk30t Z #[(.ref a), (.int cq)] h0 (Q_pk30t Z a t b va vb vc cq zc vf rf h0 n0) rm_pk30t.cells rm_pk30t.slots := by
 refine own_body pn15 ?_
 intro p e s m below meth c s₁ ct X0 e0
 obtain ⟨hx, hZ, hown, hby, hml, hret, hlk, hnm⟩ := ct
 have N0 := Fr.nil n0
 refine castGo (ef_pk30t m a t b va vb vc cq zc vf rf) ?_
 show Gg s₁ m 0 []
 refine go_st (fun _ kq => XS.aloadN X0.here hx rfl (hb hby d8_0) rfl rfl kq) ?_
 show Gg s₁ m 1 [(.ref a)]
 refine go_getF X0 hx hZ hown (host := "") (Or.inl (wd hw 44 rfl)) Via.refl e0 P0 (hb hby d8_1) rfl rfl ?_
 intro T213 X213 e213
 show Gg T213 m 4 [(.int (0 : Int32))]
 refine go_st (fun _ kq => XS.aloadN X213.here hx rfl (hb hby d8_4) rfl rfl kq) ?_
 show Gg T213 m 5 [(.ref a), (.int (0 : Int32))]
 refine go_getF X213 hx hZ hown (host := "") (Or.inl (wd hw 37 rfl)) Via.refl e213 P1 (hb hby d8_5) rfl rfl ?_
 intro T214 X214 e214
 show Gg T214 m 8 [(.ref t), (.int (0 : Int32))]
 refine go_callV X214 hx hZ hml hown (wd hw 46 rfl) (wd hw 47 rfl) (notFace_of_selects (args := #[]) (mvT hZ (wd hw 49 rfl))) (wd hw 49 rfl) (wd hw 48 rfl) (wd hw 50 rfl) (wd hw 6 rfl) e214 P2 (argsL := []) (rest := [(.int (0 : Int32))]) (W := 1) (met_len3 l Z a0 hw t b (fun i => .int (own_c3 (own_by va) (own_by vb) (own_by vc) i)) zc h0 n0 Z0 P2 P3 P4 P5 P9 P10 P11) (hb hby d8_8) rfl rfl rfl (lenOf pd9 rfl) (by show 2 * 0 + _ ≤ _; exact Nat.le_of_eq rfl) (by decide) (by decide) (by decide) (by decide) (by decide) ?_
 intro T215 v215 L215 X215 q215
 obtain ⟨rfl, M215, e215⟩ := q215
 have N215 := Fr.app N0 M215
 show Gg T215 m 11 [(.int (3 : Int32)), (.int (0 : Int32))]
 refine go_st (fun _ kq => XS.icmpNo X215.here hx rfl (hb hby d8_11) rfl (XT.ii_ge_f (by decide)) kq) ?_
 show Gg T215 m 14 []
 refine go_st (fun _ kq => XS.aloadN X215.here hx rfl (hb hby d8_14) rfl rfl kq) ?_
 show Gg T215 m 15 [(.ref a)]
 refine go_getF X215 hx hZ hown (host := "") (Or.inl (wd hw 37 rfl)) Via.refl e215 P1 (hb hby d8_15) rfl rfl ?_
 intro T216 X216 e216
 show Gg T216 m 18 [(.ref t)]
 refine go_st (fun _ kq => XS.aloadN X216.here hx rfl (hb hby d8_18) rfl rfl kq) ?_
 show Gg T216 m 19 [(.ref a), (.ref t)]
 refine go_getF X216 hx hZ hown (host := "") (Or.inl (wd hw 44 rfl)) Via.refl e216 P0 (hb hby d8_19) rfl rfl ?_
 intro T217 X217 e217
 show Gg T217 m 22 [(.int (0 : Int32)), (.ref t)]
 refine go_callV X217 hx hZ hml hown (wd hw 56 rfl) (wd hw 57 rfl) (notFace_of_selects (args := #[]) (mvT hZ (wd hw 59 rfl))) (wd hw 59 rfl) (wd hw 58 rfl) (wd hw 60 rfl) (wd hw 6 rfl) e217 P2 (argsL := [(.int (0 : Int32))]) (rest := []) (W := 0) (met_ca30 l Z a0 hw t b va vb vc zc vf rf h0 n0 Z0 P2 P3 P4 P5 P6 P7 P8 P9 P10 P11 P12) (hb hby d8_22) rfl rfl rfl (lenOf pd10 rfl) (by show 2 * 0 + _ ≤ _; exact Nat.le_of_eq rfl) (by decide) (by decide) (by decide) (by decide) (by decide) ?_
 intro T218 v218 L218 X218 q218
 obtain ⟨rfl, M218, K218⟩ := q218
 have N218 := Fr.app N215 M218
 show Gg T218 m 25 [(.int va)]
 refine go_st (fun _ kq => XS.iloadN X218.here hx rfl (hb hby d8_25) rfl kq) ?_
 show Gg T218 m 26 [(.int cq), (.int va)]
 refine go_st (fun _ kq => XS.icmpNo X218.here hx rfl (hb hby d8_26) rfl (XT.ii_ne_f P13) kq) ?_
 show Gg T218 m 29 []
 refine go_st (fun _ kq => XT.iconstV X218.here hx rfl (1 : Int32) (hb hby d8_29) (by decide) kq) ?_
 show Gg T218 m 30 [(.int (1 : Int32))]
 refine go_st (fun _ kq => XS.goto X218.here hx rfl (pc0 := 30) (pc' := 34) rfl (hb hby d8_30) (by decide) (by decide) kq) ?_
 show Gg T218 m 34 [(.int (1 : Int32))]
 exact go_retB (w := (1 : Int32)) X218 hx hlk hret (hb hby d8_34) (by decide) (by decide) (by decide) ⟨rfl, N218, (Keep.trans (Keep.refl h0 []) K218 all0)⟩
def Q_pk30f (Z : State) (a : Addr) (t : Addr) (b : Addr) (va : Int32) (vb : Int32) (vc : Int32) (cq : Int32) (zc : Int32) (vf : Value) (rf : vf.isRef = true) (h0 : Heap) (n0 : Nat) (v : Option Value) (h : Heap) (L : List Loc) : Prop := v = some (.int (0 : Int32)) ∧ Fr n0 L ∧ Keep h0 h []
theorem ef_pk30f (m : MethodId) (a : Addr) (t : Addr) (b : Addr) (va : Int32) (vb : Int32) (vc : Int32) (cq : Int32) (zc : Int32) (vf : Value) (rf : vf.isRef = true) : entryFrame m #[(.ref a), (.int cq)] 2 = mkF m 0 #[.val (.ref a), .val (.int cq)] [] := by first | (simp [entryFrame, mkF, argsToLocals, Value.category]; done) | rfl
abbrev rm_pk30f : Room := ({ frames := 4, cells := 0, slots := 0, locals := 53 } : Room)
set_option maxRecDepth 65536 in
set_option maxHeartbeats 4000000 in
theorem met_pk30f (l : Launch) (Z : State) (a0 : Array Value) (hw : ∀ d ∈ tables_1, d.before a0 Z = true) (a : Addr) (t : Addr) (b : Addr) (va : Int32) (vb : Int32) (vc : Int32) (cq : Int32) (zc : Int32) (vf : Value) (rf : vf.isRef = true) (h0 : Heap) (n0 : Nat) (Z0 : n0 ≤ h0.size) (P0 : Fld Z h0 a "com/example/wirecall/wirecall/TextCursor" "pos" "I" (.int (0 : Int32))) (P1 : Fld Z h0 a "com/example/wirecall/wirecall/TextCursor" "text" "Ljava/lang/String;" (.ref t)) (P2 : Exa Z h0 t "java/lang/String") (P3 : Fld Z h0 t "java/lang/String" "value" "[B" (.ref b)) (P4 : Fld Z h0 t "java/lang/String" "coder" "B" (.int (0 : Int32))) (P5 : GA Z h0 b .byte 3 (fun i => .int (own_c3 (own_by va) (own_by vb) (own_by vc) i))) (P6 : Lat va) (P7 : Lat vb) (P8 : Lat vc) (P9 : Old Z n0 h0) (P10 : Sta Z Z.heap "java/lang/String" "COMPACT_STRINGS" "Z" (.int zc)) (P11 : ¬ (zc = (0 : Int32))) (P12 : Sta Z Z.heap "jdk/internal/util/Preconditions" "SIOOBE_FORMATTER" "Ljava/util/function/BiFunction;" vf) (P13 : ¬ (va = cq)) :
  Met l (⟨"com/example/wirecall/wirecall/TextCursor", "peek", "(C)Z"⟩ : MethodName) prog_21_method_4_code 2 (some FieldType.boolean) [] rm_pk30f Z #[(.ref a), (.int cq)] h0 (Q_pk30f Z a t b va vb vc cq zc vf rf h0 n0) rm_pk30f.cells rm_pk30f.slots := by
 refine own_body pn15 ?_
 intro p e s m below meth c s₁ ct X0 e0
 obtain ⟨hx, hZ, hown, hby, hml, hret, hlk, hnm⟩ := ct
 have N0 := Fr.nil n0
 refine castGo (ef_pk30f m a t b va vb vc cq zc vf rf) ?_
 show Gg s₁ m 0 []
 refine go_st (fun _ kq => XS.aloadN X0.here hx rfl (hb hby d8_0) rfl rfl kq) ?_
 show Gg s₁ m 1 [(.ref a)]
 refine go_getF X0 hx hZ hown (host := "") (Or.inl (wd hw 44 rfl)) Via.refl e0 P0 (hb hby d8_1) rfl rfl ?_
 intro T219 X219 e219
 show Gg T219 m 4 [(.int (0 : Int32))]
 refine go_st (fun _ kq => XS.aloadN X219.here hx rfl (hb hby d8_4) rfl rfl kq) ?_
 show Gg T219 m 5 [(.ref a), (.int (0 : Int32))]
 refine go_getF X219 hx hZ hown (host := "") (Or.inl (wd hw 37 rfl)) Via.refl e219 P1 (hb hby d8_5) rfl rfl ?_
 intro T220 X220 e220
 show Gg T220 m 8 [(.ref t), (.int (0 : Int32))]
 refine go_callV X220 hx hZ hml hown (wd hw 46 rfl) (wd hw 47 rfl) (notFace_of_selects (args := #[]) (mvT hZ (wd hw 49 rfl))) (wd hw 49 rfl) (wd hw 48 rfl) (wd hw 50 rfl) (wd hw 6 rfl) e220 P2 (argsL := []) (rest := [(.int (0 : Int32))]) (W := 1) (met_len3 l Z a0 hw t b (fun i => .int (own_c3 (own_by va) (own_by vb) (own_by vc) i)) zc h0 n0 Z0 P2 P3 P4 P5 P9 P10 P11) (hb hby d8_8) rfl rfl rfl (lenOf pd9 rfl) (by show 2 * 0 + _ ≤ _; exact Nat.le_of_eq rfl) (by decide) (by decide) (by decide) (by decide) (by decide) ?_
 intro T221 v221 L221 X221 q221
 obtain ⟨rfl, M221, e221⟩ := q221
 have N221 := Fr.app N0 M221
 show Gg T221 m 11 [(.int (3 : Int32)), (.int (0 : Int32))]
 refine go_st (fun _ kq => XS.icmpNo X221.here hx rfl (hb hby d8_11) rfl (XT.ii_ge_f (by decide)) kq) ?_
 show Gg T221 m 14 []
 refine go_st (fun _ kq => XS.aloadN X221.here hx rfl (hb hby d8_14) rfl rfl kq) ?_
 show Gg T221 m 15 [(.ref a)]
 refine go_getF X221 hx hZ hown (host := "") (Or.inl (wd hw 37 rfl)) Via.refl e221 P1 (hb hby d8_15) rfl rfl ?_
 intro T222 X222 e222
 show Gg T222 m 18 [(.ref t)]
 refine go_st (fun _ kq => XS.aloadN X222.here hx rfl (hb hby d8_18) rfl rfl kq) ?_
 show Gg T222 m 19 [(.ref a), (.ref t)]
 refine go_getF X222 hx hZ hown (host := "") (Or.inl (wd hw 44 rfl)) Via.refl e222 P0 (hb hby d8_19) rfl rfl ?_
 intro T223 X223 e223
 show Gg T223 m 22 [(.int (0 : Int32)), (.ref t)]
 refine go_callV X223 hx hZ hml hown (wd hw 56 rfl) (wd hw 57 rfl) (notFace_of_selects (args := #[]) (mvT hZ (wd hw 59 rfl))) (wd hw 59 rfl) (wd hw 58 rfl) (wd hw 60 rfl) (wd hw 6 rfl) e223 P2 (argsL := [(.int (0 : Int32))]) (rest := []) (W := 0) (met_ca30 l Z a0 hw t b va vb vc zc vf rf h0 n0 Z0 P2 P3 P4 P5 P6 P7 P8 P9 P10 P11 P12) (hb hby d8_22) rfl rfl rfl (lenOf pd10 rfl) (by show 2 * 0 + _ ≤ _; exact Nat.le_of_eq rfl) (by decide) (by decide) (by decide) (by decide) (by decide) ?_
 intro T224 v224 L224 X224 q224
 obtain ⟨rfl, M224, K224⟩ := q224
 have N224 := Fr.app N221 M224
 show Gg T224 m 25 [(.int va)]
 refine go_st (fun _ kq => XS.iloadN X224.here hx rfl (hb hby d8_25) rfl kq) ?_
 show Gg T224 m 26 [(.int cq), (.int va)]
 refine go_st (fun _ kq => XS.icmpYes X224.here hx rfl (pc0 := 26) (pc' := 33) rfl (hb hby d8_26) rfl (XT.ii_ne_t P13) (by decide) (by decide) kq) ?_
 show Gg T224 m 33 []
 refine go_st (fun _ kq => XT.iconstV X224.here hx rfl (0 : Int32) (hb hby d8_33) (by decide) kq) ?_
 show Gg T224 m 34 [(.int (0 : Int32))]
 exact go_retB (w := (0 : Int32)) X224 hx hlk hret (hb hby d8_34) (by decide) (by decide) (by decide) ⟨rfl, N224, (Keep.trans (Keep.refl h0 []) K224 all0)⟩
def Q_pk31t (Z : State) (a : Addr) (t : Addr) (b : Addr) (va : Int32) (vb : Int32) (vc : Int32) (cq : Int32) (zc : Int32) (vf : Value) (rf : vf.isRef = true) (h0 : Heap) (n0 : Nat) (v : Option Value) (h : Heap) (L : List Loc) : Prop := v = some (.int (1 : Int32)) ∧ Fr n0 L ∧ Keep h0 h []
theorem ef_pk31t (m : MethodId) (a : Addr) (t : Addr) (b : Addr) (va : Int32) (vb : Int32) (vc : Int32) (cq : Int32) (zc : Int32) (vf : Value) (rf : vf.isRef = true) : entryFrame m #[(.ref a), (.int cq)] 2 = mkF m 0 #[.val (.ref a), .val (.int cq)] [] := by first | (simp [entryFrame, mkF, argsToLocals, Value.category]; done) | rfl
abbrev rm_pk31t : Room := ({ frames := 4, cells := 0, slots := 0, locals := 53 } : Room)
set_option maxRecDepth 65536 in
set_option maxHeartbeats 4000000 in
theorem met_pk31t (l : Launch) (Z : State) (a0 : Array Value) (hw : ∀ d ∈ tables_1, d.before a0 Z = true) (a : Addr) (t : Addr) (b : Addr) (va : Int32) (vb : Int32) (vc : Int32) (cq : Int32) (zc : Int32) (vf : Value) (rf : vf.isRef = true) (h0 : Heap) (n0 : Nat) (Z0 : n0 ≤ h0.size) (P0 : Fld Z h0 a "com/example/wirecall/wirecall/TextCursor" "pos" "I" (.int (1 : Int32))) (P1 : Fld Z h0 a "com/example/wirecall/wirecall/TextCursor" "text" "Ljava/lang/String;" (.ref t)) (P2 : Exa Z h0 t "java/lang/String") (P3 : Fld Z h0 t "java/lang/String" "value" "[B" (.ref b)) (P4 : Fld Z h0 t "java/lang/String" "coder" "B" (.int (0 : Int32))) (P5 : GA Z h0 b .byte 3 (fun i => .int (own_c3 (own_by va) (own_by vb) (own_by vc) i))) (P6 : Lat va) (P7 : Lat vb) (P8 : Lat vc) (P9 : Old Z n0 h0) (P10 : Sta Z Z.heap "java/lang/String" "COMPACT_STRINGS" "Z" (.int zc)) (P11 : ¬ (zc = (0 : Int32))) (P12 : Sta Z Z.heap "jdk/internal/util/Preconditions" "SIOOBE_FORMATTER" "Ljava/util/function/BiFunction;" vf) (P13 : vb = cq) :
  Met l (⟨"com/example/wirecall/wirecall/TextCursor", "peek", "(C)Z"⟩ : MethodName) prog_21_method_4_code 2 (some FieldType.boolean) [] rm_pk31t Z #[(.ref a), (.int cq)] h0 (Q_pk31t Z a t b va vb vc cq zc vf rf h0 n0) rm_pk31t.cells rm_pk31t.slots := by
 refine own_body pn15 ?_
 intro p e s m below meth c s₁ ct X0 e0
 obtain ⟨hx, hZ, hown, hby, hml, hret, hlk, hnm⟩ := ct
 have N0 := Fr.nil n0
 refine castGo (ef_pk31t m a t b va vb vc cq zc vf rf) ?_
 show Gg s₁ m 0 []
 refine go_st (fun _ kq => XS.aloadN X0.here hx rfl (hb hby d8_0) rfl rfl kq) ?_
 show Gg s₁ m 1 [(.ref a)]
 refine go_getF X0 hx hZ hown (host := "") (Or.inl (wd hw 44 rfl)) Via.refl e0 P0 (hb hby d8_1) rfl rfl ?_
 intro T225 X225 e225
 show Gg T225 m 4 [(.int (1 : Int32))]
 refine go_st (fun _ kq => XS.aloadN X225.here hx rfl (hb hby d8_4) rfl rfl kq) ?_
 show Gg T225 m 5 [(.ref a), (.int (1 : Int32))]
 refine go_getF X225 hx hZ hown (host := "") (Or.inl (wd hw 37 rfl)) Via.refl e225 P1 (hb hby d8_5) rfl rfl ?_
 intro T226 X226 e226
 show Gg T226 m 8 [(.ref t), (.int (1 : Int32))]
 refine go_callV X226 hx hZ hml hown (wd hw 46 rfl) (wd hw 47 rfl) (notFace_of_selects (args := #[]) (mvT hZ (wd hw 49 rfl))) (wd hw 49 rfl) (wd hw 48 rfl) (wd hw 50 rfl) (wd hw 6 rfl) e226 P2 (argsL := []) (rest := [(.int (1 : Int32))]) (W := 1) (met_len3 l Z a0 hw t b (fun i => .int (own_c3 (own_by va) (own_by vb) (own_by vc) i)) zc h0 n0 Z0 P2 P3 P4 P5 P9 P10 P11) (hb hby d8_8) rfl rfl rfl (lenOf pd9 rfl) (by show 2 * 0 + _ ≤ _; exact Nat.le_of_eq rfl) (by decide) (by decide) (by decide) (by decide) (by decide) ?_
 intro T227 v227 L227 X227 q227
 obtain ⟨rfl, M227, e227⟩ := q227
 have N227 := Fr.app N0 M227
 show Gg T227 m 11 [(.int (3 : Int32)), (.int (1 : Int32))]
 refine go_st (fun _ kq => XS.icmpNo X227.here hx rfl (hb hby d8_11) rfl (XT.ii_ge_f (by decide)) kq) ?_
 show Gg T227 m 14 []
 refine go_st (fun _ kq => XS.aloadN X227.here hx rfl (hb hby d8_14) rfl rfl kq) ?_
 show Gg T227 m 15 [(.ref a)]
 refine go_getF X227 hx hZ hown (host := "") (Or.inl (wd hw 37 rfl)) Via.refl e227 P1 (hb hby d8_15) rfl rfl ?_
 intro T228 X228 e228
 show Gg T228 m 18 [(.ref t)]
 refine go_st (fun _ kq => XS.aloadN X228.here hx rfl (hb hby d8_18) rfl rfl kq) ?_
 show Gg T228 m 19 [(.ref a), (.ref t)]
 refine go_getF X228 hx hZ hown (host := "") (Or.inl (wd hw 44 rfl)) Via.refl e228 P0 (hb hby d8_19) rfl rfl ?_
 intro T229 X229 e229
 show Gg T229 m 22 [(.int (1 : Int32)), (.ref t)]
 refine go_callV X229 hx hZ hml hown (wd hw 56 rfl) (wd hw 57 rfl) (notFace_of_selects (args := #[]) (mvT hZ (wd hw 59 rfl))) (wd hw 59 rfl) (wd hw 58 rfl) (wd hw 60 rfl) (wd hw 6 rfl) e229 P2 (argsL := [(.int (1 : Int32))]) (rest := []) (W := 0) (met_ca31 l Z a0 hw t b va vb vc zc vf rf h0 n0 Z0 P2 P3 P4 P5 P6 P7 P8 P9 P10 P11 P12) (hb hby d8_22) rfl rfl rfl (lenOf pd10 rfl) (by show 2 * 0 + _ ≤ _; exact Nat.le_of_eq rfl) (by decide) (by decide) (by decide) (by decide) (by decide) ?_
 intro T230 v230 L230 X230 q230
 obtain ⟨rfl, M230, K230⟩ := q230
 have N230 := Fr.app N227 M230
 show Gg T230 m 25 [(.int vb)]
 refine go_st (fun _ kq => XS.iloadN X230.here hx rfl (hb hby d8_25) rfl kq) ?_
 show Gg T230 m 26 [(.int cq), (.int vb)]
 refine go_st (fun _ kq => XS.icmpNo X230.here hx rfl (hb hby d8_26) rfl (XT.ii_ne_f P13) kq) ?_
 show Gg T230 m 29 []
 refine go_st (fun _ kq => XT.iconstV X230.here hx rfl (1 : Int32) (hb hby d8_29) (by decide) kq) ?_
 show Gg T230 m 30 [(.int (1 : Int32))]
 refine go_st (fun _ kq => XS.goto X230.here hx rfl (pc0 := 30) (pc' := 34) rfl (hb hby d8_30) (by decide) (by decide) kq) ?_
 show Gg T230 m 34 [(.int (1 : Int32))]
 exact go_retB (w := (1 : Int32)) X230 hx hlk hret (hb hby d8_34) (by decide) (by decide) (by decide) ⟨rfl, N230, (Keep.trans (Keep.refl h0 []) K230 all0)⟩
def Q_pk31f (Z : State) (a : Addr) (t : Addr) (b : Addr) (va : Int32) (vb : Int32) (vc : Int32) (cq : Int32) (zc : Int32) (vf : Value) (rf : vf.isRef = true) (h0 : Heap) (n0 : Nat) (v : Option Value) (h : Heap) (L : List Loc) : Prop := v = some (.int (0 : Int32)) ∧ Fr n0 L ∧ Keep h0 h []
theorem ef_pk31f (m : MethodId) (a : Addr) (t : Addr) (b : Addr) (va : Int32) (vb : Int32) (vc : Int32) (cq : Int32) (zc : Int32) (vf : Value) (rf : vf.isRef = true) : entryFrame m #[(.ref a), (.int cq)] 2 = mkF m 0 #[.val (.ref a), .val (.int cq)] [] := by first | (simp [entryFrame, mkF, argsToLocals, Value.category]; done) | rfl
abbrev rm_pk31f : Room := ({ frames := 4, cells := 0, slots := 0, locals := 53 } : Room)
set_option maxRecDepth 65536 in
set_option maxHeartbeats 4000000 in
theorem met_pk31f (l : Launch) (Z : State) (a0 : Array Value) (hw : ∀ d ∈ tables_1, d.before a0 Z = true) (a : Addr) (t : Addr) (b : Addr) (va : Int32) (vb : Int32) (vc : Int32) (cq : Int32) (zc : Int32) (vf : Value) (rf : vf.isRef = true) (h0 : Heap) (n0 : Nat) (Z0 : n0 ≤ h0.size) (P0 : Fld Z h0 a "com/example/wirecall/wirecall/TextCursor" "pos" "I" (.int (1 : Int32))) (P1 : Fld Z h0 a "com/example/wirecall/wirecall/TextCursor" "text" "Ljava/lang/String;" (.ref t)) (P2 : Exa Z h0 t "java/lang/String") (P3 : Fld Z h0 t "java/lang/String" "value" "[B" (.ref b)) (P4 : Fld Z h0 t "java/lang/String" "coder" "B" (.int (0 : Int32))) (P5 : GA Z h0 b .byte 3 (fun i => .int (own_c3 (own_by va) (own_by vb) (own_by vc) i))) (P6 : Lat va) (P7 : Lat vb) (P8 : Lat vc) (P9 : Old Z n0 h0) (P10 : Sta Z Z.heap "java/lang/String" "COMPACT_STRINGS" "Z" (.int zc)) (P11 : ¬ (zc = (0 : Int32))) (P12 : Sta Z Z.heap "jdk/internal/util/Preconditions" "SIOOBE_FORMATTER" "Ljava/util/function/BiFunction;" vf) (P13 : ¬ (vb = cq)) :
  Met l (⟨"com/example/wirecall/wirecall/TextCursor", "peek", "(C)Z"⟩ : MethodName) prog_21_method_4_code 2 (some FieldType.boolean) [] rm_pk31f Z #[(.ref a), (.int cq)] h0 (Q_pk31f Z a t b va vb vc cq zc vf rf h0 n0) rm_pk31f.cells rm_pk31f.slots := by
 refine own_body pn15 ?_
 intro p e s m below meth c s₁ ct X0 e0
 obtain ⟨hx, hZ, hown, hby, hml, hret, hlk, hnm⟩ := ct
 have N0 := Fr.nil n0
 refine castGo (ef_pk31f m a t b va vb vc cq zc vf rf) ?_
 show Gg s₁ m 0 []
 refine go_st (fun _ kq => XS.aloadN X0.here hx rfl (hb hby d8_0) rfl rfl kq) ?_
 show Gg s₁ m 1 [(.ref a)]
 refine go_getF X0 hx hZ hown (host := "") (Or.inl (wd hw 44 rfl)) Via.refl e0 P0 (hb hby d8_1) rfl rfl ?_
 intro T231 X231 e231
 show Gg T231 m 4 [(.int (1 : Int32))]
 refine go_st (fun _ kq => XS.aloadN X231.here hx rfl (hb hby d8_4) rfl rfl kq) ?_
 show Gg T231 m 5 [(.ref a), (.int (1 : Int32))]
 refine go_getF X231 hx hZ hown (host := "") (Or.inl (wd hw 37 rfl)) Via.refl e231 P1 (hb hby d8_5) rfl rfl ?_
 intro T232 X232 e232
 show Gg T232 m 8 [(.ref t), (.int (1 : Int32))]
 refine go_callV X232 hx hZ hml hown (wd hw 46 rfl) (wd hw 47 rfl) (notFace_of_selects (args := #[]) (mvT hZ (wd hw 49 rfl))) (wd hw 49 rfl) (wd hw 48 rfl) (wd hw 50 rfl) (wd hw 6 rfl) e232 P2 (argsL := []) (rest := [(.int (1 : Int32))]) (W := 1) (met_len3 l Z a0 hw t b (fun i => .int (own_c3 (own_by va) (own_by vb) (own_by vc) i)) zc h0 n0 Z0 P2 P3 P4 P5 P9 P10 P11) (hb hby d8_8) rfl rfl rfl (lenOf pd9 rfl) (by show 2 * 0 + _ ≤ _; exact Nat.le_of_eq rfl) (by decide) (by decide) (by decide) (by decide) (by decide) ?_
 intro T233 v233 L233 X233 q233
 obtain ⟨rfl, M233, e233⟩ := q233
 have N233 := Fr.app N0 M233
 show Gg T233 m 11 [(.int (3 : Int32)), (.int (1 : Int32))]
 refine go_st (fun _ kq => XS.icmpNo X233.here hx rfl (hb hby d8_11) rfl (XT.ii_ge_f (by decide)) kq) ?_
 show Gg T233 m 14 []
 refine go_st (fun _ kq => XS.aloadN X233.here hx rfl (hb hby d8_14) rfl rfl kq) ?_
 show Gg T233 m 15 [(.ref a)]
 refine go_getF X233 hx hZ hown (host := "") (Or.inl (wd hw 37 rfl)) Via.refl e233 P1 (hb hby d8_15) rfl rfl ?_
 intro T234 X234 e234
 show Gg T234 m 18 [(.ref t)]
 refine go_st (fun _ kq => XS.aloadN X234.here hx rfl (hb hby d8_18) rfl rfl kq) ?_
 show Gg T234 m 19 [(.ref a), (.ref t)]
 refine go_getF X234 hx hZ hown (host := "") (Or.inl (wd hw 44 rfl)) Via.refl e234 P0 (hb hby d8_19) rfl rfl ?_
 intro T235 X235 e235
 show Gg T235 m 22 [(.int (1 : Int32)), (.ref t)]
 refine go_callV X235 hx hZ hml hown (wd hw 56 rfl) (wd hw 57 rfl) (notFace_of_selects (args := #[]) (mvT hZ (wd hw 59 rfl))) (wd hw 59 rfl) (wd hw 58 rfl) (wd hw 60 rfl) (wd hw 6 rfl) e235 P2 (argsL := [(.int (1 : Int32))]) (rest := []) (W := 0) (met_ca31 l Z a0 hw t b va vb vc zc vf rf h0 n0 Z0 P2 P3 P4 P5 P6 P7 P8 P9 P10 P11 P12) (hb hby d8_22) rfl rfl rfl (lenOf pd10 rfl) (by show 2 * 0 + _ ≤ _; exact Nat.le_of_eq rfl) (by decide) (by decide) (by decide) (by decide) (by decide) ?_
 intro T236 v236 L236 X236 q236
 obtain ⟨rfl, M236, K236⟩ := q236
 have N236 := Fr.app N233 M236
 show Gg T236 m 25 [(.int vb)]
 refine go_st (fun _ kq => XS.iloadN X236.here hx rfl (hb hby d8_25) rfl kq) ?_
 show Gg T236 m 26 [(.int cq), (.int vb)]
 refine go_st (fun _ kq => XS.icmpYes X236.here hx rfl (pc0 := 26) (pc' := 33) rfl (hb hby d8_26) rfl (XT.ii_ne_t P13) (by decide) (by decide) kq) ?_
 show Gg T236 m 33 []
 refine go_st (fun _ kq => XT.iconstV X236.here hx rfl (0 : Int32) (hb hby d8_33) (by decide) kq) ?_
 show Gg T236 m 34 [(.int (0 : Int32))]
 exact go_retB (w := (0 : Int32)) X236 hx hlk hret (hb hby d8_34) (by decide) (by decide) (by decide) ⟨rfl, N236, (Keep.trans (Keep.refl h0 []) K236 all0)⟩
def Q_pk32t (Z : State) (a : Addr) (t : Addr) (b : Addr) (va : Int32) (vb : Int32) (vc : Int32) (cq : Int32) (zc : Int32) (vf : Value) (rf : vf.isRef = true) (h0 : Heap) (n0 : Nat) (v : Option Value) (h : Heap) (L : List Loc) : Prop := v = some (.int (1 : Int32)) ∧ Fr n0 L ∧ Keep h0 h []
theorem ef_pk32t (m : MethodId) (a : Addr) (t : Addr) (b : Addr) (va : Int32) (vb : Int32) (vc : Int32) (cq : Int32) (zc : Int32) (vf : Value) (rf : vf.isRef = true) : entryFrame m #[(.ref a), (.int cq)] 2 = mkF m 0 #[.val (.ref a), .val (.int cq)] [] := by first | (simp [entryFrame, mkF, argsToLocals, Value.category]; done) | rfl
abbrev rm_pk32t : Room := ({ frames := 4, cells := 0, slots := 0, locals := 53 } : Room)
set_option maxRecDepth 65536 in
set_option maxHeartbeats 4000000 in
theorem met_pk32t (l : Launch) (Z : State) (a0 : Array Value) (hw : ∀ d ∈ tables_1, d.before a0 Z = true) (a : Addr) (t : Addr) (b : Addr) (va : Int32) (vb : Int32) (vc : Int32) (cq : Int32) (zc : Int32) (vf : Value) (rf : vf.isRef = true) (h0 : Heap) (n0 : Nat) (Z0 : n0 ≤ h0.size) (P0 : Fld Z h0 a "com/example/wirecall/wirecall/TextCursor" "pos" "I" (.int (2 : Int32))) (P1 : Fld Z h0 a "com/example/wirecall/wirecall/TextCursor" "text" "Ljava/lang/String;" (.ref t)) (P2 : Exa Z h0 t "java/lang/String") (P3 : Fld Z h0 t "java/lang/String" "value" "[B" (.ref b)) (P4 : Fld Z h0 t "java/lang/String" "coder" "B" (.int (0 : Int32))) (P5 : GA Z h0 b .byte 3 (fun i => .int (own_c3 (own_by va) (own_by vb) (own_by vc) i))) (P6 : Lat va) (P7 : Lat vb) (P8 : Lat vc) (P9 : Old Z n0 h0) (P10 : Sta Z Z.heap "java/lang/String" "COMPACT_STRINGS" "Z" (.int zc)) (P11 : ¬ (zc = (0 : Int32))) (P12 : Sta Z Z.heap "jdk/internal/util/Preconditions" "SIOOBE_FORMATTER" "Ljava/util/function/BiFunction;" vf) (P13 : vc = cq) :
  Met l (⟨"com/example/wirecall/wirecall/TextCursor", "peek", "(C)Z"⟩ : MethodName) prog_21_method_4_code 2 (some FieldType.boolean) [] rm_pk32t Z #[(.ref a), (.int cq)] h0 (Q_pk32t Z a t b va vb vc cq zc vf rf h0 n0) rm_pk32t.cells rm_pk32t.slots := by
 refine own_body pn15 ?_
 intro p e s m below meth c s₁ ct X0 e0
 obtain ⟨hx, hZ, hown, hby, hml, hret, hlk, hnm⟩ := ct
 have N0 := Fr.nil n0
 refine castGo (ef_pk32t m a t b va vb vc cq zc vf rf) ?_
 show Gg s₁ m 0 []
 refine go_st (fun _ kq => XS.aloadN X0.here hx rfl (hb hby d8_0) rfl rfl kq) ?_
 show Gg s₁ m 1 [(.ref a)]
 refine go_getF X0 hx hZ hown (host := "") (Or.inl (wd hw 44 rfl)) Via.refl e0 P0 (hb hby d8_1) rfl rfl ?_
 intro T237 X237 e237
 show Gg T237 m 4 [(.int (2 : Int32))]
 refine go_st (fun _ kq => XS.aloadN X237.here hx rfl (hb hby d8_4) rfl rfl kq) ?_
 show Gg T237 m 5 [(.ref a), (.int (2 : Int32))]
 refine go_getF X237 hx hZ hown (host := "") (Or.inl (wd hw 37 rfl)) Via.refl e237 P1 (hb hby d8_5) rfl rfl ?_
 intro T238 X238 e238
 show Gg T238 m 8 [(.ref t), (.int (2 : Int32))]
 refine go_callV X238 hx hZ hml hown (wd hw 46 rfl) (wd hw 47 rfl) (notFace_of_selects (args := #[]) (mvT hZ (wd hw 49 rfl))) (wd hw 49 rfl) (wd hw 48 rfl) (wd hw 50 rfl) (wd hw 6 rfl) e238 P2 (argsL := []) (rest := [(.int (2 : Int32))]) (W := 1) (met_len3 l Z a0 hw t b (fun i => .int (own_c3 (own_by va) (own_by vb) (own_by vc) i)) zc h0 n0 Z0 P2 P3 P4 P5 P9 P10 P11) (hb hby d8_8) rfl rfl rfl (lenOf pd9 rfl) (by show 2 * 0 + _ ≤ _; exact Nat.le_of_eq rfl) (by decide) (by decide) (by decide) (by decide) (by decide) ?_
 intro T239 v239 L239 X239 q239
 obtain ⟨rfl, M239, e239⟩ := q239
 have N239 := Fr.app N0 M239
 show Gg T239 m 11 [(.int (3 : Int32)), (.int (2 : Int32))]
 refine go_st (fun _ kq => XS.icmpNo X239.here hx rfl (hb hby d8_11) rfl (XT.ii_ge_f (by decide)) kq) ?_
 show Gg T239 m 14 []
 refine go_st (fun _ kq => XS.aloadN X239.here hx rfl (hb hby d8_14) rfl rfl kq) ?_
 show Gg T239 m 15 [(.ref a)]
 refine go_getF X239 hx hZ hown (host := "") (Or.inl (wd hw 37 rfl)) Via.refl e239 P1 (hb hby d8_15) rfl rfl ?_
 intro T240 X240 e240
 show Gg T240 m 18 [(.ref t)]
 refine go_st (fun _ kq => XS.aloadN X240.here hx rfl (hb hby d8_18) rfl rfl kq) ?_
 show Gg T240 m 19 [(.ref a), (.ref t)]
 refine go_getF X240 hx hZ hown (host := "") (Or.inl (wd hw 44 rfl)) Via.refl e240 P0 (hb hby d8_19) rfl rfl ?_
 intro T241 X241 e241
 show Gg T241 m 22 [(.int (2 : Int32)), (.ref t)]
 refine go_callV X241 hx hZ hml hown (wd hw 56 rfl) (wd hw 57 rfl) (notFace_of_selects (args := #[]) (mvT hZ (wd hw 59 rfl))) (wd hw 59 rfl) (wd hw 58 rfl) (wd hw 60 rfl) (wd hw 6 rfl) e241 P2 (argsL := [(.int (2 : Int32))]) (rest := []) (W := 0) (met_ca32 l Z a0 hw t b va vb vc zc vf rf h0 n0 Z0 P2 P3 P4 P5 P6 P7 P8 P9 P10 P11 P12) (hb hby d8_22) rfl rfl rfl (lenOf pd10 rfl) (by show 2 * 0 + _ ≤ _; exact Nat.le_of_eq rfl) (by decide) (by decide) (by decide) (by decide) (by decide) ?_
 intro T242 v242 L242 X242 q242
 obtain ⟨rfl, M242, K242⟩ := q242
 have N242 := Fr.app N239 M242
 show Gg T242 m 25 [(.int vc)]
 refine go_st (fun _ kq => XS.iloadN X242.here hx rfl (hb hby d8_25) rfl kq) ?_
 show Gg T242 m 26 [(.int cq), (.int vc)]
 refine go_st (fun _ kq => XS.icmpNo X242.here hx rfl (hb hby d8_26) rfl (XT.ii_ne_f P13) kq) ?_
 show Gg T242 m 29 []
 refine go_st (fun _ kq => XT.iconstV X242.here hx rfl (1 : Int32) (hb hby d8_29) (by decide) kq) ?_
 show Gg T242 m 30 [(.int (1 : Int32))]
 refine go_st (fun _ kq => XS.goto X242.here hx rfl (pc0 := 30) (pc' := 34) rfl (hb hby d8_30) (by decide) (by decide) kq) ?_
 show Gg T242 m 34 [(.int (1 : Int32))]
 exact go_retB (w := (1 : Int32)) X242 hx hlk hret (hb hby d8_34) (by decide) (by decide) (by decide) ⟨rfl, N242, (Keep.trans (Keep.refl h0 []) K242 all0)⟩
def Q_pk32f (Z : State) (a : Addr) (t : Addr) (b : Addr) (va : Int32) (vb : Int32) (vc : Int32) (cq : Int32) (zc : Int32) (vf : Value) (rf : vf.isRef = true) (h0 : Heap) (n0 : Nat) (v : Option Value) (h : Heap) (L : List Loc) : Prop := v = some (.int (0 : Int32)) ∧ Fr n0 L ∧ Keep h0 h []
theorem ef_pk32f (m : MethodId) (a : Addr) (t : Addr) (b : Addr) (va : Int32) (vb : Int32) (vc : Int32) (cq : Int32) (zc : Int32) (vf : Value) (rf : vf.isRef = true) : entryFrame m #[(.ref a), (.int cq)] 2 = mkF m 0 #[.val (.ref a), .val (.int cq)] [] := by first | (simp [entryFrame, mkF, argsToLocals, Value.category]; done) | rfl
abbrev rm_pk32f : Room := ({ frames := 4, cells := 0, slots := 0, locals := 53 } : Room)
set_option maxRecDepth 65536 in
set_option maxHeartbeats 4000000 in
theorem met_pk32f (l : Launch) (Z : State) (a0 : Array Value) (hw : ∀ d ∈ tables_1, d.before a0 Z = true) (a : Addr) (t : Addr) (b : Addr) (va : Int32) (vb : Int32) (vc : Int32) (cq : Int32) (zc : Int32) (vf : Value) (rf : vf.isRef = true) (h0 : Heap) (n0 : Nat) (Z0 : n0 ≤ h0.size) (P0 : Fld Z h0 a "com/example/wirecall/wirecall/TextCursor" "pos" "I" (.int (2 : Int32))) (P1 : Fld Z h0 a "com/example/wirecall/wirecall/TextCursor" "text" "Ljava/lang/String;" (.ref t)) (P2 : Exa Z h0 t "java/lang/String") (P3 : Fld Z h0 t "java/lang/String" "value" "[B" (.ref b)) (P4 : Fld Z h0 t "java/lang/String" "coder" "B" (.int (0 : Int32))) (P5 : GA Z h0 b .byte 3 (fun i => .int (own_c3 (own_by va) (own_by vb) (own_by vc) i))) (P6 : Lat va) (P7 : Lat vb) (P8 : Lat vc) (P9 : Old Z n0 h0) (P10 : Sta Z Z.heap "java/lang/String" "COMPACT_STRINGS" "Z" (.int zc)) (P11 : ¬ (zc = (0 : Int32))) (P12 : Sta Z Z.heap "jdk/internal/util/Preconditions" "SIOOBE_FORMATTER" "Ljava/util/function/BiFunction;" vf) (P13 : ¬ (vc = cq)) :
  Met l (⟨"com/example/wirecall/wirecall/TextCursor", "peek", "(C)Z"⟩ : MethodName) prog_21_method_4_code 2 (some FieldType.boolean) [] rm_pk32f Z #[(.ref a), (.int cq)] h0 (Q_pk32f Z a t b va vb vc cq zc vf rf h0 n0) rm_pk32f.cells rm_pk32f.slots := by
 refine own_body pn15 ?_
 intro p e s m below meth c s₁ ct X0 e0
 obtain ⟨hx, hZ, hown, hby, hml, hret, hlk, hnm⟩ := ct
 have N0 := Fr.nil n0
 refine castGo (ef_pk32f m a t b va vb vc cq zc vf rf) ?_
 show Gg s₁ m 0 []
 refine go_st (fun _ kq => XS.aloadN X0.here hx rfl (hb hby d8_0) rfl rfl kq) ?_
 show Gg s₁ m 1 [(.ref a)]
 refine go_getF X0 hx hZ hown (host := "") (Or.inl (wd hw 44 rfl)) Via.refl e0 P0 (hb hby d8_1) rfl rfl ?_
 intro T243 X243 e243
 show Gg T243 m 4 [(.int (2 : Int32))]
 refine go_st (fun _ kq => XS.aloadN X243.here hx rfl (hb hby d8_4) rfl rfl kq) ?_
 show Gg T243 m 5 [(.ref a), (.int (2 : Int32))]
 refine go_getF X243 hx hZ hown (host := "") (Or.inl (wd hw 37 rfl)) Via.refl e243 P1 (hb hby d8_5) rfl rfl ?_
 intro T244 X244 e244
 show Gg T244 m 8 [(.ref t), (.int (2 : Int32))]
 refine go_callV X244 hx hZ hml hown (wd hw 46 rfl) (wd hw 47 rfl) (notFace_of_selects (args := #[]) (mvT hZ (wd hw 49 rfl))) (wd hw 49 rfl) (wd hw 48 rfl) (wd hw 50 rfl) (wd hw 6 rfl) e244 P2 (argsL := []) (rest := [(.int (2 : Int32))]) (W := 1) (met_len3 l Z a0 hw t b (fun i => .int (own_c3 (own_by va) (own_by vb) (own_by vc) i)) zc h0 n0 Z0 P2 P3 P4 P5 P9 P10 P11) (hb hby d8_8) rfl rfl rfl (lenOf pd9 rfl) (by show 2 * 0 + _ ≤ _; exact Nat.le_of_eq rfl) (by decide) (by decide) (by decide) (by decide) (by decide) ?_
 intro T245 v245 L245 X245 q245
 obtain ⟨rfl, M245, e245⟩ := q245
 have N245 := Fr.app N0 M245
 show Gg T245 m 11 [(.int (3 : Int32)), (.int (2 : Int32))]
 refine go_st (fun _ kq => XS.icmpNo X245.here hx rfl (hb hby d8_11) rfl (XT.ii_ge_f (by decide)) kq) ?_
 show Gg T245 m 14 []
 refine go_st (fun _ kq => XS.aloadN X245.here hx rfl (hb hby d8_14) rfl rfl kq) ?_
 show Gg T245 m 15 [(.ref a)]
 refine go_getF X245 hx hZ hown (host := "") (Or.inl (wd hw 37 rfl)) Via.refl e245 P1 (hb hby d8_15) rfl rfl ?_
 intro T246 X246 e246
 show Gg T246 m 18 [(.ref t)]
 refine go_st (fun _ kq => XS.aloadN X246.here hx rfl (hb hby d8_18) rfl rfl kq) ?_
 show Gg T246 m 19 [(.ref a), (.ref t)]
 refine go_getF X246 hx hZ hown (host := "") (Or.inl (wd hw 44 rfl)) Via.refl e246 P0 (hb hby d8_19) rfl rfl ?_
 intro T247 X247 e247
 show Gg T247 m 22 [(.int (2 : Int32)), (.ref t)]
 refine go_callV X247 hx hZ hml hown (wd hw 56 rfl) (wd hw 57 rfl) (notFace_of_selects (args := #[]) (mvT hZ (wd hw 59 rfl))) (wd hw 59 rfl) (wd hw 58 rfl) (wd hw 60 rfl) (wd hw 6 rfl) e247 P2 (argsL := [(.int (2 : Int32))]) (rest := []) (W := 0) (met_ca32 l Z a0 hw t b va vb vc zc vf rf h0 n0 Z0 P2 P3 P4 P5 P6 P7 P8 P9 P10 P11 P12) (hb hby d8_22) rfl rfl rfl (lenOf pd10 rfl) (by show 2 * 0 + _ ≤ _; exact Nat.le_of_eq rfl) (by decide) (by decide) (by decide) (by decide) (by decide) ?_
 intro T248 v248 L248 X248 q248
 obtain ⟨rfl, M248, K248⟩ := q248
 have N248 := Fr.app N245 M248
 show Gg T248 m 25 [(.int vc)]
 refine go_st (fun _ kq => XS.iloadN X248.here hx rfl (hb hby d8_25) rfl kq) ?_
 show Gg T248 m 26 [(.int cq), (.int vc)]
 refine go_st (fun _ kq => XS.icmpYes X248.here hx rfl (pc0 := 26) (pc' := 33) rfl (hb hby d8_26) rfl (XT.ii_ne_t P13) (by decide) (by decide) kq) ?_
 show Gg T248 m 33 []
 refine go_st (fun _ kq => XT.iconstV X248.here hx rfl (0 : Int32) (hb hby d8_33) (by decide) kq) ?_
 show Gg T248 m 34 [(.int (0 : Int32))]
 exact go_retB (w := (0 : Int32)) X248 hx hlk hret (hb hby d8_34) (by decide) (by decide) (by decide) ⟨rfl, N248, (Keep.trans (Keep.refl h0 []) K248 all0)⟩
def Q_pk33 (Z : State) (a : Addr) (t : Addr) (b : Addr) (fq : Nat → Value) (cq : Int32) (zc : Int32) (h0 : Heap) (n0 : Nat) (v : Option Value) (h : Heap) (L : List Loc) : Prop := v = some (.int (0 : Int32)) ∧ Fr n0 L ∧ Keep h0 h []
theorem ef_pk33 (m : MethodId) (a : Addr) (t : Addr) (b : Addr) (fq : Nat → Value) (cq : Int32) (zc : Int32) : entryFrame m #[(.ref a), (.int cq)] 2 = mkF m 0 #[.val (.ref a), .val (.int cq)] [] := by first | (simp [entryFrame, mkF, argsToLocals, Value.category]; done) | rfl
abbrev rm_pk33 : Room := ({ frames := 2, cells := 0, slots := 0, locals := 26 } : Room)
set_option maxRecDepth 65536 in
set_option maxHeartbeats 4000000 in
theorem met_pk33 (l : Launch) (Z : State) (a0 : Array Value) (hw : ∀ d ∈ tables_1, d.before a0 Z = true) (a : Addr) (t : Addr) (b : Addr) (fq : Nat → Value) (cq : Int32) (zc : Int32) (h0 : Heap) (n0 : Nat) (Z0 : n0 ≤ h0.size) (P0 : Fld Z h0 a "com/example/wirecall/wirecall/TextCursor" "pos" "I" (.int (3 : Int32))) (P1 : Fld Z h0 a "com/example/wirecall/wirecall/TextCursor" "text" "Ljava/lang/String;" (.ref t)) (P2 : Exa Z h0 t "java/lang/String") (P3 : Fld Z h0 t "java/lang/String" "value" "[B" (.ref b)) (P4 : Fld Z h0 t "java/lang/String" "coder" "B" (.int (0 : Int32))) (P5 : GA Z h0 b .byte 3 fq) (P6 : Old Z n0 h0) (P7 : Sta Z Z.heap "java/lang/String" "COMPACT_STRINGS" "Z" (.int zc)) (P8 : ¬ (zc = (0 : Int32))) :
  Met l (⟨"com/example/wirecall/wirecall/TextCursor", "peek", "(C)Z"⟩ : MethodName) prog_21_method_4_code 2 (some FieldType.boolean) [] rm_pk33 Z #[(.ref a), (.int cq)] h0 (Q_pk33 Z a t b fq cq zc h0 n0) rm_pk33.cells rm_pk33.slots := by
 refine own_body pn15 ?_
 intro p e s m below meth c s₁ ct X0 e0
 obtain ⟨hx, hZ, hown, hby, hml, hret, hlk, hnm⟩ := ct
 have N0 := Fr.nil n0
 refine castGo (ef_pk33 m a t b fq cq zc) ?_
 show Gg s₁ m 0 []
 refine go_st (fun _ kq => XS.aloadN X0.here hx rfl (hb hby d8_0) rfl rfl kq) ?_
 show Gg s₁ m 1 [(.ref a)]
 refine go_getF X0 hx hZ hown (host := "") (Or.inl (wd hw 44 rfl)) Via.refl e0 P0 (hb hby d8_1) rfl rfl ?_
 intro T249 X249 e249
 show Gg T249 m 4 [(.int (3 : Int32))]
 refine go_st (fun _ kq => XS.aloadN X249.here hx rfl (hb hby d8_4) rfl rfl kq) ?_
 show Gg T249 m 5 [(.ref a), (.int (3 : Int32))]
 refine go_getF X249 hx hZ hown (host := "") (Or.inl (wd hw 37 rfl)) Via.refl e249 P1 (hb hby d8_5) rfl rfl ?_
 intro T250 X250 e250
 show Gg T250 m 8 [(.ref t), (.int (3 : Int32))]
 refine go_callV X250 hx hZ hml hown (wd hw 46 rfl) (wd hw 47 rfl) (notFace_of_selects (args := #[]) (mvT hZ (wd hw 49 rfl))) (wd hw 49 rfl) (wd hw 48 rfl) (wd hw 50 rfl) (wd hw 6 rfl) e250 P2 (argsL := []) (rest := [(.int (3 : Int32))]) (W := 1) (met_len3 l Z a0 hw t b fq zc h0 n0 Z0 P2 P3 P4 P5 P6 P7 P8) (hb hby d8_8) rfl rfl rfl (lenOf pd9 rfl) (by show 2 * 0 + _ ≤ _; exact Nat.le_of_eq rfl) (by decide) (by decide) (by decide) (by decide) (by decide) ?_
 intro T251 v251 L251 X251 q251
 obtain ⟨rfl, M251, e251⟩ := q251
 have N251 := Fr.app N0 M251
 show Gg T251 m 11 [(.int (3 : Int32)), (.int (3 : Int32))]
 refine go_st (fun _ kq => XS.icmpYes X251.here hx rfl (pc0 := 11) (pc' := 33) rfl (hb hby d8_11) rfl (XT.ii_ge_t (by decide)) (by decide) (by decide) kq) ?_
 show Gg T251 m 33 []
 refine go_st (fun _ kq => XT.iconstV X251.here hx rfl (0 : Int32) (hb hby d8_33) (by decide) kq) ?_
 show Gg T251 m 34 [(.int (0 : Int32))]
 exact go_retB (w := (0 : Int32)) X251 hx hlk hret (hb hby d8_34) (by decide) (by decide) (by decide) (by rw [e251]; exact ⟨rfl, N251, (Keep.refl h0 [])⟩)
theorem d18_0 : decode jdk_29_method_69_code 0 = .ok (.iload_n 0, 1) := by decide +kernel
theorem d18_1 : decode jdk_29_method_69_code 1 = .ok (.iload_n 1, 1) := by decide +kernel
theorem d18_2 : decode jdk_29_method_69_code 2 = .ok (.if_icmp .gt 7, 3) := by decide +kernel
theorem d18_5 : decode jdk_29_method_69_code 5 = .ok (.iload_n 0, 1) := by decide +kernel
theorem d18_6 : decode jdk_29_method_69_code 6 = .ok (.goto 4, 3) := by decide +kernel
theorem d18_9 : decode jdk_29_method_69_code 9 = .ok (.iload_n 1, 1) := by decide +kernel
theorem d18_10 : decode jdk_29_method_69_code 10 = .ok (.ireturn, 1) := by decide +kernel
theorem pn16 : plainFor (⟨"java/lang/Math", "min", "(II)I"⟩ : MethodName) = true := by first | (refine plainFor_of_name ?_; simp [plainName, overriddenIn]; done) | (refine plainFor_of_name ?_; decide +kernel) | decide +kernel
def fMin (x0 : Int32) (x1 : Int32) : Int32 := (if x1 < x0 then x1 else x0)
theorem ef_18 (m : MethodId) (x0 : Int32) (x1 : Int32) : entryFrame m #[(.int x0), (.int x1)] 2 = mkF m 0 #[.val (.int x0), .val (.int x1)] [] := by first | (simp [entryFrame, mkF, argsToLocals, Value.category]; done) | rfl
abbrev rm_18 : Room := ({ frames := 0, cells := 0, slots := 0, locals := 0 } : Room)
set_option maxRecDepth 65536 in
set_option maxHeartbeats 4000000 in
theorem met_18 (l : Launch) (Z : State) (a0 : Array Value) (hw : ∀ d ∈ tables_1, d.before a0 Z = true) (x0 : Int32) (x1 : Int32) (h0 : Heap) (n0 : Nat) :
  Met l (⟨"java/lang/Math", "min", "(II)I"⟩ : MethodName) jdk_29_method_69_code 2 (some FieldType.int) [] rm_18 Z #[(.int x0), (.int x1)] h0 (QV (some (.int (fMin x0 x1))) h0 n0) 0 0 := by
 refine own_body pn16 ?_
 intro p e s m below meth c s₁ ct X0 e0
 obtain ⟨hx, hZ, hown, hby, hml, hret, hlk, hnm⟩ := ct
 have N0 := Fr.nil n0
 refine castGo (ef_18 m x0 x1) ?_
 unfold fMin
 show Gg s₁ m 0 []
 refine go_st (fun _ kq => XS.iloadN X0.here hx rfl (hb hby d18_0) rfl kq) ?_
 show Gg s₁ m 1 [(.int x0)]
 refine go_st (fun _ kq => XS.iloadN X0.here hx rfl (hb hby d18_1) rfl kq) ?_
 show Gg s₁ m 2 [(.int x1), (.int x0)]
 by_cases hc252 : x1 < x0
 ·rw [if_pos hc252]
  refine go_st (fun _ kq => XS.icmpYes X0.here hx rfl (pc0 := 2) (pc' := 9) rfl (hb hby d18_2) rfl (XT.ii_gt_t hc252) (by decide) (by decide) kq) ?_
  show Gg s₁ m 9 []
  refine go_st (fun _ kq => XS.iloadN X0.here hx rfl (hb hby d18_9) rfl kq) ?_
  show Gg s₁ m 10 [(.int x1)]
  exact go_retI X0 hx hlk hret (hb hby d18_10) (by decide) (by decide) ⟨rfl, N0, e0⟩
 ·rw [if_neg hc252]
  refine go_st (fun _ kq => XS.icmpNo X0.here hx rfl (hb hby d18_2) rfl (XT.ii_gt_f hc252) kq) ?_
  show Gg s₁ m 5 []
  refine go_st (fun _ kq => XS.iloadN X0.here hx rfl (hb hby d18_5) rfl kq) ?_
  show Gg s₁ m 6 [(.int x0)]
  refine go_st (fun _ kq => XS.goto X0.here hx rfl (pc0 := 6) (pc' := 10) rfl (hb hby d18_6) (by decide) (by decide) kq) ?_
  show Gg s₁ m 10 [(.int x0)]
  exact go_retI X0 hx hlk hret (hb hby d18_10) (by decide) (by decide) ⟨rfl, N0, e0⟩
theorem own_a3 (x : Int32) : (x &&& (3 : Int32)) = (0 : Int32) ∨ (x &&& (3 : Int32)) = (1 : Int32) ∨ (x &&& (3 : Int32)) = (2 : Int32) ∨ (x &&& (3 : Int32)) = (3 : Int32) := by
  have h := c_mask x 3 2 (by decide) (by decide)
  have e0 : (0 : Int32).toInt = 0 := rfl
  have e1 : (1 : Int32).toInt = 1 := rfl
  have e2 : (2 : Int32).toInt = 2 := rfl
  have e3 : (3 : Int32).toInt = 3 := rfl
  rw [← Int32.toInt_inj, ← Int32.toInt_inj, ← Int32.toInt_inj, ← Int32.toInt_inj, e0, e1, e2, e3]
  omega
theorem own_dn (x : Int32) (h0 : ¬ ((x &&& (3 : Int32)) = (0 : Int32))) (h1 : ¬ ((x &&& (3 : Int32)) = (1 : Int32))) (h2 : ¬ ((x &&& (3 : Int32)) = (2 : Int32))) (h3 : ¬ ((x &&& (3 : Int32)) = (3 : Int32))) : False := by
  rcases own_a3 x with q | q | q | q
  · exact h0 q
  · exact h1 q
  · exact h2 q
  · exact h3 q
theorem own_dk1 (x : Int32) (h0 : ¬ (((x &&& (3 : Int32)) % (1 : Int32)) = (0 : Int32))) : False := by
  rcases own_a3 x with q | q | q | q
  · exact h0 (by rw [q]; decide)
  · exact h0 (by rw [q]; decide)
  · exact h0 (by rw [q]; decide)
  · exact h0 (by rw [q]; decide)
theorem own_dk2 (x : Int32) (h0 : ¬ (((x &&& (3 : Int32)) % (2 : Int32)) = (0 : Int32))) (h1 : ¬ (((x &&& (3 : Int32)) % (2 : Int32)) = (1 : Int32))) : False := by
  rcases own_a3 x with q | q | q | q
  · exact h0 (by rw [q]; decide)
  · exact h1 (by rw [q]; decide)
  · exact h0 (by rw [q]; decide)
  · exact h1 (by rw [q]; decide)
theorem own_dk3 (x : Int32) (h0 : ¬ (((x &&& (3 : Int32)) % (3 : Int32)) = (0 : Int32))) (h1 : ¬ (((x &&& (3 : Int32)) % (3 : Int32)) = (1 : Int32))) (h2 : ¬ (((x &&& (3 : Int32)) % (3 : Int32)) = (2 : Int32))) : False := by
  rcases own_a3 x with q | q | q | q
  · exact h0 (by rw [q]; decide)
  · exact h1 (by rw [q]; decide)
  · exact h2 (by rw [q]; decide)
  · exact h0 (by rw [q]; decide)
theorem own_dk4 (x : Int32) (h0 : ¬ (((x &&& (3 : Int32)) % (4 : Int32)) = (0 : Int32))) (h1 : ¬ (((x &&& (3 : Int32)) % (4 : Int32)) = (1 : Int32))) (h2 : ¬ (((x &&& (3 : Int32)) % (4 : Int32)) = (2 : Int32))) (h3 : ¬ (((x &&& (3 : Int32)) % (4 : Int32)) = (3 : Int32))) : False := by
  rcases own_a3 x with q | q | q | q
  · exact h0 (by rw [q]; decide)
  · exact h1 (by rw [q]; decide)
  · exact h2 (by rw [q]; decide)
  · exact h3 (by rw [q]; decide)
theorem pn17 : plainFor x = true := by first | (refine plainFor_of_name ?_; simp [plainName, overriddenIn]; done) | (refine plainFor_of_name ?_; decide +kernel) | decide +kernel
theorem pd11 : parseMethodDescriptor "([C)V" = some ⟨[(.array .char)], none⟩ := by decide +kernel
theorem pd12 : parseMethodDescriptor "(Ljava/lang/String;)V" = some ⟨[(.object "java/lang/String")], none⟩ := by decide +kernel
theorem pd13 : parseMethodDescriptor "(C)Z" = some ⟨[.char], (some .boolean)⟩ := by decide +kernel
theorem pd14 : parseMethodDescriptor "(II)I" = some ⟨[.int, .int], (some .int)⟩ := by decide +kernel
theorem pd15 : parseMethodDescriptor "()V" = some ⟨[], none⟩ := by decide +kernel
theorem ef_law (m : MethodId) (x0 : Int32) (x1 : Int32) (x2 : Int32) : entryFrame m #[(.int x0), (.int x1), (.int x2)] maxLocals = mkF m 0 #[.val (.int x0), .val (.int x1), .val (.int x2), .unset, .unset, .unset, .unset, .unset, .unset, .unset, .unset, .unset, .unset, .unset] [] := by first | (simp [entryFrame, mkF, argsToLocals, Value.category, maxLocals]; done) | rfl
set_option maxRecDepth 65536 in
set_option maxHeartbeats 4000000 in
theorem met_law (l : Launch) (Z : State) (a0 : Array Value) (hw : ∀ d ∈ tables_1, d.before a0 Z = true) (x0 : Int32) (x1 : Int32) (x2 : Int32) (h0 : Heap) (n0 : Nat) (Z0 : n0 ≤ h0.size) (zc : Int32) (O0 : Old Z n0 h0) (S0 : Sta Z Z.heap "java/lang/String" "COMPACT_STRINGS" "Z" (.int zc)) (zn : ¬ (zc = (0 : Int32))) (vf : Value) (rf : vf.isRef = true) (S1 : Sta Z Z.heap "jdk/internal/util/Preconditions" "SIOOBE_FORMATTER" "Ljava/util/function/BiFunction;" vf) :
  MetW l x code maxLocals ret tables_1 room_1 Z consts_1 h0.size #[(.int x0), (.int x1), (.int x2)] h0 (QF (some (.int (1 : Int32))) n0) 24 1152 := by
 refine own_bodyW pn17 ?_
 intro p e s m below meth c s₁ ct X0 e0 hC0 hSa0
 obtain ⟨hx, hZ, hown, hby, hml, hret, hlk, hnm⟩ := ct
 have N0 := Fr.nil n0
 refine castGoW (ef_law m x0 x1 x2) ?_
 show Gwg s₁ m 0 []
 refine gw_st (fun _ kq => XS.iloadN X0.here hx rfl (hb hby at_0) rfl kq) ?_
 show Gwg s₁ m 1 [(.int x0)]
 refine gw_st (fun _ kq => XT.sipushV X0.here hx rfl (255 : Int32) (hb hby at_1) (by decide) kq) ?_
 show Gwg s₁ m 4 [(.int (255 : Int32)), (.int x0)]
 refine gw_st (fun _ kq => XS.iand X0.here hx rfl (hb hby at_4) rfl kq) ?_
 show Gwg s₁ m 5 [(.int (x0 &&& (255 : Int32)))]
 refine gw_st (fun _ kq => XT.i2c X0.here hx rfl (hb hby at_5) rfl kq) ?_
 rw [own_i2c]
 show Gwg s₁ m 6 [(.int (x0 &&& (255 : Int32)))]
 refine gw_st (fun _ kq => XS.istoreN X0.here hx rfl (hb hby at_6) rfl (l' := #[.val (.int x0), .val (.int x1), .val (.int x2), .val (.int (x0 &&& (255 : Int32))), .unset, .unset, .unset, .unset, .unset, .unset, .unset, .unset, .unset, .unset]) rfl kq) ?_
 show Gwg s₁ m 7 []
 refine gw_st (fun _ kq => XS.iloadN X0.here hx rfl (hb hby at_7) rfl kq) ?_
 show Gwg s₁ m 8 [(.int x0)]
 refine gw_st (fun _ kq => XT.bipushV X0.here hx rfl (8 : Int32) (hb hby at_8) (by decide) kq) ?_
 show Gwg s₁ m 10 [(.int (8 : Int32)), (.int x0)]
 refine gw_st (fun _ kq => XT.iushr X0.here hx rfl (hb hby at_10) rfl kq) ?_
 show Gwg s₁ m 11 [(.int (XT.ushr x0 (8 : Int32)))]
 refine gw_st (fun _ kq => XT.sipushV X0.here hx rfl (255 : Int32) (hb hby at_11) (by decide) kq) ?_
 show Gwg s₁ m 14 [(.int (255 : Int32)), (.int (XT.ushr x0 (8 : Int32)))]
 refine gw_st (fun _ kq => XS.iand X0.here hx rfl (hb hby at_14) rfl kq) ?_
 show Gwg s₁ m 15 [(.int ((XT.ushr x0 (8 : Int32)) &&& (255 : Int32)))]
 refine gw_st (fun _ kq => XT.i2c X0.here hx rfl (hb hby at_15) rfl kq) ?_
 rw [own_i2c]
 show Gwg s₁ m 16 [(.int ((XT.ushr x0 (8 : Int32)) &&& (255 : Int32)))]
 refine gw_st (fun _ kq => XS.istore X0.here hx rfl (hb hby at_16) rfl (l' := #[.val (.int x0), .val (.int x1), .val (.int x2), .val (.int (x0 &&& (255 : Int32))), .val (.int ((XT.ushr x0 (8 : Int32)) &&& (255 : Int32))), .unset, .unset, .unset, .unset, .unset, .unset, .unset, .unset, .unset]) rfl kq) ?_
 show Gwg s₁ m 18 []
 refine gw_st (fun _ kq => XS.iloadN X0.here hx rfl (hb hby at_18) rfl kq) ?_
 show Gwg s₁ m 19 [(.int x0)]
 refine gw_st (fun _ kq => XT.bipushV X0.here hx rfl (16 : Int32) (hb hby at_19) (by decide) kq) ?_
 show Gwg s₁ m 21 [(.int (16 : Int32)), (.int x0)]
 refine gw_st (fun _ kq => XT.iushr X0.here hx rfl (hb hby at_21) rfl kq) ?_
 show Gwg s₁ m 22 [(.int (XT.ushr x0 (16 : Int32)))]
 refine gw_st (fun _ kq => XT.sipushV X0.here hx rfl (255 : Int32) (hb hby at_22) (by decide) kq) ?_
 show Gwg s₁ m 25 [(.int (255 : Int32)), (.int (XT.ushr x0 (16 : Int32)))]
 refine gw_st (fun _ kq => XS.iand X0.here hx rfl (hb hby at_25) rfl kq) ?_
 show Gwg s₁ m 26 [(.int ((XT.ushr x0 (16 : Int32)) &&& (255 : Int32)))]
 refine gw_st (fun _ kq => XT.i2c X0.here hx rfl (hb hby at_26) rfl kq) ?_
 rw [own_i2c]
 show Gwg s₁ m 27 [(.int ((XT.ushr x0 (16 : Int32)) &&& (255 : Int32)))]
 refine gw_st (fun _ kq => XS.istore X0.here hx rfl (hb hby at_27) rfl (l' := #[.val (.int x0), .val (.int x1), .val (.int x2), .val (.int (x0 &&& (255 : Int32))), .val (.int ((XT.ushr x0 (8 : Int32)) &&& (255 : Int32))), .val (.int ((XT.ushr x0 (16 : Int32)) &&& (255 : Int32))), .unset, .unset, .unset, .unset, .unset, .unset, .unset, .unset]) rfl kq) ?_
 show Gwg s₁ m 29 []
 refine gw_st (fun _ kq => XT.iconstV X0.here hx rfl (3 : Int32) (hb hby at_29) (by decide) kq) ?_
 show Gwg s₁ m 30 [(.int (3 : Int32))]
 refine gw_newP X0 hx hZ (wd hw 0 rfl) e0 (hb hby at_30) rfl rfl 3 (by decide) 3 (Nat.le_refl _) (by decide) (by decide) (by decide) ?_
 intro T253 h253 a253 g253 X253 e253 E253 G253
 have nw_a253 : n0 ≤ a253 := Nat.le_trans Z0 (Nat.le_of_eq g253.symm)
 have sf254_a253 := Safe.ext E253 hC0 (Safe.new (Nat.le_of_eq g253.symm))
 have ch254 := CHv.ext E253 hC0
 have lt_a253 : a253 < h253.size := G253.lt
 have A253 : GA Z h253 a253 .char 3 (fun i => .int (own_c3 (0 : Int32) (0 : Int32) (0 : Int32) i)) := (GA.congr G253 (fun i _ => own_z3 i))
 show Gwg T253 m 32 [(.ref a253)]
 refine gw_st (fun _ kq => XS.dup X253.here hx rfl (hb hby at_32) rfl rfl kq) ?_
 show Gwg T253 m 33 [(.ref a253), (.ref a253)]
 refine gw_st (fun _ kq => XT.iconstV X253.here hx rfl (0 : Int32) (hb hby at_33) (by decide) kq) ?_
 show Gwg T253 m 34 [(.int (0 : Int32)), (.ref a253), (.ref a253)]
 refine gw_st (fun _ kq => XS.iloadN X253.here hx rfl (hb hby at_34) rfl kq) ?_
 show Gwg T253 m 35 [(.int (x0 &&& (255 : Int32))), (.int (0 : Int32)), (.ref a253), (.ref a253)]
 refine gw_cast X253 hx hZ e253 A253 (hb hby at_35) rfl rfl (by decide) ?_
 intro T255 h255 X255 e255 W255 G255
 have N255 := Fr.snoc X255 N0 nw_a253
 have sf256_a253 := Safe.wr W255 sf254_a253 ch254 sf254_a253
 have ch256 := CHv.wr W255 sf254_a253 ch254
 have A255 : GA Z h255 a253 .char 3 (fun i => .int (own_c3 (x0 &&& (255 : Int32)) (0 : Int32) (0 : Int32) i)) := (own_stc (own_nc (own_lat _)) (by decide) (own_c30 (x0 &&& (255 : Int32)) (0 : Int32) (0 : Int32) (0 : Int32)) G255)
 show Gwg T255 m 36 [(.ref a253)]
 refine gw_st (fun _ kq => XS.dup X255.here hx rfl (hb hby at_36) rfl rfl kq) ?_
 show Gwg T255 m 37 [(.ref a253), (.ref a253)]
 refine gw_st (fun _ kq => XT.iconstV X255.here hx rfl (1 : Int32) (hb hby at_37) (by decide) kq) ?_
 show Gwg T255 m 38 [(.int (1 : Int32)), (.ref a253), (.ref a253)]
 refine gw_st (fun _ kq => XS.iload X255.here hx rfl (hb hby at_38) rfl kq) ?_
 show Gwg T255 m 40 [(.int ((XT.ushr x0 (8 : Int32)) &&& (255 : Int32))), (.int (1 : Int32)), (.ref a253), (.ref a253)]
 refine gw_cast X255 hx hZ e255 A255 (hb hby at_40) rfl rfl (by decide) ?_
 intro T257 h257 X257 e257 W257 G257
 have N257 := Fr.snoc X257 N255 nw_a253
 have sf258_a253 := Safe.wr W257 sf256_a253 ch256 sf256_a253
 have ch258 := CHv.wr W257 sf256_a253 ch256
 have A257 : GA Z h257 a253 .char 3 (fun i => .int (own_c3 (x0 &&& (255 : Int32)) ((XT.ushr x0 (8 : Int32)) &&& (255 : Int32)) (0 : Int32) i)) := (own_stc (own_nc (own_lat _)) (by decide) (own_c31 ((XT.ushr x0 (8 : Int32)) &&& (255 : Int32)) (x0 &&& (255 : Int32)) (0 : Int32) (0 : Int32)) G257)
 show Gwg T257 m 41 [(.ref a253)]
 refine gw_st (fun _ kq => XS.dup X257.here hx rfl (hb hby at_41) rfl rfl kq) ?_
 show Gwg T257 m 42 [(.ref a253), (.ref a253)]
 refine gw_st (fun _ kq => XT.iconstV X257.here hx rfl (2 : Int32) (hb hby at_42) (by decide) kq) ?_
 show Gwg T257 m 43 [(.int (2 : Int32)), (.ref a253), (.ref a253)]
 refine gw_st (fun _ kq => XS.iload X257.here hx rfl (hb hby at_43) rfl kq) ?_
 show Gwg T257 m 45 [(.int ((XT.ushr x0 (16 : Int32)) &&& (255 : Int32))), (.int (2 : Int32)), (.ref a253), (.ref a253)]
 refine gw_cast X257 hx hZ e257 A257 (hb hby at_45) rfl rfl (by decide) ?_
 intro T259 h259 X259 e259 W259 G259
 have N259 := Fr.snoc X259 N257 nw_a253
 have ch260 := CHv.wr W259 sf258_a253 ch258
 have A259 : GA Z h259 a253 .char 3 (fun i => .int (own_c3 (x0 &&& (255 : Int32)) ((XT.ushr x0 (8 : Int32)) &&& (255 : Int32)) ((XT.ushr x0 (16 : Int32)) &&& (255 : Int32)) i)) := (own_stc (own_nc (own_lat _)) (by decide) (own_c32 ((XT.ushr x0 (16 : Int32)) &&& (255 : Int32)) (x0 &&& (255 : Int32)) ((XT.ushr x0 (8 : Int32)) &&& (255 : Int32)) (0 : Int32)) G259)
 show Gwg T259 m 46 [(.ref a253)]
 refine gw_st (fun _ kq => XS.astore X259.here hx rfl (hb hby at_46) rfl rfl (l' := #[.val (.int x0), .val (.int x1), .val (.int x2), .val (.int (x0 &&& (255 : Int32))), .val (.int ((XT.ushr x0 (8 : Int32)) &&& (255 : Int32))), .val (.int ((XT.ushr x0 (16 : Int32)) &&& (255 : Int32))), .val (.ref a253), .unset, .unset, .unset, .unset, .unset, .unset, .unset]) rfl kq) ?_
 show Gwg T259 m 48 []
 refine gw_st (fun _ kq => XS.iloadN X259.here hx rfl (hb hby at_48) rfl kq) ?_
 show Gwg T259 m 49 [(.int x2)]
 refine gw_st (fun _ kq => XT.iconstV X259.here hx rfl (3 : Int32) (hb hby at_49) (by decide) kq) ?_
 show Gwg T259 m 50 [(.int (3 : Int32)), (.int x2)]
 refine gw_st (fun _ kq => XS.iand X259.here hx rfl (hb hby at_50) rfl kq) ?_
 show Gwg T259 m 51 [(.int (x2 &&& (3 : Int32)))]
 refine gw_st (fun _ kq => XS.istore X259.here hx rfl (hb hby at_51) rfl (l' := #[.val (.int x0), .val (.int x1), .val (.int x2), .val (.int (x0 &&& (255 : Int32))), .val (.int ((XT.ushr x0 (8 : Int32)) &&& (255 : Int32))), .val (.int ((XT.ushr x0 (16 : Int32)) &&& (255 : Int32))), .val (.ref a253), .val (.int (x2 &&& (3 : Int32))), .unset, .unset, .unset, .unset, .unset, .unset]) rfl kq) ?_
 show Gwg T259 m 53 []
 by_cases hk261 : (x2 &&& (3 : Int32)) = (0 : Int32)
 ·rw [hk261]
  show Gwg T259 m 53 []
  refine gw_st (fun _ kq => XS.iloadN X259.here hx rfl (hb hby at_53) rfl kq) ?_
  show Gwg T259 m 54 [(.int x2)]
  refine gw_st (fun _ kq => XT.iconstV X259.here hx rfl (2 : Int32) (hb hby at_54) (by decide) kq) ?_
  show Gwg T259 m 55 [(.int (2 : Int32)), (.int x2)]
  refine gw_st (fun _ kq => XT.iushr X259.here hx rfl (hb hby at_55) rfl kq) ?_
  show Gwg T259 m 56 [(.int (XT.ushr x2 (2 : Int32)))]
  refine gw_st (fun _ kq => XT.iconstV X259.here hx rfl (3 : Int32) (hb hby at_56) (by decide) kq) ?_
  show Gwg T259 m 57 [(.int (3 : Int32)), (.int (XT.ushr x2 (2 : Int32)))]
  refine gw_st (fun _ kq => XS.iand X259.here hx rfl (hb hby at_57) rfl kq) ?_
  show Gwg T259 m 58 [(.int ((XT.ushr x2 (2 : Int32)) &&& (3 : Int32)))]
  refine gw_st (fun _ kq => XS.iload X259.here hx rfl (hb hby at_58) rfl kq) ?_
  show Gwg T259 m 60 [(.int (0 : Int32)), (.int ((XT.ushr x2 (2 : Int32)) &&& (3 : Int32)))]
  refine gw_st (fun _ kq => XT.iconstV X259.here hx rfl (1 : Int32) (hb hby at_60) (by decide) kq) ?_
  show Gwg T259 m 61 [(.int (1 : Int32)), (.int (0 : Int32)), (.int ((XT.ushr x2 (2 : Int32)) &&& (3 : Int32)))]
  refine gw_st (fun _ kq => XS.iadd X259.here hx rfl (hb hby at_61) rfl kq) ?_
  rw [show ((0 : Int32) + (1 : Int32)) = (1 : Int32) from by decide +kernel]
  show Gwg T259 m 62 [(.int (1 : Int32)), (.int ((XT.ushr x2 (2 : Int32)) &&& (3 : Int32)))]
  refine gw_st (fun _ kq => iremM X259 hx rfl (hb hby at_62) rfl (by decide) kq) ?_
  show Gwg T259 m 63 [(.int (((XT.ushr x2 (2 : Int32)) &&& (3 : Int32)) % (1 : Int32)))]
  refine gw_st (fun _ kq => XS.istore X259.here hx rfl (hb hby at_63) rfl (l' := #[.val (.int x0), .val (.int x1), .val (.int x2), .val (.int (x0 &&& (255 : Int32))), .val (.int ((XT.ushr x0 (8 : Int32)) &&& (255 : Int32))), .val (.int ((XT.ushr x0 (16 : Int32)) &&& (255 : Int32))), .val (.ref a253), .val (.int (0 : Int32)), .val (.int (((XT.ushr x2 (2 : Int32)) &&& (3 : Int32)) % (1 : Int32))), .unset, .unset, .unset, .unset, .unset]) rfl kq) ?_
  show Gwg T259 m 65 []
  by_cases hk262 : (((XT.ushr x2 (2 : Int32)) &&& (3 : Int32)) % (1 : Int32)) = (0 : Int32)
  ·rw [hk262]
   show Gwg T259 m 65 []
   refine gw_st (fun _ kq => XS.iloadN X259.here hx rfl (hb hby at_65) rfl kq) ?_
   show Gwg T259 m 66 [(.int x2)]
   refine gw_st (fun _ kq => XT.iconstV X259.here hx rfl (4 : Int32) (hb hby at_66) (by decide) kq) ?_
   show Gwg T259 m 67 [(.int (4 : Int32)), (.int x2)]
   refine gw_st (fun _ kq => XT.iushr X259.here hx rfl (hb hby at_67) rfl kq) ?_
   show Gwg T259 m 68 [(.int (XT.ushr x2 (4 : Int32)))]
   refine gw_st (fun _ kq => XT.iconstV X259.here hx rfl (1 : Int32) (hb hby at_68) (by decide) kq) ?_
   show Gwg T259 m 69 [(.int (1 : Int32)), (.int (XT.ushr x2 (4 : Int32)))]
   refine gw_st (fun _ kq => XS.iand X259.here hx rfl (hb hby at_69) rfl kq) ?_
   show Gwg T259 m 70 [(.int ((XT.ushr x2 (4 : Int32)) &&& (1 : Int32)))]
   by_cases hc263 : ((XT.ushr x2 (4 : Int32)) &&& (1 : Int32)) = (0 : Int32)
   ·refine gw_st (fun _ kq => XS.ifYes X259.here hx rfl (pc0 := 70) (pc' := 87) rfl (hb hby at_70) rfl (XT.i0_eq_t hc263) (by decide) (by decide) kq) ?_
    show Gwg T259 m 87 []
    refine gw_st (fun _ kq => XS.iloadN X259.here hx rfl (hb hby at_87) rfl kq) ?_
    show Gwg T259 m 88 [(.int x1)]
    refine gw_st (fun _ kq => XT.i2c X259.here hx rfl (hb hby at_88) rfl kq) ?_
    show Gwg T259 m 89 [(.int x1.toUInt32.toUInt16.toUInt32.toInt32)]
    refine gw_st (fun _ kq => XS.istore X259.here hx rfl (hb hby at_89) rfl (l' := #[.val (.int x0), .val (.int x1), .val (.int x2), .val (.int (x0 &&& (255 : Int32))), .val (.int ((XT.ushr x0 (8 : Int32)) &&& (255 : Int32))), .val (.int ((XT.ushr x0 (16 : Int32)) &&& (255 : Int32))), .val (.ref a253), .val (.int (0 : Int32)), .val (.int (0 : Int32)), .val (.int x1.toUInt32.toUInt16.toUInt32.toInt32), .unset, .unset, .unset, .unset]) rfl kq) ?_
    show Gwg T259 m 91 []
    refine gw_st (fun _ kq => XS.iload X259.here hx rfl (hb hby at_91) rfl kq) ?_
    show Gwg T259 m 93 [(.int (0 : Int32))]
    refine gw_st (fun _ kq => XS.ifNo X259.here hx rfl (hb hby at_93) rfl (XT.i0_ne_f (by decide)) kq) ?_
    show Gwg T259 m 96 []
    refine gw_st (fun _ kq => XT.iconstV X259.here hx rfl (0 : Int32) (hb hby at_96) (by decide) kq) ?_
    show Gwg T259 m 97 [(.int (0 : Int32))]
    refine gw_newP X259 hx hZ (wd hw 0 rfl) e259 (hb hby at_97) rfl rfl 0 (by decide) 0 (Nat.le_refl _) (by decide) (by decide) (by decide) ?_
    intro T264 h264 a264 g264 X264 e264 E264 G264
    have z273 : n0 ≤ h253.size := Nat.le_trans Z0 E253.1
    have z274 : n0 ≤ h255.size := (Wr.size W255).symm ▸ z273
    have z275 : n0 ≤ h257.size := (Wr.size W257).symm ▸ z274
    have z276 : n0 ≤ h259.size := (Wr.size W259).symm ▸ z275
    have ch277 := CHv.ext E264 ch260
    have A264 : GA Z h264 a264 .char 0 (fun i => .int (own_c3 (0 : Int32) (0 : Int32) (0 : Int32) i)) := (GA.congr G264 (fun i _ => own_z3 i))
    show Gwg T264 m 99 [(.ref a264)]
    refine gw_st (fun _ kq => XS.astore X264.here hx rfl (hb hby at_99) rfl rfl (l' := #[.val (.int x0), .val (.int x1), .val (.int x2), .val (.int (x0 &&& (255 : Int32))), .val (.int ((XT.ushr x0 (8 : Int32)) &&& (255 : Int32))), .val (.int ((XT.ushr x0 (16 : Int32)) &&& (255 : Int32))), .val (.ref a253), .val (.int (0 : Int32)), .val (.int (0 : Int32)), .val (.int x1.toUInt32.toUInt16.toUInt32.toInt32), .val (.ref a264), .unset, .unset, .unset]) rfl kq) ?_
    show Gwg T264 m 101 []
    refine gw_st (fun _ kq => XS.goto X264.here hx rfl (pc0 := 101) (pc' := 164) rfl (hb hby at_101) (by decide) (by decide) kq) ?_
    show Gwg T264 m 164 []
    refine gw_newO X264 hx hZ hown (wd hw 1 rfl) (wd hw 2 rfl) (wd hw 3 rfl) e264 (hb hby at_164) rfl (by decide) (by decide) ?_
    intro T278 h278 a278 g278 X278 e278 E278 A278 D278
    have z283 : n0 ≤ h264.size := Nat.le_trans z276 E264.1
    have nw_a278 : n0 ≤ a278 := Nat.le_trans z283 (Nat.le_of_eq g278.symm)
    have ch284 := CHv.ext E278 ch277
    have lt_a278 : a278 < h278.size := A278.lt
    have F285 : Fld Z h278 a278 "com/example/wirecall/wirecall/TextCursor" "text" "Ljava/lang/String;" .null := D278 (Or.inr (wd hw 38 rfl)) (ty := (.object "java/lang/String")) (by decide)
    have F286 : Fld Z h278 a278 "com/example/wirecall/wirecall/TextCursor" "pos" "I" (.int (0 : Int32)) := D278 (Or.inl (wd hw 45 rfl)) (ty := .int) (by decide)
    show Gwg T278 m 167 [(.ref a278)]
    refine gw_st (fun _ kq => XS.dup X278.here hx rfl (hb hby at_167) rfl rfl kq) ?_
    show Gwg T278 m 168 [(.ref a278), (.ref a278)]
    refine gw_newO X278 hx hZ hown (wd hw 4 rfl) (wd hw 5 rfl) (wd hw 6 rfl) e278 (hb hby at_168) rfl (by decide) (by decide) ?_
    intro T287 h287 a287 g287 X287 e287 E287 A287 D287
    have ne293 : a278 ≠ a287 := fun q => Nat.lt_irrefl _ (Nat.lt_of_lt_of_le lt_a278 (Nat.le_of_eq (g287.symm.trans q.symm)))
    have z294 : n0 ≤ h278.size := Nat.le_trans z283 E278.1
    have nw_a287 : n0 ≤ a287 := Nat.le_trans z294 (Nat.le_of_eq g287.symm)
    have sf295_a287 := Safe.ext E287 ch284 (Safe.new (Nat.le_of_eq g287.symm))
    have ch295 := CHv.ext E287 ch284
    have lt_a287 : a287 < h287.size := A287.lt
    have F296 : Fld Z h287 a287 "java/lang/String" "coder" "B" (.int (0 : Int32)) := D287 (Or.inr (wd hw 30 rfl)) (ty := .byte) (by decide)
    have F297 : Fld Z h287 a287 "java/lang/String" "value" "[B" .null := D287 (Or.inr (wd hw 32 rfl)) (ty := (.array .byte)) (by decide)
    show Gwg T287 m 171 [(.ref a287), (.ref a278), (.ref a278)]
    refine gw_st (fun _ kq => XS.dup X287.here hx rfl (hb hby at_171) rfl rfl kq) ?_
    show Gwg T287 m 172 [(.ref a287), (.ref a287), (.ref a278), (.ref a278)]
    refine gw_st (fun _ kq => XS.aload X287.here hx rfl (hb hby at_172) rfl rfl kq) ?_
    show Gwg T287 m 174 [(.ref a264), (.ref a287), (.ref a287), (.ref a278), (.ref a278)]
    have c299 := A264.ext E278
    have c300 := c299.ext E287
    have z301 : n0 ≤ h287.size := Nat.le_trans z294 E287.1
    refine gw_callIW X287 hx hZ hml hown rfl (wd hw 7 rfl) (wd hw 8 rfl) (wd hw 9 rfl) (wd hw 6 rfl) e287 (own_EL Z a0 hw) ch295 lt_a287 sf295_a287 (argsL := [(.ref a264)]) (rest := [(.ref a287), (.ref a278), (.ref a278)]) (W := 3) (met_s0 l Z a0 hw a287 a264 (fun i => .int (own_c3 (0 : Int32) (0 : Int32) (0 : Int32) i)) h287 n0 z301 A287 F297 F296 nw_a287 c300) (hb hby at_174) rfl rfl rfl (lenOf pd11 rfl) (by show 2 * 0 + _ ≤ _; exact Nat.le_of_eq rfl) (by decide) (by decide) (by decide) (by decide) (by decide) ?_
    intro s T298 v298 L298 hZ hown X298 q298
    obtain ⟨r_298, rfl, M298, K298, f298_0, f298_1, f298_2, f298_3⟩ := q298
    have N298 := Fr.app N259 M298
    have c303 := Exa.ext E287 A278
    have c304 := Exa.keep c303 K298
    have nx302 := own_exaga c304 f298_3 (wd hw 2 rfl)
    show Gwg T298 m 177 [(.ref a287), (.ref a278), (.ref a278)]
    have c307 := Fld.ext E287 F285
    have c308 := Fld.keep c307 K298 (ninS ne293 nin0)
    have c309 := Fld.ext E287 F286
    have c310 := Fld.keep c309 K298 (ninS ne293 nin0)
    have z311 : n0 ≤ T298.heap.size := Nat.le_trans z301 K298.1
    refine gw_callI X298 hx hZ hml hown rfl (wd hw 33 rfl) (wd hw 34 rfl) (wd hw 35 rfl) (wd hw 3 rfl) rfl (argsL := [(.ref a287)]) (rest := [(.ref a278)]) (W := 1) (met_tci l Z a0 hw a278 a287 T298.heap n0 z311 c304 c308 c310 nw_a278) (hb hby at_177) rfl rfl rfl (lenOf pd12 rfl) (by show 2 * 0 + _ ≤ _; exact Nat.le_of_eq rfl) (by decide) (by decide) (by decide) (by decide) (by decide) ?_
    intro T306 v306 L306 X306 q306
    obtain ⟨rfl, M306, K306, f306_0, f306_1⟩ := q306
    have N306 := Fr.app N298 M306
    show Gwg T306 m 180 [(.ref a278)]
    refine gw_st (fun _ kq => XS.astore X306.here hx rfl (hb hby at_180) rfl rfl (l' := #[.val (.int x0), .val (.int x1), .val (.int x2), .val (.int (x0 &&& (255 : Int32))), .val (.int ((XT.ushr x0 (8 : Int32)) &&& (255 : Int32))), .val (.int ((XT.ushr x0 (16 : Int32)) &&& (255 : Int32))), .val (.ref a253), .val (.int (0 : Int32)), .val (.int (0 : Int32)), .val (.int x1.toUInt32.toUInt16.toUInt32.toInt32), .val (.ref a264), .val (.ref a278), .unset, .unset]) rfl kq) ?_
    show Gwg T306 m 182 []
    refine gw_st (fun _ kq => XS.iload X306.here hx rfl (hb hby at_182) rfl kq) ?_
    show Gwg T306 m 184 [(.int (0 : Int32))]
    refine gw_st (fun _ kq => XT.iconstV X306.here hx rfl (1 : Int32) (hb hby at_184) (by decide) kq) ?_
    show Gwg T306 m 185 [(.int (1 : Int32)), (.int (0 : Int32))]
    refine gw_st (fun _ kq => XS.icmpYes X306.here hx rfl (pc0 := 185) (pc' := 193) rfl (hb hby at_185) rfl (XT.ii_lt_t (by decide)) (by decide) (by decide) kq) ?_
    show Gwg T306 m 193 []
    refine gw_st (fun _ kq => XS.iload X306.here hx rfl (hb hby at_193) rfl kq) ?_
    show Gwg T306 m 195 [(.int (0 : Int32))]
    refine gw_st (fun _ kq => XT.iconstV X306.here hx rfl (2 : Int32) (hb hby at_195) (by decide) kq) ?_
    show Gwg T306 m 196 [(.int (2 : Int32)), (.int (0 : Int32))]
    refine gw_st (fun _ kq => XS.icmpYes X306.here hx rfl (pc0 := 196) (pc' := 204) rfl (hb hby at_196) rfl (XT.ii_lt_t (by decide)) (by decide) (by decide) kq) ?_
    show Gwg T306 m 204 []
    refine gw_st (fun _ kq => XS.iload X306.here hx rfl (hb hby at_204) rfl kq) ?_
    show Gwg T306 m 206 [(.int (0 : Int32))]
    refine gw_st (fun _ kq => XT.iconstV X306.here hx rfl (3 : Int32) (hb hby at_206) (by decide) kq) ?_
    show Gwg T306 m 207 [(.int (3 : Int32)), (.int (0 : Int32))]
    refine gw_st (fun _ kq => XS.icmpYes X306.here hx rfl (pc0 := 207) (pc' := 215) rfl (hb hby at_207) rfl (XT.ii_lt_t (by decide)) (by decide) (by decide) kq) ?_
    show Gwg T306 m 215 []
    refine gw_st (fun _ kq => XS.aload X306.here hx rfl (hb hby at_215) rfl rfl kq) ?_
    show Gwg T306 m 217 [(.ref a278)]
    refine gw_st (fun _ kq => XS.iload X306.here hx rfl (hb hby at_217) rfl kq) ?_
    show Gwg T306 m 219 [(.int x1.toUInt32.toUInt16.toUInt32.toInt32), (.ref a278)]
    have c313 := Exa.keep f298_0 K306
    have c314 := Fld.keep f298_1 K306 (ninS (Ne.symm ne293) nin0)
    have c315 := Fld.keep f298_2 K306 (ninS (Ne.symm ne293) nin0)
    have c316 := GA.keep f298_3 K306 (ninS (Ne.symm nx302) nin0)
    have c317 := Old.ext O0 E253
    have c318 := Old.wr c317 W255 nw_a253
    have c319 := Old.wr c318 W257 nw_a253
    have c320 := Old.wr c319 W259 nw_a253
    have c321 := Old.ext c320 E264
    have c322 := Old.ext c321 E278
    have c323 := Old.ext c322 E287
    have c324 := Old.keep c323 K298 (allS nw_a287 all0)
    have c325 := Old.keep c324 K306 (allS nw_a278 all0)
    have z326 : n0 ≤ T306.heap.size := Nat.le_trans z311 K306.1
    have c327 := Exa.keep c304 K306
    refine gw_callV X306 hx hZ hml hown (wd hw 39 rfl) (wd hw 40 rfl) (notFace_of_selects (args := #[]) (mvT hZ (wd hw 42 rfl))) (wd hw 42 rfl) (wd hw 41 rfl) (wd hw 43 rfl) (wd hw 3 rfl) rfl c327 (argsL := [(.int x1.toUInt32.toUInt16.toUInt32.toInt32)]) (rest := []) (W := 0) (met_pk00 l Z a0 hw a278 a287 r_298 (fun _ => .null) x1.toUInt32.toUInt16.toUInt32.toInt32 zc T306.heap n0 z326 f306_1 f306_0 c313 c314 c315 c316 c325 S0 zn) (hb hby at_219) rfl rfl rfl (lenOf pd13 rfl) (by show 2 * 0 + _ ≤ _; exact Nat.le_of_eq rfl) (by decide) (by decide) (by decide) (by decide) (by decide) ?_
    intro T312 v312 L312 X312 q312
    obtain ⟨rfl, M312, K312⟩ := q312
    have N312 := Fr.app N306 M312
    show Gwg T312 m 222 [(.int (0 : Int32))]
    refine gw_st (fun _ kq => XS.istore X312.here hx rfl (hb hby at_222) rfl (l' := #[.val (.int x0), .val (.int x1), .val (.int x2), .val (.int (x0 &&& (255 : Int32))), .val (.int ((XT.ushr x0 (8 : Int32)) &&& (255 : Int32))), .val (.int ((XT.ushr x0 (16 : Int32)) &&& (255 : Int32))), .val (.ref a253), .val (.int (0 : Int32)), .val (.int (0 : Int32)), .val (.int x1.toUInt32.toUInt16.toUInt32.toInt32), .val (.ref a264), .val (.ref a278), .val (.int (0 : Int32)), .unset]) rfl kq) ?_
    show Gwg T312 m 224 []
    refine gw_st (fun _ kq => XS.iload X312.here hx rfl (hb hby at_224) rfl kq) ?_
    show Gwg T312 m 226 [(.int (0 : Int32))]
    refine gw_st (fun _ kq => XS.iload X312.here hx rfl (hb hby at_226) rfl kq) ?_
    show Gwg T312 m 228 [(.int (0 : Int32)), (.int (0 : Int32))]
    refine gw_st (fun _ kq => XS.icmpYes X312.here hx rfl (pc0 := 228) (pc' := 245) rfl (hb hby at_228) rfl (XT.ii_ge_t (by decide)) (by decide) (by decide) kq) ?_
    show Gwg T312 m 245 []
    refine gw_st (fun _ kq => XT.iconstV X312.here hx rfl (0 : Int32) (hb hby at_245) (by decide) kq) ?_
    show Gwg T312 m 246 [(.int (0 : Int32))]
    refine gw_st (fun _ kq => XS.istore X312.here hx rfl (hb hby at_246) rfl (l' := #[.val (.int x0), .val (.int x1), .val (.int x2), .val (.int (x0 &&& (255 : Int32))), .val (.int ((XT.ushr x0 (8 : Int32)) &&& (255 : Int32))), .val (.int ((XT.ushr x0 (16 : Int32)) &&& (255 : Int32))), .val (.ref a253), .val (.int (0 : Int32)), .val (.int (0 : Int32)), .val (.int x1.toUInt32.toUInt16.toUInt32.toInt32), .val (.ref a264), .val (.ref a278), .val (.int (0 : Int32)), .val (.int (0 : Int32))]) rfl kq) ?_
    show Gwg T312 m 248 []
    refine gw_st (fun _ kq => XS.iload X312.here hx rfl (hb hby at_248) rfl kq) ?_
    show Gwg T312 m 250 [(.int (0 : Int32))]
    refine gw_st (fun _ kq => XS.iload X312.here hx rfl (hb hby at_250) rfl kq) ?_
    show Gwg T312 m 252 [(.int (0 : Int32)), (.int (0 : Int32))]
    refine gw_st (fun _ kq => XS.icmpNo X312.here hx rfl (hb hby at_252) rfl (XT.ii_ne_f (by decide)) kq) ?_
    show Gwg T312 m 255 []
    refine gw_st (fun _ kq => XS.aload X312.here hx rfl (hb hby at_255) rfl rfl kq) ?_
    show Gwg T312 m 257 [(.ref a278)]
    have c329 := Fld.keep f306_1 K312 nin0
    have z330 : n0 ≤ T312.heap.size := Nat.le_trans z326 K312.1
    have c331 := Exa.keep c327 K312
    refine gw_callV X312 hx hZ hml hown (wd hw 78 rfl) (wd hw 79 rfl) (notFace_of_selects (args := #[]) (mvT hZ (wd hw 81 rfl))) (wd hw 81 rfl) (wd hw 80 rfl) (wd hw 82 rfl) (wd hw 3 rfl) rfl c331 (argsL := []) (rest := []) (W := 0) (met_16 l Z a0 hw a278 (0 : Int32) T312.heap n0 z330 c329) (hb hby at_257) rfl rfl rfl (lenOf pd9 rfl) (by show 2 * 0 + _ ≤ _; exact Nat.le_of_eq rfl) (by decide) (by decide) (by decide) (by decide) (by decide) ?_
    intro T328 v328 L328 X328 q328
    obtain ⟨rfl, M328, e328⟩ := q328
    have N328 := Fr.app N312 M328
    show Gwg T328 m 260 [(.int (0 : Int32))]
    refine gw_st (fun _ kq => XS.iload X328.here hx rfl (hb hby at_260) rfl kq) ?_
    show Gwg T328 m 262 [(.int (0 : Int32)), (.int (0 : Int32))]
    refine gw_st (fun _ kq => XS.icmpNo X328.here hx rfl (hb hby at_262) rfl (XT.ii_ne_f (by decide)) kq) ?_
    show Gwg T328 m 265 []
    refine gw_st (fun _ kq => XT.iconstV X328.here hx rfl (1 : Int32) (hb hby at_265) (by decide) kq) ?_
    show Gwg T328 m 266 [(.int (1 : Int32))]
    refine gw_st (fun _ kq => XS.goto X328.here hx rfl (pc0 := 266) (pc' := 270) rfl (hb hby at_266) (by decide) (by decide) kq) ?_
    show Gwg T328 m 270 [(.int (1 : Int32))]
    exact gw_retB (w := (1 : Int32)) X328 hx hlk hret (hb hby at_270) (by decide) (by decide) (by decide) ⟨rfl, N328⟩
   ·refine gw_st (fun _ kq => XS.ifNo X259.here hx rfl (hb hby at_70) rfl (XT.i0_eq_f hc263) kq) ?_
    show Gwg T259 m 73 []
    refine gw_st (fun _ kq => XS.aload X259.here hx rfl (hb hby at_73) rfl rfl kq) ?_
    show Gwg T259 m 75 [(.ref a253)]
    refine gw_st (fun _ kq => XS.iload X259.here hx rfl (hb hby at_75) rfl kq) ?_
    show Gwg T259 m 77 [(.int (0 : Int32)), (.ref a253)]
    refine gw_st (fun _ kq => XT.iconstV X259.here hx rfl (2 : Int32) (hb hby at_77) (by decide) kq) ?_
    show Gwg T259 m 78 [(.int (2 : Int32)), (.int (0 : Int32)), (.ref a253)]
    refine gw_callS X259 hx hZ hml hown (wd hw 88 rfl) (wd hw 89 rfl) (wd hw 90 rfl) (wd hw 91 rfl) e259 (argsL := [(.int (0 : Int32)), (.int (2 : Int32))]) (rest := [(.ref a253)]) (W := 1) (met_18 l Z a0 hw (0 : Int32) (2 : Int32) h259 n0) (hb hby at_78) rfl rfl rfl (lenOf pd14 rfl) (by show 2 * 0 + _ ≤ _; exact Nat.le_of_eq rfl) (by decide) (by decide) (by decide) (by decide) (by decide) ?_
    intro T332 v332 L332 X332 q332
    obtain ⟨rfl, M332, e332⟩ := q332
    have N332 := Fr.app N259 M332
    rw [show (fMin (0 : Int32) (2 : Int32)) = (0 : Int32) from by decide +kernel]
    show Gwg T332 m 81 [(.int (0 : Int32)), (.ref a253)]
    refine gw_cald X332 hx hZ e332 A259 (hb hby at_81) rfl rfl (by decide) (.int (x0 &&& (255 : Int32))) rfl ?_
    show Gwg T332 m 82 [(.int (x0 &&& (255 : Int32)))]
    refine gw_st (fun _ kq => XS.istore X332.here hx rfl (hb hby at_82) rfl (l' := #[.val (.int x0), .val (.int x1), .val (.int x2), .val (.int (x0 &&& (255 : Int32))), .val (.int ((XT.ushr x0 (8 : Int32)) &&& (255 : Int32))), .val (.int ((XT.ushr x0 (16 : Int32)) &&& (255 : Int32))), .val (.ref a253), .val (.int (0 : Int32)), .val (.int (0 : Int32)), .val (.int (x0 &&& (255 : Int32))), .unset, .unset, .unset, .unset]) rfl kq) ?_
    show Gwg T332 m 84 []
    refine gw_st (fun _ kq => XS.goto X332.here hx rfl (pc0 := 84) (pc' := 91) rfl (hb hby at_84) (by decide) (by decide) kq) ?_
    show Gwg T332 m 91 []
    refine gw_st (fun _ kq => XS.iload X332.here hx rfl (hb hby at_91) rfl kq) ?_
    show Gwg T332 m 93 [(.int (0 : Int32))]
    refine gw_st (fun _ kq => XS.ifNo X332.here hx rfl (hb hby at_93) rfl (XT.i0_ne_f (by decide)) kq) ?_
    show Gwg T332 m 96 []
    refine gw_st (fun _ kq => XT.iconstV X332.here hx rfl (0 : Int32) (hb hby at_96) (by decide) kq) ?_
    show Gwg T332 m 97 [(.int (0 : Int32))]
    refine gw_newP X332 hx hZ (wd hw 0 rfl) e332 (hb hby at_97) rfl rfl 0 (by decide) 0 (Nat.le_refl _) (by decide) (by decide) (by decide) ?_
    intro T333 h333 a333 g333 X333 e333 E333 G333
    have z342 : n0 ≤ h253.size := Nat.le_trans Z0 E253.1
    have z343 : n0 ≤ h255.size := (Wr.size W255).symm ▸ z342
    have z344 : n0 ≤ h257.size := (Wr.size W257).symm ▸ z343
    have z345 : n0 ≤ h259.size := (Wr.size W259).symm ▸ z344
    have ch346 := CHv.ext E333 ch260
    have A333 : GA Z h333 a333 .char 0 (fun i => .int (own_c3 (0 : Int32) (0 : Int32) (0 : Int32) i)) := (GA.congr G333 (fun i _ => own_z3 i))
    show Gwg T333 m 99 [(.ref a333)]
    refine gw_st (fun _ kq => XS.astore X333.here hx rfl (hb hby at_99) rfl rfl (l' := #[.val (.int x0), .val (.int x1), .val (.int x2), .val (.int (x0 &&& (255 : Int32))), .val (.int ((XT.ushr x0 (8 : Int32)) &&& (255 : Int32))), .val (.int ((XT.ushr x0 (16 : Int32)) &&& (255 : Int32))), .val (.ref a253), .val (.int (0 : Int32)), .val (.int (0 : Int32)), .val (.int (x0 &&& (255 : Int32))), .val (.ref a333), .unset, .unset, .unset]) rfl kq) ?_
    show Gwg T333 m 101 []
    refine gw_st (fun _ kq => XS.goto X333.here hx rfl (pc0 := 101) (pc' := 164) rfl (hb hby at_101) (by decide) (by decide) kq) ?_
    show Gwg T333 m 164 []
    refine gw_newO X333 hx hZ hown (wd hw 1 rfl) (wd hw 2 rfl) (wd hw 3 rfl) e333 (hb hby at_164) rfl (by decide) (by decide) ?_
    intro T347 h347 a347 g347 X347 e347 E347 A347 D347
    have z352 : n0 ≤ h333.size := Nat.le_trans z345 E333.1
    have nw_a347 : n0 ≤ a347 := Nat.le_trans z352 (Nat.le_of_eq g347.symm)
    have ch353 := CHv.ext E347 ch346
    have lt_a347 : a347 < h347.size := A347.lt
    have F354 : Fld Z h347 a347 "com/example/wirecall/wirecall/TextCursor" "text" "Ljava/lang/String;" .null := D347 (Or.inr (wd hw 38 rfl)) (ty := (.object "java/lang/String")) (by decide)
    have F355 : Fld Z h347 a347 "com/example/wirecall/wirecall/TextCursor" "pos" "I" (.int (0 : Int32)) := D347 (Or.inl (wd hw 45 rfl)) (ty := .int) (by decide)
    show Gwg T347 m 167 [(.ref a347)]
    refine gw_st (fun _ kq => XS.dup X347.here hx rfl (hb hby at_167) rfl rfl kq) ?_
    show Gwg T347 m 168 [(.ref a347), (.ref a347)]
    refine gw_newO X347 hx hZ hown (wd hw 4 rfl) (wd hw 5 rfl) (wd hw 6 rfl) e347 (hb hby at_168) rfl (by decide) (by decide) ?_
    intro T356 h356 a356 g356 X356 e356 E356 A356 D356
    have ne362 : a347 ≠ a356 := fun q => Nat.lt_irrefl _ (Nat.lt_of_lt_of_le lt_a347 (Nat.le_of_eq (g356.symm.trans q.symm)))
    have z363 : n0 ≤ h347.size := Nat.le_trans z352 E347.1
    have nw_a356 : n0 ≤ a356 := Nat.le_trans z363 (Nat.le_of_eq g356.symm)
    have sf364_a356 := Safe.ext E356 ch353 (Safe.new (Nat.le_of_eq g356.symm))
    have ch364 := CHv.ext E356 ch353
    have lt_a356 : a356 < h356.size := A356.lt
    have F365 : Fld Z h356 a356 "java/lang/String" "coder" "B" (.int (0 : Int32)) := D356 (Or.inr (wd hw 30 rfl)) (ty := .byte) (by decide)
    have F366 : Fld Z h356 a356 "java/lang/String" "value" "[B" .null := D356 (Or.inr (wd hw 32 rfl)) (ty := (.array .byte)) (by decide)
    show Gwg T356 m 171 [(.ref a356), (.ref a347), (.ref a347)]
    refine gw_st (fun _ kq => XS.dup X356.here hx rfl (hb hby at_171) rfl rfl kq) ?_
    show Gwg T356 m 172 [(.ref a356), (.ref a356), (.ref a347), (.ref a347)]
    refine gw_st (fun _ kq => XS.aload X356.here hx rfl (hb hby at_172) rfl rfl kq) ?_
    show Gwg T356 m 174 [(.ref a333), (.ref a356), (.ref a356), (.ref a347), (.ref a347)]
    have c368 := A333.ext E347
    have c369 := c368.ext E356
    have z370 : n0 ≤ h356.size := Nat.le_trans z363 E356.1
    refine gw_callIW X356 hx hZ hml hown rfl (wd hw 7 rfl) (wd hw 8 rfl) (wd hw 9 rfl) (wd hw 6 rfl) e356 (own_EL Z a0 hw) ch364 lt_a356 sf364_a356 (argsL := [(.ref a333)]) (rest := [(.ref a356), (.ref a347), (.ref a347)]) (W := 3) (met_s0 l Z a0 hw a356 a333 (fun i => .int (own_c3 (0 : Int32) (0 : Int32) (0 : Int32) i)) h356 n0 z370 A356 F366 F365 nw_a356 c369) (hb hby at_174) rfl rfl rfl (lenOf pd11 rfl) (by show 2 * 0 + _ ≤ _; exact Nat.le_of_eq rfl) (by decide) (by decide) (by decide) (by decide) (by decide) ?_
    intro s T367 v367 L367 hZ hown X367 q367
    obtain ⟨r_367, rfl, M367, K367, f367_0, f367_1, f367_2, f367_3⟩ := q367
    have N367 := Fr.app N332 M367
    have c372 := Exa.ext E356 A347
    have c373 := Exa.keep c372 K367
    have nx371 := own_exaga c373 f367_3 (wd hw 2 rfl)
    show Gwg T367 m 177 [(.ref a356), (.ref a347), (.ref a347)]
    have c376 := Fld.ext E356 F354
    have c377 := Fld.keep c376 K367 (ninS ne362 nin0)
    have c378 := Fld.ext E356 F355
    have c379 := Fld.keep c378 K367 (ninS ne362 nin0)
    have z380 : n0 ≤ T367.heap.size := Nat.le_trans z370 K367.1
    refine gw_callI X367 hx hZ hml hown rfl (wd hw 33 rfl) (wd hw 34 rfl) (wd hw 35 rfl) (wd hw 3 rfl) rfl (argsL := [(.ref a356)]) (rest := [(.ref a347)]) (W := 1) (met_tci l Z a0 hw a347 a356 T367.heap n0 z380 c373 c377 c379 nw_a347) (hb hby at_177) rfl rfl rfl (lenOf pd12 rfl) (by show 2 * 0 + _ ≤ _; exact Nat.le_of_eq rfl) (by decide) (by decide) (by decide) (by decide) (by decide) ?_
    intro T375 v375 L375 X375 q375
    obtain ⟨rfl, M375, K375, f375_0, f375_1⟩ := q375
    have N375 := Fr.app N367 M375
    show Gwg T375 m 180 [(.ref a347)]
    refine gw_st (fun _ kq => XS.astore X375.here hx rfl (hb hby at_180) rfl rfl (l' := #[.val (.int x0), .val (.int x1), .val (.int x2), .val (.int (x0 &&& (255 : Int32))), .val (.int ((XT.ushr x0 (8 : Int32)) &&& (255 : Int32))), .val (.int ((XT.ushr x0 (16 : Int32)) &&& (255 : Int32))), .val (.ref a253), .val (.int (0 : Int32)), .val (.int (0 : Int32)), .val (.int (x0 &&& (255 : Int32))), .val (.ref a333), .val (.ref a347), .unset, .unset]) rfl kq) ?_
    show Gwg T375 m 182 []
    refine gw_st (fun _ kq => XS.iload X375.here hx rfl (hb hby at_182) rfl kq) ?_
    show Gwg T375 m 184 [(.int (0 : Int32))]
    refine gw_st (fun _ kq => XT.iconstV X375.here hx rfl (1 : Int32) (hb hby at_184) (by decide) kq) ?_
    show Gwg T375 m 185 [(.int (1 : Int32)), (.int (0 : Int32))]
    refine gw_st (fun _ kq => XS.icmpYes X375.here hx rfl (pc0 := 185) (pc' := 193) rfl (hb hby at_185) rfl (XT.ii_lt_t (by decide)) (by decide) (by decide) kq) ?_
    show Gwg T375 m 193 []
    refine gw_st (fun _ kq => XS.iload X375.here hx rfl (hb hby at_193) rfl kq) ?_
    show Gwg T375 m 195 [(.int (0 : Int32))]
    refine gw_st (fun _ kq => XT.iconstV X375.here hx rfl (2 : Int32) (hb hby at_195) (by decide) kq) ?_
    show Gwg T375 m 196 [(.int (2 : Int32)), (.int (0 : Int32))]
    refine gw_st (fun _ kq => XS.icmpYes X375.here hx rfl (pc0 := 196) (pc' := 204) rfl (hb hby at_196) rfl (XT.ii_lt_t (by decide)) (by decide) (by decide) kq) ?_
    show Gwg T375 m 204 []
    refine gw_st (fun _ kq => XS.iload X375.here hx rfl (hb hby at_204) rfl kq) ?_
    show Gwg T375 m 206 [(.int (0 : Int32))]
    refine gw_st (fun _ kq => XT.iconstV X375.here hx rfl (3 : Int32) (hb hby at_206) (by decide) kq) ?_
    show Gwg T375 m 207 [(.int (3 : Int32)), (.int (0 : Int32))]
    refine gw_st (fun _ kq => XS.icmpYes X375.here hx rfl (pc0 := 207) (pc' := 215) rfl (hb hby at_207) rfl (XT.ii_lt_t (by decide)) (by decide) (by decide) kq) ?_
    show Gwg T375 m 215 []
    refine gw_st (fun _ kq => XS.aload X375.here hx rfl (hb hby at_215) rfl rfl kq) ?_
    show Gwg T375 m 217 [(.ref a347)]
    refine gw_st (fun _ kq => XS.iload X375.here hx rfl (hb hby at_217) rfl kq) ?_
    show Gwg T375 m 219 [(.int (x0 &&& (255 : Int32))), (.ref a347)]
    have c382 := Exa.keep f367_0 K375
    have c383 := Fld.keep f367_1 K375 (ninS (Ne.symm ne362) nin0)
    have c384 := Fld.keep f367_2 K375 (ninS (Ne.symm ne362) nin0)
    have c385 := GA.keep f367_3 K375 (ninS (Ne.symm nx371) nin0)
    have c386 := Old.ext O0 E253
    have c387 := Old.wr c386 W255 nw_a253
    have c388 := Old.wr c387 W257 nw_a253
    have c389 := Old.wr c388 W259 nw_a253
    have c390 := Old.ext c389 E333
    have c391 := Old.ext c390 E347
    have c392 := Old.ext c391 E356
    have c393 := Old.keep c392 K367 (allS nw_a356 all0)
    have c394 := Old.keep c393 K375 (allS nw_a347 all0)
    have z395 : n0 ≤ T375.heap.size := Nat.le_trans z380 K375.1
    have c396 := Exa.keep c373 K375
    refine gw_callV X375 hx hZ hml hown (wd hw 39 rfl) (wd hw 40 rfl) (notFace_of_selects (args := #[]) (mvT hZ (wd hw 42 rfl))) (wd hw 42 rfl) (wd hw 41 rfl) (wd hw 43 rfl) (wd hw 3 rfl) rfl c396 (argsL := [(.int (x0 &&& (255 : Int32)))]) (rest := []) (W := 0) (met_pk00 l Z a0 hw a347 a356 r_367 (fun _ => .null) (x0 &&& (255 : Int32)) zc T375.heap n0 z395 f375_1 f375_0 c382 c383 c384 c385 c394 S0 zn) (hb hby at_219) rfl rfl rfl (lenOf pd13 rfl) (by show 2 * 0 + _ ≤ _; exact Nat.le_of_eq rfl) (by decide) (by decide) (by decide) (by decide) (by decide) ?_
    intro T381 v381 L381 X381 q381
    obtain ⟨rfl, M381, K381⟩ := q381
    have N381 := Fr.app N375 M381
    show Gwg T381 m 222 [(.int (0 : Int32))]
    refine gw_st (fun _ kq => XS.istore X381.here hx rfl (hb hby at_222) rfl (l' := #[.val (.int x0), .val (.int x1), .val (.int x2), .val (.int (x0 &&& (255 : Int32))), .val (.int ((XT.ushr x0 (8 : Int32)) &&& (255 : Int32))), .val (.int ((XT.ushr x0 (16 : Int32)) &&& (255 : Int32))), .val (.ref a253), .val (.int (0 : Int32)), .val (.int (0 : Int32)), .val (.int (x0 &&& (255 : Int32))), .val (.ref a333), .val (.ref a347), .val (.int (0 : Int32)), .unset]) rfl kq) ?_
    show Gwg T381 m 224 []
    refine gw_st (fun _ kq => XS.iload X381.here hx rfl (hb hby at_224) rfl kq) ?_
    show Gwg T381 m 226 [(.int (0 : Int32))]
    refine gw_st (fun _ kq => XS.iload X381.here hx rfl (hb hby at_226) rfl kq) ?_
    show Gwg T381 m 228 [(.int (0 : Int32)), (.int (0 : Int32))]
    refine gw_st (fun _ kq => XS.icmpYes X381.here hx rfl (pc0 := 228) (pc' := 245) rfl (hb hby at_228) rfl (XT.ii_ge_t (by decide)) (by decide) (by decide) kq) ?_
    show Gwg T381 m 245 []
    refine gw_st (fun _ kq => XT.iconstV X381.here hx rfl (0 : Int32) (hb hby at_245) (by decide) kq) ?_
    show Gwg T381 m 246 [(.int (0 : Int32))]
    refine gw_st (fun _ kq => XS.istore X381.here hx rfl (hb hby at_246) rfl (l' := #[.val (.int x0), .val (.int x1), .val (.int x2), .val (.int (x0 &&& (255 : Int32))), .val (.int ((XT.ushr x0 (8 : Int32)) &&& (255 : Int32))), .val (.int ((XT.ushr x0 (16 : Int32)) &&& (255 : Int32))), .val (.ref a253), .val (.int (0 : Int32)), .val (.int (0 : Int32)), .val (.int (x0 &&& (255 : Int32))), .val (.ref a333), .val (.ref a347), .val (.int (0 : Int32)), .val (.int (0 : Int32))]) rfl kq) ?_
    show Gwg T381 m 248 []
    refine gw_st (fun _ kq => XS.iload X381.here hx rfl (hb hby at_248) rfl kq) ?_
    show Gwg T381 m 250 [(.int (0 : Int32))]
    refine gw_st (fun _ kq => XS.iload X381.here hx rfl (hb hby at_250) rfl kq) ?_
    show Gwg T381 m 252 [(.int (0 : Int32)), (.int (0 : Int32))]
    refine gw_st (fun _ kq => XS.icmpNo X381.here hx rfl (hb hby at_252) rfl (XT.ii_ne_f (by decide)) kq) ?_
    show Gwg T381 m 255 []
    refine gw_st (fun _ kq => XS.aload X381.here hx rfl (hb hby at_255) rfl rfl kq) ?_
    show Gwg T381 m 257 [(.ref a347)]
    have c398 := Fld.keep f375_1 K381 nin0
    have z399 : n0 ≤ T381.heap.size := Nat.le_trans z395 K381.1
    have c400 := Exa.keep c396 K381
    refine gw_callV X381 hx hZ hml hown (wd hw 78 rfl) (wd hw 79 rfl) (notFace_of_selects (args := #[]) (mvT hZ (wd hw 81 rfl))) (wd hw 81 rfl) (wd hw 80 rfl) (wd hw 82 rfl) (wd hw 3 rfl) rfl c400 (argsL := []) (rest := []) (W := 0) (met_16 l Z a0 hw a347 (0 : Int32) T381.heap n0 z399 c398) (hb hby at_257) rfl rfl rfl (lenOf pd9 rfl) (by show 2 * 0 + _ ≤ _; exact Nat.le_of_eq rfl) (by decide) (by decide) (by decide) (by decide) (by decide) ?_
    intro T397 v397 L397 X397 q397
    obtain ⟨rfl, M397, e397⟩ := q397
    have N397 := Fr.app N381 M397
    show Gwg T397 m 260 [(.int (0 : Int32))]
    refine gw_st (fun _ kq => XS.iload X397.here hx rfl (hb hby at_260) rfl kq) ?_
    show Gwg T397 m 262 [(.int (0 : Int32)), (.int (0 : Int32))]
    refine gw_st (fun _ kq => XS.icmpNo X397.here hx rfl (hb hby at_262) rfl (XT.ii_ne_f (by decide)) kq) ?_
    show Gwg T397 m 265 []
    refine gw_st (fun _ kq => XT.iconstV X397.here hx rfl (1 : Int32) (hb hby at_265) (by decide) kq) ?_
    show Gwg T397 m 266 [(.int (1 : Int32))]
    refine gw_st (fun _ kq => XS.goto X397.here hx rfl (pc0 := 266) (pc' := 270) rfl (hb hby at_266) (by decide) (by decide) kq) ?_
    show Gwg T397 m 270 [(.int (1 : Int32))]
    exact gw_retB (w := (1 : Int32)) X397 hx hlk hret (hb hby at_270) (by decide) (by decide) (by decide) ⟨rfl, N397⟩
  ·exact (own_dk1 _ hk262).elim
 ·by_cases hk401 : (x2 &&& (3 : Int32)) = (1 : Int32)
  ·rw [hk401]
   show Gwg T259 m 53 []
   refine gw_st (fun _ kq => XS.iloadN X259.here hx rfl (hb hby at_53) rfl kq) ?_
   show Gwg T259 m 54 [(.int x2)]
   refine gw_st (fun _ kq => XT.iconstV X259.here hx rfl (2 : Int32) (hb hby at_54) (by decide) kq) ?_
   show Gwg T259 m 55 [(.int (2 : Int32)), (.int x2)]
   refine gw_st (fun _ kq => XT.iushr X259.here hx rfl (hb hby at_55) rfl kq) ?_
   show Gwg T259 m 56 [(.int (XT.ushr x2 (2 : Int32)))]
   refine gw_st (fun _ kq => XT.iconstV X259.here hx rfl (3 : Int32) (hb hby at_56) (by decide) kq) ?_
   show Gwg T259 m 57 [(.int (3 : Int32)), (.int (XT.ushr x2 (2 : Int32)))]
   refine gw_st (fun _ kq => XS.iand X259.here hx rfl (hb hby at_57) rfl kq) ?_
   show Gwg T259 m 58 [(.int ((XT.ushr x2 (2 : Int32)) &&& (3 : Int32)))]
   refine gw_st (fun _ kq => XS.iload X259.here hx rfl (hb hby at_58) rfl kq) ?_
   show Gwg T259 m 60 [(.int (1 : Int32)), (.int ((XT.ushr x2 (2 : Int32)) &&& (3 : Int32)))]
   refine gw_st (fun _ kq => XT.iconstV X259.here hx rfl (1 : Int32) (hb hby at_60) (by decide) kq) ?_
   show Gwg T259 m 61 [(.int (1 : Int32)), (.int (1 : Int32)), (.int ((XT.ushr x2 (2 : Int32)) &&& (3 : Int32)))]
   refine gw_st (fun _ kq => XS.iadd X259.here hx rfl (hb hby at_61) rfl kq) ?_
   rw [show ((1 : Int32) + (1 : Int32)) = (2 : Int32) from by decide +kernel]
   show Gwg T259 m 62 [(.int (2 : Int32)), (.int ((XT.ushr x2 (2 : Int32)) &&& (3 : Int32)))]
   refine gw_st (fun _ kq => iremM X259 hx rfl (hb hby at_62) rfl (by decide) kq) ?_
   show Gwg T259 m 63 [(.int (((XT.ushr x2 (2 : Int32)) &&& (3 : Int32)) % (2 : Int32)))]
   refine gw_st (fun _ kq => XS.istore X259.here hx rfl (hb hby at_63) rfl (l' := #[.val (.int x0), .val (.int x1), .val (.int x2), .val (.int (x0 &&& (255 : Int32))), .val (.int ((XT.ushr x0 (8 : Int32)) &&& (255 : Int32))), .val (.int ((XT.ushr x0 (16 : Int32)) &&& (255 : Int32))), .val (.ref a253), .val (.int (1 : Int32)), .val (.int (((XT.ushr x2 (2 : Int32)) &&& (3 : Int32)) % (2 : Int32))), .unset, .unset, .unset, .unset, .unset]) rfl kq) ?_
   show Gwg T259 m 65 []
   by_cases hk402 : (((XT.ushr x2 (2 : Int32)) &&& (3 : Int32)) % (2 : Int32)) = (0 : Int32)
   ·rw [hk402]
    show Gwg T259 m 65 []
    refine gw_st (fun _ kq => XS.iloadN X259.here hx rfl (hb hby at_65) rfl kq) ?_
    show Gwg T259 m 66 [(.int x2)]
    refine gw_st (fun _ kq => XT.iconstV X259.here hx rfl (4 : Int32) (hb hby at_66) (by decide) kq) ?_
    show Gwg T259 m 67 [(.int (4 : Int32)), (.int x2)]
    refine gw_st (fun _ kq => XT.iushr X259.here hx rfl (hb hby at_67) rfl kq) ?_
    show Gwg T259 m 68 [(.int (XT.ushr x2 (4 : Int32)))]
    refine gw_st (fun _ kq => XT.iconstV X259.here hx rfl (1 : Int32) (hb hby at_68) (by decide) kq) ?_
    show Gwg T259 m 69 [(.int (1 : Int32)), (.int (XT.ushr x2 (4 : Int32)))]
    refine gw_st (fun _ kq => XS.iand X259.here hx rfl (hb hby at_69) rfl kq) ?_
    show Gwg T259 m 70 [(.int ((XT.ushr x2 (4 : Int32)) &&& (1 : Int32)))]
    by_cases hc403 : ((XT.ushr x2 (4 : Int32)) &&& (1 : Int32)) = (0 : Int32)
    ·refine gw_st (fun _ kq => XS.ifYes X259.here hx rfl (pc0 := 70) (pc' := 87) rfl (hb hby at_70) rfl (XT.i0_eq_t hc403) (by decide) (by decide) kq) ?_
     show Gwg T259 m 87 []
     refine gw_st (fun _ kq => XS.iloadN X259.here hx rfl (hb hby at_87) rfl kq) ?_
     show Gwg T259 m 88 [(.int x1)]
     refine gw_st (fun _ kq => XT.i2c X259.here hx rfl (hb hby at_88) rfl kq) ?_
     show Gwg T259 m 89 [(.int x1.toUInt32.toUInt16.toUInt32.toInt32)]
     refine gw_st (fun _ kq => XS.istore X259.here hx rfl (hb hby at_89) rfl (l' := #[.val (.int x0), .val (.int x1), .val (.int x2), .val (.int (x0 &&& (255 : Int32))), .val (.int ((XT.ushr x0 (8 : Int32)) &&& (255 : Int32))), .val (.int ((XT.ushr x0 (16 : Int32)) &&& (255 : Int32))), .val (.ref a253), .val (.int (1 : Int32)), .val (.int (0 : Int32)), .val (.int x1.toUInt32.toUInt16.toUInt32.toInt32), .unset, .unset, .unset, .unset]) rfl kq) ?_
     show Gwg T259 m 91 []
     refine gw_st (fun _ kq => XS.iload X259.here hx rfl (hb hby at_91) rfl kq) ?_
     show Gwg T259 m 93 [(.int (1 : Int32))]
     refine gw_st (fun _ kq => XS.ifYes X259.here hx rfl (pc0 := 93) (pc' := 104) rfl (hb hby at_93) rfl (XT.i0_ne_t (by decide)) (by decide) (by decide) kq) ?_
     show Gwg T259 m 104 []
     refine gw_st (fun _ kq => XS.iload X259.here hx rfl (hb hby at_104) rfl kq) ?_
     show Gwg T259 m 106 [(.int (1 : Int32))]
     refine gw_st (fun _ kq => XT.iconstV X259.here hx rfl (1 : Int32) (hb hby at_106) (by decide) kq) ?_
     show Gwg T259 m 107 [(.int (1 : Int32)), (.int (1 : Int32))]
     refine gw_st (fun _ kq => XS.icmpNo X259.here hx rfl (hb hby at_107) rfl (XT.ii_ne_f (by decide)) kq) ?_
     show Gwg T259 m 110 []
     refine gw_st (fun _ kq => XT.iconstV X259.here hx rfl (1 : Int32) (hb hby at_110) (by decide) kq) ?_
     show Gwg T259 m 111 [(.int (1 : Int32))]
     refine gw_newP X259 hx hZ (wd hw 0 rfl) e259 (hb hby at_111) rfl rfl 1 (by decide) 1 (Nat.le_refl _) (by decide) (by decide) (by decide) ?_
     intro T404 h404 a404 g404 X404 e404 E404 G404
     have c409 : a253 < h255.size := (Wr.size W255).symm ▸ lt_a253
     have c410 : a253 < h257.size := (Wr.size W257).symm ▸ c409
     have c411 : a253 < h259.size := (Wr.size W259).symm ▸ c410
     have ne412 : a253 ≠ a404 := fun q => Nat.lt_irrefl _ (Nat.lt_of_lt_of_le c411 (Nat.le_of_eq (g404.symm.trans q.symm)))
     have z413 : n0 ≤ h253.size := Nat.le_trans Z0 E253.1
     have z414 : n0 ≤ h255.size := (Wr.size W255).symm ▸ z413
     have z415 : n0 ≤ h257.size := (Wr.size W257).symm ▸ z414
     have z416 : n0 ≤ h259.size := (Wr.size W259).symm ▸ z415
     have nw_a404 : n0 ≤ a404 := Nat.le_trans z416 (Nat.le_of_eq g404.symm)
     have lt_a404 : a404 < h404.size := G404.lt
     have A404 : GA Z h404 a404 .char 1 (fun i => .int (own_c3 (0 : Int32) (0 : Int32) (0 : Int32) i)) := (GA.congr G404 (fun i _ => own_z3 i))
     show Gwg T404 m 113 [(.ref a404)]
     refine gw_st (fun _ kq => XS.dup X404.here hx rfl (hb hby at_113) rfl rfl kq) ?_
     show Gwg T404 m 114 [(.ref a404), (.ref a404)]
     refine gw_st (fun _ kq => XT.iconstV X404.here hx rfl (0 : Int32) (hb hby at_114) (by decide) kq) ?_
     show Gwg T404 m 115 [(.int (0 : Int32)), (.ref a404), (.ref a404)]
     refine gw_st (fun _ kq => XS.iloadN X404.here hx rfl (hb hby at_115) rfl kq) ?_
     show Gwg T404 m 116 [(.int (x0 &&& (255 : Int32))), (.int (0 : Int32)), (.ref a404), (.ref a404)]
     refine gw_cast X404 hx hZ e404 A404 (hb hby at_116) rfl rfl (by decide) ?_
     intro T417 h417 X417 e417 W417 G417
     have N417 := Fr.snoc X417 N259 nw_a404
     have A417 : GA Z h417 a404 .char 1 (fun i => .int (own_c3 (x0 &&& (255 : Int32)) (0 : Int32) (0 : Int32) i)) := (own_stc (own_nc (own_lat _)) (by decide) (own_c30 (x0 &&& (255 : Int32)) (0 : Int32) (0 : Int32) (0 : Int32)) G417)
     show Gwg T417 m 117 [(.ref a404)]
     refine gw_st (fun _ kq => XS.astore X417.here hx rfl (hb hby at_117) rfl rfl (l' := #[.val (.int x0), .val (.int x1), .val (.int x2), .val (.int (x0 &&& (255 : Int32))), .val (.int ((XT.ushr x0 (8 : Int32)) &&& (255 : Int32))), .val (.int ((XT.ushr x0 (16 : Int32)) &&& (255 : Int32))), .val (.ref a253), .val (.int (1 : Int32)), .val (.int (0 : Int32)), .val (.int x1.toUInt32.toUInt16.toUInt32.toInt32), .val (.ref a404), .unset, .unset, .unset]) rfl kq) ?_
     show Gwg T417 m 119 []
     refine gw_st (fun _ kq => XS.goto X417.here hx rfl (pc0 := 119) (pc' := 164) rfl (hb hby at_119) (by decide) (by decide) kq) ?_
     show Gwg T417 m 164 []
     refine gw_newO X417 hx hZ hown (wd hw 1 rfl) (wd hw 2 rfl) (wd hw 3 rfl) e417 (hb hby at_164) rfl (by decide) (by decide) ?_
     intro T418 h418 a418 g418 X418 e418 E418 A418 D418
     have c421 : a253 < h404.size := Nat.lt_of_lt_of_le c411 E404.1
     have c422 : a253 < h417.size := (Wr.size W417).symm ▸ c421
     have ne423 : a253 ≠ a418 := fun q => Nat.lt_irrefl _ (Nat.lt_of_lt_of_le c422 (Nat.le_of_eq (g418.symm.trans q.symm)))
     have c424 : a404 < h417.size := (Wr.size W417).symm ▸ lt_a404
     have z426 : n0 ≤ h404.size := Nat.le_trans z416 E404.1
     have z427 : n0 ≤ h417.size := (Wr.size W417).symm ▸ z426
     have nw_a418 : n0 ≤ a418 := Nat.le_trans z427 (Nat.le_of_eq g418.symm)
     have lt_a418 : a418 < h418.size := A418.lt
     have F428 : Fld Z h418 a418 "com/example/wirecall/wirecall/TextCursor" "text" "Ljava/lang/String;" .null := D418 (Or.inr (wd hw 38 rfl)) (ty := (.object "java/lang/String")) (by decide)
     have F429 : Fld Z h418 a418 "com/example/wirecall/wirecall/TextCursor" "pos" "I" (.int (0 : Int32)) := D418 (Or.inl (wd hw 45 rfl)) (ty := .int) (by decide)
     show Gwg T418 m 167 [(.ref a418)]
     refine gw_st (fun _ kq => XS.dup X418.here hx rfl (hb hby at_167) rfl rfl kq) ?_
     show Gwg T418 m 168 [(.ref a418), (.ref a418)]
     refine gw_newO X418 hx hZ hown (wd hw 4 rfl) (wd hw 5 rfl) (wd hw 6 rfl) e418 (hb hby at_168) rfl (by decide) (by decide) ?_
     intro T430 h430 a430 g430 X430 e430 E430 A430 D430
     have c432 : a253 < h418.size := Nat.lt_of_lt_of_le c422 E418.1
     have ne433 : a253 ≠ a430 := fun q => Nat.lt_irrefl _ (Nat.lt_of_lt_of_le c432 (Nat.le_of_eq (g430.symm.trans q.symm)))
     have c434 : a404 < h418.size := Nat.lt_of_lt_of_le c424 E418.1
     have ne435 : a404 ≠ a430 := fun q => Nat.lt_irrefl _ (Nat.lt_of_lt_of_le c434 (Nat.le_of_eq (g430.symm.trans q.symm)))
     have ne436 : a418 ≠ a430 := fun q => Nat.lt_irrefl _ (Nat.lt_of_lt_of_le lt_a418 (Nat.le_of_eq (g430.symm.trans q.symm)))
     have z437 : n0 ≤ h418.size := Nat.le_trans z427 E418.1
     have nw_a430 : n0 ≤ a430 := Nat.le_trans z437 (Nat.le_of_eq g430.symm)
     have F438 : Fld Z h430 a430 "java/lang/String" "coder" "B" (.int (0 : Int32)) := D430 (Or.inr (wd hw 30 rfl)) (ty := .byte) (by decide)
     have F439 : Fld Z h430 a430 "java/lang/String" "value" "[B" .null := D430 (Or.inr (wd hw 32 rfl)) (ty := (.array .byte)) (by decide)
     show Gwg T430 m 171 [(.ref a430), (.ref a418), (.ref a418)]
     refine gw_st (fun _ kq => XS.dup X430.here hx rfl (hb hby at_171) rfl rfl kq) ?_
     show Gwg T430 m 172 [(.ref a430), (.ref a430), (.ref a418), (.ref a418)]
     refine gw_st (fun _ kq => XS.aload X430.here hx rfl (hb hby at_172) rfl rfl kq) ?_
     show Gwg T430 m 174 [(.ref a404), (.ref a430), (.ref a430), (.ref a418), (.ref a418)]
     have c441 := A417.ext E418
     have c442 := c441.ext E430
     have c443 := Old.ext O0 E253
     have c444 := Old.wr c443 W255 nw_a253
     have c445 := Old.wr c444 W257 nw_a253
     have c446 := Old.wr c445 W259 nw_a253
     have c447 := Old.ext c446 E404
     have c448 := Old.wr c447 W417 nw_a404
     have c449 := Old.ext c448 E418
     have c450 := Old.ext c449 E430
     have z451 : n0 ≤ h430.size := Nat.le_trans z437 E430.1
     refine gw_callI X430 hx hZ hml hown rfl (wd hw 7 rfl) (wd hw 8 rfl) (wd hw 9 rfl) (wd hw 6 rfl) e430 (argsL := [(.ref a404)]) (rest := [(.ref a430), (.ref a418), (.ref a418)]) (W := 3) (met_s1 l Z a0 hw a430 a404 (x0 &&& (255 : Int32)) zc h430 n0 z451 A430 F439 F438 nw_a430 c442 (Ne.symm ne435) (own_lat _) c450 S0 zn) (hb hby at_174) rfl rfl rfl (lenOf pd11 rfl) (by show 2 * 0 + _ ≤ _; exact Nat.le_of_eq rfl) (by decide) (by decide) (by decide) (by decide) (by decide) ?_
     intro T440 v440 L440 X440 q440
     obtain ⟨r_440, rfl, M440, K440, fz440_r, f440_0, f440_1, f440_2, f440_3⟩ := q440
     have N440 := Fr.app N417 M440
     have c456 : a418 < h430.size := Nat.lt_of_lt_of_le lt_a418 E430.1
     have ne457 : a418 ≠ r_440 := Nat.ne_of_lt (Nat.lt_of_lt_of_le c456 fz440_r)
     show Gwg T440 m 177 [(.ref a430), (.ref a418), (.ref a418)]
     have c461 := Exa.ext E430 A418
     have c462 := Exa.keep c461 K440
     have c463 := Fld.ext E430 F428
     have c464 := Fld.keep c463 K440 (ninS ne436 nin0)
     have c465 := Fld.ext E430 F429
     have c466 := Fld.keep c465 K440 (ninS ne436 nin0)
     have z467 : n0 ≤ T440.heap.size := Nat.le_trans z451 K440.1
     refine gw_callI X440 hx hZ hml hown rfl (wd hw 33 rfl) (wd hw 34 rfl) (wd hw 35 rfl) (wd hw 3 rfl) rfl (argsL := [(.ref a430)]) (rest := [(.ref a418)]) (W := 1) (met_tci l Z a0 hw a418 a430 T440.heap n0 z467 c462 c464 c466 nw_a418) (hb hby at_177) rfl rfl rfl (lenOf pd12 rfl) (by show 2 * 0 + _ ≤ _; exact Nat.le_of_eq rfl) (by decide) (by decide) (by decide) (by decide) (by decide) ?_
     intro T460 v460 L460 X460 q460
     obtain ⟨rfl, M460, K460, f460_0, f460_1⟩ := q460
     have N460 := Fr.app N440 M460
     show Gwg T460 m 180 [(.ref a418)]
     refine gw_st (fun _ kq => XS.astore X460.here hx rfl (hb hby at_180) rfl rfl (l' := #[.val (.int x0), .val (.int x1), .val (.int x2), .val (.int (x0 &&& (255 : Int32))), .val (.int ((XT.ushr x0 (8 : Int32)) &&& (255 : Int32))), .val (.int ((XT.ushr x0 (16 : Int32)) &&& (255 : Int32))), .val (.ref a253), .val (.int (1 : Int32)), .val (.int (0 : Int32)), .val (.int x1.toUInt32.toUInt16.toUInt32.toInt32), .val (.ref a404), .val (.ref a418), .unset, .unset]) rfl kq) ?_
     show Gwg T460 m 182 []
     refine gw_st (fun _ kq => XS.iload X460.here hx rfl (hb hby at_182) rfl kq) ?_
     show Gwg T460 m 184 [(.int (0 : Int32))]
     refine gw_st (fun _ kq => XT.iconstV X460.here hx rfl (1 : Int32) (hb hby at_184) (by decide) kq) ?_
     show Gwg T460 m 185 [(.int (1 : Int32)), (.int (0 : Int32))]
     refine gw_st (fun _ kq => XS.icmpYes X460.here hx rfl (pc0 := 185) (pc' := 193) rfl (hb hby at_185) rfl (XT.ii_lt_t (by decide)) (by decide) (by decide) kq) ?_
     show Gwg T460 m 193 []
     refine gw_st (fun _ kq => XS.iload X460.here hx rfl (hb hby at_193) rfl kq) ?_
     show Gwg T460 m 195 [(.int (0 : Int32))]
     refine gw_st (fun _ kq => XT.iconstV X460.here hx rfl (2 : Int32) (hb hby at_195) (by decide) kq) ?_
     show Gwg T460 m 196 [(.int (2 : Int32)), (.int (0 : Int32))]
     refine gw_st (fun _ kq => XS.icmpYes X460.here hx rfl (pc0 := 196) (pc' := 204) rfl (hb hby at_196) rfl (XT.ii_lt_t (by decide)) (by decide) (by decide) kq) ?_
     show Gwg T460 m 204 []
     refine gw_st (fun _ kq => XS.iload X460.here hx rfl (hb hby at_204) rfl kq) ?_
     show Gwg T460 m 206 [(.int (0 : Int32))]
     refine gw_st (fun _ kq => XT.iconstV X460.here hx rfl (3 : Int32) (hb hby at_206) (by decide) kq) ?_
     show Gwg T460 m 207 [(.int (3 : Int32)), (.int (0 : Int32))]
     refine gw_st (fun _ kq => XS.icmpYes X460.here hx rfl (pc0 := 207) (pc' := 215) rfl (hb hby at_207) rfl (XT.ii_lt_t (by decide)) (by decide) (by decide) kq) ?_
     show Gwg T460 m 215 []
     refine gw_st (fun _ kq => XS.aload X460.here hx rfl (hb hby at_215) rfl rfl kq) ?_
     show Gwg T460 m 217 [(.ref a418)]
     refine gw_st (fun _ kq => XS.iload X460.here hx rfl (hb hby at_217) rfl kq) ?_
     show Gwg T460 m 219 [(.int x1.toUInt32.toUInt16.toUInt32.toInt32), (.ref a418)]
     by_cases hc468 : (x0 &&& (255 : Int32)) = x1.toUInt32.toUInt16.toUInt32.toInt32
     ·show Gwg T460 m 219 [(.int x1.toUInt32.toUInt16.toUInt32.toInt32), (.ref a418)]
      have c470 := Exa.keep f440_0 K460
      have c471 := Fld.keep f440_1 K460 (ninS (Ne.symm ne436) nin0)
      have c472 := Fld.keep f440_2 K460 (ninS (Ne.symm ne436) nin0)
      have c473 := GA.keep f440_3 K460 (ninS (Ne.symm ne457) nin0)
      have c474 := Old.keep c450 K440 (allS nw_a430 all0)
      have c475 := Old.keep c474 K460 (allS nw_a418 all0)
      have z476 : n0 ≤ T460.heap.size := Nat.le_trans z467 K460.1
      have c477 := Exa.keep c462 K460
      refine gw_callV X460 hx hZ hml hown (wd hw 39 rfl) (wd hw 40 rfl) (notFace_of_selects (args := #[]) (mvT hZ (wd hw 42 rfl))) (wd hw 42 rfl) (wd hw 41 rfl) (wd hw 43 rfl) (wd hw 3 rfl) rfl c477 (argsL := [(.int x1.toUInt32.toUInt16.toUInt32.toInt32)]) (rest := []) (W := 0) (met_pk10t l Z a0 hw a418 a430 r_440 (x0 &&& (255 : Int32)) x1.toUInt32.toUInt16.toUInt32.toInt32 zc vf rf T460.heap n0 z476 f460_1 f460_0 c470 c471 c472 c473 (own_lat _) c475 S0 zn S1 hc468) (hb hby at_219) rfl rfl rfl (lenOf pd13 rfl) (by show 2 * 0 + _ ≤ _; exact Nat.le_of_eq rfl) (by decide) (by decide) (by decide) (by decide) (by decide) ?_
      intro T469 v469 L469 X469 q469
      obtain ⟨rfl, M469, K469⟩ := q469
      have N469 := Fr.app N460 M469
      show Gwg T469 m 222 [(.int (1 : Int32))]
      refine gw_st (fun _ kq => XS.istore X469.here hx rfl (hb hby at_222) rfl (l' := #[.val (.int x0), .val (.int x1), .val (.int x2), .val (.int (x0 &&& (255 : Int32))), .val (.int ((XT.ushr x0 (8 : Int32)) &&& (255 : Int32))), .val (.int ((XT.ushr x0 (16 : Int32)) &&& (255 : Int32))), .val (.ref a253), .val (.int (1 : Int32)), .val (.int (0 : Int32)), .val (.int x1.toUInt32.toUInt16.toUInt32.toInt32), .val (.ref a404), .val (.ref a418), .val (.int (1 : Int32)), .unset]) rfl kq) ?_
      show Gwg T469 m 224 []
      refine gw_st (fun _ kq => XS.iload X469.here hx rfl (hb hby at_224) rfl kq) ?_
      show Gwg T469 m 226 [(.int (0 : Int32))]
      refine gw_st (fun _ kq => XS.iload X469.here hx rfl (hb hby at_226) rfl kq) ?_
      show Gwg T469 m 228 [(.int (1 : Int32)), (.int (0 : Int32))]
      refine gw_st (fun _ kq => XS.icmpNo X469.here hx rfl (hb hby at_228) rfl (XT.ii_ge_f (by decide)) kq) ?_
      show Gwg T469 m 231 []
      refine gw_st (fun _ kq => XS.aload X469.here hx rfl (hb hby at_231) rfl rfl kq) ?_
      show Gwg T469 m 233 [(.ref a253)]
      refine gw_st (fun _ kq => XS.iload X469.here hx rfl (hb hby at_233) rfl kq) ?_
      show Gwg T469 m 235 [(.int (0 : Int32)), (.ref a253)]
      have c478 := A259.ext E404
      have c479 := c478.other W417 ne412
      have c480 := c479.ext E418
      have c481 := c480.ext E430
      have c482 := GA.keep c481 K440 (ninS ne433 nin0)
      have c483 := GA.keep c482 K460 (ninS ne423 nin0)
      have c484 := GA.keep c483 K469 nin0
      refine gw_cald X469 hx hZ rfl c484 (hb hby at_235) rfl rfl (by decide) (.int (x0 &&& (255 : Int32))) rfl ?_
      show Gwg T469 m 236 [(.int (x0 &&& (255 : Int32)))]
      refine gw_st (fun _ kq => XS.iload X469.here hx rfl (hb hby at_236) rfl kq) ?_
      show Gwg T469 m 238 [(.int x1.toUInt32.toUInt16.toUInt32.toInt32), (.int (x0 &&& (255 : Int32)))]
      refine gw_st (fun _ kq => XS.icmpNo X469.here hx rfl (hb hby at_238) rfl (XT.ii_ne_f hc468) kq) ?_
      show Gwg T469 m 241 []
      refine gw_st (fun _ kq => XT.iconstV X469.here hx rfl (1 : Int32) (hb hby at_241) (by decide) kq) ?_
      show Gwg T469 m 242 [(.int (1 : Int32))]
      refine gw_st (fun _ kq => XS.goto X469.here hx rfl (pc0 := 242) (pc' := 246) rfl (hb hby at_242) (by decide) (by decide) kq) ?_
      show Gwg T469 m 246 [(.int (1 : Int32))]
      refine gw_st (fun _ kq => XS.istore X469.here hx rfl (hb hby at_246) rfl (l' := #[.val (.int x0), .val (.int x1), .val (.int x2), .val (.int (x0 &&& (255 : Int32))), .val (.int ((XT.ushr x0 (8 : Int32)) &&& (255 : Int32))), .val (.int ((XT.ushr x0 (16 : Int32)) &&& (255 : Int32))), .val (.ref a253), .val (.int (1 : Int32)), .val (.int (0 : Int32)), .val (.int x1.toUInt32.toUInt16.toUInt32.toInt32), .val (.ref a404), .val (.ref a418), .val (.int (1 : Int32)), .val (.int (1 : Int32))]) rfl kq) ?_
      show Gwg T469 m 248 []
      refine gw_st (fun _ kq => XS.iload X469.here hx rfl (hb hby at_248) rfl kq) ?_
      show Gwg T469 m 250 [(.int (1 : Int32))]
      refine gw_st (fun _ kq => XS.iload X469.here hx rfl (hb hby at_250) rfl kq) ?_
      show Gwg T469 m 252 [(.int (1 : Int32)), (.int (1 : Int32))]
      refine gw_st (fun _ kq => XS.icmpNo X469.here hx rfl (hb hby at_252) rfl (XT.ii_ne_f (by decide)) kq) ?_
      show Gwg T469 m 255 []
      refine gw_st (fun _ kq => XS.aload X469.here hx rfl (hb hby at_255) rfl rfl kq) ?_
      show Gwg T469 m 257 [(.ref a418)]
      have c486 := Fld.keep f460_1 K469 nin0
      have z487 : n0 ≤ T469.heap.size := Nat.le_trans z476 K469.1
      have c488 := Exa.keep c477 K469
      refine gw_callV X469 hx hZ hml hown (wd hw 78 rfl) (wd hw 79 rfl) (notFace_of_selects (args := #[]) (mvT hZ (wd hw 81 rfl))) (wd hw 81 rfl) (wd hw 80 rfl) (wd hw 82 rfl) (wd hw 3 rfl) rfl c488 (argsL := []) (rest := []) (W := 0) (met_16 l Z a0 hw a418 (0 : Int32) T469.heap n0 z487 c486) (hb hby at_257) rfl rfl rfl (lenOf pd9 rfl) (by show 2 * 0 + _ ≤ _; exact Nat.le_of_eq rfl) (by decide) (by decide) (by decide) (by decide) (by decide) ?_
      intro T485 v485 L485 X485 q485
      obtain ⟨rfl, M485, e485⟩ := q485
      have N485 := Fr.app N469 M485
      show Gwg T485 m 260 [(.int (0 : Int32))]
      refine gw_st (fun _ kq => XS.iload X485.here hx rfl (hb hby at_260) rfl kq) ?_
      show Gwg T485 m 262 [(.int (0 : Int32)), (.int (0 : Int32))]
      refine gw_st (fun _ kq => XS.icmpNo X485.here hx rfl (hb hby at_262) rfl (XT.ii_ne_f (by decide)) kq) ?_
      show Gwg T485 m 265 []
      refine gw_st (fun _ kq => XT.iconstV X485.here hx rfl (1 : Int32) (hb hby at_265) (by decide) kq) ?_
      show Gwg T485 m 266 [(.int (1 : Int32))]
      refine gw_st (fun _ kq => XS.goto X485.here hx rfl (pc0 := 266) (pc' := 270) rfl (hb hby at_266) (by decide) (by decide) kq) ?_
      show Gwg T485 m 270 [(.int (1 : Int32))]
      exact gw_retB (w := (1 : Int32)) X485 hx hlk hret (hb hby at_270) (by decide) (by decide) (by decide) ⟨rfl, N485⟩
     ·show Gwg T460 m 219 [(.int x1.toUInt32.toUInt16.toUInt32.toInt32), (.ref a418)]
      have c490 := Exa.keep f440_0 K460
      have c491 := Fld.keep f440_1 K460 (ninS (Ne.symm ne436) nin0)
      have c492 := Fld.keep f440_2 K460 (ninS (Ne.symm ne436) nin0)
      have c493 := GA.keep f440_3 K460 (ninS (Ne.symm ne457) nin0)
      have c494 := Old.keep c450 K440 (allS nw_a430 all0)
      have c495 := Old.keep c494 K460 (allS nw_a418 all0)
      have z496 : n0 ≤ T460.heap.size := Nat.le_trans z467 K460.1
      have c497 := Exa.keep c462 K460
      refine gw_callV X460 hx hZ hml hown (wd hw 39 rfl) (wd hw 40 rfl) (notFace_of_selects (args := #[]) (mvT hZ (wd hw 42 rfl))) (wd hw 42 rfl) (wd hw 41 rfl) (wd hw 43 rfl) (wd hw 3 rfl) rfl c497 (argsL := [(.int x1.toUInt32.toUInt16.toUInt32.toInt32)]) (rest := []) (W := 0) (met_pk10f l Z a0 hw a418 a430 r_440 (x0 &&& (255 : Int32)) x1.toUInt32.toUInt16.toUInt32.toInt32 zc vf rf T460.heap n0 z496 f460_1 f460_0 c490 c491 c492 c493 (own_lat _) c495 S0 zn S1 hc468) (hb hby at_219) rfl rfl rfl (lenOf pd13 rfl) (by show 2 * 0 + _ ≤ _; exact Nat.le_of_eq rfl) (by decide) (by decide) (by decide) (by decide) (by decide) ?_
      intro T489 v489 L489 X489 q489
      obtain ⟨rfl, M489, K489⟩ := q489
      have N489 := Fr.app N460 M489
      show Gwg T489 m 222 [(.int (0 : Int32))]
      refine gw_st (fun _ kq => XS.istore X489.here hx rfl (hb hby at_222) rfl (l' := #[.val (.int x0), .val (.int x1), .val (.int x2), .val (.int (x0 &&& (255 : Int32))), .val (.int ((XT.ushr x0 (8 : Int32)) &&& (255 : Int32))), .val (.int ((XT.ushr x0 (16 : Int32)) &&& (255 : Int32))), .val (.ref a253), .val (.int (1 : Int32)), .val (.int (0 : Int32)), .val (.int x1.toUInt32.toUInt16.toUInt32.toInt32), .val (.ref a404), .val (.ref a418), .val (.int (0 : Int32)), .unset]) rfl kq) ?_
      show Gwg T489 m 224 []
      refine gw_st (fun _ kq => XS.iload X489.here hx rfl (hb hby at_224) rfl kq) ?_
      show Gwg T489 m 226 [(.int (0 : Int32))]
      refine gw_st (fun _ kq => XS.iload X489.here hx rfl (hb hby at_226) rfl kq) ?_
      show Gwg T489 m 228 [(.int (1 : Int32)), (.int (0 : Int32))]
      refine gw_st (fun _ kq => XS.icmpNo X489.here hx rfl (hb hby at_228) rfl (XT.ii_ge_f (by decide)) kq) ?_
      show Gwg T489 m 231 []
      refine gw_st (fun _ kq => XS.aload X489.here hx rfl (hb hby at_231) rfl rfl kq) ?_
      show Gwg T489 m 233 [(.ref a253)]
      refine gw_st (fun _ kq => XS.iload X489.here hx rfl (hb hby at_233) rfl kq) ?_
      show Gwg T489 m 235 [(.int (0 : Int32)), (.ref a253)]
      have c498 := A259.ext E404
      have c499 := c498.other W417 ne412
      have c500 := c499.ext E418
      have c501 := c500.ext E430
      have c502 := GA.keep c501 K440 (ninS ne433 nin0)
      have c503 := GA.keep c502 K460 (ninS ne423 nin0)
      have c504 := GA.keep c503 K489 nin0
      refine gw_cald X489 hx hZ rfl c504 (hb hby at_235) rfl rfl (by decide) (.int (x0 &&& (255 : Int32))) rfl ?_
      show Gwg T489 m 236 [(.int (x0 &&& (255 : Int32)))]
      refine gw_st (fun _ kq => XS.iload X489.here hx rfl (hb hby at_236) rfl kq) ?_
      show Gwg T489 m 238 [(.int x1.toUInt32.toUInt16.toUInt32.toInt32), (.int (x0 &&& (255 : Int32)))]
      refine gw_st (fun _ kq => XS.icmpYes X489.here hx rfl (pc0 := 238) (pc' := 245) rfl (hb hby at_238) rfl (XT.ii_ne_t hc468) (by decide) (by decide) kq) ?_
      show Gwg T489 m 245 []
      refine gw_st (fun _ kq => XT.iconstV X489.here hx rfl (0 : Int32) (hb hby at_245) (by decide) kq) ?_
      show Gwg T489 m 246 [(.int (0 : Int32))]
      refine gw_st (fun _ kq => XS.istore X489.here hx rfl (hb hby at_246) rfl (l' := #[.val (.int x0), .val (.int x1), .val (.int x2), .val (.int (x0 &&& (255 : Int32))), .val (.int ((XT.ushr x0 (8 : Int32)) &&& (255 : Int32))), .val (.int ((XT.ushr x0 (16 : Int32)) &&& (255 : Int32))), .val (.ref a253), .val (.int (1 : Int32)), .val (.int (0 : Int32)), .val (.int x1.toUInt32.toUInt16.toUInt32.toInt32), .val (.ref a404), .val (.ref a418), .val (.int (0 : Int32)), .val (.int (0 : Int32))]) rfl kq) ?_
      show Gwg T489 m 248 []
      refine gw_st (fun _ kq => XS.iload X489.here hx rfl (hb hby at_248) rfl kq) ?_
      show Gwg T489 m 250 [(.int (0 : Int32))]
      refine gw_st (fun _ kq => XS.iload X489.here hx rfl (hb hby at_250) rfl kq) ?_
      show Gwg T489 m 252 [(.int (0 : Int32)), (.int (0 : Int32))]
      refine gw_st (fun _ kq => XS.icmpNo X489.here hx rfl (hb hby at_252) rfl (XT.ii_ne_f (by decide)) kq) ?_
      show Gwg T489 m 255 []
      refine gw_st (fun _ kq => XS.aload X489.here hx rfl (hb hby at_255) rfl rfl kq) ?_
      show Gwg T489 m 257 [(.ref a418)]
      have c506 := Fld.keep f460_1 K489 nin0
      have z507 : n0 ≤ T489.heap.size := Nat.le_trans z496 K489.1
      have c508 := Exa.keep c497 K489
      refine gw_callV X489 hx hZ hml hown (wd hw 78 rfl) (wd hw 79 rfl) (notFace_of_selects (args := #[]) (mvT hZ (wd hw 81 rfl))) (wd hw 81 rfl) (wd hw 80 rfl) (wd hw 82 rfl) (wd hw 3 rfl) rfl c508 (argsL := []) (rest := []) (W := 0) (met_16 l Z a0 hw a418 (0 : Int32) T489.heap n0 z507 c506) (hb hby at_257) rfl rfl rfl (lenOf pd9 rfl) (by show 2 * 0 + _ ≤ _; exact Nat.le_of_eq rfl) (by decide) (by decide) (by decide) (by decide) (by decide) ?_
      intro T505 v505 L505 X505 q505
      obtain ⟨rfl, M505, e505⟩ := q505
      have N505 := Fr.app N489 M505
      show Gwg T505 m 260 [(.int (0 : Int32))]
      refine gw_st (fun _ kq => XS.iload X505.here hx rfl (hb hby at_260) rfl kq) ?_
      show Gwg T505 m 262 [(.int (0 : Int32)), (.int (0 : Int32))]
      refine gw_st (fun _ kq => XS.icmpNo X505.here hx rfl (hb hby at_262) rfl (XT.ii_ne_f (by decide)) kq) ?_
      show Gwg T505 m 265 []
      refine gw_st (fun _ kq => XT.iconstV X505.here hx rfl (1 : Int32) (hb hby at_265) (by decide) kq) ?_
      show Gwg T505 m 266 [(.int (1 : Int32))]
      refine gw_st (fun _ kq => XS.goto X505.here hx rfl (pc0 := 266) (pc' := 270) rfl (hb hby at_266) (by decide) (by decide) kq) ?_
      show Gwg T505 m 270 [(.int (1 : Int32))]
      exact gw_retB (w := (1 : Int32)) X505 hx hlk hret (hb hby at_270) (by decide) (by decide) (by decide) ⟨rfl, N505⟩
    ·refine gw_st (fun _ kq => XS.ifNo X259.here hx rfl (hb hby at_70) rfl (XT.i0_eq_f hc403) kq) ?_
     show Gwg T259 m 73 []
     refine gw_st (fun _ kq => XS.aload X259.here hx rfl (hb hby at_73) rfl rfl kq) ?_
     show Gwg T259 m 75 [(.ref a253)]
     refine gw_st (fun _ kq => XS.iload X259.here hx rfl (hb hby at_75) rfl kq) ?_
     show Gwg T259 m 77 [(.int (0 : Int32)), (.ref a253)]
     refine gw_st (fun _ kq => XT.iconstV X259.here hx rfl (2 : Int32) (hb hby at_77) (by decide) kq) ?_
     show Gwg T259 m 78 [(.int (2 : Int32)), (.int (0 : Int32)), (.ref a253)]
     refine gw_callS X259 hx hZ hml hown (wd hw 88 rfl) (wd hw 89 rfl) (wd hw 90 rfl) (wd hw 91 rfl) e259 (argsL := [(.int (0 : Int32)), (.int (2 : Int32))]) (rest := [(.ref a253)]) (W := 1) (met_18 l Z a0 hw (0 : Int32) (2 : Int32) h259 n0) (hb hby at_78) rfl rfl rfl (lenOf pd14 rfl) (by show 2 * 0 + _ ≤ _; exact Nat.le_of_eq rfl) (by decide) (by decide) (by decide) (by decide) (by decide) ?_
     intro T509 v509 L509 X509 q509
     obtain ⟨rfl, M509, e509⟩ := q509
     have N509 := Fr.app N259 M509
     rw [show (fMin (0 : Int32) (2 : Int32)) = (0 : Int32) from by decide +kernel]
     show Gwg T509 m 81 [(.int (0 : Int32)), (.ref a253)]
     refine gw_cald X509 hx hZ e509 A259 (hb hby at_81) rfl rfl (by decide) (.int (x0 &&& (255 : Int32))) rfl ?_
     show Gwg T509 m 82 [(.int (x0 &&& (255 : Int32)))]
     refine gw_st (fun _ kq => XS.istore X509.here hx rfl (hb hby at_82) rfl (l' := #[.val (.int x0), .val (.int x1), .val (.int x2), .val (.int (x0 &&& (255 : Int32))), .val (.int ((XT.ushr x0 (8 : Int32)) &&& (255 : Int32))), .val (.int ((XT.ushr x0 (16 : Int32)) &&& (255 : Int32))), .val (.ref a253), .val (.int (1 : Int32)), .val (.int (0 : Int32)), .val (.int (x0 &&& (255 : Int32))), .unset, .unset, .unset, .unset]) rfl kq) ?_
     show Gwg T509 m 84 []
     refine gw_st (fun _ kq => XS.goto X509.here hx rfl (pc0 := 84) (pc' := 91) rfl (hb hby at_84) (by decide) (by decide) kq) ?_
     show Gwg T509 m 91 []
     refine gw_st (fun _ kq => XS.iload X509.here hx rfl (hb hby at_91) rfl kq) ?_
     show Gwg T509 m 93 [(.int (1 : Int32))]
     refine gw_st (fun _ kq => XS.ifYes X509.here hx rfl (pc0 := 93) (pc' := 104) rfl (hb hby at_93) rfl (XT.i0_ne_t (by decide)) (by decide) (by decide) kq) ?_
     show Gwg T509 m 104 []
     refine gw_st (fun _ kq => XS.iload X509.here hx rfl (hb hby at_104) rfl kq) ?_
     show Gwg T509 m 106 [(.int (1 : Int32))]
     refine gw_st (fun _ kq => XT.iconstV X509.here hx rfl (1 : Int32) (hb hby at_106) (by decide) kq) ?_
     show Gwg T509 m 107 [(.int (1 : Int32)), (.int (1 : Int32))]
     refine gw_st (fun _ kq => XS.icmpNo X509.here hx rfl (hb hby at_107) rfl (XT.ii_ne_f (by decide)) kq) ?_
     show Gwg T509 m 110 []
     refine gw_st (fun _ kq => XT.iconstV X509.here hx rfl (1 : Int32) (hb hby at_110) (by decide) kq) ?_
     show Gwg T509 m 111 [(.int (1 : Int32))]
     refine gw_newP X509 hx hZ (wd hw 0 rfl) e509 (hb hby at_111) rfl rfl 1 (by decide) 1 (Nat.le_refl _) (by decide) (by decide) (by decide) ?_
     intro T510 h510 a510 g510 X510 e510 E510 G510
     have c515 : a253 < h255.size := (Wr.size W255).symm ▸ lt_a253
     have c516 : a253 < h257.size := (Wr.size W257).symm ▸ c515
     have c517 : a253 < h259.size := (Wr.size W259).symm ▸ c516
     have ne518 : a253 ≠ a510 := fun q => Nat.lt_irrefl _ (Nat.lt_of_lt_of_le c517 (Nat.le_of_eq (g510.symm.trans q.symm)))
     have z519 : n0 ≤ h253.size := Nat.le_trans Z0 E253.1
     have z520 : n0 ≤ h255.size := (Wr.size W255).symm ▸ z519
     have z521 : n0 ≤ h257.size := (Wr.size W257).symm ▸ z520
     have z522 : n0 ≤ h259.size := (Wr.size W259).symm ▸ z521
     have nw_a510 : n0 ≤ a510 := Nat.le_trans z522 (Nat.le_of_eq g510.symm)
     have lt_a510 : a510 < h510.size := G510.lt
     have A510 : GA Z h510 a510 .char 1 (fun i => .int (own_c3 (0 : Int32) (0 : Int32) (0 : Int32) i)) := (GA.congr G510 (fun i _ => own_z3 i))
     show Gwg T510 m 113 [(.ref a510)]
     refine gw_st (fun _ kq => XS.dup X510.here hx rfl (hb hby at_113) rfl rfl kq) ?_
     show Gwg T510 m 114 [(.ref a510), (.ref a510)]
     refine gw_st (fun _ kq => XT.iconstV X510.here hx rfl (0 : Int32) (hb hby at_114) (by decide) kq) ?_
     show Gwg T510 m 115 [(.int (0 : Int32)), (.ref a510), (.ref a510)]
     refine gw_st (fun _ kq => XS.iloadN X510.here hx rfl (hb hby at_115) rfl kq) ?_
     show Gwg T510 m 116 [(.int (x0 &&& (255 : Int32))), (.int (0 : Int32)), (.ref a510), (.ref a510)]
     refine gw_cast X510 hx hZ e510 A510 (hb hby at_116) rfl rfl (by decide) ?_
     intro T523 h523 X523 e523 W523 G523
     have N523 := Fr.snoc X523 N509 nw_a510
     have A523 : GA Z h523 a510 .char 1 (fun i => .int (own_c3 (x0 &&& (255 : Int32)) (0 : Int32) (0 : Int32) i)) := (own_stc (own_nc (own_lat _)) (by decide) (own_c30 (x0 &&& (255 : Int32)) (0 : Int32) (0 : Int32) (0 : Int32)) G523)
     show Gwg T523 m 117 [(.ref a510)]
     refine gw_st (fun _ kq => XS.astore X523.here hx rfl (hb hby at_117) rfl rfl (l' := #[.val (.int x0), .val (.int x1), .val (.int x2), .val (.int (x0 &&& (255 : Int32))), .val (.int ((XT.ushr x0 (8 : Int32)) &&& (255 : Int32))), .val (.int ((XT.ushr x0 (16 : Int32)) &&& (255 : Int32))), .val (.ref a253), .val (.int (1 : Int32)), .val (.int (0 : Int32)), .val (.int (x0 &&& (255 : Int32))), .val (.ref a510), .unset, .unset, .unset]) rfl kq) ?_
     show Gwg T523 m 119 []
     refine gw_st (fun _ kq => XS.goto X523.here hx rfl (pc0 := 119) (pc' := 164) rfl (hb hby at_119) (by decide) (by decide) kq) ?_
     show Gwg T523 m 164 []
     refine gw_newO X523 hx hZ hown (wd hw 1 rfl) (wd hw 2 rfl) (wd hw 3 rfl) e523 (hb hby at_164) rfl (by decide) (by decide) ?_
     intro T524 h524 a524 g524 X524 e524 E524 A524 D524
     have c527 : a253 < h510.size := Nat.lt_of_lt_of_le c517 E510.1
     have c528 : a253 < h523.size := (Wr.size W523).symm ▸ c527
     have ne529 : a253 ≠ a524 := fun q => Nat.lt_irrefl _ (Nat.lt_of_lt_of_le c528 (Nat.le_of_eq (g524.symm.trans q.symm)))
     have c530 : a510 < h523.size := (Wr.size W523).symm ▸ lt_a510
     have z532 : n0 ≤ h510.size := Nat.le_trans z522 E510.1
     have z533 : n0 ≤ h523.size := (Wr.size W523).symm ▸ z532
     have nw_a524 : n0 ≤ a524 := Nat.le_trans z533 (Nat.le_of_eq g524.symm)
     have lt_a524 : a524 < h524.size := A524.lt
     have F534 : Fld Z h524 a524 "com/example/wirecall/wirecall/TextCursor" "text" "Ljava/lang/String;" .null := D524 (Or.inr (wd hw 38 rfl)) (ty := (.object "java/lang/String")) (by decide)
     have F535 : Fld Z h524 a524 "com/example/wirecall/wirecall/TextCursor" "pos" "I" (.int (0 : Int32)) := D524 (Or.inl (wd hw 45 rfl)) (ty := .int) (by decide)
     show Gwg T524 m 167 [(.ref a524)]
     refine gw_st (fun _ kq => XS.dup X524.here hx rfl (hb hby at_167) rfl rfl kq) ?_
     show Gwg T524 m 168 [(.ref a524), (.ref a524)]
     refine gw_newO X524 hx hZ hown (wd hw 4 rfl) (wd hw 5 rfl) (wd hw 6 rfl) e524 (hb hby at_168) rfl (by decide) (by decide) ?_
     intro T536 h536 a536 g536 X536 e536 E536 A536 D536
     have c538 : a253 < h524.size := Nat.lt_of_lt_of_le c528 E524.1
     have ne539 : a253 ≠ a536 := fun q => Nat.lt_irrefl _ (Nat.lt_of_lt_of_le c538 (Nat.le_of_eq (g536.symm.trans q.symm)))
     have c540 : a510 < h524.size := Nat.lt_of_lt_of_le c530 E524.1
     have ne541 : a510 ≠ a536 := fun q => Nat.lt_irrefl _ (Nat.lt_of_lt_of_le c540 (Nat.le_of_eq (g536.symm.trans q.symm)))
     have ne542 : a524 ≠ a536 := fun q => Nat.lt_irrefl _ (Nat.lt_of_lt_of_le lt_a524 (Nat.le_of_eq (g536.symm.trans q.symm)))
     have z543 : n0 ≤ h524.size := Nat.le_trans z533 E524.1
     have nw_a536 : n0 ≤ a536 := Nat.le_trans z543 (Nat.le_of_eq g536.symm)
     have F544 : Fld Z h536 a536 "java/lang/String" "coder" "B" (.int (0 : Int32)) := D536 (Or.inr (wd hw 30 rfl)) (ty := .byte) (by decide)
     have F545 : Fld Z h536 a536 "java/lang/String" "value" "[B" .null := D536 (Or.inr (wd hw 32 rfl)) (ty := (.array .byte)) (by decide)
     show Gwg T536 m 171 [(.ref a536), (.ref a524), (.ref a524)]
     refine gw_st (fun _ kq => XS.dup X536.here hx rfl (hb hby at_171) rfl rfl kq) ?_
     show Gwg T536 m 172 [(.ref a536), (.ref a536), (.ref a524), (.ref a524)]
     refine gw_st (fun _ kq => XS.aload X536.here hx rfl (hb hby at_172) rfl rfl kq) ?_
     show Gwg T536 m 174 [(.ref a510), (.ref a536), (.ref a536), (.ref a524), (.ref a524)]
     have c547 := A523.ext E524
     have c548 := c547.ext E536
     have c549 := Old.ext O0 E253
     have c550 := Old.wr c549 W255 nw_a253
     have c551 := Old.wr c550 W257 nw_a253
     have c552 := Old.wr c551 W259 nw_a253
     have c553 := Old.ext c552 E510
     have c554 := Old.wr c553 W523 nw_a510
     have c555 := Old.ext c554 E524
     have c556 := Old.ext c555 E536
     have z557 : n0 ≤ h536.size := Nat.le_trans z543 E536.1
     refine gw_callI X536 hx hZ hml hown rfl (wd hw 7 rfl) (wd hw 8 rfl) (wd hw 9 rfl) (wd hw 6 rfl) e536 (argsL := [(.ref a510)]) (rest := [(.ref a536), (.ref a524), (.ref a524)]) (W := 3) (met_s1 l Z a0 hw a536 a510 (x0 &&& (255 : Int32)) zc h536 n0 z557 A536 F545 F544 nw_a536 c548 (Ne.symm ne541) (own_lat _) c556 S0 zn) (hb hby at_174) rfl rfl rfl (lenOf pd11 rfl) (by show 2 * 0 + _ ≤ _; exact Nat.le_of_eq rfl) (by decide) (by decide) (by decide) (by decide) (by decide) ?_
     intro T546 v546 L546 X546 q546
     obtain ⟨r_546, rfl, M546, K546, fz546_r, f546_0, f546_1, f546_2, f546_3⟩ := q546
     have N546 := Fr.app N523 M546
     have c562 : a524 < h536.size := Nat.lt_of_lt_of_le lt_a524 E536.1
     have ne563 : a524 ≠ r_546 := Nat.ne_of_lt (Nat.lt_of_lt_of_le c562 fz546_r)
     show Gwg T546 m 177 [(.ref a536), (.ref a524), (.ref a524)]
     have c567 := Exa.ext E536 A524
     have c568 := Exa.keep c567 K546
     have c569 := Fld.ext E536 F534
     have c570 := Fld.keep c569 K546 (ninS ne542 nin0)
     have c571 := Fld.ext E536 F535
     have c572 := Fld.keep c571 K546 (ninS ne542 nin0)
     have z573 : n0 ≤ T546.heap.size := Nat.le_trans z557 K546.1
     refine gw_callI X546 hx hZ hml hown rfl (wd hw 33 rfl) (wd hw 34 rfl) (wd hw 35 rfl) (wd hw 3 rfl) rfl (argsL := [(.ref a536)]) (rest := [(.ref a524)]) (W := 1) (met_tci l Z a0 hw a524 a536 T546.heap n0 z573 c568 c570 c572 nw_a524) (hb hby at_177) rfl rfl rfl (lenOf pd12 rfl) (by show 2 * 0 + _ ≤ _; exact Nat.le_of_eq rfl) (by decide) (by decide) (by decide) (by decide) (by decide) ?_
     intro T566 v566 L566 X566 q566
     obtain ⟨rfl, M566, K566, f566_0, f566_1⟩ := q566
     have N566 := Fr.app N546 M566
     show Gwg T566 m 180 [(.ref a524)]
     refine gw_st (fun _ kq => XS.astore X566.here hx rfl (hb hby at_180) rfl rfl (l' := #[.val (.int x0), .val (.int x1), .val (.int x2), .val (.int (x0 &&& (255 : Int32))), .val (.int ((XT.ushr x0 (8 : Int32)) &&& (255 : Int32))), .val (.int ((XT.ushr x0 (16 : Int32)) &&& (255 : Int32))), .val (.ref a253), .val (.int (1 : Int32)), .val (.int (0 : Int32)), .val (.int (x0 &&& (255 : Int32))), .val (.ref a510), .val (.ref a524), .unset, .unset]) rfl kq) ?_
     show Gwg T566 m 182 []
     refine gw_st (fun _ kq => XS.iload X566.here hx rfl (hb hby at_182) rfl kq) ?_
     show Gwg T566 m 184 [(.int (0 : Int32))]
     refine gw_st (fun _ kq => XT.iconstV X566.here hx rfl (1 : Int32) (hb hby at_184) (by decide) kq) ?_
     show Gwg T566 m 185 [(.int (1 : Int32)), (.int (0 : Int32))]
     refine gw_st (fun _ kq => XS.icmpYes X566.here hx rfl (pc0 := 185) (pc' := 193) rfl (hb hby at_185) rfl (XT.ii_lt_t (by decide)) (by decide) (by decide) kq) ?_
     show Gwg T566 m 193 []
     refine gw_st (fun _ kq => XS.iload X566.here hx rfl (hb hby at_193) rfl kq) ?_
     show Gwg T566 m 195 [(.int (0 : Int32))]
     refine gw_st (fun _ kq => XT.iconstV X566.here hx rfl (2 : Int32) (hb hby at_195) (by decide) kq) ?_
     show Gwg T566 m 196 [(.int (2 : Int32)), (.int (0 : Int32))]
     refine gw_st (fun _ kq => XS.icmpYes X566.here hx rfl (pc0 := 196) (pc' := 204) rfl (hb hby at_196) rfl (XT.ii_lt_t (by decide)) (by decide) (by decide) kq) ?_
     show Gwg T566 m 204 []
     refine gw_st (fun _ kq => XS.iload X566.here hx rfl (hb hby at_204) rfl kq) ?_
     show Gwg T566 m 206 [(.int (0 : Int32))]
     refine gw_st (fun _ kq => XT.iconstV X566.here hx rfl (3 : Int32) (hb hby at_206) (by decide) kq) ?_
     show Gwg T566 m 207 [(.int (3 : Int32)), (.int (0 : Int32))]
     refine gw_st (fun _ kq => XS.icmpYes X566.here hx rfl (pc0 := 207) (pc' := 215) rfl (hb hby at_207) rfl (XT.ii_lt_t (by decide)) (by decide) (by decide) kq) ?_
     show Gwg T566 m 215 []
     refine gw_st (fun _ kq => XS.aload X566.here hx rfl (hb hby at_215) rfl rfl kq) ?_
     show Gwg T566 m 217 [(.ref a524)]
     refine gw_st (fun _ kq => XS.iload X566.here hx rfl (hb hby at_217) rfl kq) ?_
     show Gwg T566 m 219 [(.int (x0 &&& (255 : Int32))), (.ref a524)]
     have c575 := Exa.keep f546_0 K566
     have c576 := Fld.keep f546_1 K566 (ninS (Ne.symm ne542) nin0)
     have c577 := Fld.keep f546_2 K566 (ninS (Ne.symm ne542) nin0)
     have c578 := GA.keep f546_3 K566 (ninS (Ne.symm ne563) nin0)
     have c579 := Old.keep c556 K546 (allS nw_a536 all0)
     have c580 := Old.keep c579 K566 (allS nw_a524 all0)
     have z581 : n0 ≤ T566.heap.size := Nat.le_trans z573 K566.1
     have c582 := Exa.keep c568 K566
     refine gw_callV X566 hx hZ hml hown (wd hw 39 rfl) (wd hw 40 rfl) (notFace_of_selects (args := #[]) (mvT hZ (wd hw 42 rfl))) (wd hw 42 rfl) (wd hw 41 rfl) (wd hw 43 rfl) (wd hw 3 rfl) rfl c582 (argsL := [(.int (x0 &&& (255 : Int32)))]) (rest := []) (W := 0) (met_pk10t l Z a0 hw a524 a536 r_546 (x0 &&& (255 : Int32)) (x0 &&& (255 : Int32)) zc vf rf T566.heap n0 z581 f566_1 f566_0 c575 c576 c577 c578 (own_lat _) c580 S0 zn S1 rfl) (hb hby at_219) rfl rfl rfl (lenOf pd13 rfl) (by show 2 * 0 + _ ≤ _; exact Nat.le_of_eq rfl) (by decide) (by decide) (by decide) (by decide) (by decide) ?_
     intro T574 v574 L574 X574 q574
     obtain ⟨rfl, M574, K574⟩ := q574
     have N574 := Fr.app N566 M574
     show Gwg T574 m 222 [(.int (1 : Int32))]
     refine gw_st (fun _ kq => XS.istore X574.here hx rfl (hb hby at_222) rfl (l' := #[.val (.int x0), .val (.int x1), .val (.int x2), .val (.int (x0 &&& (255 : Int32))), .val (.int ((XT.ushr x0 (8 : Int32)) &&& (255 : Int32))), .val (.int ((XT.ushr x0 (16 : Int32)) &&& (255 : Int32))), .val (.ref a253), .val (.int (1 : Int32)), .val (.int (0 : Int32)), .val (.int (x0 &&& (255 : Int32))), .val (.ref a510), .val (.ref a524), .val (.int (1 : Int32)), .unset]) rfl kq) ?_
     show Gwg T574 m 224 []
     refine gw_st (fun _ kq => XS.iload X574.here hx rfl (hb hby at_224) rfl kq) ?_
     show Gwg T574 m 226 [(.int (0 : Int32))]
     refine gw_st (fun _ kq => XS.iload X574.here hx rfl (hb hby at_226) rfl kq) ?_
     show Gwg T574 m 228 [(.int (1 : Int32)), (.int (0 : Int32))]
     refine gw_st (fun _ kq => XS.icmpNo X574.here hx rfl (hb hby at_228) rfl (XT.ii_ge_f (by decide)) kq) ?_
     show Gwg T574 m 231 []
     refine gw_st (fun _ kq => XS.aload X574.here hx rfl (hb hby at_231) rfl rfl kq) ?_
     show Gwg T574 m 233 [(.ref a253)]
     refine gw_st (fun _ kq => XS.iload X574.here hx rfl (hb hby at_233) rfl kq) ?_
     show Gwg T574 m 235 [(.int (0 : Int32)), (.ref a253)]
     have c583 := A259.ext E510
     have c584 := c583.other W523 ne518
     have c585 := c584.ext E524
     have c586 := c585.ext E536
     have c587 := GA.keep c586 K546 (ninS ne539 nin0)
     have c588 := GA.keep c587 K566 (ninS ne529 nin0)
     have c589 := GA.keep c588 K574 nin0
     refine gw_cald X574 hx hZ rfl c589 (hb hby at_235) rfl rfl (by decide) (.int (x0 &&& (255 : Int32))) rfl ?_
     show Gwg T574 m 236 [(.int (x0 &&& (255 : Int32)))]
     refine gw_st (fun _ kq => XS.iload X574.here hx rfl (hb hby at_236) rfl kq) ?_
     show Gwg T574 m 238 [(.int (x0 &&& (255 : Int32))), (.int (x0 &&& (255 : Int32)))]
     refine gw_st (fun _ kq => XS.icmpNo X574.here hx rfl (hb hby at_238) rfl (XT.ii_ne_f rfl) kq) ?_
     show Gwg T574 m 241 []
     refine gw_st (fun _ kq => XT.iconstV X574.here hx rfl (1 : Int32) (hb hby at_241) (by decide) kq) ?_
     show Gwg T574 m 242 [(.int (1 : Int32))]
     refine gw_st (fun _ kq => XS.goto X574.here hx rfl (pc0 := 242) (pc' := 246) rfl (hb hby at_242) (by decide) (by decide) kq) ?_
     show Gwg T574 m 246 [(.int (1 : Int32))]
     refine gw_st (fun _ kq => XS.istore X574.here hx rfl (hb hby at_246) rfl (l' := #[.val (.int x0), .val (.int x1), .val (.int x2), .val (.int (x0 &&& (255 : Int32))), .val (.int ((XT.ushr x0 (8 : Int32)) &&& (255 : Int32))), .val (.int ((XT.ushr x0 (16 : Int32)) &&& (255 : Int32))), .val (.ref a253), .val (.int (1 : Int32)), .val (.int (0 : Int32)), .val (.int (x0 &&& (255 : Int32))), .val (.ref a510), .val (.ref a524), .val (.int (1 : Int32)), .val (.int (1 : Int32))]) rfl kq) ?_
     show Gwg T574 m 248 []
     refine gw_st (fun _ kq => XS.iload X574.here hx rfl (hb hby at_248) rfl kq) ?_
     show Gwg T574 m 250 [(.int (1 : Int32))]
     refine gw_st (fun _ kq => XS.iload X574.here hx rfl (hb hby at_250) rfl kq) ?_
     show Gwg T574 m 252 [(.int (1 : Int32)), (.int (1 : Int32))]
     refine gw_st (fun _ kq => XS.icmpNo X574.here hx rfl (hb hby at_252) rfl (XT.ii_ne_f (by decide)) kq) ?_
     show Gwg T574 m 255 []
     refine gw_st (fun _ kq => XS.aload X574.here hx rfl (hb hby at_255) rfl rfl kq) ?_
     show Gwg T574 m 257 [(.ref a524)]
     have c591 := Fld.keep f566_1 K574 nin0
     have z592 : n0 ≤ T574.heap.size := Nat.le_trans z581 K574.1
     have c593 := Exa.keep c582 K574
     refine gw_callV X574 hx hZ hml hown (wd hw 78 rfl) (wd hw 79 rfl) (notFace_of_selects (args := #[]) (mvT hZ (wd hw 81 rfl))) (wd hw 81 rfl) (wd hw 80 rfl) (wd hw 82 rfl) (wd hw 3 rfl) rfl c593 (argsL := []) (rest := []) (W := 0) (met_16 l Z a0 hw a524 (0 : Int32) T574.heap n0 z592 c591) (hb hby at_257) rfl rfl rfl (lenOf pd9 rfl) (by show 2 * 0 + _ ≤ _; exact Nat.le_of_eq rfl) (by decide) (by decide) (by decide) (by decide) (by decide) ?_
     intro T590 v590 L590 X590 q590
     obtain ⟨rfl, M590, e590⟩ := q590
     have N590 := Fr.app N574 M590
     show Gwg T590 m 260 [(.int (0 : Int32))]
     refine gw_st (fun _ kq => XS.iload X590.here hx rfl (hb hby at_260) rfl kq) ?_
     show Gwg T590 m 262 [(.int (0 : Int32)), (.int (0 : Int32))]
     refine gw_st (fun _ kq => XS.icmpNo X590.here hx rfl (hb hby at_262) rfl (XT.ii_ne_f (by decide)) kq) ?_
     show Gwg T590 m 265 []
     refine gw_st (fun _ kq => XT.iconstV X590.here hx rfl (1 : Int32) (hb hby at_265) (by decide) kq) ?_
     show Gwg T590 m 266 [(.int (1 : Int32))]
     refine gw_st (fun _ kq => XS.goto X590.here hx rfl (pc0 := 266) (pc' := 270) rfl (hb hby at_266) (by decide) (by decide) kq) ?_
     show Gwg T590 m 270 [(.int (1 : Int32))]
     exact gw_retB (w := (1 : Int32)) X590 hx hlk hret (hb hby at_270) (by decide) (by decide) (by decide) ⟨rfl, N590⟩
   ·by_cases hk594 : (((XT.ushr x2 (2 : Int32)) &&& (3 : Int32)) % (2 : Int32)) = (1 : Int32)
    ·rw [hk594]
     show Gwg T259 m 65 []
     refine gw_st (fun _ kq => XS.iloadN X259.here hx rfl (hb hby at_65) rfl kq) ?_
     show Gwg T259 m 66 [(.int x2)]
     refine gw_st (fun _ kq => XT.iconstV X259.here hx rfl (4 : Int32) (hb hby at_66) (by decide) kq) ?_
     show Gwg T259 m 67 [(.int (4 : Int32)), (.int x2)]
     refine gw_st (fun _ kq => XT.iushr X259.here hx rfl (hb hby at_67) rfl kq) ?_
     show Gwg T259 m 68 [(.int (XT.ushr x2 (4 : Int32)))]
     refine gw_st (fun _ kq => XT.iconstV X259.here hx rfl (1 : Int32) (hb hby at_68) (by decide) kq) ?_
     show Gwg T259 m 69 [(.int (1 : Int32)), (.int (XT.ushr x2 (4 : Int32)))]
     refine gw_st (fun _ kq => XS.iand X259.here hx rfl (hb hby at_69) rfl kq) ?_
     show Gwg T259 m 70 [(.int ((XT.ushr x2 (4 : Int32)) &&& (1 : Int32)))]
     by_cases hc595 : ((XT.ushr x2 (4 : Int32)) &&& (1 : Int32)) = (0 : Int32)
     ·refine gw_st (fun _ kq => XS.ifYes X259.here hx rfl (pc0 := 70) (pc' := 87) rfl (hb hby at_70) rfl (XT.i0_eq_t hc595) (by decide) (by decide) kq) ?_
      show Gwg T259 m 87 []
      refine gw_st (fun _ kq => XS.iloadN X259.here hx rfl (hb hby at_87) rfl kq) ?_
      show Gwg T259 m 88 [(.int x1)]
      refine gw_st (fun _ kq => XT.i2c X259.here hx rfl (hb hby at_88) rfl kq) ?_
      show Gwg T259 m 89 [(.int x1.toUInt32.toUInt16.toUInt32.toInt32)]
      refine gw_st (fun _ kq => XS.istore X259.here hx rfl (hb hby at_89) rfl (l' := #[.val (.int x0), .val (.int x1), .val (.int x2), .val (.int (x0 &&& (255 : Int32))), .val (.int ((XT.ushr x0 (8 : Int32)) &&& (255 : Int32))), .val (.int ((XT.ushr x0 (16 : Int32)) &&& (255 : Int32))), .val (.ref a253), .val (.int (1 : Int32)), .val (.int (1 : Int32)), .val (.int x1.toUInt32.toUInt16.toUInt32.toInt32), .unset, .unset, .unset, .unset]) rfl kq) ?_
      show Gwg T259 m 91 []
      refine gw_st (fun _ kq => XS.iload X259.here hx rfl (hb hby at_91) rfl kq) ?_
      show Gwg T259 m 93 [(.int (1 : Int32))]
      refine gw_st (fun _ kq => XS.ifYes X259.here hx rfl (pc0 := 93) (pc' := 104) rfl (hb hby at_93) rfl (XT.i0_ne_t (by decide)) (by decide) (by decide) kq) ?_
      show Gwg T259 m 104 []
      refine gw_st (fun _ kq => XS.iload X259.here hx rfl (hb hby at_104) rfl kq) ?_
      show Gwg T259 m 106 [(.int (1 : Int32))]
      refine gw_st (fun _ kq => XT.iconstV X259.here hx rfl (1 : Int32) (hb hby at_106) (by decide) kq) ?_
      show Gwg T259 m 107 [(.int (1 : Int32)), (.int (1 : Int32))]
      refine gw_st (fun _ kq => XS.icmpNo X259.here hx rfl (hb hby at_107) rfl (XT.ii_ne_f (by decide)) kq) ?_
      show Gwg T259 m 110 []
      refine gw_st (fun _ kq => XT.iconstV X259.here hx rfl (1 : Int32) (hb hby at_110) (by decide) kq) ?_
      show Gwg T259 m 111 [(.int (1 : Int32))]
      refine gw_newP X259 hx hZ (wd hw 0 rfl) e259 (hb hby at_111) rfl rfl 1 (by decide) 1 (Nat.le_refl _) (by decide) (by decide) (by decide) ?_
      intro T596 h596 a596 g596 X596 e596 E596 G596
      have z605 : n0 ≤ h253.size := Nat.le_trans Z0 E253.1
      have z606 : n0 ≤ h255.size := (Wr.size W255).symm ▸ z605
      have z607 : n0 ≤ h257.size := (Wr.size W257).symm ▸ z606
      have z608 : n0 ≤ h259.size := (Wr.size W259).symm ▸ z607
      have nw_a596 : n0 ≤ a596 := Nat.le_trans z608 (Nat.le_of_eq g596.symm)
      have lt_a596 : a596 < h596.size := G596.lt
      have A596 : GA Z h596 a596 .char 1 (fun i => .int (own_c3 (0 : Int32) (0 : Int32) (0 : Int32) i)) := (GA.congr G596 (fun i _ => own_z3 i))
      show Gwg T596 m 113 [(.ref a596)]
      refine gw_st (fun _ kq => XS.dup X596.here hx rfl (hb hby at_113) rfl rfl kq) ?_
      show Gwg T596 m 114 [(.ref a596), (.ref a596)]
      refine gw_st (fun _ kq => XT.iconstV X596.here hx rfl (0 : Int32) (hb hby at_114) (by decide) kq) ?_
      show Gwg T596 m 115 [(.int (0 : Int32)), (.ref a596), (.ref a596)]
      refine gw_st (fun _ kq => XS.iloadN X596.here hx rfl (hb hby at_115) rfl kq) ?_
      show Gwg T596 m 116 [(.int (x0 &&& (255 : Int32))), (.int (0 : Int32)), (.ref a596), (.ref a596)]
      refine gw_cast X596 hx hZ e596 A596 (hb hby at_116) rfl rfl (by decide) ?_
      intro T609 h609 X609 e609 W609 G609
      have N609 := Fr.snoc X609 N259 nw_a596
      have A609 : GA Z h609 a596 .char 1 (fun i => .int (own_c3 (x0 &&& (255 : Int32)) (0 : Int32) (0 : Int32) i)) := (own_stc (own_nc (own_lat _)) (by decide) (own_c30 (x0 &&& (255 : Int32)) (0 : Int32) (0 : Int32) (0 : Int32)) G609)
      show Gwg T609 m 117 [(.ref a596)]
      refine gw_st (fun _ kq => XS.astore X609.here hx rfl (hb hby at_117) rfl rfl (l' := #[.val (.int x0), .val (.int x1), .val (.int x2), .val (.int (x0 &&& (255 : Int32))), .val (.int ((XT.ushr x0 (8 : Int32)) &&& (255 : Int32))), .val (.int ((XT.ushr x0 (16 : Int32)) &&& (255 : Int32))), .val (.ref a253), .val (.int (1 : Int32)), .val (.int (1 : Int32)), .val (.int x1.toUInt32.toUInt16.toUInt32.toInt32), .val (.ref a596), .unset, .unset, .unset]) rfl kq) ?_
      show Gwg T609 m 119 []
      refine gw_st (fun _ kq => XS.goto X609.here hx rfl (pc0 := 119) (pc' := 164) rfl (hb hby at_119) (by decide) (by decide) kq) ?_
      show Gwg T609 m 164 []
      refine gw_newO X609 hx hZ hown (wd hw 1 rfl) (wd hw 2 rfl) (wd hw 3 rfl) e609 (hb hby at_164) rfl (by decide) (by decide) ?_
      intro T610 h610 a610 g610 X610 e610 E610 A610 D610
      have c616 : a596 < h609.size := (Wr.size W609).symm ▸ lt_a596
      have z618 : n0 ≤ h596.size := Nat.le_trans z608 E596.1
      have z619 : n0 ≤ h609.size := (Wr.size W609).symm ▸ z618
      have nw_a610 : n0 ≤ a610 := Nat.le_trans z619 (Nat.le_of_eq g610.symm)
      have lt_a610 : a610 < h610.size := A610.lt
      have F620 : Fld Z h610 a610 "com/example/wirecall/wirecall/TextCursor" "text" "Ljava/lang/String;" .null := D610 (Or.inr (wd hw 38 rfl)) (ty := (.object "java/lang/String")) (by decide)
      have F621 : Fld Z h610 a610 "com/example/wirecall/wirecall/TextCursor" "pos" "I" (.int (0 : Int32)) := D610 (Or.inl (wd hw 45 rfl)) (ty := .int) (by decide)
      show Gwg T610 m 167 [(.ref a610)]
      refine gw_st (fun _ kq => XS.dup X610.here hx rfl (hb hby at_167) rfl rfl kq) ?_
      show Gwg T610 m 168 [(.ref a610), (.ref a610)]
      refine gw_newO X610 hx hZ hown (wd hw 4 rfl) (wd hw 5 rfl) (wd hw 6 rfl) e610 (hb hby at_168) rfl (by decide) (by decide) ?_
      intro T622 h622 a622 g622 X622 e622 E622 A622 D622
      have c626 : a596 < h610.size := Nat.lt_of_lt_of_le c616 E610.1
      have ne627 : a596 ≠ a622 := fun q => Nat.lt_irrefl _ (Nat.lt_of_lt_of_le c626 (Nat.le_of_eq (g622.symm.trans q.symm)))
      have ne628 : a610 ≠ a622 := fun q => Nat.lt_irrefl _ (Nat.lt_of_lt_of_le lt_a610 (Nat.le_of_eq (g622.symm.trans q.symm)))
      have z629 : n0 ≤ h610.size := Nat.le_trans z619 E610.1
      have nw_a622 : n0 ≤ a622 := Nat.le_trans z629 (Nat.le_of_eq g622.symm)
      have F630 : Fld Z h622 a622 "java/lang/String" "coder" "B" (.int (0 : Int32)) := D622 (Or.inr (wd hw 30 rfl)) (ty := .byte) (by decide)
      have F631 : Fld Z h622 a622 "java/lang/String" "value" "[B" .null := D622 (Or.inr (wd hw 32 rfl)) (ty := (.array .byte)) (by decide)
      show Gwg T622 m 171 [(.ref a622), (.ref a610), (.ref a610)]
      refine gw_st (fun _ kq => XS.dup X622.here hx rfl (hb hby at_171) rfl rfl kq) ?_
      show Gwg T622 m 172 [(.ref a622), (.ref a622), (.ref a610), (.ref a610)]
      refine gw_st (fun _ kq => XS.aload X622.here hx rfl (hb hby at_172) rfl rfl kq) ?_
      show Gwg T622 m 174 [(.ref a596), (.ref a622), (.ref a622), (.ref a610), (.ref a610)]
      have c633 := A609.ext E610
      have c634 := c633.ext E622
      have c635 := Old.ext O0 E253
      have c636 := Old.wr c635 W255 nw_a253
      have c637 := Old.wr c636 W257 nw_a253
      have c638 := Old.wr c637 W259 nw_a253
      have c639 := Old.ext c638 E596
      have c640 := Old.wr c639 W609 nw_a596
      have c641 := Old.ext c640 E610
      have c642 := Old.ext c641 E622
      have z643 : n0 ≤ h622.size := Nat.le_trans z629 E622.1
      refine gw_callI X622 hx hZ hml hown rfl (wd hw 7 rfl) (wd hw 8 rfl) (wd hw 9 rfl) (wd hw 6 rfl) e622 (argsL := [(.ref a596)]) (rest := [(.ref a622), (.ref a610), (.ref a610)]) (W := 3) (met_s1 l Z a0 hw a622 a596 (x0 &&& (255 : Int32)) zc h622 n0 z643 A622 F631 F630 nw_a622 c634 (Ne.symm ne627) (own_lat _) c642 S0 zn) (hb hby at_174) rfl rfl rfl (lenOf pd11 rfl) (by show 2 * 0 + _ ≤ _; exact Nat.le_of_eq rfl) (by decide) (by decide) (by decide) (by decide) (by decide) ?_
      intro T632 v632 L632 X632 q632
      obtain ⟨r_632, rfl, M632, K632, fz632_r, f632_0, f632_1, f632_2, f632_3⟩ := q632
      have N632 := Fr.app N609 M632
      have c648 : a610 < h622.size := Nat.lt_of_lt_of_le lt_a610 E622.1
      have ne649 : a610 ≠ r_632 := Nat.ne_of_lt (Nat.lt_of_lt_of_le c648 fz632_r)
      show Gwg T632 m 177 [(.ref a622), (.ref a610), (.ref a610)]
      have c653 := Exa.ext E622 A610
      have c654 := Exa.keep c653 K632
      have c655 := Fld.ext E622 F620
      have c656 := Fld.keep c655 K632 (ninS ne628 nin0)
      have c657 := Fld.ext E622 F621
      have c658 := Fld.keep c657 K632 (ninS ne628 nin0)
      have z659 : n0 ≤ T632.heap.size := Nat.le_trans z643 K632.1
      refine gw_callI X632 hx hZ hml hown rfl (wd hw 33 rfl) (wd hw 34 rfl) (wd hw 35 rfl) (wd hw 3 rfl) rfl (argsL := [(.ref a622)]) (rest := [(.ref a610)]) (W := 1) (met_tci l Z a0 hw a610 a622 T632.heap n0 z659 c654 c656 c658 nw_a610) (hb hby at_177) rfl rfl rfl (lenOf pd12 rfl) (by show 2 * 0 + _ ≤ _; exact Nat.le_of_eq rfl) (by decide) (by decide) (by decide) (by decide) (by decide) ?_
      intro T652 v652 L652 X652 q652
      obtain ⟨rfl, M652, K652, f652_0, f652_1⟩ := q652
      have N652 := Fr.app N632 M652
      show Gwg T652 m 180 [(.ref a610)]
      refine gw_st (fun _ kq => XS.astore X652.here hx rfl (hb hby at_180) rfl rfl (l' := #[.val (.int x0), .val (.int x1), .val (.int x2), .val (.int (x0 &&& (255 : Int32))), .val (.int ((XT.ushr x0 (8 : Int32)) &&& (255 : Int32))), .val (.int ((XT.ushr x0 (16 : Int32)) &&& (255 : Int32))), .val (.ref a253), .val (.int (1 : Int32)), .val (.int (1 : Int32)), .val (.int x1.toUInt32.toUInt16.toUInt32.toInt32), .val (.ref a596), .val (.ref a610), .unset, .unset]) rfl kq) ?_
      show Gwg T652 m 182 []
      refine gw_st (fun _ kq => XS.iload X652.here hx rfl (hb hby at_182) rfl kq) ?_
      show Gwg T652 m 184 [(.int (1 : Int32))]
      refine gw_st (fun _ kq => XT.iconstV X652.here hx rfl (1 : Int32) (hb hby at_184) (by decide) kq) ?_
      show Gwg T652 m 185 [(.int (1 : Int32)), (.int (1 : Int32))]
      refine gw_st (fun _ kq => XS.icmpNo X652.here hx rfl (hb hby at_185) rfl (XT.ii_lt_f (by decide)) kq) ?_
      show Gwg T652 m 188 []
      refine gw_st (fun _ kq => XS.aload X652.here hx rfl (hb hby at_188) rfl rfl kq) ?_
      show Gwg T652 m 190 [(.ref a610)]
      have c661 := Exa.keep c654 K652
      have z662 : n0 ≤ T652.heap.size := Nat.le_trans z659 K652.1
      refine gw_callV X652 hx hZ hml hown (wd hw 83 rfl) (wd hw 84 rfl) (notFace_of_selects (args := #[]) (mvT hZ (wd hw 86 rfl))) (wd hw 86 rfl) (wd hw 85 rfl) (wd hw 87 rfl) (wd hw 3 rfl) rfl c661 (argsL := []) (rest := []) (W := 0) (met_sk0 l Z a0 hw a610 a622 T652.heap n0 z662 c661 f652_0 f652_1 nw_a610) (hb hby at_190) rfl rfl rfl (lenOf pd15 rfl) (by show 2 * 0 + _ ≤ _; exact Nat.le_of_eq rfl) (by decide) (by decide) (by decide) (by decide) (by decide) ?_
      intro T660 v660 L660 X660 q660
      obtain ⟨rfl, M660, K660, f660_0, f660_1⟩ := q660
      have N660 := Fr.app N652 M660
      show Gwg T660 m 193 []
      refine gw_st (fun _ kq => XS.iload X660.here hx rfl (hb hby at_193) rfl kq) ?_
      show Gwg T660 m 195 [(.int (1 : Int32))]
      refine gw_st (fun _ kq => XT.iconstV X660.here hx rfl (2 : Int32) (hb hby at_195) (by decide) kq) ?_
      show Gwg T660 m 196 [(.int (2 : Int32)), (.int (1 : Int32))]
      refine gw_st (fun _ kq => XS.icmpYes X660.here hx rfl (pc0 := 196) (pc' := 204) rfl (hb hby at_196) rfl (XT.ii_lt_t (by decide)) (by decide) (by decide) kq) ?_
      show Gwg T660 m 204 []
      refine gw_st (fun _ kq => XS.iload X660.here hx rfl (hb hby at_204) rfl kq) ?_
      show Gwg T660 m 206 [(.int (1 : Int32))]
      refine gw_st (fun _ kq => XT.iconstV X660.here hx rfl (3 : Int32) (hb hby at_206) (by decide) kq) ?_
      show Gwg T660 m 207 [(.int (3 : Int32)), (.int (1 : Int32))]
      refine gw_st (fun _ kq => XS.icmpYes X660.here hx rfl (pc0 := 207) (pc' := 215) rfl (hb hby at_207) rfl (XT.ii_lt_t (by decide)) (by decide) (by decide) kq) ?_
      show Gwg T660 m 215 []
      refine gw_st (fun _ kq => XS.aload X660.here hx rfl (hb hby at_215) rfl rfl kq) ?_
      show Gwg T660 m 217 [(.ref a610)]
      refine gw_st (fun _ kq => XS.iload X660.here hx rfl (hb hby at_217) rfl kq) ?_
      show Gwg T660 m 219 [(.int x1.toUInt32.toUInt16.toUInt32.toInt32), (.ref a610)]
      have c664 := Exa.keep f632_0 K652
      have c665 := Exa.keep c664 K660
      have c666 := Fld.keep f632_1 K652 (ninS (Ne.symm ne628) nin0)
      have c667 := Fld.keep c666 K660 (ninS (Ne.symm ne628) nin0)
      have c668 := Fld.keep f632_2 K652 (ninS (Ne.symm ne628) nin0)
      have c669 := Fld.keep c668 K660 (ninS (Ne.symm ne628) nin0)
      have c670 := GA.keep f632_3 K652 (ninS (Ne.symm ne649) nin0)
      have c671 := GA.keep c670 K660 (ninS (Ne.symm ne649) nin0)
      have c672 := Old.keep c642 K632 (allS nw_a622 all0)
      have c673 := Old.keep c672 K652 (allS nw_a610 all0)
      have c674 := Old.keep c673 K660 (allS nw_a610 all0)
      have z675 : n0 ≤ T660.heap.size := Nat.le_trans z662 K660.1
      have c676 := Exa.keep c661 K660
      refine gw_callV X660 hx hZ hml hown (wd hw 39 rfl) (wd hw 40 rfl) (notFace_of_selects (args := #[]) (mvT hZ (wd hw 42 rfl))) (wd hw 42 rfl) (wd hw 41 rfl) (wd hw 43 rfl) (wd hw 3 rfl) rfl c676 (argsL := [(.int x1.toUInt32.toUInt16.toUInt32.toInt32)]) (rest := []) (W := 0) (met_pk11 l Z a0 hw a610 a622 r_632 (fun i => .int (own_c3 (own_by (x0 &&& (255 : Int32))) (0 : Int32) (0 : Int32) i)) x1.toUInt32.toUInt16.toUInt32.toInt32 zc T660.heap n0 z675 f660_1 f660_0 c665 c667 c669 c671 c674 S0 zn) (hb hby at_219) rfl rfl rfl (lenOf pd13 rfl) (by show 2 * 0 + _ ≤ _; exact Nat.le_of_eq rfl) (by decide) (by decide) (by decide) (by decide) (by decide) ?_
      intro T663 v663 L663 X663 q663
      obtain ⟨rfl, M663, K663⟩ := q663
      have N663 := Fr.app N660 M663
      show Gwg T663 m 222 [(.int (0 : Int32))]
      refine gw_st (fun _ kq => XS.istore X663.here hx rfl (hb hby at_222) rfl (l' := #[.val (.int x0), .val (.int x1), .val (.int x2), .val (.int (x0 &&& (255 : Int32))), .val (.int ((XT.ushr x0 (8 : Int32)) &&& (255 : Int32))), .val (.int ((XT.ushr x0 (16 : Int32)) &&& (255 : Int32))), .val (.ref a253), .val (.int (1 : Int32)), .val (.int (1 : Int32)), .val (.int x1.toUInt32.toUInt16.toUInt32.toInt32), .val (.ref a596), .val (.ref a610), .val (.int (0 : Int32)), .unset]) rfl kq) ?_
      show Gwg T663 m 224 []
      refine gw_st (fun _ kq => XS.iload X663.here hx rfl (hb hby at_224) rfl kq) ?_
      show Gwg T663 m 226 [(.int (1 : Int32))]
      refine gw_st (fun _ kq => XS.iload X663.here hx rfl (hb hby at_226) rfl kq) ?_
      show Gwg T663 m 228 [(.int (1 : Int32)), (.int (1 : Int32))]
      refine gw_st (fun _ kq => XS.icmpYes X663.here hx rfl (pc0 := 228) (pc' := 245) rfl (hb hby at_228) rfl (XT.ii_ge_t (by decide)) (by decide) (by decide) kq) ?_
      show Gwg T663 m 245 []
      refine gw_st (fun _ kq => XT.iconstV X663.here hx rfl (0 : Int32) (hb hby at_245) (by decide) kq) ?_
      show Gwg T663 m 246 [(.int (0 : Int32))]
      refine gw_st (fun _ kq => XS.istore X663.here hx rfl (hb hby at_246) rfl (l' := #[.val (.int x0), .val (.int x1), .val (.int x2), .val (.int (x0 &&& (255 : Int32))), .val (.int ((XT.ushr x0 (8 : Int32)) &&& (255 : Int32))), .val (.int ((XT.ushr x0 (16 : Int32)) &&& (255 : Int32))), .val (.ref a253), .val (.int (1 : Int32)), .val (.int (1 : Int32)), .val (.int x1.toUInt32.toUInt16.toUInt32.toInt32), .val (.ref a596), .val (.ref a610), .val (.int (0 : Int32)), .val (.int (0 : Int32))]) rfl kq) ?_
      show Gwg T663 m 248 []
      refine gw_st (fun _ kq => XS.iload X663.here hx rfl (hb hby at_248) rfl kq) ?_
      show Gwg T663 m 250 [(.int (0 : Int32))]
      refine gw_st (fun _ kq => XS.iload X663.here hx rfl (hb hby at_250) rfl kq) ?_
      show Gwg T663 m 252 [(.int (0 : Int32)), (.int (0 : Int32))]
      refine gw_st (fun _ kq => XS.icmpNo X663.here hx rfl (hb hby at_252) rfl (XT.ii_ne_f (by decide)) kq) ?_
      show Gwg T663 m 255 []
      refine gw_st (fun _ kq => XS.aload X663.here hx rfl (hb hby at_255) rfl rfl kq) ?_
      show Gwg T663 m 257 [(.ref a610)]
      have c678 := Fld.keep f660_1 K663 nin0
      have z679 : n0 ≤ T663.heap.size := Nat.le_trans z675 K663.1
      have c680 := Exa.keep c676 K663
      refine gw_callV X663 hx hZ hml hown (wd hw 78 rfl) (wd hw 79 rfl) (notFace_of_selects (args := #[]) (mvT hZ (wd hw 81 rfl))) (wd hw 81 rfl) (wd hw 80 rfl) (wd hw 82 rfl) (wd hw 3 rfl) rfl c680 (argsL := []) (rest := []) (W := 0) (met_16 l Z a0 hw a610 (1 : Int32) T663.heap n0 z679 c678) (hb hby at_257) rfl rfl rfl (lenOf pd9 rfl) (by show 2 * 0 + _ ≤ _; exact Nat.le_of_eq rfl) (by decide) (by decide) (by decide) (by decide) (by decide) ?_
      intro T677 v677 L677 X677 q677
      obtain ⟨rfl, M677, e677⟩ := q677
      have N677 := Fr.app N663 M677
      show Gwg T677 m 260 [(.int (1 : Int32))]
      refine gw_st (fun _ kq => XS.iload X677.here hx rfl (hb hby at_260) rfl kq) ?_
      show Gwg T677 m 262 [(.int (1 : Int32)), (.int (1 : Int32))]
      refine gw_st (fun _ kq => XS.icmpNo X677.here hx rfl (hb hby at_262) rfl (XT.ii_ne_f (by decide)) kq) ?_
      show Gwg T677 m 265 []
      refine gw_st (fun _ kq => XT.iconstV X677.here hx rfl (1 : Int32) (hb hby at_265) (by decide) kq) ?_
      show Gwg T677 m 266 [(.int (1 : Int32))]
      refine gw_st (fun _ kq => XS.goto X677.here hx rfl (pc0 := 266) (pc' := 270) rfl (hb hby at_266) (by decide) (by decide) kq) ?_
      show Gwg T677 m 270 [(.int (1 : Int32))]
      exact gw_retB (w := (1 : Int32)) X677 hx hlk hret (hb hby at_270) (by decide) (by decide) (by decide) ⟨rfl, N677⟩
     ·refine gw_st (fun _ kq => XS.ifNo X259.here hx rfl (hb hby at_70) rfl (XT.i0_eq_f hc595) kq) ?_
      show Gwg T259 m 73 []
      refine gw_st (fun _ kq => XS.aload X259.here hx rfl (hb hby at_73) rfl rfl kq) ?_
      show Gwg T259 m 75 [(.ref a253)]
      refine gw_st (fun _ kq => XS.iload X259.here hx rfl (hb hby at_75) rfl kq) ?_
      show Gwg T259 m 77 [(.int (1 : Int32)), (.ref a253)]
      refine gw_st (fun _ kq => XT.iconstV X259.here hx rfl (2 : Int32) (hb hby at_77) (by decide) kq) ?_
      show Gwg T259 m 78 [(.int (2 : Int32)), (.int (1 : Int32)), (.ref a253)]
      refine gw_callS X259 hx hZ hml hown (wd hw 88 rfl) (wd hw 89 rfl) (wd hw 90 rfl) (wd hw 91 rfl) e259 (argsL := [(.int (1 : Int32)), (.int (2 : Int32))]) (rest := [(.ref a253)]) (W := 1) (met_18 l Z a0 hw (1 : Int32) (2 : Int32) h259 n0) (hb hby at_78) rfl rfl rfl (lenOf pd14 rfl) (by show 2 * 0 + _ ≤ _; exact Nat.le_of_eq rfl) (by decide) (by decide) (by decide) (by decide) (by decide) ?_
      intro T681 v681 L681 X681 q681
      obtain ⟨rfl, M681, e681⟩ := q681
      have N681 := Fr.app N259 M681
      rw [show (fMin (1 : Int32) (2 : Int32)) = (1 : Int32) from by decide +kernel]
      show Gwg T681 m 81 [(.int (1 : Int32)), (.ref a253)]
      refine gw_cald X681 hx hZ e681 A259 (hb hby at_81) rfl rfl (by decide) (.int ((XT.ushr x0 (8 : Int32)) &&& (255 : Int32))) rfl ?_
      show Gwg T681 m 82 [(.int ((XT.ushr x0 (8 : Int32)) &&& (255 : Int32)))]
      refine gw_st (fun _ kq => XS.istore X681.here hx rfl (hb hby at_82) rfl (l' := #[.val (.int x0), .val (.int x1), .val (.int x2), .val (.int (x0 &&& (255 : Int32))), .val (.int ((XT.ushr x0 (8 : Int32)) &&& (255 : Int32))), .val (.int ((XT.ushr x0 (16 : Int32)) &&& (255 : Int32))), .val (.ref a253), .val (.int (1 : Int32)), .val (.int (1 : Int32)), .val (.int ((XT.ushr x0 (8 : Int32)) &&& (255 : Int32))), .unset, .unset, .unset, .unset]) rfl kq) ?_
      show Gwg T681 m 84 []
      refine gw_st (fun _ kq => XS.goto X681.here hx rfl (pc0 := 84) (pc' := 91) rfl (hb hby at_84) (by decide) (by decide) kq) ?_
      show Gwg T681 m 91 []
      refine gw_st (fun _ kq => XS.iload X681.here hx rfl (hb hby at_91) rfl kq) ?_
      show Gwg T681 m 93 [(.int (1 : Int32))]
      refine gw_st (fun _ kq => XS.ifYes X681.here hx rfl (pc0 := 93) (pc' := 104) rfl (hb hby at_93) rfl (XT.i0_ne_t (by decide)) (by decide) (by decide) kq) ?_
      show Gwg T681 m 104 []
      refine gw_st (fun _ kq => XS.iload X681.here hx rfl (hb hby at_104) rfl kq) ?_
      show Gwg T681 m 106 [(.int (1 : Int32))]
      refine gw_st (fun _ kq => XT.iconstV X681.here hx rfl (1 : Int32) (hb hby at_106) (by decide) kq) ?_
      show Gwg T681 m 107 [(.int (1 : Int32)), (.int (1 : Int32))]
      refine gw_st (fun _ kq => XS.icmpNo X681.here hx rfl (hb hby at_107) rfl (XT.ii_ne_f (by decide)) kq) ?_
      show Gwg T681 m 110 []
      refine gw_st (fun _ kq => XT.iconstV X681.here hx rfl (1 : Int32) (hb hby at_110) (by decide) kq) ?_
      show Gwg T681 m 111 [(.int (1 : Int32))]
      refine gw_newP X681 hx hZ (wd hw 0 rfl) e681 (hb hby at_111) rfl rfl 1 (by decide) 1 (Nat.le_refl _) (by decide) (by decide) (by decide) ?_
      intro T682 h682 a682 g682 X682 e682 E682 G682
      have z691 : n0 ≤ h253.size := Nat.le_trans Z0 E253.1
      have z692 : n0 ≤ h255.size := (Wr.size W255).symm ▸ z691
      have z693 : n0 ≤ h257.size := (Wr.size W257).symm ▸ z692
      have z694 : n0 ≤ h259.size := (Wr.size W259).symm ▸ z693
      have nw_a682 : n0 ≤ a682 := Nat.le_trans z694 (Nat.le_of_eq g682.symm)
      have lt_a682 : a682 < h682.size := G682.lt
      have A682 : GA Z h682 a682 .char 1 (fun i => .int (own_c3 (0 : Int32) (0 : Int32) (0 : Int32) i)) := (GA.congr G682 (fun i _ => own_z3 i))
      show Gwg T682 m 113 [(.ref a682)]
      refine gw_st (fun _ kq => XS.dup X682.here hx rfl (hb hby at_113) rfl rfl kq) ?_
      show Gwg T682 m 114 [(.ref a682), (.ref a682)]
      refine gw_st (fun _ kq => XT.iconstV X682.here hx rfl (0 : Int32) (hb hby at_114) (by decide) kq) ?_
      show Gwg T682 m 115 [(.int (0 : Int32)), (.ref a682), (.ref a682)]
      refine gw_st (fun _ kq => XS.iloadN X682.here hx rfl (hb hby at_115) rfl kq) ?_
      show Gwg T682 m 116 [(.int (x0 &&& (255 : Int32))), (.int (0 : Int32)), (.ref a682), (.ref a682)]
      refine gw_cast X682 hx hZ e682 A682 (hb hby at_116) rfl rfl (by decide) ?_
      intro T695 h695 X695 e695 W695 G695
      have N695 := Fr.snoc X695 N681 nw_a682
      have A695 : GA Z h695 a682 .char 1 (fun i => .int (own_c3 (x0 &&& (255 : Int32)) (0 : Int32) (0 : Int32) i)) := (own_stc (own_nc (own_lat _)) (by decide) (own_c30 (x0 &&& (255 : Int32)) (0 : Int32) (0 : Int32) (0 : Int32)) G695)
      show Gwg T695 m 117 [(.ref a682)]
      refine gw_st (fun _ kq => XS.astore X695.here hx rfl (hb hby at_117) rfl rfl (l' := #[.val (.int x0), .val (.int x1), .val (.int x2), .val (.int (x0 &&& (255 : Int32))), .val (.int ((XT.ushr x0 (8 : Int32)) &&& (255 : Int32))), .val (.int ((XT.ushr x0 (16 : Int32)) &&& (255 : Int32))), .val (.ref a253), .val (.int (1 : Int32)), .val (.int (1 : Int32)), .val (.int ((XT.ushr x0 (8 : Int32)) &&& (255 : Int32))), .val (.ref a682), .unset, .unset, .unset]) rfl kq) ?_
      show Gwg T695 m 119 []
      refine gw_st (fun _ kq => XS.goto X695.here hx rfl (pc0 := 119) (pc' := 164) rfl (hb hby at_119) (by decide) (by decide) kq) ?_
      show Gwg T695 m 164 []
      refine gw_newO X695 hx hZ hown (wd hw 1 rfl) (wd hw 2 rfl) (wd hw 3 rfl) e695 (hb hby at_164) rfl (by decide) (by decide) ?_
      intro T696 h696 a696 g696 X696 e696 E696 A696 D696
      have c702 : a682 < h695.size := (Wr.size W695).symm ▸ lt_a682
      have z704 : n0 ≤ h682.size := Nat.le_trans z694 E682.1
      have z705 : n0 ≤ h695.size := (Wr.size W695).symm ▸ z704
      have nw_a696 : n0 ≤ a696 := Nat.le_trans z705 (Nat.le_of_eq g696.symm)
      have lt_a696 : a696 < h696.size := A696.lt
      have F706 : Fld Z h696 a696 "com/example/wirecall/wirecall/TextCursor" "text" "Ljava/lang/String;" .null := D696 (Or.inr (wd hw 38 rfl)) (ty := (.object "java/lang/String")) (by decide)
      have F707 : Fld Z h696 a696 "com/example/wirecall/wirecall/TextCursor" "pos" "I" (.int (0 : Int32)) := D696 (Or.inl (wd hw 45 rfl)) (ty := .int) (by decide)
      show Gwg T696 m 167 [(.ref a696)]
      refine gw_st (fun _ kq => XS.dup X696.here hx rfl (hb hby at_167) rfl rfl kq) ?_
      show Gwg T696 m 168 [(.ref a696), (.ref a696)]
      refine gw_newO X696 hx hZ hown (wd hw 4 rfl) (wd hw 5 rfl) (wd hw 6 rfl) e696 (hb hby at_168) rfl (by decide) (by decide) ?_
      intro T708 h708 a708 g708 X708 e708 E708 A708 D708
      have c712 : a682 < h696.size := Nat.lt_of_lt_of_le c702 E696.1
      have ne713 : a682 ≠ a708 := fun q => Nat.lt_irrefl _ (Nat.lt_of_lt_of_le c712 (Nat.le_of_eq (g708.symm.trans q.symm)))
      have ne714 : a696 ≠ a708 := fun q => Nat.lt_irrefl _ (Nat.lt_of_lt_of_le lt_a696 (Nat.le_of_eq (g708.symm.trans q.symm)))
      have z715 : n0 ≤ h696.size := Nat.le_trans z705 E696.1
      have nw_a708 : n0 ≤ a708 := Nat.le_trans z715 (Nat.le_of_eq g708.symm)
      have F716 : Fld Z h708 a708 "java/lang/String" "coder" "B" (.int (0 : Int32)) := D708 (Or.inr (wd hw 30 rfl)) (ty := .byte) (by decide)
      have F717 : Fld Z h708 a708 "java/lang/String" "value" "[B" .null := D708 (Or.inr (wd hw 32 rfl)) (ty := (.array .byte)) (by decide)
      show Gwg T708 m 171 [(.ref a708), (.ref a696), (.ref a696)]
      refine gw_st (fun _ kq => XS.dup X708.here hx rfl (hb hby at_171) rfl rfl kq) ?_
      show Gwg T708 m 172 [(.ref a708), (.ref a708), (.ref a696), (.ref a696)]
      refine gw_st (fun _ kq => XS.aload X708.here hx rfl (hb hby at_172) rfl rfl kq) ?_
      show Gwg T708 m 174 [(.ref a682), (.ref a708), (.ref a708), (.ref a696), (.ref a696)]
      have c719 := A695.ext E696
      have c720 := c719.ext E708
      have c721 := Old.ext O0 E253
      have c722 := Old.wr c721 W255 nw_a253
      have c723 := Old.wr c722 W257 nw_a253
      have c724 := Old.wr c723 W259 nw_a253
      have c725 := Old.ext c724 E682
      have c726 := Old.wr c725 W695 nw_a682
      have c727 := Old.ext c726 E696
      have c728 := Old.ext c727 E708
      have z729 : n0 ≤ h708.size := Nat.le_trans z715 E708.1
      refine gw_callI X708 hx hZ hml hown rfl (wd hw 7 rfl) (wd hw 8 rfl) (wd hw 9 rfl) (wd hw 6 rfl) e708 (argsL := [(.ref a682)]) (rest := [(.ref a708), (.ref a696), (.ref a696)]) (W := 3) (met_s1 l Z a0 hw a708 a682 (x0 &&& (255 : Int32)) zc h708 n0 z729 A708 F717 F716 nw_a708 c720 (Ne.symm ne713) (own_lat _) c728 S0 zn) (hb hby at_174) rfl rfl rfl (lenOf pd11 rfl) (by show 2 * 0 + _ ≤ _; exact Nat.le_of_eq rfl) (by decide) (by decide) (by decide) (by decide) (by decide) ?_
      intro T718 v718 L718 X718 q718
      obtain ⟨r_718, rfl, M718, K718, fz718_r, f718_0, f718_1, f718_2, f718_3⟩ := q718
      have N718 := Fr.app N695 M718
      have c734 : a696 < h708.size := Nat.lt_of_lt_of_le lt_a696 E708.1
      have ne735 : a696 ≠ r_718 := Nat.ne_of_lt (Nat.lt_of_lt_of_le c734 fz718_r)
      show Gwg T718 m 177 [(.ref a708), (.ref a696), (.ref a696)]
      have c739 := Exa.ext E708 A696
      have c740 := Exa.keep c739 K718
      have c741 := Fld.ext E708 F706
      have c742 := Fld.keep c741 K718 (ninS ne714 nin0)
      have c743 := Fld.ext E708 F707
      have c744 := Fld.keep c743 K718 (ninS ne714 nin0)
      have z745 : n0 ≤ T718.heap.size := Nat.le_trans z729 K718.1
      refine gw_callI X718 hx hZ hml hown rfl (wd hw 33 rfl) (wd hw 34 rfl) (wd hw 35 rfl) (wd hw 3 rfl) rfl (argsL := [(.ref a708)]) (rest := [(.ref a696)]) (W := 1) (met_tci l Z a0 hw a696 a708 T718.heap n0 z745 c740 c742 c744 nw_a696) (hb hby at_177) rfl rfl rfl (lenOf pd12 rfl) (by show 2 * 0 + _ ≤ _; exact Nat.le_of_eq rfl) (by decide) (by decide) (by decide) (by decide) (by decide) ?_
      intro T738 v738 L738 X738 q738
      obtain ⟨rfl, M738, K738, f738_0, f738_1⟩ := q738
      have N738 := Fr.app N718 M738
      show Gwg T738 m 180 [(.ref a696)]
      refine gw_st (fun _ kq => XS.astore X738.here hx rfl (hb hby at_180) rfl rfl (l' := #[.val (.int x0), .val (.int x1), .val (.int x2), .val (.int (x0 &&& (255 : Int32))), .val (.int ((XT.ushr x0 (8 : Int32)) &&& (255 : Int32))), .val (.int ((XT.ushr x0 (16 : Int32)) &&& (255 : Int32))), .val (.ref a253), .val (.int (1 : Int32)), .val (.int (1 : Int32)), .val (.int ((XT.ushr x0 (8 : Int32)) &&& (255 : Int32))), .val (.ref a682), .val (.ref a696), .unset, .unset]) rfl kq) ?_
      show Gwg T738 m 182 []
      refine gw_st (fun _ kq => XS.iload X738.here hx rfl (hb hby at_182) rfl kq) ?_
      show Gwg T738 m 184 [(.int (1 : Int32))]
      refine gw_st (fun _ kq => XT.iconstV X738.here hx rfl (1 : Int32) (hb hby at_184) (by decide) kq) ?_
      show Gwg T738 m 185 [(.int (1 : Int32)), (.int (1 : Int32))]
      refine gw_st (fun _ kq => XS.icmpNo X738.here hx rfl (hb hby at_185) rfl (XT.ii_lt_f (by decide)) kq) ?_
      show Gwg T738 m 188 []
      refine gw_st (fun _ kq => XS.aload X738.here hx rfl (hb hby at_188) rfl rfl kq) ?_
      show Gwg T738 m 190 [(.ref a696)]
      have c747 := Exa.keep c740 K738
      have z748 : n0 ≤ T738.heap.size := Nat.le_trans z745 K738.1
      refine gw_callV X738 hx hZ hml hown (wd hw 83 rfl) (wd hw 84 rfl) (notFace_of_selects (args := #[]) (mvT hZ (wd hw 86 rfl))) (wd hw 86 rfl) (wd hw 85 rfl) (wd hw 87 rfl) (wd hw 3 rfl) rfl c747 (argsL := []) (rest := []) (W := 0) (met_sk0 l Z a0 hw a696 a708 T738.heap n0 z748 c747 f738_0 f738_1 nw_a696) (hb hby at_190) rfl rfl rfl (lenOf pd15 rfl) (by show 2 * 0 + _ ≤ _; exact Nat.le_of_eq rfl) (by decide) (by decide) (by decide) (by decide) (by decide) ?_
      intro T746 v746 L746 X746 q746
      obtain ⟨rfl, M746, K746, f746_0, f746_1⟩ := q746
      have N746 := Fr.app N738 M746
      show Gwg T746 m 193 []
      refine gw_st (fun _ kq => XS.iload X746.here hx rfl (hb hby at_193) rfl kq) ?_
      show Gwg T746 m 195 [(.int (1 : Int32))]
      refine gw_st (fun _ kq => XT.iconstV X746.here hx rfl (2 : Int32) (hb hby at_195) (by decide) kq) ?_
      show Gwg T746 m 196 [(.int (2 : Int32)), (.int (1 : Int32))]
      refine gw_st (fun _ kq => XS.icmpYes X746.here hx rfl (pc0 := 196) (pc' := 204) rfl (hb hby at_196) rfl (XT.ii_lt_t (by decide)) (by decide) (by decide) kq) ?_
      show Gwg T746 m 204 []
      refine gw_st (fun _ kq => XS.iload X746.here hx rfl (hb hby at_204) rfl kq) ?_
      show Gwg T746 m 206 [(.int (1 : Int32))]
      refine gw_st (fun _ kq => XT.iconstV X746.here hx rfl (3 : Int32) (hb hby at_206) (by decide) kq) ?_
      show Gwg T746 m 207 [(.int (3 : Int32)), (.int (1 : Int32))]
      refine gw_st (fun _ kq => XS.icmpYes X746.here hx rfl (pc0 := 207) (pc' := 215) rfl (hb hby at_207) rfl (XT.ii_lt_t (by decide)) (by decide) (by decide) kq) ?_
      show Gwg T746 m 215 []
      refine gw_st (fun _ kq => XS.aload X746.here hx rfl (hb hby at_215) rfl rfl kq) ?_
      show Gwg T746 m 217 [(.ref a696)]
      refine gw_st (fun _ kq => XS.iload X746.here hx rfl (hb hby at_217) rfl kq) ?_
      show Gwg T746 m 219 [(.int ((XT.ushr x0 (8 : Int32)) &&& (255 : Int32))), (.ref a696)]
      have c750 := Exa.keep f718_0 K738
      have c751 := Exa.keep c750 K746
      have c752 := Fld.keep f718_1 K738 (ninS (Ne.symm ne714) nin0)
      have c753 := Fld.keep c752 K746 (ninS (Ne.symm ne714) nin0)
      have c754 := Fld.keep f718_2 K738 (ninS (Ne.symm ne714) nin0)
      have c755 := Fld.keep c754 K746 (ninS (Ne.symm ne714) nin0)
      have c756 := GA.keep f718_3 K738 (ninS (Ne.symm ne735) nin0)
      have c757 := GA.keep c756 K746 (ninS (Ne.symm ne735) nin0)
      have c758 := Old.keep c728 K718 (allS nw_a708 all0)
      have c759 := Old.keep c758 K738 (allS nw_a696 all0)
      have c760 := Old.keep c759 K746 (allS nw_a696 all0)
      have z761 : n0 ≤ T746.heap.size := Nat.le_trans z748 K746.1
      have c762 := Exa.keep c747 K746
      refine gw_callV X746 hx hZ hml hown (wd hw 39 rfl) (wd hw 40 rfl) (notFace_of_selects (args := #[]) (mvT hZ (wd hw 42 rfl))) (wd hw 42 rfl) (wd hw 41 rfl) (wd hw 43 rfl) (wd hw 3 rfl) rfl c762 (argsL := [(.int ((XT.ushr x0 (8 : Int32)) &&& (255 : Int32)))]) (rest := []) (W := 0) (met_pk11 l Z a0 hw a696 a708 r_718 (fun i => .int (own_c3 (own_by (x0 &&& (255 : Int32))) (0 : Int32) (0 : Int32) i)) ((XT.ushr x0 (8 : Int32)) &&& (255 : Int32)) zc T746.heap n0 z761 f746_1 f746_0 c751 c753 c755 c757 c760 S0 zn) (hb hby at_219) rfl rfl rfl (lenOf pd13 rfl) (by show 2 * 0 + _ ≤ _; exact Nat.le_of_eq rfl) (by decide) (by decide) (by decide) (by decide) (by decide) ?_
      intro T749 v749 L749 X749 q749
      obtain ⟨rfl, M749, K749⟩ := q749
      have N749 := Fr.app N746 M749
      show Gwg T749 m 222 [(.int (0 : Int32))]
      refine gw_st (fun _ kq => XS.istore X749.here hx rfl (hb hby at_222) rfl (l' := #[.val (.int x0), .val (.int x1), .val (.int x2), .val (.int (x0 &&& (255 : Int32))), .val (.int ((XT.ushr x0 (8 : Int32)) &&& (255 : Int32))), .val (.int ((XT.ushr x0 (16 : Int32)) &&& (255 : Int32))), .val (.ref a253), .val (.int (1 : Int32)), .val (.int (1 : Int32)), .val (.int ((XT.ushr x0 (8 : Int32)) &&& (255 : Int32))), .val (.ref a682), .val (.ref a696), .val (.int (0 : Int32)), .unset]) rfl kq) ?_
      show Gwg T749 m 224 []
      refine gw_st (fun _ kq => XS.iload X749.here hx rfl (hb hby at_224) rfl kq) ?_
      show Gwg T749 m 226 [(.int (1 : Int32))]
      refine gw_st (fun _ kq => XS.iload X749.here hx rfl (hb hby at_226) rfl kq) ?_
      show Gwg T749 m 228 [(.int (1 : Int32)), (.int (1 : Int32))]
      refine gw_st (fun _ kq => XS.icmpYes X749.here hx rfl (pc0 := 228) (pc' := 245) rfl (hb hby at_228) rfl (XT.ii_ge_t (by decide)) (by decide) (by decide) kq) ?_
      show Gwg T749 m 245 []
      refine gw_st (fun _ kq => XT.iconstV X749.here hx rfl (0 : Int32) (hb hby at_245) (by decide) kq) ?_
      show Gwg T749 m 246 [(.int (0 : Int32))]
      refine gw_st (fun _ kq => XS.istore X749.here hx rfl (hb hby at_246) rfl (l' := #[.val (.int x0), .val (.int x1), .val (.int x2), .val (.int (x0 &&& (255 : Int32))), .val (.int ((XT.ushr x0 (8 : Int32)) &&& (255 : Int32))), .val (.int ((XT.ushr x0 (16 : Int32)) &&& (255 : Int32))), .val (.ref a253), .val (.int (1 : Int32)), .val (.int (1 : Int32)), .val (.int ((XT.ushr x0 (8 : Int32)) &&& (255 : Int32))), .val (.ref a682), .val (.ref a696), .val (.int (0 : Int32)), .val (.int (0 : Int32))]) rfl kq) ?_
      show Gwg T749 m 248 []
      refine gw_st (fun _ kq => XS.iload X749.here hx rfl (hb hby at_248) rfl kq) ?_
      show Gwg T749 m 250 [(.int (0 : Int32))]
      refine gw_st (fun _ kq => XS.iload X749.here hx rfl (hb hby at_250) rfl kq) ?_
      show Gwg T749 m 252 [(.int (0 : Int32)), (.int (0 : Int32))]
      refine gw_st (fun _ kq => XS.icmpNo X749.here hx rfl (hb hby at_252) rfl (XT.ii_ne_f (by decide)) kq) ?_
      show Gwg T749 m 255 []
      refine gw_st (fun _ kq => XS.aload X749.here hx rfl (hb hby at_255) rfl rfl kq) ?_
      show Gwg T749 m 257 [(.ref a696)]
      have c764 := Fld.keep f746_1 K749 nin0
      have z765 : n0 ≤ T749.heap.size := Nat.le_trans z761 K749.1
      have c766 := Exa.keep c762 K749
      refine gw_callV X749 hx hZ hml hown (wd hw 78 rfl) (wd hw 79 rfl) (notFace_of_selects (args := #[]) (mvT hZ (wd hw 81 rfl))) (wd hw 81 rfl) (wd hw 80 rfl) (wd hw 82 rfl) (wd hw 3 rfl) rfl c766 (argsL := []) (rest := []) (W := 0) (met_16 l Z a0 hw a696 (1 : Int32) T749.heap n0 z765 c764) (hb hby at_257) rfl rfl rfl (lenOf pd9 rfl) (by show 2 * 0 + _ ≤ _; exact Nat.le_of_eq rfl) (by decide) (by decide) (by decide) (by decide) (by decide) ?_
      intro T763 v763 L763 X763 q763
      obtain ⟨rfl, M763, e763⟩ := q763
      have N763 := Fr.app N749 M763
      show Gwg T763 m 260 [(.int (1 : Int32))]
      refine gw_st (fun _ kq => XS.iload X763.here hx rfl (hb hby at_260) rfl kq) ?_
      show Gwg T763 m 262 [(.int (1 : Int32)), (.int (1 : Int32))]
      refine gw_st (fun _ kq => XS.icmpNo X763.here hx rfl (hb hby at_262) rfl (XT.ii_ne_f (by decide)) kq) ?_
      show Gwg T763 m 265 []
      refine gw_st (fun _ kq => XT.iconstV X763.here hx rfl (1 : Int32) (hb hby at_265) (by decide) kq) ?_
      show Gwg T763 m 266 [(.int (1 : Int32))]
      refine gw_st (fun _ kq => XS.goto X763.here hx rfl (pc0 := 266) (pc' := 270) rfl (hb hby at_266) (by decide) (by decide) kq) ?_
      show Gwg T763 m 270 [(.int (1 : Int32))]
      exact gw_retB (w := (1 : Int32)) X763 hx hlk hret (hb hby at_270) (by decide) (by decide) (by decide) ⟨rfl, N763⟩
    ·exact (own_dk2 _ hk402 hk594).elim
  ·by_cases hk767 : (x2 &&& (3 : Int32)) = (2 : Int32)
   ·rw [hk767]
    show Gwg T259 m 53 []
    refine gw_st (fun _ kq => XS.iloadN X259.here hx rfl (hb hby at_53) rfl kq) ?_
    show Gwg T259 m 54 [(.int x2)]
    refine gw_st (fun _ kq => XT.iconstV X259.here hx rfl (2 : Int32) (hb hby at_54) (by decide) kq) ?_
    show Gwg T259 m 55 [(.int (2 : Int32)), (.int x2)]
    refine gw_st (fun _ kq => XT.iushr X259.here hx rfl (hb hby at_55) rfl kq) ?_
    show Gwg T259 m 56 [(.int (XT.ushr x2 (2 : Int32)))]
    refine gw_st (fun _ kq => XT.iconstV X259.here hx rfl (3 : Int32) (hb hby at_56) (by decide) kq) ?_
    show Gwg T259 m 57 [(.int (3 : Int32)), (.int (XT.ushr x2 (2 : Int32)))]
    refine gw_st (fun _ kq => XS.iand X259.here hx rfl (hb hby at_57) rfl kq) ?_
    show Gwg T259 m 58 [(.int ((XT.ushr x2 (2 : Int32)) &&& (3 : Int32)))]
    refine gw_st (fun _ kq => XS.iload X259.here hx rfl (hb hby at_58) rfl kq) ?_
    show Gwg T259 m 60 [(.int (2 : Int32)), (.int ((XT.ushr x2 (2 : Int32)) &&& (3 : Int32)))]
    refine gw_st (fun _ kq => XT.iconstV X259.here hx rfl (1 : Int32) (hb hby at_60) (by decide) kq) ?_
    show Gwg T259 m 61 [(.int (1 : Int32)), (.int (2 : Int32)), (.int ((XT.ushr x2 (2 : Int32)) &&& (3 : Int32)))]
    refine gw_st (fun _ kq => XS.iadd X259.here hx rfl (hb hby at_61) rfl kq) ?_
    rw [show ((2 : Int32) + (1 : Int32)) = (3 : Int32) from by decide +kernel]
    show Gwg T259 m 62 [(.int (3 : Int32)), (.int ((XT.ushr x2 (2 : Int32)) &&& (3 : Int32)))]
    refine gw_st (fun _ kq => iremM X259 hx rfl (hb hby at_62) rfl (by decide) kq) ?_
    show Gwg T259 m 63 [(.int (((XT.ushr x2 (2 : Int32)) &&& (3 : Int32)) % (3 : Int32)))]
    refine gw_st (fun _ kq => XS.istore X259.here hx rfl (hb hby at_63) rfl (l' := #[.val (.int x0), .val (.int x1), .val (.int x2), .val (.int (x0 &&& (255 : Int32))), .val (.int ((XT.ushr x0 (8 : Int32)) &&& (255 : Int32))), .val (.int ((XT.ushr x0 (16 : Int32)) &&& (255 : Int32))), .val (.ref a253), .val (.int (2 : Int32)), .val (.int (((XT.ushr x2 (2 : Int32)) &&& (3 : Int32)) % (3 : Int32))), .unset, .unset, .unset, .unset, .unset]) rfl kq) ?_
    show Gwg T259 m 65 []
    by_cases hk768 : (((XT.ushr x2 (2 : Int32)) &&& (3 : Int32)) % (3 : Int32)) = (0 : Int32)
    ·rw [hk768]
     show Gwg T259 m 65 []
     refine gw_st (fun _ kq => XS.iloadN X259.here hx rfl (hb hby at_65) rfl kq) ?_
     show Gwg T259 m 66 [(.int x2)]
     refine gw_st (fun _ kq => XT.iconstV X259.here hx rfl (4 : Int32) (hb hby at_66) (by decide) kq) ?_
     show Gwg T259 m 67 [(.int (4 : Int32)), (.int x2)]
     refine gw_st (fun _ kq => XT.iushr X259.here hx rfl (hb hby at_67) rfl kq) ?_
     show Gwg T259 m 68 [(.int (XT.ushr x2 (4 : Int32)))]
     refine gw_st (fun _ kq => XT.iconstV X259.here hx rfl (1 : Int32) (hb hby at_68) (by decide) kq) ?_
     show Gwg T259 m 69 [(.int (1 : Int32)), (.int (XT.ushr x2 (4 : Int32)))]
     refine gw_st (fun _ kq => XS.iand X259.here hx rfl (hb hby at_69) rfl kq) ?_
     show Gwg T259 m 70 [(.int ((XT.ushr x2 (4 : Int32)) &&& (1 : Int32)))]
     by_cases hc769 : ((XT.ushr x2 (4 : Int32)) &&& (1 : Int32)) = (0 : Int32)
     ·refine gw_st (fun _ kq => XS.ifYes X259.here hx rfl (pc0 := 70) (pc' := 87) rfl (hb hby at_70) rfl (XT.i0_eq_t hc769) (by decide) (by decide) kq) ?_
      show Gwg T259 m 87 []
      refine gw_st (fun _ kq => XS.iloadN X259.here hx rfl (hb hby at_87) rfl kq) ?_
      show Gwg T259 m 88 [(.int x1)]
      refine gw_st (fun _ kq => XT.i2c X259.here hx rfl (hb hby at_88) rfl kq) ?_
      show Gwg T259 m 89 [(.int x1.toUInt32.toUInt16.toUInt32.toInt32)]
      refine gw_st (fun _ kq => XS.istore X259.here hx rfl (hb hby at_89) rfl (l' := #[.val (.int x0), .val (.int x1), .val (.int x2), .val (.int (x0 &&& (255 : Int32))), .val (.int ((XT.ushr x0 (8 : Int32)) &&& (255 : Int32))), .val (.int ((XT.ushr x0 (16 : Int32)) &&& (255 : Int32))), .val (.ref a253), .val (.int (2 : Int32)), .val (.int (0 : Int32)), .val (.int x1.toUInt32.toUInt16.toUInt32.toInt32), .unset, .unset, .unset, .unset]) rfl kq) ?_
      show Gwg T259 m 91 []
      refine gw_st (fun _ kq => XS.iload X259.here hx rfl (hb hby at_91) rfl kq) ?_
      show Gwg T259 m 93 [(.int (2 : Int32))]
      refine gw_st (fun _ kq => XS.ifYes X259.here hx rfl (pc0 := 93) (pc' := 104) rfl (hb hby at_93) rfl (XT.i0_ne_t (by decide)) (by decide) (by decide) kq) ?_
      show Gwg T259 m 104 []
      refine gw_st (fun _ kq => XS.iload X259.here hx rfl (hb hby at_104) rfl kq) ?_
      show Gwg T259 m 106 [(.int (2 : Int32))]
      refine gw_st (fun _ kq => XT.iconstV X259.here hx rfl (1 : Int32) (hb hby at_106) (by decide) kq) ?_
      show Gwg T259 m 107 [(.int (1 : Int32)), (.int (2 : Int32))]
      refine gw_st (fun _ kq => XS.icmpYes X259.here hx rfl (pc0 := 107) (pc' := 122) rfl (hb hby at_107) rfl (XT.ii_ne_t (by decide)) (by decide) (by decide) kq) ?_
      show Gwg T259 m 122 []
      refine gw_st (fun _ kq => XS.iload X259.here hx rfl (hb hby at_122) rfl kq) ?_
      show Gwg T259 m 124 [(.int (2 : Int32))]
      refine gw_st (fun _ kq => XT.iconstV X259.here hx rfl (2 : Int32) (hb hby at_124) (by decide) kq) ?_
      show Gwg T259 m 125 [(.int (2 : Int32)), (.int (2 : Int32))]
      refine gw_st (fun _ kq => XS.icmpNo X259.here hx rfl (hb hby at_125) rfl (XT.ii_ne_f (by decide)) kq) ?_
      show Gwg T259 m 128 []
      refine gw_st (fun _ kq => XT.iconstV X259.here hx rfl (2 : Int32) (hb hby at_128) (by decide) kq) ?_
      show Gwg T259 m 129 [(.int (2 : Int32))]
      refine gw_newP X259 hx hZ (wd hw 0 rfl) e259 (hb hby at_129) rfl rfl 2 (by decide) 2 (Nat.le_refl _) (by decide) (by decide) (by decide) ?_
      intro T770 h770 a770 g770 X770 e770 E770 G770
      have c775 : a253 < h255.size := (Wr.size W255).symm ▸ lt_a253
      have c776 : a253 < h257.size := (Wr.size W257).symm ▸ c775
      have c777 : a253 < h259.size := (Wr.size W259).symm ▸ c776
      have ne778 : a253 ≠ a770 := fun q => Nat.lt_irrefl _ (Nat.lt_of_lt_of_le c777 (Nat.le_of_eq (g770.symm.trans q.symm)))
      have z779 : n0 ≤ h253.size := Nat.le_trans Z0 E253.1
      have z780 : n0 ≤ h255.size := (Wr.size W255).symm ▸ z779
      have z781 : n0 ≤ h257.size := (Wr.size W257).symm ▸ z780
      have z782 : n0 ≤ h259.size := (Wr.size W259).symm ▸ z781
      have nw_a770 : n0 ≤ a770 := Nat.le_trans z782 (Nat.le_of_eq g770.symm)
      have lt_a770 : a770 < h770.size := G770.lt
      have A770 : GA Z h770 a770 .char 2 (fun i => .int (own_c3 (0 : Int32) (0 : Int32) (0 : Int32) i)) := (GA.congr G770 (fun i _ => own_z3 i))
      show Gwg T770 m 131 [(.ref a770)]
      refine gw_st (fun _ kq => XS.dup X770.here hx rfl (hb hby at_131) rfl rfl kq) ?_
      show Gwg T770 m 132 [(.ref a770), (.ref a770)]
      refine gw_st (fun _ kq => XT.iconstV X770.here hx rfl (0 : Int32) (hb hby at_132) (by decide) kq) ?_
      show Gwg T770 m 133 [(.int (0 : Int32)), (.ref a770), (.ref a770)]
      refine gw_st (fun _ kq => XS.iloadN X770.here hx rfl (hb hby at_133) rfl kq) ?_
      show Gwg T770 m 134 [(.int (x0 &&& (255 : Int32))), (.int (0 : Int32)), (.ref a770), (.ref a770)]
      refine gw_cast X770 hx hZ e770 A770 (hb hby at_134) rfl rfl (by decide) ?_
      intro T783 h783 X783 e783 W783 G783
      have N783 := Fr.snoc X783 N259 nw_a770
      have A783 : GA Z h783 a770 .char 2 (fun i => .int (own_c3 (x0 &&& (255 : Int32)) (0 : Int32) (0 : Int32) i)) := (own_stc (own_nc (own_lat _)) (by decide) (own_c30 (x0 &&& (255 : Int32)) (0 : Int32) (0 : Int32) (0 : Int32)) G783)
      show Gwg T783 m 135 [(.ref a770)]
      refine gw_st (fun _ kq => XS.dup X783.here hx rfl (hb hby at_135) rfl rfl kq) ?_
      show Gwg T783 m 136 [(.ref a770), (.ref a770)]
      refine gw_st (fun _ kq => XT.iconstV X783.here hx rfl (1 : Int32) (hb hby at_136) (by decide) kq) ?_
      show Gwg T783 m 137 [(.int (1 : Int32)), (.ref a770), (.ref a770)]
      refine gw_st (fun _ kq => XS.iload X783.here hx rfl (hb hby at_137) rfl kq) ?_
      show Gwg T783 m 139 [(.int ((XT.ushr x0 (8 : Int32)) &&& (255 : Int32))), (.int (1 : Int32)), (.ref a770), (.ref a770)]
      refine gw_cast X783 hx hZ e783 A783 (hb hby at_139) rfl rfl (by decide) ?_
      intro T784 h784 X784 e784 W784 G784
      have N784 := Fr.snoc X784 N783 nw_a770
      have A784 : GA Z h784 a770 .char 2 (fun i => .int (own_c3 (x0 &&& (255 : Int32)) ((XT.ushr x0 (8 : Int32)) &&& (255 : Int32)) (0 : Int32) i)) := (own_stc (own_nc (own_lat _)) (by decide) (own_c31 ((XT.ushr x0 (8 : Int32)) &&& (255 : Int32)) (x0 &&& (255 : Int32)) (0 : Int32) (0 : Int32)) G784)
      show Gwg T784 m 140 [(.ref a770)]
      refine gw_st (fun _ kq => XS.astore X784.here hx rfl (hb hby at_140) rfl rfl (l' := #[.val (.int x0), .val (.int x1), .val (.int x2), .val (.int (x0 &&& (255 : Int32))), .val (.int ((XT.ushr x0 (8 : Int32)) &&& (255 : Int32))), .val (.int ((XT.ushr x0 (16 : Int32)) &&& (255 : Int32))), .val (.ref a253), .val (.int (2 : Int32)), .val (.int (0 : Int32)), .val (.int x1.toUInt32.toUInt16.toUInt32.toInt32), .val (.ref a770), .unset, .unset, .unset]) rfl kq) ?_
      show Gwg T784 m 142 []
      refine gw_st (fun _ kq => XS.goto X784.here hx rfl (pc0 := 142) (pc' := 164) rfl (hb hby at_142) (by decide) (by decide) kq) ?_
      show Gwg T784 m 164 []
      refine gw_newO X784 hx hZ hown (wd hw 1 rfl) (wd hw 2 rfl) (wd hw 3 rfl) e784 (hb hby at_164) rfl (by decide) (by decide) ?_
      intro T785 h785 a785 g785 X785 e785 E785 A785 D785
      have c789 : a253 < h770.size := Nat.lt_of_lt_of_le c777 E770.1
      have c790 : a253 < h783.size := (Wr.size W783).symm ▸ c789
      have c791 : a253 < h784.size := (Wr.size W784).symm ▸ c790
      have ne792 : a253 ≠ a785 := fun q => Nat.lt_irrefl _ (Nat.lt_of_lt_of_le c791 (Nat.le_of_eq (g785.symm.trans q.symm)))
      have c793 : a770 < h783.size := (Wr.size W783).symm ▸ lt_a770
      have c794 : a770 < h784.size := (Wr.size W784).symm ▸ c793
      have z796 : n0 ≤ h770.size := Nat.le_trans z782 E770.1
      have z797 : n0 ≤ h783.size := (Wr.size W783).symm ▸ z796
      have z798 : n0 ≤ h784.size := (Wr.size W784).symm ▸ z797
      have nw_a785 : n0 ≤ a785 := Nat.le_trans z798 (Nat.le_of_eq g785.symm)
      have lt_a785 : a785 < h785.size := A785.lt
      have F799 : Fld Z h785 a785 "com/example/wirecall/wirecall/TextCursor" "text" "Ljava/lang/String;" .null := D785 (Or.inr (wd hw 38 rfl)) (ty := (.object "java/lang/String")) (by decide)
      have F800 : Fld Z h785 a785 "com/example/wirecall/wirecall/TextCursor" "pos" "I" (.int (0 : Int32)) := D785 (Or.inl (wd hw 45 rfl)) (ty := .int) (by decide)
      show Gwg T785 m 167 [(.ref a785)]
      refine gw_st (fun _ kq => XS.dup X785.here hx rfl (hb hby at_167) rfl rfl kq) ?_
      show Gwg T785 m 168 [(.ref a785), (.ref a785)]
      refine gw_newO X785 hx hZ hown (wd hw 4 rfl) (wd hw 5 rfl) (wd hw 6 rfl) e785 (hb hby at_168) rfl (by decide) (by decide) ?_
      intro T801 h801 a801 g801 X801 e801 E801 A801 D801
      have c803 : a253 < h785.size := Nat.lt_of_lt_of_le c791 E785.1
      have ne804 : a253 ≠ a801 := fun q => Nat.lt_irrefl _ (Nat.lt_of_lt_of_le c803 (Nat.le_of_eq (g801.symm.trans q.symm)))
      have c805 : a770 < h785.size := Nat.lt_of_lt_of_le c794 E785.1
      have ne806 : a770 ≠ a801 := fun q => Nat.lt_irrefl _ (Nat.lt_of_lt_of_le c805 (Nat.le_of_eq (g801.symm.trans q.symm)))
      have ne807 : a785 ≠ a801 := fun q => Nat.lt_irrefl _ (Nat.lt_of_lt_of_le lt_a785 (Nat.le_of_eq (g801.symm.trans q.symm)))
      have z808 : n0 ≤ h785.size := Nat.le_trans z798 E785.1
      have nw_a801 : n0 ≤ a801 := Nat.le_trans z808 (Nat.le_of_eq g801.symm)
      have F809 : Fld Z h801 a801 "java/lang/String" "coder" "B" (.int (0 : Int32)) := D801 (Or.inr (wd hw 30 rfl)) (ty := .byte) (by decide)
      have F810 : Fld Z h801 a801 "java/lang/String" "value" "[B" .null := D801 (Or.inr (wd hw 32 rfl)) (ty := (.array .byte)) (by decide)
      show Gwg T801 m 171 [(.ref a801), (.ref a785), (.ref a785)]
      refine gw_st (fun _ kq => XS.dup X801.here hx rfl (hb hby at_171) rfl rfl kq) ?_
      show Gwg T801 m 172 [(.ref a801), (.ref a801), (.ref a785), (.ref a785)]
      refine gw_st (fun _ kq => XS.aload X801.here hx rfl (hb hby at_172) rfl rfl kq) ?_
      show Gwg T801 m 174 [(.ref a770), (.ref a801), (.ref a801), (.ref a785), (.ref a785)]
      have c812 := A784.ext E785
      have c813 := c812.ext E801
      have c814 := Old.ext O0 E253
      have c815 := Old.wr c814 W255 nw_a253
      have c816 := Old.wr c815 W257 nw_a253
      have c817 := Old.wr c816 W259 nw_a253
      have c818 := Old.ext c817 E770
      have c819 := Old.wr c818 W783 nw_a770
      have c820 := Old.wr c819 W784 nw_a770
      have c821 := Old.ext c820 E785
      have c822 := Old.ext c821 E801
      have z823 : n0 ≤ h801.size := Nat.le_trans z808 E801.1
      refine gw_callI X801 hx hZ hml hown rfl (wd hw 7 rfl) (wd hw 8 rfl) (wd hw 9 rfl) (wd hw 6 rfl) e801 (argsL := [(.ref a770)]) (rest := [(.ref a801), (.ref a785), (.ref a785)]) (W := 3) (met_s2 l Z a0 hw a801 a770 (x0 &&& (255 : Int32)) ((XT.ushr x0 (8 : Int32)) &&& (255 : Int32)) zc h801 n0 z823 A801 F810 F809 nw_a801 c813 (Ne.symm ne806) (own_lat _) (own_lat _) c822 S0 zn) (hb hby at_174) rfl rfl rfl (lenOf pd11 rfl) (by show 2 * 0 + _ ≤ _; exact Nat.le_of_eq rfl) (by decide) (by decide) (by decide) (by decide) (by decide) ?_
      intro T811 v811 L811 X811 q811
      obtain ⟨r_811, rfl, M811, K811, fz811_r, f811_0, f811_1, f811_2, f811_3⟩ := q811
      have N811 := Fr.app N784 M811
      have c828 : a785 < h801.size := Nat.lt_of_lt_of_le lt_a785 E801.1
      have ne829 : a785 ≠ r_811 := Nat.ne_of_lt (Nat.lt_of_lt_of_le c828 fz811_r)
      show Gwg T811 m 177 [(.ref a801), (.ref a785), (.ref a785)]
      have c833 := Exa.ext E801 A785
      have c834 := Exa.keep c833 K811
      have c835 := Fld.ext E801 F799
      have c836 := Fld.keep c835 K811 (ninS ne807 nin0)
      have c837 := Fld.ext E801 F800
      have c838 := Fld.keep c837 K811 (ninS ne807 nin0)
      have z839 : n0 ≤ T811.heap.size := Nat.le_trans z823 K811.1
      refine gw_callI X811 hx hZ hml hown rfl (wd hw 33 rfl) (wd hw 34 rfl) (wd hw 35 rfl) (wd hw 3 rfl) rfl (argsL := [(.ref a801)]) (rest := [(.ref a785)]) (W := 1) (met_tci l Z a0 hw a785 a801 T811.heap n0 z839 c834 c836 c838 nw_a785) (hb hby at_177) rfl rfl rfl (lenOf pd12 rfl) (by show 2 * 0 + _ ≤ _; exact Nat.le_of_eq rfl) (by decide) (by decide) (by decide) (by decide) (by decide) ?_
      intro T832 v832 L832 X832 q832
      obtain ⟨rfl, M832, K832, f832_0, f832_1⟩ := q832
      have N832 := Fr.app N811 M832
      show Gwg T832 m 180 [(.ref a785)]
      refine gw_st (fun _ kq => XS.astore X832.here hx rfl (hb hby at_180) rfl rfl (l' := #[.val (.int x0), .val (.int x1), .val (.int x2), .val (.int (x0 &&& (255 : Int32))), .val (.int ((XT.ushr x0 (8 : Int32)) &&& (255 : Int32))), .val (.int ((XT.ushr x0 (16 : Int32)) &&& (255 : Int32))), .val (.ref a253), .val (.int (2 : Int32)), .val (.int (0 : Int32)), .val (.int x1.toUInt32.toUInt16.toUInt32.toInt32), .val (.ref a770), .val (.ref a785), .unset, .unset]) rfl kq) ?_
      show Gwg T832 m 182 []
      refine gw_st (fun _ kq => XS.iload X832.here hx rfl (hb hby at_182) rfl kq) ?_
      show Gwg T832 m 184 [(.int (0 : Int32))]
      refine gw_st (fun _ kq => XT.iconstV X832.here hx rfl (1 : Int32) (hb hby at_184) (by decide) kq) ?_
      show Gwg T832 m 185 [(.int (1 : Int32)), (.int (0 : Int32))]
      refine gw_st (fun _ kq => XS.icmpYes X832.here hx rfl (pc0 := 185) (pc' := 193) rfl (hb hby at_185) rfl (XT.ii_lt_t (by decide)) (by decide) (by decide) kq) ?_
      show Gwg T832 m 193 []
      refine gw_st (fun _ kq => XS.iload X832.here hx rfl (hb hby at_193) rfl kq) ?_
      show Gwg T832 m 195 [(.int (0 : Int32))]
      refine gw_st (fun _ kq => XT.iconstV X832.here hx rfl (2 : Int32) (hb hby at_195) (by decide) kq) ?_
      show Gwg T832 m 196 [(.int (2 : Int32)), (.int (0 : Int32))]
      refine gw_st (fun _ kq => XS.icmpYes X832.here hx rfl (pc0 := 196) (pc' := 204) rfl (hb hby at_196) rfl (XT.ii_lt_t (by decide)) (by decide) (by decide) kq) ?_
      show Gwg T832 m 204 []
      refine gw_st (fun _ kq => XS.iload X832.here hx rfl (hb hby at_204) rfl kq) ?_
      show Gwg T832 m 206 [(.int (0 : Int32))]
      refine gw_st (fun _ kq => XT.iconstV X832.here hx rfl (3 : Int32) (hb hby at_206) (by decide) kq) ?_
      show Gwg T832 m 207 [(.int (3 : Int32)), (.int (0 : Int32))]
      refine gw_st (fun _ kq => XS.icmpYes X832.here hx rfl (pc0 := 207) (pc' := 215) rfl (hb hby at_207) rfl (XT.ii_lt_t (by decide)) (by decide) (by decide) kq) ?_
      show Gwg T832 m 215 []
      refine gw_st (fun _ kq => XS.aload X832.here hx rfl (hb hby at_215) rfl rfl kq) ?_
      show Gwg T832 m 217 [(.ref a785)]
      refine gw_st (fun _ kq => XS.iload X832.here hx rfl (hb hby at_217) rfl kq) ?_
      show Gwg T832 m 219 [(.int x1.toUInt32.toUInt16.toUInt32.toInt32), (.ref a785)]
      by_cases hc840 : (x0 &&& (255 : Int32)) = x1.toUInt32.toUInt16.toUInt32.toInt32
      ·show Gwg T832 m 219 [(.int x1.toUInt32.toUInt16.toUInt32.toInt32), (.ref a785)]
       have c842 := Exa.keep f811_0 K832
       have c843 := Fld.keep f811_1 K832 (ninS (Ne.symm ne807) nin0)
       have c844 := Fld.keep f811_2 K832 (ninS (Ne.symm ne807) nin0)
       have c845 := GA.keep f811_3 K832 (ninS (Ne.symm ne829) nin0)
       have c846 := Old.keep c822 K811 (allS nw_a801 all0)
       have c847 := Old.keep c846 K832 (allS nw_a785 all0)
       have z848 : n0 ≤ T832.heap.size := Nat.le_trans z839 K832.1
       have c849 := Exa.keep c834 K832
       refine gw_callV X832 hx hZ hml hown (wd hw 39 rfl) (wd hw 40 rfl) (notFace_of_selects (args := #[]) (mvT hZ (wd hw 42 rfl))) (wd hw 42 rfl) (wd hw 41 rfl) (wd hw 43 rfl) (wd hw 3 rfl) rfl c849 (argsL := [(.int x1.toUInt32.toUInt16.toUInt32.toInt32)]) (rest := []) (W := 0) (met_pk20t l Z a0 hw a785 a801 r_811 (x0 &&& (255 : Int32)) ((XT.ushr x0 (8 : Int32)) &&& (255 : Int32)) x1.toUInt32.toUInt16.toUInt32.toInt32 zc vf rf T832.heap n0 z848 f832_1 f832_0 c842 c843 c844 c845 (own_lat _) (own_lat _) c847 S0 zn S1 hc840) (hb hby at_219) rfl rfl rfl (lenOf pd13 rfl) (by show 2 * 0 + _ ≤ _; exact Nat.le_of_eq rfl) (by decide) (by decide) (by decide) (by decide) (by decide) ?_
       intro T841 v841 L841 X841 q841
       obtain ⟨rfl, M841, K841⟩ := q841
       have N841 := Fr.app N832 M841
       show Gwg T841 m 222 [(.int (1 : Int32))]
       refine gw_st (fun _ kq => XS.istore X841.here hx rfl (hb hby at_222) rfl (l' := #[.val (.int x0), .val (.int x1), .val (.int x2), .val (.int (x0 &&& (255 : Int32))), .val (.int ((XT.ushr x0 (8 : Int32)) &&& (255 : Int32))), .val (.int ((XT.ushr x0 (16 : Int32)) &&& (255 : Int32))), .val (.ref a253), .val (.int (2 : Int32)), .val (.int (0 : Int32)), .val (.int x1.toUInt32.toUInt16.toUInt32.toInt32), .val (.ref a770), .val (.ref a785), .val (.int (1 : Int32)), .unset]) rfl kq) ?_
       show Gwg T841 m 224 []
       refine gw_st (fun _ kq => XS.iload X841.here hx rfl (hb hby at_224) rfl kq) ?_
       show Gwg T841 m 226 [(.int (0 : Int32))]
       refine gw_st (fun _ kq => XS.iload X841.here hx rfl (hb hby at_226) rfl kq) ?_
       show Gwg T841 m 228 [(.int (2 : Int32)), (.int (0 : Int32))]
       refine gw_st (fun _ kq => XS.icmpNo X841.here hx rfl (hb hby at_228) rfl (XT.ii_ge_f (by decide)) kq) ?_
       show Gwg T841 m 231 []
       refine gw_st (fun _ kq => XS.aload X841.here hx rfl (hb hby at_231) rfl rfl kq) ?_
       show Gwg T841 m 233 [(.ref a253)]
       refine gw_st (fun _ kq => XS.iload X841.here hx rfl (hb hby at_233) rfl kq) ?_
       show Gwg T841 m 235 [(.int (0 : Int32)), (.ref a253)]
       have c850 := A259.ext E770
       have c851 := c850.other W783 ne778
       have c852 := c851.other W784 ne778
       have c853 := c852.ext E785
       have c854 := c853.ext E801
       have c855 := GA.keep c854 K811 (ninS ne804 nin0)
       have c856 := GA.keep c855 K832 (ninS ne792 nin0)
       have c857 := GA.keep c856 K841 nin0
       refine gw_cald X841 hx hZ rfl c857 (hb hby at_235) rfl rfl (by decide) (.int (x0 &&& (255 : Int32))) rfl ?_
       show Gwg T841 m 236 [(.int (x0 &&& (255 : Int32)))]
       refine gw_st (fun _ kq => XS.iload X841.here hx rfl (hb hby at_236) rfl kq) ?_
       show Gwg T841 m 238 [(.int x1.toUInt32.toUInt16.toUInt32.toInt32), (.int (x0 &&& (255 : Int32)))]
       refine gw_st (fun _ kq => XS.icmpNo X841.here hx rfl (hb hby at_238) rfl (XT.ii_ne_f hc840) kq) ?_
       show Gwg T841 m 241 []
       refine gw_st (fun _ kq => XT.iconstV X841.here hx rfl (1 : Int32) (hb hby at_241) (by decide) kq) ?_
       show Gwg T841 m 242 [(.int (1 : Int32))]
       refine gw_st (fun _ kq => XS.goto X841.here hx rfl (pc0 := 242) (pc' := 246) rfl (hb hby at_242) (by decide) (by decide) kq) ?_
       show Gwg T841 m 246 [(.int (1 : Int32))]
       refine gw_st (fun _ kq => XS.istore X841.here hx rfl (hb hby at_246) rfl (l' := #[.val (.int x0), .val (.int x1), .val (.int x2), .val (.int (x0 &&& (255 : Int32))), .val (.int ((XT.ushr x0 (8 : Int32)) &&& (255 : Int32))), .val (.int ((XT.ushr x0 (16 : Int32)) &&& (255 : Int32))), .val (.ref a253), .val (.int (2 : Int32)), .val (.int (0 : Int32)), .val (.int x1.toUInt32.toUInt16.toUInt32.toInt32), .val (.ref a770), .val (.ref a785), .val (.int (1 : Int32)), .val (.int (1 : Int32))]) rfl kq) ?_
       show Gwg T841 m 248 []
       refine gw_st (fun _ kq => XS.iload X841.here hx rfl (hb hby at_248) rfl kq) ?_
       show Gwg T841 m 250 [(.int (1 : Int32))]
       refine gw_st (fun _ kq => XS.iload X841.here hx rfl (hb hby at_250) rfl kq) ?_
       show Gwg T841 m 252 [(.int (1 : Int32)), (.int (1 : Int32))]
       refine gw_st (fun _ kq => XS.icmpNo X841.here hx rfl (hb hby at_252) rfl (XT.ii_ne_f (by decide)) kq) ?_
       show Gwg T841 m 255 []
       refine gw_st (fun _ kq => XS.aload X841.here hx rfl (hb hby at_255) rfl rfl kq) ?_
       show Gwg T841 m 257 [(.ref a785)]
       have c859 := Fld.keep f832_1 K841 nin0
       have z860 : n0 ≤ T841.heap.size := Nat.le_trans z848 K841.1
       have c861 := Exa.keep c849 K841
       refine gw_callV X841 hx hZ hml hown (wd hw 78 rfl) (wd hw 79 rfl) (notFace_of_selects (args := #[]) (mvT hZ (wd hw 81 rfl))) (wd hw 81 rfl) (wd hw 80 rfl) (wd hw 82 rfl) (wd hw 3 rfl) rfl c861 (argsL := []) (rest := []) (W := 0) (met_16 l Z a0 hw a785 (0 : Int32) T841.heap n0 z860 c859) (hb hby at_257) rfl rfl rfl (lenOf pd9 rfl) (by show 2 * 0 + _ ≤ _; exact Nat.le_of_eq rfl) (by decide) (by decide) (by decide) (by decide) (by decide) ?_
       intro T858 v858 L858 X858 q858
       obtain ⟨rfl, M858, e858⟩ := q858
       have N858 := Fr.app N841 M858
       show Gwg T858 m 260 [(.int (0 : Int32))]
       refine gw_st (fun _ kq => XS.iload X858.here hx rfl (hb hby at_260) rfl kq) ?_
       show Gwg T858 m 262 [(.int (0 : Int32)), (.int (0 : Int32))]
       refine gw_st (fun _ kq => XS.icmpNo X858.here hx rfl (hb hby at_262) rfl (XT.ii_ne_f (by decide)) kq) ?_
       show Gwg T858 m 265 []
       refine gw_st (fun _ kq => XT.iconstV X858.here hx rfl (1 : Int32) (hb hby at_265) (by decide) kq) ?_
       show Gwg T858 m 266 [(.int (1 : Int32))]
       refine gw_st (fun _ kq => XS.goto X858.here hx rfl (pc0 := 266) (pc' := 270) rfl (hb hby at_266) (by decide) (by decide) kq) ?_
       show Gwg T858 m 270 [(.int (1 : Int32))]
       exact gw_retB (w := (1 : Int32)) X858 hx hlk hret (hb hby at_270) (by decide) (by decide) (by decide) ⟨rfl, N858⟩
      ·show Gwg T832 m 219 [(.int x1.toUInt32.toUInt16.toUInt32.toInt32), (.ref a785)]
       have c863 := Exa.keep f811_0 K832
       have c864 := Fld.keep f811_1 K832 (ninS (Ne.symm ne807) nin0)
       have c865 := Fld.keep f811_2 K832 (ninS (Ne.symm ne807) nin0)
       have c866 := GA.keep f811_3 K832 (ninS (Ne.symm ne829) nin0)
       have c867 := Old.keep c822 K811 (allS nw_a801 all0)
       have c868 := Old.keep c867 K832 (allS nw_a785 all0)
       have z869 : n0 ≤ T832.heap.size := Nat.le_trans z839 K832.1
       have c870 := Exa.keep c834 K832
       refine gw_callV X832 hx hZ hml hown (wd hw 39 rfl) (wd hw 40 rfl) (notFace_of_selects (args := #[]) (mvT hZ (wd hw 42 rfl))) (wd hw 42 rfl) (wd hw 41 rfl) (wd hw 43 rfl) (wd hw 3 rfl) rfl c870 (argsL := [(.int x1.toUInt32.toUInt16.toUInt32.toInt32)]) (rest := []) (W := 0) (met_pk20f l Z a0 hw a785 a801 r_811 (x0 &&& (255 : Int32)) ((XT.ushr x0 (8 : Int32)) &&& (255 : Int32)) x1.toUInt32.toUInt16.toUInt32.toInt32 zc vf rf T832.heap n0 z869 f832_1 f832_0 c863 c864 c865 c866 (own_lat _) (own_lat _) c868 S0 zn S1 hc840) (hb hby at_219) rfl rfl rfl (lenOf pd13 rfl) (by show 2 * 0 + _ ≤ _; exact Nat.le_of_eq rfl) (by decide) (by decide) (by decide) (by decide) (by decide) ?_
       intro T862 v862 L862 X862 q862
       obtain ⟨rfl, M862, K862⟩ := q862
       have N862 := Fr.app N832 M862
       show Gwg T862 m 222 [(.int (0 : Int32))]
       refine gw_st (fun _ kq => XS.istore X862.here hx rfl (hb hby at_222) rfl (l' := #[.val (.int x0), .val (.int x1), .val (.int x2), .val (.int (x0 &&& (255 : Int32))), .val (.int ((XT.ushr x0 (8 : Int32)) &&& (255 : Int32))), .val (.int ((XT.ushr x0 (16 : Int32)) &&& (255 : Int32))), .val (.ref a253), .val (.int (2 : Int32)), .val (.int (0 : Int32)), .val (.int x1.toUInt32.toUInt16.toUInt32.toInt32), .val (.ref a770), .val (.ref a785), .val (.int (0 : Int32)), .unset]) rfl kq) ?_
       show Gwg T862 m 224 []
       refine gw_st (fun _ kq => XS.iload X862.here hx rfl (hb hby at_224) rfl kq) ?_
       show Gwg T862 m 226 [(.int (0 : Int32))]
       refine gw_st (fun _ kq => XS.iload X862.here hx rfl (hb hby at_226) rfl kq) ?_
       show Gwg T862 m 228 [(.int (2 : Int32)), (.int (0 : Int32))]
       refine gw_st (fun _ kq => XS.icmpNo X862.here hx rfl (hb hby at_228) rfl (XT.ii_ge_f (by decide)) kq) ?_
       show Gwg T862 m 231 []
       refine gw_st (fun _ kq => XS.aload X862.here hx rfl (hb hby at_231) rfl rfl kq) ?_
       show Gwg T862 m 233 [(.ref a253)]
       refine gw_st (fun _ kq => XS.iload X862.here hx rfl (hb hby at_233) rfl kq) ?_
       show Gwg T862 m 235 [(.int (0 : Int32)), (.ref a253)]
       have c871 := A259.ext E770
       have c872 := c871.other W783 ne778
       have c873 := c872.other W784 ne778
       have c874 := c873.ext E785
       have c875 := c874.ext E801
       have c876 := GA.keep c875 K811 (ninS ne804 nin0)
       have c877 := GA.keep c876 K832 (ninS ne792 nin0)
       have c878 := GA.keep c877 K862 nin0
       refine gw_cald X862 hx hZ rfl c878 (hb hby at_235) rfl rfl (by decide) (.int (x0 &&& (255 : Int32))) rfl ?_
       show Gwg T862 m 236 [(.int (x0 &&& (255 : Int32)))]
       refine gw_st (fun _ kq => XS.iload X862.here hx rfl (hb hby at_236) rfl kq) ?_
       show Gwg T862 m 238 [(.int x1.toUInt32.toUInt16.toUInt32.toInt32), (.int (x0 &&& (255 : Int32)))]
       refine gw_st (fun _ kq => XS.icmpYes X862.here hx rfl (pc0 := 238) (pc' := 245) rfl (hb hby at_238) rfl (XT.ii_ne_t hc840) (by decide) (by decide) kq) ?_
       show Gwg T862 m 245 []
       refine gw_st (fun _ kq => XT.iconstV X862.here hx rfl (0 : Int32) (hb hby at_245) (by decide) kq) ?_
       show Gwg T862 m 246 [(.int (0 : Int32))]
       refine gw_st (fun _ kq => XS.istore X862.here hx rfl (hb hby at_246) rfl (l' := #[.val (.int x0), .val (.int x1), .val (.int x2), .val (.int (x0 &&& (255 : Int32))), .val (.int ((XT.ushr x0 (8 : Int32)) &&& (255 : Int32))), .val (.int ((XT.ushr x0 (16 : Int32)) &&& (255 : Int32))), .val (.ref a253), .val (.int (2 : Int32)), .val (.int (0 : Int32)), .val (.int x1.toUInt32.toUInt16.toUInt32.toInt32), .val (.ref a770), .val (.ref a785), .val (.int (0 : Int32)), .val (.int (0 : Int32))]) rfl kq) ?_
       show Gwg T862 m 248 []
       refine gw_st (fun _ kq => XS.iload X862.here hx rfl (hb hby at_248) rfl kq) ?_
       show Gwg T862 m 250 [(.int (0 : Int32))]
       refine gw_st (fun _ kq => XS.iload X862.here hx rfl (hb hby at_250) rfl kq) ?_
       show Gwg T862 m 252 [(.int (0 : Int32)), (.int (0 : Int32))]
       refine gw_st (fun _ kq => XS.icmpNo X862.here hx rfl (hb hby at_252) rfl (XT.ii_ne_f (by decide)) kq) ?_
       show Gwg T862 m 255 []
       refine gw_st (fun _ kq => XS.aload X862.here hx rfl (hb hby at_255) rfl rfl kq) ?_
       show Gwg T862 m 257 [(.ref a785)]
       have c880 := Fld.keep f832_1 K862 nin0
       have z881 : n0 ≤ T862.heap.size := Nat.le_trans z869 K862.1
       have c882 := Exa.keep c870 K862
       refine gw_callV X862 hx hZ hml hown (wd hw 78 rfl) (wd hw 79 rfl) (notFace_of_selects (args := #[]) (mvT hZ (wd hw 81 rfl))) (wd hw 81 rfl) (wd hw 80 rfl) (wd hw 82 rfl) (wd hw 3 rfl) rfl c882 (argsL := []) (rest := []) (W := 0) (met_16 l Z a0 hw a785 (0 : Int32) T862.heap n0 z881 c880) (hb hby at_257) rfl rfl rfl (lenOf pd9 rfl) (by show 2 * 0 + _ ≤ _; exact Nat.le_of_eq rfl) (by decide) (by decide) (by decide) (by decide) (by decide) ?_
       intro T879 v879 L879 X879 q879
       obtain ⟨rfl, M879, e879⟩ := q879
       have N879 := Fr.app N862 M879
       show Gwg T879 m 260 [(.int (0 : Int32))]
       refine gw_st (fun _ kq => XS.iload X879.here hx rfl (hb hby at_260) rfl kq) ?_
       show Gwg T879 m 262 [(.int (0 : Int32)), (.int (0 : Int32))]
       refine gw_st (fun _ kq => XS.icmpNo X879.here hx rfl (hb hby at_262) rfl (XT.ii_ne_f (by decide)) kq) ?_
       show Gwg T879 m 265 []
       refine gw_st (fun _ kq => XT.iconstV X879.here hx rfl (1 : Int32) (hb hby at_265) (by decide) kq) ?_
       show Gwg T879 m 266 [(.int (1 : Int32))]
       refine gw_st (fun _ kq => XS.goto X879.here hx rfl (pc0 := 266) (pc' := 270) rfl (hb hby at_266) (by decide) (by decide) kq) ?_
       show Gwg T879 m 270 [(.int (1 : Int32))]
       exact gw_retB (w := (1 : Int32)) X879 hx hlk hret (hb hby at_270) (by decide) (by decide) (by decide) ⟨rfl, N879⟩
     ·refine gw_st (fun _ kq => XS.ifNo X259.here hx rfl (hb hby at_70) rfl (XT.i0_eq_f hc769) kq) ?_
      show Gwg T259 m 73 []
      refine gw_st (fun _ kq => XS.aload X259.here hx rfl (hb hby at_73) rfl rfl kq) ?_
      show Gwg T259 m 75 [(.ref a253)]
      refine gw_st (fun _ kq => XS.iload X259.here hx rfl (hb hby at_75) rfl kq) ?_
      show Gwg T259 m 77 [(.int (0 : Int32)), (.ref a253)]
      refine gw_st (fun _ kq => XT.iconstV X259.here hx rfl (2 : Int32) (hb hby at_77) (by decide) kq) ?_
      show Gwg T259 m 78 [(.int (2 : Int32)), (.int (0 : Int32)), (.ref a253)]
      refine gw_callS X259 hx hZ hml hown (wd hw 88 rfl) (wd hw 89 rfl) (wd hw 90 rfl) (wd hw 91 rfl) e259 (argsL := [(.int (0 : Int32)), (.int (2 : Int32))]) (rest := [(.ref a253)]) (W := 1) (met_18 l Z a0 hw (0 : Int32) (2 : Int32) h259 n0) (hb hby at_78) rfl rfl rfl (lenOf pd14 rfl) (by show 2 * 0 + _ ≤ _; exact Nat.le_of_eq rfl) (by decide) (by decide) (by decide) (by decide) (by decide) ?_
      intro T883 v883 L883 X883 q883
      obtain ⟨rfl, M883, e883⟩ := q883
      have N883 := Fr.app N259 M883
      rw [show (fMin (0 : Int32) (2 : Int32)) = (0 : Int32) from by decide +kernel]
      show Gwg T883 m 81 [(.int (0 : Int32)), (.ref a253)]
      refine gw_cald X883 hx hZ e883 A259 (hb hby at_81) rfl rfl (by decide) (.int (x0 &&& (255 : Int32))) rfl ?_
      show Gwg T883 m 82 [(.int (x0 &&& (255 : Int32)))]
      refine gw_st (fun _ kq => XS.istore X883.here hx rfl (hb hby at_82) rfl (l' := #[.val (.int x0), .val (.int x1), .val (.int x2), .val (.int (x0 &&& (255 : Int32))), .val (.int ((XT.ushr x0 (8 : Int32)) &&& (255 : Int32))), .val (.int ((XT.ushr x0 (16 : Int32)) &&& (255 : Int32))), .val (.ref a253), .val (.int (2 : Int32)), .val (.int (0 : Int32)), .val (.int (x0 &&& (255 : Int32))), .unset, .unset, .unset, .unset]) rfl kq) ?_
      show Gwg T883 m 84 []
      refine gw_st (fun _ kq => XS.goto X883.here hx rfl (pc0 := 84) (pc' := 91) rfl (hb hby at_84) (by decide) (by decide) kq) ?_
      show Gwg T883 m 91 []
      refine gw_st (fun _ kq => XS.iload X883.here hx rfl (hb hby at_91) rfl kq) ?_
      show Gwg T883 m 93 [(.int (2 : Int32))]
      refine gw_st (fun _ kq => XS.ifYes X883.here hx rfl (pc0 := 93) (pc' := 104) rfl (hb hby at_93) rfl (XT.i0_ne_t (by decide)) (by decide) (by decide) kq) ?_
      show Gwg T883 m 104 []
      refine gw_st (fun _ kq => XS.iload X883.here hx rfl (hb hby at_104) rfl kq) ?_
      show Gwg T883 m 106 [(.int (2 : Int32))]
      refine gw_st (fun _ kq => XT.iconstV X883.here hx rfl (1 : Int32) (hb hby at_106) (by decide) kq) ?_
      show Gwg T883 m 107 [(.int (1 : Int32)), (.int (2 : Int32))]
      refine gw_st (fun _ kq => XS.icmpYes X883.here hx rfl (pc0 := 107) (pc' := 122) rfl (hb hby at_107) rfl (XT.ii_ne_t (by decide)) (by decide) (by decide) kq) ?_
      show Gwg T883 m 122 []
      refine gw_st (fun _ kq => XS.iload X883.here hx rfl (hb hby at_122) rfl kq) ?_
      show Gwg T883 m 124 [(.int (2 : Int32))]
      refine gw_st (fun _ kq => XT.iconstV X883.here hx rfl (2 : Int32) (hb hby at_124) (by decide) kq) ?_
      show Gwg T883 m 125 [(.int (2 : Int32)), (.int (2 : Int32))]
      refine gw_st (fun _ kq => XS.icmpNo X883.here hx rfl (hb hby at_125) rfl (XT.ii_ne_f (by decide)) kq) ?_
      show Gwg T883 m 128 []
      refine gw_st (fun _ kq => XT.iconstV X883.here hx rfl (2 : Int32) (hb hby at_128) (by decide) kq) ?_
      show Gwg T883 m 129 [(.int (2 : Int32))]
      refine gw_newP X883 hx hZ (wd hw 0 rfl) e883 (hb hby at_129) rfl rfl 2 (by decide) 2 (Nat.le_refl _) (by decide) (by decide) (by decide) ?_
      intro T884 h884 a884 g884 X884 e884 E884 G884
      have c889 : a253 < h255.size := (Wr.size W255).symm ▸ lt_a253
      have c890 : a253 < h257.size := (Wr.size W257).symm ▸ c889
      have c891 : a253 < h259.size := (Wr.size W259).symm ▸ c890
      have ne892 : a253 ≠ a884 := fun q => Nat.lt_irrefl _ (Nat.lt_of_lt_of_le c891 (Nat.le_of_eq (g884.symm.trans q.symm)))
      have z893 : n0 ≤ h253.size := Nat.le_trans Z0 E253.1
      have z894 : n0 ≤ h255.size := (Wr.size W255).symm ▸ z893
      have z895 : n0 ≤ h257.size := (Wr.size W257).symm ▸ z894
      have z896 : n0 ≤ h259.size := (Wr.size W259).symm ▸ z895
      have nw_a884 : n0 ≤ a884 := Nat.le_trans z896 (Nat.le_of_eq g884.symm)
      have lt_a884 : a884 < h884.size := G884.lt
      have A884 : GA Z h884 a884 .char 2 (fun i => .int (own_c3 (0 : Int32) (0 : Int32) (0 : Int32) i)) := (GA.congr G884 (fun i _ => own_z3 i))
      show Gwg T884 m 131 [(.ref a884)]
      refine gw_st (fun _ kq => XS.dup X884.here hx rfl (hb hby at_131) rfl rfl kq) ?_
      show Gwg T884 m 132 [(.ref a884), (.ref a884)]
      refine gw_st (fun _ kq => XT.iconstV X884.here hx rfl (0 : Int32) (hb hby at_132) (by decide) kq) ?_
      show Gwg T884 m 133 [(.int (0 : Int32)), (.ref a884), (.ref a884)]
      refine gw_st (fun _ kq => XS.iloadN X884.here hx rfl (hb hby at_133) rfl kq) ?_
      show Gwg T884 m 134 [(.int (x0 &&& (255 : Int32))), (.int (0 : Int32)), (.ref a884), (.ref a884)]
      refine gw_cast X884 hx hZ e884 A884 (hb hby at_134) rfl rfl (by decide) ?_
      intro T897 h897 X897 e897 W897 G897
      have N897 := Fr.snoc X897 N883 nw_a884
      have A897 : GA Z h897 a884 .char 2 (fun i => .int (own_c3 (x0 &&& (255 : Int32)) (0 : Int32) (0 : Int32) i)) := (own_stc (own_nc (own_lat _)) (by decide) (own_c30 (x0 &&& (255 : Int32)) (0 : Int32) (0 : Int32) (0 : Int32)) G897)
      show Gwg T897 m 135 [(.ref a884)]
      refine gw_st (fun _ kq => XS.dup X897.here hx rfl (hb hby at_135) rfl rfl kq) ?_
      show Gwg T897 m 136 [(.ref a884), (.ref a884)]
      refine gw_st (fun _ kq => XT.iconstV X897.here hx rfl (1 : Int32) (hb hby at_136) (by decide) kq) ?_
      show Gwg T897 m 137 [(.int (1 : Int32)), (.ref a884), (.ref a884)]
      refine gw_st (fun _ kq => XS.iload X897.here hx rfl (hb hby at_137) rfl kq) ?_
      show Gwg T897 m 139 [(.int ((XT.ushr x0 (8 : Int32)) &&& (255 : Int32))), (.int (1 : Int32)), (.ref a884), (.ref a884)]
      refine gw_cast X897 hx hZ e897 A897 (hb hby at_139) rfl rfl (by decide) ?_
      intro T898 h898 X898 e898 W898 G898
      have N898 := Fr.snoc X898 N897 nw_a884
      have A898 : GA Z h898 a884 .char 2 (fun i => .int (own_c3 (x0 &&& (255 : Int32)) ((XT.ushr x0 (8 : Int32)) &&& (255 : Int32)) (0 : Int32) i)) := (own_stc (own_nc (own_lat _)) (by decide) (own_c31 ((XT.ushr x0 (8 : Int32)) &&& (255 : Int32)) (x0 &&& (255 : Int32)) (0 : Int32) (0 : Int32)) G898)
      show Gwg T898 m 140 [(.ref a884)]
      refine gw_st (fun _ kq => XS.astore X898.here hx rfl (hb hby at_140) rfl rfl (l' := #[.val (.int x0), .val (.int x1), .val (.int x2), .val (.int (x0 &&& (255 : Int32))), .val (.int ((XT.ushr x0 (8 : Int32)) &&& (255 : Int32))), .val (.int ((XT.ushr x0 (16 : Int32)) &&& (255 : Int32))), .val (.ref a253), .val (.int (2 : Int32)), .val (.int (0 : Int32)), .val (.int (x0 &&& (255 : Int32))), .val (.ref a884), .unset, .unset, .unset]) rfl kq) ?_
      show Gwg T898 m 142 []
      refine gw_st (fun _ kq => XS.goto X898.here hx rfl (pc0 := 142) (pc' := 164) rfl (hb hby at_142) (by decide) (by decide) kq) ?_
      show Gwg T898 m 164 []
      refine gw_newO X898 hx hZ hown (wd hw 1 rfl) (wd hw 2 rfl) (wd hw 3 rfl) e898 (hb hby at_164) rfl (by decide) (by decide) ?_
      intro T899 h899 a899 g899 X899 e899 E899 A899 D899
      have c903 : a253 < h884.size := Nat.lt_of_lt_of_le c891 E884.1
      have c904 : a253 < h897.size := (Wr.size W897).symm ▸ c903
      have c905 : a253 < h898.size := (Wr.size W898).symm ▸ c904
      have ne906 : a253 ≠ a899 := fun q => Nat.lt_irrefl _ (Nat.lt_of_lt_of_le c905 (Nat.le_of_eq (g899.symm.trans q.symm)))
      have c907 : a884 < h897.size := (Wr.size W897).symm ▸ lt_a884
      have c908 : a884 < h898.size := (Wr.size W898).symm ▸ c907
      have z910 : n0 ≤ h884.size := Nat.le_trans z896 E884.1
      have z911 : n0 ≤ h897.size := (Wr.size W897).symm ▸ z910
      have z912 : n0 ≤ h898.size := (Wr.size W898).symm ▸ z911
      have nw_a899 : n0 ≤ a899 := Nat.le_trans z912 (Nat.le_of_eq g899.symm)
      have lt_a899 : a899 < h899.size := A899.lt
      have F913 : Fld Z h899 a899 "com/example/wirecall/wirecall/TextCursor" "text" "Ljava/lang/String;" .null := D899 (Or.inr (wd hw 38 rfl)) (ty := (.object "java/lang/String")) (by decide)
      have F914 : Fld Z h899 a899 "com/example/wirecall/wirecall/TextCursor" "pos" "I" (.int (0 : Int32)) := D899 (Or.inl (wd hw 45 rfl)) (ty := .int) (by decide)
      show Gwg T899 m 167 [(.ref a899)]
      refine gw_st (fun _ kq => XS.dup X899.here hx rfl (hb hby at_167) rfl rfl kq) ?_
      show Gwg T899 m 168 [(.ref a899), (.ref a899)]
      refine gw_newO X899 hx hZ hown (wd hw 4 rfl) (wd hw 5 rfl) (wd hw 6 rfl) e899 (hb hby at_168) rfl (by decide) (by decide) ?_
      intro T915 h915 a915 g915 X915 e915 E915 A915 D915
      have c917 : a253 < h899.size := Nat.lt_of_lt_of_le c905 E899.1
      have ne918 : a253 ≠ a915 := fun q => Nat.lt_irrefl _ (Nat.lt_of_lt_of_le c917 (Nat.le_of_eq (g915.symm.trans q.symm)))
      have c919 : a884 < h899.size := Nat.lt_of_lt_of_le c908 E899.1
      have ne920 : a884 ≠ a915 := fun q => Nat.lt_irrefl _ (Nat.lt_of_lt_of_le c919 (Nat.le_of_eq (g915.symm.trans q.symm)))
      have ne921 : a899 ≠ a915 := fun q => Nat.lt_irrefl _ (Nat.lt_of_lt_of_le lt_a899 (Nat.le_of_eq (g915.symm.trans q.symm)))
      have z922 : n0 ≤ h899.size := Nat.le_trans z912 E899.1
      have nw_a915 : n0 ≤ a915 := Nat.le_trans z922 (Nat.le_of_eq g915.symm)
      have F923 : Fld Z h915 a915 "java/lang/String" "coder" "B" (.int (0 : Int32)) := D915 (Or.inr (wd hw 30 rfl)) (ty := .byte) (by decide)
      have F924 : Fld Z h915 a915 "java/lang/String" "value" "[B" .null := D915 (Or.inr (wd hw 32 rfl)) (ty := (.array .byte)) (by decide)
      show Gwg T915 m 171 [(.ref a915), (.ref a899), (.ref a899)]
      refine gw_st (fun _ kq => XS.dup X915.here hx rfl (hb hby at_171) rfl rfl kq) ?_
      show Gwg T915 m 172 [(.ref a915), (.ref a915), (.ref a899), (.ref a899)]
      refine gw_st (fun _ kq => XS.aload X915.here hx rfl (hb hby at_172) rfl rfl kq) ?_
      show Gwg T915 m 174 [(.ref a884), (.ref a915), (.ref a915), (.ref a899), (.ref a899)]
      have c926 := A898.ext E899
      have c927 := c926.ext E915
      have c928 := Old.ext O0 E253
      have c929 := Old.wr c928 W255 nw_a253
      have c930 := Old.wr c929 W257 nw_a253
      have c931 := Old.wr c930 W259 nw_a253
      have c932 := Old.ext c931 E884
      have c933 := Old.wr c932 W897 nw_a884
      have c934 := Old.wr c933 W898 nw_a884
      have c935 := Old.ext c934 E899
      have c936 := Old.ext c935 E915
      have z937 : n0 ≤ h915.size := Nat.le_trans z922 E915.1
      refine gw_callI X915 hx hZ hml hown rfl (wd hw 7 rfl) (wd hw 8 rfl) (wd hw 9 rfl) (wd hw 6 rfl) e915 (argsL := [(.ref a884)]) (rest := [(.ref a915), (.ref a899), (.ref a899)]) (W := 3) (met_s2 l Z a0 hw a915 a884 (x0 &&& (255 : Int32)) ((XT.ushr x0 (8 : Int32)) &&& (255 : Int32)) zc h915 n0 z937 A915 F924 F923 nw_a915 c927 (Ne.symm ne920) (own_lat _) (own_lat _) c936 S0 zn) (hb hby at_174) rfl rfl rfl (lenOf pd11 rfl) (by show 2 * 0 + _ ≤ _; exact Nat.le_of_eq rfl) (by decide) (by decide) (by decide) (by decide) (by decide) ?_
      intro T925 v925 L925 X925 q925
      obtain ⟨r_925, rfl, M925, K925, fz925_r, f925_0, f925_1, f925_2, f925_3⟩ := q925
      have N925 := Fr.app N898 M925
      have c942 : a899 < h915.size := Nat.lt_of_lt_of_le lt_a899 E915.1
      have ne943 : a899 ≠ r_925 := Nat.ne_of_lt (Nat.lt_of_lt_of_le c942 fz925_r)
      show Gwg T925 m 177 [(.ref a915), (.ref a899), (.ref a899)]
      have c947 := Exa.ext E915 A899
      have c948 := Exa.keep c947 K925
      have c949 := Fld.ext E915 F913
      have c950 := Fld.keep c949 K925 (ninS ne921 nin0)
      have c951 := Fld.ext E915 F914
      have c952 := Fld.keep c951 K925 (ninS ne921 nin0)
      have z953 : n0 ≤ T925.heap.size := Nat.le_trans z937 K925.1
      refine gw_callI X925 hx hZ hml hown rfl (wd hw 33 rfl) (wd hw 34 rfl) (wd hw 35 rfl) (wd hw 3 rfl) rfl (argsL := [(.ref a915)]) (rest := [(.ref a899)]) (W := 1) (met_tci l Z a0 hw a899 a915 T925.heap n0 z953 c948 c950 c952 nw_a899) (hb hby at_177) rfl rfl rfl (lenOf pd12 rfl) (by show 2 * 0 + _ ≤ _; exact Nat.le_of_eq rfl) (by decide) (by decide) (by decide) (by decide) (by decide) ?_
      intro T946 v946 L946 X946 q946
      obtain ⟨rfl, M946, K946, f946_0, f946_1⟩ := q946
      have N946 := Fr.app N925 M946
      show Gwg T946 m 180 [(.ref a899)]
      refine gw_st (fun _ kq => XS.astore X946.here hx rfl (hb hby at_180) rfl rfl (l' := #[.val (.int x0), .val (.int x1), .val (.int x2), .val (.int (x0 &&& (255 : Int32))), .val (.int ((XT.ushr x0 (8 : Int32)) &&& (255 : Int32))), .val (.int ((XT.ushr x0 (16 : Int32)) &&& (255 : Int32))), .val (.ref a253), .val (.int (2 : Int32)), .val (.int (0 : Int32)), .val (.int (x0 &&& (255 : Int32))), .val (.ref a884), .val (.ref a899), .unset, .unset]) rfl kq) ?_
      show Gwg T946 m 182 []
      refine gw_st (fun _ kq => XS.iload X946.here hx rfl (hb hby at_182) rfl kq) ?_
      show Gwg T946 m 184 [(.int (0 : Int32))]
      refine gw_st (fun _ kq => XT.iconstV X946.here hx rfl (1 : Int32) (hb hby at_184) (by decide) kq) ?_
      show Gwg T946 m 185 [(.int (1 : Int32)), (.int (0 : Int32))]
      refine gw_st (fun _ kq => XS.icmpYes X946.here hx rfl (pc0 := 185) (pc' := 193) rfl (hb hby at_185) rfl (XT.ii_lt_t (by decide)) (by decide) (by decide) kq) ?_
      show Gwg T946 m 193 []
      refine gw_st (fun _ kq => XS.iload X946.here hx rfl (hb hby at_193) rfl kq) ?_
      show Gwg T946 m 195 [(.int (0 : Int32))]
      refine gw_st (fun _ kq => XT.iconstV X946.here hx rfl (2 : Int32) (hb hby at_195) (by decide) kq) ?_
      show Gwg T946 m 196 [(.int (2 : Int32)), (.int (0 : Int32))]
      refine gw_st (fun _ kq => XS.icmpYes X946.here hx rfl (pc0 := 196) (pc' := 204) rfl (hb hby at_196) rfl (XT.ii_lt_t (by decide)) (by decide) (by decide) kq) ?_
      show Gwg T946 m 204 []
      refine gw_st (fun _ kq => XS.iload X946.here hx rfl (hb hby at_204) rfl kq) ?_
      show Gwg T946 m 206 [(.int (0 : Int32))]
      refine gw_st (fun _ kq => XT.iconstV X946.here hx rfl (3 : Int32) (hb hby at_206) (by decide) kq) ?_
      show Gwg T946 m 207 [(.int (3 : Int32)), (.int (0 : Int32))]
      refine gw_st (fun _ kq => XS.icmpYes X946.here hx rfl (pc0 := 207) (pc' := 215) rfl (hb hby at_207) rfl (XT.ii_lt_t (by decide)) (by decide) (by decide) kq) ?_
      show Gwg T946 m 215 []
      refine gw_st (fun _ kq => XS.aload X946.here hx rfl (hb hby at_215) rfl rfl kq) ?_
      show Gwg T946 m 217 [(.ref a899)]
      refine gw_st (fun _ kq => XS.iload X946.here hx rfl (hb hby at_217) rfl kq) ?_
      show Gwg T946 m 219 [(.int (x0 &&& (255 : Int32))), (.ref a899)]
      have c955 := Exa.keep f925_0 K946
      have c956 := Fld.keep f925_1 K946 (ninS (Ne.symm ne921) nin0)
      have c957 := Fld.keep f925_2 K946 (ninS (Ne.symm ne921) nin0)
      have c958 := GA.keep f925_3 K946 (ninS (Ne.symm ne943) nin0)
      have c959 := Old.keep c936 K925 (allS nw_a915 all0)
      have c960 := Old.keep c959 K946 (allS nw_a899 all0)
      have z961 : n0 ≤ T946.heap.size := Nat.le_trans z953 K946.1
      have c962 := Exa.keep c948 K946
      refine gw_callV X946 hx hZ hml hown (wd hw 39 rfl) (wd hw 40 rfl) (notFace_of_selects (args := #[]) (mvT hZ (wd hw 42 rfl))) (wd hw 42 rfl) (wd hw 41 rfl) (wd hw 43 rfl) (wd hw 3 rfl) rfl c962 (argsL := [(.int (x0 &&& (255 : Int32)))]) (rest := []) (W := 0) (met_pk20t l Z a0 hw a899 a915 r_925 (x0 &&& (255 : Int32)) ((XT.ushr x0 (8 : Int32)) &&& (255 : Int32)) (x0 &&& (255 : Int32)) zc vf rf T946.heap n0 z961 f946_1 f946_0 c955 c956 c957 c958 (own_lat _) (own_lat _) c960 S0 zn S1 rfl) (hb hby at_219) rfl rfl rfl (lenOf pd13 rfl) (by show 2 * 0 + _ ≤ _; exact Nat.le_of_eq rfl) (by decide) (by decide) (by decide) (by decide) (by decide) ?_
      intro T954 v954 L954 X954 q954
      obtain ⟨rfl, M954, K954⟩ := q954
      have N954 := Fr.app N946 M954
      show Gwg T954 m 222 [(.int (1 : Int32))]
      refine gw_st (fun _ kq => XS.istore X954.here hx rfl (hb hby at_222) rfl (l' := #[.val (.int x0), .val (.int x1), .val (.int x2), .val (.int (x0 &&& (255 : Int32))), .val (.int ((XT.ushr x0 (8 : Int32)) &&& (255 : Int32))), .val (.int ((XT.ushr x0 (16 : Int32)) &&& (255 : Int32))), .val (.ref a253), .val (.int (2 : Int32)), .val (.int (0 : Int32)), .val (.int (x0 &&& (255 : Int32))), .val (.ref a884), .val (.ref a899), .val (.int (1 : Int32)), .unset]) rfl kq) ?_
      show Gwg T954 m 224 []
      refine gw_st (fun _ kq => XS.iload X954.here hx rfl (hb hby at_224) rfl kq) ?_
      show Gwg T954 m 226 [(.int (0 : Int32))]
      refine gw_st (fun _ kq => XS.iload X954.here hx rfl (hb hby at_226) rfl kq) ?_
      show Gwg T954 m 228 [(.int (2 : Int32)), (.int (0 : Int32))]
      refine gw_st (fun _ kq => XS.icmpNo X954.here hx rfl (hb hby at_228) rfl (XT.ii_ge_f (by decide)) kq) ?_
      show Gwg T954 m 231 []
      refine gw_st (fun _ kq => XS.aload X954.here hx rfl (hb hby at_231) rfl rfl kq) ?_
      show Gwg T954 m 233 [(.ref a253)]
      refine gw_st (fun _ kq => XS.iload X954.here hx rfl (hb hby at_233) rfl kq) ?_
      show Gwg T954 m 235 [(.int (0 : Int32)), (.ref a253)]
      have c963 := A259.ext E884
      have c964 := c963.other W897 ne892
      have c965 := c964.other W898 ne892
      have c966 := c965.ext E899
      have c967 := c966.ext E915
      have c968 := GA.keep c967 K925 (ninS ne918 nin0)
      have c969 := GA.keep c968 K946 (ninS ne906 nin0)
      have c970 := GA.keep c969 K954 nin0
      refine gw_cald X954 hx hZ rfl c970 (hb hby at_235) rfl rfl (by decide) (.int (x0 &&& (255 : Int32))) rfl ?_
      show Gwg T954 m 236 [(.int (x0 &&& (255 : Int32)))]
      refine gw_st (fun _ kq => XS.iload X954.here hx rfl (hb hby at_236) rfl kq) ?_
      show Gwg T954 m 238 [(.int (x0 &&& (255 : Int32))), (.int (x0 &&& (255 : Int32)))]
      refine gw_st (fun _ kq => XS.icmpNo X954.here hx rfl (hb hby at_238) rfl (XT.ii_ne_f rfl) kq) ?_
      show Gwg T954 m 241 []
      refine gw_st (fun _ kq => XT.iconstV X954.here hx rfl (1 : Int32) (hb hby at_241) (by decide) kq) ?_
      show Gwg T954 m 242 [(.int (1 : Int32))]
      refine gw_st (fun _ kq => XS.goto X954.here hx rfl (pc0 := 242) (pc' := 246) rfl (hb hby at_242) (by decide) (by decide) kq) ?_
      show Gwg T954 m 246 [(.int (1 : Int32))]
      refine gw_st (fun _ kq => XS.istore X954.here hx rfl (hb hby at_246) rfl (l' := #[.val (.int x0), .val (.int x1), .val (.int x2), .val (.int (x0 &&& (255 : Int32))), .val (.int ((XT.ushr x0 (8 : Int32)) &&& (255 : Int32))), .val (.int ((XT.ushr x0 (16 : Int32)) &&& (255 : Int32))), .val (.ref a253), .val (.int (2 : Int32)), .val (.int (0 : Int32)), .val (.int (x0 &&& (255 : Int32))), .val (.ref a884), .val (.ref a899), .val (.int (1 : Int32)), .val (.int (1 : Int32))]) rfl kq) ?_
      show Gwg T954 m 248 []
      refine gw_st (fun _ kq => XS.iload X954.here hx rfl (hb hby at_248) rfl kq) ?_
      show Gwg T954 m 250 [(.int (1 : Int32))]
      refine gw_st (fun _ kq => XS.iload X954.here hx rfl (hb hby at_250) rfl kq) ?_
      show Gwg T954 m 252 [(.int (1 : Int32)), (.int (1 : Int32))]
      refine gw_st (fun _ kq => XS.icmpNo X954.here hx rfl (hb hby at_252) rfl (XT.ii_ne_f (by decide)) kq) ?_
      show Gwg T954 m 255 []
      refine gw_st (fun _ kq => XS.aload X954.here hx rfl (hb hby at_255) rfl rfl kq) ?_
      show Gwg T954 m 257 [(.ref a899)]
      have c972 := Fld.keep f946_1 K954 nin0
      have z973 : n0 ≤ T954.heap.size := Nat.le_trans z961 K954.1
      have c974 := Exa.keep c962 K954
      refine gw_callV X954 hx hZ hml hown (wd hw 78 rfl) (wd hw 79 rfl) (notFace_of_selects (args := #[]) (mvT hZ (wd hw 81 rfl))) (wd hw 81 rfl) (wd hw 80 rfl) (wd hw 82 rfl) (wd hw 3 rfl) rfl c974 (argsL := []) (rest := []) (W := 0) (met_16 l Z a0 hw a899 (0 : Int32) T954.heap n0 z973 c972) (hb hby at_257) rfl rfl rfl (lenOf pd9 rfl) (by show 2 * 0 + _ ≤ _; exact Nat.le_of_eq rfl) (by decide) (by decide) (by decide) (by decide) (by decide) ?_
      intro T971 v971 L971 X971 q971
      obtain ⟨rfl, M971, e971⟩ := q971
      have N971 := Fr.app N954 M971
      show Gwg T971 m 260 [(.int (0 : Int32))]
      refine gw_st (fun _ kq => XS.iload X971.here hx rfl (hb hby at_260) rfl kq) ?_
      show Gwg T971 m 262 [(.int (0 : Int32)), (.int (0 : Int32))]
      refine gw_st (fun _ kq => XS.icmpNo X971.here hx rfl (hb hby at_262) rfl (XT.ii_ne_f (by decide)) kq) ?_
      show Gwg T971 m 265 []
      refine gw_st (fun _ kq => XT.iconstV X971.here hx rfl (1 : Int32) (hb hby at_265) (by decide) kq) ?_
      show Gwg T971 m 266 [(.int (1 : Int32))]
      refine gw_st (fun _ kq => XS.goto X971.here hx rfl (pc0 := 266) (pc' := 270) rfl (hb hby at_266) (by decide) (by decide) kq) ?_
      show Gwg T971 m 270 [(.int (1 : Int32))]
      exact gw_retB (w := (1 : Int32)) X971 hx hlk hret (hb hby at_270) (by decide) (by decide) (by decide) ⟨rfl, N971⟩
    ·by_cases hk975 : (((XT.ushr x2 (2 : Int32)) &&& (3 : Int32)) % (3 : Int32)) = (1 : Int32)
     ·rw [hk975]
      show Gwg T259 m 65 []
      refine gw_st (fun _ kq => XS.iloadN X259.here hx rfl (hb hby at_65) rfl kq) ?_
      show Gwg T259 m 66 [(.int x2)]
      refine gw_st (fun _ kq => XT.iconstV X259.here hx rfl (4 : Int32) (hb hby at_66) (by decide) kq) ?_
      show Gwg T259 m 67 [(.int (4 : Int32)), (.int x2)]
      refine gw_st (fun _ kq => XT.iushr X259.here hx rfl (hb hby at_67) rfl kq) ?_
      show Gwg T259 m 68 [(.int (XT.ushr x2 (4 : Int32)))]
      refine gw_st (fun _ kq => XT.iconstV X259.here hx rfl (1 : Int32) (hb hby at_68) (by decide) kq) ?_
      show Gwg T259 m 69 [(.int (1 : Int32)), (.int (XT.ushr x2 (4 : Int32)))]
      refine gw_st (fun _ kq => XS.iand X259.here hx rfl (hb hby at_69) rfl kq) ?_
      show Gwg T259 m 70 [(.int ((XT.ushr x2 (4 : Int32)) &&& (1 : Int32)))]
      by_cases hc976 : ((XT.ushr x2 (4 : Int32)) &&& (1 : Int32)) = (0 : Int32)
      ·refine gw_st (fun _ kq => XS.ifYes X259.here hx rfl (pc0 := 70) (pc' := 87) rfl (hb hby at_70) rfl (XT.i0_eq_t hc976) (by decide) (by decide) kq) ?_
       show Gwg T259 m 87 []
       refine gw_st (fun _ kq => XS.iloadN X259.here hx rfl (hb hby at_87) rfl kq) ?_
       show Gwg T259 m 88 [(.int x1)]
       refine gw_st (fun _ kq => XT.i2c X259.here hx rfl (hb hby at_88) rfl kq) ?_
       show Gwg T259 m 89 [(.int x1.toUInt32.toUInt16.toUInt32.toInt32)]
       refine gw_st (fun _ kq => XS.istore X259.here hx rfl (hb hby at_89) rfl (l' := #[.val (.int x0), .val (.int x1), .val (.int x2), .val (.int (x0 &&& (255 : Int32))), .val (.int ((XT.ushr x0 (8 : Int32)) &&& (255 : Int32))), .val (.int ((XT.ushr x0 (16 : Int32)) &&& (255 : Int32))), .val (.ref a253), .val (.int (2 : Int32)), .val (.int (1 : Int32)), .val (.int x1.toUInt32.toUInt16.toUInt32.toInt32), .unset, .unset, .unset, .unset]) rfl kq) ?_
       show Gwg T259 m 91 []
       refine gw_st (fun _ kq => XS.iload X259.here hx rfl (hb hby at_91) rfl kq) ?_
       show Gwg T259 m 93 [(.int (2 : Int32))]
       refine gw_st (fun _ kq => XS.ifYes X259.here hx rfl (pc0 := 93) (pc' := 104) rfl (hb hby at_93) rfl (XT.i0_ne_t (by decide)) (by decide) (by decide) kq) ?_
       show Gwg T259 m 104 []
       refine gw_st (fun _ kq => XS.iload X259.here hx rfl (hb hby at_104) rfl kq) ?_
       show Gwg T259 m 106 [(.int (2 : Int32))]
       refine gw_st (fun _ kq => XT.iconstV X259.here hx rfl (1 : Int32) (hb hby at_106) (by decide) kq) ?_
       show Gwg T259 m 107 [(.int (1 : Int32)), (.int (2 : Int32))]
       refine gw_st (fun _ kq => XS.icmpYes X259.here hx rfl (pc0 := 107) (pc' := 122) rfl (hb hby at_107) rfl (XT.ii_ne_t (by decide)) (by decide) (by decide) kq) ?_
       show Gwg T259 m 122 []
       refine gw_st (fun _ kq => XS.iload X259.here hx rfl (hb hby at_122) rfl kq) ?_
       show Gwg T259 m 124 [(.int (2 : Int32))]
       refine gw_st (fun _ kq => XT.iconstV X259.here hx rfl (2 : Int32) (hb hby at_124) (by decide) kq) ?_
       show Gwg T259 m 125 [(.int (2 : Int32)), (.int (2 : Int32))]
       refine gw_st (fun _ kq => XS.icmpNo X259.here hx rfl (hb hby at_125) rfl (XT.ii_ne_f (by decide)) kq) ?_
       show Gwg T259 m 128 []
       refine gw_st (fun _ kq => XT.iconstV X259.here hx rfl (2 : Int32) (hb hby at_128) (by decide) kq) ?_
       show Gwg T259 m 129 [(.int (2 : Int32))]
       refine gw_newP X259 hx hZ (wd hw 0 rfl) e259 (hb hby at_129) rfl rfl 2 (by decide) 2 (Nat.le_refl _) (by decide) (by decide) (by decide) ?_
       intro T977 h977 a977 g977 X977 e977 E977 G977
       have c982 : a253 < h255.size := (Wr.size W255).symm ▸ lt_a253
       have c983 : a253 < h257.size := (Wr.size W257).symm ▸ c982
       have c984 : a253 < h259.size := (Wr.size W259).symm ▸ c983
       have ne985 : a253 ≠ a977 := fun q => Nat.lt_irrefl _ (Nat.lt_of_lt_of_le c984 (Nat.le_of_eq (g977.symm.trans q.symm)))
       have z986 : n0 ≤ h253.size := Nat.le_trans Z0 E253.1
       have z987 : n0 ≤ h255.size := (Wr.size W255).symm ▸ z986
       have z988 : n0 ≤ h257.size := (Wr.size W257).symm ▸ z987
       have z989 : n0 ≤ h259.size := (Wr.size W259).symm ▸ z988
       have nw_a977 : n0 ≤ a977 := Nat.le_trans z989 (Nat.le_of_eq g977.symm)
       have lt_a977 : a977 < h977.size := G977.lt
       have A977 : GA Z h977 a977 .char 2 (fun i => .int (own_c3 (0 : Int32) (0 : Int32) (0 : Int32) i)) := (GA.congr G977 (fun i _ => own_z3 i))
       show Gwg T977 m 131 [(.ref a977)]
       refine gw_st (fun _ kq => XS.dup X977.here hx rfl (hb hby at_131) rfl rfl kq) ?_
       show Gwg T977 m 132 [(.ref a977), (.ref a977)]
       refine gw_st (fun _ kq => XT.iconstV X977.here hx rfl (0 : Int32) (hb hby at_132) (by decide) kq) ?_
       show Gwg T977 m 133 [(.int (0 : Int32)), (.ref a977), (.ref a977)]
       refine gw_st (fun _ kq => XS.iloadN X977.here hx rfl (hb hby at_133) rfl kq) ?_
       show Gwg T977 m 134 [(.int (x0 &&& (255 : Int32))), (.int (0 : Int32)), (.ref a977), (.ref a977)]
       refine gw_cast X977 hx hZ e977 A977 (hb hby at_134) rfl rfl (by decide) ?_
       intro T990 h990 X990 e990 W990 G990
       have N990 := Fr.snoc X990 N259 nw_a977
       have A990 : GA Z h990 a977 .char 2 (fun i => .int (own_c3 (x0 &&& (255 : Int32)) (0 : Int32) (0 : Int32) i)) := (own_stc (own_nc (own_lat _)) (by decide) (own_c30 (x0 &&& (255 : Int32)) (0 : Int32) (0 : Int32) (0 : Int32)) G990)
       show Gwg T990 m 135 [(.ref a977)]
       refine gw_st (fun _ kq => XS.dup X990.here hx rfl (hb hby at_135) rfl rfl kq) ?_
       show Gwg T990 m 136 [(.ref a977), (.ref a977)]
       refine gw_st (fun _ kq => XT.iconstV X990.here hx rfl (1 : Int32) (hb hby at_136) (by decide) kq) ?_
       show Gwg T990 m 137 [(.int (1 : Int32)), (.ref a977), (.ref a977)]
       refine gw_st (fun _ kq => XS.iload X990.here hx rfl (hb hby at_137) rfl kq) ?_
       show Gwg T990 m 139 [(.int ((XT.ushr x0 (8 : Int32)) &&& (255 : Int32))), (.int (1 : Int32)), (.ref a977), (.ref a977)]
       refine gw_cast X990 hx hZ e990 A990 (hb hby at_139) rfl rfl (by decide) ?_
       intro T991 h991 X991 e991 W991 G991
       have N991 := Fr.snoc X991 N990 nw_a977
       have A991 : GA Z h991 a977 .char 2 (fun i => .int (own_c3 (x0 &&& (255 : Int32)) ((XT.ushr x0 (8 : Int32)) &&& (255 : Int32)) (0 : Int32) i)) := (own_stc (own_nc (own_lat _)) (by decide) (own_c31 ((XT.ushr x0 (8 : Int32)) &&& (255 : Int32)) (x0 &&& (255 : Int32)) (0 : Int32) (0 : Int32)) G991)
       show Gwg T991 m 140 [(.ref a977)]
       refine gw_st (fun _ kq => XS.astore X991.here hx rfl (hb hby at_140) rfl rfl (l' := #[.val (.int x0), .val (.int x1), .val (.int x2), .val (.int (x0 &&& (255 : Int32))), .val (.int ((XT.ushr x0 (8 : Int32)) &&& (255 : Int32))), .val (.int ((XT.ushr x0 (16 : Int32)) &&& (255 : Int32))), .val (.ref a253), .val (.int (2 : Int32)), .val (.int (1 : Int32)), .val (.int x1.toUInt32.toUInt16.toUInt32.toInt32), .val (.ref a977), .unset, .unset, .unset]) rfl kq) ?_
       show Gwg T991 m 142 []
       refine gw_st (fun _ kq => XS.goto X991.here hx rfl (pc0 := 142) (pc' := 164) rfl (hb hby at_142) (by decide) (by decide) kq) ?_
       show Gwg T991 m 164 []
       refine gw_newO X991 hx hZ hown (wd hw 1 rfl) (wd hw 2 rfl) (wd hw 3 rfl) e991 (hb hby at_164) rfl (by decide) (by decide) ?_
       intro T992 h992 a992 g992 X992 e992 E992 A992 D992
       have c996 : a253 < h977.size := Nat.lt_of_lt_of_le c984 E977.1
       have c997 : a253 < h990.size := (Wr.size W990).symm ▸ c996
       have c998 : a253 < h991.size := (Wr.size W991).symm ▸ c997
       have ne999 : a253 ≠ a992 := fun q => Nat.lt_irrefl _ (Nat.lt_of_lt_of_le c998 (Nat.le_of_eq (g992.symm.trans q.symm)))
       have c1000 : a977 < h990.size := (Wr.size W990).symm ▸ lt_a977
       have c1001 : a977 < h991.size := (Wr.size W991).symm ▸ c1000
       have z1003 : n0 ≤ h977.size := Nat.le_trans z989 E977.1
       have z1004 : n0 ≤ h990.size := (Wr.size W990).symm ▸ z1003
       have z1005 : n0 ≤ h991.size := (Wr.size W991).symm ▸ z1004
       have nw_a992 : n0 ≤ a992 := Nat.le_trans z1005 (Nat.le_of_eq g992.symm)
       have lt_a992 : a992 < h992.size := A992.lt
       have F1006 : Fld Z h992 a992 "com/example/wirecall/wirecall/TextCursor" "text" "Ljava/lang/String;" .null := D992 (Or.inr (wd hw 38 rfl)) (ty := (.object "java/lang/String")) (by decide)
       have F1007 : Fld Z h992 a992 "com/example/wirecall/wirecall/TextCursor" "pos" "I" (.int (0 : Int32)) := D992 (Or.inl (wd hw 45 rfl)) (ty := .int) (by decide)
       show Gwg T992 m 167 [(.ref a992)]
       refine gw_st (fun _ kq => XS.dup X992.here hx rfl (hb hby at_167) rfl rfl kq) ?_
       show Gwg T992 m 168 [(.ref a992), (.ref a992)]
       refine gw_newO X992 hx hZ hown (wd hw 4 rfl) (wd hw 5 rfl) (wd hw 6 rfl) e992 (hb hby at_168) rfl (by decide) (by decide) ?_
       intro T1008 h1008 a1008 g1008 X1008 e1008 E1008 A1008 D1008
       have c1010 : a253 < h992.size := Nat.lt_of_lt_of_le c998 E992.1
       have ne1011 : a253 ≠ a1008 := fun q => Nat.lt_irrefl _ (Nat.lt_of_lt_of_le c1010 (Nat.le_of_eq (g1008.symm.trans q.symm)))
       have c1012 : a977 < h992.size := Nat.lt_of_lt_of_le c1001 E992.1
       have ne1013 : a977 ≠ a1008 := fun q => Nat.lt_irrefl _ (Nat.lt_of_lt_of_le c1012 (Nat.le_of_eq (g1008.symm.trans q.symm)))
       have ne1014 : a992 ≠ a1008 := fun q => Nat.lt_irrefl _ (Nat.lt_of_lt_of_le lt_a992 (Nat.le_of_eq (g1008.symm.trans q.symm)))
       have z1015 : n0 ≤ h992.size := Nat.le_trans z1005 E992.1
       have nw_a1008 : n0 ≤ a1008 := Nat.le_trans z1015 (Nat.le_of_eq g1008.symm)
       have F1016 : Fld Z h1008 a1008 "java/lang/String" "coder" "B" (.int (0 : Int32)) := D1008 (Or.inr (wd hw 30 rfl)) (ty := .byte) (by decide)
       have F1017 : Fld Z h1008 a1008 "java/lang/String" "value" "[B" .null := D1008 (Or.inr (wd hw 32 rfl)) (ty := (.array .byte)) (by decide)
       show Gwg T1008 m 171 [(.ref a1008), (.ref a992), (.ref a992)]
       refine gw_st (fun _ kq => XS.dup X1008.here hx rfl (hb hby at_171) rfl rfl kq) ?_
       show Gwg T1008 m 172 [(.ref a1008), (.ref a1008), (.ref a992), (.ref a992)]
       refine gw_st (fun _ kq => XS.aload X1008.here hx rfl (hb hby at_172) rfl rfl kq) ?_
       show Gwg T1008 m 174 [(.ref a977), (.ref a1008), (.ref a1008), (.ref a992), (.ref a992)]
       have c1019 := A991.ext E992
       have c1020 := c1019.ext E1008
       have c1021 := Old.ext O0 E253
       have c1022 := Old.wr c1021 W255 nw_a253
       have c1023 := Old.wr c1022 W257 nw_a253
       have c1024 := Old.wr c1023 W259 nw_a253
       have c1025 := Old.ext c1024 E977
       have c1026 := Old.wr c1025 W990 nw_a977
       have c1027 := Old.wr c1026 W991 nw_a977
       have c1028 := Old.ext c1027 E992
       have c1029 := Old.ext c1028 E1008
       have z1030 : n0 ≤ h1008.size := Nat.le_trans z1015 E1008.1
       refine gw_callI X1008 hx hZ hml hown rfl (wd hw 7 rfl) (wd hw 8 rfl) (wd hw 9 rfl) (wd hw 6 rfl) e1008 (argsL := [(.ref a977)]) (rest := [(.ref a1008), (.ref a992), (.ref a992)]) (W := 3) (met_s2 l Z a0 hw a1008 a977 (x0 &&& (255 : Int32)) ((XT.ushr x0 (8 : Int32)) &&& (255 : Int32)) zc h1008 n0 z1030 A1008 F1017 F1016 nw_a1008 c1020 (Ne.symm ne1013) (own_lat _) (own_lat _) c1029 S0 zn) (hb hby at_174) rfl rfl rfl (lenOf pd11 rfl) (by show 2 * 0 + _ ≤ _; exact Nat.le_of_eq rfl) (by decide) (by decide) (by decide) (by decide) (by decide) ?_
       intro T1018 v1018 L1018 X1018 q1018
       obtain ⟨r_1018, rfl, M1018, K1018, fz1018_r, f1018_0, f1018_1, f1018_2, f1018_3⟩ := q1018
       have N1018 := Fr.app N991 M1018
       have c1035 : a992 < h1008.size := Nat.lt_of_lt_of_le lt_a992 E1008.1
       have ne1036 : a992 ≠ r_1018 := Nat.ne_of_lt (Nat.lt_of_lt_of_le c1035 fz1018_r)
       show Gwg T1018 m 177 [(.ref a1008), (.ref a992), (.ref a992)]
       have c1040 := Exa.ext E1008 A992
       have c1041 := Exa.keep c1040 K1018
       have c1042 := Fld.ext E1008 F1006
       have c1043 := Fld.keep c1042 K1018 (ninS ne1014 nin0)
       have c1044 := Fld.ext E1008 F1007
       have c1045 := Fld.keep c1044 K1018 (ninS ne1014 nin0)
       have z1046 : n0 ≤ T1018.heap.size := Nat.le_trans z1030 K1018.1
       refine gw_callI X1018 hx hZ hml hown rfl (wd hw 33 rfl) (wd hw 34 rfl) (wd hw 35 rfl) (wd hw 3 rfl) rfl (argsL := [(.ref a1008)]) (rest := [(.ref a992)]) (W := 1) (met_tci l Z a0 hw a992 a1008 T1018.heap n0 z1046 c1041 c1043 c1045 nw_a992) (hb hby at_177) rfl rfl rfl (lenOf pd12 rfl) (by show 2 * 0 + _ ≤ _; exact Nat.le_of_eq rfl) (by decide) (by decide) (by decide) (by decide) (by decide) ?_
       intro T1039 v1039 L1039 X1039 q1039
       obtain ⟨rfl, M1039, K1039, f1039_0, f1039_1⟩ := q1039
       have N1039 := Fr.app N1018 M1039
       show Gwg T1039 m 180 [(.ref a992)]
       refine gw_st (fun _ kq => XS.astore X1039.here hx rfl (hb hby at_180) rfl rfl (l' := #[.val (.int x0), .val (.int x1), .val (.int x2), .val (.int (x0 &&& (255 : Int32))), .val (.int ((XT.ushr x0 (8 : Int32)) &&& (255 : Int32))), .val (.int ((XT.ushr x0 (16 : Int32)) &&& (255 : Int32))), .val (.ref a253), .val (.int (2 : Int32)), .val (.int (1 : Int32)), .val (.int x1.toUInt32.toUInt16.toUInt32.toInt32), .val (.ref a977), .val (.ref a992), .unset, .unset]) rfl kq) ?_
       show Gwg T1039 m 182 []
       refine gw_st (fun _ kq => XS.iload X1039.here hx rfl (hb hby at_182) rfl kq) ?_
       show Gwg T1039 m 184 [(.int (1 : Int32))]
       refine gw_st (fun _ kq => XT.iconstV X1039.here hx rfl (1 : Int32) (hb hby at_184) (by decide) kq) ?_
       show Gwg T1039 m 185 [(.int (1 : Int32)), (.int (1 : Int32))]
       refine gw_st (fun _ kq => XS.icmpNo X1039.here hx rfl (hb hby at_185) rfl (XT.ii_lt_f (by decide)) kq) ?_
       show Gwg T1039 m 188 []
       refine gw_st (fun _ kq => XS.aload X1039.here hx rfl (hb hby at_188) rfl rfl kq) ?_
       show Gwg T1039 m 190 [(.ref a992)]
       have c1048 := Exa.keep c1041 K1039
       have z1049 : n0 ≤ T1039.heap.size := Nat.le_trans z1046 K1039.1
       refine gw_callV X1039 hx hZ hml hown (wd hw 83 rfl) (wd hw 84 rfl) (notFace_of_selects (args := #[]) (mvT hZ (wd hw 86 rfl))) (wd hw 86 rfl) (wd hw 85 rfl) (wd hw 87 rfl) (wd hw 3 rfl) rfl c1048 (argsL := []) (rest := []) (W := 0) (met_sk0 l Z a0 hw a992 a1008 T1039.heap n0 z1049 c1048 f1039_0 f1039_1 nw_a992) (hb hby at_190) rfl rfl rfl (lenOf pd15 rfl) (by show 2 * 0 + _ ≤ _; exact Nat.le_of_eq rfl) (by decide) (by decide) (by decide) (by decide) (by decide) ?_
       intro T1047 v1047 L1047 X1047 q1047
       obtain ⟨rfl, M1047, K1047, f1047_0, f1047_1⟩ := q1047
       have N1047 := Fr.app N1039 M1047
       show Gwg T1047 m 193 []
       refine gw_st (fun _ kq => XS.iload X1047.here hx rfl (hb hby at_193) rfl kq) ?_
       show Gwg T1047 m 195 [(.int (1 : Int32))]
       refine gw_st (fun _ kq => XT.iconstV X1047.here hx rfl (2 : Int32) (hb hby at_195) (by decide) kq) ?_
       show Gwg T1047 m 196 [(.int (2 : Int32)), (.int (1 : Int32))]
       refine gw_st (fun _ kq => XS.icmpYes X1047.here hx rfl (pc0 := 196) (pc' := 204) rfl (hb hby at_196) rfl (XT.ii_lt_t (by decide)) (by decide) (by decide) kq) ?_
       show Gwg T1047 m 204 []
       refine gw_st (fun _ kq => XS.iload X1047.here hx rfl (hb hby at_204) rfl kq) ?_
       show Gwg T1047 m 206 [(.int (1 : Int32))]
       refine gw_st (fun _ kq => XT.iconstV X1047.here hx rfl (3 : Int32) (hb hby at_206) (by decide) kq) ?_
       show Gwg T1047 m 207 [(.int (3 : Int32)), (.int (1 : Int32))]
       refine gw_st (fun _ kq => XS.icmpYes X1047.here hx rfl (pc0 := 207) (pc' := 215) rfl (hb hby at_207) rfl (XT.ii_lt_t (by decide)) (by decide) (by decide) kq) ?_
       show Gwg T1047 m 215 []
       refine gw_st (fun _ kq => XS.aload X1047.here hx rfl (hb hby at_215) rfl rfl kq) ?_
       show Gwg T1047 m 217 [(.ref a992)]
       refine gw_st (fun _ kq => XS.iload X1047.here hx rfl (hb hby at_217) rfl kq) ?_
       show Gwg T1047 m 219 [(.int x1.toUInt32.toUInt16.toUInt32.toInt32), (.ref a992)]
       by_cases hc1050 : ((XT.ushr x0 (8 : Int32)) &&& (255 : Int32)) = x1.toUInt32.toUInt16.toUInt32.toInt32
       ·show Gwg T1047 m 219 [(.int x1.toUInt32.toUInt16.toUInt32.toInt32), (.ref a992)]
        have c1052 := Exa.keep f1018_0 K1039
        have c1053 := Exa.keep c1052 K1047
        have c1054 := Fld.keep f1018_1 K1039 (ninS (Ne.symm ne1014) nin0)
        have c1055 := Fld.keep c1054 K1047 (ninS (Ne.symm ne1014) nin0)
        have c1056 := Fld.keep f1018_2 K1039 (ninS (Ne.symm ne1014) nin0)
        have c1057 := Fld.keep c1056 K1047 (ninS (Ne.symm ne1014) nin0)
        have c1058 := GA.keep f1018_3 K1039 (ninS (Ne.symm ne1036) nin0)
        have c1059 := GA.keep c1058 K1047 (ninS (Ne.symm ne1036) nin0)
        have c1060 := Old.keep c1029 K1018 (allS nw_a1008 all0)
        have c1061 := Old.keep c1060 K1039 (allS nw_a992 all0)
        have c1062 := Old.keep c1061 K1047 (allS nw_a992 all0)
        have z1063 : n0 ≤ T1047.heap.size := Nat.le_trans z1049 K1047.1
        have c1064 := Exa.keep c1048 K1047
        refine gw_callV X1047 hx hZ hml hown (wd hw 39 rfl) (wd hw 40 rfl) (notFace_of_selects (args := #[]) (mvT hZ (wd hw 42 rfl))) (wd hw 42 rfl) (wd hw 41 rfl) (wd hw 43 rfl) (wd hw 3 rfl) rfl c1064 (argsL := [(.int x1.toUInt32.toUInt16.toUInt32.toInt32)]) (rest := []) (W := 0) (met_pk21t l Z a0 hw a992 a1008 r_1018 (x0 &&& (255 : Int32)) ((XT.ushr x0 (8 : Int32)) &&& (255 : Int32)) x1.toUInt32.toUInt16.toUInt32.toInt32 zc vf rf T1047.heap n0 z1063 f1047_1 f1047_0 c1053 c1055 c1057 c1059 (own_lat _) (own_lat _) c1062 S0 zn S1 hc1050) (hb hby at_219) rfl rfl rfl (lenOf pd13 rfl) (by show 2 * 0 + _ ≤ _; exact Nat.le_of_eq rfl) (by decide) (by decide) (by decide) (by decide) (by decide) ?_
        intro T1051 v1051 L1051 X1051 q1051
        obtain ⟨rfl, M1051, K1051⟩ := q1051
        have N1051 := Fr.app N1047 M1051
        show Gwg T1051 m 222 [(.int (1 : Int32))]
        refine gw_st (fun _ kq => XS.istore X1051.here hx rfl (hb hby at_222) rfl (l' := #[.val (.int x0), .val (.int x1), .val (.int x2), .val (.int (x0 &&& (255 : Int32))), .val (.int ((XT.ushr x0 (8 : Int32)) &&& (255 : Int32))), .val (.int ((XT.ushr x0 (16 : Int32)) &&& (255 : Int32))), .val (.ref a253), .val (.int (2 : Int32)), .val (.int (1 : Int32)), .val (.int x1.toUInt32.toUInt16.toUInt32.toInt32), .val (.ref a977), .val (.ref a992), .val (.int (1 : Int32)), .unset]) rfl kq) ?_
        show Gwg T1051 m 224 []
        refine gw_st (fun _ kq => XS.iload X1051.here hx rfl (hb hby at_224) rfl kq) ?_
        show Gwg T1051 m 226 [(.int (1 : Int32))]
        refine gw_st (fun _ kq => XS.iload X1051.here hx rfl (hb hby at_226) rfl kq) ?_
        show Gwg T1051 m 228 [(.int (2 : Int32)), (.int (1 : Int32))]
        refine gw_st (fun _ kq => XS.icmpNo X1051.here hx rfl (hb hby at_228) rfl (XT.ii_ge_f (by decide)) kq) ?_
        show Gwg T1051 m 231 []
        refine gw_st (fun _ kq => XS.aload X1051.here hx rfl (hb hby at_231) rfl rfl kq) ?_
        show Gwg T1051 m 233 [(.ref a253)]
        refine gw_st (fun _ kq => XS.iload X1051.here hx rfl (hb hby at_233) rfl kq) ?_
        show Gwg T1051 m 235 [(.int (1 : Int32)), (.ref a253)]
        have c1065 := A259.ext E977
        have c1066 := c1065.other W990 ne985
        have c1067 := c1066.other W991 ne985
        have c1068 := c1067.ext E992
        have c1069 := c1068.ext E1008
        have c1070 := GA.keep c1069 K1018 (ninS ne1011 nin0)
        have c1071 := GA.keep c1070 K1039 (ninS ne999 nin0)
        have c1072 := GA.keep c1071 K1047 (ninS ne999 nin0)
        have c1073 := GA.keep c1072 K1051 nin0
        refine gw_cald X1051 hx hZ rfl c1073 (hb hby at_235) rfl rfl (by decide) (.int ((XT.ushr x0 (8 : Int32)) &&& (255 : Int32))) rfl ?_
        show Gwg T1051 m 236 [(.int ((XT.ushr x0 (8 : Int32)) &&& (255 : Int32)))]
        refine gw_st (fun _ kq => XS.iload X1051.here hx rfl (hb hby at_236) rfl kq) ?_
        show Gwg T1051 m 238 [(.int x1.toUInt32.toUInt16.toUInt32.toInt32), (.int ((XT.ushr x0 (8 : Int32)) &&& (255 : Int32)))]
        refine gw_st (fun _ kq => XS.icmpNo X1051.here hx rfl (hb hby at_238) rfl (XT.ii_ne_f hc1050) kq) ?_
        show Gwg T1051 m 241 []
        refine gw_st (fun _ kq => XT.iconstV X1051.here hx rfl (1 : Int32) (hb hby at_241) (by decide) kq) ?_
        show Gwg T1051 m 242 [(.int (1 : Int32))]
        refine gw_st (fun _ kq => XS.goto X1051.here hx rfl (pc0 := 242) (pc' := 246) rfl (hb hby at_242) (by decide) (by decide) kq) ?_
        show Gwg T1051 m 246 [(.int (1 : Int32))]
        refine gw_st (fun _ kq => XS.istore X1051.here hx rfl (hb hby at_246) rfl (l' := #[.val (.int x0), .val (.int x1), .val (.int x2), .val (.int (x0 &&& (255 : Int32))), .val (.int ((XT.ushr x0 (8 : Int32)) &&& (255 : Int32))), .val (.int ((XT.ushr x0 (16 : Int32)) &&& (255 : Int32))), .val (.ref a253), .val (.int (2 : Int32)), .val (.int (1 : Int32)), .val (.int x1.toUInt32.toUInt16.toUInt32.toInt32), .val (.ref a977), .val (.ref a992), .val (.int (1 : Int32)), .val (.int (1 : Int32))]) rfl kq) ?_
        show Gwg T1051 m 248 []
        refine gw_st (fun _ kq => XS.iload X1051.here hx rfl (hb hby at_248) rfl kq) ?_
        show Gwg T1051 m 250 [(.int (1 : Int32))]
        refine gw_st (fun _ kq => XS.iload X1051.here hx rfl (hb hby at_250) rfl kq) ?_
        show Gwg T1051 m 252 [(.int (1 : Int32)), (.int (1 : Int32))]
        refine gw_st (fun _ kq => XS.icmpNo X1051.here hx rfl (hb hby at_252) rfl (XT.ii_ne_f (by decide)) kq) ?_
        show Gwg T1051 m 255 []
        refine gw_st (fun _ kq => XS.aload X1051.here hx rfl (hb hby at_255) rfl rfl kq) ?_
        show Gwg T1051 m 257 [(.ref a992)]
        have c1075 := Fld.keep f1047_1 K1051 nin0
        have z1076 : n0 ≤ T1051.heap.size := Nat.le_trans z1063 K1051.1
        have c1077 := Exa.keep c1064 K1051
        refine gw_callV X1051 hx hZ hml hown (wd hw 78 rfl) (wd hw 79 rfl) (notFace_of_selects (args := #[]) (mvT hZ (wd hw 81 rfl))) (wd hw 81 rfl) (wd hw 80 rfl) (wd hw 82 rfl) (wd hw 3 rfl) rfl c1077 (argsL := []) (rest := []) (W := 0) (met_16 l Z a0 hw a992 (1 : Int32) T1051.heap n0 z1076 c1075) (hb hby at_257) rfl rfl rfl (lenOf pd9 rfl) (by show 2 * 0 + _ ≤ _; exact Nat.le_of_eq rfl) (by decide) (by decide) (by decide) (by decide) (by decide) ?_
        intro T1074 v1074 L1074 X1074 q1074
        obtain ⟨rfl, M1074, e1074⟩ := q1074
        have N1074 := Fr.app N1051 M1074
        show Gwg T1074 m 260 [(.int (1 : Int32))]
        refine gw_st (fun _ kq => XS.iload X1074.here hx rfl (hb hby at_260) rfl kq) ?_
        show Gwg T1074 m 262 [(.int (1 : Int32)), (.int (1 : Int32))]
        refine gw_st (fun _ kq => XS.icmpNo X1074.here hx rfl (hb hby at_262) rfl (XT.ii_ne_f (by decide)) kq) ?_
        show Gwg T1074 m 265 []
        refine gw_st (fun _ kq => XT.iconstV X1074.here hx rfl (1 : Int32) (hb hby at_265) (by decide) kq) ?_
        show Gwg T1074 m 266 [(.int (1 : Int32))]
        refine gw_st (fun _ kq => XS.goto X1074.here hx rfl (pc0 := 266) (pc' := 270) rfl (hb hby at_266) (by decide) (by decide) kq) ?_
        show Gwg T1074 m 270 [(.int (1 : Int32))]
        exact gw_retB (w := (1 : Int32)) X1074 hx hlk hret (hb hby at_270) (by decide) (by decide) (by decide) ⟨rfl, N1074⟩
       ·show Gwg T1047 m 219 [(.int x1.toUInt32.toUInt16.toUInt32.toInt32), (.ref a992)]
        have c1079 := Exa.keep f1018_0 K1039
        have c1080 := Exa.keep c1079 K1047
        have c1081 := Fld.keep f1018_1 K1039 (ninS (Ne.symm ne1014) nin0)
        have c1082 := Fld.keep c1081 K1047 (ninS (Ne.symm ne1014) nin0)
        have c1083 := Fld.keep f1018_2 K1039 (ninS (Ne.symm ne1014) nin0)
        have c1084 := Fld.keep c1083 K1047 (ninS (Ne.symm ne1014) nin0)
        have c1085 := GA.keep f1018_3 K1039 (ninS (Ne.symm ne1036) nin0)
        have c1086 := GA.keep c1085 K1047 (ninS (Ne.symm ne1036) nin0)
        have c1087 := Old.keep c1029 K1018 (allS nw_a1008 all0)
        have c1088 := Old.keep c1087 K1039 (allS nw_a992 all0)
        have c1089 := Old.keep c1088 K1047 (allS nw_a992 all0)
        have z1090 : n0 ≤ T1047.heap.size := Nat.le_trans z1049 K1047.1
        have c1091 := Exa.keep c1048 K1047
        refine gw_callV X1047 hx hZ hml hown (wd hw 39 rfl) (wd hw 40 rfl) (notFace_of_selects (args := #[]) (mvT hZ (wd hw 42 rfl))) (wd hw 42 rfl) (wd hw 41 rfl) (wd hw 43 rfl) (wd hw 3 rfl) rfl c1091 (argsL := [(.int x1.toUInt32.toUInt16.toUInt32.toInt32)]) (rest := []) (W := 0) (met_pk21f l Z a0 hw a992 a1008 r_1018 (x0 &&& (255 : Int32)) ((XT.ushr x0 (8 : Int32)) &&& (255 : Int32)) x1.toUInt32.toUInt16.toUInt32.toInt32 zc vf rf T1047.heap n0 z1090 f1047_1 f1047_0 c1080 c1082 c1084 c1086 (own_lat _) (own_lat _) c1089 S0 zn S1 hc1050) (hb hby at_219) rfl rfl rfl (lenOf pd13 rfl) (by show 2 * 0 + _ ≤ _; exact Nat.le_of_eq rfl) (by decide) (by decide) (by decide) (by decide) (by decide) ?_
        intro T1078 v1078 L1078 X1078 q1078
        obtain ⟨rfl, M1078, K1078⟩ := q1078
        have N1078 := Fr.app N1047 M1078
        show Gwg T1078 m 222 [(.int (0 : Int32))]
        refine gw_st (fun _ kq => XS.istore X1078.here hx rfl (hb hby at_222) rfl (l' := #[.val (.int x0), .val (.int x1), .val (.int x2), .val (.int (x0 &&& (255 : Int32))), .val (.int ((XT.ushr x0 (8 : Int32)) &&& (255 : Int32))), .val (.int ((XT.ushr x0 (16 : Int32)) &&& (255 : Int32))), .val (.ref a253), .val (.int (2 : Int32)), .val (.int (1 : Int32)), .val (.int x1.toUInt32.toUInt16.toUInt32.toInt32), .val (.ref a977), .val (.ref a992), .val (.int (0 : Int32)), .unset]) rfl kq) ?_
        show Gwg T1078 m 224 []
        refine gw_st (fun _ kq => XS.iload X1078.here hx rfl (hb hby at_224) rfl kq) ?_
        show Gwg T1078 m 226 [(.int (1 : Int32))]
        refine gw_st (fun _ kq => XS.iload X1078.here hx rfl (hb hby at_226) rfl kq) ?_
        show Gwg T1078 m 228 [(.int (2 : Int32)), (.int (1 : Int32))]
        refine gw_st (fun _ kq => XS.icmpNo X1078.here hx rfl (hb hby at_228) rfl (XT.ii_ge_f (by decide)) kq) ?_
        show Gwg T1078 m 231 []
        refine gw_st (fun _ kq => XS.aload X1078.here hx rfl (hb hby at_231) rfl rfl kq) ?_
        show Gwg T1078 m 233 [(.ref a253)]
        refine gw_st (fun _ kq => XS.iload X1078.here hx rfl (hb hby at_233) rfl kq) ?_
        show Gwg T1078 m 235 [(.int (1 : Int32)), (.ref a253)]
        have c1092 := A259.ext E977
        have c1093 := c1092.other W990 ne985
        have c1094 := c1093.other W991 ne985
        have c1095 := c1094.ext E992
        have c1096 := c1095.ext E1008
        have c1097 := GA.keep c1096 K1018 (ninS ne1011 nin0)
        have c1098 := GA.keep c1097 K1039 (ninS ne999 nin0)
        have c1099 := GA.keep c1098 K1047 (ninS ne999 nin0)
        have c1100 := GA.keep c1099 K1078 nin0
        refine gw_cald X1078 hx hZ rfl c1100 (hb hby at_235) rfl rfl (by decide) (.int ((XT.ushr x0 (8 : Int32)) &&& (255 : Int32))) rfl ?_
        show Gwg T1078 m 236 [(.int ((XT.ushr x0 (8 : Int32)) &&& (255 : Int32)))]
        refine gw_st (fun _ kq => XS.iload X1078.here hx rfl (hb hby at_236) rfl kq) ?_
        show Gwg T1078 m 238 [(.int x1.toUInt32.toUInt16.toUInt32.toInt32), (.int ((XT.ushr x0 (8 : Int32)) &&& (255 : Int32)))]
        refine gw_st (fun _ kq => XS.icmpYes X1078.here hx rfl (pc0 := 238) (pc' := 245) rfl (hb hby at_238) rfl (XT.ii_ne_t hc1050) (by decide) (by decide) kq) ?_
        show Gwg T1078 m 245 []
        refine gw_st (fun _ kq => XT.iconstV X1078.here hx rfl (0 : Int32) (hb hby at_245) (by decide) kq) ?_
        show Gwg T1078 m 246 [(.int (0 : Int32))]
        refine gw_st (fun _ kq => XS.istore X1078.here hx rfl (hb hby at_246) rfl (l' := #[.val (.int x0), .val (.int x1), .val (.int x2), .val (.int (x0 &&& (255 : Int32))), .val (.int ((XT.ushr x0 (8 : Int32)) &&& (255 : Int32))), .val (.int ((XT.ushr x0 (16 : Int32)) &&& (255 : Int32))), .val (.ref a253), .val (.int (2 : Int32)), .val (.int (1 : Int32)), .val (.int x1.toUInt32.toUInt16.toUInt32.toInt32), .val (.ref a977), .val (.ref a992), .val (.int (0 : Int32)), .val (.int (0 : Int32))]) rfl kq) ?_
        show Gwg T1078 m 248 []
        refine gw_st (fun _ kq => XS.iload X1078.here hx rfl (hb hby at_248) rfl kq) ?_
        show Gwg T1078 m 250 [(.int (0 : Int32))]
        refine gw_st (fun _ kq => XS.iload X1078.here hx rfl (hb hby at_250) rfl kq) ?_
        show Gwg T1078 m 252 [(.int (0 : Int32)), (.int (0 : Int32))]
        refine gw_st (fun _ kq => XS.icmpNo X1078.here hx rfl (hb hby at_252) rfl (XT.ii_ne_f (by decide)) kq) ?_
        show Gwg T1078 m 255 []
        refine gw_st (fun _ kq => XS.aload X1078.here hx rfl (hb hby at_255) rfl rfl kq) ?_
        show Gwg T1078 m 257 [(.ref a992)]
        have c1102 := Fld.keep f1047_1 K1078 nin0
        have z1103 : n0 ≤ T1078.heap.size := Nat.le_trans z1090 K1078.1
        have c1104 := Exa.keep c1091 K1078
        refine gw_callV X1078 hx hZ hml hown (wd hw 78 rfl) (wd hw 79 rfl) (notFace_of_selects (args := #[]) (mvT hZ (wd hw 81 rfl))) (wd hw 81 rfl) (wd hw 80 rfl) (wd hw 82 rfl) (wd hw 3 rfl) rfl c1104 (argsL := []) (rest := []) (W := 0) (met_16 l Z a0 hw a992 (1 : Int32) T1078.heap n0 z1103 c1102) (hb hby at_257) rfl rfl rfl (lenOf pd9 rfl) (by show 2 * 0 + _ ≤ _; exact Nat.le_of_eq rfl) (by decide) (by decide) (by decide) (by decide) (by decide) ?_
        intro T1101 v1101 L1101 X1101 q1101
        obtain ⟨rfl, M1101, e1101⟩ := q1101
        have N1101 := Fr.app N1078 M1101
        show Gwg T1101 m 260 [(.int (1 : Int32))]
        refine gw_st (fun _ kq => XS.iload X1101.here hx rfl (hb hby at_260) rfl kq) ?_
        show Gwg T1101 m 262 [(.int (1 : Int32)), (.int (1 : Int32))]
        refine gw_st (fun _ kq => XS.icmpNo X1101.here hx rfl (hb hby at_262) rfl (XT.ii_ne_f (by decide)) kq) ?_
        show Gwg T1101 m 265 []
        refine gw_st (fun _ kq => XT.iconstV X1101.here hx rfl (1 : Int32) (hb hby at_265) (by decide) kq) ?_
        show Gwg T1101 m 266 [(.int (1 : Int32))]
        refine gw_st (fun _ kq => XS.goto X1101.here hx rfl (pc0 := 266) (pc' := 270) rfl (hb hby at_266) (by decide) (by decide) kq) ?_
        show Gwg T1101 m 270 [(.int (1 : Int32))]
        exact gw_retB (w := (1 : Int32)) X1101 hx hlk hret (hb hby at_270) (by decide) (by decide) (by decide) ⟨rfl, N1101⟩
      ·refine gw_st (fun _ kq => XS.ifNo X259.here hx rfl (hb hby at_70) rfl (XT.i0_eq_f hc976) kq) ?_
       show Gwg T259 m 73 []
       refine gw_st (fun _ kq => XS.aload X259.here hx rfl (hb hby at_73) rfl rfl kq) ?_
       show Gwg T259 m 75 [(.ref a253)]
       refine gw_st (fun _ kq => XS.iload X259.here hx rfl (hb hby at_75) rfl kq) ?_
       show Gwg T259 m 77 [(.int (1 : Int32)), (.ref a253)]
       refine gw_st (fun _ kq => XT.iconstV X259.here hx rfl (2 : Int32) (hb hby at_77) (by decide) kq) ?_
       show Gwg T259 m 78 [(.int (2 : Int32)), (.int (1 : Int32)), (.ref a253)]
       refine gw_callS X259 hx hZ hml hown (wd hw 88 rfl) (wd hw 89 rfl) (wd hw 90 rfl) (wd hw 91 rfl) e259 (argsL := [(.int (1 : Int32)), (.int (2 : Int32))]) (rest := [(.ref a253)]) (W := 1) (met_18 l Z a0 hw (1 : Int32) (2 : Int32) h259 n0) (hb hby at_78) rfl rfl rfl (lenOf pd14 rfl) (by show 2 * 0 + _ ≤ _; exact Nat.le_of_eq rfl) (by decide) (by decide) (by decide) (by decide) (by decide) ?_
       intro T1105 v1105 L1105 X1105 q1105
       obtain ⟨rfl, M1105, e1105⟩ := q1105
       have N1105 := Fr.app N259 M1105
       rw [show (fMin (1 : Int32) (2 : Int32)) = (1 : Int32) from by decide +kernel]
       show Gwg T1105 m 81 [(.int (1 : Int32)), (.ref a253)]
       refine gw_cald X1105 hx hZ e1105 A259 (hb hby at_81) rfl rfl (by decide) (.int ((XT.ushr x0 (8 : Int32)) &&& (255 : Int32))) rfl ?_
       show Gwg T1105 m 82 [(.int ((XT.ushr x0 (8 : Int32)) &&& (255 : Int32)))]
       refine gw_st (fun _ kq => XS.istore X1105.here hx rfl (hb hby at_82) rfl (l' := #[.val (.int x0), .val (.int x1), .val (.int x2), .val (.int (x0 &&& (255 : Int32))), .val (.int ((XT.ushr x0 (8 : Int32)) &&& (255 : Int32))), .val (.int ((XT.ushr x0 (16 : Int32)) &&& (255 : Int32))), .val (.ref a253), .val (.int (2 : Int32)), .val (.int (1 : Int32)), .val (.int ((XT.ushr x0 (8 : Int32)) &&& (255 : Int32))), .unset, .unset, .unset, .unset]) rfl kq) ?_
       show Gwg T1105 m 84 []
       refine gw_st (fun _ kq => XS.goto X1105.here hx rfl (pc0 := 84) (pc' := 91) rfl (hb hby at_84) (by decide) (by decide) kq) ?_
       show Gwg T1105 m 91 []
       refine gw_st (fun _ kq => XS.iload X1105.here hx rfl (hb hby at_91) rfl kq) ?_
       show Gwg T1105 m 93 [(.int (2 : Int32))]
       refine gw_st (fun _ kq => XS.ifYes X1105.here hx rfl (pc0 := 93) (pc' := 104) rfl (hb hby at_93) rfl (XT.i0_ne_t (by decide)) (by decide) (by decide) kq) ?_
       show Gwg T1105 m 104 []
       refine gw_st (fun _ kq => XS.iload X1105.here hx rfl (hb hby at_104) rfl kq) ?_
       show Gwg T1105 m 106 [(.int (2 : Int32))]
       refine gw_st (fun _ kq => XT.iconstV X1105.here hx rfl (1 : Int32) (hb hby at_106) (by decide) kq) ?_
       show Gwg T1105 m 107 [(.int (1 : Int32)), (.int (2 : Int32))]
       refine gw_st (fun _ kq => XS.icmpYes X1105.here hx rfl (pc0 := 107) (pc' := 122) rfl (hb hby at_107) rfl (XT.ii_ne_t (by decide)) (by decide) (by decide) kq) ?_
       show Gwg T1105 m 122 []
       refine gw_st (fun _ kq => XS.iload X1105.here hx rfl (hb hby at_122) rfl kq) ?_
       show Gwg T1105 m 124 [(.int (2 : Int32))]
       refine gw_st (fun _ kq => XT.iconstV X1105.here hx rfl (2 : Int32) (hb hby at_124) (by decide) kq) ?_
       show Gwg T1105 m 125 [(.int (2 : Int32)), (.int (2 : Int32))]
       refine gw_st (fun _ kq => XS.icmpNo X1105.here hx rfl (hb hby at_125) rfl (XT.ii_ne_f (by decide)) kq) ?_
       show Gwg T1105 m 128 []
       refine gw_st (fun _ kq => XT.iconstV X1105.here hx rfl (2 : Int32) (hb hby at_128) (by decide) kq) ?_
       show Gwg T1105 m 129 [(.int (2 : Int32))]
       refine gw_newP X1105 hx hZ (wd hw 0 rfl) e1105 (hb hby at_129) rfl rfl 2 (by decide) 2 (Nat.le_refl _) (by decide) (by decide) (by decide) ?_
       intro T1106 h1106 a1106 g1106 X1106 e1106 E1106 G1106
       have c1111 : a253 < h255.size := (Wr.size W255).symm ▸ lt_a253
       have c1112 : a253 < h257.size := (Wr.size W257).symm ▸ c1111
       have c1113 : a253 < h259.size := (Wr.size W259).symm ▸ c1112
       have ne1114 : a253 ≠ a1106 := fun q => Nat.lt_irrefl _ (Nat.lt_of_lt_of_le c1113 (Nat.le_of_eq (g1106.symm.trans q.symm)))
       have z1115 : n0 ≤ h253.size := Nat.le_trans Z0 E253.1
       have z1116 : n0 ≤ h255.size := (Wr.size W255).symm ▸ z1115
       have z1117 : n0 ≤ h257.size := (Wr.size W257).symm ▸ z1116
       have z1118 : n0 ≤ h259.size := (Wr.size W259).symm ▸ z1117
       have nw_a1106 : n0 ≤ a1106 := Nat.le_trans z1118 (Nat.le_of_eq g1106.symm)
       have lt_a1106 : a1106 < h1106.size := G1106.lt
       have A1106 : GA Z h1106 a1106 .char 2 (fun i => .int (own_c3 (0 : Int32) (0 : Int32) (0 : Int32) i)) := (GA.congr G1106 (fun i _ => own_z3 i))
       show Gwg T1106 m 131 [(.ref a1106)]
       refine gw_st (fun _ kq => XS.dup X1106.here hx rfl (hb hby at_131) rfl rfl kq) ?_
       show Gwg T1106 m 132 [(.ref a1106), (.ref a1106)]
       refine gw_st (fun _ kq => XT.iconstV X1106.here hx rfl (0 : Int32) (hb hby at_132) (by decide) kq) ?_
       show Gwg T1106 m 133 [(.int (0 : Int32)), (.ref a1106), (.ref a1106)]
       refine gw_st (fun _ kq => XS.iloadN X1106.here hx rfl (hb hby at_133) rfl kq) ?_
       show Gwg T1106 m 134 [(.int (x0 &&& (255 : Int32))), (.int (0 : Int32)), (.ref a1106), (.ref a1106)]
       refine gw_cast X1106 hx hZ e1106 A1106 (hb hby at_134) rfl rfl (by decide) ?_
       intro T1119 h1119 X1119 e1119 W1119 G1119
       have N1119 := Fr.snoc X1119 N1105 nw_a1106
       have A1119 : GA Z h1119 a1106 .char 2 (fun i => .int (own_c3 (x0 &&& (255 : Int32)) (0 : Int32) (0 : Int32) i)) := (own_stc (own_nc (own_lat _)) (by decide) (own_c30 (x0 &&& (255 : Int32)) (0 : Int32) (0 : Int32) (0 : Int32)) G1119)
       show Gwg T1119 m 135 [(.ref a1106)]
       refine gw_st (fun _ kq => XS.dup X1119.here hx rfl (hb hby at_135) rfl rfl kq) ?_
       show Gwg T1119 m 136 [(.ref a1106), (.ref a1106)]
       refine gw_st (fun _ kq => XT.iconstV X1119.here hx rfl (1 : Int32) (hb hby at_136) (by decide) kq) ?_
       show Gwg T1119 m 137 [(.int (1 : Int32)), (.ref a1106), (.ref a1106)]
       refine gw_st (fun _ kq => XS.iload X1119.here hx rfl (hb hby at_137) rfl kq) ?_
       show Gwg T1119 m 139 [(.int ((XT.ushr x0 (8 : Int32)) &&& (255 : Int32))), (.int (1 : Int32)), (.ref a1106), (.ref a1106)]
       refine gw_cast X1119 hx hZ e1119 A1119 (hb hby at_139) rfl rfl (by decide) ?_
       intro T1120 h1120 X1120 e1120 W1120 G1120
       have N1120 := Fr.snoc X1120 N1119 nw_a1106
       have A1120 : GA Z h1120 a1106 .char 2 (fun i => .int (own_c3 (x0 &&& (255 : Int32)) ((XT.ushr x0 (8 : Int32)) &&& (255 : Int32)) (0 : Int32) i)) := (own_stc (own_nc (own_lat _)) (by decide) (own_c31 ((XT.ushr x0 (8 : Int32)) &&& (255 : Int32)) (x0 &&& (255 : Int32)) (0 : Int32) (0 : Int32)) G1120)
       show Gwg T1120 m 140 [(.ref a1106)]
       refine gw_st (fun _ kq => XS.astore X1120.here hx rfl (hb hby at_140) rfl rfl (l' := #[.val (.int x0), .val (.int x1), .val (.int x2), .val (.int (x0 &&& (255 : Int32))), .val (.int ((XT.ushr x0 (8 : Int32)) &&& (255 : Int32))), .val (.int ((XT.ushr x0 (16 : Int32)) &&& (255 : Int32))), .val (.ref a253), .val (.int (2 : Int32)), .val (.int (1 : Int32)), .val (.int ((XT.ushr x0 (8 : Int32)) &&& (255 : Int32))), .val (.ref a1106), .unset, .unset, .unset]) rfl kq) ?_
       show Gwg T1120 m 142 []
       refine gw_st (fun _ kq => XS.goto X1120.here hx rfl (pc0 := 142) (pc' := 164) rfl (hb hby at_142) (by decide) (by decide) kq) ?_
       show Gwg T1120 m 164 []
       refine gw_newO X1120 hx hZ hown (wd hw 1 rfl) (wd hw 2 rfl) (wd hw 3 rfl) e1120 (hb hby at_164) rfl (by decide) (by decide) ?_
       intro T1121 h1121 a1121 g1121 X1121 e1121 E1121 A1121 D1121
       have c1125 : a253 < h1106.size := Nat.lt_of_lt_of_le c1113 E1106.1
       have c1126 : a253 < h1119.size := (Wr.size W1119).symm ▸ c1125
       have c1127 : a253 < h1120.size := (Wr.size W1120).symm ▸ c1126
       have ne1128 : a253 ≠ a1121 := fun q => Nat.lt_irrefl _ (Nat.lt_of_lt_of_le c1127 (Nat.le_of_eq (g1121.symm.trans q.symm)))
       have c1129 : a1106 < h1119.size := (Wr.size W1119).symm ▸ lt_a1106
       have c1130 : a1106 < h1120.size := (Wr.size W1120).symm ▸ c1129
       have z1132 : n0 ≤ h1106.size := Nat.le_trans z1118 E1106.1
       have z1133 : n0 ≤ h1119.size := (Wr.size W1119).symm ▸ z1132
       have z1134 : n0 ≤ h1120.size := (Wr.size W1120).symm ▸ z1133
       have nw_a1121 : n0 ≤ a1121 := Nat.le_trans z1134 (Nat.le_of_eq g1121.symm)
       have lt_a1121 : a1121 < h1121.size := A1121.lt
       have F1135 : Fld Z h1121 a1121 "com/example/wirecall/wirecall/TextCursor" "text" "Ljava/lang/String;" .null := D1121 (Or.inr (wd hw 38 rfl)) (ty := (.object "java/lang/String")) (by decide)
       have F1136 : Fld Z h1121 a1121 "com/example/wirecall/wirecall/TextCursor" "pos" "I" (.int (0 : Int32)) := D1121 (Or.inl (wd hw 45 rfl)) (ty := .int) (by decide)
       show Gwg T1121 m 167 [(.ref a1121)]
       refine gw_st (fun _ kq => XS.dup X1121.here hx rfl (hb hby at_167) rfl rfl kq) ?_
       show Gwg T1121 m 168 [(.ref a1121), (.ref a1121)]
       refine gw_newO X1121 hx hZ hown (wd hw 4 rfl) (wd hw 5 rfl) (wd hw 6 rfl) e1121 (hb hby at_168) rfl (by decide) (by decide) ?_
       intro T1137 h1137 a1137 g1137 X1137 e1137 E1137 A1137 D1137
       have c1139 : a253 < h1121.size := Nat.lt_of_lt_of_le c1127 E1121.1
       have ne1140 : a253 ≠ a1137 := fun q => Nat.lt_irrefl _ (Nat.lt_of_lt_of_le c1139 (Nat.le_of_eq (g1137.symm.trans q.symm)))
       have c1141 : a1106 < h1121.size := Nat.lt_of_lt_of_le c1130 E1121.1
       have ne1142 : a1106 ≠ a1137 := fun q => Nat.lt_irrefl _ (Nat.lt_of_lt_of_le c1141 (Nat.le_of_eq (g1137.symm.trans q.symm)))
       have ne1143 : a1121 ≠ a1137 := fun q => Nat.lt_irrefl _ (Nat.lt_of_lt_of_le lt_a1121 (Nat.le_of_eq (g1137.symm.trans q.symm)))
       have z1144 : n0 ≤ h1121.size := Nat.le_trans z1134 E1121.1
       have nw_a1137 : n0 ≤ a1137 := Nat.le_trans z1144 (Nat.le_of_eq g1137.symm)
       have F1145 : Fld Z h1137 a1137 "java/lang/String" "coder" "B" (.int (0 : Int32)) := D1137 (Or.inr (wd hw 30 rfl)) (ty := .byte) (by decide)
       have F1146 : Fld Z h1137 a1137 "java/lang/String" "value" "[B" .null := D1137 (Or.inr (wd hw 32 rfl)) (ty := (.array .byte)) (by decide)
       show Gwg T1137 m 171 [(.ref a1137), (.ref a1121), (.ref a1121)]
       refine gw_st (fun _ kq => XS.dup X1137.here hx rfl (hb hby at_171) rfl rfl kq) ?_
       show Gwg T1137 m 172 [(.ref a1137), (.ref a1137), (.ref a1121), (.ref a1121)]
       refine gw_st (fun _ kq => XS.aload X1137.here hx rfl (hb hby at_172) rfl rfl kq) ?_
       show Gwg T1137 m 174 [(.ref a1106), (.ref a1137), (.ref a1137), (.ref a1121), (.ref a1121)]
       have c1148 := A1120.ext E1121
       have c1149 := c1148.ext E1137
       have c1150 := Old.ext O0 E253
       have c1151 := Old.wr c1150 W255 nw_a253
       have c1152 := Old.wr c1151 W257 nw_a253
       have c1153 := Old.wr c1152 W259 nw_a253
       have c1154 := Old.ext c1153 E1106
       have c1155 := Old.wr c1154 W1119 nw_a1106
       have c1156 := Old.wr c1155 W1120 nw_a1106
       have c1157 := Old.ext c1156 E1121
       have c1158 := Old.ext c1157 E1137
       have z1159 : n0 ≤ h1137.size := Nat.le_trans z1144 E1137.1
       refine gw_callI X1137 hx hZ hml hown rfl (wd hw 7 rfl) (wd hw 8 rfl) (wd hw 9 rfl) (wd hw 6 rfl) e1137 (argsL := [(.ref a1106)]) (rest := [(.ref a1137), (.ref a1121), (.ref a1121)]) (W := 3) (met_s2 l Z a0 hw a1137 a1106 (x0 &&& (255 : Int32)) ((XT.ushr x0 (8 : Int32)) &&& (255 : Int32)) zc h1137 n0 z1159 A1137 F1146 F1145 nw_a1137 c1149 (Ne.symm ne1142) (own_lat _) (own_lat _) c1158 S0 zn) (hb hby at_174) rfl rfl rfl (lenOf pd11 rfl) (by show 2 * 0 + _ ≤ _; exact Nat.le_of_eq rfl) (by decide) (by decide) (by decide) (by decide) (by decide) ?_
       intro T1147 v1147 L1147 X1147 q1147
       obtain ⟨r_1147, rfl, M1147, K1147, fz1147_r, f1147_0, f1147_1, f1147_2, f1147_3⟩ := q1147
       have N1147 := Fr.app N1120 M1147
       have c1164 : a1121 < h1137.size := Nat.lt_of_lt_of_le lt_a1121 E1137.1
       have ne1165 : a1121 ≠ r_1147 := Nat.ne_of_lt (Nat.lt_of_lt_of_le c1164 fz1147_r)
       show Gwg T1147 m 177 [(.ref a1137), (.ref a1121), (.ref a1121)]
       have c1169 := Exa.ext E1137 A1121
       have c1170 := Exa.keep c1169 K1147
       have c1171 := Fld.ext E1137 F1135
       have c1172 := Fld.keep c1171 K1147 (ninS ne1143 nin0)
       have c1173 := Fld.ext E1137 F1136
       have c1174 := Fld.keep c1173 K1147 (ninS ne1143 nin0)
       have z1175 : n0 ≤ T1147.heap.size := Nat.le_trans z1159 K1147.1
       refine gw_callI X1147 hx hZ hml hown rfl (wd hw 33 rfl) (wd hw 34 rfl) (wd hw 35 rfl) (wd hw 3 rfl) rfl (argsL := [(.ref a1137)]) (rest := [(.ref a1121)]) (W := 1) (met_tci l Z a0 hw a1121 a1137 T1147.heap n0 z1175 c1170 c1172 c1174 nw_a1121) (hb hby at_177) rfl rfl rfl (lenOf pd12 rfl) (by show 2 * 0 + _ ≤ _; exact Nat.le_of_eq rfl) (by decide) (by decide) (by decide) (by decide) (by decide) ?_
       intro T1168 v1168 L1168 X1168 q1168
       obtain ⟨rfl, M1168, K1168, f1168_0, f1168_1⟩ := q1168
       have N1168 := Fr.app N1147 M1168
       show Gwg T1168 m 180 [(.ref a1121)]
       refine gw_st (fun _ kq => XS.astore X1168.here hx rfl (hb hby at_180) rfl rfl (l' := #[.val (.int x0), .val (.int x1), .val (.int x2), .val (.int (x0 &&& (255 : Int32))), .val (.int ((XT.ushr x0 (8 : Int32)) &&& (255 : Int32))), .val (.int ((XT.ushr x0 (16 : Int32)) &&& (255 : Int32))), .val (.ref a253), .val (.int (2 : Int32)), .val (.int (1 : Int32)), .val (.int ((XT.ushr x0 (8 : Int32)) &&& (255 : Int32))), .val (.ref a1106), .val (.ref a1121), .unset, .unset]) rfl kq) ?_
       show Gwg T1168 m 182 []
       refine gw_st (fun _ kq => XS.iload X1168.here hx rfl (hb hby at_182) rfl kq) ?_
       show Gwg T1168 m 184 [(.int (1 : Int32))]
       refine gw_st (fun _ kq => XT.iconstV X1168.here hx rfl (1 : Int32) (hb hby at_184) (by decide) kq) ?_
       show Gwg T1168 m 185 [(.int (1 : Int32)), (.int (1 : Int32))]
       refine gw_st (fun _ kq => XS.icmpNo X1168.here hx rfl (hb hby at_185) rfl (XT.ii_lt_f (by decide)) kq) ?_
       show Gwg T1168 m 188 []
       refine gw_st (fun _ kq => XS.aload X1168.here hx rfl (hb hby at_188) rfl rfl kq) ?_
       show Gwg T1168 m 190 [(.ref a1121)]
       have c1177 := Exa.keep c1170 K1168
       have z1178 : n0 ≤ T1168.heap.size := Nat.le_trans z1175 K1168.1
       refine gw_callV X1168 hx hZ hml hown (wd hw 83 rfl) (wd hw 84 rfl) (notFace_of_selects (args := #[]) (mvT hZ (wd hw 86 rfl))) (wd hw 86 rfl) (wd hw 85 rfl) (wd hw 87 rfl) (wd hw 3 rfl) rfl c1177 (argsL := []) (rest := []) (W := 0) (met_sk0 l Z a0 hw a1121 a1137 T1168.heap n0 z1178 c1177 f1168_0 f1168_1 nw_a1121) (hb hby at_190) rfl rfl rfl (lenOf pd15 rfl) (by show 2 * 0 + _ ≤ _; exact Nat.le_of_eq rfl) (by decide) (by decide) (by decide) (by decide) (by decide) ?_
       intro T1176 v1176 L1176 X1176 q1176
       obtain ⟨rfl, M1176, K1176, f1176_0, f1176_1⟩ := q1176
       have N1176 := Fr.app N1168 M1176
       show Gwg T1176 m 193 []
       refine gw_st (fun _ kq => XS.iload X1176.here hx rfl (hb hby at_193) rfl kq) ?_
       show Gwg T1176 m 195 [(.int (1 : Int32))]
       refine gw_st (fun _ kq => XT.iconstV X1176.here hx rfl (2 : Int32) (hb hby at_195) (by decide) kq) ?_
       show Gwg T1176 m 196 [(.int (2 : Int32)), (.int (1 : Int32))]
       refine gw_st (fun _ kq => XS.icmpYes X1176.here hx rfl (pc0 := 196) (pc' := 204) rfl (hb hby at_196) rfl (XT.ii_lt_t (by decide)) (by decide) (by decide) kq) ?_
       show Gwg T1176 m 204 []
       refine gw_st (fun _ kq => XS.iload X1176.here hx rfl (hb hby at_204) rfl kq) ?_
       show Gwg T1176 m 206 [(.int (1 : Int32))]
       refine gw_st (fun _ kq => XT.iconstV X1176.here hx rfl (3 : Int32) (hb hby at_206) (by decide) kq) ?_
       show Gwg T1176 m 207 [(.int (3 : Int32)), (.int (1 : Int32))]
       refine gw_st (fun _ kq => XS.icmpYes X1176.here hx rfl (pc0 := 207) (pc' := 215) rfl (hb hby at_207) rfl (XT.ii_lt_t (by decide)) (by decide) (by decide) kq) ?_
       show Gwg T1176 m 215 []
       refine gw_st (fun _ kq => XS.aload X1176.here hx rfl (hb hby at_215) rfl rfl kq) ?_
       show Gwg T1176 m 217 [(.ref a1121)]
       refine gw_st (fun _ kq => XS.iload X1176.here hx rfl (hb hby at_217) rfl kq) ?_
       show Gwg T1176 m 219 [(.int ((XT.ushr x0 (8 : Int32)) &&& (255 : Int32))), (.ref a1121)]
       have c1180 := Exa.keep f1147_0 K1168
       have c1181 := Exa.keep c1180 K1176
       have c1182 := Fld.keep f1147_1 K1168 (ninS (Ne.symm ne1143) nin0)
       have c1183 := Fld.keep c1182 K1176 (ninS (Ne.symm ne1143) nin0)
       have c1184 := Fld.keep f1147_2 K1168 (ninS (Ne.symm ne1143) nin0)
       have c1185 := Fld.keep c1184 K1176 (ninS (Ne.symm ne1143) nin0)
       have c1186 := GA.keep f1147_3 K1168 (ninS (Ne.symm ne1165) nin0)
       have c1187 := GA.keep c1186 K1176 (ninS (Ne.symm ne1165) nin0)
       have c1188 := Old.keep c1158 K1147 (allS nw_a1137 all0)
       have c1189 := Old.keep c1188 K1168 (allS nw_a1121 all0)
       have c1190 := Old.keep c1189 K1176 (allS nw_a1121 all0)
       have z1191 : n0 ≤ T1176.heap.size := Nat.le_trans z1178 K1176.1
       have c1192 := Exa.keep c1177 K1176
       refine gw_callV X1176 hx hZ hml hown (wd hw 39 rfl) (wd hw 40 rfl) (notFace_of_selects (args := #[]) (mvT hZ (wd hw 42 rfl))) (wd hw 42 rfl) (wd hw 41 rfl) (wd hw 43 rfl) (wd hw 3 rfl) rfl c1192 (argsL := [(.int ((XT.ushr x0 (8 : Int32)) &&& (255 : Int32)))]) (rest := []) (W := 0) (met_pk21t l Z a0 hw a1121 a1137 r_1147 (x0 &&& (255 : Int32)) ((XT.ushr x0 (8 : Int32)) &&& (255 : Int32)) ((XT.ushr x0 (8 : Int32)) &&& (255 : Int32)) zc vf rf T1176.heap n0 z1191 f1176_1 f1176_0 c1181 c1183 c1185 c1187 (own_lat _) (own_lat _) c1190 S0 zn S1 rfl) (hb hby at_219) rfl rfl rfl (lenOf pd13 rfl) (by show 2 * 0 + _ ≤ _; exact Nat.le_of_eq rfl) (by decide) (by decide) (by decide) (by decide) (by decide) ?_
       intro T1179 v1179 L1179 X1179 q1179
       obtain ⟨rfl, M1179, K1179⟩ := q1179
       have N1179 := Fr.app N1176 M1179
       show Gwg T1179 m 222 [(.int (1 : Int32))]
       refine gw_st (fun _ kq => XS.istore X1179.here hx rfl (hb hby at_222) rfl (l' := #[.val (.int x0), .val (.int x1), .val (.int x2), .val (.int (x0 &&& (255 : Int32))), .val (.int ((XT.ushr x0 (8 : Int32)) &&& (255 : Int32))), .val (.int ((XT.ushr x0 (16 : Int32)) &&& (255 : Int32))), .val (.ref a253), .val (.int (2 : Int32)), .val (.int (1 : Int32)), .val (.int ((XT.ushr x0 (8 : Int32)) &&& (255 : Int32))), .val (.ref a1106), .val (.ref a1121), .val (.int (1 : Int32)), .unset]) rfl kq) ?_
       show Gwg T1179 m 224 []
       refine gw_st (fun _ kq => XS.iload X1179.here hx rfl (hb hby at_224) rfl kq) ?_
       show Gwg T1179 m 226 [(.int (1 : Int32))]
       refine gw_st (fun _ kq => XS.iload X1179.here hx rfl (hb hby at_226) rfl kq) ?_
       show Gwg T1179 m 228 [(.int (2 : Int32)), (.int (1 : Int32))]
       refine gw_st (fun _ kq => XS.icmpNo X1179.here hx rfl (hb hby at_228) rfl (XT.ii_ge_f (by decide)) kq) ?_
       show Gwg T1179 m 231 []
       refine gw_st (fun _ kq => XS.aload X1179.here hx rfl (hb hby at_231) rfl rfl kq) ?_
       show Gwg T1179 m 233 [(.ref a253)]
       refine gw_st (fun _ kq => XS.iload X1179.here hx rfl (hb hby at_233) rfl kq) ?_
       show Gwg T1179 m 235 [(.int (1 : Int32)), (.ref a253)]
       have c1193 := A259.ext E1106
       have c1194 := c1193.other W1119 ne1114
       have c1195 := c1194.other W1120 ne1114
       have c1196 := c1195.ext E1121
       have c1197 := c1196.ext E1137
       have c1198 := GA.keep c1197 K1147 (ninS ne1140 nin0)
       have c1199 := GA.keep c1198 K1168 (ninS ne1128 nin0)
       have c1200 := GA.keep c1199 K1176 (ninS ne1128 nin0)
       have c1201 := GA.keep c1200 K1179 nin0
       refine gw_cald X1179 hx hZ rfl c1201 (hb hby at_235) rfl rfl (by decide) (.int ((XT.ushr x0 (8 : Int32)) &&& (255 : Int32))) rfl ?_
       show Gwg T1179 m 236 [(.int ((XT.ushr x0 (8 : Int32)) &&& (255 : Int32)))]
       refine gw_st (fun _ kq => XS.iload X1179.here hx rfl (hb hby at_236) rfl kq) ?_
       show Gwg T1179 m 238 [(.int ((XT.ushr x0 (8 : Int32)) &&& (255 : Int32))), (.int ((XT.ushr x0 (8 : Int32)) &&& (255 : Int32)))]
       refine gw_st (fun _ kq => XS.icmpNo X1179.here hx rfl (hb hby at_238) rfl (XT.ii_ne_f rfl) kq) ?_
       show Gwg T1179 m 241 []
       refine gw_st (fun _ kq => XT.iconstV X1179.here hx rfl (1 : Int32) (hb hby at_241) (by decide) kq) ?_
       show Gwg T1179 m 242 [(.int (1 : Int32))]
       refine gw_st (fun _ kq => XS.goto X1179.here hx rfl (pc0 := 242) (pc' := 246) rfl (hb hby at_242) (by decide) (by decide) kq) ?_
       show Gwg T1179 m 246 [(.int (1 : Int32))]
       refine gw_st (fun _ kq => XS.istore X1179.here hx rfl (hb hby at_246) rfl (l' := #[.val (.int x0), .val (.int x1), .val (.int x2), .val (.int (x0 &&& (255 : Int32))), .val (.int ((XT.ushr x0 (8 : Int32)) &&& (255 : Int32))), .val (.int ((XT.ushr x0 (16 : Int32)) &&& (255 : Int32))), .val (.ref a253), .val (.int (2 : Int32)), .val (.int (1 : Int32)), .val (.int ((XT.ushr x0 (8 : Int32)) &&& (255 : Int32))), .val (.ref a1106), .val (.ref a1121), .val (.int (1 : Int32)), .val (.int (1 : Int32))]) rfl kq) ?_
       show Gwg T1179 m 248 []
       refine gw_st (fun _ kq => XS.iload X1179.here hx rfl (hb hby at_248) rfl kq) ?_
       show Gwg T1179 m 250 [(.int (1 : Int32))]
       refine gw_st (fun _ kq => XS.iload X1179.here hx rfl (hb hby at_250) rfl kq) ?_
       show Gwg T1179 m 252 [(.int (1 : Int32)), (.int (1 : Int32))]
       refine gw_st (fun _ kq => XS.icmpNo X1179.here hx rfl (hb hby at_252) rfl (XT.ii_ne_f (by decide)) kq) ?_
       show Gwg T1179 m 255 []
       refine gw_st (fun _ kq => XS.aload X1179.here hx rfl (hb hby at_255) rfl rfl kq) ?_
       show Gwg T1179 m 257 [(.ref a1121)]
       have c1203 := Fld.keep f1176_1 K1179 nin0
       have z1204 : n0 ≤ T1179.heap.size := Nat.le_trans z1191 K1179.1
       have c1205 := Exa.keep c1192 K1179
       refine gw_callV X1179 hx hZ hml hown (wd hw 78 rfl) (wd hw 79 rfl) (notFace_of_selects (args := #[]) (mvT hZ (wd hw 81 rfl))) (wd hw 81 rfl) (wd hw 80 rfl) (wd hw 82 rfl) (wd hw 3 rfl) rfl c1205 (argsL := []) (rest := []) (W := 0) (met_16 l Z a0 hw a1121 (1 : Int32) T1179.heap n0 z1204 c1203) (hb hby at_257) rfl rfl rfl (lenOf pd9 rfl) (by show 2 * 0 + _ ≤ _; exact Nat.le_of_eq rfl) (by decide) (by decide) (by decide) (by decide) (by decide) ?_
       intro T1202 v1202 L1202 X1202 q1202
       obtain ⟨rfl, M1202, e1202⟩ := q1202
       have N1202 := Fr.app N1179 M1202
       show Gwg T1202 m 260 [(.int (1 : Int32))]
       refine gw_st (fun _ kq => XS.iload X1202.here hx rfl (hb hby at_260) rfl kq) ?_
       show Gwg T1202 m 262 [(.int (1 : Int32)), (.int (1 : Int32))]
       refine gw_st (fun _ kq => XS.icmpNo X1202.here hx rfl (hb hby at_262) rfl (XT.ii_ne_f (by decide)) kq) ?_
       show Gwg T1202 m 265 []
       refine gw_st (fun _ kq => XT.iconstV X1202.here hx rfl (1 : Int32) (hb hby at_265) (by decide) kq) ?_
       show Gwg T1202 m 266 [(.int (1 : Int32))]
       refine gw_st (fun _ kq => XS.goto X1202.here hx rfl (pc0 := 266) (pc' := 270) rfl (hb hby at_266) (by decide) (by decide) kq) ?_
       show Gwg T1202 m 270 [(.int (1 : Int32))]
       exact gw_retB (w := (1 : Int32)) X1202 hx hlk hret (hb hby at_270) (by decide) (by decide) (by decide) ⟨rfl, N1202⟩
     ·by_cases hk1206 : (((XT.ushr x2 (2 : Int32)) &&& (3 : Int32)) % (3 : Int32)) = (2 : Int32)
      ·rw [hk1206]
       show Gwg T259 m 65 []
       refine gw_st (fun _ kq => XS.iloadN X259.here hx rfl (hb hby at_65) rfl kq) ?_
       show Gwg T259 m 66 [(.int x2)]
       refine gw_st (fun _ kq => XT.iconstV X259.here hx rfl (4 : Int32) (hb hby at_66) (by decide) kq) ?_
       show Gwg T259 m 67 [(.int (4 : Int32)), (.int x2)]
       refine gw_st (fun _ kq => XT.iushr X259.here hx rfl (hb hby at_67) rfl kq) ?_
       show Gwg T259 m 68 [(.int (XT.ushr x2 (4 : Int32)))]
       refine gw_st (fun _ kq => XT.iconstV X259.here hx rfl (1 : Int32) (hb hby at_68) (by decide) kq) ?_
       show Gwg T259 m 69 [(.int (1 : Int32)), (.int (XT.ushr x2 (4 : Int32)))]
       refine gw_st (fun _ kq => XS.iand X259.here hx rfl (hb hby at_69) rfl kq) ?_
       show Gwg T259 m 70 [(.int ((XT.ushr x2 (4 : Int32)) &&& (1 : Int32)))]
       by_cases hc1207 : ((XT.ushr x2 (4 : Int32)) &&& (1 : Int32)) = (0 : Int32)
       ·refine gw_st (fun _ kq => XS.ifYes X259.here hx rfl (pc0 := 70) (pc' := 87) rfl (hb hby at_70) rfl (XT.i0_eq_t hc1207) (by decide) (by decide) kq) ?_
        show Gwg T259 m 87 []
        refine gw_st (fun _ kq => XS.iloadN X259.here hx rfl (hb hby at_87) rfl kq) ?_
        show Gwg T259 m 88 [(.int x1)]
        refine gw_st (fun _ kq => XT.i2c X259.here hx rfl (hb hby at_88) rfl kq) ?_
        show Gwg T259 m 89 [(.int x1.toUInt32.toUInt16.toUInt32.toInt32)]
        refine gw_st (fun _ kq => XS.istore X259.here hx rfl (hb hby at_89) rfl (l' := #[.val (.int x0), .val (.int x1), .val (.int x2), .val (.int (x0 &&& (255 : Int32))), .val (.int ((XT.ushr x0 (8 : Int32)) &&& (255 : Int32))), .val (.int ((XT.ushr x0 (16 : Int32)) &&& (255 : Int32))), .val (.ref a253), .val (.int (2 : Int32)), .val (.int (2 : Int32)), .val (.int x1.toUInt32.toUInt16.toUInt32.toInt32), .unset, .unset, .unset, .unset]) rfl kq) ?_
        show Gwg T259 m 91 []
        refine gw_st (fun _ kq => XS.iload X259.here hx rfl (hb hby at_91) rfl kq) ?_
        show Gwg T259 m 93 [(.int (2 : Int32))]
        refine gw_st (fun _ kq => XS.ifYes X259.here hx rfl (pc0 := 93) (pc' := 104) rfl (hb hby at_93) rfl (XT.i0_ne_t (by decide)) (by decide) (by decide) kq) ?_
        show Gwg T259 m 104 []
        refine gw_st (fun _ kq => XS.iload X259.here hx rfl (hb hby at_104) rfl kq) ?_
        show Gwg T259 m 106 [(.int (2 : Int32))]
        refine gw_st (fun _ kq => XT.iconstV X259.here hx rfl (1 : Int32) (hb hby at_106) (by decide) kq) ?_
        show Gwg T259 m 107 [(.int (1 : Int32)), (.int (2 : Int32))]
        refine gw_st (fun _ kq => XS.icmpYes X259.here hx rfl (pc0 := 107) (pc' := 122) rfl (hb hby at_107) rfl (XT.ii_ne_t (by decide)) (by decide) (by decide) kq) ?_
        show Gwg T259 m 122 []
        refine gw_st (fun _ kq => XS.iload X259.here hx rfl (hb hby at_122) rfl kq) ?_
        show Gwg T259 m 124 [(.int (2 : Int32))]
        refine gw_st (fun _ kq => XT.iconstV X259.here hx rfl (2 : Int32) (hb hby at_124) (by decide) kq) ?_
        show Gwg T259 m 125 [(.int (2 : Int32)), (.int (2 : Int32))]
        refine gw_st (fun _ kq => XS.icmpNo X259.here hx rfl (hb hby at_125) rfl (XT.ii_ne_f (by decide)) kq) ?_
        show Gwg T259 m 128 []
        refine gw_st (fun _ kq => XT.iconstV X259.here hx rfl (2 : Int32) (hb hby at_128) (by decide) kq) ?_
        show Gwg T259 m 129 [(.int (2 : Int32))]
        refine gw_newP X259 hx hZ (wd hw 0 rfl) e259 (hb hby at_129) rfl rfl 2 (by decide) 2 (Nat.le_refl _) (by decide) (by decide) (by decide) ?_
        intro T1208 h1208 a1208 g1208 X1208 e1208 E1208 G1208
        have z1217 : n0 ≤ h253.size := Nat.le_trans Z0 E253.1
        have z1218 : n0 ≤ h255.size := (Wr.size W255).symm ▸ z1217
        have z1219 : n0 ≤ h257.size := (Wr.size W257).symm ▸ z1218
        have z1220 : n0 ≤ h259.size := (Wr.size W259).symm ▸ z1219
        have nw_a1208 : n0 ≤ a1208 := Nat.le_trans z1220 (Nat.le_of_eq g1208.symm)
        have lt_a1208 : a1208 < h1208.size := G1208.lt
        have A1208 : GA Z h1208 a1208 .char 2 (fun i => .int (own_c3 (0 : Int32) (0 : Int32) (0 : Int32) i)) := (GA.congr G1208 (fun i _ => own_z3 i))
        show Gwg T1208 m 131 [(.ref a1208)]
        refine gw_st (fun _ kq => XS.dup X1208.here hx rfl (hb hby at_131) rfl rfl kq) ?_
        show Gwg T1208 m 132 [(.ref a1208), (.ref a1208)]
        refine gw_st (fun _ kq => XT.iconstV X1208.here hx rfl (0 : Int32) (hb hby at_132) (by decide) kq) ?_
        show Gwg T1208 m 133 [(.int (0 : Int32)), (.ref a1208), (.ref a1208)]
        refine gw_st (fun _ kq => XS.iloadN X1208.here hx rfl (hb hby at_133) rfl kq) ?_
        show Gwg T1208 m 134 [(.int (x0 &&& (255 : Int32))), (.int (0 : Int32)), (.ref a1208), (.ref a1208)]
        refine gw_cast X1208 hx hZ e1208 A1208 (hb hby at_134) rfl rfl (by decide) ?_
        intro T1221 h1221 X1221 e1221 W1221 G1221
        have N1221 := Fr.snoc X1221 N259 nw_a1208
        have A1221 : GA Z h1221 a1208 .char 2 (fun i => .int (own_c3 (x0 &&& (255 : Int32)) (0 : Int32) (0 : Int32) i)) := (own_stc (own_nc (own_lat _)) (by decide) (own_c30 (x0 &&& (255 : Int32)) (0 : Int32) (0 : Int32) (0 : Int32)) G1221)
        show Gwg T1221 m 135 [(.ref a1208)]
        refine gw_st (fun _ kq => XS.dup X1221.here hx rfl (hb hby at_135) rfl rfl kq) ?_
        show Gwg T1221 m 136 [(.ref a1208), (.ref a1208)]
        refine gw_st (fun _ kq => XT.iconstV X1221.here hx rfl (1 : Int32) (hb hby at_136) (by decide) kq) ?_
        show Gwg T1221 m 137 [(.int (1 : Int32)), (.ref a1208), (.ref a1208)]
        refine gw_st (fun _ kq => XS.iload X1221.here hx rfl (hb hby at_137) rfl kq) ?_
        show Gwg T1221 m 139 [(.int ((XT.ushr x0 (8 : Int32)) &&& (255 : Int32))), (.int (1 : Int32)), (.ref a1208), (.ref a1208)]
        refine gw_cast X1221 hx hZ e1221 A1221 (hb hby at_139) rfl rfl (by decide) ?_
        intro T1222 h1222 X1222 e1222 W1222 G1222
        have N1222 := Fr.snoc X1222 N1221 nw_a1208
        have A1222 : GA Z h1222 a1208 .char 2 (fun i => .int (own_c3 (x0 &&& (255 : Int32)) ((XT.ushr x0 (8 : Int32)) &&& (255 : Int32)) (0 : Int32) i)) := (own_stc (own_nc (own_lat _)) (by decide) (own_c31 ((XT.ushr x0 (8 : Int32)) &&& (255 : Int32)) (x0 &&& (255 : Int32)) (0 : Int32) (0 : Int32)) G1222)
        show Gwg T1222 m 140 [(.ref a1208)]
        refine gw_st (fun _ kq => XS.astore X1222.here hx rfl (hb hby at_140) rfl rfl (l' := #[.val (.int x0), .val (.int x1), .val (.int x2), .val (.int (x0 &&& (255 : Int32))), .val (.int ((XT.ushr x0 (8 : Int32)) &&& (255 : Int32))), .val (.int ((XT.ushr x0 (16 : Int32)) &&& (255 : Int32))), .val (.ref a253), .val (.int (2 : Int32)), .val (.int (2 : Int32)), .val (.int x1.toUInt32.toUInt16.toUInt32.toInt32), .val (.ref a1208), .unset, .unset, .unset]) rfl kq) ?_
        show Gwg T1222 m 142 []
        refine gw_st (fun _ kq => XS.goto X1222.here hx rfl (pc0 := 142) (pc' := 164) rfl (hb hby at_142) (by decide) (by decide) kq) ?_
        show Gwg T1222 m 164 []
        refine gw_newO X1222 hx hZ hown (wd hw 1 rfl) (wd hw 2 rfl) (wd hw 3 rfl) e1222 (hb hby at_164) rfl (by decide) (by decide) ?_
        intro T1223 h1223 a1223 g1223 X1223 e1223 E1223 A1223 D1223
        have c1231 : a1208 < h1221.size := (Wr.size W1221).symm ▸ lt_a1208
        have c1232 : a1208 < h1222.size := (Wr.size W1222).symm ▸ c1231
        have z1234 : n0 ≤ h1208.size := Nat.le_trans z1220 E1208.1
        have z1235 : n0 ≤ h1221.size := (Wr.size W1221).symm ▸ z1234
        have z1236 : n0 ≤ h1222.size := (Wr.size W1222).symm ▸ z1235
        have nw_a1223 : n0 ≤ a1223 := Nat.le_trans z1236 (Nat.le_of_eq g1223.symm)
        have lt_a1223 : a1223 < h1223.size := A1223.lt
        have F1237 : Fld Z h1223 a1223 "com/example/wirecall/wirecall/TextCursor" "text" "Ljava/lang/String;" .null := D1223 (Or.inr (wd hw 38 rfl)) (ty := (.object "java/lang/String")) (by decide)
        have F1238 : Fld Z h1223 a1223 "com/example/wirecall/wirecall/TextCursor" "pos" "I" (.int (0 : Int32)) := D1223 (Or.inl (wd hw 45 rfl)) (ty := .int) (by decide)
        show Gwg T1223 m 167 [(.ref a1223)]
        refine gw_st (fun _ kq => XS.dup X1223.here hx rfl (hb hby at_167) rfl rfl kq) ?_
        show Gwg T1223 m 168 [(.ref a1223), (.ref a1223)]
        refine gw_newO X1223 hx hZ hown (wd hw 4 rfl) (wd hw 5 rfl) (wd hw 6 rfl) e1223 (hb hby at_168) rfl (by decide) (by decide) ?_
        intro T1239 h1239 a1239 g1239 X1239 e1239 E1239 A1239 D1239
        have c1243 : a1208 < h1223.size := Nat.lt_of_lt_of_le c1232 E1223.1
        have ne1244 : a1208 ≠ a1239 := fun q => Nat.lt_irrefl _ (Nat.lt_of_lt_of_le c1243 (Nat.le_of_eq (g1239.symm.trans q.symm)))
        have ne1245 : a1223 ≠ a1239 := fun q => Nat.lt_irrefl _ (Nat.lt_of_lt_of_le lt_a1223 (Nat.le_of_eq (g1239.symm.trans q.symm)))
        have z1246 : n0 ≤ h1223.size := Nat.le_trans z1236 E1223.1
        have nw_a1239 : n0 ≤ a1239 := Nat.le_trans z1246 (Nat.le_of_eq g1239.symm)
        have F1247 : Fld Z h1239 a1239 "java/lang/String" "coder" "B" (.int (0 : Int32)) := D1239 (Or.inr (wd hw 30 rfl)) (ty := .byte) (by decide)
        have F1248 : Fld Z h1239 a1239 "java/lang/String" "value" "[B" .null := D1239 (Or.inr (wd hw 32 rfl)) (ty := (.array .byte)) (by decide)
        show Gwg T1239 m 171 [(.ref a1239), (.ref a1223), (.ref a1223)]
        refine gw_st (fun _ kq => XS.dup X1239.here hx rfl (hb hby at_171) rfl rfl kq) ?_
        show Gwg T1239 m 172 [(.ref a1239), (.ref a1239), (.ref a1223), (.ref a1223)]
        refine gw_st (fun _ kq => XS.aload X1239.here hx rfl (hb hby at_172) rfl rfl kq) ?_
        show Gwg T1239 m 174 [(.ref a1208), (.ref a1239), (.ref a1239), (.ref a1223), (.ref a1223)]
        have c1250 := A1222.ext E1223
        have c1251 := c1250.ext E1239
        have c1252 := Old.ext O0 E253
        have c1253 := Old.wr c1252 W255 nw_a253
        have c1254 := Old.wr c1253 W257 nw_a253
        have c1255 := Old.wr c1254 W259 nw_a253
        have c1256 := Old.ext c1255 E1208
        have c1257 := Old.wr c1256 W1221 nw_a1208
        have c1258 := Old.wr c1257 W1222 nw_a1208
        have c1259 := Old.ext c1258 E1223
        have c1260 := Old.ext c1259 E1239
        have z1261 : n0 ≤ h1239.size := Nat.le_trans z1246 E1239.1
        refine gw_callI X1239 hx hZ hml hown rfl (wd hw 7 rfl) (wd hw 8 rfl) (wd hw 9 rfl) (wd hw 6 rfl) e1239 (argsL := [(.ref a1208)]) (rest := [(.ref a1239), (.ref a1223), (.ref a1223)]) (W := 3) (met_s2 l Z a0 hw a1239 a1208 (x0 &&& (255 : Int32)) ((XT.ushr x0 (8 : Int32)) &&& (255 : Int32)) zc h1239 n0 z1261 A1239 F1248 F1247 nw_a1239 c1251 (Ne.symm ne1244) (own_lat _) (own_lat _) c1260 S0 zn) (hb hby at_174) rfl rfl rfl (lenOf pd11 rfl) (by show 2 * 0 + _ ≤ _; exact Nat.le_of_eq rfl) (by decide) (by decide) (by decide) (by decide) (by decide) ?_
        intro T1249 v1249 L1249 X1249 q1249
        obtain ⟨r_1249, rfl, M1249, K1249, fz1249_r, f1249_0, f1249_1, f1249_2, f1249_3⟩ := q1249
        have N1249 := Fr.app N1222 M1249
        have c1266 : a1223 < h1239.size := Nat.lt_of_lt_of_le lt_a1223 E1239.1
        have ne1267 : a1223 ≠ r_1249 := Nat.ne_of_lt (Nat.lt_of_lt_of_le c1266 fz1249_r)
        show Gwg T1249 m 177 [(.ref a1239), (.ref a1223), (.ref a1223)]
        have c1271 := Exa.ext E1239 A1223
        have c1272 := Exa.keep c1271 K1249
        have c1273 := Fld.ext E1239 F1237
        have c1274 := Fld.keep c1273 K1249 (ninS ne1245 nin0)
        have c1275 := Fld.ext E1239 F1238
        have c1276 := Fld.keep c1275 K1249 (ninS ne1245 nin0)
        have z1277 : n0 ≤ T1249.heap.size := Nat.le_trans z1261 K1249.1
        refine gw_callI X1249 hx hZ hml hown rfl (wd hw 33 rfl) (wd hw 34 rfl) (wd hw 35 rfl) (wd hw 3 rfl) rfl (argsL := [(.ref a1239)]) (rest := [(.ref a1223)]) (W := 1) (met_tci l Z a0 hw a1223 a1239 T1249.heap n0 z1277 c1272 c1274 c1276 nw_a1223) (hb hby at_177) rfl rfl rfl (lenOf pd12 rfl) (by show 2 * 0 + _ ≤ _; exact Nat.le_of_eq rfl) (by decide) (by decide) (by decide) (by decide) (by decide) ?_
        intro T1270 v1270 L1270 X1270 q1270
        obtain ⟨rfl, M1270, K1270, f1270_0, f1270_1⟩ := q1270
        have N1270 := Fr.app N1249 M1270
        show Gwg T1270 m 180 [(.ref a1223)]
        refine gw_st (fun _ kq => XS.astore X1270.here hx rfl (hb hby at_180) rfl rfl (l' := #[.val (.int x0), .val (.int x1), .val (.int x2), .val (.int (x0 &&& (255 : Int32))), .val (.int ((XT.ushr x0 (8 : Int32)) &&& (255 : Int32))), .val (.int ((XT.ushr x0 (16 : Int32)) &&& (255 : Int32))), .val (.ref a253), .val (.int (2 : Int32)), .val (.int (2 : Int32)), .val (.int x1.toUInt32.toUInt16.toUInt32.toInt32), .val (.ref a1208), .val (.ref a1223), .unset, .unset]) rfl kq) ?_
        show Gwg T1270 m 182 []
        refine gw_st (fun _ kq => XS.iload X1270.here hx rfl (hb hby at_182) rfl kq) ?_
        show Gwg T1270 m 184 [(.int (2 : Int32))]
        refine gw_st (fun _ kq => XT.iconstV X1270.here hx rfl (1 : Int32) (hb hby at_184) (by decide) kq) ?_
        show Gwg T1270 m 185 [(.int (1 : Int32)), (.int (2 : Int32))]
        refine gw_st (fun _ kq => XS.icmpNo X1270.here hx rfl (hb hby at_185) rfl (XT.ii_lt_f (by decide)) kq) ?_
        show Gwg T1270 m 188 []
        refine gw_st (fun _ kq => XS.aload X1270.here hx rfl (hb hby at_188) rfl rfl kq) ?_
        show Gwg T1270 m 190 [(.ref a1223)]
        have c1279 := Exa.keep c1272 K1270
        have z1280 : n0 ≤ T1270.heap.size := Nat.le_trans z1277 K1270.1
        refine gw_callV X1270 hx hZ hml hown (wd hw 83 rfl) (wd hw 84 rfl) (notFace_of_selects (args := #[]) (mvT hZ (wd hw 86 rfl))) (wd hw 86 rfl) (wd hw 85 rfl) (wd hw 87 rfl) (wd hw 3 rfl) rfl c1279 (argsL := []) (rest := []) (W := 0) (met_sk0 l Z a0 hw a1223 a1239 T1270.heap n0 z1280 c1279 f1270_0 f1270_1 nw_a1223) (hb hby at_190) rfl rfl rfl (lenOf pd15 rfl) (by show 2 * 0 + _ ≤ _; exact Nat.le_of_eq rfl) (by decide) (by decide) (by decide) (by decide) (by decide) ?_
        intro T1278 v1278 L1278 X1278 q1278
        obtain ⟨rfl, M1278, K1278, f1278_0, f1278_1⟩ := q1278
        have N1278 := Fr.app N1270 M1278
        show Gwg T1278 m 193 []
        refine gw_st (fun _ kq => XS.iload X1278.here hx rfl (hb hby at_193) rfl kq) ?_
        show Gwg T1278 m 195 [(.int (2 : Int32))]
        refine gw_st (fun _ kq => XT.iconstV X1278.here hx rfl (2 : Int32) (hb hby at_195) (by decide) kq) ?_
        show Gwg T1278 m 196 [(.int (2 : Int32)), (.int (2 : Int32))]
        refine gw_st (fun _ kq => XS.icmpNo X1278.here hx rfl (hb hby at_196) rfl (XT.ii_lt_f (by decide)) kq) ?_
        show Gwg T1278 m 199 []
        refine gw_st (fun _ kq => XS.aload X1278.here hx rfl (hb hby at_199) rfl rfl kq) ?_
        show Gwg T1278 m 201 [(.ref a1223)]
        have c1282 := Exa.keep c1279 K1278
        have z1283 : n0 ≤ T1278.heap.size := Nat.le_trans z1280 K1278.1
        refine gw_callV X1278 hx hZ hml hown (wd hw 83 rfl) (wd hw 84 rfl) (notFace_of_selects (args := #[]) (mvT hZ (wd hw 86 rfl))) (wd hw 86 rfl) (wd hw 85 rfl) (wd hw 87 rfl) (wd hw 3 rfl) rfl c1282 (argsL := []) (rest := []) (W := 0) (met_sk1 l Z a0 hw a1223 a1239 T1278.heap n0 z1283 c1282 f1278_0 f1278_1 nw_a1223) (hb hby at_201) rfl rfl rfl (lenOf pd15 rfl) (by show 2 * 0 + _ ≤ _; exact Nat.le_of_eq rfl) (by decide) (by decide) (by decide) (by decide) (by decide) ?_
        intro T1281 v1281 L1281 X1281 q1281
        obtain ⟨rfl, M1281, K1281, f1281_0, f1281_1⟩ := q1281
        have N1281 := Fr.app N1278 M1281
        show Gwg T1281 m 204 []
        refine gw_st (fun _ kq => XS.iload X1281.here hx rfl (hb hby at_204) rfl kq) ?_
        show Gwg T1281 m 206 [(.int (2 : Int32))]
        refine gw_st (fun _ kq => XT.iconstV X1281.here hx rfl (3 : Int32) (hb hby at_206) (by decide) kq) ?_
        show Gwg T1281 m 207 [(.int (3 : Int32)), (.int (2 : Int32))]
        refine gw_st (fun _ kq => XS.icmpYes X1281.here hx rfl (pc0 := 207) (pc' := 215) rfl (hb hby at_207) rfl (XT.ii_lt_t (by decide)) (by decide) (by decide) kq) ?_
        show Gwg T1281 m 215 []
        refine gw_st (fun _ kq => XS.aload X1281.here hx rfl (hb hby at_215) rfl rfl kq) ?_
        show Gwg T1281 m 217 [(.ref a1223)]
        refine gw_st (fun _ kq => XS.iload X1281.here hx rfl (hb hby at_217) rfl kq) ?_
        show Gwg T1281 m 219 [(.int x1.toUInt32.toUInt16.toUInt32.toInt32), (.ref a1223)]
        have c1285 := Exa.keep f1249_0 K1270
        have c1286 := Exa.keep c1285 K1278
        have c1287 := Exa.keep c1286 K1281
        have c1288 := Fld.keep f1249_1 K1270 (ninS (Ne.symm ne1245) nin0)
        have c1289 := Fld.keep c1288 K1278 (ninS (Ne.symm ne1245) nin0)
        have c1290 := Fld.keep c1289 K1281 (ninS (Ne.symm ne1245) nin0)
        have c1291 := Fld.keep f1249_2 K1270 (ninS (Ne.symm ne1245) nin0)
        have c1292 := Fld.keep c1291 K1278 (ninS (Ne.symm ne1245) nin0)
        have c1293 := Fld.keep c1292 K1281 (ninS (Ne.symm ne1245) nin0)
        have c1294 := GA.keep f1249_3 K1270 (ninS (Ne.symm ne1267) nin0)
        have c1295 := GA.keep c1294 K1278 (ninS (Ne.symm ne1267) nin0)
        have c1296 := GA.keep c1295 K1281 (ninS (Ne.symm ne1267) nin0)
        have c1297 := Old.keep c1260 K1249 (allS nw_a1239 all0)
        have c1298 := Old.keep c1297 K1270 (allS nw_a1223 all0)
        have c1299 := Old.keep c1298 K1278 (allS nw_a1223 all0)
        have c1300 := Old.keep c1299 K1281 (allS nw_a1223 all0)
        have z1301 : n0 ≤ T1281.heap.size := Nat.le_trans z1283 K1281.1
        have c1302 := Exa.keep c1282 K1281
        refine gw_callV X1281 hx hZ hml hown (wd hw 39 rfl) (wd hw 40 rfl) (notFace_of_selects (args := #[]) (mvT hZ (wd hw 42 rfl))) (wd hw 42 rfl) (wd hw 41 rfl) (wd hw 43 rfl) (wd hw 3 rfl) rfl c1302 (argsL := [(.int x1.toUInt32.toUInt16.toUInt32.toInt32)]) (rest := []) (W := 0) (met_pk22 l Z a0 hw a1223 a1239 r_1249 (fun i => .int (own_c3 (own_by (x0 &&& (255 : Int32))) (own_by ((XT.ushr x0 (8 : Int32)) &&& (255 : Int32))) (0 : Int32) i)) x1.toUInt32.toUInt16.toUInt32.toInt32 zc T1281.heap n0 z1301 f1281_1 f1281_0 c1287 c1290 c1293 c1296 c1300 S0 zn) (hb hby at_219) rfl rfl rfl (lenOf pd13 rfl) (by show 2 * 0 + _ ≤ _; exact Nat.le_of_eq rfl) (by decide) (by decide) (by decide) (by decide) (by decide) ?_
        intro T1284 v1284 L1284 X1284 q1284
        obtain ⟨rfl, M1284, K1284⟩ := q1284
        have N1284 := Fr.app N1281 M1284
        show Gwg T1284 m 222 [(.int (0 : Int32))]
        refine gw_st (fun _ kq => XS.istore X1284.here hx rfl (hb hby at_222) rfl (l' := #[.val (.int x0), .val (.int x1), .val (.int x2), .val (.int (x0 &&& (255 : Int32))), .val (.int ((XT.ushr x0 (8 : Int32)) &&& (255 : Int32))), .val (.int ((XT.ushr x0 (16 : Int32)) &&& (255 : Int32))), .val (.ref a253), .val (.int (2 : Int32)), .val (.int (2 : Int32)), .val (.int x1.toUInt32.toUInt16.toUInt32.toInt32), .val (.ref a1208), .val (.ref a1223), .val (.int (0 : Int32)), .unset]) rfl kq) ?_
        show Gwg T1284 m 224 []
        refine gw_st (fun _ kq => XS.iload X1284.here hx rfl (hb hby at_224) rfl kq) ?_
        show Gwg T1284 m 226 [(.int (2 : Int32))]
        refine gw_st (fun _ kq => XS.iload X1284.here hx rfl (hb hby at_226) rfl kq) ?_
        show Gwg T1284 m 228 [(.int (2 : Int32)), (.int (2 : Int32))]
        refine gw_st (fun _ kq => XS.icmpYes X1284.here hx rfl (pc0 := 228) (pc' := 245) rfl (hb hby at_228) rfl (XT.ii_ge_t (by decide)) (by decide) (by decide) kq) ?_
        show Gwg T1284 m 245 []
        refine gw_st (fun _ kq => XT.iconstV X1284.here hx rfl (0 : Int32) (hb hby at_245) (by decide) kq) ?_
        show Gwg T1284 m 246 [(.int (0 : Int32))]
        refine gw_st (fun _ kq => XS.istore X1284.here hx rfl (hb hby at_246) rfl (l' := #[.val (.int x0), .val (.int x1), .val (.int x2), .val (.int (x0 &&& (255 : Int32))), .val (.int ((XT.ushr x0 (8 : Int32)) &&& (255 : Int32))), .val (.int ((XT.ushr x0 (16 : Int32)) &&& (255 : Int32))), .val (.ref a253), .val (.int (2 : Int32)), .val (.int (2 : Int32)), .val (.int x1.toUInt32.toUInt16.toUInt32.toInt32), .val (.ref a1208), .val (.ref a1223), .val (.int (0 : Int32)), .val (.int (0 : Int32))]) rfl kq) ?_
        show Gwg T1284 m 248 []
        refine gw_st (fun _ kq => XS.iload X1284.here hx rfl (hb hby at_248) rfl kq) ?_
        show Gwg T1284 m 250 [(.int (0 : Int32))]
        refine gw_st (fun _ kq => XS.iload X1284.here hx rfl (hb hby at_250) rfl kq) ?_
        show Gwg T1284 m 252 [(.int (0 : Int32)), (.int (0 : Int32))]
        refine gw_st (fun _ kq => XS.icmpNo X1284.here hx rfl (hb hby at_252) rfl (XT.ii_ne_f (by decide)) kq) ?_
        show Gwg T1284 m 255 []
        refine gw_st (fun _ kq => XS.aload X1284.here hx rfl (hb hby at_255) rfl rfl kq) ?_
        show Gwg T1284 m 257 [(.ref a1223)]
        have c1304 := Fld.keep f1281_1 K1284 nin0
        have z1305 : n0 ≤ T1284.heap.size := Nat.le_trans z1301 K1284.1
        have c1306 := Exa.keep c1302 K1284
        refine gw_callV X1284 hx hZ hml hown (wd hw 78 rfl) (wd hw 79 rfl) (notFace_of_selects (args := #[]) (mvT hZ (wd hw 81 rfl))) (wd hw 81 rfl) (wd hw 80 rfl) (wd hw 82 rfl) (wd hw 3 rfl) rfl c1306 (argsL := []) (rest := []) (W := 0) (met_16 l Z a0 hw a1223 (2 : Int32) T1284.heap n0 z1305 c1304) (hb hby at_257) rfl rfl rfl (lenOf pd9 rfl) (by show 2 * 0 + _ ≤ _; exact Nat.le_of_eq rfl) (by decide) (by decide) (by decide) (by decide) (by decide) ?_
        intro T1303 v1303 L1303 X1303 q1303
        obtain ⟨rfl, M1303, e1303⟩ := q1303
        have N1303 := Fr.app N1284 M1303
        show Gwg T1303 m 260 [(.int (2 : Int32))]
        refine gw_st (fun _ kq => XS.iload X1303.here hx rfl (hb hby at_260) rfl kq) ?_
        show Gwg T1303 m 262 [(.int (2 : Int32)), (.int (2 : Int32))]
        refine gw_st (fun _ kq => XS.icmpNo X1303.here hx rfl (hb hby at_262) rfl (XT.ii_ne_f (by decide)) kq) ?_
        show Gwg T1303 m 265 []
        refine gw_st (fun _ kq => XT.iconstV X1303.here hx rfl (1 : Int32) (hb hby at_265) (by decide) kq) ?_
        show Gwg T1303 m 266 [(.int (1 : Int32))]
        refine gw_st (fun _ kq => XS.goto X1303.here hx rfl (pc0 := 266) (pc' := 270) rfl (hb hby at_266) (by decide) (by decide) kq) ?_
        show Gwg T1303 m 270 [(.int (1 : Int32))]
        exact gw_retB (w := (1 : Int32)) X1303 hx hlk hret (hb hby at_270) (by decide) (by decide) (by decide) ⟨rfl, N1303⟩
       ·refine gw_st (fun _ kq => XS.ifNo X259.here hx rfl (hb hby at_70) rfl (XT.i0_eq_f hc1207) kq) ?_
        show Gwg T259 m 73 []
        refine gw_st (fun _ kq => XS.aload X259.here hx rfl (hb hby at_73) rfl rfl kq) ?_
        show Gwg T259 m 75 [(.ref a253)]
        refine gw_st (fun _ kq => XS.iload X259.here hx rfl (hb hby at_75) rfl kq) ?_
        show Gwg T259 m 77 [(.int (2 : Int32)), (.ref a253)]
        refine gw_st (fun _ kq => XT.iconstV X259.here hx rfl (2 : Int32) (hb hby at_77) (by decide) kq) ?_
        show Gwg T259 m 78 [(.int (2 : Int32)), (.int (2 : Int32)), (.ref a253)]
        refine gw_callS X259 hx hZ hml hown (wd hw 88 rfl) (wd hw 89 rfl) (wd hw 90 rfl) (wd hw 91 rfl) e259 (argsL := [(.int (2 : Int32)), (.int (2 : Int32))]) (rest := [(.ref a253)]) (W := 1) (met_18 l Z a0 hw (2 : Int32) (2 : Int32) h259 n0) (hb hby at_78) rfl rfl rfl (lenOf pd14 rfl) (by show 2 * 0 + _ ≤ _; exact Nat.le_of_eq rfl) (by decide) (by decide) (by decide) (by decide) (by decide) ?_
        intro T1307 v1307 L1307 X1307 q1307
        obtain ⟨rfl, M1307, e1307⟩ := q1307
        have N1307 := Fr.app N259 M1307
        rw [show (fMin (2 : Int32) (2 : Int32)) = (2 : Int32) from by decide +kernel]
        show Gwg T1307 m 81 [(.int (2 : Int32)), (.ref a253)]
        refine gw_cald X1307 hx hZ e1307 A259 (hb hby at_81) rfl rfl (by decide) (.int ((XT.ushr x0 (16 : Int32)) &&& (255 : Int32))) rfl ?_
        show Gwg T1307 m 82 [(.int ((XT.ushr x0 (16 : Int32)) &&& (255 : Int32)))]
        refine gw_st (fun _ kq => XS.istore X1307.here hx rfl (hb hby at_82) rfl (l' := #[.val (.int x0), .val (.int x1), .val (.int x2), .val (.int (x0 &&& (255 : Int32))), .val (.int ((XT.ushr x0 (8 : Int32)) &&& (255 : Int32))), .val (.int ((XT.ushr x0 (16 : Int32)) &&& (255 : Int32))), .val (.ref a253), .val (.int (2 : Int32)), .val (.int (2 : Int32)), .val (.int ((XT.ushr x0 (16 : Int32)) &&& (255 : Int32))), .unset, .unset, .unset, .unset]) rfl kq) ?_
        show Gwg T1307 m 84 []
        refine gw_st (fun _ kq => XS.goto X1307.here hx rfl (pc0 := 84) (pc' := 91) rfl (hb hby at_84) (by decide) (by decide) kq) ?_
        show Gwg T1307 m 91 []
        refine gw_st (fun _ kq => XS.iload X1307.here hx rfl (hb hby at_91) rfl kq) ?_
        show Gwg T1307 m 93 [(.int (2 : Int32))]
        refine gw_st (fun _ kq => XS.ifYes X1307.here hx rfl (pc0 := 93) (pc' := 104) rfl (hb hby at_93) rfl (XT.i0_ne_t (by decide)) (by decide) (by decide) kq) ?_
        show Gwg T1307 m 104 []
        refine gw_st (fun _ kq => XS.iload X1307.here hx rfl (hb hby at_104) rfl kq) ?_
        show Gwg T1307 m 106 [(.int (2 : Int32))]
        refine gw_st (fun _ kq => XT.iconstV X1307.here hx rfl (1 : Int32) (hb hby at_106) (by decide) kq) ?_
        show Gwg T1307 m 107 [(.int (1 : Int32)), (.int (2 : Int32))]
        refine gw_st (fun _ kq => XS.icmpYes X1307.here hx rfl (pc0 := 107) (pc' := 122) rfl (hb hby at_107) rfl (XT.ii_ne_t (by decide)) (by decide) (by decide) kq) ?_
        show Gwg T1307 m 122 []
        refine gw_st (fun _ kq => XS.iload X1307.here hx rfl (hb hby at_122) rfl kq) ?_
        show Gwg T1307 m 124 [(.int (2 : Int32))]
        refine gw_st (fun _ kq => XT.iconstV X1307.here hx rfl (2 : Int32) (hb hby at_124) (by decide) kq) ?_
        show Gwg T1307 m 125 [(.int (2 : Int32)), (.int (2 : Int32))]
        refine gw_st (fun _ kq => XS.icmpNo X1307.here hx rfl (hb hby at_125) rfl (XT.ii_ne_f (by decide)) kq) ?_
        show Gwg T1307 m 128 []
        refine gw_st (fun _ kq => XT.iconstV X1307.here hx rfl (2 : Int32) (hb hby at_128) (by decide) kq) ?_
        show Gwg T1307 m 129 [(.int (2 : Int32))]
        refine gw_newP X1307 hx hZ (wd hw 0 rfl) e1307 (hb hby at_129) rfl rfl 2 (by decide) 2 (Nat.le_refl _) (by decide) (by decide) (by decide) ?_
        intro T1308 h1308 a1308 g1308 X1308 e1308 E1308 G1308
        have z1317 : n0 ≤ h253.size := Nat.le_trans Z0 E253.1
        have z1318 : n0 ≤ h255.size := (Wr.size W255).symm ▸ z1317
        have z1319 : n0 ≤ h257.size := (Wr.size W257).symm ▸ z1318
        have z1320 : n0 ≤ h259.size := (Wr.size W259).symm ▸ z1319
        have nw_a1308 : n0 ≤ a1308 := Nat.le_trans z1320 (Nat.le_of_eq g1308.symm)
        have lt_a1308 : a1308 < h1308.size := G1308.lt
        have A1308 : GA Z h1308 a1308 .char 2 (fun i => .int (own_c3 (0 : Int32) (0 : Int32) (0 : Int32) i)) := (GA.congr G1308 (fun i _ => own_z3 i))
        show Gwg T1308 m 131 [(.ref a1308)]
        refine gw_st (fun _ kq => XS.dup X1308.here hx rfl (hb hby at_131) rfl rfl kq) ?_
        show Gwg T1308 m 132 [(.ref a1308), (.ref a1308)]
        refine gw_st (fun _ kq => XT.iconstV X1308.here hx rfl (0 : Int32) (hb hby at_132) (by decide) kq) ?_
        show Gwg T1308 m 133 [(.int (0 : Int32)), (.ref a1308), (.ref a1308)]
        refine gw_st (fun _ kq => XS.iloadN X1308.here hx rfl (hb hby at_133) rfl kq) ?_
        show Gwg T1308 m 134 [(.int (x0 &&& (255 : Int32))), (.int (0 : Int32)), (.ref a1308), (.ref a1308)]
        refine gw_cast X1308 hx hZ e1308 A1308 (hb hby at_134) rfl rfl (by decide) ?_
        intro T1321 h1321 X1321 e1321 W1321 G1321
        have N1321 := Fr.snoc X1321 N1307 nw_a1308
        have A1321 : GA Z h1321 a1308 .char 2 (fun i => .int (own_c3 (x0 &&& (255 : Int32)) (0 : Int32) (0 : Int32) i)) := (own_stc (own_nc (own_lat _)) (by decide) (own_c30 (x0 &&& (255 : Int32)) (0 : Int32) (0 : Int32) (0 : Int32)) G1321)
        show Gwg T1321 m 135 [(.ref a1308)]
        refine gw_st (fun _ kq => XS.dup X1321.here hx rfl (hb hby at_135) rfl rfl kq) ?_
        show Gwg T1321 m 136 [(.ref a1308), (.ref a1308)]
        refine gw_st (fun _ kq => XT.iconstV X1321.here hx rfl (1 : Int32) (hb hby at_136) (by decide) kq) ?_
        show Gwg T1321 m 137 [(.int (1 : Int32)), (.ref a1308), (.ref a1308)]
        refine gw_st (fun _ kq => XS.iload X1321.here hx rfl (hb hby at_137) rfl kq) ?_
        show Gwg T1321 m 139 [(.int ((XT.ushr x0 (8 : Int32)) &&& (255 : Int32))), (.int (1 : Int32)), (.ref a1308), (.ref a1308)]
        refine gw_cast X1321 hx hZ e1321 A1321 (hb hby at_139) rfl rfl (by decide) ?_
        intro T1322 h1322 X1322 e1322 W1322 G1322
        have N1322 := Fr.snoc X1322 N1321 nw_a1308
        have A1322 : GA Z h1322 a1308 .char 2 (fun i => .int (own_c3 (x0 &&& (255 : Int32)) ((XT.ushr x0 (8 : Int32)) &&& (255 : Int32)) (0 : Int32) i)) := (own_stc (own_nc (own_lat _)) (by decide) (own_c31 ((XT.ushr x0 (8 : Int32)) &&& (255 : Int32)) (x0 &&& (255 : Int32)) (0 : Int32) (0 : Int32)) G1322)
        show Gwg T1322 m 140 [(.ref a1308)]
        refine gw_st (fun _ kq => XS.astore X1322.here hx rfl (hb hby at_140) rfl rfl (l' := #[.val (.int x0), .val (.int x1), .val (.int x2), .val (.int (x0 &&& (255 : Int32))), .val (.int ((XT.ushr x0 (8 : Int32)) &&& (255 : Int32))), .val (.int ((XT.ushr x0 (16 : Int32)) &&& (255 : Int32))), .val (.ref a253), .val (.int (2 : Int32)), .val (.int (2 : Int32)), .val (.int ((XT.ushr x0 (16 : Int32)) &&& (255 : Int32))), .val (.ref a1308), .unset, .unset, .unset]) rfl kq) ?_
        show Gwg T1322 m 142 []
        refine gw_st (fun _ kq => XS.goto X1322.here hx rfl (pc0 := 142) (pc' := 164) rfl (hb hby at_142) (by decide) (by decide) kq) ?_
        show Gwg T1322 m 164 []
        refine gw_newO X1322 hx hZ hown (wd hw 1 rfl) (wd hw 2 rfl) (wd hw 3 rfl) e1322 (hb hby at_164) rfl (by decide) (by decide) ?_
        intro T1323 h1323 a1323 g1323 X1323 e1323 E1323 A1323 D1323
        have c1331 : a1308 < h1321.size := (Wr.size W1321).symm ▸ lt_a1308
        have c1332 : a1308 < h1322.size := (Wr.size W1322).symm ▸ c1331
        have z1334 : n0 ≤ h1308.size := Nat.le_trans z1320 E1308.1
        have z1335 : n0 ≤ h1321.size := (Wr.size W1321).symm ▸ z1334
        have z1336 : n0 ≤ h1322.size := (Wr.size W1322).symm ▸ z1335
        have nw_a1323 : n0 ≤ a1323 := Nat.le_trans z1336 (Nat.le_of_eq g1323.symm)
        have lt_a1323 : a1323 < h1323.size := A1323.lt
        have F1337 : Fld Z h1323 a1323 "com/example/wirecall/wirecall/TextCursor" "text" "Ljava/lang/String;" .null := D1323 (Or.inr (wd hw 38 rfl)) (ty := (.object "java/lang/String")) (by decide)
        have F1338 : Fld Z h1323 a1323 "com/example/wirecall/wirecall/TextCursor" "pos" "I" (.int (0 : Int32)) := D1323 (Or.inl (wd hw 45 rfl)) (ty := .int) (by decide)
        show Gwg T1323 m 167 [(.ref a1323)]
        refine gw_st (fun _ kq => XS.dup X1323.here hx rfl (hb hby at_167) rfl rfl kq) ?_
        show Gwg T1323 m 168 [(.ref a1323), (.ref a1323)]
        refine gw_newO X1323 hx hZ hown (wd hw 4 rfl) (wd hw 5 rfl) (wd hw 6 rfl) e1323 (hb hby at_168) rfl (by decide) (by decide) ?_
        intro T1339 h1339 a1339 g1339 X1339 e1339 E1339 A1339 D1339
        have c1343 : a1308 < h1323.size := Nat.lt_of_lt_of_le c1332 E1323.1
        have ne1344 : a1308 ≠ a1339 := fun q => Nat.lt_irrefl _ (Nat.lt_of_lt_of_le c1343 (Nat.le_of_eq (g1339.symm.trans q.symm)))
        have ne1345 : a1323 ≠ a1339 := fun q => Nat.lt_irrefl _ (Nat.lt_of_lt_of_le lt_a1323 (Nat.le_of_eq (g1339.symm.trans q.symm)))
        have z1346 : n0 ≤ h1323.size := Nat.le_trans z1336 E1323.1
        have nw_a1339 : n0 ≤ a1339 := Nat.le_trans z1346 (Nat.le_of_eq g1339.symm)
        have F1347 : Fld Z h1339 a1339 "java/lang/String" "coder" "B" (.int (0 : Int32)) := D1339 (Or.inr (wd hw 30 rfl)) (ty := .byte) (by decide)
        have F1348 : Fld Z h1339 a1339 "java/lang/String" "value" "[B" .null := D1339 (Or.inr (wd hw 32 rfl)) (ty := (.array .byte)) (by decide)
        show Gwg T1339 m 171 [(.ref a1339), (.ref a1323), (.ref a1323)]
        refine gw_st (fun _ kq => XS.dup X1339.here hx rfl (hb hby at_171) rfl rfl kq) ?_
        show Gwg T1339 m 172 [(.ref a1339), (.ref a1339), (.ref a1323), (.ref a1323)]
        refine gw_st (fun _ kq => XS.aload X1339.here hx rfl (hb hby at_172) rfl rfl kq) ?_
        show Gwg T1339 m 174 [(.ref a1308), (.ref a1339), (.ref a1339), (.ref a1323), (.ref a1323)]
        have c1350 := A1322.ext E1323
        have c1351 := c1350.ext E1339
        have c1352 := Old.ext O0 E253
        have c1353 := Old.wr c1352 W255 nw_a253
        have c1354 := Old.wr c1353 W257 nw_a253
        have c1355 := Old.wr c1354 W259 nw_a253
        have c1356 := Old.ext c1355 E1308
        have c1357 := Old.wr c1356 W1321 nw_a1308
        have c1358 := Old.wr c1357 W1322 nw_a1308
        have c1359 := Old.ext c1358 E1323
        have c1360 := Old.ext c1359 E1339
        have z1361 : n0 ≤ h1339.size := Nat.le_trans z1346 E1339.1
        refine gw_callI X1339 hx hZ hml hown rfl (wd hw 7 rfl) (wd hw 8 rfl) (wd hw 9 rfl) (wd hw 6 rfl) e1339 (argsL := [(.ref a1308)]) (rest := [(.ref a1339), (.ref a1323), (.ref a1323)]) (W := 3) (met_s2 l Z a0 hw a1339 a1308 (x0 &&& (255 : Int32)) ((XT.ushr x0 (8 : Int32)) &&& (255 : Int32)) zc h1339 n0 z1361 A1339 F1348 F1347 nw_a1339 c1351 (Ne.symm ne1344) (own_lat _) (own_lat _) c1360 S0 zn) (hb hby at_174) rfl rfl rfl (lenOf pd11 rfl) (by show 2 * 0 + _ ≤ _; exact Nat.le_of_eq rfl) (by decide) (by decide) (by decide) (by decide) (by decide) ?_
        intro T1349 v1349 L1349 X1349 q1349
        obtain ⟨r_1349, rfl, M1349, K1349, fz1349_r, f1349_0, f1349_1, f1349_2, f1349_3⟩ := q1349
        have N1349 := Fr.app N1322 M1349
        have c1366 : a1323 < h1339.size := Nat.lt_of_lt_of_le lt_a1323 E1339.1
        have ne1367 : a1323 ≠ r_1349 := Nat.ne_of_lt (Nat.lt_of_lt_of_le c1366 fz1349_r)
        show Gwg T1349 m 177 [(.ref a1339), (.ref a1323), (.ref a1323)]
        have c1371 := Exa.ext E1339 A1323
        have c1372 := Exa.keep c1371 K1349
        have c1373 := Fld.ext E1339 F1337
        have c1374 := Fld.keep c1373 K1349 (ninS ne1345 nin0)
        have c1375 := Fld.ext E1339 F1338
        have c1376 := Fld.keep c1375 K1349 (ninS ne1345 nin0)
        have z1377 : n0 ≤ T1349.heap.size := Nat.le_trans z1361 K1349.1
        refine gw_callI X1349 hx hZ hml hown rfl (wd hw 33 rfl) (wd hw 34 rfl) (wd hw 35 rfl) (wd hw 3 rfl) rfl (argsL := [(.ref a1339)]) (rest := [(.ref a1323)]) (W := 1) (met_tci l Z a0 hw a1323 a1339 T1349.heap n0 z1377 c1372 c1374 c1376 nw_a1323) (hb hby at_177) rfl rfl rfl (lenOf pd12 rfl) (by show 2 * 0 + _ ≤ _; exact Nat.le_of_eq rfl) (by decide) (by decide) (by decide) (by decide) (by decide) ?_
        intro T1370 v1370 L1370 X1370 q1370
        obtain ⟨rfl, M1370, K1370, f1370_0, f1370_1⟩ := q1370
        have N1370 := Fr.app N1349 M1370
        show Gwg T1370 m 180 [(.ref a1323)]
        refine gw_st (fun _ kq => XS.astore X1370.here hx rfl (hb hby at_180) rfl rfl (l' := #[.val (.int x0), .val (.int x1), .val (.int x2), .val (.int (x0 &&& (255 : Int32))), .val (.int ((XT.ushr x0 (8 : Int32)) &&& (255 : Int32))), .val (.int ((XT.ushr x0 (16 : Int32)) &&& (255 : Int32))), .val (.ref a253), .val (.int (2 : Int32)), .val (.int (2 : Int32)), .val (.int ((XT.ushr x0 (16 : Int32)) &&& (255 : Int32))), .val (.ref a1308), .val (.ref a1323), .unset, .unset]) rfl kq) ?_
        show Gwg T1370 m 182 []
        refine gw_st (fun _ kq => XS.iload X1370.here hx rfl (hb hby at_182) rfl kq) ?_
        show Gwg T1370 m 184 [(.int (2 : Int32))]
        refine gw_st (fun _ kq => XT.iconstV X1370.here hx rfl (1 : Int32) (hb hby at_184) (by decide) kq) ?_
        show Gwg T1370 m 185 [(.int (1 : Int32)), (.int (2 : Int32))]
        refine gw_st (fun _ kq => XS.icmpNo X1370.here hx rfl (hb hby at_185) rfl (XT.ii_lt_f (by decide)) kq) ?_
        show Gwg T1370 m 188 []
        refine gw_st (fun _ kq => XS.aload X1370.here hx rfl (hb hby at_188) rfl rfl kq) ?_
        show Gwg T1370 m 190 [(.ref a1323)]
        have c1379 := Exa.keep c1372 K1370
        have z1380 : n0 ≤ T1370.heap.size := Nat.le_trans z1377 K1370.1
        refine gw_callV X1370 hx hZ hml hown (wd hw 83 rfl) (wd hw 84 rfl) (notFace_of_selects (args := #[]) (mvT hZ (wd hw 86 rfl))) (wd hw 86 rfl) (wd hw 85 rfl) (wd hw 87 rfl) (wd hw 3 rfl) rfl c1379 (argsL := []) (rest := []) (W := 0) (met_sk0 l Z a0 hw a1323 a1339 T1370.heap n0 z1380 c1379 f1370_0 f1370_1 nw_a1323) (hb hby at_190) rfl rfl rfl (lenOf pd15 rfl) (by show 2 * 0 + _ ≤ _; exact Nat.le_of_eq rfl) (by decide) (by decide) (by decide) (by decide) (by decide) ?_
        intro T1378 v1378 L1378 X1378 q1378
        obtain ⟨rfl, M1378, K1378, f1378_0, f1378_1⟩ := q1378
        have N1378 := Fr.app N1370 M1378
        show Gwg T1378 m 193 []
        refine gw_st (fun _ kq => XS.iload X1378.here hx rfl (hb hby at_193) rfl kq) ?_
        show Gwg T1378 m 195 [(.int (2 : Int32))]
        refine gw_st (fun _ kq => XT.iconstV X1378.here hx rfl (2 : Int32) (hb hby at_195) (by decide) kq) ?_
        show Gwg T1378 m 196 [(.int (2 : Int32)), (.int (2 : Int32))]
        refine gw_st (fun _ kq => XS.icmpNo X1378.here hx rfl (hb hby at_196) rfl (XT.ii_lt_f (by decide)) kq) ?_
        show Gwg T1378 m 199 []
        refine gw_st (fun _ kq => XS.aload X1378.here hx rfl (hb hby at_199) rfl rfl kq) ?_
        show Gwg T1378 m 201 [(.ref a1323)]
        have c1382 := Exa.keep c1379 K1378
        have z1383 : n0 ≤ T1378.heap.size := Nat.le_trans z1380 K1378.1
        refine gw_callV X1378 hx hZ hml hown (wd hw 83 rfl) (wd hw 84 rfl) (notFace_of_selects (args := #[]) (mvT hZ (wd hw 86 rfl))) (wd hw 86 rfl) (wd hw 85 rfl) (wd hw 87 rfl) (wd hw 3 rfl) rfl c1382 (argsL := []) (rest := []) (W := 0) (met_sk1 l Z a0 hw a1323 a1339 T1378.heap n0 z1383 c1382 f1378_0 f1378_1 nw_a1323) (hb hby at_201) rfl rfl rfl (lenOf pd15 rfl) (by show 2 * 0 + _ ≤ _; exact Nat.le_of_eq rfl) (by decide) (by decide) (by decide) (by decide) (by decide) ?_
        intro T1381 v1381 L1381 X1381 q1381
        obtain ⟨rfl, M1381, K1381, f1381_0, f1381_1⟩ := q1381
        have N1381 := Fr.app N1378 M1381
        show Gwg T1381 m 204 []
        refine gw_st (fun _ kq => XS.iload X1381.here hx rfl (hb hby at_204) rfl kq) ?_
        show Gwg T1381 m 206 [(.int (2 : Int32))]
        refine gw_st (fun _ kq => XT.iconstV X1381.here hx rfl (3 : Int32) (hb hby at_206) (by decide) kq) ?_
        show Gwg T1381 m 207 [(.int (3 : Int32)), (.int (2 : Int32))]
        refine gw_st (fun _ kq => XS.icmpYes X1381.here hx rfl (pc0 := 207) (pc' := 215) rfl (hb hby at_207) rfl (XT.ii_lt_t (by decide)) (by decide) (by decide) kq) ?_
        show Gwg T1381 m 215 []
        refine gw_st (fun _ kq => XS.aload X1381.here hx rfl (hb hby at_215) rfl rfl kq) ?_
        show Gwg T1381 m 217 [(.ref a1323)]
        refine gw_st (fun _ kq => XS.iload X1381.here hx rfl (hb hby at_217) rfl kq) ?_
        show Gwg T1381 m 219 [(.int ((XT.ushr x0 (16 : Int32)) &&& (255 : Int32))), (.ref a1323)]
        have c1385 := Exa.keep f1349_0 K1370
        have c1386 := Exa.keep c1385 K1378
        have c1387 := Exa.keep c1386 K1381
        have c1388 := Fld.keep f1349_1 K1370 (ninS (Ne.symm ne1345) nin0)
        have c1389 := Fld.keep c1388 K1378 (ninS (Ne.symm ne1345) nin0)
        have c1390 := Fld.keep c1389 K1381 (ninS (Ne.symm ne1345) nin0)
        have c1391 := Fld.keep f1349_2 K1370 (ninS (Ne.symm ne1345) nin0)
        have c1392 := Fld.keep c1391 K1378 (ninS (Ne.symm ne1345) nin0)
        have c1393 := Fld.keep c1392 K1381 (ninS (Ne.symm ne1345) nin0)
        have c1394 := GA.keep f1349_3 K1370 (ninS (Ne.symm ne1367) nin0)
        have c1395 := GA.keep c1394 K1378 (ninS (Ne.symm ne1367) nin0)
        have c1396 := GA.keep c1395 K1381 (ninS (Ne.symm ne1367) nin0)
        have c1397 := Old.keep c1360 K1349 (allS nw_a1339 all0)
        have c1398 := Old.keep c1397 K1370 (allS nw_a1323 all0)
        have c1399 := Old.keep c1398 K1378 (allS nw_a1323 all0)
        have c1400 := Old.keep c1399 K1381 (allS nw_a1323 all0)
        have z1401 : n0 ≤ T1381.heap.size := Nat.le_trans z1383 K1381.1
        have c1402 := Exa.keep c1382 K1381
        refine gw_callV X1381 hx hZ hml hown (wd hw 39 rfl) (wd hw 40 rfl) (notFace_of_selects (args := #[]) (mvT hZ (wd hw 42 rfl))) (wd hw 42 rfl) (wd hw 41 rfl) (wd hw 43 rfl) (wd hw 3 rfl) rfl c1402 (argsL := [(.int ((XT.ushr x0 (16 : Int32)) &&& (255 : Int32)))]) (rest := []) (W := 0) (met_pk22 l Z a0 hw a1323 a1339 r_1349 (fun i => .int (own_c3 (own_by (x0 &&& (255 : Int32))) (own_by ((XT.ushr x0 (8 : Int32)) &&& (255 : Int32))) (0 : Int32) i)) ((XT.ushr x0 (16 : Int32)) &&& (255 : Int32)) zc T1381.heap n0 z1401 f1381_1 f1381_0 c1387 c1390 c1393 c1396 c1400 S0 zn) (hb hby at_219) rfl rfl rfl (lenOf pd13 rfl) (by show 2 * 0 + _ ≤ _; exact Nat.le_of_eq rfl) (by decide) (by decide) (by decide) (by decide) (by decide) ?_
        intro T1384 v1384 L1384 X1384 q1384
        obtain ⟨rfl, M1384, K1384⟩ := q1384
        have N1384 := Fr.app N1381 M1384
        show Gwg T1384 m 222 [(.int (0 : Int32))]
        refine gw_st (fun _ kq => XS.istore X1384.here hx rfl (hb hby at_222) rfl (l' := #[.val (.int x0), .val (.int x1), .val (.int x2), .val (.int (x0 &&& (255 : Int32))), .val (.int ((XT.ushr x0 (8 : Int32)) &&& (255 : Int32))), .val (.int ((XT.ushr x0 (16 : Int32)) &&& (255 : Int32))), .val (.ref a253), .val (.int (2 : Int32)), .val (.int (2 : Int32)), .val (.int ((XT.ushr x0 (16 : Int32)) &&& (255 : Int32))), .val (.ref a1308), .val (.ref a1323), .val (.int (0 : Int32)), .unset]) rfl kq) ?_
        show Gwg T1384 m 224 []
        refine gw_st (fun _ kq => XS.iload X1384.here hx rfl (hb hby at_224) rfl kq) ?_
        show Gwg T1384 m 226 [(.int (2 : Int32))]
        refine gw_st (fun _ kq => XS.iload X1384.here hx rfl (hb hby at_226) rfl kq) ?_
        show Gwg T1384 m 228 [(.int (2 : Int32)), (.int (2 : Int32))]
        refine gw_st (fun _ kq => XS.icmpYes X1384.here hx rfl (pc0 := 228) (pc' := 245) rfl (hb hby at_228) rfl (XT.ii_ge_t (by decide)) (by decide) (by decide) kq) ?_
        show Gwg T1384 m 245 []
        refine gw_st (fun _ kq => XT.iconstV X1384.here hx rfl (0 : Int32) (hb hby at_245) (by decide) kq) ?_
        show Gwg T1384 m 246 [(.int (0 : Int32))]
        refine gw_st (fun _ kq => XS.istore X1384.here hx rfl (hb hby at_246) rfl (l' := #[.val (.int x0), .val (.int x1), .val (.int x2), .val (.int (x0 &&& (255 : Int32))), .val (.int ((XT.ushr x0 (8 : Int32)) &&& (255 : Int32))), .val (.int ((XT.ushr x0 (16 : Int32)) &&& (255 : Int32))), .val (.ref a253), .val (.int (2 : Int32)), .val (.int (2 : Int32)), .val (.int ((XT.ushr x0 (16 : Int32)) &&& (255 : Int32))), .val (.ref a1308), .val (.ref a1323), .val (.int (0 : Int32)), .val (.int (0 : Int32))]) rfl kq) ?_
        show Gwg T1384 m 248 []
        refine gw_st (fun _ kq => XS.iload X1384.here hx rfl (hb hby at_248) rfl kq) ?_
        show Gwg T1384 m 250 [(.int (0 : Int32))]
        refine gw_st (fun _ kq => XS.iload X1384.here hx rfl (hb hby at_250) rfl kq) ?_
        show Gwg T1384 m 252 [(.int (0 : Int32)), (.int (0 : Int32))]
        refine gw_st (fun _ kq => XS.icmpNo X1384.here hx rfl (hb hby at_252) rfl (XT.ii_ne_f (by decide)) kq) ?_
        show Gwg T1384 m 255 []
        refine gw_st (fun _ kq => XS.aload X1384.here hx rfl (hb hby at_255) rfl rfl kq) ?_
        show Gwg T1384 m 257 [(.ref a1323)]
        have c1404 := Fld.keep f1381_1 K1384 nin0
        have z1405 : n0 ≤ T1384.heap.size := Nat.le_trans z1401 K1384.1
        have c1406 := Exa.keep c1402 K1384
        refine gw_callV X1384 hx hZ hml hown (wd hw 78 rfl) (wd hw 79 rfl) (notFace_of_selects (args := #[]) (mvT hZ (wd hw 81 rfl))) (wd hw 81 rfl) (wd hw 80 rfl) (wd hw 82 rfl) (wd hw 3 rfl) rfl c1406 (argsL := []) (rest := []) (W := 0) (met_16 l Z a0 hw a1323 (2 : Int32) T1384.heap n0 z1405 c1404) (hb hby at_257) rfl rfl rfl (lenOf pd9 rfl) (by show 2 * 0 + _ ≤ _; exact Nat.le_of_eq rfl) (by decide) (by decide) (by decide) (by decide) (by decide) ?_
        intro T1403 v1403 L1403 X1403 q1403
        obtain ⟨rfl, M1403, e1403⟩ := q1403
        have N1403 := Fr.app N1384 M1403
        show Gwg T1403 m 260 [(.int (2 : Int32))]
        refine gw_st (fun _ kq => XS.iload X1403.here hx rfl (hb hby at_260) rfl kq) ?_
        show Gwg T1403 m 262 [(.int (2 : Int32)), (.int (2 : Int32))]
        refine gw_st (fun _ kq => XS.icmpNo X1403.here hx rfl (hb hby at_262) rfl (XT.ii_ne_f (by decide)) kq) ?_
        show Gwg T1403 m 265 []
        refine gw_st (fun _ kq => XT.iconstV X1403.here hx rfl (1 : Int32) (hb hby at_265) (by decide) kq) ?_
        show Gwg T1403 m 266 [(.int (1 : Int32))]
        refine gw_st (fun _ kq => XS.goto X1403.here hx rfl (pc0 := 266) (pc' := 270) rfl (hb hby at_266) (by decide) (by decide) kq) ?_
        show Gwg T1403 m 270 [(.int (1 : Int32))]
        exact gw_retB (w := (1 : Int32)) X1403 hx hlk hret (hb hby at_270) (by decide) (by decide) (by decide) ⟨rfl, N1403⟩
      ·exact (own_dk3 _ hk768 hk975 hk1206).elim
   ·by_cases hk1407 : (x2 &&& (3 : Int32)) = (3 : Int32)
    ·rw [hk1407]
     show Gwg T259 m 53 []
     refine gw_st (fun _ kq => XS.iloadN X259.here hx rfl (hb hby at_53) rfl kq) ?_
     show Gwg T259 m 54 [(.int x2)]
     refine gw_st (fun _ kq => XT.iconstV X259.here hx rfl (2 : Int32) (hb hby at_54) (by decide) kq) ?_
     show Gwg T259 m 55 [(.int (2 : Int32)), (.int x2)]
     refine gw_st (fun _ kq => XT.iushr X259.here hx rfl (hb hby at_55) rfl kq) ?_
     show Gwg T259 m 56 [(.int (XT.ushr x2 (2 : Int32)))]
     refine gw_st (fun _ kq => XT.iconstV X259.here hx rfl (3 : Int32) (hb hby at_56) (by decide) kq) ?_
     show Gwg T259 m 57 [(.int (3 : Int32)), (.int (XT.ushr x2 (2 : Int32)))]
     refine gw_st (fun _ kq => XS.iand X259.here hx rfl (hb hby at_57) rfl kq) ?_
     show Gwg T259 m 58 [(.int ((XT.ushr x2 (2 : Int32)) &&& (3 : Int32)))]
     refine gw_st (fun _ kq => XS.iload X259.here hx rfl (hb hby at_58) rfl kq) ?_
     show Gwg T259 m 60 [(.int (3 : Int32)), (.int ((XT.ushr x2 (2 : Int32)) &&& (3 : Int32)))]
     refine gw_st (fun _ kq => XT.iconstV X259.here hx rfl (1 : Int32) (hb hby at_60) (by decide) kq) ?_
     show Gwg T259 m 61 [(.int (1 : Int32)), (.int (3 : Int32)), (.int ((XT.ushr x2 (2 : Int32)) &&& (3 : Int32)))]
     refine gw_st (fun _ kq => XS.iadd X259.here hx rfl (hb hby at_61) rfl kq) ?_
     rw [show ((3 : Int32) + (1 : Int32)) = (4 : Int32) from by decide +kernel]
     show Gwg T259 m 62 [(.int (4 : Int32)), (.int ((XT.ushr x2 (2 : Int32)) &&& (3 : Int32)))]
     refine gw_st (fun _ kq => iremM X259 hx rfl (hb hby at_62) rfl (by decide) kq) ?_
     show Gwg T259 m 63 [(.int (((XT.ushr x2 (2 : Int32)) &&& (3 : Int32)) % (4 : Int32)))]
     refine gw_st (fun _ kq => XS.istore X259.here hx rfl (hb hby at_63) rfl (l' := #[.val (.int x0), .val (.int x1), .val (.int x2), .val (.int (x0 &&& (255 : Int32))), .val (.int ((XT.ushr x0 (8 : Int32)) &&& (255 : Int32))), .val (.int ((XT.ushr x0 (16 : Int32)) &&& (255 : Int32))), .val (.ref a253), .val (.int (3 : Int32)), .val (.int (((XT.ushr x2 (2 : Int32)) &&& (3 : Int32)) % (4 : Int32))), .unset, .unset, .unset, .unset, .unset]) rfl kq) ?_
     show Gwg T259 m 65 []
     by_cases hk1408 : (((XT.ushr x2 (2 : Int32)) &&& (3 : Int32)) % (4 : Int32)) = (0 : Int32)
     ·rw [hk1408]
      show Gwg T259 m 65 []
      refine gw_st (fun _ kq => XS.iloadN X259.here hx rfl (hb hby at_65) rfl kq) ?_
      show Gwg T259 m 66 [(.int x2)]
      refine gw_st (fun _ kq => XT.iconstV X259.here hx rfl (4 : Int32) (hb hby at_66) (by decide) kq) ?_
      show Gwg T259 m 67 [(.int (4 : Int32)), (.int x2)]
      refine gw_st (fun _ kq => XT.iushr X259.here hx rfl (hb hby at_67) rfl kq) ?_
      show Gwg T259 m 68 [(.int (XT.ushr x2 (4 : Int32)))]
      refine gw_st (fun _ kq => XT.iconstV X259.here hx rfl (1 : Int32) (hb hby at_68) (by decide) kq) ?_
      show Gwg T259 m 69 [(.int (1 : Int32)), (.int (XT.ushr x2 (4 : Int32)))]
      refine gw_st (fun _ kq => XS.iand X259.here hx rfl (hb hby at_69) rfl kq) ?_
      show Gwg T259 m 70 [(.int ((XT.ushr x2 (4 : Int32)) &&& (1 : Int32)))]
      by_cases hc1409 : ((XT.ushr x2 (4 : Int32)) &&& (1 : Int32)) = (0 : Int32)
      ·refine gw_st (fun _ kq => XS.ifYes X259.here hx rfl (pc0 := 70) (pc' := 87) rfl (hb hby at_70) rfl (XT.i0_eq_t hc1409) (by decide) (by decide) kq) ?_
       show Gwg T259 m 87 []
       refine gw_st (fun _ kq => XS.iloadN X259.here hx rfl (hb hby at_87) rfl kq) ?_
       show Gwg T259 m 88 [(.int x1)]
       refine gw_st (fun _ kq => XT.i2c X259.here hx rfl (hb hby at_88) rfl kq) ?_
       show Gwg T259 m 89 [(.int x1.toUInt32.toUInt16.toUInt32.toInt32)]
       refine gw_st (fun _ kq => XS.istore X259.here hx rfl (hb hby at_89) rfl (l' := #[.val (.int x0), .val (.int x1), .val (.int x2), .val (.int (x0 &&& (255 : Int32))), .val (.int ((XT.ushr x0 (8 : Int32)) &&& (255 : Int32))), .val (.int ((XT.ushr x0 (16 : Int32)) &&& (255 : Int32))), .val (.ref a253), .val (.int (3 : Int32)), .val (.int (0 : Int32)), .val (.int x1.toUInt32.toUInt16.toUInt32.toInt32), .unset, .unset, .unset, .unset]) rfl kq) ?_
       show Gwg T259 m 91 []
       refine gw_st (fun _ kq => XS.iload X259.here hx rfl (hb hby at_91) rfl kq) ?_
       show Gwg T259 m 93 [(.int (3 : Int32))]
       refine gw_st (fun _ kq => XS.ifYes X259.here hx rfl (pc0 := 93) (pc' := 104) rfl (hb hby at_93) rfl (XT.i0_ne_t (by decide)) (by decide) (by decide) kq) ?_
       show Gwg T259 m 104 []
       refine gw_st (fun _ kq => XS.iload X259.here hx rfl (hb hby at_104) rfl kq) ?_
       show Gwg T259 m 106 [(.int (3 : Int32))]
       refine gw_st (fun _ kq => XT.iconstV X259.here hx rfl (1 : Int32) (hb hby at_106) (by decide) kq) ?_
       show Gwg T259 m 107 [(.int (1 : Int32)), (.int (3 : Int32))]
       refine gw_st (fun _ kq => XS.icmpYes X259.here hx rfl (pc0 := 107) (pc' := 122) rfl (hb hby at_107) rfl (XT.ii_ne_t (by decide)) (by decide) (by decide) kq) ?_
       show Gwg T259 m 122 []
       refine gw_st (fun _ kq => XS.iload X259.here hx rfl (hb hby at_122) rfl kq) ?_
       show Gwg T259 m 124 [(.int (3 : Int32))]
       refine gw_st (fun _ kq => XT.iconstV X259.here hx rfl (2 : Int32) (hb hby at_124) (by decide) kq) ?_
       show Gwg T259 m 125 [(.int (2 : Int32)), (.int (3 : Int32))]
       refine gw_st (fun _ kq => XS.icmpYes X259.here hx rfl (pc0 := 125) (pc' := 145) rfl (hb hby at_125) rfl (XT.ii_ne_t (by decide)) (by decide) (by decide) kq) ?_
       show Gwg T259 m 145 []
       refine gw_st (fun _ kq => XT.iconstV X259.here hx rfl (3 : Int32) (hb hby at_145) (by decide) kq) ?_
       show Gwg T259 m 146 [(.int (3 : Int32))]
       refine gw_newP X259 hx hZ (wd hw 0 rfl) e259 (hb hby at_146) rfl rfl 3 (by decide) 3 (Nat.le_refl _) (by decide) (by decide) (by decide) ?_
       intro T1410 h1410 a1410 g1410 X1410 e1410 E1410 G1410
       have c1415 : a253 < h255.size := (Wr.size W255).symm ▸ lt_a253
       have c1416 : a253 < h257.size := (Wr.size W257).symm ▸ c1415
       have c1417 : a253 < h259.size := (Wr.size W259).symm ▸ c1416
       have ne1418 : a253 ≠ a1410 := fun q => Nat.lt_irrefl _ (Nat.lt_of_lt_of_le c1417 (Nat.le_of_eq (g1410.symm.trans q.symm)))
       have z1419 : n0 ≤ h253.size := Nat.le_trans Z0 E253.1
       have z1420 : n0 ≤ h255.size := (Wr.size W255).symm ▸ z1419
       have z1421 : n0 ≤ h257.size := (Wr.size W257).symm ▸ z1420
       have z1422 : n0 ≤ h259.size := (Wr.size W259).symm ▸ z1421
       have nw_a1410 : n0 ≤ a1410 := Nat.le_trans z1422 (Nat.le_of_eq g1410.symm)
       have lt_a1410 : a1410 < h1410.size := G1410.lt
       have A1410 : GA Z h1410 a1410 .char 3 (fun i => .int (own_c3 (0 : Int32) (0 : Int32) (0 : Int32) i)) := (GA.congr G1410 (fun i _ => own_z3 i))
       show Gwg T1410 m 148 [(.ref a1410)]
       refine gw_st (fun _ kq => XS.dup X1410.here hx rfl (hb hby at_148) rfl rfl kq) ?_
       show Gwg T1410 m 149 [(.ref a1410), (.ref a1410)]
       refine gw_st (fun _ kq => XT.iconstV X1410.here hx rfl (0 : Int32) (hb hby at_149) (by decide) kq) ?_
       show Gwg T1410 m 150 [(.int (0 : Int32)), (.ref a1410), (.ref a1410)]
       refine gw_st (fun _ kq => XS.iloadN X1410.here hx rfl (hb hby at_150) rfl kq) ?_
       show Gwg T1410 m 151 [(.int (x0 &&& (255 : Int32))), (.int (0 : Int32)), (.ref a1410), (.ref a1410)]
       refine gw_cast X1410 hx hZ e1410 A1410 (hb hby at_151) rfl rfl (by decide) ?_
       intro T1423 h1423 X1423 e1423 W1423 G1423
       have N1423 := Fr.snoc X1423 N259 nw_a1410
       have A1423 : GA Z h1423 a1410 .char 3 (fun i => .int (own_c3 (x0 &&& (255 : Int32)) (0 : Int32) (0 : Int32) i)) := (own_stc (own_nc (own_lat _)) (by decide) (own_c30 (x0 &&& (255 : Int32)) (0 : Int32) (0 : Int32) (0 : Int32)) G1423)
       show Gwg T1423 m 152 [(.ref a1410)]
       refine gw_st (fun _ kq => XS.dup X1423.here hx rfl (hb hby at_152) rfl rfl kq) ?_
       show Gwg T1423 m 153 [(.ref a1410), (.ref a1410)]
       refine gw_st (fun _ kq => XT.iconstV X1423.here hx rfl (1 : Int32) (hb hby at_153) (by decide) kq) ?_
       show Gwg T1423 m 154 [(.int (1 : Int32)), (.ref a1410), (.ref a1410)]
       refine gw_st (fun _ kq => XS.iload X1423.here hx rfl (hb hby at_154) rfl kq) ?_
       show Gwg T1423 m 156 [(.int ((XT.ushr x0 (8 : Int32)) &&& (255 : Int32))), (.int (1 : Int32)), (.ref a1410), (.ref a1410)]
       refine gw_cast X1423 hx hZ e1423 A1423 (hb hby at_156) rfl rfl (by decide) ?_
       intro T1424 h1424 X1424 e1424 W1424 G1424
       have N1424 := Fr.snoc X1424 N1423 nw_a1410
       have A1424 : GA Z h1424 a1410 .char 3 (fun i => .int (own_c3 (x0 &&& (255 : Int32)) ((XT.ushr x0 (8 : Int32)) &&& (255 : Int32)) (0 : Int32) i)) := (own_stc (own_nc (own_lat _)) (by decide) (own_c31 ((XT.ushr x0 (8 : Int32)) &&& (255 : Int32)) (x0 &&& (255 : Int32)) (0 : Int32) (0 : Int32)) G1424)
       show Gwg T1424 m 157 [(.ref a1410)]
       refine gw_st (fun _ kq => XS.dup X1424.here hx rfl (hb hby at_157) rfl rfl kq) ?_
       show Gwg T1424 m 158 [(.ref a1410), (.ref a1410)]
       refine gw_st (fun _ kq => XT.iconstV X1424.here hx rfl (2 : Int32) (hb hby at_158) (by decide) kq) ?_
       show Gwg T1424 m 159 [(.int (2 : Int32)), (.ref a1410), (.ref a1410)]
       refine gw_st (fun _ kq => XS.iload X1424.here hx rfl (hb hby at_159) rfl kq) ?_
       show Gwg T1424 m 161 [(.int ((XT.ushr x0 (16 : Int32)) &&& (255 : Int32))), (.int (2 : Int32)), (.ref a1410), (.ref a1410)]
       refine gw_cast X1424 hx hZ e1424 A1424 (hb hby at_161) rfl rfl (by decide) ?_
       intro T1425 h1425 X1425 e1425 W1425 G1425
       have N1425 := Fr.snoc X1425 N1424 nw_a1410
       have A1425 : GA Z h1425 a1410 .char 3 (fun i => .int (own_c3 (x0 &&& (255 : Int32)) ((XT.ushr x0 (8 : Int32)) &&& (255 : Int32)) ((XT.ushr x0 (16 : Int32)) &&& (255 : Int32)) i)) := (own_stc (own_nc (own_lat _)) (by decide) (own_c32 ((XT.ushr x0 (16 : Int32)) &&& (255 : Int32)) (x0 &&& (255 : Int32)) ((XT.ushr x0 (8 : Int32)) &&& (255 : Int32)) (0 : Int32)) G1425)
       show Gwg T1425 m 162 [(.ref a1410)]
       refine gw_st (fun _ kq => XS.astore X1425.here hx rfl (hb hby at_162) rfl rfl (l' := #[.val (.int x0), .val (.int x1), .val (.int x2), .val (.int (x0 &&& (255 : Int32))), .val (.int ((XT.ushr x0 (8 : Int32)) &&& (255 : Int32))), .val (.int ((XT.ushr x0 (16 : Int32)) &&& (255 : Int32))), .val (.ref a253), .val (.int (3 : Int32)), .val (.int (0 : Int32)), .val (.int x1.toUInt32.toUInt16.toUInt32.toInt32), .val (.ref a1410), .unset, .unset, .unset]) rfl kq) ?_
       show Gwg T1425 m 164 []
       refine gw_newO X1425 hx hZ hown (wd hw 1 rfl) (wd hw 2 rfl) (wd hw 3 rfl) e1425 (hb hby at_164) rfl (by decide) (by decide) ?_
       intro T1426 h1426 a1426 g1426 X1426 e1426 E1426 A1426 D1426
       have c1431 : a253 < h1410.size := Nat.lt_of_lt_of_le c1417 E1410.1
       have c1432 : a253 < h1423.size := (Wr.size W1423).symm ▸ c1431
       have c1433 : a253 < h1424.size := (Wr.size W1424).symm ▸ c1432
       have c1434 : a253 < h1425.size := (Wr.size W1425).symm ▸ c1433
       have ne1435 : a253 ≠ a1426 := fun q => Nat.lt_irrefl _ (Nat.lt_of_lt_of_le c1434 (Nat.le_of_eq (g1426.symm.trans q.symm)))
       have c1436 : a1410 < h1423.size := (Wr.size W1423).symm ▸ lt_a1410
       have c1437 : a1410 < h1424.size := (Wr.size W1424).symm ▸ c1436
       have c1438 : a1410 < h1425.size := (Wr.size W1425).symm ▸ c1437
       have z1440 : n0 ≤ h1410.size := Nat.le_trans z1422 E1410.1
       have z1441 : n0 ≤ h1423.size := (Wr.size W1423).symm ▸ z1440
       have z1442 : n0 ≤ h1424.size := (Wr.size W1424).symm ▸ z1441
       have z1443 : n0 ≤ h1425.size := (Wr.size W1425).symm ▸ z1442
       have nw_a1426 : n0 ≤ a1426 := Nat.le_trans z1443 (Nat.le_of_eq g1426.symm)
       have lt_a1426 : a1426 < h1426.size := A1426.lt
       have F1444 : Fld Z h1426 a1426 "com/example/wirecall/wirecall/TextCursor" "text" "Ljava/lang/String;" .null := D1426 (Or.inr (wd hw 38 rfl)) (ty := (.object "java/lang/String")) (by decide)
       have F1445 : Fld Z h1426 a1426 "com/example/wirecall/wirecall/TextCursor" "pos" "I" (.int (0 : Int32)) := D1426 (Or.inl (wd hw 45 rfl)) (ty := .int) (by decide)
       show Gwg T1426 m 167 [(.ref a1426)]
       refine gw_st (fun _ kq => XS.dup X1426.here hx rfl (hb hby at_167) rfl rfl kq) ?_
       show Gwg T1426 m 168 [(.ref a1426), (.ref a1426)]
       refine gw_newO X1426 hx hZ hown (wd hw 4 rfl) (wd hw 5 rfl) (wd hw 6 rfl) e1426 (hb hby at_168) rfl (by decide) (by decide) ?_
       intro T1446 h1446 a1446 g1446 X1446 e1446 E1446 A1446 D1446
       have c1448 : a253 < h1426.size := Nat.lt_of_lt_of_le c1434 E1426.1
       have ne1449 : a253 ≠ a1446 := fun q => Nat.lt_irrefl _ (Nat.lt_of_lt_of_le c1448 (Nat.le_of_eq (g1446.symm.trans q.symm)))
       have c1450 : a1410 < h1426.size := Nat.lt_of_lt_of_le c1438 E1426.1
       have ne1451 : a1410 ≠ a1446 := fun q => Nat.lt_irrefl _ (Nat.lt_of_lt_of_le c1450 (Nat.le_of_eq (g1446.symm.trans q.symm)))
       have ne1452 : a1426 ≠ a1446 := fun q => Nat.lt_irrefl _ (Nat.lt_of_lt_of_le lt_a1426 (Nat.le_of_eq (g1446.symm.trans q.symm)))
       have z1453 : n0 ≤ h1426.size := Nat.le_trans z1443 E1426.1
       have nw_a1446 : n0 ≤ a1446 := Nat.le_trans z1453 (Nat.le_of_eq g1446.symm)
       have F1454 : Fld Z h1446 a1446 "java/lang/String" "coder" "B" (.int (0 : Int32)) := D1446 (Or.inr (wd hw 30 rfl)) (ty := .byte) (by decide)
       have F1455 : Fld Z h1446 a1446 "java/lang/String" "value" "[B" .null := D1446 (Or.inr (wd hw 32 rfl)) (ty := (.array .byte)) (by decide)
       show Gwg T1446 m 171 [(.ref a1446), (.ref a1426), (.ref a1426)]
       refine gw_st (fun _ kq => XS.dup X1446.here hx rfl (hb hby at_171) rfl rfl kq) ?_
       show Gwg T1446 m 172 [(.ref a1446), (.ref a1446), (.ref a1426), (.ref a1426)]
       refine gw_st (fun _ kq => XS.aload X1446.here hx rfl (hb hby at_172) rfl rfl kq) ?_
       show Gwg T1446 m 174 [(.ref a1410), (.ref a1446), (.ref a1446), (.ref a1426), (.ref a1426)]
       have c1457 := A1425.ext E1426
       have c1458 := c1457.ext E1446
       have c1459 := Old.ext O0 E253
       have c1460 := Old.wr c1459 W255 nw_a253
       have c1461 := Old.wr c1460 W257 nw_a253
       have c1462 := Old.wr c1461 W259 nw_a253
       have c1463 := Old.ext c1462 E1410
       have c1464 := Old.wr c1463 W1423 nw_a1410
       have c1465 := Old.wr c1464 W1424 nw_a1410
       have c1466 := Old.wr c1465 W1425 nw_a1410
       have c1467 := Old.ext c1466 E1426
       have c1468 := Old.ext c1467 E1446
       have z1469 : n0 ≤ h1446.size := Nat.le_trans z1453 E1446.1
       refine gw_callI X1446 hx hZ hml hown rfl (wd hw 7 rfl) (wd hw 8 rfl) (wd hw 9 rfl) (wd hw 6 rfl) e1446 (argsL := [(.ref a1410)]) (rest := [(.ref a1446), (.ref a1426), (.ref a1426)]) (W := 3) (met_s3 l Z a0 hw a1446 a1410 (x0 &&& (255 : Int32)) ((XT.ushr x0 (8 : Int32)) &&& (255 : Int32)) ((XT.ushr x0 (16 : Int32)) &&& (255 : Int32)) zc h1446 n0 z1469 A1446 F1455 F1454 nw_a1446 c1458 (Ne.symm ne1451) (own_lat _) (own_lat _) (own_lat _) c1468 S0 zn) (hb hby at_174) rfl rfl rfl (lenOf pd11 rfl) (by show 2 * 0 + _ ≤ _; exact Nat.le_of_eq rfl) (by decide) (by decide) (by decide) (by decide) (by decide) ?_
       intro T1456 v1456 L1456 X1456 q1456
       obtain ⟨r_1456, rfl, M1456, K1456, fz1456_r, f1456_0, f1456_1, f1456_2, f1456_3⟩ := q1456
       have N1456 := Fr.app N1425 M1456
       have c1474 : a1426 < h1446.size := Nat.lt_of_lt_of_le lt_a1426 E1446.1
       have ne1475 : a1426 ≠ r_1456 := Nat.ne_of_lt (Nat.lt_of_lt_of_le c1474 fz1456_r)
       show Gwg T1456 m 177 [(.ref a1446), (.ref a1426), (.ref a1426)]
       have c1479 := Exa.ext E1446 A1426
       have c1480 := Exa.keep c1479 K1456
       have c1481 := Fld.ext E1446 F1444
       have c1482 := Fld.keep c1481 K1456 (ninS ne1452 nin0)
       have c1483 := Fld.ext E1446 F1445
       have c1484 := Fld.keep c1483 K1456 (ninS ne1452 nin0)
       have z1485 : n0 ≤ T1456.heap.size := Nat.le_trans z1469 K1456.1
       refine gw_callI X1456 hx hZ hml hown rfl (wd hw 33 rfl) (wd hw 34 rfl) (wd hw 35 rfl) (wd hw 3 rfl) rfl (argsL := [(.ref a1446)]) (rest := [(.ref a1426)]) (W := 1) (met_tci l Z a0 hw a1426 a1446 T1456.heap n0 z1485 c1480 c1482 c1484 nw_a1426) (hb hby at_177) rfl rfl rfl (lenOf pd12 rfl) (by show 2 * 0 + _ ≤ _; exact Nat.le_of_eq rfl) (by decide) (by decide) (by decide) (by decide) (by decide) ?_
       intro T1478 v1478 L1478 X1478 q1478
       obtain ⟨rfl, M1478, K1478, f1478_0, f1478_1⟩ := q1478
       have N1478 := Fr.app N1456 M1478
       show Gwg T1478 m 180 [(.ref a1426)]
       refine gw_st (fun _ kq => XS.astore X1478.here hx rfl (hb hby at_180) rfl rfl (l' := #[.val (.int x0), .val (.int x1), .val (.int x2), .val (.int (x0 &&& (255 : Int32))), .val (.int ((XT.ushr x0 (8 : Int32)) &&& (255 : Int32))), .val (.int ((XT.ushr x0 (16 : Int32)) &&& (255 : Int32))), .val (.ref a253), .val (.int (3 : Int32)), .val (.int (0 : Int32)), .val (.int x1.toUInt32.toUInt16.toUInt32.toInt32), .val (.ref a1410), .val (.ref a1426), .unset, .unset]) rfl kq) ?_
       show Gwg T1478 m 182 []
       refine gw_st (fun _ kq => XS.iload X1478.here hx rfl (hb hby at_182) rfl kq) ?_
       show Gwg T1478 m 184 [(.int (0 : Int32))]
       refine gw_st (fun _ kq => XT.iconstV X1478.here hx rfl (1 : Int32) (hb hby at_184) (by decide) kq) ?_
       show Gwg T1478 m 185 [(.int (1 : Int32)), (.int (0 : Int32))]
       refine gw_st (fun _ kq => XS.icmpYes X1478.here hx rfl (pc0 := 185) (pc' := 193) rfl (hb hby at_185) rfl (XT.ii_lt_t (by decide)) (by decide) (by decide) kq) ?_
       show Gwg T1478 m 193 []
       refine gw_st (fun _ kq => XS.iload X1478.here hx rfl (hb hby at_193) rfl kq) ?_
       show Gwg T1478 m 195 [(.int (0 : Int32))]
       refine gw_st (fun _ kq => XT.iconstV X1478.here hx rfl (2 : Int32) (hb hby at_195) (by decide) kq) ?_
       show Gwg T1478 m 196 [(.int (2 : Int32)), (.int (0 : Int32))]
       refine gw_st (fun _ kq => XS.icmpYes X1478.here hx rfl (pc0 := 196) (pc' := 204) rfl (hb hby at_196) rfl (XT.ii_lt_t (by decide)) (by decide) (by decide) kq) ?_
       show Gwg T1478 m 204 []
       refine gw_st (fun _ kq => XS.iload X1478.here hx rfl (hb hby at_204) rfl kq) ?_
       show Gwg T1478 m 206 [(.int (0 : Int32))]
       refine gw_st (fun _ kq => XT.iconstV X1478.here hx rfl (3 : Int32) (hb hby at_206) (by decide) kq) ?_
       show Gwg T1478 m 207 [(.int (3 : Int32)), (.int (0 : Int32))]
       refine gw_st (fun _ kq => XS.icmpYes X1478.here hx rfl (pc0 := 207) (pc' := 215) rfl (hb hby at_207) rfl (XT.ii_lt_t (by decide)) (by decide) (by decide) kq) ?_
       show Gwg T1478 m 215 []
       refine gw_st (fun _ kq => XS.aload X1478.here hx rfl (hb hby at_215) rfl rfl kq) ?_
       show Gwg T1478 m 217 [(.ref a1426)]
       refine gw_st (fun _ kq => XS.iload X1478.here hx rfl (hb hby at_217) rfl kq) ?_
       show Gwg T1478 m 219 [(.int x1.toUInt32.toUInt16.toUInt32.toInt32), (.ref a1426)]
       by_cases hc1486 : (x0 &&& (255 : Int32)) = x1.toUInt32.toUInt16.toUInt32.toInt32
       ·show Gwg T1478 m 219 [(.int x1.toUInt32.toUInt16.toUInt32.toInt32), (.ref a1426)]
        have c1488 := Exa.keep f1456_0 K1478
        have c1489 := Fld.keep f1456_1 K1478 (ninS (Ne.symm ne1452) nin0)
        have c1490 := Fld.keep f1456_2 K1478 (ninS (Ne.symm ne1452) nin0)
        have c1491 := GA.keep f1456_3 K1478 (ninS (Ne.symm ne1475) nin0)
        have c1492 := Old.keep c1468 K1456 (allS nw_a1446 all0)
        have c1493 := Old.keep c1492 K1478 (allS nw_a1426 all0)
        have z1494 : n0 ≤ T1478.heap.size := Nat.le_trans z1485 K1478.1
        have c1495 := Exa.keep c1480 K1478
        refine gw_callV X1478 hx hZ hml hown (wd hw 39 rfl) (wd hw 40 rfl) (notFace_of_selects (args := #[]) (mvT hZ (wd hw 42 rfl))) (wd hw 42 rfl) (wd hw 41 rfl) (wd hw 43 rfl) (wd hw 3 rfl) rfl c1495 (argsL := [(.int x1.toUInt32.toUInt16.toUInt32.toInt32)]) (rest := []) (W := 0) (met_pk30t l Z a0 hw a1426 a1446 r_1456 (x0 &&& (255 : Int32)) ((XT.ushr x0 (8 : Int32)) &&& (255 : Int32)) ((XT.ushr x0 (16 : Int32)) &&& (255 : Int32)) x1.toUInt32.toUInt16.toUInt32.toInt32 zc vf rf T1478.heap n0 z1494 f1478_1 f1478_0 c1488 c1489 c1490 c1491 (own_lat _) (own_lat _) (own_lat _) c1493 S0 zn S1 hc1486) (hb hby at_219) rfl rfl rfl (lenOf pd13 rfl) (by show 2 * 0 + _ ≤ _; exact Nat.le_of_eq rfl) (by decide) (by decide) (by decide) (by decide) (by decide) ?_
        intro T1487 v1487 L1487 X1487 q1487
        obtain ⟨rfl, M1487, K1487⟩ := q1487
        have N1487 := Fr.app N1478 M1487
        show Gwg T1487 m 222 [(.int (1 : Int32))]
        refine gw_st (fun _ kq => XS.istore X1487.here hx rfl (hb hby at_222) rfl (l' := #[.val (.int x0), .val (.int x1), .val (.int x2), .val (.int (x0 &&& (255 : Int32))), .val (.int ((XT.ushr x0 (8 : Int32)) &&& (255 : Int32))), .val (.int ((XT.ushr x0 (16 : Int32)) &&& (255 : Int32))), .val (.ref a253), .val (.int (3 : Int32)), .val (.int (0 : Int32)), .val (.int x1.toUInt32.toUInt16.toUInt32.toInt32), .val (.ref a1410), .val (.ref a1426), .val (.int (1 : Int32)), .unset]) rfl kq) ?_
        show Gwg T1487 m 224 []
        refine gw_st (fun _ kq => XS.iload X1487.here hx rfl (hb hby at_224) rfl kq) ?_
        show Gwg T1487 m 226 [(.int (0 : Int32))]
        refine gw_st (fun _ kq => XS.iload X1487.here hx rfl (hb hby at_226) rfl kq) ?_
        show Gwg T1487 m 228 [(.int (3 : Int32)), (.int (0 : Int32))]
        refine gw_st (fun _ kq => XS.icmpNo X1487.here hx rfl (hb hby at_228) rfl (XT.ii_ge_f (by decide)) kq) ?_
        show Gwg T1487 m 231 []
        refine gw_st (fun _ kq => XS.aload X1487.here hx rfl (hb hby at_231) rfl rfl kq) ?_
        show Gwg T1487 m 233 [(.ref a253)]
        refine gw_st (fun _ kq => XS.iload X1487.here hx rfl (hb hby at_233) rfl kq) ?_
        show Gwg T1487 m 235 [(.int (0 : Int32)), (.ref a253)]
        have c1496 := A259.ext E1410
        have c1497 := c1496.other W1423 ne1418
        have c1498 := c1497.other W1424 ne1418
        have c1499 := c1498.other W1425 ne1418
        have c1500 := c1499.ext E1426
        have c1501 := c1500.ext E1446
        have c1502 := GA.keep c1501 K1456 (ninS ne1449 nin0)
        have c1503 := GA.keep c1502 K1478 (ninS ne1435 nin0)
        have c1504 := GA.keep c1503 K1487 nin0
        refine gw_cald X1487 hx hZ rfl c1504 (hb hby at_235) rfl rfl (by decide) (.int (x0 &&& (255 : Int32))) rfl ?_
        show Gwg T1487 m 236 [(.int (x0 &&& (255 : Int32)))]
        refine gw_st (fun _ kq => XS.iload X1487.here hx rfl (hb hby at_236) rfl kq) ?_
        show Gwg T1487 m 238 [(.int x1.toUInt32.toUInt16.toUInt32.toInt32), (.int (x0 &&& (255 : Int32)))]
        refine gw_st (fun _ kq => XS.icmpNo X1487.here hx rfl (hb hby at_238) rfl (XT.ii_ne_f hc1486) kq) ?_
        show Gwg T1487 m 241 []
        refine gw_st (fun _ kq => XT.iconstV X1487.here hx rfl (1 : Int32) (hb hby at_241) (by decide) kq) ?_
        show Gwg T1487 m 242 [(.int (1 : Int32))]
        refine gw_st (fun _ kq => XS.goto X1487.here hx rfl (pc0 := 242) (pc' := 246) rfl (hb hby at_242) (by decide) (by decide) kq) ?_
        show Gwg T1487 m 246 [(.int (1 : Int32))]
        refine gw_st (fun _ kq => XS.istore X1487.here hx rfl (hb hby at_246) rfl (l' := #[.val (.int x0), .val (.int x1), .val (.int x2), .val (.int (x0 &&& (255 : Int32))), .val (.int ((XT.ushr x0 (8 : Int32)) &&& (255 : Int32))), .val (.int ((XT.ushr x0 (16 : Int32)) &&& (255 : Int32))), .val (.ref a253), .val (.int (3 : Int32)), .val (.int (0 : Int32)), .val (.int x1.toUInt32.toUInt16.toUInt32.toInt32), .val (.ref a1410), .val (.ref a1426), .val (.int (1 : Int32)), .val (.int (1 : Int32))]) rfl kq) ?_
        show Gwg T1487 m 248 []
        refine gw_st (fun _ kq => XS.iload X1487.here hx rfl (hb hby at_248) rfl kq) ?_
        show Gwg T1487 m 250 [(.int (1 : Int32))]
        refine gw_st (fun _ kq => XS.iload X1487.here hx rfl (hb hby at_250) rfl kq) ?_
        show Gwg T1487 m 252 [(.int (1 : Int32)), (.int (1 : Int32))]
        refine gw_st (fun _ kq => XS.icmpNo X1487.here hx rfl (hb hby at_252) rfl (XT.ii_ne_f (by decide)) kq) ?_
        show Gwg T1487 m 255 []
        refine gw_st (fun _ kq => XS.aload X1487.here hx rfl (hb hby at_255) rfl rfl kq) ?_
        show Gwg T1487 m 257 [(.ref a1426)]
        have c1506 := Fld.keep f1478_1 K1487 nin0
        have z1507 : n0 ≤ T1487.heap.size := Nat.le_trans z1494 K1487.1
        have c1508 := Exa.keep c1495 K1487
        refine gw_callV X1487 hx hZ hml hown (wd hw 78 rfl) (wd hw 79 rfl) (notFace_of_selects (args := #[]) (mvT hZ (wd hw 81 rfl))) (wd hw 81 rfl) (wd hw 80 rfl) (wd hw 82 rfl) (wd hw 3 rfl) rfl c1508 (argsL := []) (rest := []) (W := 0) (met_16 l Z a0 hw a1426 (0 : Int32) T1487.heap n0 z1507 c1506) (hb hby at_257) rfl rfl rfl (lenOf pd9 rfl) (by show 2 * 0 + _ ≤ _; exact Nat.le_of_eq rfl) (by decide) (by decide) (by decide) (by decide) (by decide) ?_
        intro T1505 v1505 L1505 X1505 q1505
        obtain ⟨rfl, M1505, e1505⟩ := q1505
        have N1505 := Fr.app N1487 M1505
        show Gwg T1505 m 260 [(.int (0 : Int32))]
        refine gw_st (fun _ kq => XS.iload X1505.here hx rfl (hb hby at_260) rfl kq) ?_
        show Gwg T1505 m 262 [(.int (0 : Int32)), (.int (0 : Int32))]
        refine gw_st (fun _ kq => XS.icmpNo X1505.here hx rfl (hb hby at_262) rfl (XT.ii_ne_f (by decide)) kq) ?_
        show Gwg T1505 m 265 []
        refine gw_st (fun _ kq => XT.iconstV X1505.here hx rfl (1 : Int32) (hb hby at_265) (by decide) kq) ?_
        show Gwg T1505 m 266 [(.int (1 : Int32))]
        refine gw_st (fun _ kq => XS.goto X1505.here hx rfl (pc0 := 266) (pc' := 270) rfl (hb hby at_266) (by decide) (by decide) kq) ?_
        show Gwg T1505 m 270 [(.int (1 : Int32))]
        exact gw_retB (w := (1 : Int32)) X1505 hx hlk hret (hb hby at_270) (by decide) (by decide) (by decide) ⟨rfl, N1505⟩
       ·show Gwg T1478 m 219 [(.int x1.toUInt32.toUInt16.toUInt32.toInt32), (.ref a1426)]
        have c1510 := Exa.keep f1456_0 K1478
        have c1511 := Fld.keep f1456_1 K1478 (ninS (Ne.symm ne1452) nin0)
        have c1512 := Fld.keep f1456_2 K1478 (ninS (Ne.symm ne1452) nin0)
        have c1513 := GA.keep f1456_3 K1478 (ninS (Ne.symm ne1475) nin0)
        have c1514 := Old.keep c1468 K1456 (allS nw_a1446 all0)
        have c1515 := Old.keep c1514 K1478 (allS nw_a1426 all0)
        have z1516 : n0 ≤ T1478.heap.size := Nat.le_trans z1485 K1478.1
        have c1517 := Exa.keep c1480 K1478
        refine gw_callV X1478 hx hZ hml hown (wd hw 39 rfl) (wd hw 40 rfl) (notFace_of_selects (args := #[]) (mvT hZ (wd hw 42 rfl))) (wd hw 42 rfl) (wd hw 41 rfl) (wd hw 43 rfl) (wd hw 3 rfl) rfl c1517 (argsL := [(.int x1.toUInt32.toUInt16.toUInt32.toInt32)]) (rest := []) (W := 0) (met_pk30f l Z a0 hw a1426 a1446 r_1456 (x0 &&& (255 : Int32)) ((XT.ushr x0 (8 : Int32)) &&& (255 : Int32)) ((XT.ushr x0 (16 : Int32)) &&& (255 : Int32)) x1.toUInt32.toUInt16.toUInt32.toInt32 zc vf rf T1478.heap n0 z1516 f1478_1 f1478_0 c1510 c1511 c1512 c1513 (own_lat _) (own_lat _) (own_lat _) c1515 S0 zn S1 hc1486) (hb hby at_219) rfl rfl rfl (lenOf pd13 rfl) (by show 2 * 0 + _ ≤ _; exact Nat.le_of_eq rfl) (by decide) (by decide) (by decide) (by decide) (by decide) ?_
        intro T1509 v1509 L1509 X1509 q1509
        obtain ⟨rfl, M1509, K1509⟩ := q1509
        have N1509 := Fr.app N1478 M1509
        show Gwg T1509 m 222 [(.int (0 : Int32))]
        refine gw_st (fun _ kq => XS.istore X1509.here hx rfl (hb hby at_222) rfl (l' := #[.val (.int x0), .val (.int x1), .val (.int x2), .val (.int (x0 &&& (255 : Int32))), .val (.int ((XT.ushr x0 (8 : Int32)) &&& (255 : Int32))), .val (.int ((XT.ushr x0 (16 : Int32)) &&& (255 : Int32))), .val (.ref a253), .val (.int (3 : Int32)), .val (.int (0 : Int32)), .val (.int x1.toUInt32.toUInt16.toUInt32.toInt32), .val (.ref a1410), .val (.ref a1426), .val (.int (0 : Int32)), .unset]) rfl kq) ?_
        show Gwg T1509 m 224 []
        refine gw_st (fun _ kq => XS.iload X1509.here hx rfl (hb hby at_224) rfl kq) ?_
        show Gwg T1509 m 226 [(.int (0 : Int32))]
        refine gw_st (fun _ kq => XS.iload X1509.here hx rfl (hb hby at_226) rfl kq) ?_
        show Gwg T1509 m 228 [(.int (3 : Int32)), (.int (0 : Int32))]
        refine gw_st (fun _ kq => XS.icmpNo X1509.here hx rfl (hb hby at_228) rfl (XT.ii_ge_f (by decide)) kq) ?_
        show Gwg T1509 m 231 []
        refine gw_st (fun _ kq => XS.aload X1509.here hx rfl (hb hby at_231) rfl rfl kq) ?_
        show Gwg T1509 m 233 [(.ref a253)]
        refine gw_st (fun _ kq => XS.iload X1509.here hx rfl (hb hby at_233) rfl kq) ?_
        show Gwg T1509 m 235 [(.int (0 : Int32)), (.ref a253)]
        have c1518 := A259.ext E1410
        have c1519 := c1518.other W1423 ne1418
        have c1520 := c1519.other W1424 ne1418
        have c1521 := c1520.other W1425 ne1418
        have c1522 := c1521.ext E1426
        have c1523 := c1522.ext E1446
        have c1524 := GA.keep c1523 K1456 (ninS ne1449 nin0)
        have c1525 := GA.keep c1524 K1478 (ninS ne1435 nin0)
        have c1526 := GA.keep c1525 K1509 nin0
        refine gw_cald X1509 hx hZ rfl c1526 (hb hby at_235) rfl rfl (by decide) (.int (x0 &&& (255 : Int32))) rfl ?_
        show Gwg T1509 m 236 [(.int (x0 &&& (255 : Int32)))]
        refine gw_st (fun _ kq => XS.iload X1509.here hx rfl (hb hby at_236) rfl kq) ?_
        show Gwg T1509 m 238 [(.int x1.toUInt32.toUInt16.toUInt32.toInt32), (.int (x0 &&& (255 : Int32)))]
        refine gw_st (fun _ kq => XS.icmpYes X1509.here hx rfl (pc0 := 238) (pc' := 245) rfl (hb hby at_238) rfl (XT.ii_ne_t hc1486) (by decide) (by decide) kq) ?_
        show Gwg T1509 m 245 []
        refine gw_st (fun _ kq => XT.iconstV X1509.here hx rfl (0 : Int32) (hb hby at_245) (by decide) kq) ?_
        show Gwg T1509 m 246 [(.int (0 : Int32))]
        refine gw_st (fun _ kq => XS.istore X1509.here hx rfl (hb hby at_246) rfl (l' := #[.val (.int x0), .val (.int x1), .val (.int x2), .val (.int (x0 &&& (255 : Int32))), .val (.int ((XT.ushr x0 (8 : Int32)) &&& (255 : Int32))), .val (.int ((XT.ushr x0 (16 : Int32)) &&& (255 : Int32))), .val (.ref a253), .val (.int (3 : Int32)), .val (.int (0 : Int32)), .val (.int x1.toUInt32.toUInt16.toUInt32.toInt32), .val (.ref a1410), .val (.ref a1426), .val (.int (0 : Int32)), .val (.int (0 : Int32))]) rfl kq) ?_
        show Gwg T1509 m 248 []
        refine gw_st (fun _ kq => XS.iload X1509.here hx rfl (hb hby at_248) rfl kq) ?_
        show Gwg T1509 m 250 [(.int (0 : Int32))]
        refine gw_st (fun _ kq => XS.iload X1509.here hx rfl (hb hby at_250) rfl kq) ?_
        show Gwg T1509 m 252 [(.int (0 : Int32)), (.int (0 : Int32))]
        refine gw_st (fun _ kq => XS.icmpNo X1509.here hx rfl (hb hby at_252) rfl (XT.ii_ne_f (by decide)) kq) ?_
        show Gwg T1509 m 255 []
        refine gw_st (fun _ kq => XS.aload X1509.here hx rfl (hb hby at_255) rfl rfl kq) ?_
        show Gwg T1509 m 257 [(.ref a1426)]
        have c1528 := Fld.keep f1478_1 K1509 nin0
        have z1529 : n0 ≤ T1509.heap.size := Nat.le_trans z1516 K1509.1
        have c1530 := Exa.keep c1517 K1509
        refine gw_callV X1509 hx hZ hml hown (wd hw 78 rfl) (wd hw 79 rfl) (notFace_of_selects (args := #[]) (mvT hZ (wd hw 81 rfl))) (wd hw 81 rfl) (wd hw 80 rfl) (wd hw 82 rfl) (wd hw 3 rfl) rfl c1530 (argsL := []) (rest := []) (W := 0) (met_16 l Z a0 hw a1426 (0 : Int32) T1509.heap n0 z1529 c1528) (hb hby at_257) rfl rfl rfl (lenOf pd9 rfl) (by show 2 * 0 + _ ≤ _; exact Nat.le_of_eq rfl) (by decide) (by decide) (by decide) (by decide) (by decide) ?_
        intro T1527 v1527 L1527 X1527 q1527
        obtain ⟨rfl, M1527, e1527⟩ := q1527
        have N1527 := Fr.app N1509 M1527
        show Gwg T1527 m 260 [(.int (0 : Int32))]
        refine gw_st (fun _ kq => XS.iload X1527.here hx rfl (hb hby at_260) rfl kq) ?_
        show Gwg T1527 m 262 [(.int (0 : Int32)), (.int (0 : Int32))]
        refine gw_st (fun _ kq => XS.icmpNo X1527.here hx rfl (hb hby at_262) rfl (XT.ii_ne_f (by decide)) kq) ?_
        show Gwg T1527 m 265 []
        refine gw_st (fun _ kq => XT.iconstV X1527.here hx rfl (1 : Int32) (hb hby at_265) (by decide) kq) ?_
        show Gwg T1527 m 266 [(.int (1 : Int32))]
        refine gw_st (fun _ kq => XS.goto X1527.here hx rfl (pc0 := 266) (pc' := 270) rfl (hb hby at_266) (by decide) (by decide) kq) ?_
        show Gwg T1527 m 270 [(.int (1 : Int32))]
        exact gw_retB (w := (1 : Int32)) X1527 hx hlk hret (hb hby at_270) (by decide) (by decide) (by decide) ⟨rfl, N1527⟩
      ·refine gw_st (fun _ kq => XS.ifNo X259.here hx rfl (hb hby at_70) rfl (XT.i0_eq_f hc1409) kq) ?_
       show Gwg T259 m 73 []
       refine gw_st (fun _ kq => XS.aload X259.here hx rfl (hb hby at_73) rfl rfl kq) ?_
       show Gwg T259 m 75 [(.ref a253)]
       refine gw_st (fun _ kq => XS.iload X259.here hx rfl (hb hby at_75) rfl kq) ?_
       show Gwg T259 m 77 [(.int (0 : Int32)), (.ref a253)]
       refine gw_st (fun _ kq => XT.iconstV X259.here hx rfl (2 : Int32) (hb hby at_77) (by decide) kq) ?_
       show Gwg T259 m 78 [(.int (2 : Int32)), (.int (0 : Int32)), (.ref a253)]
       refine gw_callS X259 hx hZ hml hown (wd hw 88 rfl) (wd hw 89 rfl) (wd hw 90 rfl) (wd hw 91 rfl) e259 (argsL := [(.int (0 : Int32)), (.int (2 : Int32))]) (rest := [(.ref a253)]) (W := 1) (met_18 l Z a0 hw (0 : Int32) (2 : Int32) h259 n0) (hb hby at_78) rfl rfl rfl (lenOf pd14 rfl) (by show 2 * 0 + _ ≤ _; exact Nat.le_of_eq rfl) (by decide) (by decide) (by decide) (by decide) (by decide) ?_
       intro T1531 v1531 L1531 X1531 q1531
       obtain ⟨rfl, M1531, e1531⟩ := q1531
       have N1531 := Fr.app N259 M1531
       rw [show (fMin (0 : Int32) (2 : Int32)) = (0 : Int32) from by decide +kernel]
       show Gwg T1531 m 81 [(.int (0 : Int32)), (.ref a253)]
       refine gw_cald X1531 hx hZ e1531 A259 (hb hby at_81) rfl rfl (by decide) (.int (x0 &&& (255 : Int32))) rfl ?_
       show Gwg T1531 m 82 [(.int (x0 &&& (255 : Int32)))]
       refine gw_st (fun _ kq => XS.istore X1531.here hx rfl (hb hby at_82) rfl (l' := #[.val (.int x0), .val (.int x1), .val (.int x2), .val (.int (x0 &&& (255 : Int32))), .val (.int ((XT.ushr x0 (8 : Int32)) &&& (255 : Int32))), .val (.int ((XT.ushr x0 (16 : Int32)) &&& (255 : Int32))), .val (.ref a253), .val (.int (3 : Int32)), .val (.int (0 : Int32)), .val (.int (x0 &&& (255 : Int32))), .unset, .unset, .unset, .unset]) rfl kq) ?_
       show Gwg T1531 m 84 []
       refine gw_st (fun _ kq => XS.goto X1531.here hx rfl (pc0 := 84) (pc' := 91) rfl (hb hby at_84) (by decide) (by decide) kq) ?_
       show Gwg T1531 m 91 []
       refine gw_st (fun _ kq => XS.iload X1531.here hx rfl (hb hby at_91) rfl kq) ?_
       show Gwg T1531 m 93 [(.int (3 : Int32))]
       refine gw_st (fun _ kq => XS.ifYes X1531.here hx rfl (pc0 := 93) (pc' := 104) rfl (hb hby at_93) rfl (XT.i0_ne_t (by decide)) (by decide) (by decide) kq) ?_
       show Gwg T1531 m 104 []
       refine gw_st (fun _ kq => XS.iload X1531.here hx rfl (hb hby at_104) rfl kq) ?_
       show Gwg T1531 m 106 [(.int (3 : Int32))]
       refine gw_st (fun _ kq => XT.iconstV X1531.here hx rfl (1 : Int32) (hb hby at_106) (by decide) kq) ?_
       show Gwg T1531 m 107 [(.int (1 : Int32)), (.int (3 : Int32))]
       refine gw_st (fun _ kq => XS.icmpYes X1531.here hx rfl (pc0 := 107) (pc' := 122) rfl (hb hby at_107) rfl (XT.ii_ne_t (by decide)) (by decide) (by decide) kq) ?_
       show Gwg T1531 m 122 []
       refine gw_st (fun _ kq => XS.iload X1531.here hx rfl (hb hby at_122) rfl kq) ?_
       show Gwg T1531 m 124 [(.int (3 : Int32))]
       refine gw_st (fun _ kq => XT.iconstV X1531.here hx rfl (2 : Int32) (hb hby at_124) (by decide) kq) ?_
       show Gwg T1531 m 125 [(.int (2 : Int32)), (.int (3 : Int32))]
       refine gw_st (fun _ kq => XS.icmpYes X1531.here hx rfl (pc0 := 125) (pc' := 145) rfl (hb hby at_125) rfl (XT.ii_ne_t (by decide)) (by decide) (by decide) kq) ?_
       show Gwg T1531 m 145 []
       refine gw_st (fun _ kq => XT.iconstV X1531.here hx rfl (3 : Int32) (hb hby at_145) (by decide) kq) ?_
       show Gwg T1531 m 146 [(.int (3 : Int32))]
       refine gw_newP X1531 hx hZ (wd hw 0 rfl) e1531 (hb hby at_146) rfl rfl 3 (by decide) 3 (Nat.le_refl _) (by decide) (by decide) (by decide) ?_
       intro T1532 h1532 a1532 g1532 X1532 e1532 E1532 G1532
       have c1537 : a253 < h255.size := (Wr.size W255).symm ▸ lt_a253
       have c1538 : a253 < h257.size := (Wr.size W257).symm ▸ c1537
       have c1539 : a253 < h259.size := (Wr.size W259).symm ▸ c1538
       have ne1540 : a253 ≠ a1532 := fun q => Nat.lt_irrefl _ (Nat.lt_of_lt_of_le c1539 (Nat.le_of_eq (g1532.symm.trans q.symm)))
       have z1541 : n0 ≤ h253.size := Nat.le_trans Z0 E253.1
       have z1542 : n0 ≤ h255.size := (Wr.size W255).symm ▸ z1541
       have z1543 : n0 ≤ h257.size := (Wr.size W257).symm ▸ z1542
       have z1544 : n0 ≤ h259.size := (Wr.size W259).symm ▸ z1543
       have nw_a1532 : n0 ≤ a1532 := Nat.le_trans z1544 (Nat.le_of_eq g1532.symm)
       have lt_a1532 : a1532 < h1532.size := G1532.lt
       have A1532 : GA Z h1532 a1532 .char 3 (fun i => .int (own_c3 (0 : Int32) (0 : Int32) (0 : Int32) i)) := (GA.congr G1532 (fun i _ => own_z3 i))
       show Gwg T1532 m 148 [(.ref a1532)]
       refine gw_st (fun _ kq => XS.dup X1532.here hx rfl (hb hby at_148) rfl rfl kq) ?_
       show Gwg T1532 m 149 [(.ref a1532), (.ref a1532)]
       refine gw_st (fun _ kq => XT.iconstV X1532.here hx rfl (0 : Int32) (hb hby at_149) (by decide) kq) ?_
       show Gwg T1532 m 150 [(.int (0 : Int32)), (.ref a1532), (.ref a1532)]
       refine gw_st (fun _ kq => XS.iloadN X1532.here hx rfl (hb hby at_150) rfl kq) ?_
       show Gwg T1532 m 151 [(.int (x0 &&& (255 : Int32))), (.int (0 : Int32)), (.ref a1532), (.ref a1532)]
       refine gw_cast X1532 hx hZ e1532 A1532 (hb hby at_151) rfl rfl (by decide) ?_
       intro T1545 h1545 X1545 e1545 W1545 G1545
       have N1545 := Fr.snoc X1545 N1531 nw_a1532
       have A1545 : GA Z h1545 a1532 .char 3 (fun i => .int (own_c3 (x0 &&& (255 : Int32)) (0 : Int32) (0 : Int32) i)) := (own_stc (own_nc (own_lat _)) (by decide) (own_c30 (x0 &&& (255 : Int32)) (0 : Int32) (0 : Int32) (0 : Int32)) G1545)
       show Gwg T1545 m 152 [(.ref a1532)]
       refine gw_st (fun _ kq => XS.dup X1545.here hx rfl (hb hby at_152) rfl rfl kq) ?_
       show Gwg T1545 m 153 [(.ref a1532), (.ref a1532)]
       refine gw_st (fun _ kq => XT.iconstV X1545.here hx rfl (1 : Int32) (hb hby at_153) (by decide) kq) ?_
       show Gwg T1545 m 154 [(.int (1 : Int32)), (.ref a1532), (.ref a1532)]
       refine gw_st (fun _ kq => XS.iload X1545.here hx rfl (hb hby at_154) rfl kq) ?_
       show Gwg T1545 m 156 [(.int ((XT.ushr x0 (8 : Int32)) &&& (255 : Int32))), (.int (1 : Int32)), (.ref a1532), (.ref a1532)]
       refine gw_cast X1545 hx hZ e1545 A1545 (hb hby at_156) rfl rfl (by decide) ?_
       intro T1546 h1546 X1546 e1546 W1546 G1546
       have N1546 := Fr.snoc X1546 N1545 nw_a1532
       have A1546 : GA Z h1546 a1532 .char 3 (fun i => .int (own_c3 (x0 &&& (255 : Int32)) ((XT.ushr x0 (8 : Int32)) &&& (255 : Int32)) (0 : Int32) i)) := (own_stc (own_nc (own_lat _)) (by decide) (own_c31 ((XT.ushr x0 (8 : Int32)) &&& (255 : Int32)) (x0 &&& (255 : Int32)) (0 : Int32) (0 : Int32)) G1546)
       show Gwg T1546 m 157 [(.ref a1532)]
       refine gw_st (fun _ kq => XS.dup X1546.here hx rfl (hb hby at_157) rfl rfl kq) ?_
       show Gwg T1546 m 158 [(.ref a1532), (.ref a1532)]
       refine gw_st (fun _ kq => XT.iconstV X1546.here hx rfl (2 : Int32) (hb hby at_158) (by decide) kq) ?_
       show Gwg T1546 m 159 [(.int (2 : Int32)), (.ref a1532), (.ref a1532)]
       refine gw_st (fun _ kq => XS.iload X1546.here hx rfl (hb hby at_159) rfl kq) ?_
       show Gwg T1546 m 161 [(.int ((XT.ushr x0 (16 : Int32)) &&& (255 : Int32))), (.int (2 : Int32)), (.ref a1532), (.ref a1532)]
       refine gw_cast X1546 hx hZ e1546 A1546 (hb hby at_161) rfl rfl (by decide) ?_
       intro T1547 h1547 X1547 e1547 W1547 G1547
       have N1547 := Fr.snoc X1547 N1546 nw_a1532
       have A1547 : GA Z h1547 a1532 .char 3 (fun i => .int (own_c3 (x0 &&& (255 : Int32)) ((XT.ushr x0 (8 : Int32)) &&& (255 : Int32)) ((XT.ushr x0 (16 : Int32)) &&& (255 : Int32)) i)) := (own_stc (own_nc (own_lat _)) (by decide) (own_c32 ((XT.ushr x0 (16 : Int32)) &&& (255 : Int32)) (x0 &&& (255 : Int32)) ((XT.ushr x0 (8 : Int32)) &&& (255 : Int32)) (0 : Int32)) G1547)
       show Gwg T1547 m 162 [(.ref a1532)]
       refine gw_st (fun _ kq => XS.astore X1547.here hx rfl (hb hby at_162) rfl rfl (l' := #[.val (.int x0), .val (.int x1), .val (.int x2), .val (.int (x0 &&& (255 : Int32))), .val (.int ((XT.ushr x0 (8 : Int32)) &&& (255 : Int32))), .val (.int ((XT.ushr x0 (16 : Int32)) &&& (255 : Int32))), .val (.ref a253), .val (.int (3 : Int32)), .val (.int (0 : Int32)), .val (.int (x0 &&& (255 : Int32))), .val (.ref a1532), .unset, .unset, .unset]) rfl kq) ?_
       show Gwg T1547 m 164 []
       refine gw_newO X1547 hx hZ hown (wd hw 1 rfl) (wd hw 2 rfl) (wd hw 3 rfl) e1547 (hb hby at_164) rfl (by decide) (by decide) ?_
       intro T1548 h1548 a1548 g1548 X1548 e1548 E1548 A1548 D1548
       have c1553 : a253 < h1532.size := Nat.lt_of_lt_of_le c1539 E1532.1
       have c1554 : a253 < h1545.size := (Wr.size W1545).symm ▸ c1553
       have c1555 : a253 < h1546.size := (Wr.size W1546).symm ▸ c1554
       have c1556 : a253 < h1547.size := (Wr.size W1547).symm ▸ c1555
       have ne1557 : a253 ≠ a1548 := fun q => Nat.lt_irrefl _ (Nat.lt_of_lt_of_le c1556 (Nat.le_of_eq (g1548.symm.trans q.symm)))
       have c1558 : a1532 < h1545.size := (Wr.size W1545).symm ▸ lt_a1532
       have c1559 : a1532 < h1546.size := (Wr.size W1546).symm ▸ c1558
       have c1560 : a1532 < h1547.size := (Wr.size W1547).symm ▸ c1559
       have z1562 : n0 ≤ h1532.size := Nat.le_trans z1544 E1532.1
       have z1563 : n0 ≤ h1545.size := (Wr.size W1545).symm ▸ z1562
       have z1564 : n0 ≤ h1546.size := (Wr.size W1546).symm ▸ z1563
       have z1565 : n0 ≤ h1547.size := (Wr.size W1547).symm ▸ z1564
       have nw_a1548 : n0 ≤ a1548 := Nat.le_trans z1565 (Nat.le_of_eq g1548.symm)
       have lt_a1548 : a1548 < h1548.size := A1548.lt
       have F1566 : Fld Z h1548 a1548 "com/example/wirecall/wirecall/TextCursor" "text" "Ljava/lang/String;" .null := D1548 (Or.inr (wd hw 38 rfl)) (ty := (.object "java/lang/String")) (by decide)
       have F1567 : Fld Z h1548 a1548 "com/example/wirecall/wirecall/TextCursor" "pos" "I" (.int (0 : Int32)) := D1548 (Or.inl (wd hw 45 rfl)) (ty := .int) (by decide)
       show Gwg T1548 m 167 [(.ref a1548)]
       refine gw_st (fun _ kq => XS.dup X1548.here hx rfl (hb hby at_167) rfl rfl kq) ?_
       show Gwg T1548 m 168 [(.ref a1548), (.ref a1548)]
       refine gw_newO X1548 hx hZ hown (wd hw 4 rfl) (wd hw 5 rfl) (wd hw 6 rfl) e1548 (hb hby at_168) rfl (by decide) (by decide) ?_
       intro T1568 h1568 a1568 g1568 X1568 e1568 E1568 A1568 D1568
       have c1570 : a253 < h1548.size := Nat.lt_of_lt_of_le c1556 E1548.1
       have ne1571 : a253 ≠ a1568 := fun q => Nat.lt_irrefl _ (Nat.lt_of_lt_of_le c1570 (Nat.le_of_eq (g1568.symm.trans q.symm)))
       have c1572 : a1532 < h1548.size := Nat.lt_of_lt_of_le c1560 E1548.1
       have ne1573 : a1532 ≠ a1568 := fun q => Nat.lt_irrefl _ (Nat.lt_of_lt_of_le c1572 (Nat.le_of_eq (g1568.symm.trans q.symm)))
       have ne1574 : a1548 ≠ a1568 := fun q => Nat.lt_irrefl _ (Nat.lt_of_lt_of_le lt_a1548 (Nat.le_of_eq (g1568.symm.trans q.symm)))
       have z1575 : n0 ≤ h1548.size := Nat.le_trans z1565 E1548.1
       have nw_a1568 : n0 ≤ a1568 := Nat.le_trans z1575 (Nat.le_of_eq g1568.symm)
       have F1576 : Fld Z h1568 a1568 "java/lang/String" "coder" "B" (.int (0 : Int32)) := D1568 (Or.inr (wd hw 30 rfl)) (ty := .byte) (by decide)
       have F1577 : Fld Z h1568 a1568 "java/lang/String" "value" "[B" .null := D1568 (Or.inr (wd hw 32 rfl)) (ty := (.array .byte)) (by decide)
       show Gwg T1568 m 171 [(.ref a1568), (.ref a1548), (.ref a1548)]
       refine gw_st (fun _ kq => XS.dup X1568.here hx rfl (hb hby at_171) rfl rfl kq) ?_
       show Gwg T1568 m 172 [(.ref a1568), (.ref a1568), (.ref a1548), (.ref a1548)]
       refine gw_st (fun _ kq => XS.aload X1568.here hx rfl (hb hby at_172) rfl rfl kq) ?_
       show Gwg T1568 m 174 [(.ref a1532), (.ref a1568), (.ref a1568), (.ref a1548), (.ref a1548)]
       have c1579 := A1547.ext E1548
       have c1580 := c1579.ext E1568
       have c1581 := Old.ext O0 E253
       have c1582 := Old.wr c1581 W255 nw_a253
       have c1583 := Old.wr c1582 W257 nw_a253
       have c1584 := Old.wr c1583 W259 nw_a253
       have c1585 := Old.ext c1584 E1532
       have c1586 := Old.wr c1585 W1545 nw_a1532
       have c1587 := Old.wr c1586 W1546 nw_a1532
       have c1588 := Old.wr c1587 W1547 nw_a1532
       have c1589 := Old.ext c1588 E1548
       have c1590 := Old.ext c1589 E1568
       have z1591 : n0 ≤ h1568.size := Nat.le_trans z1575 E1568.1
       refine gw_callI X1568 hx hZ hml hown rfl (wd hw 7 rfl) (wd hw 8 rfl) (wd hw 9 rfl) (wd hw 6 rfl) e1568 (argsL := [(.ref a1532)]) (rest := [(.ref a1568), (.ref a1548), (.ref a1548)]) (W := 3) (met_s3 l Z a0 hw a1568 a1532 (x0 &&& (255 : Int32)) ((XT.ushr x0 (8 : Int32)) &&& (255 : Int32)) ((XT.ushr x0 (16 : Int32)) &&& (255 : Int32)) zc h1568 n0 z1591 A1568 F1577 F1576 nw_a1568 c1580 (Ne.symm ne1573) (own_lat _) (own_lat _) (own_lat _) c1590 S0 zn) (hb hby at_174) rfl rfl rfl (lenOf pd11 rfl) (by show 2 * 0 + _ ≤ _; exact Nat.le_of_eq rfl) (by decide) (by decide) (by decide) (by decide) (by decide) ?_
       intro T1578 v1578 L1578 X1578 q1578
       obtain ⟨r_1578, rfl, M1578, K1578, fz1578_r, f1578_0, f1578_1, f1578_2, f1578_3⟩ := q1578
       have N1578 := Fr.app N1547 M1578
       have c1596 : a1548 < h1568.size := Nat.lt_of_lt_of_le lt_a1548 E1568.1
       have ne1597 : a1548 ≠ r_1578 := Nat.ne_of_lt (Nat.lt_of_lt_of_le c1596 fz1578_r)
       show Gwg T1578 m 177 [(.ref a1568), (.ref a1548), (.ref a1548)]
       have c1601 := Exa.ext E1568 A1548
       have c1602 := Exa.keep c1601 K1578
       have c1603 := Fld.ext E1568 F1566
       have c1604 := Fld.keep c1603 K1578 (ninS ne1574 nin0)
       have c1605 := Fld.ext E1568 F1567
       have c1606 := Fld.keep c1605 K1578 (ninS ne1574 nin0)
       have z1607 : n0 ≤ T1578.heap.size := Nat.le_trans z1591 K1578.1
       refine gw_callI X1578 hx hZ hml hown rfl (wd hw 33 rfl) (wd hw 34 rfl) (wd hw 35 rfl) (wd hw 3 rfl) rfl (argsL := [(.ref a1568)]) (rest := [(.ref a1548)]) (W := 1) (met_tci l Z a0 hw a1548 a1568 T1578.heap n0 z1607 c1602 c1604 c1606 nw_a1548) (hb hby at_177) rfl rfl rfl (lenOf pd12 rfl) (by show 2 * 0 + _ ≤ _; exact Nat.le_of_eq rfl) (by decide) (by decide) (by decide) (by decide) (by decide) ?_
       intro T1600 v1600 L1600 X1600 q1600
       obtain ⟨rfl, M1600, K1600, f1600_0, f1600_1⟩ := q1600
       have N1600 := Fr.app N1578 M1600
       show Gwg T1600 m 180 [(.ref a1548)]
       refine gw_st (fun _ kq => XS.astore X1600.here hx rfl (hb hby at_180) rfl rfl (l' := #[.val (.int x0), .val (.int x1), .val (.int x2), .val (.int (x0 &&& (255 : Int32))), .val (.int ((XT.ushr x0 (8 : Int32)) &&& (255 : Int32))), .val (.int ((XT.ushr x0 (16 : Int32)) &&& (255 : Int32))), .val (.ref a253), .val (.int (3 : Int32)), .val (.int (0 : Int32)), .val (.int (x0 &&& (255 : Int32))), .val (.ref a1532), .val (.ref a1548), .unset, .unset]) rfl kq) ?_
       show Gwg T1600 m 182 []
       refine gw_st (fun _ kq => XS.iload X1600.here hx rfl (hb hby at_182) rfl kq) ?_
       show Gwg T1600 m 184 [(.int (0 : Int32))]
       refine gw_st (fun _ kq => XT.iconstV X1600.here hx rfl (1 : Int32) (hb hby at_184) (by decide) kq) ?_
       show Gwg T1600 m 185 [(.int (1 : Int32)), (.int (0 : Int32))]
       refine gw_st (fun _ kq => XS.icmpYes X1600.here hx rfl (pc0 := 185) (pc' := 193) rfl (hb hby at_185) rfl (XT.ii_lt_t (by decide)) (by decide) (by decide) kq) ?_
       show Gwg T1600 m 193 []
       refine gw_st (fun _ kq => XS.iload X1600.here hx rfl (hb hby at_193) rfl kq) ?_
       show Gwg T1600 m 195 [(.int (0 : Int32))]
       refine gw_st (fun _ kq => XT.iconstV X1600.here hx rfl (2 : Int32) (hb hby at_195) (by decide) kq) ?_
       show Gwg T1600 m 196 [(.int (2 : Int32)), (.int (0 : Int32))]
       refine gw_st (fun _ kq => XS.icmpYes X1600.here hx rfl (pc0 := 196) (pc' := 204) rfl (hb hby at_196) rfl (XT.ii_lt_t (by decide)) (by decide) (by decide) kq) ?_
       show Gwg T1600 m 204 []
       refine gw_st (fun _ kq => XS.iload X1600.here hx rfl (hb hby at_204) rfl kq) ?_
       show Gwg T1600 m 206 [(.int (0 : Int32))]
       refine gw_st (fun _ kq => XT.iconstV X1600.here hx rfl (3 : Int32) (hb hby at_206) (by decide) kq) ?_
       show Gwg T1600 m 207 [(.int (3 : Int32)), (.int (0 : Int32))]
       refine gw_st (fun _ kq => XS.icmpYes X1600.here hx rfl (pc0 := 207) (pc' := 215) rfl (hb hby at_207) rfl (XT.ii_lt_t (by decide)) (by decide) (by decide) kq) ?_
       show Gwg T1600 m 215 []
       refine gw_st (fun _ kq => XS.aload X1600.here hx rfl (hb hby at_215) rfl rfl kq) ?_
       show Gwg T1600 m 217 [(.ref a1548)]
       refine gw_st (fun _ kq => XS.iload X1600.here hx rfl (hb hby at_217) rfl kq) ?_
       show Gwg T1600 m 219 [(.int (x0 &&& (255 : Int32))), (.ref a1548)]
       have c1609 := Exa.keep f1578_0 K1600
       have c1610 := Fld.keep f1578_1 K1600 (ninS (Ne.symm ne1574) nin0)
       have c1611 := Fld.keep f1578_2 K1600 (ninS (Ne.symm ne1574) nin0)
       have c1612 := GA.keep f1578_3 K1600 (ninS (Ne.symm ne1597) nin0)
       have c1613 := Old.keep c1590 K1578 (allS nw_a1568 all0)
       have c1614 := Old.keep c1613 K1600 (allS nw_a1548 all0)
       have z1615 : n0 ≤ T1600.heap.size := Nat.le_trans z1607 K1600.1
       have c1616 := Exa.keep c1602 K1600
       refine gw_callV X1600 hx hZ hml hown (wd hw 39 rfl) (wd hw 40 rfl) (notFace_of_selects (args := #[]) (mvT hZ (wd hw 42 rfl))) (wd hw 42 rfl) (wd hw 41 rfl) (wd hw 43 rfl) (wd hw 3 rfl) rfl c1616 (argsL := [(.int (x0 &&& (255 : Int32)))]) (rest := []) (W := 0) (met_pk30t l Z a0 hw a1548 a1568 r_1578 (x0 &&& (255 : Int32)) ((XT.ushr x0 (8 : Int32)) &&& (255 : Int32)) ((XT.ushr x0 (16 : Int32)) &&& (255 : Int32)) (x0 &&& (255 : Int32)) zc vf rf T1600.heap n0 z1615 f1600_1 f1600_0 c1609 c1610 c1611 c1612 (own_lat _) (own_lat _) (own_lat _) c1614 S0 zn S1 rfl) (hb hby at_219) rfl rfl rfl (lenOf pd13 rfl) (by show 2 * 0 + _ ≤ _; exact Nat.le_of_eq rfl) (by decide) (by decide) (by decide) (by decide) (by decide) ?_
       intro T1608 v1608 L1608 X1608 q1608
       obtain ⟨rfl, M1608, K1608⟩ := q1608
       have N1608 := Fr.app N1600 M1608
       show Gwg T1608 m 222 [(.int (1 : Int32))]
       refine gw_st (fun _ kq => XS.istore X1608.here hx rfl (hb hby at_222) rfl (l' := #[.val (.int x0), .val (.int x1), .val (.int x2), .val (.int (x0 &&& (255 : Int32))), .val (.int ((XT.ushr x0 (8 : Int32)) &&& (255 : Int32))), .val (.int ((XT.ushr x0 (16 : Int32)) &&& (255 : Int32))), .val (.ref a253), .val (.int (3 : Int32)), .val (.int (0 : Int32)), .val (.int (x0 &&& (255 : Int32))), .val (.ref a1532), .val (.ref a1548), .val (.int (1 : Int32)), .unset]) rfl kq) ?_
       show Gwg T1608 m 224 []
       refine gw_st (fun _ kq => XS.iload X1608.here hx rfl (hb hby at_224) rfl kq) ?_
       show Gwg T1608 m 226 [(.int (0 : Int32))]
       refine gw_st (fun _ kq => XS.iload X1608.here hx rfl (hb hby at_226) rfl kq) ?_
       show Gwg T1608 m 228 [(.int (3 : Int32)), (.int (0 : Int32))]
       refine gw_st (fun _ kq => XS.icmpNo X1608.here hx rfl (hb hby at_228) rfl (XT.ii_ge_f (by decide)) kq) ?_
       show Gwg T1608 m 231 []
       refine gw_st (fun _ kq => XS.aload X1608.here hx rfl (hb hby at_231) rfl rfl kq) ?_
       show Gwg T1608 m 233 [(.ref a253)]
       refine gw_st (fun _ kq => XS.iload X1608.here hx rfl (hb hby at_233) rfl kq) ?_
       show Gwg T1608 m 235 [(.int (0 : Int32)), (.ref a253)]
       have c1617 := A259.ext E1532
       have c1618 := c1617.other W1545 ne1540
       have c1619 := c1618.other W1546 ne1540
       have c1620 := c1619.other W1547 ne1540
       have c1621 := c1620.ext E1548
       have c1622 := c1621.ext E1568
       have c1623 := GA.keep c1622 K1578 (ninS ne1571 nin0)
       have c1624 := GA.keep c1623 K1600 (ninS ne1557 nin0)
       have c1625 := GA.keep c1624 K1608 nin0
       refine gw_cald X1608 hx hZ rfl c1625 (hb hby at_235) rfl rfl (by decide) (.int (x0 &&& (255 : Int32))) rfl ?_
       show Gwg T1608 m 236 [(.int (x0 &&& (255 : Int32)))]
       refine gw_st (fun _ kq => XS.iload X1608.here hx rfl (hb hby at_236) rfl kq) ?_
       show Gwg T1608 m 238 [(.int (x0 &&& (255 : Int32))), (.int (x0 &&& (255 : Int32)))]
       refine gw_st (fun _ kq => XS.icmpNo X1608.here hx rfl (hb hby at_238) rfl (XT.ii_ne_f rfl) kq) ?_
       show Gwg T1608 m 241 []
       refine gw_st (fun _ kq => XT.iconstV X1608.here hx rfl (1 : Int32) (hb hby at_241) (by decide) kq) ?_
       show Gwg T1608 m 242 [(.int (1 : Int32))]
       refine gw_st (fun _ kq => XS.goto X1608.here hx rfl (pc0 := 242) (pc' := 246) rfl (hb hby at_242) (by decide) (by decide) kq) ?_
       show Gwg T1608 m 246 [(.int (1 : Int32))]
       refine gw_st (fun _ kq => XS.istore X1608.here hx rfl (hb hby at_246) rfl (l' := #[.val (.int x0), .val (.int x1), .val (.int x2), .val (.int (x0 &&& (255 : Int32))), .val (.int ((XT.ushr x0 (8 : Int32)) &&& (255 : Int32))), .val (.int ((XT.ushr x0 (16 : Int32)) &&& (255 : Int32))), .val (.ref a253), .val (.int (3 : Int32)), .val (.int (0 : Int32)), .val (.int (x0 &&& (255 : Int32))), .val (.ref a1532), .val (.ref a1548), .val (.int (1 : Int32)), .val (.int (1 : Int32))]) rfl kq) ?_
       show Gwg T1608 m 248 []
       refine gw_st (fun _ kq => XS.iload X1608.here hx rfl (hb hby at_248) rfl kq) ?_
       show Gwg T1608 m 250 [(.int (1 : Int32))]
       refine gw_st (fun _ kq => XS.iload X1608.here hx rfl (hb hby at_250) rfl kq) ?_
       show Gwg T1608 m 252 [(.int (1 : Int32)), (.int (1 : Int32))]
       refine gw_st (fun _ kq => XS.icmpNo X1608.here hx rfl (hb hby at_252) rfl (XT.ii_ne_f (by decide)) kq) ?_
       show Gwg T1608 m 255 []
       refine gw_st (fun _ kq => XS.aload X1608.here hx rfl (hb hby at_255) rfl rfl kq) ?_
       show Gwg T1608 m 257 [(.ref a1548)]
       have c1627 := Fld.keep f1600_1 K1608 nin0
       have z1628 : n0 ≤ T1608.heap.size := Nat.le_trans z1615 K1608.1
       have c1629 := Exa.keep c1616 K1608
       refine gw_callV X1608 hx hZ hml hown (wd hw 78 rfl) (wd hw 79 rfl) (notFace_of_selects (args := #[]) (mvT hZ (wd hw 81 rfl))) (wd hw 81 rfl) (wd hw 80 rfl) (wd hw 82 rfl) (wd hw 3 rfl) rfl c1629 (argsL := []) (rest := []) (W := 0) (met_16 l Z a0 hw a1548 (0 : Int32) T1608.heap n0 z1628 c1627) (hb hby at_257) rfl rfl rfl (lenOf pd9 rfl) (by show 2 * 0 + _ ≤ _; exact Nat.le_of_eq rfl) (by decide) (by decide) (by decide) (by decide) (by decide) ?_
       intro T1626 v1626 L1626 X1626 q1626
       obtain ⟨rfl, M1626, e1626⟩ := q1626
       have N1626 := Fr.app N1608 M1626
       show Gwg T1626 m 260 [(.int (0 : Int32))]
       refine gw_st (fun _ kq => XS.iload X1626.here hx rfl (hb hby at_260) rfl kq) ?_
       show Gwg T1626 m 262 [(.int (0 : Int32)), (.int (0 : Int32))]
       refine gw_st (fun _ kq => XS.icmpNo X1626.here hx rfl (hb hby at_262) rfl (XT.ii_ne_f (by decide)) kq) ?_
       show Gwg T1626 m 265 []
       refine gw_st (fun _ kq => XT.iconstV X1626.here hx rfl (1 : Int32) (hb hby at_265) (by decide) kq) ?_
       show Gwg T1626 m 266 [(.int (1 : Int32))]
       refine gw_st (fun _ kq => XS.goto X1626.here hx rfl (pc0 := 266) (pc' := 270) rfl (hb hby at_266) (by decide) (by decide) kq) ?_
       show Gwg T1626 m 270 [(.int (1 : Int32))]
       exact gw_retB (w := (1 : Int32)) X1626 hx hlk hret (hb hby at_270) (by decide) (by decide) (by decide) ⟨rfl, N1626⟩
     ·by_cases hk1630 : (((XT.ushr x2 (2 : Int32)) &&& (3 : Int32)) % (4 : Int32)) = (1 : Int32)
      ·rw [hk1630]
       show Gwg T259 m 65 []
       refine gw_st (fun _ kq => XS.iloadN X259.here hx rfl (hb hby at_65) rfl kq) ?_
       show Gwg T259 m 66 [(.int x2)]
       refine gw_st (fun _ kq => XT.iconstV X259.here hx rfl (4 : Int32) (hb hby at_66) (by decide) kq) ?_
       show Gwg T259 m 67 [(.int (4 : Int32)), (.int x2)]
       refine gw_st (fun _ kq => XT.iushr X259.here hx rfl (hb hby at_67) rfl kq) ?_
       show Gwg T259 m 68 [(.int (XT.ushr x2 (4 : Int32)))]
       refine gw_st (fun _ kq => XT.iconstV X259.here hx rfl (1 : Int32) (hb hby at_68) (by decide) kq) ?_
       show Gwg T259 m 69 [(.int (1 : Int32)), (.int (XT.ushr x2 (4 : Int32)))]
       refine gw_st (fun _ kq => XS.iand X259.here hx rfl (hb hby at_69) rfl kq) ?_
       show Gwg T259 m 70 [(.int ((XT.ushr x2 (4 : Int32)) &&& (1 : Int32)))]
       by_cases hc1631 : ((XT.ushr x2 (4 : Int32)) &&& (1 : Int32)) = (0 : Int32)
       ·refine gw_st (fun _ kq => XS.ifYes X259.here hx rfl (pc0 := 70) (pc' := 87) rfl (hb hby at_70) rfl (XT.i0_eq_t hc1631) (by decide) (by decide) kq) ?_
        show Gwg T259 m 87 []
        refine gw_st (fun _ kq => XS.iloadN X259.here hx rfl (hb hby at_87) rfl kq) ?_
        show Gwg T259 m 88 [(.int x1)]
        refine gw_st (fun _ kq => XT.i2c X259.here hx rfl (hb hby at_88) rfl kq) ?_
        show Gwg T259 m 89 [(.int x1.toUInt32.toUInt16.toUInt32.toInt32)]
        refine gw_st (fun _ kq => XS.istore X259.here hx rfl (hb hby at_89) rfl (l' := #[.val (.int x0), .val (.int x1), .val (.int x2), .val (.int (x0 &&& (255 : Int32))), .val (.int ((XT.ushr x0 (8 : Int32)) &&& (255 : Int32))), .val (.int ((XT.ushr x0 (16 : Int32)) &&& (255 : Int32))), .val (.ref a253), .val (.int (3 : Int32)), .val (.int (1 : Int32)), .val (.int x1.toUInt32.toUInt16.toUInt32.toInt32), .unset, .unset, .unset, .unset]) rfl kq) ?_
        show Gwg T259 m 91 []
        refine gw_st (fun _ kq => XS.iload X259.here hx rfl (hb hby at_91) rfl kq) ?_
        show Gwg T259 m 93 [(.int (3 : Int32))]
        refine gw_st (fun _ kq => XS.ifYes X259.here hx rfl (pc0 := 93) (pc' := 104) rfl (hb hby at_93) rfl (XT.i0_ne_t (by decide)) (by decide) (by decide) kq) ?_
        show Gwg T259 m 104 []
        refine gw_st (fun _ kq => XS.iload X259.here hx rfl (hb hby at_104) rfl kq) ?_
        show Gwg T259 m 106 [(.int (3 : Int32))]
        refine gw_st (fun _ kq => XT.iconstV X259.here hx rfl (1 : Int32) (hb hby at_106) (by decide) kq) ?_
        show Gwg T259 m 107 [(.int (1 : Int32)), (.int (3 : Int32))]
        refine gw_st (fun _ kq => XS.icmpYes X259.here hx rfl (pc0 := 107) (pc' := 122) rfl (hb hby at_107) rfl (XT.ii_ne_t (by decide)) (by decide) (by decide) kq) ?_
        show Gwg T259 m 122 []
        refine gw_st (fun _ kq => XS.iload X259.here hx rfl (hb hby at_122) rfl kq) ?_
        show Gwg T259 m 124 [(.int (3 : Int32))]
        refine gw_st (fun _ kq => XT.iconstV X259.here hx rfl (2 : Int32) (hb hby at_124) (by decide) kq) ?_
        show Gwg T259 m 125 [(.int (2 : Int32)), (.int (3 : Int32))]
        refine gw_st (fun _ kq => XS.icmpYes X259.here hx rfl (pc0 := 125) (pc' := 145) rfl (hb hby at_125) rfl (XT.ii_ne_t (by decide)) (by decide) (by decide) kq) ?_
        show Gwg T259 m 145 []
        refine gw_st (fun _ kq => XT.iconstV X259.here hx rfl (3 : Int32) (hb hby at_145) (by decide) kq) ?_
        show Gwg T259 m 146 [(.int (3 : Int32))]
        refine gw_newP X259 hx hZ (wd hw 0 rfl) e259 (hb hby at_146) rfl rfl 3 (by decide) 3 (Nat.le_refl _) (by decide) (by decide) (by decide) ?_
        intro T1632 h1632 a1632 g1632 X1632 e1632 E1632 G1632
        have c1637 : a253 < h255.size := (Wr.size W255).symm ▸ lt_a253
        have c1638 : a253 < h257.size := (Wr.size W257).symm ▸ c1637
        have c1639 : a253 < h259.size := (Wr.size W259).symm ▸ c1638
        have ne1640 : a253 ≠ a1632 := fun q => Nat.lt_irrefl _ (Nat.lt_of_lt_of_le c1639 (Nat.le_of_eq (g1632.symm.trans q.symm)))
        have z1641 : n0 ≤ h253.size := Nat.le_trans Z0 E253.1
        have z1642 : n0 ≤ h255.size := (Wr.size W255).symm ▸ z1641
        have z1643 : n0 ≤ h257.size := (Wr.size W257).symm ▸ z1642
        have z1644 : n0 ≤ h259.size := (Wr.size W259).symm ▸ z1643
        have nw_a1632 : n0 ≤ a1632 := Nat.le_trans z1644 (Nat.le_of_eq g1632.symm)
        have lt_a1632 : a1632 < h1632.size := G1632.lt
        have A1632 : GA Z h1632 a1632 .char 3 (fun i => .int (own_c3 (0 : Int32) (0 : Int32) (0 : Int32) i)) := (GA.congr G1632 (fun i _ => own_z3 i))
        show Gwg T1632 m 148 [(.ref a1632)]
        refine gw_st (fun _ kq => XS.dup X1632.here hx rfl (hb hby at_148) rfl rfl kq) ?_
        show Gwg T1632 m 149 [(.ref a1632), (.ref a1632)]
        refine gw_st (fun _ kq => XT.iconstV X1632.here hx rfl (0 : Int32) (hb hby at_149) (by decide) kq) ?_
        show Gwg T1632 m 150 [(.int (0 : Int32)), (.ref a1632), (.ref a1632)]
        refine gw_st (fun _ kq => XS.iloadN X1632.here hx rfl (hb hby at_150) rfl kq) ?_
        show Gwg T1632 m 151 [(.int (x0 &&& (255 : Int32))), (.int (0 : Int32)), (.ref a1632), (.ref a1632)]
        refine gw_cast X1632 hx hZ e1632 A1632 (hb hby at_151) rfl rfl (by decide) ?_
        intro T1645 h1645 X1645 e1645 W1645 G1645
        have N1645 := Fr.snoc X1645 N259 nw_a1632
        have A1645 : GA Z h1645 a1632 .char 3 (fun i => .int (own_c3 (x0 &&& (255 : Int32)) (0 : Int32) (0 : Int32) i)) := (own_stc (own_nc (own_lat _)) (by decide) (own_c30 (x0 &&& (255 : Int32)) (0 : Int32) (0 : Int32) (0 : Int32)) G1645)
        show Gwg T1645 m 152 [(.ref a1632)]
        refine gw_st (fun _ kq => XS.dup X1645.here hx rfl (hb hby at_152) rfl rfl kq) ?_
        show Gwg T1645 m 153 [(.ref a1632), (.ref a1632)]
        refine gw_st (fun _ kq => XT.iconstV X1645.here hx rfl (1 : Int32) (hb hby at_153) (by decide) kq) ?_
        show Gwg T1645 m 154 [(.int (1 : Int32)), (.ref a1632), (.ref a1632)]
        refine gw_st (fun _ kq => XS.iload X1645.here hx rfl (hb hby at_154) rfl kq) ?_
        show Gwg T1645 m 156 [(.int ((XT.ushr x0 (8 : Int32)) &&& (255 : Int32))), (.int (1 : Int32)), (.ref a1632), (.ref a1632)]
        refine gw_cast X1645 hx hZ e1645 A1645 (hb hby at_156) rfl rfl (by decide) ?_
        intro T1646 h1646 X1646 e1646 W1646 G1646
        have N1646 := Fr.snoc X1646 N1645 nw_a1632
        have A1646 : GA Z h1646 a1632 .char 3 (fun i => .int (own_c3 (x0 &&& (255 : Int32)) ((XT.ushr x0 (8 : Int32)) &&& (255 : Int32)) (0 : Int32) i)) := (own_stc (own_nc (own_lat _)) (by decide) (own_c31 ((XT.ushr x0 (8 : Int32)) &&& (255 : Int32)) (x0 &&& (255 : Int32)) (0 : Int32) (0 : Int32)) G1646)
        show Gwg T1646 m 157 [(.ref a1632)]
        refine gw_st (fun _ kq => XS.dup X1646.here hx rfl (hb hby at_157) rfl rfl kq) ?_
        show Gwg T1646 m 158 [(.ref a1632), (.ref a1632)]
        refine gw_st (fun _ kq => XT.iconstV X1646.here hx rfl (2 : Int32) (hb hby at_158) (by decide) kq) ?_
        show Gwg T1646 m 159 [(.int (2 : Int32)), (.ref a1632), (.ref a1632)]
        refine gw_st (fun _ kq => XS.iload X1646.here hx rfl (hb hby at_159) rfl kq) ?_
        show Gwg T1646 m 161 [(.int ((XT.ushr x0 (16 : Int32)) &&& (255 : Int32))), (.int (2 : Int32)), (.ref a1632), (.ref a1632)]
        refine gw_cast X1646 hx hZ e1646 A1646 (hb hby at_161) rfl rfl (by decide) ?_
        intro T1647 h1647 X1647 e1647 W1647 G1647
        have N1647 := Fr.snoc X1647 N1646 nw_a1632
        have A1647 : GA Z h1647 a1632 .char 3 (fun i => .int (own_c3 (x0 &&& (255 : Int32)) ((XT.ushr x0 (8 : Int32)) &&& (255 : Int32)) ((XT.ushr x0 (16 : Int32)) &&& (255 : Int32)) i)) := (own_stc (own_nc (own_lat _)) (by decide) (own_c32 ((XT.ushr x0 (16 : Int32)) &&& (255 : Int32)) (x0 &&& (255 : Int32)) ((XT.ushr x0 (8 : Int32)) &&& (255 : Int32)) (0 : Int32)) G1647)
        show Gwg T1647 m 162 [(.ref a1632)]
        refine gw_st (fun _ kq => XS.astore X1647.here hx rfl (hb hby at_162) rfl rfl (l' := #[.val (.int x0), .val (.int x1), .val (.int x2), .val (.int (x0 &&& (255 : Int32))), .val (.int ((XT.ushr x0 (8 : Int32)) &&& (255 : Int32))), .val (.int ((XT.ushr x0 (16 : Int32)) &&& (255 : Int32))), .val (.ref a253), .val (.int (3 : Int32)), .val (.int (1 : Int32)), .val (.int x1.toUInt32.toUInt16.toUInt32.toInt32), .val (.ref a1632), .unset, .unset, .unset]) rfl kq) ?_
        show Gwg T1647 m 164 []
        refine gw_newO X1647 hx hZ hown (wd hw 1 rfl) (wd hw 2 rfl) (wd hw 3 rfl) e1647 (hb hby at_164) rfl (by decide) (by decide) ?_
        intro T1648 h1648 a1648 g1648 X1648 e1648 E1648 A1648 D1648
        have c1653 : a253 < h1632.size := Nat.lt_of_lt_of_le c1639 E1632.1
        have c1654 : a253 < h1645.size := (Wr.size W1645).symm ▸ c1653
        have c1655 : a253 < h1646.size := (Wr.size W1646).symm ▸ c1654
        have c1656 : a253 < h1647.size := (Wr.size W1647).symm ▸ c1655
        have ne1657 : a253 ≠ a1648 := fun q => Nat.lt_irrefl _ (Nat.lt_of_lt_of_le c1656 (Nat.le_of_eq (g1648.symm.trans q.symm)))
        have c1658 : a1632 < h1645.size := (Wr.size W1645).symm ▸ lt_a1632
        have c1659 : a1632 < h1646.size := (Wr.size W1646).symm ▸ c1658
        have c1660 : a1632 < h1647.size := (Wr.size W1647).symm ▸ c1659
        have z1662 : n0 ≤ h1632.size := Nat.le_trans z1644 E1632.1
        have z1663 : n0 ≤ h1645.size := (Wr.size W1645).symm ▸ z1662
        have z1664 : n0 ≤ h1646.size := (Wr.size W1646).symm ▸ z1663
        have z1665 : n0 ≤ h1647.size := (Wr.size W1647).symm ▸ z1664
        have nw_a1648 : n0 ≤ a1648 := Nat.le_trans z1665 (Nat.le_of_eq g1648.symm)
        have lt_a1648 : a1648 < h1648.size := A1648.lt
        have F1666 : Fld Z h1648 a1648 "com/example/wirecall/wirecall/TextCursor" "text" "Ljava/lang/String;" .null := D1648 (Or.inr (wd hw 38 rfl)) (ty := (.object "java/lang/String")) (by decide)
        have F1667 : Fld Z h1648 a1648 "com/example/wirecall/wirecall/TextCursor" "pos" "I" (.int (0 : Int32)) := D1648 (Or.inl (wd hw 45 rfl)) (ty := .int) (by decide)
        show Gwg T1648 m 167 [(.ref a1648)]
        refine gw_st (fun _ kq => XS.dup X1648.here hx rfl (hb hby at_167) rfl rfl kq) ?_
        show Gwg T1648 m 168 [(.ref a1648), (.ref a1648)]
        refine gw_newO X1648 hx hZ hown (wd hw 4 rfl) (wd hw 5 rfl) (wd hw 6 rfl) e1648 (hb hby at_168) rfl (by decide) (by decide) ?_
        intro T1668 h1668 a1668 g1668 X1668 e1668 E1668 A1668 D1668
        have c1670 : a253 < h1648.size := Nat.lt_of_lt_of_le c1656 E1648.1
        have ne1671 : a253 ≠ a1668 := fun q => Nat.lt_irrefl _ (Nat.lt_of_lt_of_le c1670 (Nat.le_of_eq (g1668.symm.trans q.symm)))
        have c1672 : a1632 < h1648.size := Nat.lt_of_lt_of_le c1660 E1648.1
        have ne1673 : a1632 ≠ a1668 := fun q => Nat.lt_irrefl _ (Nat.lt_of_lt_of_le c1672 (Nat.le_of_eq (g1668.symm.trans q.symm)))
        have ne1674 : a1648 ≠ a1668 := fun q => Nat.lt_irrefl _ (Nat.lt_of_lt_of_le lt_a1648 (Nat.le_of_eq (g1668.symm.trans q.symm)))
        have z1675 : n0 ≤ h1648.size := Nat.le_trans z1665 E1648.1
        have nw_a1668 : n0 ≤ a1668 := Nat.le_trans z1675 (Nat.le_of_eq g1668.symm)
        have F1676 : Fld Z h1668 a1668 "java/lang/String" "coder" "B" (.int (0 : Int32)) := D1668 (Or.inr (wd hw 30 rfl)) (ty := .byte) (by decide)
        have F1677 : Fld Z h1668 a1668 "java/lang/String" "value" "[B" .null := D1668 (Or.inr (wd hw 32 rfl)) (ty := (.array .byte)) (by decide)
        show Gwg T1668 m 171 [(.ref a1668), (.ref a1648), (.ref a1648)]
        refine gw_st (fun _ kq => XS.dup X1668.here hx rfl (hb hby at_171) rfl rfl kq) ?_
        show Gwg T1668 m 172 [(.ref a1668), (.ref a1668), (.ref a1648), (.ref a1648)]
        refine gw_st (fun _ kq => XS.aload X1668.here hx rfl (hb hby at_172) rfl rfl kq) ?_
        show Gwg T1668 m 174 [(.ref a1632), (.ref a1668), (.ref a1668), (.ref a1648), (.ref a1648)]
        have c1679 := A1647.ext E1648
        have c1680 := c1679.ext E1668
        have c1681 := Old.ext O0 E253
        have c1682 := Old.wr c1681 W255 nw_a253
        have c1683 := Old.wr c1682 W257 nw_a253
        have c1684 := Old.wr c1683 W259 nw_a253
        have c1685 := Old.ext c1684 E1632
        have c1686 := Old.wr c1685 W1645 nw_a1632
        have c1687 := Old.wr c1686 W1646 nw_a1632
        have c1688 := Old.wr c1687 W1647 nw_a1632
        have c1689 := Old.ext c1688 E1648
        have c1690 := Old.ext c1689 E1668
        have z1691 : n0 ≤ h1668.size := Nat.le_trans z1675 E1668.1
        refine gw_callI X1668 hx hZ hml hown rfl (wd hw 7 rfl) (wd hw 8 rfl) (wd hw 9 rfl) (wd hw 6 rfl) e1668 (argsL := [(.ref a1632)]) (rest := [(.ref a1668), (.ref a1648), (.ref a1648)]) (W := 3) (met_s3 l Z a0 hw a1668 a1632 (x0 &&& (255 : Int32)) ((XT.ushr x0 (8 : Int32)) &&& (255 : Int32)) ((XT.ushr x0 (16 : Int32)) &&& (255 : Int32)) zc h1668 n0 z1691 A1668 F1677 F1676 nw_a1668 c1680 (Ne.symm ne1673) (own_lat _) (own_lat _) (own_lat _) c1690 S0 zn) (hb hby at_174) rfl rfl rfl (lenOf pd11 rfl) (by show 2 * 0 + _ ≤ _; exact Nat.le_of_eq rfl) (by decide) (by decide) (by decide) (by decide) (by decide) ?_
        intro T1678 v1678 L1678 X1678 q1678
        obtain ⟨r_1678, rfl, M1678, K1678, fz1678_r, f1678_0, f1678_1, f1678_2, f1678_3⟩ := q1678
        have N1678 := Fr.app N1647 M1678
        have c1696 : a1648 < h1668.size := Nat.lt_of_lt_of_le lt_a1648 E1668.1
        have ne1697 : a1648 ≠ r_1678 := Nat.ne_of_lt (Nat.lt_of_lt_of_le c1696 fz1678_r)
        show Gwg T1678 m 177 [(.ref a1668), (.ref a1648), (.ref a1648)]
        have c1701 := Exa.ext E1668 A1648
        have c1702 := Exa.keep c1701 K1678
        have c1703 := Fld.ext E1668 F1666
        have c1704 := Fld.keep c1703 K1678 (ninS ne1674 nin0)
        have c1705 := Fld.ext E1668 F1667
        have c1706 := Fld.keep c1705 K1678 (ninS ne1674 nin0)
        have z1707 : n0 ≤ T1678.heap.size := Nat.le_trans z1691 K1678.1
        refine gw_callI X1678 hx hZ hml hown rfl (wd hw 33 rfl) (wd hw 34 rfl) (wd hw 35 rfl) (wd hw 3 rfl) rfl (argsL := [(.ref a1668)]) (rest := [(.ref a1648)]) (W := 1) (met_tci l Z a0 hw a1648 a1668 T1678.heap n0 z1707 c1702 c1704 c1706 nw_a1648) (hb hby at_177) rfl rfl rfl (lenOf pd12 rfl) (by show 2 * 0 + _ ≤ _; exact Nat.le_of_eq rfl) (by decide) (by decide) (by decide) (by decide) (by decide) ?_
        intro T1700 v1700 L1700 X1700 q1700
        obtain ⟨rfl, M1700, K1700, f1700_0, f1700_1⟩ := q1700
        have N1700 := Fr.app N1678 M1700
        show Gwg T1700 m 180 [(.ref a1648)]
        refine gw_st (fun _ kq => XS.astore X1700.here hx rfl (hb hby at_180) rfl rfl (l' := #[.val (.int x0), .val (.int x1), .val (.int x2), .val (.int (x0 &&& (255 : Int32))), .val (.int ((XT.ushr x0 (8 : Int32)) &&& (255 : Int32))), .val (.int ((XT.ushr x0 (16 : Int32)) &&& (255 : Int32))), .val (.ref a253), .val (.int (3 : Int32)), .val (.int (1 : Int32)), .val (.int x1.toUInt32.toUInt16.toUInt32.toInt32), .val (.ref a1632), .val (.ref a1648), .unset, .unset]) rfl kq) ?_
        show Gwg T1700 m 182 []
        refine gw_st (fun _ kq => XS.iload X1700.here hx rfl (hb hby at_182) rfl kq) ?_
        show Gwg T1700 m 184 [(.int (1 : Int32))]
        refine gw_st (fun _ kq => XT.iconstV X1700.here hx rfl (1 : Int32) (hb hby at_184) (by decide) kq) ?_
        show Gwg T1700 m 185 [(.int (1 : Int32)), (.int (1 : Int32))]
        refine gw_st (fun _ kq => XS.icmpNo X1700.here hx rfl (hb hby at_185) rfl (XT.ii_lt_f (by decide)) kq) ?_
        show Gwg T1700 m 188 []
        refine gw_st (fun _ kq => XS.aload X1700.here hx rfl (hb hby at_188) rfl rfl kq) ?_
        show Gwg T1700 m 190 [(.ref a1648)]
        have c1709 := Exa.keep c1702 K1700
        have z1710 : n0 ≤ T1700.heap.size := Nat.le_trans z1707 K1700.1
        refine gw_callV X1700 hx hZ hml hown (wd hw 83 rfl) (wd hw 84 rfl) (notFace_of_selects (args := #[]) (mvT hZ (wd hw 86 rfl))) (wd hw 86 rfl) (wd hw 85 rfl) (wd hw 87 rfl) (wd hw 3 rfl) rfl c1709 (argsL := []) (rest := []) (W := 0) (met_sk0 l Z a0 hw a1648 a1668 T1700.heap n0 z1710 c1709 f1700_0 f1700_1 nw_a1648) (hb hby at_190) rfl rfl rfl (lenOf pd15 rfl) (by show 2 * 0 + _ ≤ _; exact Nat.le_of_eq rfl) (by decide) (by decide) (by decide) (by decide) (by decide) ?_
        intro T1708 v1708 L1708 X1708 q1708
        obtain ⟨rfl, M1708, K1708, f1708_0, f1708_1⟩ := q1708
        have N1708 := Fr.app N1700 M1708
        show Gwg T1708 m 193 []
        refine gw_st (fun _ kq => XS.iload X1708.here hx rfl (hb hby at_193) rfl kq) ?_
        show Gwg T1708 m 195 [(.int (1 : Int32))]
        refine gw_st (fun _ kq => XT.iconstV X1708.here hx rfl (2 : Int32) (hb hby at_195) (by decide) kq) ?_
        show Gwg T1708 m 196 [(.int (2 : Int32)), (.int (1 : Int32))]
        refine gw_st (fun _ kq => XS.icmpYes X1708.here hx rfl (pc0 := 196) (pc' := 204) rfl (hb hby at_196) rfl (XT.ii_lt_t (by decide)) (by decide) (by decide) kq) ?_
        show Gwg T1708 m 204 []
        refine gw_st (fun _ kq => XS.iload X1708.here hx rfl (hb hby at_204) rfl kq) ?_
        show Gwg T1708 m 206 [(.int (1 : Int32))]
        refine gw_st (fun _ kq => XT.iconstV X1708.here hx rfl (3 : Int32) (hb hby at_206) (by decide) kq) ?_
        show Gwg T1708 m 207 [(.int (3 : Int32)), (.int (1 : Int32))]
        refine gw_st (fun _ kq => XS.icmpYes X1708.here hx rfl (pc0 := 207) (pc' := 215) rfl (hb hby at_207) rfl (XT.ii_lt_t (by decide)) (by decide) (by decide) kq) ?_
        show Gwg T1708 m 215 []
        refine gw_st (fun _ kq => XS.aload X1708.here hx rfl (hb hby at_215) rfl rfl kq) ?_
        show Gwg T1708 m 217 [(.ref a1648)]
        refine gw_st (fun _ kq => XS.iload X1708.here hx rfl (hb hby at_217) rfl kq) ?_
        show Gwg T1708 m 219 [(.int x1.toUInt32.toUInt16.toUInt32.toInt32), (.ref a1648)]
        by_cases hc1711 : ((XT.ushr x0 (8 : Int32)) &&& (255 : Int32)) = x1.toUInt32.toUInt16.toUInt32.toInt32
        ·show Gwg T1708 m 219 [(.int x1.toUInt32.toUInt16.toUInt32.toInt32), (.ref a1648)]
         have c1713 := Exa.keep f1678_0 K1700
         have c1714 := Exa.keep c1713 K1708
         have c1715 := Fld.keep f1678_1 K1700 (ninS (Ne.symm ne1674) nin0)
         have c1716 := Fld.keep c1715 K1708 (ninS (Ne.symm ne1674) nin0)
         have c1717 := Fld.keep f1678_2 K1700 (ninS (Ne.symm ne1674) nin0)
         have c1718 := Fld.keep c1717 K1708 (ninS (Ne.symm ne1674) nin0)
         have c1719 := GA.keep f1678_3 K1700 (ninS (Ne.symm ne1697) nin0)
         have c1720 := GA.keep c1719 K1708 (ninS (Ne.symm ne1697) nin0)
         have c1721 := Old.keep c1690 K1678 (allS nw_a1668 all0)
         have c1722 := Old.keep c1721 K1700 (allS nw_a1648 all0)
         have c1723 := Old.keep c1722 K1708 (allS nw_a1648 all0)
         have z1724 : n0 ≤ T1708.heap.size := Nat.le_trans z1710 K1708.1
         have c1725 := Exa.keep c1709 K1708
         refine gw_callV X1708 hx hZ hml hown (wd hw 39 rfl) (wd hw 40 rfl) (notFace_of_selects (args := #[]) (mvT hZ (wd hw 42 rfl))) (wd hw 42 rfl) (wd hw 41 rfl) (wd hw 43 rfl) (wd hw 3 rfl) rfl c1725 (argsL := [(.int x1.toUInt32.toUInt16.toUInt32.toInt32)]) (rest := []) (W := 0) (met_pk31t l Z a0 hw a1648 a1668 r_1678 (x0 &&& (255 : Int32)) ((XT.ushr x0 (8 : Int32)) &&& (255 : Int32)) ((XT.ushr x0 (16 : Int32)) &&& (255 : Int32)) x1.toUInt32.toUInt16.toUInt32.toInt32 zc vf rf T1708.heap n0 z1724 f1708_1 f1708_0 c1714 c1716 c1718 c1720 (own_lat _) (own_lat _) (own_lat _) c1723 S0 zn S1 hc1711) (hb hby at_219) rfl rfl rfl (lenOf pd13 rfl) (by show 2 * 0 + _ ≤ _; exact Nat.le_of_eq rfl) (by decide) (by decide) (by decide) (by decide) (by decide) ?_
         intro T1712 v1712 L1712 X1712 q1712
         obtain ⟨rfl, M1712, K1712⟩ := q1712
         have N1712 := Fr.app N1708 M1712
         show Gwg T1712 m 222 [(.int (1 : Int32))]
         refine gw_st (fun _ kq => XS.istore X1712.here hx rfl (hb hby at_222) rfl (l' := #[.val (.int x0), .val (.int x1), .val (.int x2), .val (.int (x0 &&& (255 : Int32))), .val (.int ((XT.ushr x0 (8 : Int32)) &&& (255 : Int32))), .val (.int ((XT.ushr x0 (16 : Int32)) &&& (255 : Int32))), .val (.ref a253), .val (.int (3 : Int32)), .val (.int (1 : Int32)), .val (.int x1.toUInt32.toUInt16.toUInt32.toInt32), .val (.ref a1632), .val (.ref a1648), .val (.int (1 : Int32)), .unset]) rfl kq) ?_
         show Gwg T1712 m 224 []
         refine gw_st (fun _ kq => XS.iload X1712.here hx rfl (hb hby at_224) rfl kq) ?_
         show Gwg T1712 m 226 [(.int (1 : Int32))]
         refine gw_st (fun _ kq => XS.iload X1712.here hx rfl (hb hby at_226) rfl kq) ?_
         show Gwg T1712 m 228 [(.int (3 : Int32)), (.int (1 : Int32))]
         refine gw_st (fun _ kq => XS.icmpNo X1712.here hx rfl (hb hby at_228) rfl (XT.ii_ge_f (by decide)) kq) ?_
         show Gwg T1712 m 231 []
         refine gw_st (fun _ kq => XS.aload X1712.here hx rfl (hb hby at_231) rfl rfl kq) ?_
         show Gwg T1712 m 233 [(.ref a253)]
         refine gw_st (fun _ kq => XS.iload X1712.here hx rfl (hb hby at_233) rfl kq) ?_
         show Gwg T1712 m 235 [(.int (1 : Int32)), (.ref a253)]
         have c1726 := A259.ext E1632
         have c1727 := c1726.other W1645 ne1640
         have c1728 := c1727.other W1646 ne1640
         have c1729 := c1728.other W1647 ne1640
         have c1730 := c1729.ext E1648
         have c1731 := c1730.ext E1668
         have c1732 := GA.keep c1731 K1678 (ninS ne1671 nin0)
         have c1733 := GA.keep c1732 K1700 (ninS ne1657 nin0)
         have c1734 := GA.keep c1733 K1708 (ninS ne1657 nin0)
         have c1735 := GA.keep c1734 K1712 nin0
         refine gw_cald X1712 hx hZ rfl c1735 (hb hby at_235) rfl rfl (by decide) (.int ((XT.ushr x0 (8 : Int32)) &&& (255 : Int32))) rfl ?_
         show Gwg T1712 m 236 [(.int ((XT.ushr x0 (8 : Int32)) &&& (255 : Int32)))]
         refine gw_st (fun _ kq => XS.iload X1712.here hx rfl (hb hby at_236) rfl kq) ?_
         show Gwg T1712 m 238 [(.int x1.toUInt32.toUInt16.toUInt32.toInt32), (.int ((XT.ushr x0 (8 : Int32)) &&& (255 : Int32)))]
         refine gw_st (fun _ kq => XS.icmpNo X1712.here hx rfl (hb hby at_238) rfl (XT.ii_ne_f hc1711) kq) ?_
         show Gwg T1712 m 241 []
         refine gw_st (fun _ kq => XT.iconstV X1712.here hx rfl (1 : Int32) (hb hby at_241) (by decide) kq) ?_
         show Gwg T1712 m 242 [(.int (1 : Int32))]
         refine gw_st (fun _ kq => XS.goto X1712.here hx rfl (pc0 := 242) (pc' := 246) rfl (hb hby at_242) (by decide) (by decide) kq) ?_
         show Gwg T1712 m 246 [(.int (1 : Int32))]
         refine gw_st (fun _ kq => XS.istore X1712.here hx rfl (hb hby at_246) rfl (l' := #[.val (.int x0), .val (.int x1), .val (.int x2), .val (.int (x0 &&& (255 : Int32))), .val (.int ((XT.ushr x0 (8 : Int32)) &&& (255 : Int32))), .val (.int ((XT.ushr x0 (16 : Int32)) &&& (255 : Int32))), .val (.ref a253), .val (.int (3 : Int32)), .val (.int (1 : Int32)), .val (.int x1.toUInt32.toUInt16.toUInt32.toInt32), .val (.ref a1632), .val (.ref a1648), .val (.int (1 : Int32)), .val (.int (1 : Int32))]) rfl kq) ?_
         show Gwg T1712 m 248 []
         refine gw_st (fun _ kq => XS.iload X1712.here hx rfl (hb hby at_248) rfl kq) ?_
         show Gwg T1712 m 250 [(.int (1 : Int32))]
         refine gw_st (fun _ kq => XS.iload X1712.here hx rfl (hb hby at_250) rfl kq) ?_
         show Gwg T1712 m 252 [(.int (1 : Int32)), (.int (1 : Int32))]
         refine gw_st (fun _ kq => XS.icmpNo X1712.here hx rfl (hb hby at_252) rfl (XT.ii_ne_f (by decide)) kq) ?_
         show Gwg T1712 m 255 []
         refine gw_st (fun _ kq => XS.aload X1712.here hx rfl (hb hby at_255) rfl rfl kq) ?_
         show Gwg T1712 m 257 [(.ref a1648)]
         have c1737 := Fld.keep f1708_1 K1712 nin0
         have z1738 : n0 ≤ T1712.heap.size := Nat.le_trans z1724 K1712.1
         have c1739 := Exa.keep c1725 K1712
         refine gw_callV X1712 hx hZ hml hown (wd hw 78 rfl) (wd hw 79 rfl) (notFace_of_selects (args := #[]) (mvT hZ (wd hw 81 rfl))) (wd hw 81 rfl) (wd hw 80 rfl) (wd hw 82 rfl) (wd hw 3 rfl) rfl c1739 (argsL := []) (rest := []) (W := 0) (met_16 l Z a0 hw a1648 (1 : Int32) T1712.heap n0 z1738 c1737) (hb hby at_257) rfl rfl rfl (lenOf pd9 rfl) (by show 2 * 0 + _ ≤ _; exact Nat.le_of_eq rfl) (by decide) (by decide) (by decide) (by decide) (by decide) ?_
         intro T1736 v1736 L1736 X1736 q1736
         obtain ⟨rfl, M1736, e1736⟩ := q1736
         have N1736 := Fr.app N1712 M1736
         show Gwg T1736 m 260 [(.int (1 : Int32))]
         refine gw_st (fun _ kq => XS.iload X1736.here hx rfl (hb hby at_260) rfl kq) ?_
         show Gwg T1736 m 262 [(.int (1 : Int32)), (.int (1 : Int32))]
         refine gw_st (fun _ kq => XS.icmpNo X1736.here hx rfl (hb hby at_262) rfl (XT.ii_ne_f (by decide)) kq) ?_
         show Gwg T1736 m 265 []
         refine gw_st (fun _ kq => XT.iconstV X1736.here hx rfl (1 : Int32) (hb hby at_265) (by decide) kq) ?_
         show Gwg T1736 m 266 [(.int (1 : Int32))]
         refine gw_st (fun _ kq => XS.goto X1736.here hx rfl (pc0 := 266) (pc' := 270) rfl (hb hby at_266) (by decide) (by decide) kq) ?_
         show Gwg T1736 m 270 [(.int (1 : Int32))]
         exact gw_retB (w := (1 : Int32)) X1736 hx hlk hret (hb hby at_270) (by decide) (by decide) (by decide) ⟨rfl, N1736⟩
        ·show Gwg T1708 m 219 [(.int x1.toUInt32.toUInt16.toUInt32.toInt32), (.ref a1648)]
         have c1741 := Exa.keep f1678_0 K1700
         have c1742 := Exa.keep c1741 K1708
         have c1743 := Fld.keep f1678_1 K1700 (ninS (Ne.symm ne1674) nin0)
         have c1744 := Fld.keep c1743 K1708 (ninS (Ne.symm ne1674) nin0)
         have c1745 := Fld.keep f1678_2 K1700 (ninS (Ne.symm ne1674) nin0)
         have c1746 := Fld.keep c1745 K1708 (ninS (Ne.symm ne1674) nin0)
         have c1747 := GA.keep f1678_3 K1700 (ninS (Ne.symm ne1697) nin0)
         have c1748 := GA.keep c1747 K1708 (ninS (Ne.symm ne1697) nin0)
         have c1749 := Old.keep c1690 K1678 (allS nw_a1668 all0)
         have c1750 := Old.keep c1749 K1700 (allS nw_a1648 all0)
         have c1751 := Old.keep c1750 K1708 (allS nw_a1648 all0)
         have z1752 : n0 ≤ T1708.heap.size := Nat.le_trans z1710 K1708.1
         have c1753 := Exa.keep c1709 K1708
         refine gw_callV X1708 hx hZ hml hown (wd hw 39 rfl) (wd hw 40 rfl) (notFace_of_selects (args := #[]) (mvT hZ (wd hw 42 rfl))) (wd hw 42 rfl) (wd hw 41 rfl) (wd hw 43 rfl) (wd hw 3 rfl) rfl c1753 (argsL := [(.int x1.toUInt32.toUInt16.toUInt32.toInt32)]) (rest := []) (W := 0) (met_pk31f l Z a0 hw a1648 a1668 r_1678 (x0 &&& (255 : Int32)) ((XT.ushr x0 (8 : Int32)) &&& (255 : Int32)) ((XT.ushr x0 (16 : Int32)) &&& (255 : Int32)) x1.toUInt32.toUInt16.toUInt32.toInt32 zc vf rf T1708.heap n0 z1752 f1708_1 f1708_0 c1742 c1744 c1746 c1748 (own_lat _) (own_lat _) (own_lat _) c1751 S0 zn S1 hc1711) (hb hby at_219) rfl rfl rfl (lenOf pd13 rfl) (by show 2 * 0 + _ ≤ _; exact Nat.le_of_eq rfl) (by decide) (by decide) (by decide) (by decide) (by decide) ?_
         intro T1740 v1740 L1740 X1740 q1740
         obtain ⟨rfl, M1740, K1740⟩ := q1740
         have N1740 := Fr.app N1708 M1740
         show Gwg T1740 m 222 [(.int (0 : Int32))]
         refine gw_st (fun _ kq => XS.istore X1740.here hx rfl (hb hby at_222) rfl (l' := #[.val (.int x0), .val (.int x1), .val (.int x2), .val (.int (x0 &&& (255 : Int32))), .val (.int ((XT.ushr x0 (8 : Int32)) &&& (255 : Int32))), .val (.int ((XT.ushr x0 (16 : Int32)) &&& (255 : Int32))), .val (.ref a253), .val (.int (3 : Int32)), .val (.int (1 : Int32)), .val (.int x1.toUInt32.toUInt16.toUInt32.toInt32), .val (.ref a1632), .val (.ref a1648), .val (.int (0 : Int32)), .unset]) rfl kq) ?_
         show Gwg T1740 m 224 []
         refine gw_st (fun _ kq => XS.iload X1740.here hx rfl (hb hby at_224) rfl kq) ?_
         show Gwg T1740 m 226 [(.int (1 : Int32))]
         refine gw_st (fun _ kq => XS.iload X1740.here hx rfl (hb hby at_226) rfl kq) ?_
         show Gwg T1740 m 228 [(.int (3 : Int32)), (.int (1 : Int32))]
         refine gw_st (fun _ kq => XS.icmpNo X1740.here hx rfl (hb hby at_228) rfl (XT.ii_ge_f (by decide)) kq) ?_
         show Gwg T1740 m 231 []
         refine gw_st (fun _ kq => XS.aload X1740.here hx rfl (hb hby at_231) rfl rfl kq) ?_
         show Gwg T1740 m 233 [(.ref a253)]
         refine gw_st (fun _ kq => XS.iload X1740.here hx rfl (hb hby at_233) rfl kq) ?_
         show Gwg T1740 m 235 [(.int (1 : Int32)), (.ref a253)]
         have c1754 := A259.ext E1632
         have c1755 := c1754.other W1645 ne1640
         have c1756 := c1755.other W1646 ne1640
         have c1757 := c1756.other W1647 ne1640
         have c1758 := c1757.ext E1648
         have c1759 := c1758.ext E1668
         have c1760 := GA.keep c1759 K1678 (ninS ne1671 nin0)
         have c1761 := GA.keep c1760 K1700 (ninS ne1657 nin0)
         have c1762 := GA.keep c1761 K1708 (ninS ne1657 nin0)
         have c1763 := GA.keep c1762 K1740 nin0
         refine gw_cald X1740 hx hZ rfl c1763 (hb hby at_235) rfl rfl (by decide) (.int ((XT.ushr x0 (8 : Int32)) &&& (255 : Int32))) rfl ?_
         show Gwg T1740 m 236 [(.int ((XT.ushr x0 (8 : Int32)) &&& (255 : Int32)))]
         refine gw_st (fun _ kq => XS.iload X1740.here hx rfl (hb hby at_236) rfl kq) ?_
         show Gwg T1740 m 238 [(.int x1.toUInt32.toUInt16.toUInt32.toInt32), (.int ((XT.ushr x0 (8 : Int32)) &&& (255 : Int32)))]
         refine gw_st (fun _ kq => XS.icmpYes X1740.here hx rfl (pc0 := 238) (pc' := 245) rfl (hb hby at_238) rfl (XT.ii_ne_t hc1711) (by decide) (by decide) kq) ?_
         show Gwg T1740 m 245 []
         refine gw_st (fun _ kq => XT.iconstV X1740.here hx rfl (0 : Int32) (hb hby at_245) (by decide) kq) ?_
         show Gwg T1740 m 246 [(.int (0 : Int32))]
         refine gw_st (fun _ kq => XS.istore X1740.here hx rfl (hb hby at_246) rfl (l' := #[.val (.int x0), .val (.int x1), .val (.int x2), .val (.int (x0 &&& (255 : Int32))), .val (.int ((XT.ushr x0 (8 : Int32)) &&& (255 : Int32))), .val (.int ((XT.ushr x0 (16 : Int32)) &&& (255 : Int32))), .val (.ref a253), .val (.int (3 : Int32)), .val (.int (1 : Int32)), .val (.int x1.toUInt32.toUInt16.toUInt32.toInt32), .val (.ref a1632), .val (.ref a1648), .val (.int (0 : Int32)), .val (.int (0 : Int32))]) rfl kq) ?_
         show Gwg T1740 m 248 []
         refine gw_st (fun _ kq => XS.iload X1740.here hx rfl (hb hby at_248) rfl kq) ?_
         show Gwg T1740 m 250 [(.int (0 : Int32))]
         refine gw_st (fun _ kq => XS.iload X1740.here hx rfl (hb hby at_250) rfl kq) ?_
         show Gwg T1740 m 252 [(.int (0 : Int32)), (.int (0 : Int32))]
         refine gw_st (fun _ kq => XS.icmpNo X1740.here hx rfl (hb hby at_252) rfl (XT.ii_ne_f (by decide)) kq) ?_
         show Gwg T1740 m 255 []
         refine gw_st (fun _ kq => XS.aload X1740.here hx rfl (hb hby at_255) rfl rfl kq) ?_
         show Gwg T1740 m 257 [(.ref a1648)]
         have c1765 := Fld.keep f1708_1 K1740 nin0
         have z1766 : n0 ≤ T1740.heap.size := Nat.le_trans z1752 K1740.1
         have c1767 := Exa.keep c1753 K1740
         refine gw_callV X1740 hx hZ hml hown (wd hw 78 rfl) (wd hw 79 rfl) (notFace_of_selects (args := #[]) (mvT hZ (wd hw 81 rfl))) (wd hw 81 rfl) (wd hw 80 rfl) (wd hw 82 rfl) (wd hw 3 rfl) rfl c1767 (argsL := []) (rest := []) (W := 0) (met_16 l Z a0 hw a1648 (1 : Int32) T1740.heap n0 z1766 c1765) (hb hby at_257) rfl rfl rfl (lenOf pd9 rfl) (by show 2 * 0 + _ ≤ _; exact Nat.le_of_eq rfl) (by decide) (by decide) (by decide) (by decide) (by decide) ?_
         intro T1764 v1764 L1764 X1764 q1764
         obtain ⟨rfl, M1764, e1764⟩ := q1764
         have N1764 := Fr.app N1740 M1764
         show Gwg T1764 m 260 [(.int (1 : Int32))]
         refine gw_st (fun _ kq => XS.iload X1764.here hx rfl (hb hby at_260) rfl kq) ?_
         show Gwg T1764 m 262 [(.int (1 : Int32)), (.int (1 : Int32))]
         refine gw_st (fun _ kq => XS.icmpNo X1764.here hx rfl (hb hby at_262) rfl (XT.ii_ne_f (by decide)) kq) ?_
         show Gwg T1764 m 265 []
         refine gw_st (fun _ kq => XT.iconstV X1764.here hx rfl (1 : Int32) (hb hby at_265) (by decide) kq) ?_
         show Gwg T1764 m 266 [(.int (1 : Int32))]
         refine gw_st (fun _ kq => XS.goto X1764.here hx rfl (pc0 := 266) (pc' := 270) rfl (hb hby at_266) (by decide) (by decide) kq) ?_
         show Gwg T1764 m 270 [(.int (1 : Int32))]
         exact gw_retB (w := (1 : Int32)) X1764 hx hlk hret (hb hby at_270) (by decide) (by decide) (by decide) ⟨rfl, N1764⟩
       ·refine gw_st (fun _ kq => XS.ifNo X259.here hx rfl (hb hby at_70) rfl (XT.i0_eq_f hc1631) kq) ?_
        show Gwg T259 m 73 []
        refine gw_st (fun _ kq => XS.aload X259.here hx rfl (hb hby at_73) rfl rfl kq) ?_
        show Gwg T259 m 75 [(.ref a253)]
        refine gw_st (fun _ kq => XS.iload X259.here hx rfl (hb hby at_75) rfl kq) ?_
        show Gwg T259 m 77 [(.int (1 : Int32)), (.ref a253)]
        refine gw_st (fun _ kq => XT.iconstV X259.here hx rfl (2 : Int32) (hb hby at_77) (by decide) kq) ?_
        show Gwg T259 m 78 [(.int (2 : Int32)), (.int (1 : Int32)), (.ref a253)]
        refine gw_callS X259 hx hZ hml hown (wd hw 88 rfl) (wd hw 89 rfl) (wd hw 90 rfl) (wd hw 91 rfl) e259 (argsL := [(.int (1 : Int32)), (.int (2 : Int32))]) (rest := [(.ref a253)]) (W := 1) (met_18 l Z a0 hw (1 : Int32) (2 : Int32) h259 n0) (hb hby at_78) rfl rfl rfl (lenOf pd14 rfl) (by show 2 * 0 + _ ≤ _; exact Nat.le_of_eq rfl) (by decide) (by decide) (by decide) (by decide) (by decide) ?_
        intro T1768 v1768 L1768 X1768 q1768
        obtain ⟨rfl, M1768, e1768⟩ := q1768
        have N1768 := Fr.app N259 M1768
        rw [show (fMin (1 : Int32) (2 : Int32)) = (1 : Int32) from by decide +kernel]
        show Gwg T1768 m 81 [(.int (1 : Int32)), (.ref a253)]
        refine gw_cald X1768 hx hZ e1768 A259 (hb hby at_81) rfl rfl (by decide) (.int ((XT.ushr x0 (8 : Int32)) &&& (255 : Int32))) rfl ?_
        show Gwg T1768 m 82 [(.int ((XT.ushr x0 (8 : Int32)) &&& (255 : Int32)))]
        refine gw_st (fun _ kq => XS.istore X1768.here hx rfl (hb hby at_82) rfl (l' := #[.val (.int x0), .val (.int x1), .val (.int x2), .val (.int (x0 &&& (255 : Int32))), .val (.int ((XT.ushr x0 (8 : Int32)) &&& (255 : Int32))), .val (.int ((XT.ushr x0 (16 : Int32)) &&& (255 : Int32))), .val (.ref a253), .val (.int (3 : Int32)), .val (.int (1 : Int32)), .val (.int ((XT.ushr x0 (8 : Int32)) &&& (255 : Int32))), .unset, .unset, .unset, .unset]) rfl kq) ?_
        show Gwg T1768 m 84 []
        refine gw_st (fun _ kq => XS.goto X1768.here hx rfl (pc0 := 84) (pc' := 91) rfl (hb hby at_84) (by decide) (by decide) kq) ?_
        show Gwg T1768 m 91 []
        refine gw_st (fun _ kq => XS.iload X1768.here hx rfl (hb hby at_91) rfl kq) ?_
        show Gwg T1768 m 93 [(.int (3 : Int32))]
        refine gw_st (fun _ kq => XS.ifYes X1768.here hx rfl (pc0 := 93) (pc' := 104) rfl (hb hby at_93) rfl (XT.i0_ne_t (by decide)) (by decide) (by decide) kq) ?_
        show Gwg T1768 m 104 []
        refine gw_st (fun _ kq => XS.iload X1768.here hx rfl (hb hby at_104) rfl kq) ?_
        show Gwg T1768 m 106 [(.int (3 : Int32))]
        refine gw_st (fun _ kq => XT.iconstV X1768.here hx rfl (1 : Int32) (hb hby at_106) (by decide) kq) ?_
        show Gwg T1768 m 107 [(.int (1 : Int32)), (.int (3 : Int32))]
        refine gw_st (fun _ kq => XS.icmpYes X1768.here hx rfl (pc0 := 107) (pc' := 122) rfl (hb hby at_107) rfl (XT.ii_ne_t (by decide)) (by decide) (by decide) kq) ?_
        show Gwg T1768 m 122 []
        refine gw_st (fun _ kq => XS.iload X1768.here hx rfl (hb hby at_122) rfl kq) ?_
        show Gwg T1768 m 124 [(.int (3 : Int32))]
        refine gw_st (fun _ kq => XT.iconstV X1768.here hx rfl (2 : Int32) (hb hby at_124) (by decide) kq) ?_
        show Gwg T1768 m 125 [(.int (2 : Int32)), (.int (3 : Int32))]
        refine gw_st (fun _ kq => XS.icmpYes X1768.here hx rfl (pc0 := 125) (pc' := 145) rfl (hb hby at_125) rfl (XT.ii_ne_t (by decide)) (by decide) (by decide) kq) ?_
        show Gwg T1768 m 145 []
        refine gw_st (fun _ kq => XT.iconstV X1768.here hx rfl (3 : Int32) (hb hby at_145) (by decide) kq) ?_
        show Gwg T1768 m 146 [(.int (3 : Int32))]
        refine gw_newP X1768 hx hZ (wd hw 0 rfl) e1768 (hb hby at_146) rfl rfl 3 (by decide) 3 (Nat.le_refl _) (by decide) (by decide) (by decide) ?_
        intro T1769 h1769 a1769 g1769 X1769 e1769 E1769 G1769
        have c1774 : a253 < h255.size := (Wr.size W255).symm ▸ lt_a253
        have c1775 : a253 < h257.size := (Wr.size W257).symm ▸ c1774
        have c1776 : a253 < h259.size := (Wr.size W259).symm ▸ c1775
        have ne1777 : a253 ≠ a1769 := fun q => Nat.lt_irrefl _ (Nat.lt_of_lt_of_le c1776 (Nat.le_of_eq (g1769.symm.trans q.symm)))
        have z1778 : n0 ≤ h253.size := Nat.le_trans Z0 E253.1
        have z1779 : n0 ≤ h255.size := (Wr.size W255).symm ▸ z1778
        have z1780 : n0 ≤ h257.size := (Wr.size W257).symm ▸ z1779
        have z1781 : n0 ≤ h259.size := (Wr.size W259).symm ▸ z1780
        have nw_a1769 : n0 ≤ a1769 := Nat.le_trans z1781 (Nat.le_of_eq g1769.symm)
        have lt_a1769 : a1769 < h1769.size := G1769.lt
        have A1769 : GA Z h1769 a1769 .char 3 (fun i => .int (own_c3 (0 : Int32) (0 : Int32) (0 : Int32) i)) := (GA.congr G1769 (fun i _ => own_z3 i))
        show Gwg T1769 m 148 [(.ref a1769)]
        refine gw_st (fun _ kq => XS.dup X1769.here hx rfl (hb hby at_148) rfl rfl kq) ?_
        show Gwg T1769 m 149 [(.ref a1769), (.ref a1769)]
        refine gw_st (fun _ kq => XT.iconstV X1769.here hx rfl (0 : Int32) (hb hby at_149) (by decide) kq) ?_
        show Gwg T1769 m 150 [(.int (0 : Int32)), (.ref a1769), (.ref a1769)]
        refine gw_st (fun _ kq => XS.iloadN X1769.here hx rfl (hb hby at_150) rfl kq) ?_
        show Gwg T1769 m 151 [(.int (x0 &&& (255 : Int32))), (.int (0 : Int32)), (.ref a1769), (.ref a1769)]
        refine gw_cast X1769 hx hZ e1769 A1769 (hb hby at_151) rfl rfl (by decide) ?_
        intro T1782 h1782 X1782 e1782 W1782 G1782
        have N1782 := Fr.snoc X1782 N1768 nw_a1769
        have A1782 : GA Z h1782 a1769 .char 3 (fun i => .int (own_c3 (x0 &&& (255 : Int32)) (0 : Int32) (0 : Int32) i)) := (own_stc (own_nc (own_lat _)) (by decide) (own_c30 (x0 &&& (255 : Int32)) (0 : Int32) (0 : Int32) (0 : Int32)) G1782)
        show Gwg T1782 m 152 [(.ref a1769)]
        refine gw_st (fun _ kq => XS.dup X1782.here hx rfl (hb hby at_152) rfl rfl kq) ?_
        show Gwg T1782 m 153 [(.ref a1769), (.ref a1769)]
        refine gw_st (fun _ kq => XT.iconstV X1782.here hx rfl (1 : Int32) (hb hby at_153) (by decide) kq) ?_
        show Gwg T1782 m 154 [(.int (1 : Int32)), (.ref a1769), (.ref a1769)]
        refine gw_st (fun _ kq => XS.iload X1782.here hx rfl (hb hby at_154) rfl kq) ?_
        show Gwg T1782 m 156 [(.int ((XT.ushr x0 (8 : Int32)) &&& (255 : Int32))), (.int (1 : Int32)), (.ref a1769), (.ref a1769)]
        refine gw_cast X1782 hx hZ e1782 A1782 (hb hby at_156) rfl rfl (by decide) ?_
        intro T1783 h1783 X1783 e1783 W1783 G1783
        have N1783 := Fr.snoc X1783 N1782 nw_a1769
        have A1783 : GA Z h1783 a1769 .char 3 (fun i => .int (own_c3 (x0 &&& (255 : Int32)) ((XT.ushr x0 (8 : Int32)) &&& (255 : Int32)) (0 : Int32) i)) := (own_stc (own_nc (own_lat _)) (by decide) (own_c31 ((XT.ushr x0 (8 : Int32)) &&& (255 : Int32)) (x0 &&& (255 : Int32)) (0 : Int32) (0 : Int32)) G1783)
        show Gwg T1783 m 157 [(.ref a1769)]
        refine gw_st (fun _ kq => XS.dup X1783.here hx rfl (hb hby at_157) rfl rfl kq) ?_
        show Gwg T1783 m 158 [(.ref a1769), (.ref a1769)]
        refine gw_st (fun _ kq => XT.iconstV X1783.here hx rfl (2 : Int32) (hb hby at_158) (by decide) kq) ?_
        show Gwg T1783 m 159 [(.int (2 : Int32)), (.ref a1769), (.ref a1769)]
        refine gw_st (fun _ kq => XS.iload X1783.here hx rfl (hb hby at_159) rfl kq) ?_
        show Gwg T1783 m 161 [(.int ((XT.ushr x0 (16 : Int32)) &&& (255 : Int32))), (.int (2 : Int32)), (.ref a1769), (.ref a1769)]
        refine gw_cast X1783 hx hZ e1783 A1783 (hb hby at_161) rfl rfl (by decide) ?_
        intro T1784 h1784 X1784 e1784 W1784 G1784
        have N1784 := Fr.snoc X1784 N1783 nw_a1769
        have A1784 : GA Z h1784 a1769 .char 3 (fun i => .int (own_c3 (x0 &&& (255 : Int32)) ((XT.ushr x0 (8 : Int32)) &&& (255 : Int32)) ((XT.ushr x0 (16 : Int32)) &&& (255 : Int32)) i)) := (own_stc (own_nc (own_lat _)) (by decide) (own_c32 ((XT.ushr x0 (16 : Int32)) &&& (255 : Int32)) (x0 &&& (255 : Int32)) ((XT.ushr x0 (8 : Int32)) &&& (255 : Int32)) (0 : Int32)) G1784)
        show Gwg T1784 m 162 [(.ref a1769)]
        refine gw_st (fun _ kq => XS.astore X1784.here hx rfl (hb hby at_162) rfl rfl (l' := #[.val (.int x0), .val (.int x1), .val (.int x2), .val (.int (x0 &&& (255 : Int32))), .val (.int ((XT.ushr x0 (8 : Int32)) &&& (255 : Int32))), .val (.int ((XT.ushr x0 (16 : Int32)) &&& (255 : Int32))), .val (.ref a253), .val (.int (3 : Int32)), .val (.int (1 : Int32)), .val (.int ((XT.ushr x0 (8 : Int32)) &&& (255 : Int32))), .val (.ref a1769), .unset, .unset, .unset]) rfl kq) ?_
        show Gwg T1784 m 164 []
        refine gw_newO X1784 hx hZ hown (wd hw 1 rfl) (wd hw 2 rfl) (wd hw 3 rfl) e1784 (hb hby at_164) rfl (by decide) (by decide) ?_
        intro T1785 h1785 a1785 g1785 X1785 e1785 E1785 A1785 D1785
        have c1790 : a253 < h1769.size := Nat.lt_of_lt_of_le c1776 E1769.1
        have c1791 : a253 < h1782.size := (Wr.size W1782).symm ▸ c1790
        have c1792 : a253 < h1783.size := (Wr.size W1783).symm ▸ c1791
        have c1793 : a253 < h1784.size := (Wr.size W1784).symm ▸ c1792
        have ne1794 : a253 ≠ a1785 := fun q => Nat.lt_irrefl _ (Nat.lt_of_lt_of_le c1793 (Nat.le_of_eq (g1785.symm.trans q.symm)))
        have c1795 : a1769 < h1782.size := (Wr.size W1782).symm ▸ lt_a1769
        have c1796 : a1769 < h1783.size := (Wr.size W1783).symm ▸ c1795
        have c1797 : a1769 < h1784.size := (Wr.size W1784).symm ▸ c1796
        have z1799 : n0 ≤ h1769.size := Nat.le_trans z1781 E1769.1
        have z1800 : n0 ≤ h1782.size := (Wr.size W1782).symm ▸ z1799
        have z1801 : n0 ≤ h1783.size := (Wr.size W1783).symm ▸ z1800
        have z1802 : n0 ≤ h1784.size := (Wr.size W1784).symm ▸ z1801
        have nw_a1785 : n0 ≤ a1785 := Nat.le_trans z1802 (Nat.le_of_eq g1785.symm)
        have lt_a1785 : a1785 < h1785.size := A1785.lt
        have F1803 : Fld Z h1785 a1785 "com/example/wirecall/wirecall/TextCursor" "text" "Ljava/lang/String;" .null := D1785 (Or.inr (wd hw 38 rfl)) (ty := (.object "java/lang/String")) (by decide)
        have F1804 : Fld Z h1785 a1785 "com/example/wirecall/wirecall/TextCursor" "pos" "I" (.int (0 : Int32)) := D1785 (Or.inl (wd hw 45 rfl)) (ty := .int) (by decide)
        show Gwg T1785 m 167 [(.ref a1785)]
        refine gw_st (fun _ kq => XS.dup X1785.here hx rfl (hb hby at_167) rfl rfl kq) ?_
        show Gwg T1785 m 168 [(.ref a1785), (.ref a1785)]
        refine gw_newO X1785 hx hZ hown (wd hw 4 rfl) (wd hw 5 rfl) (wd hw 6 rfl) e1785 (hb hby at_168) rfl (by decide) (by decide) ?_
        intro T1805 h1805 a1805 g1805 X1805 e1805 E1805 A1805 D1805
        have c1807 : a253 < h1785.size := Nat.lt_of_lt_of_le c1793 E1785.1
        have ne1808 : a253 ≠ a1805 := fun q => Nat.lt_irrefl _ (Nat.lt_of_lt_of_le c1807 (Nat.le_of_eq (g1805.symm.trans q.symm)))
        have c1809 : a1769 < h1785.size := Nat.lt_of_lt_of_le c1797 E1785.1
        have ne1810 : a1769 ≠ a1805 := fun q => Nat.lt_irrefl _ (Nat.lt_of_lt_of_le c1809 (Nat.le_of_eq (g1805.symm.trans q.symm)))
        have ne1811 : a1785 ≠ a1805 := fun q => Nat.lt_irrefl _ (Nat.lt_of_lt_of_le lt_a1785 (Nat.le_of_eq (g1805.symm.trans q.symm)))
        have z1812 : n0 ≤ h1785.size := Nat.le_trans z1802 E1785.1
        have nw_a1805 : n0 ≤ a1805 := Nat.le_trans z1812 (Nat.le_of_eq g1805.symm)
        have F1813 : Fld Z h1805 a1805 "java/lang/String" "coder" "B" (.int (0 : Int32)) := D1805 (Or.inr (wd hw 30 rfl)) (ty := .byte) (by decide)
        have F1814 : Fld Z h1805 a1805 "java/lang/String" "value" "[B" .null := D1805 (Or.inr (wd hw 32 rfl)) (ty := (.array .byte)) (by decide)
        show Gwg T1805 m 171 [(.ref a1805), (.ref a1785), (.ref a1785)]
        refine gw_st (fun _ kq => XS.dup X1805.here hx rfl (hb hby at_171) rfl rfl kq) ?_
        show Gwg T1805 m 172 [(.ref a1805), (.ref a1805), (.ref a1785), (.ref a1785)]
        refine gw_st (fun _ kq => XS.aload X1805.here hx rfl (hb hby at_172) rfl rfl kq) ?_
        show Gwg T1805 m 174 [(.ref a1769), (.ref a1805), (.ref a1805), (.ref a1785), (.ref a1785)]
        have c1816 := A1784.ext E1785
        have c1817 := c1816.ext E1805
        have c1818 := Old.ext O0 E253
        have c1819 := Old.wr c1818 W255 nw_a253
        have c1820 := Old.wr c1819 W257 nw_a253
        have c1821 := Old.wr c1820 W259 nw_a253
        have c1822 := Old.ext c1821 E1769
        have c1823 := Old.wr c1822 W1782 nw_a1769
        have c1824 := Old.wr c1823 W1783 nw_a1769
        have c1825 := Old.wr c1824 W1784 nw_a1769
        have c1826 := Old.ext c1825 E1785
        have c1827 := Old.ext c1826 E1805
        have z1828 : n0 ≤ h1805.size := Nat.le_trans z1812 E1805.1
        refine gw_callI X1805 hx hZ hml hown rfl (wd hw 7 rfl) (wd hw 8 rfl) (wd hw 9 rfl) (wd hw 6 rfl) e1805 (argsL := [(.ref a1769)]) (rest := [(.ref a1805), (.ref a1785), (.ref a1785)]) (W := 3) (met_s3 l Z a0 hw a1805 a1769 (x0 &&& (255 : Int32)) ((XT.ushr x0 (8 : Int32)) &&& (255 : Int32)) ((XT.ushr x0 (16 : Int32)) &&& (255 : Int32)) zc h1805 n0 z1828 A1805 F1814 F1813 nw_a1805 c1817 (Ne.symm ne1810) (own_lat _) (own_lat _) (own_lat _) c1827 S0 zn) (hb hby at_174) rfl rfl rfl (lenOf pd11 rfl) (by show 2 * 0 + _ ≤ _; exact Nat.le_of_eq rfl) (by decide) (by decide) (by decide) (by decide) (by decide) ?_
        intro T1815 v1815 L1815 X1815 q1815
        obtain ⟨r_1815, rfl, M1815, K1815, fz1815_r, f1815_0, f1815_1, f1815_2, f1815_3⟩ := q1815
        have N1815 := Fr.app N1784 M1815
        have c1833 : a1785 < h1805.size := Nat.lt_of_lt_of_le lt_a1785 E1805.1
        have ne1834 : a1785 ≠ r_1815 := Nat.ne_of_lt (Nat.lt_of_lt_of_le c1833 fz1815_r)
        show Gwg T1815 m 177 [(.ref a1805), (.ref a1785), (.ref a1785)]
        have c1838 := Exa.ext E1805 A1785
        have c1839 := Exa.keep c1838 K1815
        have c1840 := Fld.ext E1805 F1803
        have c1841 := Fld.keep c1840 K1815 (ninS ne1811 nin0)
        have c1842 := Fld.ext E1805 F1804
        have c1843 := Fld.keep c1842 K1815 (ninS ne1811 nin0)
        have z1844 : n0 ≤ T1815.heap.size := Nat.le_trans z1828 K1815.1
        refine gw_callI X1815 hx hZ hml hown rfl (wd hw 33 rfl) (wd hw 34 rfl) (wd hw 35 rfl) (wd hw 3 rfl) rfl (argsL := [(.ref a1805)]) (rest := [(.ref a1785)]) (W := 1) (met_tci l Z a0 hw a1785 a1805 T1815.heap n0 z1844 c1839 c1841 c1843 nw_a1785) (hb hby at_177) rfl rfl rfl (lenOf pd12 rfl) (by show 2 * 0 + _ ≤ _; exact Nat.le_of_eq rfl) (by decide) (by decide) (by decide) (by decide) (by decide) ?_
        intro T1837 v1837 L1837 X1837 q1837
        obtain ⟨rfl, M1837, K1837, f1837_0, f1837_1⟩ := q1837
        have N1837 := Fr.app N1815 M1837
        show Gwg T1837 m 180 [(.ref a1785)]
        refine gw_st (fun _ kq => XS.astore X1837.here hx rfl (hb hby at_180) rfl rfl (l' := #[.val (.int x0), .val (.int x1), .val (.int x2), .val (.int (x0 &&& (255 : Int32))), .val (.int ((XT.ushr x0 (8 : Int32)) &&& (255 : Int32))), .val (.int ((XT.ushr x0 (16 : Int32)) &&& (255 : Int32))), .val (.ref a253), .val (.int (3 : Int32)), .val (.int (1 : Int32)), .val (.int ((XT.ushr x0 (8 : Int32)) &&& (255 : Int32))), .val (.ref a1769), .val (.ref a1785), .unset, .unset]) rfl kq) ?_
        show Gwg T1837 m 182 []
        refine gw_st (fun _ kq => XS.iload X1837.here hx rfl (hb hby at_182) rfl kq) ?_
        show Gwg T1837 m 184 [(.int (1 : Int32))]
        refine gw_st (fun _ kq => XT.iconstV X1837.here hx rfl (1 : Int32) (hb hby at_184) (by decide) kq) ?_
        show Gwg T1837 m 185 [(.int (1 : Int32)), (.int (1 : Int32))]
        refine gw_st (fun _ kq => XS.icmpNo X1837.here hx rfl (hb hby at_185) rfl (XT.ii_lt_f (by decide)) kq) ?_
        show Gwg T1837 m 188 []
        refine gw_st (fun _ kq => XS.aload X1837.here hx rfl (hb hby at_188) rfl rfl kq) ?_
        show Gwg T1837 m 190 [(.ref a1785)]
        have c1846 := Exa.keep c1839 K1837
        have z1847 : n0 ≤ T1837.heap.size := Nat.le_trans z1844 K1837.1
        refine gw_callV X1837 hx hZ hml hown (wd hw 83 rfl) (wd hw 84 rfl) (notFace_of_selects (args := #[]) (mvT hZ (wd hw 86 rfl))) (wd hw 86 rfl) (wd hw 85 rfl) (wd hw 87 rfl) (wd hw 3 rfl) rfl c1846 (argsL := []) (rest := []) (W := 0) (met_sk0 l Z a0 hw a1785 a1805 T1837.heap n0 z1847 c1846 f1837_0 f1837_1 nw_a1785) (hb hby at_190) rfl rfl rfl (lenOf pd15 rfl) (by show 2 * 0 + _ ≤ _; exact Nat.le_of_eq rfl) (by decide) (by decide) (by decide) (by decide) (by decide) ?_
        intro T1845 v1845 L1845 X1845 q1845
        obtain ⟨rfl, M1845, K1845, f1845_0, f1845_1⟩ := q1845
        have N1845 := Fr.app N1837 M1845
        show Gwg T1845 m 193 []
        refine gw_st (fun _ kq => XS.iload X1845.here hx rfl (hb hby at_193) rfl kq) ?_
        show Gwg T1845 m 195 [(.int (1 : Int32))]
        refine gw_st (fun _ kq => XT.iconstV X1845.here hx rfl (2 : Int32) (hb hby at_195) (by decide) kq) ?_
        show Gwg T1845 m 196 [(.int (2 : Int32)), (.int (1 : Int32))]
        refine gw_st (fun _ kq => XS.icmpYes X1845.here hx rfl (pc0 := 196) (pc' := 204) rfl (hb hby at_196) rfl (XT.ii_lt_t (by decide)) (by decide) (by decide) kq) ?_
        show Gwg T1845 m 204 []
        refine gw_st (fun _ kq => XS.iload X1845.here hx rfl (hb hby at_204) rfl kq) ?_
        show Gwg T1845 m 206 [(.int (1 : Int32))]
        refine gw_st (fun _ kq => XT.iconstV X1845.here hx rfl (3 : Int32) (hb hby at_206) (by decide) kq) ?_
        show Gwg T1845 m 207 [(.int (3 : Int32)), (.int (1 : Int32))]
        refine gw_st (fun _ kq => XS.icmpYes X1845.here hx rfl (pc0 := 207) (pc' := 215) rfl (hb hby at_207) rfl (XT.ii_lt_t (by decide)) (by decide) (by decide) kq) ?_
        show Gwg T1845 m 215 []
        refine gw_st (fun _ kq => XS.aload X1845.here hx rfl (hb hby at_215) rfl rfl kq) ?_
        show Gwg T1845 m 217 [(.ref a1785)]
        refine gw_st (fun _ kq => XS.iload X1845.here hx rfl (hb hby at_217) rfl kq) ?_
        show Gwg T1845 m 219 [(.int ((XT.ushr x0 (8 : Int32)) &&& (255 : Int32))), (.ref a1785)]
        have c1849 := Exa.keep f1815_0 K1837
        have c1850 := Exa.keep c1849 K1845
        have c1851 := Fld.keep f1815_1 K1837 (ninS (Ne.symm ne1811) nin0)
        have c1852 := Fld.keep c1851 K1845 (ninS (Ne.symm ne1811) nin0)
        have c1853 := Fld.keep f1815_2 K1837 (ninS (Ne.symm ne1811) nin0)
        have c1854 := Fld.keep c1853 K1845 (ninS (Ne.symm ne1811) nin0)
        have c1855 := GA.keep f1815_3 K1837 (ninS (Ne.symm ne1834) nin0)
        have c1856 := GA.keep c1855 K1845 (ninS (Ne.symm ne1834) nin0)
        have c1857 := Old.keep c1827 K1815 (allS nw_a1805 all0)
        have c1858 := Old.keep c1857 K1837 (allS nw_a1785 all0)
        have c1859 := Old.keep c1858 K1845 (allS nw_a1785 all0)
        have z1860 : n0 ≤ T1845.heap.size := Nat.le_trans z1847 K1845.1
        have c1861 := Exa.keep c1846 K1845
        refine gw_callV X1845 hx hZ hml hown (wd hw 39 rfl) (wd hw 40 rfl) (notFace_of_selects (args := #[]) (mvT hZ (wd hw 42 rfl))) (wd hw 42 rfl) (wd hw 41 rfl) (wd hw 43 rfl) (wd hw 3 rfl) rfl c1861 (argsL := [(.int ((XT.ushr x0 (8 : Int32)) &&& (255 : Int32)))]) (rest := []) (W := 0) (met_pk31t l Z a0 hw a1785 a1805 r_1815 (x0 &&& (255 : Int32)) ((XT.ushr x0 (8 : Int32)) &&& (255 : Int32)) ((XT.ushr x0 (16 : Int32)) &&& (255 : Int32)) ((XT.ushr x0 (8 : Int32)) &&& (255 : Int32)) zc vf rf T1845.heap n0 z1860 f1845_1 f1845_0 c1850 c1852 c1854 c1856 (own_lat _) (own_lat _) (own_lat _) c1859 S0 zn S1 rfl) (hb hby at_219) rfl rfl rfl (lenOf pd13 rfl) (by show 2 * 0 + _ ≤ _; exact Nat.le_of_eq rfl) (by decide) (by decide) (by decide) (by decide) (by decide) ?_
        intro T1848 v1848 L1848 X1848 q1848
        obtain ⟨rfl, M1848, K1848⟩ := q1848
        have N1848 := Fr.app N1845 M1848
        show Gwg T1848 m 222 [(.int (1 : Int32))]
        refine gw_st (fun _ kq => XS.istore X1848.here hx rfl (hb hby at_222) rfl (l' := #[.val (.int x0), .val (.int x1), .val (.int x2), .val (.int (x0 &&& (255 : Int32))), .val (.int ((XT.ushr x0 (8 : Int32)) &&& (255 : Int32))), .val (.int ((XT.ushr x0 (16 : Int32)) &&& (255 : Int32))), .val (.ref a253), .val (.int (3 : Int32)), .val (.int (1 : Int32)), .val (.int ((XT.ushr x0 (8 : Int32)) &&& (255 : Int32))), .val (.ref a1769), .val (.ref a1785), .val (.int (1 : Int32)), .unset]) rfl kq) ?_
        show Gwg T1848 m 224 []
        refine gw_st (fun _ kq => XS.iload X1848.here hx rfl (hb hby at_224) rfl kq) ?_
        show Gwg T1848 m 226 [(.int (1 : Int32))]
        refine gw_st (fun _ kq => XS.iload X1848.here hx rfl (hb hby at_226) rfl kq) ?_
        show Gwg T1848 m 228 [(.int (3 : Int32)), (.int (1 : Int32))]
        refine gw_st (fun _ kq => XS.icmpNo X1848.here hx rfl (hb hby at_228) rfl (XT.ii_ge_f (by decide)) kq) ?_
        show Gwg T1848 m 231 []
        refine gw_st (fun _ kq => XS.aload X1848.here hx rfl (hb hby at_231) rfl rfl kq) ?_
        show Gwg T1848 m 233 [(.ref a253)]
        refine gw_st (fun _ kq => XS.iload X1848.here hx rfl (hb hby at_233) rfl kq) ?_
        show Gwg T1848 m 235 [(.int (1 : Int32)), (.ref a253)]
        have c1862 := A259.ext E1769
        have c1863 := c1862.other W1782 ne1777
        have c1864 := c1863.other W1783 ne1777
        have c1865 := c1864.other W1784 ne1777
        have c1866 := c1865.ext E1785
        have c1867 := c1866.ext E1805
        have c1868 := GA.keep c1867 K1815 (ninS ne1808 nin0)
        have c1869 := GA.keep c1868 K1837 (ninS ne1794 nin0)
        have c1870 := GA.keep c1869 K1845 (ninS ne1794 nin0)
        have c1871 := GA.keep c1870 K1848 nin0
        refine gw_cald X1848 hx hZ rfl c1871 (hb hby at_235) rfl rfl (by decide) (.int ((XT.ushr x0 (8 : Int32)) &&& (255 : Int32))) rfl ?_
        show Gwg T1848 m 236 [(.int ((XT.ushr x0 (8 : Int32)) &&& (255 : Int32)))]
        refine gw_st (fun _ kq => XS.iload X1848.here hx rfl (hb hby at_236) rfl kq) ?_
        show Gwg T1848 m 238 [(.int ((XT.ushr x0 (8 : Int32)) &&& (255 : Int32))), (.int ((XT.ushr x0 (8 : Int32)) &&& (255 : Int32)))]
        refine gw_st (fun _ kq => XS.icmpNo X1848.here hx rfl (hb hby at_238) rfl (XT.ii_ne_f rfl) kq) ?_
        show Gwg T1848 m 241 []
        refine gw_st (fun _ kq => XT.iconstV X1848.here hx rfl (1 : Int32) (hb hby at_241) (by decide) kq) ?_
        show Gwg T1848 m 242 [(.int (1 : Int32))]
        refine gw_st (fun _ kq => XS.goto X1848.here hx rfl (pc0 := 242) (pc' := 246) rfl (hb hby at_242) (by decide) (by decide) kq) ?_
        show Gwg T1848 m 246 [(.int (1 : Int32))]
        refine gw_st (fun _ kq => XS.istore X1848.here hx rfl (hb hby at_246) rfl (l' := #[.val (.int x0), .val (.int x1), .val (.int x2), .val (.int (x0 &&& (255 : Int32))), .val (.int ((XT.ushr x0 (8 : Int32)) &&& (255 : Int32))), .val (.int ((XT.ushr x0 (16 : Int32)) &&& (255 : Int32))), .val (.ref a253), .val (.int (3 : Int32)), .val (.int (1 : Int32)), .val (.int ((XT.ushr x0 (8 : Int32)) &&& (255 : Int32))), .val (.ref a1769), .val (.ref a1785), .val (.int (1 : Int32)), .val (.int (1 : Int32))]) rfl kq) ?_
        show Gwg T1848 m 248 []
        refine gw_st (fun _ kq => XS.iload X1848.here hx rfl (hb hby at_248) rfl kq) ?_
        show Gwg T1848 m 250 [(.int (1 : Int32))]
        refine gw_st (fun _ kq => XS.iload X1848.here hx rfl (hb hby at_250) rfl kq) ?_
        show Gwg T1848 m 252 [(.int (1 : Int32)), (.int (1 : Int32))]
        refine gw_st (fun _ kq => XS.icmpNo X1848.here hx rfl (hb hby at_252) rfl (XT.ii_ne_f (by decide)) kq) ?_
        show Gwg T1848 m 255 []
        refine gw_st (fun _ kq => XS.aload X1848.here hx rfl (hb hby at_255) rfl rfl kq) ?_
        show Gwg T1848 m 257 [(.ref a1785)]
        have c1873 := Fld.keep f1845_1 K1848 nin0
        have z1874 : n0 ≤ T1848.heap.size := Nat.le_trans z1860 K1848.1
        have c1875 := Exa.keep c1861 K1848
        refine gw_callV X1848 hx hZ hml hown (wd hw 78 rfl) (wd hw 79 rfl) (notFace_of_selects (args := #[]) (mvT hZ (wd hw 81 rfl))) (wd hw 81 rfl) (wd hw 80 rfl) (wd hw 82 rfl) (wd hw 3 rfl) rfl c1875 (argsL := []) (rest := []) (W := 0) (met_16 l Z a0 hw a1785 (1 : Int32) T1848.heap n0 z1874 c1873) (hb hby at_257) rfl rfl rfl (lenOf pd9 rfl) (by show 2 * 0 + _ ≤ _; exact Nat.le_of_eq rfl) (by decide) (by decide) (by decide) (by decide) (by decide) ?_
        intro T1872 v1872 L1872 X1872 q1872
        obtain ⟨rfl, M1872, e1872⟩ := q1872
        have N1872 := Fr.app N1848 M1872
        show Gwg T1872 m 260 [(.int (1 : Int32))]
        refine gw_st (fun _ kq => XS.iload X1872.here hx rfl (hb hby at_260) rfl kq) ?_
        show Gwg T1872 m 262 [(.int (1 : Int32)), (.int (1 : Int32))]
        refine gw_st (fun _ kq => XS.icmpNo X1872.here hx rfl (hb hby at_262) rfl (XT.ii_ne_f (by decide)) kq) ?_
        show Gwg T1872 m 265 []
        refine gw_st (fun _ kq => XT.iconstV X1872.here hx rfl (1 : Int32) (hb hby at_265) (by decide) kq) ?_
        show Gwg T1872 m 266 [(.int (1 : Int32))]
        refine gw_st (fun _ kq => XS.goto X1872.here hx rfl (pc0 := 266) (pc' := 270) rfl (hb hby at_266) (by decide) (by decide) kq) ?_
        show Gwg T1872 m 270 [(.int (1 : Int32))]
        exact gw_retB (w := (1 : Int32)) X1872 hx hlk hret (hb hby at_270) (by decide) (by decide) (by decide) ⟨rfl, N1872⟩
      ·by_cases hk1876 : (((XT.ushr x2 (2 : Int32)) &&& (3 : Int32)) % (4 : Int32)) = (2 : Int32)
       ·rw [hk1876]
        show Gwg T259 m 65 []
        refine gw_st (fun _ kq => XS.iloadN X259.here hx rfl (hb hby at_65) rfl kq) ?_
        show Gwg T259 m 66 [(.int x2)]
        refine gw_st (fun _ kq => XT.iconstV X259.here hx rfl (4 : Int32) (hb hby at_66) (by decide) kq) ?_
        show Gwg T259 m 67 [(.int (4 : Int32)), (.int x2)]
        refine gw_st (fun _ kq => XT.iushr X259.here hx rfl (hb hby at_67) rfl kq) ?_
        show Gwg T259 m 68 [(.int (XT.ushr x2 (4 : Int32)))]
        refine gw_st (fun _ kq => XT.iconstV X259.here hx rfl (1 : Int32) (hb hby at_68) (by decide) kq) ?_
        show Gwg T259 m 69 [(.int (1 : Int32)), (.int (XT.ushr x2 (4 : Int32)))]
        refine gw_st (fun _ kq => XS.iand X259.here hx rfl (hb hby at_69) rfl kq) ?_
        show Gwg T259 m 70 [(.int ((XT.ushr x2 (4 : Int32)) &&& (1 : Int32)))]
        by_cases hc1877 : ((XT.ushr x2 (4 : Int32)) &&& (1 : Int32)) = (0 : Int32)
        ·refine gw_st (fun _ kq => XS.ifYes X259.here hx rfl (pc0 := 70) (pc' := 87) rfl (hb hby at_70) rfl (XT.i0_eq_t hc1877) (by decide) (by decide) kq) ?_
         show Gwg T259 m 87 []
         refine gw_st (fun _ kq => XS.iloadN X259.here hx rfl (hb hby at_87) rfl kq) ?_
         show Gwg T259 m 88 [(.int x1)]
         refine gw_st (fun _ kq => XT.i2c X259.here hx rfl (hb hby at_88) rfl kq) ?_
         show Gwg T259 m 89 [(.int x1.toUInt32.toUInt16.toUInt32.toInt32)]
         refine gw_st (fun _ kq => XS.istore X259.here hx rfl (hb hby at_89) rfl (l' := #[.val (.int x0), .val (.int x1), .val (.int x2), .val (.int (x0 &&& (255 : Int32))), .val (.int ((XT.ushr x0 (8 : Int32)) &&& (255 : Int32))), .val (.int ((XT.ushr x0 (16 : Int32)) &&& (255 : Int32))), .val (.ref a253), .val (.int (3 : Int32)), .val (.int (2 : Int32)), .val (.int x1.toUInt32.toUInt16.toUInt32.toInt32), .unset, .unset, .unset, .unset]) rfl kq) ?_
         show Gwg T259 m 91 []
         refine gw_st (fun _ kq => XS.iload X259.here hx rfl (hb hby at_91) rfl kq) ?_
         show Gwg T259 m 93 [(.int (3 : Int32))]
         refine gw_st (fun _ kq => XS.ifYes X259.here hx rfl (pc0 := 93) (pc' := 104) rfl (hb hby at_93) rfl (XT.i0_ne_t (by decide)) (by decide) (by decide) kq) ?_
         show Gwg T259 m 104 []
         refine gw_st (fun _ kq => XS.iload X259.here hx rfl (hb hby at_104) rfl kq) ?_
         show Gwg T259 m 106 [(.int (3 : Int32))]
         refine gw_st (fun _ kq => XT.iconstV X259.here hx rfl (1 : Int32) (hb hby at_106) (by decide) kq) ?_
         show Gwg T259 m 107 [(.int (1 : Int32)), (.int (3 : Int32))]
         refine gw_st (fun _ kq => XS.icmpYes X259.here hx rfl (pc0 := 107) (pc' := 122) rfl (hb hby at_107) rfl (XT.ii_ne_t (by decide)) (by decide) (by decide) kq) ?_
         show Gwg T259 m 122 []
         refine gw_st (fun _ kq => XS.iload X259.here hx rfl (hb hby at_122) rfl kq) ?_
         show Gwg T259 m 124 [(.int (3 : Int32))]
         refine gw_st (fun _ kq => XT.iconstV X259.here hx rfl (2 : Int32) (hb hby at_124) (by decide) kq) ?_
         show Gwg T259 m 125 [(.int (2 : Int32)), (.int (3 : Int32))]
         refine gw_st (fun _ kq => XS.icmpYes X259.here hx rfl (pc0 := 125) (pc' := 145) rfl (hb hby at_125) rfl (XT.ii_ne_t (by decide)) (by decide) (by decide) kq) ?_
         show Gwg T259 m 145 []
         refine gw_st (fun _ kq => XT.iconstV X259.here hx rfl (3 : Int32) (hb hby at_145) (by decide) kq) ?_
         show Gwg T259 m 146 [(.int (3 : Int32))]
         refine gw_newP X259 hx hZ (wd hw 0 rfl) e259 (hb hby at_146) rfl rfl 3 (by decide) 3 (Nat.le_refl _) (by decide) (by decide) (by decide) ?_
         intro T1878 h1878 a1878 g1878 X1878 e1878 E1878 G1878
         have c1883 : a253 < h255.size := (Wr.size W255).symm ▸ lt_a253
         have c1884 : a253 < h257.size := (Wr.size W257).symm ▸ c1883
         have c1885 : a253 < h259.size := (Wr.size W259).symm ▸ c1884
         have ne1886 : a253 ≠ a1878 := fun q => Nat.lt_irrefl _ (Nat.lt_of_lt_of_le c1885 (Nat.le_of_eq (g1878.symm.trans q.symm)))
         have z1887 : n0 ≤ h253.size := Nat.le_trans Z0 E253.1
         have z1888 : n0 ≤ h255.size := (Wr.size W255).symm ▸ z1887
         have z1889 : n0 ≤ h257.size := (Wr.size W257).symm ▸ z1888
         have z1890 : n0 ≤ h259.size := (Wr.size W259).symm ▸ z1889
         have nw_a1878 : n0 ≤ a1878 := Nat.le_trans z1890 (Nat.le_of_eq g1878.symm)
         have lt_a1878 : a1878 < h1878.size := G1878.lt
         have A1878 : GA Z h1878 a1878 .char 3 (fun i => .int (own_c3 (0 : Int32) (0 : Int32) (0 : Int32) i)) := (GA.congr G1878 (fun i _ => own_z3 i))
         show Gwg T1878 m 148 [(.ref a1878)]
         refine gw_st (fun _ kq => XS.dup X1878.here hx rfl (hb hby at_148) rfl rfl kq) ?_
         show Gwg T1878 m 149 [(.ref a1878), (.ref a1878)]
         refine gw_st (fun _ kq => XT.iconstV X1878.here hx rfl (0 : Int32) (hb hby at_149) (by decide) kq) ?_
         show Gwg T1878 m 150 [(.int (0 : Int32)), (.ref a1878), (.ref a1878)]
         refine gw_st (fun _ kq => XS.iloadN X1878.here hx rfl (hb hby at_150) rfl kq) ?_
         show Gwg T1878 m 151 [(.int (x0 &&& (255 : Int32))), (.int (0 : Int32)), (.ref a1878), (.ref a1878)]
         refine gw_cast X1878 hx hZ e1878 A1878 (hb hby at_151) rfl rfl (by decide) ?_
         intro T1891 h1891 X1891 e1891 W1891 G1891
         have N1891 := Fr.snoc X1891 N259 nw_a1878
         have A1891 : GA Z h1891 a1878 .char 3 (fun i => .int (own_c3 (x0 &&& (255 : Int32)) (0 : Int32) (0 : Int32) i)) := (own_stc (own_nc (own_lat _)) (by decide) (own_c30 (x0 &&& (255 : Int32)) (0 : Int32) (0 : Int32) (0 : Int32)) G1891)
         show Gwg T1891 m 152 [(.ref a1878)]
         refine gw_st (fun _ kq => XS.dup X1891.here hx rfl (hb hby at_152) rfl rfl kq) ?_
         show Gwg T1891 m 153 [(.ref a1878), (.ref a1878)]
         refine gw_st (fun _ kq => XT.iconstV X1891.here hx rfl (1 : Int32) (hb hby at_153) (by decide) kq) ?_
         show Gwg T1891 m 154 [(.int (1 : Int32)), (.ref a1878), (.ref a1878)]
         refine gw_st (fun _ kq => XS.iload X1891.here hx rfl (hb hby at_154) rfl kq) ?_
         show Gwg T1891 m 156 [(.int ((XT.ushr x0 (8 : Int32)) &&& (255 : Int32))), (.int (1 : Int32)), (.ref a1878), (.ref a1878)]
         refine gw_cast X1891 hx hZ e1891 A1891 (hb hby at_156) rfl rfl (by decide) ?_
         intro T1892 h1892 X1892 e1892 W1892 G1892
         have N1892 := Fr.snoc X1892 N1891 nw_a1878
         have A1892 : GA Z h1892 a1878 .char 3 (fun i => .int (own_c3 (x0 &&& (255 : Int32)) ((XT.ushr x0 (8 : Int32)) &&& (255 : Int32)) (0 : Int32) i)) := (own_stc (own_nc (own_lat _)) (by decide) (own_c31 ((XT.ushr x0 (8 : Int32)) &&& (255 : Int32)) (x0 &&& (255 : Int32)) (0 : Int32) (0 : Int32)) G1892)
         show Gwg T1892 m 157 [(.ref a1878)]
         refine gw_st (fun _ kq => XS.dup X1892.here hx rfl (hb hby at_157) rfl rfl kq) ?_
         show Gwg T1892 m 158 [(.ref a1878), (.ref a1878)]
         refine gw_st (fun _ kq => XT.iconstV X1892.here hx rfl (2 : Int32) (hb hby at_158) (by decide) kq) ?_
         show Gwg T1892 m 159 [(.int (2 : Int32)), (.ref a1878), (.ref a1878)]
         refine gw_st (fun _ kq => XS.iload X1892.here hx rfl (hb hby at_159) rfl kq) ?_
         show Gwg T1892 m 161 [(.int ((XT.ushr x0 (16 : Int32)) &&& (255 : Int32))), (.int (2 : Int32)), (.ref a1878), (.ref a1878)]
         refine gw_cast X1892 hx hZ e1892 A1892 (hb hby at_161) rfl rfl (by decide) ?_
         intro T1893 h1893 X1893 e1893 W1893 G1893
         have N1893 := Fr.snoc X1893 N1892 nw_a1878
         have A1893 : GA Z h1893 a1878 .char 3 (fun i => .int (own_c3 (x0 &&& (255 : Int32)) ((XT.ushr x0 (8 : Int32)) &&& (255 : Int32)) ((XT.ushr x0 (16 : Int32)) &&& (255 : Int32)) i)) := (own_stc (own_nc (own_lat _)) (by decide) (own_c32 ((XT.ushr x0 (16 : Int32)) &&& (255 : Int32)) (x0 &&& (255 : Int32)) ((XT.ushr x0 (8 : Int32)) &&& (255 : Int32)) (0 : Int32)) G1893)
         show Gwg T1893 m 162 [(.ref a1878)]
         refine gw_st (fun _ kq => XS.astore X1893.here hx rfl (hb hby at_162) rfl rfl (l' := #[.val (.int x0), .val (.int x1), .val (.int x2), .val (.int (x0 &&& (255 : Int32))), .val (.int ((XT.ushr x0 (8 : Int32)) &&& (255 : Int32))), .val (.int ((XT.ushr x0 (16 : Int32)) &&& (255 : Int32))), .val (.ref a253), .val (.int (3 : Int32)), .val (.int (2 : Int32)), .val (.int x1.toUInt32.toUInt16.toUInt32.toInt32), .val (.ref a1878), .unset, .unset, .unset]) rfl kq) ?_
         show Gwg T1893 m 164 []
         refine gw_newO X1893 hx hZ hown (wd hw 1 rfl) (wd hw 2 rfl) (wd hw 3 rfl) e1893 (hb hby at_164) rfl (by decide) (by decide) ?_
         intro T1894 h1894 a1894 g1894 X1894 e1894 E1894 A1894 D1894
         have c1899 : a253 < h1878.size := Nat.lt_of_lt_of_le c1885 E1878.1
         have c1900 : a253 < h1891.size := (Wr.size W1891).symm ▸ c1899
         have c1901 : a253 < h1892.size := (Wr.size W1892).symm ▸ c1900
         have c1902 : a253 < h1893.size := (Wr.size W1893).symm ▸ c1901
         have ne1903 : a253 ≠ a1894 := fun q => Nat.lt_irrefl _ (Nat.lt_of_lt_of_le c1902 (Nat.le_of_eq (g1894.symm.trans q.symm)))
         have c1904 : a1878 < h1891.size := (Wr.size W1891).symm ▸ lt_a1878
         have c1905 : a1878 < h1892.size := (Wr.size W1892).symm ▸ c1904
         have c1906 : a1878 < h1893.size := (Wr.size W1893).symm ▸ c1905
         have z1908 : n0 ≤ h1878.size := Nat.le_trans z1890 E1878.1
         have z1909 : n0 ≤ h1891.size := (Wr.size W1891).symm ▸ z1908
         have z1910 : n0 ≤ h1892.size := (Wr.size W1892).symm ▸ z1909
         have z1911 : n0 ≤ h1893.size := (Wr.size W1893).symm ▸ z1910
         have nw_a1894 : n0 ≤ a1894 := Nat.le_trans z1911 (Nat.le_of_eq g1894.symm)
         have lt_a1894 : a1894 < h1894.size := A1894.lt
         have F1912 : Fld Z h1894 a1894 "com/example/wirecall/wirecall/TextCursor" "text" "Ljava/lang/String;" .null := D1894 (Or.inr (wd hw 38 rfl)) (ty := (.object "java/lang/String")) (by decide)
         have F1913 : Fld Z h1894 a1894 "com/example/wirecall/wirecall/TextCursor" "pos" "I" (.int (0 : Int32)) := D1894 (Or.inl (wd hw 45 rfl)) (ty := .int) (by decide)
         show Gwg T1894 m 167 [(.ref a1894)]
         refine gw_st (fun _ kq => XS.dup X1894.here hx rfl (hb hby at_167) rfl rfl kq) ?_
         show Gwg T1894 m 168 [(.ref a1894), (.ref a1894)]
         refine gw_newO X1894 hx hZ hown (wd hw 4 rfl) (wd hw 5 rfl) (wd hw 6 rfl) e1894 (hb hby at_168) rfl (by decide) (by decide) ?_
         intro T1914 h1914 a1914 g1914 X1914 e1914 E1914 A1914 D1914
         have c1916 : a253 < h1894.size := Nat.lt_of_lt_of_le c1902 E1894.1
         have ne1917 : a253 ≠ a1914 := fun q => Nat.lt_irrefl _ (Nat.lt_of_lt_of_le c1916 (Nat.le_of_eq (g1914.symm.trans q.symm)))
         have c1918 : a1878 < h1894.size := Nat.lt_of_lt_of_le c1906 E1894.1
         have ne1919 : a1878 ≠ a1914 := fun q => Nat.lt_irrefl _ (Nat.lt_of_lt_of_le c1918 (Nat.le_of_eq (g1914.symm.trans q.symm)))
         have ne1920 : a1894 ≠ a1914 := fun q => Nat.lt_irrefl _ (Nat.lt_of_lt_of_le lt_a1894 (Nat.le_of_eq (g1914.symm.trans q.symm)))
         have z1921 : n0 ≤ h1894.size := Nat.le_trans z1911 E1894.1
         have nw_a1914 : n0 ≤ a1914 := Nat.le_trans z1921 (Nat.le_of_eq g1914.symm)
         have F1922 : Fld Z h1914 a1914 "java/lang/String" "coder" "B" (.int (0 : Int32)) := D1914 (Or.inr (wd hw 30 rfl)) (ty := .byte) (by decide)
         have F1923 : Fld Z h1914 a1914 "java/lang/String" "value" "[B" .null := D1914 (Or.inr (wd hw 32 rfl)) (ty := (.array .byte)) (by decide)
         show Gwg T1914 m 171 [(.ref a1914), (.ref a1894), (.ref a1894)]
         refine gw_st (fun _ kq => XS.dup X1914.here hx rfl (hb hby at_171) rfl rfl kq) ?_
         show Gwg T1914 m 172 [(.ref a1914), (.ref a1914), (.ref a1894), (.ref a1894)]
         refine gw_st (fun _ kq => XS.aload X1914.here hx rfl (hb hby at_172) rfl rfl kq) ?_
         show Gwg T1914 m 174 [(.ref a1878), (.ref a1914), (.ref a1914), (.ref a1894), (.ref a1894)]
         have c1925 := A1893.ext E1894
         have c1926 := c1925.ext E1914
         have c1927 := Old.ext O0 E253
         have c1928 := Old.wr c1927 W255 nw_a253
         have c1929 := Old.wr c1928 W257 nw_a253
         have c1930 := Old.wr c1929 W259 nw_a253
         have c1931 := Old.ext c1930 E1878
         have c1932 := Old.wr c1931 W1891 nw_a1878
         have c1933 := Old.wr c1932 W1892 nw_a1878
         have c1934 := Old.wr c1933 W1893 nw_a1878
         have c1935 := Old.ext c1934 E1894
         have c1936 := Old.ext c1935 E1914
         have z1937 : n0 ≤ h1914.size := Nat.le_trans z1921 E1914.1
         refine gw_callI X1914 hx hZ hml hown rfl (wd hw 7 rfl) (wd hw 8 rfl) (wd hw 9 rfl) (wd hw 6 rfl) e1914 (argsL := [(.ref a1878)]) (rest := [(.ref a1914), (.ref a1894), (.ref a1894)]) (W := 3) (met_s3 l Z a0 hw a1914 a1878 (x0 &&& (255 : Int32)) ((XT.ushr x0 (8 : Int32)) &&& (255 : Int32)) ((XT.ushr x0 (16 : Int32)) &&& (255 : Int32)) zc h1914 n0 z1937 A1914 F1923 F1922 nw_a1914 c1926 (Ne.symm ne1919) (own_lat _) (own_lat _) (own_lat _) c1936 S0 zn) (hb hby at_174) rfl rfl rfl (lenOf pd11 rfl) (by show 2 * 0 + _ ≤ _; exact Nat.le_of_eq rfl) (by decide) (by decide) (by decide) (by decide) (by decide) ?_
         intro T1924 v1924 L1924 X1924 q1924
         obtain ⟨r_1924, rfl, M1924, K1924, fz1924_r, f1924_0, f1924_1, f1924_2, f1924_3⟩ := q1924
         have N1924 := Fr.app N1893 M1924
         have c1942 : a1894 < h1914.size := Nat.lt_of_lt_of_le lt_a1894 E1914.1
         have ne1943 : a1894 ≠ r_1924 := Nat.ne_of_lt (Nat.lt_of_lt_of_le c1942 fz1924_r)
         show Gwg T1924 m 177 [(.ref a1914), (.ref a1894), (.ref a1894)]
         have c1947 := Exa.ext E1914 A1894
         have c1948 := Exa.keep c1947 K1924
         have c1949 := Fld.ext E1914 F1912
         have c1950 := Fld.keep c1949 K1924 (ninS ne1920 nin0)
         have c1951 := Fld.ext E1914 F1913
         have c1952 := Fld.keep c1951 K1924 (ninS ne1920 nin0)
         have z1953 : n0 ≤ T1924.heap.size := Nat.le_trans z1937 K1924.1
         refine gw_callI X1924 hx hZ hml hown rfl (wd hw 33 rfl) (wd hw 34 rfl) (wd hw 35 rfl) (wd hw 3 rfl) rfl (argsL := [(.ref a1914)]) (rest := [(.ref a1894)]) (W := 1) (met_tci l Z a0 hw a1894 a1914 T1924.heap n0 z1953 c1948 c1950 c1952 nw_a1894) (hb hby at_177) rfl rfl rfl (lenOf pd12 rfl) (by show 2 * 0 + _ ≤ _; exact Nat.le_of_eq rfl) (by decide) (by decide) (by decide) (by decide) (by decide) ?_
         intro T1946 v1946 L1946 X1946 q1946
         obtain ⟨rfl, M1946, K1946, f1946_0, f1946_1⟩ := q1946
         have N1946 := Fr.app N1924 M1946
         show Gwg T1946 m 180 [(.ref a1894)]
         refine gw_st (fun _ kq => XS.astore X1946.here hx rfl (hb hby at_180) rfl rfl (l' := #[.val (.int x0), .val (.int x1), .val (.int x2), .val (.int (x0 &&& (255 : Int32))), .val (.int ((XT.ushr x0 (8 : Int32)) &&& (255 : Int32))), .val (.int ((XT.ushr x0 (16 : Int32)) &&& (255 : Int32))), .val (.ref a253), .val (.int (3 : Int32)), .val (.int (2 : Int32)), .val (.int x1.toUInt32.toUInt16.toUInt32.toInt32), .val (.ref a1878), .val (.ref a1894), .unset, .unset]) rfl kq) ?_
         show Gwg T1946 m 182 []
         refine gw_st (fun _ kq => XS.iload X1946.here hx rfl (hb hby at_182) rfl kq) ?_
         show Gwg T1946 m 184 [(.int (2 : Int32))]
         refine gw_st (fun _ kq => XT.iconstV X1946.here hx rfl (1 : Int32) (hb hby at_184) (by decide) kq) ?_
         show Gwg T1946 m 185 [(.int (1 : Int32)), (.int (2 : Int32))]
         refine gw_st (fun _ kq => XS.icmpNo X1946.here hx rfl (hb hby at_185) rfl (XT.ii_lt_f (by decide)) kq) ?_
         show Gwg T1946 m 188 []
         refine gw_st (fun _ kq => XS.aload X1946.here hx rfl (hb hby at_188) rfl rfl kq) ?_
         show Gwg T1946 m 190 [(.ref a1894)]
         have c1955 := Exa.keep c1948 K1946
         have z1956 : n0 ≤ T1946.heap.size := Nat.le_trans z1953 K1946.1
         refine gw_callV X1946 hx hZ hml hown (wd hw 83 rfl) (wd hw 84 rfl) (notFace_of_selects (args := #[]) (mvT hZ (wd hw 86 rfl))) (wd hw 86 rfl) (wd hw 85 rfl) (wd hw 87 rfl) (wd hw 3 rfl) rfl c1955 (argsL := []) (rest := []) (W := 0) (met_sk0 l Z a0 hw a1894 a1914 T1946.heap n0 z1956 c1955 f1946_0 f1946_1 nw_a1894) (hb hby at_190) rfl rfl rfl (lenOf pd15 rfl) (by show 2 * 0 + _ ≤ _; exact Nat.le_of_eq rfl) (by decide) (by decide) (by decide) (by decide) (by decide) ?_
         intro T1954 v1954 L1954 X1954 q1954
         obtain ⟨rfl, M1954, K1954, f1954_0, f1954_1⟩ := q1954
         have N1954 := Fr.app N1946 M1954
         show Gwg T1954 m 193 []
         refine gw_st (fun _ kq => XS.iload X1954.here hx rfl (hb hby at_193) rfl kq) ?_
         show Gwg T1954 m 195 [(.int (2 : Int32))]
         refine gw_st (fun _ kq => XT.iconstV X1954.here hx rfl (2 : Int32) (hb hby at_195) (by decide) kq) ?_
         show Gwg T1954 m 196 [(.int (2 : Int32)), (.int (2 : Int32))]
         refine gw_st (fun _ kq => XS.icmpNo X1954.here hx rfl (hb hby at_196) rfl (XT.ii_lt_f (by decide)) kq) ?_
         show Gwg T1954 m 199 []
         refine gw_st (fun _ kq => XS.aload X1954.here hx rfl (hb hby at_199) rfl rfl kq) ?_
         show Gwg T1954 m 201 [(.ref a1894)]
         have c1958 := Exa.keep c1955 K1954
         have z1959 : n0 ≤ T1954.heap.size := Nat.le_trans z1956 K1954.1
         refine gw_callV X1954 hx hZ hml hown (wd hw 83 rfl) (wd hw 84 rfl) (notFace_of_selects (args := #[]) (mvT hZ (wd hw 86 rfl))) (wd hw 86 rfl) (wd hw 85 rfl) (wd hw 87 rfl) (wd hw 3 rfl) rfl c1958 (argsL := []) (rest := []) (W := 0) (met_sk1 l Z a0 hw a1894 a1914 T1954.heap n0 z1959 c1958 f1954_0 f1954_1 nw_a1894) (hb hby at_201) rfl rfl rfl (lenOf pd15 rfl) (by show 2 * 0 + _ ≤ _; exact Nat.le_of_eq rfl) (by decide) (by decide) (by decide) (by decide) (by decide) ?_
         intro T1957 v1957 L1957 X1957 q1957
         obtain ⟨rfl, M1957, K1957, f1957_0, f1957_1⟩ := q1957
         have N1957 := Fr.app N1954 M1957
         show Gwg T1957 m 204 []
         refine gw_st (fun _ kq => XS.iload X1957.here hx rfl (hb hby at_204) rfl kq) ?_
         show Gwg T1957 m 206 [(.int (2 : Int32))]
         refine gw_st (fun _ kq => XT.iconstV X1957.here hx rfl (3 : Int32) (hb hby at_206) (by decide) kq) ?_
         show Gwg T1957 m 207 [(.int (3 : Int32)), (.int (2 : Int32))]
         refine gw_st (fun _ kq => XS.icmpYes X1957.here hx rfl (pc0 := 207) (pc' := 215) rfl (hb hby at_207) rfl (XT.ii_lt_t (by decide)) (by decide) (by decide) kq) ?_
         show Gwg T1957 m 215 []
         refine gw_st (fun _ kq => XS.aload X1957.here hx rfl (hb hby at_215) rfl rfl kq) ?_
         show Gwg T1957 m 217 [(.ref a1894)]
         refine gw_st (fun _ kq => XS.iload X1957.here hx rfl (hb hby at_217) rfl kq) ?_
         show Gwg T1957 m 219 [(.int x1.toUInt32.toUInt16.toUInt32.toInt32), (.ref a1894)]
         by_cases hc1960 : ((XT.ushr x0 (16 : Int32)) &&& (255 : Int32)) = x1.toUInt32.toUInt16.toUInt32.toInt32
         ·show Gwg T1957 m 219 [(.int x1.toUInt32.toUInt16.toUInt32.toInt32), (.ref a1894)]
          have c1962 := Exa.keep f1924_0 K1946
          have c1963 := Exa.keep c1962 K1954
          have c1964 := Exa.keep c1963 K1957
          have c1965 := Fld.keep f1924_1 K1946 (ninS (Ne.symm ne1920) nin0)
          have c1966 := Fld.keep c1965 K1954 (ninS (Ne.symm ne1920) nin0)
          have c1967 := Fld.keep c1966 K1957 (ninS (Ne.symm ne1920) nin0)
          have c1968 := Fld.keep f1924_2 K1946 (ninS (Ne.symm ne1920) nin0)
          have c1969 := Fld.keep c1968 K1954 (ninS (Ne.symm ne1920) nin0)
          have c1970 := Fld.keep c1969 K1957 (ninS (Ne.symm ne1920) nin0)
          have c1971 := GA.keep f1924_3 K1946 (ninS (Ne.symm ne1943) nin0)
          have c1972 := GA.keep c1971 K1954 (ninS (Ne.symm ne1943) nin0)
          have c1973 := GA.keep c1972 K1957 (ninS (Ne.symm ne1943) nin0)
          have c1974 := Old.keep c1936 K1924 (allS nw_a1914 all0)
          have c1975 := Old.keep c1974 K1946 (allS nw_a1894 all0)
          have c1976 := Old.keep c1975 K1954 (allS nw_a1894 all0)
          have c1977 := Old.keep c1976 K1957 (allS nw_a1894 all0)
          have z1978 : n0 ≤ T1957.heap.size := Nat.le_trans z1959 K1957.1
          have c1979 := Exa.keep c1958 K1957
          refine gw_callV X1957 hx hZ hml hown (wd hw 39 rfl) (wd hw 40 rfl) (notFace_of_selects (args := #[]) (mvT hZ (wd hw 42 rfl))) (wd hw 42 rfl) (wd hw 41 rfl) (wd hw 43 rfl) (wd hw 3 rfl) rfl c1979 (argsL := [(.int x1.toUInt32.toUInt16.toUInt32.toInt32)]) (rest := []) (W := 0) (met_pk32t l Z a0 hw a1894 a1914 r_1924 (x0 &&& (255 : Int32)) ((XT.ushr x0 (8 : Int32)) &&& (255 : Int32)) ((XT.ushr x0 (16 : Int32)) &&& (255 : Int32)) x1.toUInt32.toUInt16.toUInt32.toInt32 zc vf rf T1957.heap n0 z1978 f1957_1 f1957_0 c1964 c1967 c1970 c1973 (own_lat _) (own_lat _) (own_lat _) c1977 S0 zn S1 hc1960) (hb hby at_219) rfl rfl rfl (lenOf pd13 rfl) (by show 2 * 0 + _ ≤ _; exact Nat.le_of_eq rfl) (by decide) (by decide) (by decide) (by decide) (by decide) ?_
          intro T1961 v1961 L1961 X1961 q1961
          obtain ⟨rfl, M1961, K1961⟩ := q1961
          have N1961 := Fr.app N1957 M1961
          show Gwg T1961 m 222 [(.int (1 : Int32))]
          refine gw_st (fun _ kq => XS.istore X1961.here hx rfl (hb hby at_222) rfl (l' := #[.val (.int x0), .val (.int x1), .val (.int x2), .val (.int (x0 &&& (255 : Int32))), .val (.int ((XT.ushr x0 (8 : Int32)) &&& (255 : Int32))), .val (.int ((XT.ushr x0 (16 : Int32)) &&& (255 : Int32))), .val (.ref a253), .val (.int (3 : Int32)), .val (.int (2 : Int32)), .val (.int x1.toUInt32.toUInt16.toUInt32.toInt32), .val (.ref a1878), .val (.ref a1894), .val (.int (1 : Int32)), .unset]) rfl kq) ?_
          show Gwg T1961 m 224 []
          refine gw_st (fun _ kq => XS.iload X1961.here hx rfl (hb hby at_224) rfl kq) ?_
          show Gwg T1961 m 226 [(.int (2 : Int32))]
          refine gw_st (fun _ kq => XS.iload X1961.here hx rfl (hb hby at_226) rfl kq) ?_
          show Gwg T1961 m 228 [(.int (3 : Int32)), (.int (2 : Int32))]
          refine gw_st (fun _ kq => XS.icmpNo X1961.here hx rfl (hb hby at_228) rfl (XT.ii_ge_f (by decide)) kq) ?_
          show Gwg T1961 m 231 []
          refine gw_st (fun _ kq => XS.aload X1961.here hx rfl (hb hby at_231) rfl rfl kq) ?_
          show Gwg T1961 m 233 [(.ref a253)]
          refine gw_st (fun _ kq => XS.iload X1961.here hx rfl (hb hby at_233) rfl kq) ?_
          show Gwg T1961 m 235 [(.int (2 : Int32)), (.ref a253)]
          have c1980 := A259.ext E1878
          have c1981 := c1980.other W1891 ne1886
          have c1982 := c1981.other W1892 ne1886
          have c1983 := c1982.other W1893 ne1886
          have c1984 := c1983.ext E1894
          have c1985 := c1984.ext E1914
          have c1986 := GA.keep c1985 K1924 (ninS ne1917 nin0)
          have c1987 := GA.keep c1986 K1946 (ninS ne1903 nin0)
          have c1988 := GA.keep c1987 K1954 (ninS ne1903 nin0)
          have c1989 := GA.keep c1988 K1957 (ninS ne1903 nin0)
          have c1990 := GA.keep c1989 K1961 nin0
          refine gw_cald X1961 hx hZ rfl c1990 (hb hby at_235) rfl rfl (by decide) (.int ((XT.ushr x0 (16 : Int32)) &&& (255 : Int32))) rfl ?_
          show Gwg T1961 m 236 [(.int ((XT.ushr x0 (16 : Int32)) &&& (255 : Int32)))]
          refine gw_st (fun _ kq => XS.iload X1961.here hx rfl (hb hby at_236) rfl kq) ?_
          show Gwg T1961 m 238 [(.int x1.toUInt32.toUInt16.toUInt32.toInt32), (.int ((XT.ushr x0 (16 : Int32)) &&& (255 : Int32)))]
          refine gw_st (fun _ kq => XS.icmpNo X1961.here hx rfl (hb hby at_238) rfl (XT.ii_ne_f hc1960) kq) ?_
          show Gwg T1961 m 241 []
          refine gw_st (fun _ kq => XT.iconstV X1961.here hx rfl (1 : Int32) (hb hby at_241) (by decide) kq) ?_
          show Gwg T1961 m 242 [(.int (1 : Int32))]
          refine gw_st (fun _ kq => XS.goto X1961.here hx rfl (pc0 := 242) (pc' := 246) rfl (hb hby at_242) (by decide) (by decide) kq) ?_
          show Gwg T1961 m 246 [(.int (1 : Int32))]
          refine gw_st (fun _ kq => XS.istore X1961.here hx rfl (hb hby at_246) rfl (l' := #[.val (.int x0), .val (.int x1), .val (.int x2), .val (.int (x0 &&& (255 : Int32))), .val (.int ((XT.ushr x0 (8 : Int32)) &&& (255 : Int32))), .val (.int ((XT.ushr x0 (16 : Int32)) &&& (255 : Int32))), .val (.ref a253), .val (.int (3 : Int32)), .val (.int (2 : Int32)), .val (.int x1.toUInt32.toUInt16.toUInt32.toInt32), .val (.ref a1878), .val (.ref a1894), .val (.int (1 : Int32)), .val (.int (1 : Int32))]) rfl kq) ?_
          show Gwg T1961 m 248 []
          refine gw_st (fun _ kq => XS.iload X1961.here hx rfl (hb hby at_248) rfl kq) ?_
          show Gwg T1961 m 250 [(.int (1 : Int32))]
          refine gw_st (fun _ kq => XS.iload X1961.here hx rfl (hb hby at_250) rfl kq) ?_
          show Gwg T1961 m 252 [(.int (1 : Int32)), (.int (1 : Int32))]
          refine gw_st (fun _ kq => XS.icmpNo X1961.here hx rfl (hb hby at_252) rfl (XT.ii_ne_f (by decide)) kq) ?_
          show Gwg T1961 m 255 []
          refine gw_st (fun _ kq => XS.aload X1961.here hx rfl (hb hby at_255) rfl rfl kq) ?_
          show Gwg T1961 m 257 [(.ref a1894)]
          have c1992 := Fld.keep f1957_1 K1961 nin0
          have z1993 : n0 ≤ T1961.heap.size := Nat.le_trans z1978 K1961.1
          have c1994 := Exa.keep c1979 K1961
          refine gw_callV X1961 hx hZ hml hown (wd hw 78 rfl) (wd hw 79 rfl) (notFace_of_selects (args := #[]) (mvT hZ (wd hw 81 rfl))) (wd hw 81 rfl) (wd hw 80 rfl) (wd hw 82 rfl) (wd hw 3 rfl) rfl c1994 (argsL := []) (rest := []) (W := 0) (met_16 l Z a0 hw a1894 (2 : Int32) T1961.heap n0 z1993 c1992) (hb hby at_257) rfl rfl rfl (lenOf pd9 rfl) (by show 2 * 0 + _ ≤ _; exact Nat.le_of_eq rfl) (by decide) (by decide) (by decide) (by decide) (by decide) ?_
          intro T1991 v1991 L1991 X1991 q1991
          obtain ⟨rfl, M1991, e1991⟩ := q1991
          have N1991 := Fr.app N1961 M1991
          show Gwg T1991 m 260 [(.int (2 : Int32))]
          refine gw_st (fun _ kq => XS.iload X1991.here hx rfl (hb hby at_260) rfl kq) ?_
          show Gwg T1991 m 262 [(.int (2 : Int32)), (.int (2 : Int32))]
          refine gw_st (fun _ kq => XS.icmpNo X1991.here hx rfl (hb hby at_262) rfl (XT.ii_ne_f (by decide)) kq) ?_
          show Gwg T1991 m 265 []
          refine gw_st (fun _ kq => XT.iconstV X1991.here hx rfl (1 : Int32) (hb hby at_265) (by decide) kq) ?_
          show Gwg T1991 m 266 [(.int (1 : Int32))]
          refine gw_st (fun _ kq => XS.goto X1991.here hx rfl (pc0 := 266) (pc' := 270) rfl (hb hby at_266) (by decide) (by decide) kq) ?_
          show Gwg T1991 m 270 [(.int (1 : Int32))]
          exact gw_retB (w := (1 : Int32)) X1991 hx hlk hret (hb hby at_270) (by decide) (by decide) (by decide) ⟨rfl, N1991⟩
         ·show Gwg T1957 m 219 [(.int x1.toUInt32.toUInt16.toUInt32.toInt32), (.ref a1894)]
          have c1996 := Exa.keep f1924_0 K1946
          have c1997 := Exa.keep c1996 K1954
          have c1998 := Exa.keep c1997 K1957
          have c1999 := Fld.keep f1924_1 K1946 (ninS (Ne.symm ne1920) nin0)
          have c2000 := Fld.keep c1999 K1954 (ninS (Ne.symm ne1920) nin0)
          have c2001 := Fld.keep c2000 K1957 (ninS (Ne.symm ne1920) nin0)
          have c2002 := Fld.keep f1924_2 K1946 (ninS (Ne.symm ne1920) nin0)
          have c2003 := Fld.keep c2002 K1954 (ninS (Ne.symm ne1920) nin0)
          have c2004 := Fld.keep c2003 K1957 (ninS (Ne.symm ne1920) nin0)
          have c2005 := GA.keep f1924_3 K1946 (ninS (Ne.symm ne1943) nin0)
          have c2006 := GA.keep c2005 K1954 (ninS (Ne.symm ne1943) nin0)
          have c2007 := GA.keep c2006 K1957 (ninS (Ne.symm ne1943) nin0)
          have c2008 := Old.keep c1936 K1924 (allS nw_a1914 all0)
          have c2009 := Old.keep c2008 K1946 (allS nw_a1894 all0)
          have c2010 := Old.keep c2009 K1954 (allS nw_a1894 all0)
          have c2011 := Old.keep c2010 K1957 (allS nw_a1894 all0)
          have z2012 : n0 ≤ T1957.heap.size := Nat.le_trans z1959 K1957.1
          have c2013 := Exa.keep c1958 K1957
          refine gw_callV X1957 hx hZ hml hown (wd hw 39 rfl) (wd hw 40 rfl) (notFace_of_selects (args := #[]) (mvT hZ (wd hw 42 rfl))) (wd hw 42 rfl) (wd hw 41 rfl) (wd hw 43 rfl) (wd hw 3 rfl) rfl c2013 (argsL := [(.int x1.toUInt32.toUInt16.toUInt32.toInt32)]) (rest := []) (W := 0) (met_pk32f l Z a0 hw a1894 a1914 r_1924 (x0 &&& (255 : Int32)) ((XT.ushr x0 (8 : Int32)) &&& (255 : Int32)) ((XT.ushr x0 (16 : Int32)) &&& (255 : Int32)) x1.toUInt32.toUInt16.toUInt32.toInt32 zc vf rf T1957.heap n0 z2012 f1957_1 f1957_0 c1998 c2001 c2004 c2007 (own_lat _) (own_lat _) (own_lat _) c2011 S0 zn S1 hc1960) (hb hby at_219) rfl rfl rfl (lenOf pd13 rfl) (by show 2 * 0 + _ ≤ _; exact Nat.le_of_eq rfl) (by decide) (by decide) (by decide) (by decide) (by decide) ?_
          intro T1995 v1995 L1995 X1995 q1995
          obtain ⟨rfl, M1995, K1995⟩ := q1995
          have N1995 := Fr.app N1957 M1995
          show Gwg T1995 m 222 [(.int (0 : Int32))]
          refine gw_st (fun _ kq => XS.istore X1995.here hx rfl (hb hby at_222) rfl (l' := #[.val (.int x0), .val (.int x1), .val (.int x2), .val (.int (x0 &&& (255 : Int32))), .val (.int ((XT.ushr x0 (8 : Int32)) &&& (255 : Int32))), .val (.int ((XT.ushr x0 (16 : Int32)) &&& (255 : Int32))), .val (.ref a253), .val (.int (3 : Int32)), .val (.int (2 : Int32)), .val (.int x1.toUInt32.toUInt16.toUInt32.toInt32), .val (.ref a1878), .val (.ref a1894), .val (.int (0 : Int32)), .unset]) rfl kq) ?_
          show Gwg T1995 m 224 []
          refine gw_st (fun _ kq => XS.iload X1995.here hx rfl (hb hby at_224) rfl kq) ?_
          show Gwg T1995 m 226 [(.int (2 : Int32))]
          refine gw_st (fun _ kq => XS.iload X1995.here hx rfl (hb hby at_226) rfl kq) ?_
          show Gwg T1995 m 228 [(.int (3 : Int32)), (.int (2 : Int32))]
          refine gw_st (fun _ kq => XS.icmpNo X1995.here hx rfl (hb hby at_228) rfl (XT.ii_ge_f (by decide)) kq) ?_
          show Gwg T1995 m 231 []
          refine gw_st (fun _ kq => XS.aload X1995.here hx rfl (hb hby at_231) rfl rfl kq) ?_
          show Gwg T1995 m 233 [(.ref a253)]
          refine gw_st (fun _ kq => XS.iload X1995.here hx rfl (hb hby at_233) rfl kq) ?_
          show Gwg T1995 m 235 [(.int (2 : Int32)), (.ref a253)]
          have c2014 := A259.ext E1878
          have c2015 := c2014.other W1891 ne1886
          have c2016 := c2015.other W1892 ne1886
          have c2017 := c2016.other W1893 ne1886
          have c2018 := c2017.ext E1894
          have c2019 := c2018.ext E1914
          have c2020 := GA.keep c2019 K1924 (ninS ne1917 nin0)
          have c2021 := GA.keep c2020 K1946 (ninS ne1903 nin0)
          have c2022 := GA.keep c2021 K1954 (ninS ne1903 nin0)
          have c2023 := GA.keep c2022 K1957 (ninS ne1903 nin0)
          have c2024 := GA.keep c2023 K1995 nin0
          refine gw_cald X1995 hx hZ rfl c2024 (hb hby at_235) rfl rfl (by decide) (.int ((XT.ushr x0 (16 : Int32)) &&& (255 : Int32))) rfl ?_
          show Gwg T1995 m 236 [(.int ((XT.ushr x0 (16 : Int32)) &&& (255 : Int32)))]
          refine gw_st (fun _ kq => XS.iload X1995.here hx rfl (hb hby at_236) rfl kq) ?_
          show Gwg T1995 m 238 [(.int x1.toUInt32.toUInt16.toUInt32.toInt32), (.int ((XT.ushr x0 (16 : Int32)) &&& (255 : Int32)))]
          refine gw_st (fun _ kq => XS.icmpYes X1995.here hx rfl (pc0 := 238) (pc' := 245) rfl (hb hby at_238) rfl (XT.ii_ne_t hc1960) (by decide) (by decide) kq) ?_
          show Gwg T1995 m 245 []
          refine gw_st (fun _ kq => XT.iconstV X1995.here hx rfl (0 : Int32) (hb hby at_245) (by decide) kq) ?_
          show Gwg T1995 m 246 [(.int (0 : Int32))]
          refine gw_st (fun _ kq => XS.istore X1995.here hx rfl (hb hby at_246) rfl (l' := #[.val (.int x0), .val (.int x1), .val (.int x2), .val (.int (x0 &&& (255 : Int32))), .val (.int ((XT.ushr x0 (8 : Int32)) &&& (255 : Int32))), .val (.int ((XT.ushr x0 (16 : Int32)) &&& (255 : Int32))), .val (.ref a253), .val (.int (3 : Int32)), .val (.int (2 : Int32)), .val (.int x1.toUInt32.toUInt16.toUInt32.toInt32), .val (.ref a1878), .val (.ref a1894), .val (.int (0 : Int32)), .val (.int (0 : Int32))]) rfl kq) ?_
          show Gwg T1995 m 248 []
          refine gw_st (fun _ kq => XS.iload X1995.here hx rfl (hb hby at_248) rfl kq) ?_
          show Gwg T1995 m 250 [(.int (0 : Int32))]
          refine gw_st (fun _ kq => XS.iload X1995.here hx rfl (hb hby at_250) rfl kq) ?_
          show Gwg T1995 m 252 [(.int (0 : Int32)), (.int (0 : Int32))]
          refine gw_st (fun _ kq => XS.icmpNo X1995.here hx rfl (hb hby at_252) rfl (XT.ii_ne_f (by decide)) kq) ?_
          show Gwg T1995 m 255 []
          refine gw_st (fun _ kq => XS.aload X1995.here hx rfl (hb hby at_255) rfl rfl kq) ?_
          show Gwg T1995 m 257 [(.ref a1894)]
          have c2026 := Fld.keep f1957_1 K1995 nin0
          have z2027 : n0 ≤ T1995.heap.size := Nat.le_trans z2012 K1995.1
          have c2028 := Exa.keep c2013 K1995
          refine gw_callV X1995 hx hZ hml hown (wd hw 78 rfl) (wd hw 79 rfl) (notFace_of_selects (args := #[]) (mvT hZ (wd hw 81 rfl))) (wd hw 81 rfl) (wd hw 80 rfl) (wd hw 82 rfl) (wd hw 3 rfl) rfl c2028 (argsL := []) (rest := []) (W := 0) (met_16 l Z a0 hw a1894 (2 : Int32) T1995.heap n0 z2027 c2026) (hb hby at_257) rfl rfl rfl (lenOf pd9 rfl) (by show 2 * 0 + _ ≤ _; exact Nat.le_of_eq rfl) (by decide) (by decide) (by decide) (by decide) (by decide) ?_
          intro T2025 v2025 L2025 X2025 q2025
          obtain ⟨rfl, M2025, e2025⟩ := q2025
          have N2025 := Fr.app N1995 M2025
          show Gwg T2025 m 260 [(.int (2 : Int32))]
          refine gw_st (fun _ kq => XS.iload X2025.here hx rfl (hb hby at_260) rfl kq) ?_
          show Gwg T2025 m 262 [(.int (2 : Int32)), (.int (2 : Int32))]
          refine gw_st (fun _ kq => XS.icmpNo X2025.here hx rfl (hb hby at_262) rfl (XT.ii_ne_f (by decide)) kq) ?_
          show Gwg T2025 m 265 []
          refine gw_st (fun _ kq => XT.iconstV X2025.here hx rfl (1 : Int32) (hb hby at_265) (by decide) kq) ?_
          show Gwg T2025 m 266 [(.int (1 : Int32))]
          refine gw_st (fun _ kq => XS.goto X2025.here hx rfl (pc0 := 266) (pc' := 270) rfl (hb hby at_266) (by decide) (by decide) kq) ?_
          show Gwg T2025 m 270 [(.int (1 : Int32))]
          exact gw_retB (w := (1 : Int32)) X2025 hx hlk hret (hb hby at_270) (by decide) (by decide) (by decide) ⟨rfl, N2025⟩
        ·refine gw_st (fun _ kq => XS.ifNo X259.here hx rfl (hb hby at_70) rfl (XT.i0_eq_f hc1877) kq) ?_
         show Gwg T259 m 73 []
         refine gw_st (fun _ kq => XS.aload X259.here hx rfl (hb hby at_73) rfl rfl kq) ?_
         show Gwg T259 m 75 [(.ref a253)]
         refine gw_st (fun _ kq => XS.iload X259.here hx rfl (hb hby at_75) rfl kq) ?_
         show Gwg T259 m 77 [(.int (2 : Int32)), (.ref a253)]
         refine gw_st (fun _ kq => XT.iconstV X259.here hx rfl (2 : Int32) (hb hby at_77) (by decide) kq) ?_
         show Gwg T259 m 78 [(.int (2 : Int32)), (.int (2 : Int32)), (.ref a253)]
         refine gw_callS X259 hx hZ hml hown (wd hw 88 rfl) (wd hw 89 rfl) (wd hw 90 rfl) (wd hw 91 rfl) e259 (argsL := [(.int (2 : Int32)), (.int (2 : Int32))]) (rest := [(.ref a253)]) (W := 1) (met_18 l Z a0 hw (2 : Int32) (2 : Int32) h259 n0) (hb hby at_78) rfl rfl rfl (lenOf pd14 rfl) (by show 2 * 0 + _ ≤ _; exact Nat.le_of_eq rfl) (by decide) (by decide) (by decide) (by decide) (by decide) ?_
         intro T2029 v2029 L2029 X2029 q2029
         obtain ⟨rfl, M2029, e2029⟩ := q2029
         have N2029 := Fr.app N259 M2029
         rw [show (fMin (2 : Int32) (2 : Int32)) = (2 : Int32) from by decide +kernel]
         show Gwg T2029 m 81 [(.int (2 : Int32)), (.ref a253)]
         refine gw_cald X2029 hx hZ e2029 A259 (hb hby at_81) rfl rfl (by decide) (.int ((XT.ushr x0 (16 : Int32)) &&& (255 : Int32))) rfl ?_
         show Gwg T2029 m 82 [(.int ((XT.ushr x0 (16 : Int32)) &&& (255 : Int32)))]
         refine gw_st (fun _ kq => XS.istore X2029.here hx rfl (hb hby at_82) rfl (l' := #[.val (.int x0), .val (.int x1), .val (.int x2), .val (.int (x0 &&& (255 : Int32))), .val (.int ((XT.ushr x0 (8 : Int32)) &&& (255 : Int32))), .val (.int ((XT.ushr x0 (16 : Int32)) &&& (255 : Int32))), .val (.ref a253), .val (.int (3 : Int32)), .val (.int (2 : Int32)), .val (.int ((XT.ushr x0 (16 : Int32)) &&& (255 : Int32))), .unset, .unset, .unset, .unset]) rfl kq) ?_
         show Gwg T2029 m 84 []
         refine gw_st (fun _ kq => XS.goto X2029.here hx rfl (pc0 := 84) (pc' := 91) rfl (hb hby at_84) (by decide) (by decide) kq) ?_
         show Gwg T2029 m 91 []
         refine gw_st (fun _ kq => XS.iload X2029.here hx rfl (hb hby at_91) rfl kq) ?_
         show Gwg T2029 m 93 [(.int (3 : Int32))]
         refine gw_st (fun _ kq => XS.ifYes X2029.here hx rfl (pc0 := 93) (pc' := 104) rfl (hb hby at_93) rfl (XT.i0_ne_t (by decide)) (by decide) (by decide) kq) ?_
         show Gwg T2029 m 104 []
         refine gw_st (fun _ kq => XS.iload X2029.here hx rfl (hb hby at_104) rfl kq) ?_
         show Gwg T2029 m 106 [(.int (3 : Int32))]
         refine gw_st (fun _ kq => XT.iconstV X2029.here hx rfl (1 : Int32) (hb hby at_106) (by decide) kq) ?_
         show Gwg T2029 m 107 [(.int (1 : Int32)), (.int (3 : Int32))]
         refine gw_st (fun _ kq => XS.icmpYes X2029.here hx rfl (pc0 := 107) (pc' := 122) rfl (hb hby at_107) rfl (XT.ii_ne_t (by decide)) (by decide) (by decide) kq) ?_
         show Gwg T2029 m 122 []
         refine gw_st (fun _ kq => XS.iload X2029.here hx rfl (hb hby at_122) rfl kq) ?_
         show Gwg T2029 m 124 [(.int (3 : Int32))]
         refine gw_st (fun _ kq => XT.iconstV X2029.here hx rfl (2 : Int32) (hb hby at_124) (by decide) kq) ?_
         show Gwg T2029 m 125 [(.int (2 : Int32)), (.int (3 : Int32))]
         refine gw_st (fun _ kq => XS.icmpYes X2029.here hx rfl (pc0 := 125) (pc' := 145) rfl (hb hby at_125) rfl (XT.ii_ne_t (by decide)) (by decide) (by decide) kq) ?_
         show Gwg T2029 m 145 []
         refine gw_st (fun _ kq => XT.iconstV X2029.here hx rfl (3 : Int32) (hb hby at_145) (by decide) kq) ?_
         show Gwg T2029 m 146 [(.int (3 : Int32))]
         refine gw_newP X2029 hx hZ (wd hw 0 rfl) e2029 (hb hby at_146) rfl rfl 3 (by decide) 3 (Nat.le_refl _) (by decide) (by decide) (by decide) ?_
         intro T2030 h2030 a2030 g2030 X2030 e2030 E2030 G2030
         have c2035 : a253 < h255.size := (Wr.size W255).symm ▸ lt_a253
         have c2036 : a253 < h257.size := (Wr.size W257).symm ▸ c2035
         have c2037 : a253 < h259.size := (Wr.size W259).symm ▸ c2036
         have ne2038 : a253 ≠ a2030 := fun q => Nat.lt_irrefl _ (Nat.lt_of_lt_of_le c2037 (Nat.le_of_eq (g2030.symm.trans q.symm)))
         have z2039 : n0 ≤ h253.size := Nat.le_trans Z0 E253.1
         have z2040 : n0 ≤ h255.size := (Wr.size W255).symm ▸ z2039
         have z2041 : n0 ≤ h257.size := (Wr.size W257).symm ▸ z2040
         have z2042 : n0 ≤ h259.size := (Wr.size W259).symm ▸ z2041
         have nw_a2030 : n0 ≤ a2030 := Nat.le_trans z2042 (Nat.le_of_eq g2030.symm)
         have lt_a2030 : a2030 < h2030.size := G2030.lt
         have A2030 : GA Z h2030 a2030 .char 3 (fun i => .int (own_c3 (0 : Int32) (0 : Int32) (0 : Int32) i)) := (GA.congr G2030 (fun i _ => own_z3 i))
         show Gwg T2030 m 148 [(.ref a2030)]
         refine gw_st (fun _ kq => XS.dup X2030.here hx rfl (hb hby at_148) rfl rfl kq) ?_
         show Gwg T2030 m 149 [(.ref a2030), (.ref a2030)]
         refine gw_st (fun _ kq => XT.iconstV X2030.here hx rfl (0 : Int32) (hb hby at_149) (by decide) kq) ?_
         show Gwg T2030 m 150 [(.int (0 : Int32)), (.ref a2030), (.ref a2030)]
         refine gw_st (fun _ kq => XS.iloadN X2030.here hx rfl (hb hby at_150) rfl kq) ?_
         show Gwg T2030 m 151 [(.int (x0 &&& (255 : Int32))), (.int (0 : Int32)), (.ref a2030), (.ref a2030)]
         refine gw_cast X2030 hx hZ e2030 A2030 (hb hby at_151) rfl rfl (by decide) ?_
         intro T2043 h2043 X2043 e2043 W2043 G2043
         have N2043 := Fr.snoc X2043 N2029 nw_a2030
         have A2043 : GA Z h2043 a2030 .char 3 (fun i => .int (own_c3 (x0 &&& (255 : Int32)) (0 : Int32) (0 : Int32) i)) := (own_stc (own_nc (own_lat _)) (by decide) (own_c30 (x0 &&& (255 : Int32)) (0 : Int32) (0 : Int32) (0 : Int32)) G2043)
         show Gwg T2043 m 152 [(.ref a2030)]
         refine gw_st (fun _ kq => XS.dup X2043.here hx rfl (hb hby at_152) rfl rfl kq) ?_
         show Gwg T2043 m 153 [(.ref a2030), (.ref a2030)]
         refine gw_st (fun _ kq => XT.iconstV X2043.here hx rfl (1 : Int32) (hb hby at_153) (by decide) kq) ?_
         show Gwg T2043 m 154 [(.int (1 : Int32)), (.ref a2030), (.ref a2030)]
         refine gw_st (fun _ kq => XS.iload X2043.here hx rfl (hb hby at_154) rfl kq) ?_
         show Gwg T2043 m 156 [(.int ((XT.ushr x0 (8 : Int32)) &&& (255 : Int32))), (.int (1 : Int32)), (.ref a2030), (.ref a2030)]
         refine gw_cast X2043 hx hZ e2043 A2043 (hb hby at_156) rfl rfl (by decide) ?_
         intro T2044 h2044 X2044 e2044 W2044 G2044
         have N2044 := Fr.snoc X2044 N2043 nw_a2030
         have A2044 : GA Z h2044 a2030 .char 3 (fun i => .int (own_c3 (x0 &&& (255 : Int32)) ((XT.ushr x0 (8 : Int32)) &&& (255 : Int32)) (0 : Int32) i)) := (own_stc (own_nc (own_lat _)) (by decide) (own_c31 ((XT.ushr x0 (8 : Int32)) &&& (255 : Int32)) (x0 &&& (255 : Int32)) (0 : Int32) (0 : Int32)) G2044)
         show Gwg T2044 m 157 [(.ref a2030)]
         refine gw_st (fun _ kq => XS.dup X2044.here hx rfl (hb hby at_157) rfl rfl kq) ?_
         show Gwg T2044 m 158 [(.ref a2030), (.ref a2030)]
         refine gw_st (fun _ kq => XT.iconstV X2044.here hx rfl (2 : Int32) (hb hby at_158) (by decide) kq) ?_
         show Gwg T2044 m 159 [(.int (2 : Int32)), (.ref a2030), (.ref a2030)]
         refine gw_st (fun _ kq => XS.iload X2044.here hx rfl (hb hby at_159) rfl kq) ?_
         show Gwg T2044 m 161 [(.int ((XT.ushr x0 (16 : Int32)) &&& (255 : Int32))), (.int (2 : Int32)), (.ref a2030), (.ref a2030)]
         refine gw_cast X2044 hx hZ e2044 A2044 (hb hby at_161) rfl rfl (by decide) ?_
         intro T2045 h2045 X2045 e2045 W2045 G2045
         have N2045 := Fr.snoc X2045 N2044 nw_a2030
         have A2045 : GA Z h2045 a2030 .char 3 (fun i => .int (own_c3 (x0 &&& (255 : Int32)) ((XT.ushr x0 (8 : Int32)) &&& (255 : Int32)) ((XT.ushr x0 (16 : Int32)) &&& (255 : Int32)) i)) := (own_stc (own_nc (own_lat _)) (by decide) (own_c32 ((XT.ushr x0 (16 : Int32)) &&& (255 : Int32)) (x0 &&& (255 : Int32)) ((XT.ushr x0 (8 : Int32)) &&& (255 : Int32)) (0 : Int32)) G2045)
         show Gwg T2045 m 162 [(.ref a2030)]
         refine gw_st (fun _ kq => XS.astore X2045.here hx rfl (hb hby at_162) rfl rfl (l' := #[.val (.int x0), .val (.int x1), .val (.int x2), .val (.int (x0 &&& (255 : Int32))), .val (.int ((XT.ushr x0 (8 : Int32)) &&& (255 : Int32))), .val (.int ((XT.ushr x0 (16 : Int32)) &&& (255 : Int32))), .val (.ref a253), .val (.int (3 : Int32)), .val (.int (2 : Int32)), .val (.int ((XT.ushr x0 (16 : Int32)) &&& (255 : Int32))), .val (.ref a2030), .unset, .unset, .unset]) rfl kq) ?_
         show Gwg T2045 m 164 []
         refine gw_newO X2045 hx hZ hown (wd hw 1 rfl) (wd hw 2 rfl) (wd hw 3 rfl) e2045 (hb hby at_164) rfl (by decide) (by decide) ?_
         intro T2046 h2046 a2046 g2046 X2046 e2046 E2046 A2046 D2046
         have c2051 : a253 < h2030.size := Nat.lt_of_lt_of_le c2037 E2030.1
         have c2052 : a253 < h2043.size := (Wr.size W2043).symm ▸ c2051
         have c2053 : a253 < h2044.size := (Wr.size W2044).symm ▸ c2052
         have c2054 : a253 < h2045.size := (Wr.size W2045).symm ▸ c2053
         have ne2055 : a253 ≠ a2046 := fun q => Nat.lt_irrefl _ (Nat.lt_of_lt_of_le c2054 (Nat.le_of_eq (g2046.symm.trans q.symm)))
         have c2056 : a2030 < h2043.size := (Wr.size W2043).symm ▸ lt_a2030
         have c2057 : a2030 < h2044.size := (Wr.size W2044).symm ▸ c2056
         have c2058 : a2030 < h2045.size := (Wr.size W2045).symm ▸ c2057
         have z2060 : n0 ≤ h2030.size := Nat.le_trans z2042 E2030.1
         have z2061 : n0 ≤ h2043.size := (Wr.size W2043).symm ▸ z2060
         have z2062 : n0 ≤ h2044.size := (Wr.size W2044).symm ▸ z2061
         have z2063 : n0 ≤ h2045.size := (Wr.size W2045).symm ▸ z2062
         have nw_a2046 : n0 ≤ a2046 := Nat.le_trans z2063 (Nat.le_of_eq g2046.symm)
         have lt_a2046 : a2046 < h2046.size := A2046.lt
         have F2064 : Fld Z h2046 a2046 "com/example/wirecall/wirecall/TextCursor" "text" "Ljava/lang/String;" .null := D2046 (Or.inr (wd hw 38 rfl)) (ty := (.object "java/lang/String")) (by decide)
         have F2065 : Fld Z h2046 a2046 "com/example/wirecall/wirecall/TextCursor" "pos" "I" (.int (0 : Int32)) := D2046 (Or.inl (wd hw 45 rfl)) (ty := .int) (by decide)
         show Gwg T2046 m 167 [(.ref a2046)]
         refine gw_st (fun _ kq => XS.dup X2046.here hx rfl (hb hby at_167) rfl rfl kq) ?_
         show Gwg T2046 m 168 [(.ref a2046), (.ref a2046)]
         refine gw_newO X2046 hx hZ hown (wd hw 4 rfl) (wd hw 5 rfl) (wd hw 6 rfl) e2046 (hb hby at_168) rfl (by decide) (by decide) ?_
         intro T2066 h2066 a2066 g2066 X2066 e2066 E2066 A2066 D2066
         have c2068 : a253 < h2046.size := Nat.lt_of_lt_of_le c2054 E2046.1
         have ne2069 : a253 ≠ a2066 := fun q => Nat.lt_irrefl _ (Nat.lt_of_lt_of_le c2068 (Nat.le_of_eq (g2066.symm.trans q.symm)))
         have c2070 : a2030 < h2046.size := Nat.lt_of_lt_of_le c2058 E2046.1
         have ne2071 : a2030 ≠ a2066 := fun q => Nat.lt_irrefl _ (Nat.lt_of_lt_of_le c2070 (Nat.le_of_eq (g2066.symm.trans q.symm)))
         have ne2072 : a2046 ≠ a2066 := fun q => Nat.lt_irrefl _ (Nat.lt_of_lt_of_le lt_a2046 (Nat.le_of_eq (g2066.symm.trans q.symm)))
         have z2073 : n0 ≤ h2046.size := Nat.le_trans z2063 E2046.1
         have nw_a2066 : n0 ≤ a2066 := Nat.le_trans z2073 (Nat.le_of_eq g2066.symm)
         have F2074 : Fld Z h2066 a2066 "java/lang/String" "coder" "B" (.int (0 : Int32)) := D2066 (Or.inr (wd hw 30 rfl)) (ty := .byte) (by decide)
         have F2075 : Fld Z h2066 a2066 "java/lang/String" "value" "[B" .null := D2066 (Or.inr (wd hw 32 rfl)) (ty := (.array .byte)) (by decide)
         show Gwg T2066 m 171 [(.ref a2066), (.ref a2046), (.ref a2046)]
         refine gw_st (fun _ kq => XS.dup X2066.here hx rfl (hb hby at_171) rfl rfl kq) ?_
         show Gwg T2066 m 172 [(.ref a2066), (.ref a2066), (.ref a2046), (.ref a2046)]
         refine gw_st (fun _ kq => XS.aload X2066.here hx rfl (hb hby at_172) rfl rfl kq) ?_
         show Gwg T2066 m 174 [(.ref a2030), (.ref a2066), (.ref a2066), (.ref a2046), (.ref a2046)]
         have c2077 := A2045.ext E2046
         have c2078 := c2077.ext E2066
         have c2079 := Old.ext O0 E253
         have c2080 := Old.wr c2079 W255 nw_a253
         have c2081 := Old.wr c2080 W257 nw_a253
         have c2082 := Old.wr c2081 W259 nw_a253
         have c2083 := Old.ext c2082 E2030
         have c2084 := Old.wr c2083 W2043 nw_a2030
         have c2085 := Old.wr c2084 W2044 nw_a2030
         have c2086 := Old.wr c2085 W2045 nw_a2030
         have c2087 := Old.ext c2086 E2046
         have c2088 := Old.ext c2087 E2066
         have z2089 : n0 ≤ h2066.size := Nat.le_trans z2073 E2066.1
         refine gw_callI X2066 hx hZ hml hown rfl (wd hw 7 rfl) (wd hw 8 rfl) (wd hw 9 rfl) (wd hw 6 rfl) e2066 (argsL := [(.ref a2030)]) (rest := [(.ref a2066), (.ref a2046), (.ref a2046)]) (W := 3) (met_s3 l Z a0 hw a2066 a2030 (x0 &&& (255 : Int32)) ((XT.ushr x0 (8 : Int32)) &&& (255 : Int32)) ((XT.ushr x0 (16 : Int32)) &&& (255 : Int32)) zc h2066 n0 z2089 A2066 F2075 F2074 nw_a2066 c2078 (Ne.symm ne2071) (own_lat _) (own_lat _) (own_lat _) c2088 S0 zn) (hb hby at_174) rfl rfl rfl (lenOf pd11 rfl) (by show 2 * 0 + _ ≤ _; exact Nat.le_of_eq rfl) (by decide) (by decide) (by decide) (by decide) (by decide) ?_
         intro T2076 v2076 L2076 X2076 q2076
         obtain ⟨r_2076, rfl, M2076, K2076, fz2076_r, f2076_0, f2076_1, f2076_2, f2076_3⟩ := q2076
         have N2076 := Fr.app N2045 M2076
         have c2094 : a2046 < h2066.size := Nat.lt_of_lt_of_le lt_a2046 E2066.1
         have ne2095 : a2046 ≠ r_2076 := Nat.ne_of_lt (Nat.lt_of_lt_of_le c2094 fz2076_r)
         show Gwg T2076 m 177 [(.ref a2066), (.ref a2046), (.ref a2046)]
         have c2099 := Exa.ext E2066 A2046
         have c2100 := Exa.keep c2099 K2076
         have c2101 := Fld.ext E2066 F2064
         have c2102 := Fld.keep c2101 K2076 (ninS ne2072 nin0)
         have c2103 := Fld.ext E2066 F2065
         have c2104 := Fld.keep c2103 K2076 (ninS ne2072 nin0)
         have z2105 : n0 ≤ T2076.heap.size := Nat.le_trans z2089 K2076.1
         refine gw_callI X2076 hx hZ hml hown rfl (wd hw 33 rfl) (wd hw 34 rfl) (wd hw 35 rfl) (wd hw 3 rfl) rfl (argsL := [(.ref a2066)]) (rest := [(.ref a2046)]) (W := 1) (met_tci l Z a0 hw a2046 a2066 T2076.heap n0 z2105 c2100 c2102 c2104 nw_a2046) (hb hby at_177) rfl rfl rfl (lenOf pd12 rfl) (by show 2 * 0 + _ ≤ _; exact Nat.le_of_eq rfl) (by decide) (by decide) (by decide) (by decide) (by decide) ?_
         intro T2098 v2098 L2098 X2098 q2098
         obtain ⟨rfl, M2098, K2098, f2098_0, f2098_1⟩ := q2098
         have N2098 := Fr.app N2076 M2098
         show Gwg T2098 m 180 [(.ref a2046)]
         refine gw_st (fun _ kq => XS.astore X2098.here hx rfl (hb hby at_180) rfl rfl (l' := #[.val (.int x0), .val (.int x1), .val (.int x2), .val (.int (x0 &&& (255 : Int32))), .val (.int ((XT.ushr x0 (8 : Int32)) &&& (255 : Int32))), .val (.int ((XT.ushr x0 (16 : Int32)) &&& (255 : Int32))), .val (.ref a253), .val (.int (3 : Int32)), .val (.int (2 : Int32)), .val (.int ((XT.ushr x0 (16 : Int32)) &&& (255 : Int32))), .val (.ref a2030), .val (.ref a2046), .unset, .unset]) rfl kq) ?_
         show Gwg T2098 m 182 []
         refine gw_st (fun _ kq => XS.iload X2098.here hx rfl (hb hby at_182) rfl kq) ?_
         show Gwg T2098 m 184 [(.int (2 : Int32))]
         refine gw_st (fun _ kq => XT.iconstV X2098.here hx rfl (1 : Int32) (hb hby at_184) (by decide) kq) ?_
         show Gwg T2098 m 185 [(.int (1 : Int32)), (.int (2 : Int32))]
         refine gw_st (fun _ kq => XS.icmpNo X2098.here hx rfl (hb hby at_185) rfl (XT.ii_lt_f (by decide)) kq) ?_
         show Gwg T2098 m 188 []
         refine gw_st (fun _ kq => XS.aload X2098.here hx rfl (hb hby at_188) rfl rfl kq) ?_
         show Gwg T2098 m 190 [(.ref a2046)]
         have c2107 := Exa.keep c2100 K2098
         have z2108 : n0 ≤ T2098.heap.size := Nat.le_trans z2105 K2098.1
         refine gw_callV X2098 hx hZ hml hown (wd hw 83 rfl) (wd hw 84 rfl) (notFace_of_selects (args := #[]) (mvT hZ (wd hw 86 rfl))) (wd hw 86 rfl) (wd hw 85 rfl) (wd hw 87 rfl) (wd hw 3 rfl) rfl c2107 (argsL := []) (rest := []) (W := 0) (met_sk0 l Z a0 hw a2046 a2066 T2098.heap n0 z2108 c2107 f2098_0 f2098_1 nw_a2046) (hb hby at_190) rfl rfl rfl (lenOf pd15 rfl) (by show 2 * 0 + _ ≤ _; exact Nat.le_of_eq rfl) (by decide) (by decide) (by decide) (by decide) (by decide) ?_
         intro T2106 v2106 L2106 X2106 q2106
         obtain ⟨rfl, M2106, K2106, f2106_0, f2106_1⟩ := q2106
         have N2106 := Fr.app N2098 M2106
         show Gwg T2106 m 193 []
         refine gw_st (fun _ kq => XS.iload X2106.here hx rfl (hb hby at_193) rfl kq) ?_
         show Gwg T2106 m 195 [(.int (2 : Int32))]
         refine gw_st (fun _ kq => XT.iconstV X2106.here hx rfl (2 : Int32) (hb hby at_195) (by decide) kq) ?_
         show Gwg T2106 m 196 [(.int (2 : Int32)), (.int (2 : Int32))]
         refine gw_st (fun _ kq => XS.icmpNo X2106.here hx rfl (hb hby at_196) rfl (XT.ii_lt_f (by decide)) kq) ?_
         show Gwg T2106 m 199 []
         refine gw_st (fun _ kq => XS.aload X2106.here hx rfl (hb hby at_199) rfl rfl kq) ?_
         show Gwg T2106 m 201 [(.ref a2046)]
         have c2110 := Exa.keep c2107 K2106
         have z2111 : n0 ≤ T2106.heap.size := Nat.le_trans z2108 K2106.1
         refine gw_callV X2106 hx hZ hml hown (wd hw 83 rfl) (wd hw 84 rfl) (notFace_of_selects (args := #[]) (mvT hZ (wd hw 86 rfl))) (wd hw 86 rfl) (wd hw 85 rfl) (wd hw 87 rfl) (wd hw 3 rfl) rfl c2110 (argsL := []) (rest := []) (W := 0) (met_sk1 l Z a0 hw a2046 a2066 T2106.heap n0 z2111 c2110 f2106_0 f2106_1 nw_a2046) (hb hby at_201) rfl rfl rfl (lenOf pd15 rfl) (by show 2 * 0 + _ ≤ _; exact Nat.le_of_eq rfl) (by decide) (by decide) (by decide) (by decide) (by decide) ?_
         intro T2109 v2109 L2109 X2109 q2109
         obtain ⟨rfl, M2109, K2109, f2109_0, f2109_1⟩ := q2109
         have N2109 := Fr.app N2106 M2109
         show Gwg T2109 m 204 []
         refine gw_st (fun _ kq => XS.iload X2109.here hx rfl (hb hby at_204) rfl kq) ?_
         show Gwg T2109 m 206 [(.int (2 : Int32))]
         refine gw_st (fun _ kq => XT.iconstV X2109.here hx rfl (3 : Int32) (hb hby at_206) (by decide) kq) ?_
         show Gwg T2109 m 207 [(.int (3 : Int32)), (.int (2 : Int32))]
         refine gw_st (fun _ kq => XS.icmpYes X2109.here hx rfl (pc0 := 207) (pc' := 215) rfl (hb hby at_207) rfl (XT.ii_lt_t (by decide)) (by decide) (by decide) kq) ?_
         show Gwg T2109 m 215 []
         refine gw_st (fun _ kq => XS.aload X2109.here hx rfl (hb hby at_215) rfl rfl kq) ?_
         show Gwg T2109 m 217 [(.ref a2046)]
         refine gw_st (fun _ kq => XS.iload X2109.here hx rfl (hb hby at_217) rfl kq) ?_
         show Gwg T2109 m 219 [(.int ((XT.ushr x0 (16 : Int32)) &&& (255 : Int32))), (.ref a2046)]
         have c2113 := Exa.keep f2076_0 K2098
         have c2114 := Exa.keep c2113 K2106
         have c2115 := Exa.keep c2114 K2109
         have c2116 := Fld.keep f2076_1 K2098 (ninS (Ne.symm ne2072) nin0)
         have c2117 := Fld.keep c2116 K2106 (ninS (Ne.symm ne2072) nin0)
         have c2118 := Fld.keep c2117 K2109 (ninS (Ne.symm ne2072) nin0)
         have c2119 := Fld.keep f2076_2 K2098 (ninS (Ne.symm ne2072) nin0)
         have c2120 := Fld.keep c2119 K2106 (ninS (Ne.symm ne2072) nin0)
         have c2121 := Fld.keep c2120 K2109 (ninS (Ne.symm ne2072) nin0)
         have c2122 := GA.keep f2076_3 K2098 (ninS (Ne.symm ne2095) nin0)
         have c2123 := GA.keep c2122 K2106 (ninS (Ne.symm ne2095) nin0)
         have c2124 := GA.keep c2123 K2109 (ninS (Ne.symm ne2095) nin0)
         have c2125 := Old.keep c2088 K2076 (allS nw_a2066 all0)
         have c2126 := Old.keep c2125 K2098 (allS nw_a2046 all0)
         have c2127 := Old.keep c2126 K2106 (allS nw_a2046 all0)
         have c2128 := Old.keep c2127 K2109 (allS nw_a2046 all0)
         have z2129 : n0 ≤ T2109.heap.size := Nat.le_trans z2111 K2109.1
         have c2130 := Exa.keep c2110 K2109
         refine gw_callV X2109 hx hZ hml hown (wd hw 39 rfl) (wd hw 40 rfl) (notFace_of_selects (args := #[]) (mvT hZ (wd hw 42 rfl))) (wd hw 42 rfl) (wd hw 41 rfl) (wd hw 43 rfl) (wd hw 3 rfl) rfl c2130 (argsL := [(.int ((XT.ushr x0 (16 : Int32)) &&& (255 : Int32)))]) (rest := []) (W := 0) (met_pk32t l Z a0 hw a2046 a2066 r_2076 (x0 &&& (255 : Int32)) ((XT.ushr x0 (8 : Int32)) &&& (255 : Int32)) ((XT.ushr x0 (16 : Int32)) &&& (255 : Int32)) ((XT.ushr x0 (16 : Int32)) &&& (255 : Int32)) zc vf rf T2109.heap n0 z2129 f2109_1 f2109_0 c2115 c2118 c2121 c2124 (own_lat _) (own_lat _) (own_lat _) c2128 S0 zn S1 rfl) (hb hby at_219) rfl rfl rfl (lenOf pd13 rfl) (by show 2 * 0 + _ ≤ _; exact Nat.le_of_eq rfl) (by decide) (by decide) (by decide) (by decide) (by decide) ?_
         intro T2112 v2112 L2112 X2112 q2112
         obtain ⟨rfl, M2112, K2112⟩ := q2112
         have N2112 := Fr.app N2109 M2112
         show Gwg T2112 m 222 [(.int (1 : Int32))]
         refine gw_st (fun _ kq => XS.istore X2112.here hx rfl (hb hby at_222) rfl (l' := #[.val (.int x0), .val (.int x1), .val (.int x2), .val (.int (x0 &&& (255 : Int32))), .val (.int ((XT.ushr x0 (8 : Int32)) &&& (255 : Int32))), .val (.int ((XT.ushr x0 (16 : Int32)) &&& (255 : Int32))), .val (.ref a253), .val (.int (3 : Int32)), .val (.int (2 : Int32)), .val (.int ((XT.ushr x0 (16 : Int32)) &&& (255 : Int32))), .val (.ref a2030), .val (.ref a2046), .val (.int (1 : Int32)), .unset]) rfl kq) ?_
         show Gwg T2112 m 224 []
         refine gw_st (fun _ kq => XS.iload X2112.here hx rfl (hb hby at_224) rfl kq) ?_
         show Gwg T2112 m 226 [(.int (2 : Int32))]
         refine gw_st (fun _ kq => XS.iload X2112.here hx rfl (hb hby at_226) rfl kq) ?_
         show Gwg T2112 m 228 [(.int (3 : Int32)), (.int (2 : Int32))]
         refine gw_st (fun _ kq => XS.icmpNo X2112.here hx rfl (hb hby at_228) rfl (XT.ii_ge_f (by decide)) kq) ?_
         show Gwg T2112 m 231 []
         refine gw_st (fun _ kq => XS.aload X2112.here hx rfl (hb hby at_231) rfl rfl kq) ?_
         show Gwg T2112 m 233 [(.ref a253)]
         refine gw_st (fun _ kq => XS.iload X2112.here hx rfl (hb hby at_233) rfl kq) ?_
         show Gwg T2112 m 235 [(.int (2 : Int32)), (.ref a253)]
         have c2131 := A259.ext E2030
         have c2132 := c2131.other W2043 ne2038
         have c2133 := c2132.other W2044 ne2038
         have c2134 := c2133.other W2045 ne2038
         have c2135 := c2134.ext E2046
         have c2136 := c2135.ext E2066
         have c2137 := GA.keep c2136 K2076 (ninS ne2069 nin0)
         have c2138 := GA.keep c2137 K2098 (ninS ne2055 nin0)
         have c2139 := GA.keep c2138 K2106 (ninS ne2055 nin0)
         have c2140 := GA.keep c2139 K2109 (ninS ne2055 nin0)
         have c2141 := GA.keep c2140 K2112 nin0
         refine gw_cald X2112 hx hZ rfl c2141 (hb hby at_235) rfl rfl (by decide) (.int ((XT.ushr x0 (16 : Int32)) &&& (255 : Int32))) rfl ?_
         show Gwg T2112 m 236 [(.int ((XT.ushr x0 (16 : Int32)) &&& (255 : Int32)))]
         refine gw_st (fun _ kq => XS.iload X2112.here hx rfl (hb hby at_236) rfl kq) ?_
         show Gwg T2112 m 238 [(.int ((XT.ushr x0 (16 : Int32)) &&& (255 : Int32))), (.int ((XT.ushr x0 (16 : Int32)) &&& (255 : Int32)))]
         refine gw_st (fun _ kq => XS.icmpNo X2112.here hx rfl (hb hby at_238) rfl (XT.ii_ne_f rfl) kq) ?_
         show Gwg T2112 m 241 []
         refine gw_st (fun _ kq => XT.iconstV X2112.here hx rfl (1 : Int32) (hb hby at_241) (by decide) kq) ?_
         show Gwg T2112 m 242 [(.int (1 : Int32))]
         refine gw_st (fun _ kq => XS.goto X2112.here hx rfl (pc0 := 242) (pc' := 246) rfl (hb hby at_242) (by decide) (by decide) kq) ?_
         show Gwg T2112 m 246 [(.int (1 : Int32))]
         refine gw_st (fun _ kq => XS.istore X2112.here hx rfl (hb hby at_246) rfl (l' := #[.val (.int x0), .val (.int x1), .val (.int x2), .val (.int (x0 &&& (255 : Int32))), .val (.int ((XT.ushr x0 (8 : Int32)) &&& (255 : Int32))), .val (.int ((XT.ushr x0 (16 : Int32)) &&& (255 : Int32))), .val (.ref a253), .val (.int (3 : Int32)), .val (.int (2 : Int32)), .val (.int ((XT.ushr x0 (16 : Int32)) &&& (255 : Int32))), .val (.ref a2030), .val (.ref a2046), .val (.int (1 : Int32)), .val (.int (1 : Int32))]) rfl kq) ?_
         show Gwg T2112 m 248 []
         refine gw_st (fun _ kq => XS.iload X2112.here hx rfl (hb hby at_248) rfl kq) ?_
         show Gwg T2112 m 250 [(.int (1 : Int32))]
         refine gw_st (fun _ kq => XS.iload X2112.here hx rfl (hb hby at_250) rfl kq) ?_
         show Gwg T2112 m 252 [(.int (1 : Int32)), (.int (1 : Int32))]
         refine gw_st (fun _ kq => XS.icmpNo X2112.here hx rfl (hb hby at_252) rfl (XT.ii_ne_f (by decide)) kq) ?_
         show Gwg T2112 m 255 []
         refine gw_st (fun _ kq => XS.aload X2112.here hx rfl (hb hby at_255) rfl rfl kq) ?_
         show Gwg T2112 m 257 [(.ref a2046)]
         have c2143 := Fld.keep f2109_1 K2112 nin0
         have z2144 : n0 ≤ T2112.heap.size := Nat.le_trans z2129 K2112.1
         have c2145 := Exa.keep c2130 K2112
         refine gw_callV X2112 hx hZ hml hown (wd hw 78 rfl) (wd hw 79 rfl) (notFace_of_selects (args := #[]) (mvT hZ (wd hw 81 rfl))) (wd hw 81 rfl) (wd hw 80 rfl) (wd hw 82 rfl) (wd hw 3 rfl) rfl c2145 (argsL := []) (rest := []) (W := 0) (met_16 l Z a0 hw a2046 (2 : Int32) T2112.heap n0 z2144 c2143) (hb hby at_257) rfl rfl rfl (lenOf pd9 rfl) (by show 2 * 0 + _ ≤ _; exact Nat.le_of_eq rfl) (by decide) (by decide) (by decide) (by decide) (by decide) ?_
         intro T2142 v2142 L2142 X2142 q2142
         obtain ⟨rfl, M2142, e2142⟩ := q2142
         have N2142 := Fr.app N2112 M2142
         show Gwg T2142 m 260 [(.int (2 : Int32))]
         refine gw_st (fun _ kq => XS.iload X2142.here hx rfl (hb hby at_260) rfl kq) ?_
         show Gwg T2142 m 262 [(.int (2 : Int32)), (.int (2 : Int32))]
         refine gw_st (fun _ kq => XS.icmpNo X2142.here hx rfl (hb hby at_262) rfl (XT.ii_ne_f (by decide)) kq) ?_
         show Gwg T2142 m 265 []
         refine gw_st (fun _ kq => XT.iconstV X2142.here hx rfl (1 : Int32) (hb hby at_265) (by decide) kq) ?_
         show Gwg T2142 m 266 [(.int (1 : Int32))]
         refine gw_st (fun _ kq => XS.goto X2142.here hx rfl (pc0 := 266) (pc' := 270) rfl (hb hby at_266) (by decide) (by decide) kq) ?_
         show Gwg T2142 m 270 [(.int (1 : Int32))]
         exact gw_retB (w := (1 : Int32)) X2142 hx hlk hret (hb hby at_270) (by decide) (by decide) (by decide) ⟨rfl, N2142⟩
       ·by_cases hk2146 : (((XT.ushr x2 (2 : Int32)) &&& (3 : Int32)) % (4 : Int32)) = (3 : Int32)
        ·rw [hk2146]
         show Gwg T259 m 65 []
         refine gw_st (fun _ kq => XS.iloadN X259.here hx rfl (hb hby at_65) rfl kq) ?_
         show Gwg T259 m 66 [(.int x2)]
         refine gw_st (fun _ kq => XT.iconstV X259.here hx rfl (4 : Int32) (hb hby at_66) (by decide) kq) ?_
         show Gwg T259 m 67 [(.int (4 : Int32)), (.int x2)]
         refine gw_st (fun _ kq => XT.iushr X259.here hx rfl (hb hby at_67) rfl kq) ?_
         show Gwg T259 m 68 [(.int (XT.ushr x2 (4 : Int32)))]
         refine gw_st (fun _ kq => XT.iconstV X259.here hx rfl (1 : Int32) (hb hby at_68) (by decide) kq) ?_
         show Gwg T259 m 69 [(.int (1 : Int32)), (.int (XT.ushr x2 (4 : Int32)))]
         refine gw_st (fun _ kq => XS.iand X259.here hx rfl (hb hby at_69) rfl kq) ?_
         show Gwg T259 m 70 [(.int ((XT.ushr x2 (4 : Int32)) &&& (1 : Int32)))]
         by_cases hc2147 : ((XT.ushr x2 (4 : Int32)) &&& (1 : Int32)) = (0 : Int32)
         ·refine gw_st (fun _ kq => XS.ifYes X259.here hx rfl (pc0 := 70) (pc' := 87) rfl (hb hby at_70) rfl (XT.i0_eq_t hc2147) (by decide) (by decide) kq) ?_
          show Gwg T259 m 87 []
          refine gw_st (fun _ kq => XS.iloadN X259.here hx rfl (hb hby at_87) rfl kq) ?_
          show Gwg T259 m 88 [(.int x1)]
          refine gw_st (fun _ kq => XT.i2c X259.here hx rfl (hb hby at_88) rfl kq) ?_
          show Gwg T259 m 89 [(.int x1.toUInt32.toUInt16.toUInt32.toInt32)]
          refine gw_st (fun _ kq => XS.istore X259.here hx rfl (hb hby at_89) rfl (l' := #[.val (.int x0), .val (.int x1), .val (.int x2), .val (.int (x0 &&& (255 : Int32))), .val (.int ((XT.ushr x0 (8 : Int32)) &&& (255 : Int32))), .val (.int ((XT.ushr x0 (16 : Int32)) &&& (255 : Int32))), .val (.ref a253), .val (.int (3 : Int32)), .val (.int (3 : Int32)), .val (.int x1.toUInt32.toUInt16.toUInt32.toInt32), .unset, .unset, .unset, .unset]) rfl kq) ?_
          show Gwg T259 m 91 []
          refine gw_st (fun _ kq => XS.iload X259.here hx rfl (hb hby at_91) rfl kq) ?_
          show Gwg T259 m 93 [(.int (3 : Int32))]
          refine gw_st (fun _ kq => XS.ifYes X259.here hx rfl (pc0 := 93) (pc' := 104) rfl (hb hby at_93) rfl (XT.i0_ne_t (by decide)) (by decide) (by decide) kq) ?_
          show Gwg T259 m 104 []
          refine gw_st (fun _ kq => XS.iload X259.here hx rfl (hb hby at_104) rfl kq) ?_
          show Gwg T259 m 106 [(.int (3 : Int32))]
          refine gw_st (fun _ kq => XT.iconstV X259.here hx rfl (1 : Int32) (hb hby at_106) (by decide) kq) ?_
          show Gwg T259 m 107 [(.int (1 : Int32)), (.int (3 : Int32))]
          refine gw_st (fun _ kq => XS.icmpYes X259.here hx rfl (pc0 := 107) (pc' := 122) rfl (hb hby at_107) rfl (XT.ii_ne_t (by decide)) (by decide) (by decide) kq) ?_
          show Gwg T259 m 122 []
          refine gw_st (fun _ kq => XS.iload X259.here hx rfl (hb hby at_122) rfl kq) ?_
          show Gwg T259 m 124 [(.int (3 : Int32))]
          refine gw_st (fun _ kq => XT.iconstV X259.here hx rfl (2 : Int32) (hb hby at_124) (by decide) kq) ?_
          show Gwg T259 m 125 [(.int (2 : Int32)), (.int (3 : Int32))]
          refine gw_st (fun _ kq => XS.icmpYes X259.here hx rfl (pc0 := 125) (pc' := 145) rfl (hb hby at_125) rfl (XT.ii_ne_t (by decide)) (by decide) (by decide) kq) ?_
          show Gwg T259 m 145 []
          refine gw_st (fun _ kq => XT.iconstV X259.here hx rfl (3 : Int32) (hb hby at_145) (by decide) kq) ?_
          show Gwg T259 m 146 [(.int (3 : Int32))]
          refine gw_newP X259 hx hZ (wd hw 0 rfl) e259 (hb hby at_146) rfl rfl 3 (by decide) 3 (Nat.le_refl _) (by decide) (by decide) (by decide) ?_
          intro T2148 h2148 a2148 g2148 X2148 e2148 E2148 G2148
          have z2157 : n0 ≤ h253.size := Nat.le_trans Z0 E253.1
          have z2158 : n0 ≤ h255.size := (Wr.size W255).symm ▸ z2157
          have z2159 : n0 ≤ h257.size := (Wr.size W257).symm ▸ z2158
          have z2160 : n0 ≤ h259.size := (Wr.size W259).symm ▸ z2159
          have nw_a2148 : n0 ≤ a2148 := Nat.le_trans z2160 (Nat.le_of_eq g2148.symm)
          have lt_a2148 : a2148 < h2148.size := G2148.lt
          have A2148 : GA Z h2148 a2148 .char 3 (fun i => .int (own_c3 (0 : Int32) (0 : Int32) (0 : Int32) i)) := (GA.congr G2148 (fun i _ => own_z3 i))
          show Gwg T2148 m 148 [(.ref a2148)]
          refine gw_st (fun _ kq => XS.dup X2148.here hx rfl (hb hby at_148) rfl rfl kq) ?_
          show Gwg T2148 m 149 [(.ref a2148), (.ref a2148)]
          refine gw_st (fun _ kq => XT.iconstV X2148.here hx rfl (0 : Int32) (hb hby at_149) (by decide) kq) ?_
          show Gwg T2148 m 150 [(.int (0 : Int32)), (.ref a2148), (.ref a2148)]
          refine gw_st (fun _ kq => XS.iloadN X2148.here hx rfl (hb hby at_150) rfl kq) ?_
          show Gwg T2148 m 151 [(.int (x0 &&& (255 : Int32))), (.int (0 : Int32)), (.ref a2148), (.ref a2148)]
          refine gw_cast X2148 hx hZ e2148 A2148 (hb hby at_151) rfl rfl (by decide) ?_
          intro T2161 h2161 X2161 e2161 W2161 G2161
          have N2161 := Fr.snoc X2161 N259 nw_a2148
          have A2161 : GA Z h2161 a2148 .char 3 (fun i => .int (own_c3 (x0 &&& (255 : Int32)) (0 : Int32) (0 : Int32) i)) := (own_stc (own_nc (own_lat _)) (by decide) (own_c30 (x0 &&& (255 : Int32)) (0 : Int32) (0 : Int32) (0 : Int32)) G2161)
          show Gwg T2161 m 152 [(.ref a2148)]
          refine gw_st (fun _ kq => XS.dup X2161.here hx rfl (hb hby at_152) rfl rfl kq) ?_
          show Gwg T2161 m 153 [(.ref a2148), (.ref a2148)]
          refine gw_st (fun _ kq => XT.iconstV X2161.here hx rfl (1 : Int32) (hb hby at_153) (by decide) kq) ?_
          show Gwg T2161 m 154 [(.int (1 : Int32)), (.ref a2148), (.ref a2148)]
          refine gw_st (fun _ kq => XS.iload X2161.here hx rfl (hb hby at_154) rfl kq) ?_
          show Gwg T2161 m 156 [(.int ((XT.ushr x0 (8 : Int32)) &&& (255 : Int32))), (.int (1 : Int32)), (.ref a2148), (.ref a2148)]
          refine gw_cast X2161 hx hZ e2161 A2161 (hb hby at_156) rfl rfl (by decide) ?_
          intro T2162 h2162 X2162 e2162 W2162 G2162
          have N2162 := Fr.snoc X2162 N2161 nw_a2148
          have A2162 : GA Z h2162 a2148 .char 3 (fun i => .int (own_c3 (x0 &&& (255 : Int32)) ((XT.ushr x0 (8 : Int32)) &&& (255 : Int32)) (0 : Int32) i)) := (own_stc (own_nc (own_lat _)) (by decide) (own_c31 ((XT.ushr x0 (8 : Int32)) &&& (255 : Int32)) (x0 &&& (255 : Int32)) (0 : Int32) (0 : Int32)) G2162)
          show Gwg T2162 m 157 [(.ref a2148)]
          refine gw_st (fun _ kq => XS.dup X2162.here hx rfl (hb hby at_157) rfl rfl kq) ?_
          show Gwg T2162 m 158 [(.ref a2148), (.ref a2148)]
          refine gw_st (fun _ kq => XT.iconstV X2162.here hx rfl (2 : Int32) (hb hby at_158) (by decide) kq) ?_
          show Gwg T2162 m 159 [(.int (2 : Int32)), (.ref a2148), (.ref a2148)]
          refine gw_st (fun _ kq => XS.iload X2162.here hx rfl (hb hby at_159) rfl kq) ?_
          show Gwg T2162 m 161 [(.int ((XT.ushr x0 (16 : Int32)) &&& (255 : Int32))), (.int (2 : Int32)), (.ref a2148), (.ref a2148)]
          refine gw_cast X2162 hx hZ e2162 A2162 (hb hby at_161) rfl rfl (by decide) ?_
          intro T2163 h2163 X2163 e2163 W2163 G2163
          have N2163 := Fr.snoc X2163 N2162 nw_a2148
          have A2163 : GA Z h2163 a2148 .char 3 (fun i => .int (own_c3 (x0 &&& (255 : Int32)) ((XT.ushr x0 (8 : Int32)) &&& (255 : Int32)) ((XT.ushr x0 (16 : Int32)) &&& (255 : Int32)) i)) := (own_stc (own_nc (own_lat _)) (by decide) (own_c32 ((XT.ushr x0 (16 : Int32)) &&& (255 : Int32)) (x0 &&& (255 : Int32)) ((XT.ushr x0 (8 : Int32)) &&& (255 : Int32)) (0 : Int32)) G2163)
          show Gwg T2163 m 162 [(.ref a2148)]
          refine gw_st (fun _ kq => XS.astore X2163.here hx rfl (hb hby at_162) rfl rfl (l' := #[.val (.int x0), .val (.int x1), .val (.int x2), .val (.int (x0 &&& (255 : Int32))), .val (.int ((XT.ushr x0 (8 : Int32)) &&& (255 : Int32))), .val (.int ((XT.ushr x0 (16 : Int32)) &&& (255 : Int32))), .val (.ref a253), .val (.int (3 : Int32)), .val (.int (3 : Int32)), .val (.int x1.toUInt32.toUInt16.toUInt32.toInt32), .val (.ref a2148), .unset, .unset, .unset]) rfl kq) ?_
          show Gwg T2163 m 164 []
          refine gw_newO X2163 hx hZ hown (wd hw 1 rfl) (wd hw 2 rfl) (wd hw 3 rfl) e2163 (hb hby at_164) rfl (by decide) (by decide) ?_
          intro T2164 h2164 a2164 g2164 X2164 e2164 E2164 A2164 D2164
          have c2174 : a2148 < h2161.size := (Wr.size W2161).symm ▸ lt_a2148
          have c2175 : a2148 < h2162.size := (Wr.size W2162).symm ▸ c2174
          have c2176 : a2148 < h2163.size := (Wr.size W2163).symm ▸ c2175
          have z2178 : n0 ≤ h2148.size := Nat.le_trans z2160 E2148.1
          have z2179 : n0 ≤ h2161.size := (Wr.size W2161).symm ▸ z2178
          have z2180 : n0 ≤ h2162.size := (Wr.size W2162).symm ▸ z2179
          have z2181 : n0 ≤ h2163.size := (Wr.size W2163).symm ▸ z2180
          have nw_a2164 : n0 ≤ a2164 := Nat.le_trans z2181 (Nat.le_of_eq g2164.symm)
          have lt_a2164 : a2164 < h2164.size := A2164.lt
          have F2182 : Fld Z h2164 a2164 "com/example/wirecall/wirecall/TextCursor" "text" "Ljava/lang/String;" .null := D2164 (Or.inr (wd hw 38 rfl)) (ty := (.object "java/lang/String")) (by decide)
          have F2183 : Fld Z h2164 a2164 "com/example/wirecall/wirecall/TextCursor" "pos" "I" (.int (0 : Int32)) := D2164 (Or.inl (wd hw 45 rfl)) (ty := .int) (by decide)
          show Gwg T2164 m 167 [(.ref a2164)]
          refine gw_st (fun _ kq => XS.dup X2164.here hx rfl (hb hby at_167) rfl rfl kq) ?_
          show Gwg T2164 m 168 [(.ref a2164), (.ref a2164)]
          refine gw_newO X2164 hx hZ hown (wd hw 4 rfl) (wd hw 5 rfl) (wd hw 6 rfl) e2164 (hb hby at_168) rfl (by decide) (by decide) ?_
          intro T2184 h2184 a2184 g2184 X2184 e2184 E2184 A2184 D2184
          have c2188 : a2148 < h2164.size := Nat.lt_of_lt_of_le c2176 E2164.1
          have ne2189 : a2148 ≠ a2184 := fun q => Nat.lt_irrefl _ (Nat.lt_of_lt_of_le c2188 (Nat.le_of_eq (g2184.symm.trans q.symm)))
          have ne2190 : a2164 ≠ a2184 := fun q => Nat.lt_irrefl _ (Nat.lt_of_lt_of_le lt_a2164 (Nat.le_of_eq (g2184.symm.trans q.symm)))
          have z2191 : n0 ≤ h2164.size := Nat.le_trans z2181 E2164.1
          have nw_a2184 : n0 ≤ a2184 := Nat.le_trans z2191 (Nat.le_of_eq g2184.symm)
          have F2192 : Fld Z h2184 a2184 "java/lang/String" "coder" "B" (.int (0 : Int32)) := D2184 (Or.inr (wd hw 30 rfl)) (ty := .byte) (by decide)
          have F2193 : Fld Z h2184 a2184 "java/lang/String" "value" "[B" .null := D2184 (Or.inr (wd hw 32 rfl)) (ty := (.array .byte)) (by decide)
          show Gwg T2184 m 171 [(.ref a2184), (.ref a2164), (.ref a2164)]
          refine gw_st (fun _ kq => XS.dup X2184.here hx rfl (hb hby at_171) rfl rfl kq) ?_
          show Gwg T2184 m 172 [(.ref a2184), (.ref a2184), (.ref a2164), (.ref a2164)]
          refine gw_st (fun _ kq => XS.aload X2184.here hx rfl (hb hby at_172) rfl rfl kq) ?_
          show Gwg T2184 m 174 [(.ref a2148), (.ref a2184), (.ref a2184), (.ref a2164), (.ref a2164)]
          have c2195 := A2163.ext E2164
          have c2196 := c2195.ext E2184
          have c2197 := Old.ext O0 E253
          have c2198 := Old.wr c2197 W255 nw_a253
          have c2199 := Old.wr c2198 W257 nw_a253
          have c2200 := Old.wr c2199 W259 nw_a253
          have c2201 := Old.ext c2200 E2148
          have c2202 := Old.wr c2201 W2161 nw_a2148
          have c2203 := Old.wr c2202 W2162 nw_a2148
          have c2204 := Old.wr c2203 W2163 nw_a2148
          have c2205 := Old.ext c2204 E2164
          have c2206 := Old.ext c2205 E2184
          have z2207 : n0 ≤ h2184.size := Nat.le_trans z2191 E2184.1
          refine gw_callI X2184 hx hZ hml hown rfl (wd hw 7 rfl) (wd hw 8 rfl) (wd hw 9 rfl) (wd hw 6 rfl) e2184 (argsL := [(.ref a2148)]) (rest := [(.ref a2184), (.ref a2164), (.ref a2164)]) (W := 3) (met_s3 l Z a0 hw a2184 a2148 (x0 &&& (255 : Int32)) ((XT.ushr x0 (8 : Int32)) &&& (255 : Int32)) ((XT.ushr x0 (16 : Int32)) &&& (255 : Int32)) zc h2184 n0 z2207 A2184 F2193 F2192 nw_a2184 c2196 (Ne.symm ne2189) (own_lat _) (own_lat _) (own_lat _) c2206 S0 zn) (hb hby at_174) rfl rfl rfl (lenOf pd11 rfl) (by show 2 * 0 + _ ≤ _; exact Nat.le_of_eq rfl) (by decide) (by decide) (by decide) (by decide) (by decide) ?_
          intro T2194 v2194 L2194 X2194 q2194
          obtain ⟨r_2194, rfl, M2194, K2194, fz2194_r, f2194_0, f2194_1, f2194_2, f2194_3⟩ := q2194
          have N2194 := Fr.app N2163 M2194
          have c2212 : a2164 < h2184.size := Nat.lt_of_lt_of_le lt_a2164 E2184.1
          have ne2213 : a2164 ≠ r_2194 := Nat.ne_of_lt (Nat.lt_of_lt_of_le c2212 fz2194_r)
          show Gwg T2194 m 177 [(.ref a2184), (.ref a2164), (.ref a2164)]
          have c2217 := Exa.ext E2184 A2164
          have c2218 := Exa.keep c2217 K2194
          have c2219 := Fld.ext E2184 F2182
          have c2220 := Fld.keep c2219 K2194 (ninS ne2190 nin0)
          have c2221 := Fld.ext E2184 F2183
          have c2222 := Fld.keep c2221 K2194 (ninS ne2190 nin0)
          have z2223 : n0 ≤ T2194.heap.size := Nat.le_trans z2207 K2194.1
          refine gw_callI X2194 hx hZ hml hown rfl (wd hw 33 rfl) (wd hw 34 rfl) (wd hw 35 rfl) (wd hw 3 rfl) rfl (argsL := [(.ref a2184)]) (rest := [(.ref a2164)]) (W := 1) (met_tci l Z a0 hw a2164 a2184 T2194.heap n0 z2223 c2218 c2220 c2222 nw_a2164) (hb hby at_177) rfl rfl rfl (lenOf pd12 rfl) (by show 2 * 0 + _ ≤ _; exact Nat.le_of_eq rfl) (by decide) (by decide) (by decide) (by decide) (by decide) ?_
          intro T2216 v2216 L2216 X2216 q2216
          obtain ⟨rfl, M2216, K2216, f2216_0, f2216_1⟩ := q2216
          have N2216 := Fr.app N2194 M2216
          show Gwg T2216 m 180 [(.ref a2164)]
          refine gw_st (fun _ kq => XS.astore X2216.here hx rfl (hb hby at_180) rfl rfl (l' := #[.val (.int x0), .val (.int x1), .val (.int x2), .val (.int (x0 &&& (255 : Int32))), .val (.int ((XT.ushr x0 (8 : Int32)) &&& (255 : Int32))), .val (.int ((XT.ushr x0 (16 : Int32)) &&& (255 : Int32))), .val (.ref a253), .val (.int (3 : Int32)), .val (.int (3 : Int32)), .val (.int x1.toUInt32.toUInt16.toUInt32.toInt32), .val (.ref a2148), .val (.ref a2164), .unset, .unset]) rfl kq) ?_
          show Gwg T2216 m 182 []
          refine gw_st (fun _ kq => XS.iload X2216.here hx rfl (hb hby at_182) rfl kq) ?_
          show Gwg T2216 m 184 [(.int (3 : Int32))]
          refine gw_st (fun _ kq => XT.iconstV X2216.here hx rfl (1 : Int32) (hb hby at_184) (by decide) kq) ?_
          show Gwg T2216 m 185 [(.int (1 : Int32)), (.int (3 : Int32))]
          refine gw_st (fun _ kq => XS.icmpNo X2216.here hx rfl (hb hby at_185) rfl (XT.ii_lt_f (by decide)) kq) ?_
          show Gwg T2216 m 188 []
          refine gw_st (fun _ kq => XS.aload X2216.here hx rfl (hb hby at_188) rfl rfl kq) ?_
          show Gwg T2216 m 190 [(.ref a2164)]
          have c2225 := Exa.keep c2218 K2216
          have z2226 : n0 ≤ T2216.heap.size := Nat.le_trans z2223 K2216.1
          refine gw_callV X2216 hx hZ hml hown (wd hw 83 rfl) (wd hw 84 rfl) (notFace_of_selects (args := #[]) (mvT hZ (wd hw 86 rfl))) (wd hw 86 rfl) (wd hw 85 rfl) (wd hw 87 rfl) (wd hw 3 rfl) rfl c2225 (argsL := []) (rest := []) (W := 0) (met_sk0 l Z a0 hw a2164 a2184 T2216.heap n0 z2226 c2225 f2216_0 f2216_1 nw_a2164) (hb hby at_190) rfl rfl rfl (lenOf pd15 rfl) (by show 2 * 0 + _ ≤ _; exact Nat.le_of_eq rfl) (by decide) (by decide) (by decide) (by decide) (by decide) ?_
          intro T2224 v2224 L2224 X2224 q2224
          obtain ⟨rfl, M2224, K2224, f2224_0, f2224_1⟩ := q2224
          have N2224 := Fr.app N2216 M2224
          show Gwg T2224 m 193 []
          refine gw_st (fun _ kq => XS.iload X2224.here hx rfl (hb hby at_193) rfl kq) ?_
          show Gwg T2224 m 195 [(.int (3 : Int32))]
          refine gw_st (fun _ kq => XT.iconstV X2224.here hx rfl (2 : Int32) (hb hby at_195) (by decide) kq) ?_
          show Gwg T2224 m 196 [(.int (2 : Int32)), (.int (3 : Int32))]
          refine gw_st (fun _ kq => XS.icmpNo X2224.here hx rfl (hb hby at_196) rfl (XT.ii_lt_f (by decide)) kq) ?_
          show Gwg T2224 m 199 []
          refine gw_st (fun _ kq => XS.aload X2224.here hx rfl (hb hby at_199) rfl rfl kq) ?_
          show Gwg T2224 m 201 [(.ref a2164)]
          have c2228 := Exa.keep c2225 K2224
          have z2229 : n0 ≤ T2224.heap.size := Nat.le_trans z2226 K2224.1
          refine gw_callV X2224 hx hZ hml hown (wd hw 83 rfl) (wd hw 84 rfl) (notFace_of_selects (args := #[]) (mvT hZ (wd hw 86 rfl))) (wd hw 86 rfl) (wd hw 85 rfl) (wd hw 87 rfl) (wd hw 3 rfl) rfl c2228 (argsL := []) (rest := []) (W := 0) (met_sk1 l Z a0 hw a2164 a2184 T2224.heap n0 z2229 c2228 f2224_0 f2224_1 nw_a2164) (hb hby at_201) rfl rfl rfl (lenOf pd15 rfl) (by show 2 * 0 + _ ≤ _; exact Nat.le_of_eq rfl) (by decide) (by decide) (by decide) (by decide) (by decide) ?_
          intro T2227 v2227 L2227 X2227 q2227
          obtain ⟨rfl, M2227, K2227, f2227_0, f2227_1⟩ := q2227
          have N2227 := Fr.app N2224 M2227
          show Gwg T2227 m 204 []
          refine gw_st (fun _ kq => XS.iload X2227.here hx rfl (hb hby at_204) rfl kq) ?_
          show Gwg T2227 m 206 [(.int (3 : Int32))]
          refine gw_st (fun _ kq => XT.iconstV X2227.here hx rfl (3 : Int32) (hb hby at_206) (by decide) kq) ?_
          show Gwg T2227 m 207 [(.int (3 : Int32)), (.int (3 : Int32))]
          refine gw_st (fun _ kq => XS.icmpNo X2227.here hx rfl (hb hby at_207) rfl (XT.ii_lt_f (by decide)) kq) ?_
          show Gwg T2227 m 210 []
          refine gw_st (fun _ kq => XS.aload X2227.here hx rfl (hb hby at_210) rfl rfl kq) ?_
          show Gwg T2227 m 212 [(.ref a2164)]
          have c2231 := Exa.keep c2228 K2227
          have z2232 : n0 ≤ T2227.heap.size := Nat.le_trans z2229 K2227.1
          refine gw_callV X2227 hx hZ hml hown (wd hw 83 rfl) (wd hw 84 rfl) (notFace_of_selects (args := #[]) (mvT hZ (wd hw 86 rfl))) (wd hw 86 rfl) (wd hw 85 rfl) (wd hw 87 rfl) (wd hw 3 rfl) rfl c2231 (argsL := []) (rest := []) (W := 0) (met_sk2 l Z a0 hw a2164 a2184 T2227.heap n0 z2232 c2231 f2227_0 f2227_1 nw_a2164) (hb hby at_212) rfl rfl rfl (lenOf pd15 rfl) (by show 2 * 0 + _ ≤ _; exact Nat.le_of_eq rfl) (by decide) (by decide) (by decide) (by decide) (by decide) ?_
          intro T2230 v2230 L2230 X2230 q2230
          obtain ⟨rfl, M2230, K2230, f2230_0, f2230_1⟩ := q2230
          have N2230 := Fr.app N2227 M2230
          show Gwg T2230 m 215 []
          refine gw_st (fun _ kq => XS.aload X2230.here hx rfl (hb hby at_215) rfl rfl kq) ?_
          show Gwg T2230 m 217 [(.ref a2164)]
          refine gw_st (fun _ kq => XS.iload X2230.here hx rfl (hb hby at_217) rfl kq) ?_
          show Gwg T2230 m 219 [(.int x1.toUInt32.toUInt16.toUInt32.toInt32), (.ref a2164)]
          have c2234 := Exa.keep f2194_0 K2216
          have c2235 := Exa.keep c2234 K2224
          have c2236 := Exa.keep c2235 K2227
          have c2237 := Exa.keep c2236 K2230
          have c2238 := Fld.keep f2194_1 K2216 (ninS (Ne.symm ne2190) nin0)
          have c2239 := Fld.keep c2238 K2224 (ninS (Ne.symm ne2190) nin0)
          have c2240 := Fld.keep c2239 K2227 (ninS (Ne.symm ne2190) nin0)
          have c2241 := Fld.keep c2240 K2230 (ninS (Ne.symm ne2190) nin0)
          have c2242 := Fld.keep f2194_2 K2216 (ninS (Ne.symm ne2190) nin0)
          have c2243 := Fld.keep c2242 K2224 (ninS (Ne.symm ne2190) nin0)
          have c2244 := Fld.keep c2243 K2227 (ninS (Ne.symm ne2190) nin0)
          have c2245 := Fld.keep c2244 K2230 (ninS (Ne.symm ne2190) nin0)
          have c2246 := GA.keep f2194_3 K2216 (ninS (Ne.symm ne2213) nin0)
          have c2247 := GA.keep c2246 K2224 (ninS (Ne.symm ne2213) nin0)
          have c2248 := GA.keep c2247 K2227 (ninS (Ne.symm ne2213) nin0)
          have c2249 := GA.keep c2248 K2230 (ninS (Ne.symm ne2213) nin0)
          have c2250 := Old.keep c2206 K2194 (allS nw_a2184 all0)
          have c2251 := Old.keep c2250 K2216 (allS nw_a2164 all0)
          have c2252 := Old.keep c2251 K2224 (allS nw_a2164 all0)
          have c2253 := Old.keep c2252 K2227 (allS nw_a2164 all0)
          have c2254 := Old.keep c2253 K2230 (allS nw_a2164 all0)
          have z2255 : n0 ≤ T2230.heap.size := Nat.le_trans z2232 K2230.1
          have c2256 := Exa.keep c2231 K2230
          refine gw_callV X2230 hx hZ hml hown (wd hw 39 rfl) (wd hw 40 rfl) (notFace_of_selects (args := #[]) (mvT hZ (wd hw 42 rfl))) (wd hw 42 rfl) (wd hw 41 rfl) (wd hw 43 rfl) (wd hw 3 rfl) rfl c2256 (argsL := [(.int x1.toUInt32.toUInt16.toUInt32.toInt32)]) (rest := []) (W := 0) (met_pk33 l Z a0 hw a2164 a2184 r_2194 (fun i => .int (own_c3 (own_by (x0 &&& (255 : Int32))) (own_by ((XT.ushr x0 (8 : Int32)) &&& (255 : Int32))) (own_by ((XT.ushr x0 (16 : Int32)) &&& (255 : Int32))) i)) x1.toUInt32.toUInt16.toUInt32.toInt32 zc T2230.heap n0 z2255 f2230_1 f2230_0 c2237 c2241 c2245 c2249 c2254 S0 zn) (hb hby at_219) rfl rfl rfl (lenOf pd13 rfl) (by show 2 * 0 + _ ≤ _; exact Nat.le_of_eq rfl) (by decide) (by decide) (by decide) (by decide) (by decide) ?_
          intro T2233 v2233 L2233 X2233 q2233
          obtain ⟨rfl, M2233, K2233⟩ := q2233
          have N2233 := Fr.app N2230 M2233
          show Gwg T2233 m 222 [(.int (0 : Int32))]
          refine gw_st (fun _ kq => XS.istore X2233.here hx rfl (hb hby at_222) rfl (l' := #[.val (.int x0), .val (.int x1), .val (.int x2), .val (.int (x0 &&& (255 : Int32))), .val (.int ((XT.ushr x0 (8 : Int32)) &&& (255 : Int32))), .val (.int ((XT.ushr x0 (16 : Int32)) &&& (255 : Int32))), .val (.ref a253), .val (.int (3 : Int32)), .val (.int (3 : Int32)), .val (.int x1.toUInt32.toUInt16.toUInt32.toInt32), .val (.ref a2148), .val (.ref a2164), .val (.int (0 : Int32)), .unset]) rfl kq) ?_
          show Gwg T2233 m 224 []
          refine gw_st (fun _ kq => XS.iload X2233.here hx rfl (hb hby at_224) rfl kq) ?_
          show Gwg T2233 m 226 [(.int (3 : Int32))]
          refine gw_st (fun _ kq => XS.iload X2233.here hx rfl (hb hby at_226) rfl kq) ?_
          show Gwg T2233 m 228 [(.int (3 : Int32)), (.int (3 : Int32))]
          refine gw_st (fun _ kq => XS.icmpYes X2233.here hx rfl (pc0 := 228) (pc' := 245) rfl (hb hby at_228) rfl (XT.ii_ge_t (by decide)) (by decide) (by decide) kq) ?_
          show Gwg T2233 m 245 []
          refine gw_st (fun _ kq => XT.iconstV X2233.here hx rfl (0 : Int32) (hb hby at_245) (by decide) kq) ?_
          show Gwg T2233 m 246 [(.int (0 : Int32))]
          refine gw_st (fun _ kq => XS.istore X2233.here hx rfl (hb hby at_246) rfl (l' := #[.val (.int x0), .val (.int x1), .val (.int x2), .val (.int (x0 &&& (255 : Int32))), .val (.int ((XT.ushr x0 (8 : Int32)) &&& (255 : Int32))), .val (.int ((XT.ushr x0 (16 : Int32)) &&& (255 : Int32))), .val (.ref a253), .val (.int (3 : Int32)), .val (.int (3 : Int32)), .val (.int x1.toUInt32.toUInt16.toUInt32.toInt32), .val (.ref a2148), .val (.ref a2164), .val (.int (0 : Int32)), .val (.int (0 : Int32))]) rfl kq) ?_
          show Gwg T2233 m 248 []
          refine gw_st (fun _ kq => XS.iload X2233.here hx rfl (hb hby at_248) rfl kq) ?_
          show Gwg T2233 m 250 [(.int (0 : Int32))]
          refine gw_st (fun _ kq => XS.iload X2233.here hx rfl (hb hby at_250) rfl kq) ?_
          show Gwg T2233 m 252 [(.int (0 : Int32)), (.int (0 : Int32))]
          refine gw_st (fun _ kq => XS.icmpNo X2233.here hx rfl (hb hby at_252) rfl (XT.ii_ne_f (by decide)) kq) ?_
          show Gwg T2233 m 255 []
          refine gw_st (fun _ kq => XS.aload X2233.here hx rfl (hb hby at_255) rfl rfl kq) ?_
          show Gwg T2233 m 257 [(.ref a2164)]
          have c2258 := Fld.keep f2230_1 K2233 nin0
          have z2259 : n0 ≤ T2233.heap.size := Nat.le_trans z2255 K2233.1
          have c2260 := Exa.keep c2256 K2233
          refine gw_callV X2233 hx hZ hml hown (wd hw 78 rfl) (wd hw 79 rfl) (notFace_of_selects (args := #[]) (mvT hZ (wd hw 81 rfl))) (wd hw 81 rfl) (wd hw 80 rfl) (wd hw 82 rfl) (wd hw 3 rfl) rfl c2260 (argsL := []) (rest := []) (W := 0) (met_16 l Z a0 hw a2164 (3 : Int32) T2233.heap n0 z2259 c2258) (hb hby at_257) rfl rfl rfl (lenOf pd9 rfl) (by show 2 * 0 + _ ≤ _; exact Nat.le_of_eq rfl) (by decide) (by decide) (by decide) (by decide) (by decide) ?_
          intro T2257 v2257 L2257 X2257 q2257
          obtain ⟨rfl, M2257, e2257⟩ := q2257
          have N2257 := Fr.app N2233 M2257
          show Gwg T2257 m 260 [(.int (3 : Int32))]
          refine gw_st (fun _ kq => XS.iload X2257.here hx rfl (hb hby at_260) rfl kq) ?_
          show Gwg T2257 m 262 [(.int (3 : Int32)), (.int (3 : Int32))]
          refine gw_st (fun _ kq => XS.icmpNo X2257.here hx rfl (hb hby at_262) rfl (XT.ii_ne_f (by decide)) kq) ?_
          show Gwg T2257 m 265 []
          refine gw_st (fun _ kq => XT.iconstV X2257.here hx rfl (1 : Int32) (hb hby at_265) (by decide) kq) ?_
          show Gwg T2257 m 266 [(.int (1 : Int32))]
          refine gw_st (fun _ kq => XS.goto X2257.here hx rfl (pc0 := 266) (pc' := 270) rfl (hb hby at_266) (by decide) (by decide) kq) ?_
          show Gwg T2257 m 270 [(.int (1 : Int32))]
          exact gw_retB (w := (1 : Int32)) X2257 hx hlk hret (hb hby at_270) (by decide) (by decide) (by decide) ⟨rfl, N2257⟩
         ·refine gw_st (fun _ kq => XS.ifNo X259.here hx rfl (hb hby at_70) rfl (XT.i0_eq_f hc2147) kq) ?_
          show Gwg T259 m 73 []
          refine gw_st (fun _ kq => XS.aload X259.here hx rfl (hb hby at_73) rfl rfl kq) ?_
          show Gwg T259 m 75 [(.ref a253)]
          refine gw_st (fun _ kq => XS.iload X259.here hx rfl (hb hby at_75) rfl kq) ?_
          show Gwg T259 m 77 [(.int (3 : Int32)), (.ref a253)]
          refine gw_st (fun _ kq => XT.iconstV X259.here hx rfl (2 : Int32) (hb hby at_77) (by decide) kq) ?_
          show Gwg T259 m 78 [(.int (2 : Int32)), (.int (3 : Int32)), (.ref a253)]
          refine gw_callS X259 hx hZ hml hown (wd hw 88 rfl) (wd hw 89 rfl) (wd hw 90 rfl) (wd hw 91 rfl) e259 (argsL := [(.int (3 : Int32)), (.int (2 : Int32))]) (rest := [(.ref a253)]) (W := 1) (met_18 l Z a0 hw (3 : Int32) (2 : Int32) h259 n0) (hb hby at_78) rfl rfl rfl (lenOf pd14 rfl) (by show 2 * 0 + _ ≤ _; exact Nat.le_of_eq rfl) (by decide) (by decide) (by decide) (by decide) (by decide) ?_
          intro T2261 v2261 L2261 X2261 q2261
          obtain ⟨rfl, M2261, e2261⟩ := q2261
          have N2261 := Fr.app N259 M2261
          rw [show (fMin (3 : Int32) (2 : Int32)) = (2 : Int32) from by decide +kernel]
          show Gwg T2261 m 81 [(.int (2 : Int32)), (.ref a253)]
          refine gw_cald X2261 hx hZ e2261 A259 (hb hby at_81) rfl rfl (by decide) (.int ((XT.ushr x0 (16 : Int32)) &&& (255 : Int32))) rfl ?_
          show Gwg T2261 m 82 [(.int ((XT.ushr x0 (16 : Int32)) &&& (255 : Int32)))]
          refine gw_st (fun _ kq => XS.istore X2261.here hx rfl (hb hby at_82) rfl (l' := #[.val (.int x0), .val (.int x1), .val (.int x2), .val (.int (x0 &&& (255 : Int32))), .val (.int ((XT.ushr x0 (8 : Int32)) &&& (255 : Int32))), .val (.int ((XT.ushr x0 (16 : Int32)) &&& (255 : Int32))), .val (.ref a253), .val (.int (3 : Int32)), .val (.int (3 : Int32)), .val (.int ((XT.ushr x0 (16 : Int32)) &&& (255 : Int32))), .unset, .unset, .unset, .unset]) rfl kq) ?_
          show Gwg T2261 m 84 []
          refine gw_st (fun _ kq => XS.goto X2261.here hx rfl (pc0 := 84) (pc' := 91) rfl (hb hby at_84) (by decide) (by decide) kq) ?_
          show Gwg T2261 m 91 []
          refine gw_st (fun _ kq => XS.iload X2261.here hx rfl (hb hby at_91) rfl kq) ?_
          show Gwg T2261 m 93 [(.int (3 : Int32))]
          refine gw_st (fun _ kq => XS.ifYes X2261.here hx rfl (pc0 := 93) (pc' := 104) rfl (hb hby at_93) rfl (XT.i0_ne_t (by decide)) (by decide) (by decide) kq) ?_
          show Gwg T2261 m 104 []
          refine gw_st (fun _ kq => XS.iload X2261.here hx rfl (hb hby at_104) rfl kq) ?_
          show Gwg T2261 m 106 [(.int (3 : Int32))]
          refine gw_st (fun _ kq => XT.iconstV X2261.here hx rfl (1 : Int32) (hb hby at_106) (by decide) kq) ?_
          show Gwg T2261 m 107 [(.int (1 : Int32)), (.int (3 : Int32))]
          refine gw_st (fun _ kq => XS.icmpYes X2261.here hx rfl (pc0 := 107) (pc' := 122) rfl (hb hby at_107) rfl (XT.ii_ne_t (by decide)) (by decide) (by decide) kq) ?_
          show Gwg T2261 m 122 []
          refine gw_st (fun _ kq => XS.iload X2261.here hx rfl (hb hby at_122) rfl kq) ?_
          show Gwg T2261 m 124 [(.int (3 : Int32))]
          refine gw_st (fun _ kq => XT.iconstV X2261.here hx rfl (2 : Int32) (hb hby at_124) (by decide) kq) ?_
          show Gwg T2261 m 125 [(.int (2 : Int32)), (.int (3 : Int32))]
          refine gw_st (fun _ kq => XS.icmpYes X2261.here hx rfl (pc0 := 125) (pc' := 145) rfl (hb hby at_125) rfl (XT.ii_ne_t (by decide)) (by decide) (by decide) kq) ?_
          show Gwg T2261 m 145 []
          refine gw_st (fun _ kq => XT.iconstV X2261.here hx rfl (3 : Int32) (hb hby at_145) (by decide) kq) ?_
          show Gwg T2261 m 146 [(.int (3 : Int32))]
          refine gw_newP X2261 hx hZ (wd hw 0 rfl) e2261 (hb hby at_146) rfl rfl 3 (by decide) 3 (Nat.le_refl _) (by decide) (by decide) (by decide) ?_
          intro T2262 h2262 a2262 g2262 X2262 e2262 E2262 G2262
          have z2271 : n0 ≤ h253.size := Nat.le_trans Z0 E253.1
          have z2272 : n0 ≤ h255.size := (Wr.size W255).symm ▸ z2271
          have z2273 : n0 ≤ h257.size := (Wr.size W257).symm ▸ z2272
          have z2274 : n0 ≤ h259.size := (Wr.size W259).symm ▸ z2273
          have nw_a2262 : n0 ≤ a2262 := Nat.le_trans z2274 (Nat.le_of_eq g2262.symm)
          have lt_a2262 : a2262 < h2262.size := G2262.lt
          have A2262 : GA Z h2262 a2262 .char 3 (fun i => .int (own_c3 (0 : Int32) (0 : Int32) (0 : Int32) i)) := (GA.congr G2262 (fun i _ => own_z3 i))
          show Gwg T2262 m 148 [(.ref a2262)]
          refine gw_st (fun _ kq => XS.dup X2262.here hx rfl (hb hby at_148) rfl rfl kq) ?_
          show Gwg T2262 m 149 [(.ref a2262), (.ref a2262)]
          refine gw_st (fun _ kq => XT.iconstV X2262.here hx rfl (0 : Int32) (hb hby at_149) (by decide) kq) ?_
          show Gwg T2262 m 150 [(.int (0 : Int32)), (.ref a2262), (.ref a2262)]
          refine gw_st (fun _ kq => XS.iloadN X2262.here hx rfl (hb hby at_150) rfl kq) ?_
          show Gwg T2262 m 151 [(.int (x0 &&& (255 : Int32))), (.int (0 : Int32)), (.ref a2262), (.ref a2262)]
          refine gw_cast X2262 hx hZ e2262 A2262 (hb hby at_151) rfl rfl (by decide) ?_
          intro T2275 h2275 X2275 e2275 W2275 G2275
          have N2275 := Fr.snoc X2275 N2261 nw_a2262
          have A2275 : GA Z h2275 a2262 .char 3 (fun i => .int (own_c3 (x0 &&& (255 : Int32)) (0 : Int32) (0 : Int32) i)) := (own_stc (own_nc (own_lat _)) (by decide) (own_c30 (x0 &&& (255 : Int32)) (0 : Int32) (0 : Int32) (0 : Int32)) G2275)
          show Gwg T2275 m 152 [(.ref a2262)]
          refine gw_st (fun _ kq => XS.dup X2275.here hx rfl (hb hby at_152) rfl rfl kq) ?_
          show Gwg T2275 m 153 [(.ref a2262), (.ref a2262)]
          refine gw_st (fun _ kq => XT.iconstV X2275.here hx rfl (1 : Int32) (hb hby at_153) (by decide) kq) ?_
          show Gwg T2275 m 154 [(.int (1 : Int32)), (.ref a2262), (.ref a2262)]
          refine gw_st (fun _ kq => XS.iload X2275.here hx rfl (hb hby at_154) rfl kq) ?_
          show Gwg T2275 m 156 [(.int ((XT.ushr x0 (8 : Int32)) &&& (255 : Int32))), (.int (1 : Int32)), (.ref a2262), (.ref a2262)]
          refine gw_cast X2275 hx hZ e2275 A2275 (hb hby at_156) rfl rfl (by decide) ?_
          intro T2276 h2276 X2276 e2276 W2276 G2276
          have N2276 := Fr.snoc X2276 N2275 nw_a2262
          have A2276 : GA Z h2276 a2262 .char 3 (fun i => .int (own_c3 (x0 &&& (255 : Int32)) ((XT.ushr x0 (8 : Int32)) &&& (255 : Int32)) (0 : Int32) i)) := (own_stc (own_nc (own_lat _)) (by decide) (own_c31 ((XT.ushr x0 (8 : Int32)) &&& (255 : Int32)) (x0 &&& (255 : Int32)) (0 : Int32) (0 : Int32)) G2276)
          show Gwg T2276 m 157 [(.ref a2262)]
          refine gw_st (fun _ kq => XS.dup X2276.here hx rfl (hb hby at_157) rfl rfl kq) ?_
          show Gwg T2276 m 158 [(.ref a2262), (.ref a2262)]
          refine gw_st (fun _ kq => XT.iconstV X2276.here hx rfl (2 : Int32) (hb hby at_158) (by decide) kq) ?_
          show Gwg T2276 m 159 [(.int (2 : Int32)), (.ref a2262), (.ref a2262)]
          refine gw_st (fun _ kq => XS.iload X2276.here hx rfl (hb hby at_159) rfl kq) ?_
          show Gwg T2276 m 161 [(.int ((XT.ushr x0 (16 : Int32)) &&& (255 : Int32))), (.int (2 : Int32)), (.ref a2262), (.ref a2262)]
          refine gw_cast X2276 hx hZ e2276 A2276 (hb hby at_161) rfl rfl (by decide) ?_
          intro T2277 h2277 X2277 e2277 W2277 G2277
          have N2277 := Fr.snoc X2277 N2276 nw_a2262
          have A2277 : GA Z h2277 a2262 .char 3 (fun i => .int (own_c3 (x0 &&& (255 : Int32)) ((XT.ushr x0 (8 : Int32)) &&& (255 : Int32)) ((XT.ushr x0 (16 : Int32)) &&& (255 : Int32)) i)) := (own_stc (own_nc (own_lat _)) (by decide) (own_c32 ((XT.ushr x0 (16 : Int32)) &&& (255 : Int32)) (x0 &&& (255 : Int32)) ((XT.ushr x0 (8 : Int32)) &&& (255 : Int32)) (0 : Int32)) G2277)
          show Gwg T2277 m 162 [(.ref a2262)]
          refine gw_st (fun _ kq => XS.astore X2277.here hx rfl (hb hby at_162) rfl rfl (l' := #[.val (.int x0), .val (.int x1), .val (.int x2), .val (.int (x0 &&& (255 : Int32))), .val (.int ((XT.ushr x0 (8 : Int32)) &&& (255 : Int32))), .val (.int ((XT.ushr x0 (16 : Int32)) &&& (255 : Int32))), .val (.ref a253), .val (.int (3 : Int32)), .val (.int (3 : Int32)), .val (.int ((XT.ushr x0 (16 : Int32)) &&& (255 : Int32))), .val (.ref a2262), .unset, .unset, .unset]) rfl kq) ?_
          show Gwg T2277 m 164 []
          refine gw_newO X2277 hx hZ hown (wd hw 1 rfl) (wd hw 2 rfl) (wd hw 3 rfl) e2277 (hb hby at_164) rfl (by decide) (by decide) ?_
          intro T2278 h2278 a2278 g2278 X2278 e2278 E2278 A2278 D2278
          have c2288 : a2262 < h2275.size := (Wr.size W2275).symm ▸ lt_a2262
          have c2289 : a2262 < h2276.size := (Wr.size W2276).symm ▸ c2288
          have c2290 : a2262 < h2277.size := (Wr.size W2277).symm ▸ c2289
          have z2292 : n0 ≤ h2262.size := Nat.le_trans z2274 E2262.1
          have z2293 : n0 ≤ h2275.size := (Wr.size W2275).symm ▸ z2292
          have z2294 : n0 ≤ h2276.size := (Wr.size W2276).symm ▸ z2293
          have z2295 : n0 ≤ h2277.size := (Wr.size W2277).symm ▸ z2294
          have nw_a2278 : n0 ≤ a2278 := Nat.le_trans z2295 (Nat.le_of_eq g2278.symm)
          have lt_a2278 : a2278 < h2278.size := A2278.lt
          have F2296 : Fld Z h2278 a2278 "com/example/wirecall/wirecall/TextCursor" "text" "Ljava/lang/String;" .null := D2278 (Or.inr (wd hw 38 rfl)) (ty := (.object "java/lang/String")) (by decide)
          have F2297 : Fld Z h2278 a2278 "com/example/wirecall/wirecall/TextCursor" "pos" "I" (.int (0 : Int32)) := D2278 (Or.inl (wd hw 45 rfl)) (ty := .int) (by decide)
          show Gwg T2278 m 167 [(.ref a2278)]
          refine gw_st (fun _ kq => XS.dup X2278.here hx rfl (hb hby at_167) rfl rfl kq) ?_
          show Gwg T2278 m 168 [(.ref a2278), (.ref a2278)]
          refine gw_newO X2278 hx hZ hown (wd hw 4 rfl) (wd hw 5 rfl) (wd hw 6 rfl) e2278 (hb hby at_168) rfl (by decide) (by decide) ?_
          intro T2298 h2298 a2298 g2298 X2298 e2298 E2298 A2298 D2298
          have c2302 : a2262 < h2278.size := Nat.lt_of_lt_of_le c2290 E2278.1
          have ne2303 : a2262 ≠ a2298 := fun q => Nat.lt_irrefl _ (Nat.lt_of_lt_of_le c2302 (Nat.le_of_eq (g2298.symm.trans q.symm)))
          have ne2304 : a2278 ≠ a2298 := fun q => Nat.lt_irrefl _ (Nat.lt_of_lt_of_le lt_a2278 (Nat.le_of_eq (g2298.symm.trans q.symm)))
          have z2305 : n0 ≤ h2278.size := Nat.le_trans z2295 E2278.1
          have nw_a2298 : n0 ≤ a2298 := Nat.le_trans z2305 (Nat.le_of_eq g2298.symm)
          have F2306 : Fld Z h2298 a2298 "java/lang/String" "coder" "B" (.int (0 : Int32)) := D2298 (Or.inr (wd hw 30 rfl)) (ty := .byte) (by decide)
          have F2307 : Fld Z h2298 a2298 "java/lang/String" "value" "[B" .null := D2298 (Or.inr (wd hw 32 rfl)) (ty := (.array .byte)) (by decide)
          show Gwg T2298 m 171 [(.ref a2298), (.ref a2278), (.ref a2278)]
          refine gw_st (fun _ kq => XS.dup X2298.here hx rfl (hb hby at_171) rfl rfl kq) ?_
          show Gwg T2298 m 172 [(.ref a2298), (.ref a2298), (.ref a2278), (.ref a2278)]
          refine gw_st (fun _ kq => XS.aload X2298.here hx rfl (hb hby at_172) rfl rfl kq) ?_
          show Gwg T2298 m 174 [(.ref a2262), (.ref a2298), (.ref a2298), (.ref a2278), (.ref a2278)]
          have c2309 := A2277.ext E2278
          have c2310 := c2309.ext E2298
          have c2311 := Old.ext O0 E253
          have c2312 := Old.wr c2311 W255 nw_a253
          have c2313 := Old.wr c2312 W257 nw_a253
          have c2314 := Old.wr c2313 W259 nw_a253
          have c2315 := Old.ext c2314 E2262
          have c2316 := Old.wr c2315 W2275 nw_a2262
          have c2317 := Old.wr c2316 W2276 nw_a2262
          have c2318 := Old.wr c2317 W2277 nw_a2262
          have c2319 := Old.ext c2318 E2278
          have c2320 := Old.ext c2319 E2298
          have z2321 : n0 ≤ h2298.size := Nat.le_trans z2305 E2298.1
          refine gw_callI X2298 hx hZ hml hown rfl (wd hw 7 rfl) (wd hw 8 rfl) (wd hw 9 rfl) (wd hw 6 rfl) e2298 (argsL := [(.ref a2262)]) (rest := [(.ref a2298), (.ref a2278), (.ref a2278)]) (W := 3) (met_s3 l Z a0 hw a2298 a2262 (x0 &&& (255 : Int32)) ((XT.ushr x0 (8 : Int32)) &&& (255 : Int32)) ((XT.ushr x0 (16 : Int32)) &&& (255 : Int32)) zc h2298 n0 z2321 A2298 F2307 F2306 nw_a2298 c2310 (Ne.symm ne2303) (own_lat _) (own_lat _) (own_lat _) c2320 S0 zn) (hb hby at_174) rfl rfl rfl (lenOf pd11 rfl) (by show 2 * 0 + _ ≤ _; exact Nat.le_of_eq rfl) (by decide) (by decide) (by decide) (by decide) (by decide) ?_
          intro T2308 v2308 L2308 X2308 q2308
          obtain ⟨r_2308, rfl, M2308, K2308, fz2308_r, f2308_0, f2308_1, f2308_2, f2308_3⟩ := q2308
          have N2308 := Fr.app N2277 M2308
          have c2326 : a2278 < h2298.size := Nat.lt_of_lt_of_le lt_a2278 E2298.1
          have ne2327 : a2278 ≠ r_2308 := Nat.ne_of_lt (Nat.lt_of_lt_of_le c2326 fz2308_r)
          show Gwg T2308 m 177 [(.ref a2298), (.ref a2278), (.ref a2278)]
          have c2331 := Exa.ext E2298 A2278
          have c2332 := Exa.keep c2331 K2308
          have c2333 := Fld.ext E2298 F2296
          have c2334 := Fld.keep c2333 K2308 (ninS ne2304 nin0)
          have c2335 := Fld.ext E2298 F2297
          have c2336 := Fld.keep c2335 K2308 (ninS ne2304 nin0)
          have z2337 : n0 ≤ T2308.heap.size := Nat.le_trans z2321 K2308.1
          refine gw_callI X2308 hx hZ hml hown rfl (wd hw 33 rfl) (wd hw 34 rfl) (wd hw 35 rfl) (wd hw 3 rfl) rfl (argsL := [(.ref a2298)]) (rest := [(.ref a2278)]) (W := 1) (met_tci l Z a0 hw a2278 a2298 T2308.heap n0 z2337 c2332 c2334 c2336 nw_a2278) (hb hby at_177) rfl rfl rfl (lenOf pd12 rfl) (by show 2 * 0 + _ ≤ _; exact Nat.le_of_eq rfl) (by decide) (by decide) (by decide) (by decide) (by decide) ?_
          intro T2330 v2330 L2330 X2330 q2330
          obtain ⟨rfl, M2330, K2330, f2330_0, f2330_1⟩ := q2330
          have N2330 := Fr.app N2308 M2330
          show Gwg T2330 m 180 [(.ref a2278)]
          refine gw_st (fun _ kq => XS.astore X2330.here hx rfl (hb hby at_180) rfl rfl (l' := #[.val (.int x0), .val (.int x1), .val (.int x2), .val (.int (x0 &&& (255 : Int32))), .val (.int ((XT.ushr x0 (8 : Int32)) &&& (255 : Int32))), .val (.int ((XT.ushr x0 (16 : Int32)) &&& (255 : Int32))), .val (.ref a253), .val (.int (3 : Int32)), .val (.int (3 : Int32)), .val (.int ((XT.ushr x0 (16 : Int32)) &&& (255 : Int32))), .val (.ref a2262), .val (.ref a2278), .unset, .unset]) rfl kq) ?_
          show Gwg T2330 m 182 []
          refine gw_st (fun _ kq => XS.iload X2330.here hx rfl (hb hby at_182) rfl kq) ?_
          show Gwg T2330 m 184 [(.int (3 : Int32))]
          refine gw_st (fun _ kq => XT.iconstV X2330.here hx rfl (1 : Int32) (hb hby at_184) (by decide) kq) ?_
          show Gwg T2330 m 185 [(.int (1 : Int32)), (.int (3 : Int32))]
          refine gw_st (fun _ kq => XS.icmpNo X2330.here hx rfl (hb hby at_185) rfl (XT.ii_lt_f (by decide)) kq) ?_
          show Gwg T2330 m 188 []
          refine gw_st (fun _ kq => XS.aload X2330.here hx rfl (hb hby at_188) rfl rfl kq) ?_
          show Gwg T2330 m 190 [(.ref a2278)]
          have c2339 := Exa.keep c2332 K2330
          have z2340 : n0 ≤ T2330.heap.size := Nat.le_trans z2337 K2330.1
          refine gw_callV X2330 hx hZ hml hown (wd hw 83 rfl) (wd hw 84 rfl) (notFace_of_selects (args := #[]) (mvT hZ (wd hw 86 rfl))) (wd hw 86 rfl) (wd hw 85 rfl) (wd hw 87 rfl) (wd hw 3 rfl) rfl c2339 (argsL := []) (rest := []) (W := 0) (met_sk0 l Z a0 hw a2278 a2298 T2330.heap n0 z2340 c2339 f2330_0 f2330_1 nw_a2278) (hb hby at_190) rfl rfl rfl (lenOf pd15 rfl) (by show 2 * 0 + _ ≤ _; exact Nat.le_of_eq rfl) (by decide) (by decide) (by decide) (by decide) (by decide) ?_
          intro T2338 v2338 L2338 X2338 q2338
          obtain ⟨rfl, M2338, K2338, f2338_0, f2338_1⟩ := q2338
          have N2338 := Fr.app N2330 M2338
          show Gwg T2338 m 193 []
          refine gw_st (fun _ kq => XS.iload X2338.here hx rfl (hb hby at_193) rfl kq) ?_
          show Gwg T2338 m 195 [(.int (3 : Int32))]
          refine gw_st (fun _ kq => XT.iconstV X2338.here hx rfl (2 : Int32) (hb hby at_195) (by decide) kq) ?_
          show Gwg T2338 m 196 [(.int (2 : Int32)), (.int (3 : Int32))]
          refine gw_st (fun _ kq => XS.icmpNo X2338.here hx rfl (hb hby at_196) rfl (XT.ii_lt_f (by decide)) kq) ?_
          show Gwg T2338 m 199 []
          refine gw_st (fun _ kq => XS.aload X2338.here hx rfl (hb hby at_199) rfl rfl kq) ?_
          show Gwg T2338 m 201 [(.ref a2278)]
          have c2342 := Exa.keep c2339 K2338
          have z2343 : n0 ≤ T2338.heap.size := Nat.le_trans z2340 K2338.1
          refine gw_callV X2338 hx hZ hml hown (wd hw 83 rfl) (wd hw 84 rfl) (notFace_of_selects (args := #[]) (mvT hZ (wd hw 86 rfl))) (wd hw 86 rfl) (wd hw 85 rfl) (wd hw 87 rfl) (wd hw 3 rfl) rfl c2342 (argsL := []) (rest := []) (W := 0) (met_sk1 l Z a0 hw a2278 a2298 T2338.heap n0 z2343 c2342 f2338_0 f2338_1 nw_a2278) (hb hby at_201) rfl rfl rfl (lenOf pd15 rfl) (by show 2 * 0 + _ ≤ _; exact Nat.le_of_eq rfl) (by decide) (by decide) (by decide) (by decide) (by decide) ?_
          intro T2341 v2341 L2341 X2341 q2341
          obtain ⟨rfl, M2341, K2341, f2341_0, f2341_1⟩ := q2341
          have N2341 := Fr.app N2338 M2341
          show Gwg T2341 m 204 []
          refine gw_st (fun _ kq => XS.iload X2341.here hx rfl (hb hby at_204) rfl kq) ?_
          show Gwg T2341 m 206 [(.int (3 : Int32))]
          refine gw_st (fun _ kq => XT.iconstV X2341.here hx rfl (3 : Int32) (hb hby at_206) (by decide) kq) ?_
          show Gwg T2341 m 207 [(.int (3 : Int32)), (.int (3 : Int32))]
          refine gw_st (fun _ kq => XS.icmpNo X2341.here hx rfl (hb hby at_207) rfl (XT.ii_lt_f (by decide)) kq) ?_
          show Gwg T2341 m 210 []
          refine gw_st (fun _ kq => XS.aload X2341.here hx rfl (hb hby at_210) rfl rfl kq) ?_
          show Gwg T2341 m 212 [(.ref a2278)]
          have c2345 := Exa.keep c2342 K2341
          have z2346 : n0 ≤ T2341.heap.size := Nat.le_trans z2343 K2341.1
          refine gw_callV X2341 hx hZ hml hown (wd hw 83 rfl) (wd hw 84 rfl) (notFace_of_selects (args := #[]) (mvT hZ (wd hw 86 rfl))) (wd hw 86 rfl) (wd hw 85 rfl) (wd hw 87 rfl) (wd hw 3 rfl) rfl c2345 (argsL := []) (rest := []) (W := 0) (met_sk2 l Z a0 hw a2278 a2298 T2341.heap n0 z2346 c2345 f2341_0 f2341_1 nw_a2278) (hb hby at_212) rfl rfl rfl (lenOf pd15 rfl) (by show 2 * 0 + _ ≤ _; exact Nat.le_of_eq rfl) (by decide) (by decide) (by decide) (by decide) (by decide) ?_
          intro T2344 v2344 L2344 X2344 q2344
          obtain ⟨rfl, M2344, K2344, f2344_0, f2344_1⟩ := q2344
          have N2344 := Fr.app N2341 M2344
          show Gwg T2344 m 215 []
          refine gw_st (fun _ kq => XS.aload X2344.here hx rfl (hb hby at_215) rfl rfl kq) ?_
          show Gwg T2344 m 217 [(.ref a2278)]
          refine gw_st (fun _ kq => XS.iload X2344.here hx rfl (hb hby at_217) rfl kq) ?_
          show Gwg T2344 m 219 [(.int ((XT.ushr x0 (16 : Int32)) &&& (255 : Int32))), (.ref a2278)]
          have c2348 := Exa.keep f2308_0 K2330
          have c2349 := Exa.keep c2348 K2338
          have c2350 := Exa.keep c2349 K2341
          have c2351 := Exa.keep c2350 K2344
          have c2352 := Fld.keep f2308_1 K2330 (ninS (Ne.symm ne2304) nin0)
          have c2353 := Fld.keep c2352 K2338 (ninS (Ne.symm ne2304) nin0)
          have c2354 := Fld.keep c2353 K2341 (ninS (Ne.symm ne2304) nin0)
          have c2355 := Fld.keep c2354 K2344 (ninS (Ne.symm ne2304) nin0)
          have c2356 := Fld.keep f2308_2 K2330 (ninS (Ne.symm ne2304) nin0)
          have c2357 := Fld.keep c2356 K2338 (ninS (Ne.symm ne2304) nin0)
          have c2358 := Fld.keep c2357 K2341 (ninS (Ne.symm ne2304) nin0)
          have c2359 := Fld.keep c2358 K2344 (ninS (Ne.symm ne2304) nin0)
          have c2360 := GA.keep f2308_3 K2330 (ninS (Ne.symm ne2327) nin0)
          have c2361 := GA.keep c2360 K2338 (ninS (Ne.symm ne2327) nin0)
          have c2362 := GA.keep c2361 K2341 (ninS (Ne.symm ne2327) nin0)
          have c2363 := GA.keep c2362 K2344 (ninS (Ne.symm ne2327) nin0)
          have c2364 := Old.keep c2320 K2308 (allS nw_a2298 all0)
          have c2365 := Old.keep c2364 K2330 (allS nw_a2278 all0)
          have c2366 := Old.keep c2365 K2338 (allS nw_a2278 all0)
          have c2367 := Old.keep c2366 K2341 (allS nw_a2278 all0)
          have c2368 := Old.keep c2367 K2344 (allS nw_a2278 all0)
          have z2369 : n0 ≤ T2344.heap.size := Nat.le_trans z2346 K2344.1
          have c2370 := Exa.keep c2345 K2344
          refine gw_callV X2344 hx hZ hml hown (wd hw 39 rfl) (wd hw 40 rfl) (notFace_of_selects (args := #[]) (mvT hZ (wd hw 42 rfl))) (wd hw 42 rfl) (wd hw 41 rfl) (wd hw 43 rfl) (wd hw 3 rfl) rfl c2370 (argsL := [(.int ((XT.ushr x0 (16 : Int32)) &&& (255 : Int32)))]) (rest := []) (W := 0) (met_pk33 l Z a0 hw a2278 a2298 r_2308 (fun i => .int (own_c3 (own_by (x0 &&& (255 : Int32))) (own_by ((XT.ushr x0 (8 : Int32)) &&& (255 : Int32))) (own_by ((XT.ushr x0 (16 : Int32)) &&& (255 : Int32))) i)) ((XT.ushr x0 (16 : Int32)) &&& (255 : Int32)) zc T2344.heap n0 z2369 f2344_1 f2344_0 c2351 c2355 c2359 c2363 c2368 S0 zn) (hb hby at_219) rfl rfl rfl (lenOf pd13 rfl) (by show 2 * 0 + _ ≤ _; exact Nat.le_of_eq rfl) (by decide) (by decide) (by decide) (by decide) (by decide) ?_
          intro T2347 v2347 L2347 X2347 q2347
          obtain ⟨rfl, M2347, K2347⟩ := q2347
          have N2347 := Fr.app N2344 M2347
          show Gwg T2347 m 222 [(.int (0 : Int32))]
          refine gw_st (fun _ kq => XS.istore X2347.here hx rfl (hb hby at_222) rfl (l' := #[.val (.int x0), .val (.int x1), .val (.int x2), .val (.int (x0 &&& (255 : Int32))), .val (.int ((XT.ushr x0 (8 : Int32)) &&& (255 : Int32))), .val (.int ((XT.ushr x0 (16 : Int32)) &&& (255 : Int32))), .val (.ref a253), .val (.int (3 : Int32)), .val (.int (3 : Int32)), .val (.int ((XT.ushr x0 (16 : Int32)) &&& (255 : Int32))), .val (.ref a2262), .val (.ref a2278), .val (.int (0 : Int32)), .unset]) rfl kq) ?_
          show Gwg T2347 m 224 []
          refine gw_st (fun _ kq => XS.iload X2347.here hx rfl (hb hby at_224) rfl kq) ?_
          show Gwg T2347 m 226 [(.int (3 : Int32))]
          refine gw_st (fun _ kq => XS.iload X2347.here hx rfl (hb hby at_226) rfl kq) ?_
          show Gwg T2347 m 228 [(.int (3 : Int32)), (.int (3 : Int32))]
          refine gw_st (fun _ kq => XS.icmpYes X2347.here hx rfl (pc0 := 228) (pc' := 245) rfl (hb hby at_228) rfl (XT.ii_ge_t (by decide)) (by decide) (by decide) kq) ?_
          show Gwg T2347 m 245 []
          refine gw_st (fun _ kq => XT.iconstV X2347.here hx rfl (0 : Int32) (hb hby at_245) (by decide) kq) ?_
          show Gwg T2347 m 246 [(.int (0 : Int32))]
          refine gw_st (fun _ kq => XS.istore X2347.here hx rfl (hb hby at_246) rfl (l' := #[.val (.int x0), .val (.int x1), .val (.int x2), .val (.int (x0 &&& (255 : Int32))), .val (.int ((XT.ushr x0 (8 : Int32)) &&& (255 : Int32))), .val (.int ((XT.ushr x0 (16 : Int32)) &&& (255 : Int32))), .val (.ref a253), .val (.int (3 : Int32)), .val (.int (3 : Int32)), .val (.int ((XT.ushr x0 (16 : Int32)) &&& (255 : Int32))), .val (.ref a2262), .val (.ref a2278), .val (.int (0 : Int32)), .val (.int (0 : Int32))]) rfl kq) ?_
          show Gwg T2347 m 248 []
          refine gw_st (fun _ kq => XS.iload X2347.here hx rfl (hb hby at_248) rfl kq) ?_
          show Gwg T2347 m 250 [(.int (0 : Int32))]
          refine gw_st (fun _ kq => XS.iload X2347.here hx rfl (hb hby at_250) rfl kq) ?_
          show Gwg T2347 m 252 [(.int (0 : Int32)), (.int (0 : Int32))]
          refine gw_st (fun _ kq => XS.icmpNo X2347.here hx rfl (hb hby at_252) rfl (XT.ii_ne_f (by decide)) kq) ?_
          show Gwg T2347 m 255 []
          refine gw_st (fun _ kq => XS.aload X2347.here hx rfl (hb hby at_255) rfl rfl kq) ?_
          show Gwg T2347 m 257 [(.ref a2278)]
          have c2372 := Fld.keep f2344_1 K2347 nin0
          have z2373 : n0 ≤ T2347.heap.size := Nat.le_trans z2369 K2347.1
          have c2374 := Exa.keep c2370 K2347
          refine gw_callV X2347 hx hZ hml hown (wd hw 78 rfl) (wd hw 79 rfl) (notFace_of_selects (args := #[]) (mvT hZ (wd hw 81 rfl))) (wd hw 81 rfl) (wd hw 80 rfl) (wd hw 82 rfl) (wd hw 3 rfl) rfl c2374 (argsL := []) (rest := []) (W := 0) (met_16 l Z a0 hw a2278 (3 : Int32) T2347.heap n0 z2373 c2372) (hb hby at_257) rfl rfl rfl (lenOf pd9 rfl) (by show 2 * 0 + _ ≤ _; exact Nat.le_of_eq rfl) (by decide) (by decide) (by decide) (by decide) (by decide) ?_
          intro T2371 v2371 L2371 X2371 q2371
          obtain ⟨rfl, M2371, e2371⟩ := q2371
          have N2371 := Fr.app N2347 M2371
          show Gwg T2371 m 260 [(.int (3 : Int32))]
          refine gw_st (fun _ kq => XS.iload X2371.here hx rfl (hb hby at_260) rfl kq) ?_
          show Gwg T2371 m 262 [(.int (3 : Int32)), (.int (3 : Int32))]
          refine gw_st (fun _ kq => XS.icmpNo X2371.here hx rfl (hb hby at_262) rfl (XT.ii_ne_f (by decide)) kq) ?_
          show Gwg T2371 m 265 []
          refine gw_st (fun _ kq => XT.iconstV X2371.here hx rfl (1 : Int32) (hb hby at_265) (by decide) kq) ?_
          show Gwg T2371 m 266 [(.int (1 : Int32))]
          refine gw_st (fun _ kq => XS.goto X2371.here hx rfl (pc0 := 266) (pc' := 270) rfl (hb hby at_266) (by decide) (by decide) kq) ?_
          show Gwg T2371 m 270 [(.int (1 : Int32))]
          exact gw_retB (w := (1 : Int32)) X2371 hx hlk hret (hb hby at_270) (by decide) (by decide) (by decide) ⟨rfl, N2371⟩
        ·exact (own_dk4 _ hk1408 hk1630 hk1876 hk2146).elim
    ·exact (own_dn _ hk261 hk401 hk767 hk1407).elim
set_option maxRecDepth 65536 in
set_option maxHeartbeats 4000000 in
theorem comes_1 {Post : Tables → Env → Array Value → State → Outcome → State → Prop} (hpost : ∀ tb e args s v u, (limb_1_1.after args s (.returned v) u = true ∧ limb_1_2.after args s (.returned v) u = true ∧ True) → ReturnedEndW s (.returned v) u (Jvm.fieldLocs frame_1_writes args s ++ Jvm.arrayLocs frame_1_arrays args s ++ Jvm.staticLocs frame_1_statics s) 24 1152 → Post tb e args s (.returned v) u) :
    ArmFor flags0 classFile x code maxLocals ret World_1 tables_1 room_1 Calls_1 rest_1 Pre_1 Post := by
  intro l hfl _ _ p e ha hc hk s m args below hf hA hF happ hP
  obtain ⟨hcalls, hrest, hpre⟩ := hP
  obtain ⟨-, -, -, hnamed, -, -, -, hat⟩ := (Spec.applies_iff hf).mp happ
  obtain ⟨hg, hn⟩ := and_e (Cond.before_iff.mp (show (Jvm.Cond.and given_1 narrow_1).before args s = true from hpre))
  obtain ⟨k1, r1⟩ := and_e hg
  obtain ⟨g0, r2⟩ := and_e r1
  obtain ⟨g1, r3⟩ := and_e r2
  have g2 := r3
  obtain ⟨w0, w1, w2, rfl⟩ : ∃ w0 w1 w2 : Value, args = #[w0, w1, w2] := by
    have hs : args.size = 3 := by simpa [Cond.value, given_1] using k1
    obtain ⟨L⟩ := args
    match L, hs with
    | [w0, w1, w2], _ => exact ⟨w0, w1, w2, rfl⟩
  have hw := fun d (hd : d ∈ tables_1) => atoms_spec (ws := Jvm.Cond.code x code maxLocals ret :: tables_1) hat d (List.mem_cons_of_mem _ hd)
  have hfit : Fit s := fun {y c} hc i hi => by
    obtain ⟨ha, rfl⟩ := Array.getElem?_eq_some_iff.mp hc
    have q := List.all_eq_true.mp ((Array.all_eq_true_iff_forall_mem.mp hF) _ (Array.getElem_mem ha)) i (List.mem_range.mpr hi)
    simpa [Array.getElem?_eq_getElem hi] using q
  obtain ⟨i0, f0⟩ := is_v g0
  obtain rfl : w0 = (.int i0) := Option.some.inj f0
  obtain ⟨i1, f1⟩ := is_v g1
  obtain rfl : w1 = (.int i1) := Option.some.inj f1
  obtain ⟨i2, f2⟩ := is_v g2
  obtain rfl : w2 = (.int i2) := Option.some.inj f2
  obtain ⟨hsets, hown0⟩ := atoms_of _ (rest_1_c_eq ▸ (show rest_1_c.before _ s = true from hrest))
  have n3 := not_v (Cond.before_iff.mp (hsets _ (List.mem_of_getElem? (i := 2) rfl)))
  obtain ⟨zc, ez⟩ := is_v (Cond.before_iff.mp (hsets _ (List.mem_of_getElem? (i := 1) rfl)))
  have S0 : Sta s s.heap "java/lang/String" "COMPACT_STRINGS" "Z" (.int zc) := Sta.start ez (Or.inl (hsets _ (List.mem_of_getElem? (i := 0) rfl)))
  have zn : ¬ (zc = (0 : Int32)) := gotF (Cond.eq_ints ez (Term.int_eval (0))) n3
  have hcst : ∀ q ∈ consts_1, Jvm.Lit.constHeld s q.1 q.2 := hcalls.1
  have hcw := hsets _ (List.mem_of_getElem? (i := 2) rfl)
  obtain ⟨vf, ev, rf⟩ := isR_v (Cond.before_iff.mp (hsets _ (List.mem_of_getElem? (i := 8) rfl)))
  have S1 : Sta s s.heap "jdk/internal/util/Preconditions" "SIOOBE_FORMATTER" "Ljava/util/function/BiFunction;" vf := Sta.start ev (Or.inl (hsets _ (List.mem_of_getElem? (i := 7) rfl)))
  have hm := met_law l s _ hw i0 i1 i2 s.heap s.heap.size (Nat.le_refl _) zc (Old.start s) S0 zn vf rf S1
  obtain ⟨n, o, h1, h2, h3, _, L, rfl, ⟨rfl, N⟩, hq⟩ := hm p e ha hc hk s m _ below hf ((Spec.applies_iff_loose hf).mp happ).1 ⟨rfl, State.Warmed39.refl s, rfl, CHv.start (own_EL s _ hw) hcst hcw (wd hw 22 rfl) (wd hw 5 rfl), Safe.new (Nat.le_refl _)⟩ trivial
  refine ⟨n, _, h1, h2, h3, hpost _ _ _ _ _ _ ⟨Cond.after_iff.mpr rfl, Cond.after_iff.mpr (eq_i res_at (Term.int_eval (1)) rfl), trivial⟩ ⟨hq.1, hq.2.1, hq.2.2.1, (hq.2.2.2.sift fun y hy => Or.inr (N y hy)).mono (by decide) (by decide)⟩⟩
theorem main_1_1 : Claimed_1_1 := comes_1 fun _ _ _ _ _ _ h hF => ⟨h.1, hF⟩
theorem main_1_2 : Claimed_1_2 := comes_1 fun _ _ _ _ _ _ h hF => ⟨h.2.1, hF⟩
end Jvm.Pilot.@@N@@
namespace Jvm.Pilot.@@N@@
open Jvm Jvm.ClassFile Sem Op Lib Jvm.Free Jvm.Stand Jvm.Pilot.@@N@@.Jvm.D
/-! MADE BY PROGRAM (witnessworld.py) out of the Statement's table words and the real class files: 19 classes; the members and pool entries that the words name. The judged class is class 1, her method 1. -/
namespace start1
open Jvm.ClassFile
def u (s : String) : CpInfo := .utf8 (stringToUtf16 s)
/-- a pool by its gaps: so many unusable entries, then the entry; so many at the end -/
def gap : Nat → List CpInfo → List CpInfo
  | 0, r => r
  | n + 1, r => .unusable :: gap n r
def poolList (es : List (Nat × CpInfo)) (last : Nat) : List CpInfo := es.foldr (fun e r => gap e.1 (e.2 :: r)) (gap last [])
def pool (es : List (Nat × CpInfo)) (last : Nat) : Array CpInfo := ⟨poolList es last⟩
def fileOf (pool : Array CpInfo) (this : Nat) (attrs : Array Attribute := #[]) (ms : Array MethodInfo := #[]) (fl : Nat := 33) (sup : Nat := 0) (ifs : Array Nat := #[]) (fds : Array FieldInfo := #[]) : ClassFile where
  minorVersion := 0
  majorVersion := 65
  constantPool := pool
  accessFlags := fl
  thisClass := this
  superClass := sup
  interfaces := ifs
  fields := fds
  methods := ms
  attributes := attrs
def plain (name : String) (sup : Option ClassId) : Class where
  name := name
  kind := .ordinary
  loader := none
  accessFlags := 33
  super := sup
  interfaces := #[]
  cf := none
  fields := #[]
  methods := #[]
  instanceTypes := #[]
  staticTypes := #[]
  resolved := #[]
  callSites := []
  init := .initialized
  statics := none
  mirror := none

def pool0 : Array CpInfo := pool [(5, u "<init>"), (0, u "()V"), (1, .class_ 10), (1, u "java/lang/Object")] 113

def k0c0 : Code := { maxStack := 0, maxLocals := 1, code := object_method_1_code, exceptionTable := #[], attributes := #[] }
def k0m0 : Method := { name := "<init>", desc := "()V", sig := { parameters := [], returnType := none }, accessFlags := 1, code := some k0c0 }
/-- java/lang/Object -/
def k0 : Class := { plain "java/lang/Object" none with
  accessFlags := 33
  interfaces := #[]
  cf := some (fileOf pool0 8 #[] #[{ accessFlags := 1, nameIndex := 5, descriptorIndex := 6, attributes := #[] }] 33 0 #[] #[])
  fields := #[]
  methods := #[k0m0]
  instanceTypes := #[]
  staticTypes := #[]
  resolved := Array.replicate 124 none
  statics := none }

def pool1 : Array CpInfo := pool [(2, .class_ 4), (1, u "java/lang/Object"), (0, u "<init>"), (0, u "()V"), (0, .methodref 8 9), (0, .class_ 10), (0, .nameAndType 11 12), (0, u "java/lang/Math"), (0, u "min"), (0, u "(II)I"), (0, .class_ 14), (0, u "com/example/wirecall/wirecall/TextCursor"), (0, .class_ 16), (0, u "java/lang/String"), (0, .methodref 15 18), (0, .nameAndType 5 19), (0, u "([C)V"), (0, .methodref 13 21), (0, .nameAndType 5 22), (0, u "(Ljava/lang/String;)V"), (0, .methodref 13 24), (0, .nameAndType 25 6), (0, u "skip"), (0, .methodref 13 27), (0, .nameAndType 28 29), (0, u "peek"), (0, u "(C)Z"), (0, .methodref 13 31), (0, .nameAndType 32 33), (0, u "offset"), (0, u "()I"), (0, .class_ 35), (0, u "com/example/wirecall/wirecall/TextCursorPeekPinLaw"), (2, u "law"), (0, u "(III)Z")] 5

def k1m0 : Method := { name := "<init>", desc := "()V", sig := { parameters := [], returnType := none }, accessFlags := 1, code := none }
def k1c1 : Code := { maxStack := 5, maxLocals := 14, code := code, exceptionTable := #[], attributes := #[] }
def k1m1 : Method := { name := "law", desc := "(III)Z", sig := { parameters := [.int, .int, .int], returnType := some .boolean }, accessFlags := 9, code := some k1c1 }
/-- com/example/wirecall/wirecall/TextCursorPeekPinLaw -/
def k1 : Class := { plain "com/example/wirecall/wirecall/TextCursorPeekPinLaw" (some 0) with
  accessFlags := 49
  interfaces := #[]
  cf := some (fileOf pool1 34 #[] #[{ accessFlags := 1, nameIndex := 5, descriptorIndex := 6, attributes := #[] }, { accessFlags := 9, nameIndex := 38, descriptorIndex := 39, attributes := #[] }] 49 2 #[] #[])
  fields := #[]
  methods := #[k1m0, k1m1]
  instanceTypes := #[]
  staticTypes := #[]
  resolved := Array.replicate 45 none
  statics := none }

def pool2 : Array CpInfo := pool [(1, .methodref 2 3), (0, .class_ 4), (0, .nameAndType 5 6), (0, u "java/lang/Object"), (0, u "<init>"), (0, u "()V"), (0, .fieldref 8 9), (0, .class_ 10), (0, .nameAndType 11 12), (0, u "com/example/wirecall/wirecall/TextCursor"), (0, u "text"), (0, u "Ljava/lang/String;"), (0, .fieldref 8 14), (0, .nameAndType 15 16), (0, u "pos"), (0, u "I"), (0, .methodref 18 19), (0, .class_ 20), (0, .nameAndType 21 22), (0, u "java/lang/String"), (0, u "length"), (0, u "()I"), (0, .methodref 18 24), (0, .nameAndType 25 26), (0, u "charAt"), (0, u "(I)C"), (2, u "peek"), (0, u "(C)Z"), (46, u "skip"), (66, u "(Ljava/lang/String;)V"), (0, u "ESCAPES"), (1, u "ESCAPED"), (2, u "offset")] 34

def k2c0 : Code := { maxStack := 2, maxLocals := 2, code := prog_21_method_1_code, exceptionTable := #[], attributes := #[] }
def k2m0 : Method := { name := "<init>", desc := "(Ljava/lang/String;)V", sig := { parameters := [(.object "java/lang/String")], returnType := none }, accessFlags := 0, code := some k2c0 }
def k2c1 : Code := { maxStack := 1, maxLocals := 1, code := prog_21_method_2_code, exceptionTable := #[], attributes := #[] }
def k2m1 : Method := { name := "offset", desc := "()I", sig := { parameters := [], returnType := some .int }, accessFlags := 0, code := some k2c1 }
def k2c2 : Code := { maxStack := 2, maxLocals := 2, code := prog_21_method_4_code, exceptionTable := #[], attributes := #[] }
def k2m2 : Method := { name := "peek", desc := "(C)Z", sig := { parameters := [.char], returnType := some .boolean }, accessFlags := 0, code := some k2c2 }
def k2c3 : Code := { maxStack := 3, maxLocals := 1, code := prog_21_method_6_code, exceptionTable := #[], attributes := #[] }
def k2m3 : Method := { name := "skip", desc := "()V", sig := { parameters := [], returnType := none }, accessFlags := 0, code := some k2c3 }
/-- com/example/wirecall/wirecall/TextCursor -/
def k2 : Class := { plain "com/example/wirecall/wirecall/TextCursor" (some 0) with
  accessFlags := 48
  interfaces := #[]
  cf := some (fileOf pool2 8 #[] #[{ accessFlags := 0, nameIndex := 5, descriptorIndex := 144, attributes := #[] }, { accessFlags := 0, nameIndex := 150, descriptorIndex := 22, attributes := #[] }, { accessFlags := 0, nameIndex := 29, descriptorIndex := 30, attributes := #[] }, { accessFlags := 0, nameIndex := 77, descriptorIndex := 6, attributes := #[] }] 48 2 #[] #[{ accessFlags := 26, nameIndex := 145, descriptorIndex := 12, attributes := #[] }, { accessFlags := 26, nameIndex := 147, descriptorIndex := 12, attributes := #[] }, { accessFlags := 18, nameIndex := 11, descriptorIndex := 12, attributes := #[] }, { accessFlags := 2, nameIndex := 15, descriptorIndex := 16, attributes := #[] }])
  fields := #[{ name := "ESCAPES", type := (.object "java/lang/String"), accessFlags := 26, slot := 0, constantValue := 0 }, { name := "ESCAPED", type := (.object "java/lang/String"), accessFlags := 26, slot := 1, constantValue := 0 }, { name := "text", type := (.object "java/lang/String"), accessFlags := 18, slot := 0, constantValue := 0 }, { name := "pos", type := .int, accessFlags := 2, slot := 1, constantValue := 0 }]
  methods := #[k2m0, k2m1, k2m2, k2m3]
  instanceTypes := #[(.object "java/lang/String"), .int]
  staticTypes := #[(.object "java/lang/String"), (.object "java/lang/String")]
  resolved := Array.replicate 185 none
  statics := none }

def pool3 : Array CpInfo := pool [(1, .class_ 2), (0, u "java/io/Serializable"), (0, .class_ 4), (0, u "java/lang/Object")] 2

/-- java/io/Serializable -/
def k3 : Class := { plain "java/io/Serializable" (some 0) with
  accessFlags := 1537
  interfaces := #[]
  cf := some (fileOf pool3 1 #[] #[] 1537 3 #[] #[])
  fields := #[]
  methods := #[]
  instanceTypes := #[]
  staticTypes := #[]
  resolved := Array.replicate 7 none
  statics := none }

def pool4 : Array CpInfo := pool [(1, .class_ 2), (0, u "java/lang/Comparable"), (0, .class_ 4), (0, u "java/lang/Object")] 7

/-- java/lang/Comparable -/
def k4 : Class := { plain "java/lang/Comparable" (some 0) with
  accessFlags := 1537
  interfaces := #[]
  cf := some (fileOf pool4 1 #[] #[] 1537 3 #[] #[])
  fields := #[]
  methods := #[]
  instanceTypes := #[]
  staticTypes := #[]
  resolved := Array.replicate 12 none
  statics := none }

def pool5 : Array CpInfo := pool [(2, .class_ 4), (1, u "java/lang/CharSequence"), (42, .class_ 48), (0, u "java/lang/CharSequence$1CodePointIterator"), (10, .class_ 60), (0, u "java/lang/CharSequence$1CharIterator"), (5, .class_ 67), (0, u "java/lang/Object")] 63

/-- java/lang/CharSequence -/
def k5 : Class := { plain "java/lang/CharSequence" (some 0) with
  accessFlags := 1537
  interfaces := #[]
  cf := some (fileOf pool5 2 #[.nestMembers #[47, 59]] #[] 1537 66 #[] #[])
  fields := #[]
  methods := #[]
  instanceTypes := #[]
  staticTypes := #[]
  resolved := Array.replicate 131 none
  statics := none }

def pool6 : Array CpInfo := pool [(1, .class_ 2), (0, u "java/lang/constant/Constable"), (0, .class_ 4), (0, u "java/lang/Object")] 6

/-- java/lang/constant/Constable -/
def k6 : Class := { plain "java/lang/constant/Constable" (some 0) with
  accessFlags := 1537
  interfaces := #[]
  cf := some (fileOf pool6 1 #[] #[] 1537 3 #[] #[])
  fields := #[]
  methods := #[]
  instanceTypes := #[]
  staticTypes := #[]
  resolved := Array.replicate 11 none
  statics := none }

def pool7 : Array CpInfo := pool [(1, .class_ 2), (0, u "java/lang/constant/ConstantDesc"), (0, .class_ 4), (0, u "java/lang/Object")] 32

/-- java/lang/constant/ConstantDesc -/
def k7 : Class := { plain "java/lang/constant/ConstantDesc" (some 0) with
  accessFlags := 1537
  interfaces := #[]
  cf := some (fileOf pool7 1 #[] #[] 1537 3 #[] #[])
  fields := #[]
  methods := #[]
  instanceTypes := #[]
  staticTypes := #[]
  resolved := Array.replicate 37 none
  statics := none }

def pool8 : Array CpInfo := pool [(1, .methodref 2 3), (0, .class_ 4), (0, .nameAndType 5 6), (0, u "java/lang/Object"), (0, u "<init>"), (0, u "()V"), (0, .string 8), (0, u ""), (0, .fieldref 10 11), (0, .class_ 12), (0, .nameAndType 13 14), (0, u "java/lang/String"), (0, u "value"), (0, u "[B"), (0, .fieldref 10 16), (0, .nameAndType 17 18), (0, u "coder"), (0, u "B"), (2, u "hash"), (0, u "I"), (2, u "hashIsZero"), (0, u "Z"), (0, .methodref 10 28), (0, .nameAndType 5 29), (0, u "([CIILjava/lang/Void;)V"), (8, .fieldref 10 39), (0, .nameAndType 40 26), (0, u "COMPACT_STRINGS"), (1, .class_ 44), (1, u "java/lang/StringUTF16"), (0, u "compress"), (1, .methodref 42 48), (0, .nameAndType 49 50), (0, u "coderFromArrayLen"), (0, u "([BI)B"), (56, .class_ 109), (1, u "java/lang/StringLatin1"), (32, u "()Z"), (34, .methodref 42 178), (0, .nameAndType 45 179), (0, u "([CII)[B"), (154, u "()I"), (0, .methodref 10 336), (0, .nameAndType 17 337), (0, u "()B"), (25, u "([BI)C"), (27, u "(II)V"), (35, u "(I)C"), (64, .methodref 10 493), (0, .nameAndType 494 142), (0, u "isLatin1"), (0, .methodref 107 496), (0, .nameAndType 497 363), (0, u "charAt"), (3, u "checkIndex"), (5, u "length"), (67, .class_ 576), (0, u "java/lang/CharSequence"), (22, u "CASE_INSENSITIVE_ORDER"), (0, u "Ljava/util/Comparator;"), (409, u "([C)V"), (42, .fieldref 1054 1055), (0, .class_ 1056), (0, .nameAndType 1057 1058), (0, u "jdk/internal/util/Preconditions"), (0, u "SIOOBE_FORMATTER"), (0, u "Ljava/util/function/BiFunction;"), (0, .methodref 1054 1060), (0, .nameAndType 501 1061), (0, u "(IILjava/util/function/BiFunction;)I"), (39, u "serialPersistentFields"), (0, u "[Ljava/io/ObjectStreamField;"), (0, .class_ 1104), (0, u "java/lang/String$CaseInsensitiveComparator"), (1, .class_ 1107), (0, u "java/io/Serializable"), (0, .class_ 1109), (0, u "java/lang/Comparable"), (0, .class_ 1111), (0, u "java/lang/constant/Constable"), (0, .class_ 1113), (0, u "java/lang/constant/ConstantDesc"), (2, u "serialVersionUID"), (0, u "J"), (3, u "REPL"), (0, u "C"), (2, u "LATIN1"), (1, u "UTF16")] 323

def k8m0 : Method := { name := "<init>", desc := "()V", sig := { parameters := [], returnType := none }, accessFlags := 1, code := none }
def k8c1 : Code := { maxStack := 5, maxLocals := 2, code := jdk_42_method_3_code, exceptionTable := #[], attributes := #[] }
def k8m1 : Method := { name := "<init>", desc := "([C)V", sig := { parameters := [(.array .char)], returnType := none }, accessFlags := 1, code := some k8c1 }
def k8c2 : Code := { maxStack := 2, maxLocals := 1, code := jdk_42_method_54_code, exceptionTable := #[], attributes := #[] }
def k8m2 : Method := { name := "length", desc := "()I", sig := { parameters := [], returnType := some .int }, accessFlags := 1, code := some k8c2 }
def k8c3 : Code := { maxStack := 2, maxLocals := 2, code := jdk_42_method_56_code, exceptionTable := #[], attributes := #[] }
def k8m3 : Method := { name := "charAt", desc := "(I)C", sig := { parameters := [.int], returnType := some .char }, accessFlags := 1, code := some k8c3 }
def k8c4 : Code := { maxStack := 4, maxLocals := 6, code := jdk_42_method_149_code, exceptionTable := #[], attributes := #[] }
def k8m4 : Method := { name := "<init>", desc := "([CIILjava/lang/Void;)V", sig := { parameters := [(.array .char), .int, .int, (.object "java/lang/Void")], returnType := none }, accessFlags := 2, code := some k8c4 }
def k8c5 : Code := { maxStack := 1, maxLocals := 1, code := jdk_42_method_152_code, exceptionTable := #[], attributes := #[] }
def k8m5 : Method := { name := "coder", desc := "()B", sig := { parameters := [], returnType := some .byte }, accessFlags := 0, code := some k8c5 }
def k8c6 : Code := { maxStack := 1, maxLocals := 1, code := jdk_42_method_154_code, exceptionTable := #[], attributes := #[] }
def k8m6 : Method := { name := "isLatin1", desc := "()Z", sig := { parameters := [], returnType := some .boolean }, accessFlags := 0, code := some k8c6 }
def k8c7 : Code := { maxStack := 3, maxLocals := 2, code := jdk_42_method_155_code, exceptionTable := #[], attributes := #[] }
def k8m7 : Method := { name := "checkIndex", desc := "(II)V", sig := { parameters := [.int, .int], returnType := none }, accessFlags := 8, code := some k8c7 }
/-- java/lang/String -/
def k8 : Class := { plain "java/lang/String" (some 0) with
  accessFlags := 49
  interfaces := #[3, 4, 5, 6, 7]
  cf := some (fileOf pool8 10 #[.nestMembers #[1103]] #[{ accessFlags := 1, nameIndex := 5, descriptorIndex := 6, attributes := #[] }, { accessFlags := 1, nameIndex := 5, descriptorIndex := 1010, attributes := #[] }, { accessFlags := 1, nameIndex := 507, descriptorIndex := 334, attributes := #[] }, { accessFlags := 1, nameIndex := 497, descriptorIndex := 427, attributes := #[] }, { accessFlags := 2, nameIndex := 5, descriptorIndex := 29, attributes := #[] }, { accessFlags := 0, nameIndex := 17, descriptorIndex := 337, attributes := #[] }, { accessFlags := 0, nameIndex := 494, descriptorIndex := 142, attributes := #[] }, { accessFlags := 8, nameIndex := 501, descriptorIndex := 391, attributes := #[] }] 49 2 #[1106, 1108, 575, 1110, 1112] #[{ accessFlags := 18, nameIndex := 13, descriptorIndex := 14, attributes := #[] }, { accessFlags := 18, nameIndex := 17, descriptorIndex := 18, attributes := #[] }, { accessFlags := 2, nameIndex := 21, descriptorIndex := 22, attributes := #[] }, { accessFlags := 2, nameIndex := 25, descriptorIndex := 26, attributes := #[] }, { accessFlags := 26, nameIndex := 1116, descriptorIndex := 1117, attributes := #[] }, { accessFlags := 24, nameIndex := 40, descriptorIndex := 26, attributes := #[] }, { accessFlags := 26, nameIndex := 1101, descriptorIndex := 1102, attributes := #[] }, { accessFlags := 26, nameIndex := 1121, descriptorIndex := 1122, attributes := #[] }, { accessFlags := 25, nameIndex := 599, descriptorIndex := 600, attributes := #[] }, { accessFlags := 24, nameIndex := 1125, descriptorIndex := 18, attributes := #[] }, { accessFlags := 24, nameIndex := 1127, descriptorIndex := 18, attributes := #[] }])
  fields := #[{ name := "value", type := (.array .byte), accessFlags := 18, slot := 0, constantValue := 0 }, { name := "coder", type := .byte, accessFlags := 18, slot := 1, constantValue := 0 }, { name := "hash", type := .int, accessFlags := 2, slot := 2, constantValue := 0 }, { name := "hashIsZero", type := .boolean, accessFlags := 2, slot := 3, constantValue := 0 }, { name := "serialVersionUID", type := .long, accessFlags := 26, slot := 0, constantValue := 0 }, { name := "COMPACT_STRINGS", type := .boolean, accessFlags := 24, slot := 1, constantValue := 0 }, { name := "serialPersistentFields", type := (.array (.object "java/io/ObjectStreamField")), accessFlags := 26, slot := 2, constantValue := 0 }, { name := "REPL", type := .char, accessFlags := 26, slot := 3, constantValue := 0 }, { name := "CASE_INSENSITIVE_ORDER", type := (.object "java/util/Comparator"), accessFlags := 25, slot := 4, constantValue := 0 }, { name := "LATIN1", type := .byte, accessFlags := 24, slot := 5, constantValue := 0 }, { name := "UTF16", type := .byte, accessFlags := 24, slot := 6, constantValue := 0 }]
  methods := #[k8m0, k8m1, k8m2, k8m3, k8m4, k8m5, k8m6, k8m7]
  instanceTypes := #[(.array .byte), .byte, .int, .boolean]
  staticTypes := #[.long, .boolean, (.array (.object "java/io/ObjectStreamField")), .char, (.object "java/util/Comparator"), .byte, .byte]
  resolved := Array.replicate 1451 none
  statics := some 0 }

def pool9 : Array CpInfo := pool [(6, .class_ 8), (1, u "java/lang/Object"), (0, u "<init>"), (0, u "()V"), (1, .class_ 14), (1, u "java/lang/StringUTF16"), (31, u "$assertionsDisabled"), (0, u "Z"), (13, u "HI_BYTE_SHIFT"), (0, u "I"), (2, u "LO_BYTE_SHIFT"), (49, .methodref 12 116), (0, .nameAndType 117 118), (0, u "compress"), (0, u "([CI[BII)I"), (3, u "([CII)[B"), (138, u "coderFromArrayLen"), (0, u "([BI)B"), (106, .class_ 371), (1, u "java/lang/StringUTF16$LinesSpliterator"), (58, u "MAX_LENGTH"), (196, .class_ 628), (0, u "java/lang/StringUTF16$CodePointsSpliterator"), (0, .class_ 630), (0, u "java/lang/StringUTF16$CharsSpliterator")] 4

def k9m0 : Method := { name := "<init>", desc := "()V", sig := { parameters := [], returnType := none }, accessFlags := 0, code := none }
def k9c1 : Code := { maxStack := 2, maxLocals := 2, code := jdk_52_method_15_code, exceptionTable := #[], attributes := #[] }
def k9m1 : Method := { name := "coderFromArrayLen", desc := "([BI)B", sig := { parameters := [(.array .byte), .int], returnType := some .byte }, accessFlags := 8, code := some k9c1 }
def k9c2 : Code := { maxStack := 5, maxLocals := 6, code := jdk_52_method_16_code, exceptionTable := #[], attributes := #[] }
def k9m2 : Method := { name := "compress", desc := "([CII)[B", sig := { parameters := [(.array .char), .int, .int], returnType := some (.array .byte) }, accessFlags := 9, code := some k9c2 }
def k9c3 : Code := { maxStack := 3, maxLocals := 7, code := jdk_52_method_21_code, exceptionTable := #[], attributes := #[] }
def k9m3 : Method := { name := "compress", desc := "([CI[BII)I", sig := { parameters := [(.array .char), .int, (.array .byte), .int, .int], returnType := some .int }, accessFlags := 9, code := some k9c3 }
/-- java/lang/StringUTF16 -/
def k9 : Class := { plain "java/lang/StringUTF16" (some 0) with
  accessFlags := 48
  interfaces := #[]
  cf := some (fileOf pool9 12 #[.nestMembers #[627, 629, 369]] #[{ accessFlags := 0, nameIndex := 9, descriptorIndex := 10, attributes := #[] }, { accessFlags := 8, nameIndex := 261, descriptorIndex := 262, attributes := #[] }, { accessFlags := 9, nameIndex := 117, descriptorIndex := 122, attributes := #[] }, { accessFlags := 9, nameIndex := 117, descriptorIndex := 118, attributes := #[] }] 48 6 #[] #[{ accessFlags := 26, nameIndex := 61, descriptorIndex := 62, attributes := #[] }, { accessFlags := 26, nameIndex := 65, descriptorIndex := 62, attributes := #[] }, { accessFlags := 24, nameIndex := 430, descriptorIndex := 62, attributes := #[] }, { accessFlags := 4120, nameIndex := 46, descriptorIndex := 47, attributes := #[] }])
  fields := #[{ name := "HI_BYTE_SHIFT", type := .int, accessFlags := 26, slot := 0, constantValue := 0 }, { name := "LO_BYTE_SHIFT", type := .int, accessFlags := 26, slot := 1, constantValue := 0 }, { name := "MAX_LENGTH", type := .int, accessFlags := 24, slot := 2, constantValue := 0 }, { name := "$assertionsDisabled", type := .boolean, accessFlags := 4120, slot := 3, constantValue := 0 }]
  methods := #[k9m0, k9m1, k9m2, k9m3]
  instanceTypes := #[]
  staticTypes := #[.int, .int, .int, .boolean]
  resolved := Array.replicate 635 none
  statics := none }

def pool10 : Array CpInfo := pool [(1, .class_ 2), (0, u "java/lang/String"), (1, .class_ 6), (1, u "java/lang/Object"), (0, u "<init>"), (0, u "()V"), (0, .methodref 1 10), (0, .nameAndType 11 12), (0, u "checkIndex"), (0, u "(II)V"), (1, .class_ 16), (1, u "java/lang/StringLatin1"), (36, u "([BI)C"), (67, u "$assertionsDisabled"), (0, u "Z"), (98, .class_ 223), (1, u "java/lang/StringLatin1$LinesSpliterator"), (28, u "charAt"), (137, .class_ 391), (0, u "java/lang/StringLatin1$CharsSpliterator")] 3

def k10m0 : Method := { name := "<init>", desc := "()V", sig := { parameters := [], returnType := none }, accessFlags := 0, code := none }
def k10c1 : Code := { maxStack := 2, maxLocals := 2, code := jdk_43_method_2_code, exceptionTable := #[], attributes := #[] }
def k10m1 : Method := { name := "charAt", desc := "([BI)C", sig := { parameters := [(.array .byte), .int], returnType := some .char }, accessFlags := 9, code := some k10c1 }
/-- java/lang/StringLatin1 -/
def k10 : Class := { plain "java/lang/StringLatin1" (some 0) with
  accessFlags := 48
  interfaces := #[]
  cf := some (fileOf pool10 14 #[.nestMembers #[390, 221]] #[{ accessFlags := 0, nameIndex := 7, descriptorIndex := 8, attributes := #[] }, { accessFlags := 9, nameIndex := 252, descriptorIndex := 53, attributes := #[] }] 48 4 #[] #[{ accessFlags := 4120, nameIndex := 121, descriptorIndex := 122, attributes := #[] }])
  fields := #[{ name := "$assertionsDisabled", type := .boolean, accessFlags := 4120, slot := 0, constantValue := 0 }]
  methods := #[k10m0, k10m1]
  instanceTypes := #[]
  staticTypes := #[.boolean]
  resolved := Array.replicate 395 none
  statics := none }

def pool11 : Array CpInfo := pool [(2, .class_ 4), (1, u "java/lang/Object"), (0, u "<init>"), (0, u "()V"), (17, .class_ 26), (1, u "jdk/internal/util/Preconditions"), (6, u "checkIndex"), (21, .class_ 56), (0, u "jdk/internal/util/Preconditions$4"), (57, .class_ 115), (0, u "jdk/internal/util/Preconditions$1"), (7, u "SIOOBE_FORMATTER"), (0, u "Ljava/util/function/BiFunction;"), (0, .class_ 126), (0, u "jdk/internal/util/Preconditions$2"), (3, u "AIOOBE_FORMATTER"), (0, .class_ 132), (0, u "jdk/internal/util/Preconditions$3"), (3, u "IOOBE_FORMATTER"), (41, u "(IILjava/util/function/BiFunction;)I")] 15

def k11m0 : Method := { name := "<init>", desc := "()V", sig := { parameters := [], returnType := none }, accessFlags := 1, code := none }
def k11c1 : Code := { maxStack := 3, maxLocals := 3, code := jdk_41_method_11_code, exceptionTable := #[], attributes := #[] }
def k11m1 : Method := { name := "checkIndex", desc := "(IILjava/util/function/BiFunction;)I", sig := { parameters := [.int, .int, (.object "java/util/function/BiFunction")], returnType := some .int }, accessFlags := 9, code := some k11c1 }
/-- jdk/internal/util/Preconditions -/
def k11 : Class := { plain "jdk/internal/util/Preconditions" (some 0) with
  accessFlags := 33
  interfaces := #[]
  cf := some (fileOf pool11 24 #[.nestMembers #[55, 131, 125, 114]] #[{ accessFlags := 1, nameIndex := 5, descriptorIndex := 6, attributes := #[] }, { accessFlags := 9, nameIndex := 33, descriptorIndex := 178, attributes := #[] }] 33 2 #[] #[{ accessFlags := 25, nameIndex := 123, descriptorIndex := 124, attributes := #[] }, { accessFlags := 25, nameIndex := 130, descriptorIndex := 124, attributes := #[] }, { accessFlags := 25, nameIndex := 136, descriptorIndex := 124, attributes := #[] }])
  fields := #[{ name := "SIOOBE_FORMATTER", type := (.object "java/util/function/BiFunction"), accessFlags := 25, slot := 0, constantValue := 0 }, { name := "AIOOBE_FORMATTER", type := (.object "java/util/function/BiFunction"), accessFlags := 25, slot := 1, constantValue := 0 }, { name := "IOOBE_FORMATTER", type := (.object "java/util/function/BiFunction"), accessFlags := 25, slot := 2, constantValue := 0 }]
  methods := #[k11m0, k11m1]
  instanceTypes := #[]
  staticTypes := #[(.object "java/util/function/BiFunction"), (.object "java/util/function/BiFunction"), (.object "java/util/function/BiFunction")]
  resolved := Array.replicate 194 none
  statics := some 1 }

def pool12 : Array CpInfo := pool [(1, .class_ 2), (0, u "java/lang/Math"), (1, .class_ 6), (1, u "java/lang/Object"), (0, u "<init>"), (0, u "()V"), (89, .class_ 100), (1, u "java/lang/Math$RandomNumberGeneratorHolder"), (71, u "negativeZeroFloatBits"), (0, u "J"), (2, u "negativeZeroDoubleBits"), (24, u "min"), (43, u "$assertionsDisabled"), (0, u "Z"), (88, u "(II)I"), (2, u "twoToTheDoubleScaleDown"), (0, u "D"), (4, u "twoToTheDoubleScaleUp"), (9, u "E"), (3, u "PI"), (2, u "TAU"), (2, u "DEGREES_TO_RADIANS"), (0, u "RADIANS_TO_DEGREES")] 94

def k12m0 : Method := { name := "<init>", desc := "()V", sig := { parameters := [], returnType := none }, accessFlags := 2, code := none }
def k12c1 : Code := { maxStack := 2, maxLocals := 2, code := jdk_29_method_69_code, exceptionTable := #[], attributes := #[] }
def k12m1 : Method := { name := "min", desc := "(II)I", sig := { parameters := [.int, .int], returnType := some .int }, accessFlags := 9, code := some k12c1 }
/-- java/lang/Math -/
def k12 : Class := { plain "java/lang/Math" (some 0) with
  accessFlags := 49
  interfaces := #[]
  cf := some (fileOf pool12 1 #[.nestMembers #[98]] #[{ accessFlags := 2, nameIndex := 7, descriptorIndex := 8, attributes := #[] }, { accessFlags := 9, nameIndex := 201, descriptorIndex := 335, attributes := #[] }] 49 4 #[] #[{ accessFlags := 25, nameIndex := 354, descriptorIndex := 339, attributes := #[] }, { accessFlags := 25, nameIndex := 358, descriptorIndex := 339, attributes := #[] }, { accessFlags := 25, nameIndex := 361, descriptorIndex := 339, attributes := #[] }, { accessFlags := 26, nameIndex := 364, descriptorIndex := 339, attributes := #[] }, { accessFlags := 26, nameIndex := 365, descriptorIndex := 339, attributes := #[] }, { accessFlags := 26, nameIndex := 172, descriptorIndex := 173, attributes := #[] }, { accessFlags := 26, nameIndex := 176, descriptorIndex := 173, attributes := #[] }, { accessFlags := 8, nameIndex := 344, descriptorIndex := 339, attributes := #[] }, { accessFlags := 8, nameIndex := 338, descriptorIndex := 339, attributes := #[] }, { accessFlags := 4120, nameIndex := 245, descriptorIndex := 246, attributes := #[] }])
  fields := #[{ name := "E", type := .double, accessFlags := 25, slot := 0, constantValue := 0 }, { name := "PI", type := .double, accessFlags := 25, slot := 1, constantValue := 0 }, { name := "TAU", type := .double, accessFlags := 25, slot := 2, constantValue := 0 }, { name := "DEGREES_TO_RADIANS", type := .double, accessFlags := 26, slot := 3, constantValue := 0 }, { name := "RADIANS_TO_DEGREES", type := .double, accessFlags := 26, slot := 4, constantValue := 0 }, { name := "negativeZeroFloatBits", type := .long, accessFlags := 26, slot := 5, constantValue := 0 }, { name := "negativeZeroDoubleBits", type := .long, accessFlags := 26, slot := 6, constantValue := 0 }, { name := "twoToTheDoubleScaleUp", type := .double, accessFlags := 8, slot := 7, constantValue := 0 }, { name := "twoToTheDoubleScaleDown", type := .double, accessFlags := 8, slot := 8, constantValue := 0 }, { name := "$assertionsDisabled", type := .boolean, accessFlags := 4120, slot := 9, constantValue := 0 }]
  methods := #[k12m0, k12m1]
  instanceTypes := #[]
  staticTypes := #[.double, .double, .double, .double, .double, .long, .long, .double, .double, .boolean]
  resolved := Array.replicate 460 none
  statics := none }

def pool13 : Array CpInfo := pool [(9, u "<init>"), (6, .class_ 18), (1, u "java/lang/Object"), (0, u "()V"), (1, .class_ 23), (1, u "jdk/internal/util/ArraysSupport"), (0, u "LOG2_ARRAY_LONG_INDEX_SCALE"), (0, u "I"), (2, u "U"), (0, u "Ljdk/internal/misc/Unsafe;"), (8, u "BIG_ENDIAN"), (0, u "Z"), (8, u "LOG2_BYTE_BIT_SIZE"), (4, u "LOG2_ARRAY_INT_INDEX_SCALE"), (54, u "JLA"), (0, u "Ljdk/internal/access/JavaLangAccess;"), (11, u "LOG2_ARRAY_BOOLEAN_INDEX_SCALE"), (9, u "LOG2_ARRAY_BYTE_INDEX_SCALE"), (5, u "LOG2_ARRAY_CHAR_INDEX_SCALE"), (5, u "LOG2_ARRAY_SHORT_INDEX_SCALE"), (18, u "LOG2_ARRAY_FLOAT_INDEX_SCALE"), (24, u "LOG2_ARRAY_DOUBLE_INDEX_SCALE"), (89, u "T_BOOLEAN"), (2, u "T_CHAR"), (1, u "T_FLOAT"), (1, u "T_DOUBLE"), (1, u "T_BYTE"), (1, u "T_SHORT"), (1, u "T_INT"), (1, u "T_LONG"), (1, u "SOFT_MAX_ARRAY_LENGTH")] 83

def k13m0 : Method := { name := "<init>", desc := "()V", sig := { parameters := [], returnType := none }, accessFlags := 2, code := none }
/-- jdk/internal/util/ArraysSupport -/
def k13 : Class := { plain "jdk/internal/util/ArraysSupport" (some 0) with
  accessFlags := 33
  interfaces := #[]
  cf := some (fileOf pool13 21 #[] #[{ accessFlags := 2, nameIndex := 9, descriptorIndex := 19, attributes := #[] }] 33 16 #[] #[{ accessFlags := 24, nameIndex := 28, descriptorIndex := 29, attributes := #[] }, { accessFlags := 26, nameIndex := 38, descriptorIndex := 39, attributes := #[] }, { accessFlags := 25, nameIndex := 121, descriptorIndex := 25, attributes := #[] }, { accessFlags := 25, nameIndex := 131, descriptorIndex := 25, attributes := #[] }, { accessFlags := 25, nameIndex := 137, descriptorIndex := 25, attributes := #[] }, { accessFlags := 25, nameIndex := 143, descriptorIndex := 25, attributes := #[] }, { accessFlags := 25, nameIndex := 53, descriptorIndex := 25, attributes := #[] }, { accessFlags := 25, nameIndex := 24, descriptorIndex := 25, attributes := #[] }, { accessFlags := 25, nameIndex := 162, descriptorIndex := 25, attributes := #[] }, { accessFlags := 25, nameIndex := 187, descriptorIndex := 25, attributes := #[] }, { accessFlags := 26, nameIndex := 48, descriptorIndex := 25, attributes := #[] }, { accessFlags := 25, nameIndex := 277, descriptorIndex := 25, attributes := #[] }, { accessFlags := 25, nameIndex := 280, descriptorIndex := 25, attributes := #[] }, { accessFlags := 25, nameIndex := 282, descriptorIndex := 25, attributes := #[] }, { accessFlags := 25, nameIndex := 284, descriptorIndex := 25, attributes := #[] }, { accessFlags := 25, nameIndex := 286, descriptorIndex := 25, attributes := #[] }, { accessFlags := 25, nameIndex := 288, descriptorIndex := 25, attributes := #[] }, { accessFlags := 25, nameIndex := 290, descriptorIndex := 25, attributes := #[] }, { accessFlags := 25, nameIndex := 292, descriptorIndex := 25, attributes := #[] }, { accessFlags := 26, nameIndex := 108, descriptorIndex := 109, attributes := #[] }, { accessFlags := 25, nameIndex := 294, descriptorIndex := 25, attributes := #[] }])
  fields := #[{ name := "U", type := (.object "jdk/internal/misc/Unsafe"), accessFlags := 24, slot := 0, constantValue := 0 }, { name := "BIG_ENDIAN", type := .boolean, accessFlags := 26, slot := 1, constantValue := 0 }, { name := "LOG2_ARRAY_BOOLEAN_INDEX_SCALE", type := .int, accessFlags := 25, slot := 2, constantValue := 0 }, { name := "LOG2_ARRAY_BYTE_INDEX_SCALE", type := .int, accessFlags := 25, slot := 3, constantValue := 0 }, { name := "LOG2_ARRAY_CHAR_INDEX_SCALE", type := .int, accessFlags := 25, slot := 4, constantValue := 0 }, { name := "LOG2_ARRAY_SHORT_INDEX_SCALE", type := .int, accessFlags := 25, slot := 5, constantValue := 0 }, { name := "LOG2_ARRAY_INT_INDEX_SCALE", type := .int, accessFlags := 25, slot := 6, constantValue := 0 }, { name := "LOG2_ARRAY_LONG_INDEX_SCALE", type := .int, accessFlags := 25, slot := 7, constantValue := 0 }, { name := "LOG2_ARRAY_FLOAT_INDEX_SCALE", type := .int, accessFlags := 25, slot := 8, constantValue := 0 }, { name := "LOG2_ARRAY_DOUBLE_INDEX_SCALE", type := .int, accessFlags := 25, slot := 9, constantValue := 0 }, { name := "LOG2_BYTE_BIT_SIZE", type := .int, accessFlags := 26, slot := 10, constantValue := 0 }, { name := "T_BOOLEAN", type := .int, accessFlags := 25, slot := 11, constantValue := 0 }, { name := "T_CHAR", type := .int, accessFlags := 25, slot := 12, constantValue := 0 }, { name := "T_FLOAT", type := .int, accessFlags := 25, slot := 13, constantValue := 0 }, { name := "T_DOUBLE", type := .int, accessFlags := 25, slot := 14, constantValue := 0 }, { name := "T_BYTE", type := .int, accessFlags := 25, slot := 15, constantValue := 0 }, { name := "T_SHORT", type := .int, accessFlags := 25, slot := 16, constantValue := 0 }, { name := "T_INT", type := .int, accessFlags := 25, slot := 17, constantValue := 0 }, { name := "T_LONG", type := .int, accessFlags := 25, slot := 18, constantValue := 0 }, { name := "JLA", type := (.object "jdk/internal/access/JavaLangAccess"), accessFlags := 26, slot := 19, constantValue := 0 }, { name := "SOFT_MAX_ARRAY_LENGTH", type := .int, accessFlags := 25, slot := 20, constantValue := 0 }]
  methods := #[k13m0]
  instanceTypes := #[]
  staticTypes := #[(.object "jdk/internal/misc/Unsafe"), .boolean, .int, .int, .int, .int, .int, .int, .int, .int, .int, .int, .int, .int, .int, .int, .int, .int, .int, (.object "jdk/internal/access/JavaLangAccess"), .int]
  resolved := Array.replicate 378 none
  statics := none }

def pool14 : Array CpInfo := pool [(1, u "java/lang/Cloneable"), (0, .class_ 1), (0, u "java/lang/Object"), (0, .class_ 3)] 3

/-- java/lang/Cloneable -/
def k14 : Class := { plain "java/lang/Cloneable" (some 0) with
  accessFlags := 1537
  interfaces := #[]
  cf := some (fileOf pool14 2 #[] #[] 1537 4 #[] #[])
  fields := #[]
  methods := #[]
  instanceTypes := #[]
  staticTypes := #[]
  resolved := Array.replicate 8 none
  statics := none }

/-- the primitive byte -/
def k15 : Class := { plain "byte" none with kind := .primitive 'B', accessFlags := 0x411 }
/-- [B -/
def k16 : Class := { plain "[B" (some 0) with kind := .array 15 .byte, interfaces := #[14, 3], accessFlags := 1041 }

/-- the primitive char -/
def k17 : Class := { plain "char" none with kind := .primitive 'C', accessFlags := 0x411 }
/-- [C -/
def k18 : Class := { plain "[C" (some 0) with kind := .array 17 .char, interfaces := #[14, 3], accessFlags := 1041 }

def heap : Heap := #[{ cls := 8, slots := #[.long 0, .int 1, .null, .int 0, .null, .int 0, .int 0], vm := .statics 8 },
  { cls := 11, slots := #[.null, .null, .null], vm := .statics 11 }]
def classes : Array Class := #[k0, k1, k2, k3, k4, k5, k6, k7, k8, k9, k10, k11, k12, k13, k14, k15, k16, k17, k18]
def interned : List (Array UInt16 × Addr) := []
def slotsUsed : Nat := 10
def theMethod : MethodId := ⟨1, 1⟩
def args0 : Array Value := #[.int 5, .int 6, .int 7]
def aboutOver (below : List Frame) : State where
  vm := { classes := classes, interned := interned.toArray }
  heap := heap
  slotsUsed := slotsUsed
  threads := #[{ frames := .invoking theMethod args0 :: below }]
def below0 : List Frame := [.native { method := ⟨0, 0⟩, args := #[] }]
def about1 : State := aboutOver below0
def p0 : Program := .bare "" "" ""
def e0 : Env := launch0.env 0 0 0
theorem w_frames : about1.frames = Frame.invoking theMethod args0 :: below0 := rfl
set_option maxRecDepth 65536 in
theorem w_args : argsFit about1.vm theMethod args0 = true := by decide +kernel
set_option maxRecDepth 65536 in
theorem w_heap : heapFits about1 = true := by decide +kernel
set_option maxRecDepth 65536 in
theorem w_runnable : about1.curStatus? = some .runnable := by decide +kernel
set_option maxRecDepth 65536 in
theorem w_alone : about1.alone = true := by decide +kernel
set_option maxRecDepth 65536 in
theorem w_named : about1.methodNamed? x = some theMethod := by decide +kernel
set_option maxRecDepth 65536 in
theorem w_hears : about1.hears theMethod below0 = true := by decide +kernel
set_option maxRecDepth 65536 in
theorem w_ripe : about1.ripe theMethod args0 below0 = true := by decide +kernel
theorem w_running : about1.status = .running := rfl
set_option maxRecDepth 65536 in
theorem w_room : about1.hasRoom e0.platform room_1 = true :=
  launch0.hasRoom_least _ room_1 (by decide +kernel) (by decide +kernel) (by decide +kernel) (by decide +kernel) (by decide +kernel) (by decide +kernel)
theorem allAtoms_all (ts : List Jvm.Cond) (a : Array Jvm.Value) (st : Jvm.State) : (allAtoms ts).before a st = ts.all (fun c => c.before a st) := by
  induction ts with
  | nil => rfl
  | cons c t ih =>
    show (Jvm.Cond.and c (allAtoms t)).before a st = _
    rw [Jvm.Cond.before_and, ih, List.all_cons]
def words1 : List Jvm.Cond := Jvm.Cond.code x code maxLocals ret :: tables_1
/-- a 'code' word, met by the world's own term for the bytes: nothing is compared byte by byte -/
theorem code_word {y : MethodName} {bytes : ByteArray} {mx : Nat} {rt : Option FieldType} {a : Array Value} {s : State} {m : MethodId} {meth : Method} {c : Code} (h1 : s.methodNamed? y = some m) (h2 : s.vm.method? m = some meth) (h3 : meth.code = some c) (h4 : c.code = bytes)
    (h5 : (c.maxLocals == mx && c.exceptionTable.isEmpty && decide (c.maxStack ≤ mostOperands) && decide (meth.sig.returnType = rt) && !meth.locks && decide (parseMethodDescriptor y.desc = some meth.sig)) = true) : (Jvm.Cond.code y bytes mx rt).before a s = true := by
  simp only [Bool.and_eq_true, beq_iff_eq, Bool.not_eq_true', decide_eq_true_eq] at h5
  obtain ⟨⟨⟨⟨⟨g1, g2⟩, g3⟩, g4⟩, g5⟩, g6⟩ := h5
  simp [Cond.before, Cond.holds, Cond.value, h1, h2, h3, h4, g1, g2, g3, g4, g5, g6]
def isCode : Jvm.Cond → Bool
  | .code _ _ _ _ => true
  | _ => false
theorem all_split {L : List Jvm.Cond} {P : Jvm.Cond → Bool} (h1 : L.all (fun c => isCode c || P c) = true) (h2 : ∀ c ∈ L.filter isCode, P c = true) : L.all P = true := by
  refine List.all_eq_true.mpr fun c hc => ?_
  have h := List.all_eq_true.mp h1 c hc
  rcases Bool.eq_false_or_eq_true (isCode c) with hi | hi
  · exact h2 c (List.mem_filter.mpr ⟨hc, hi⟩)
  · simpa [hi] using h
set_option maxRecDepth 65536 in
theorem w_c0 : (Jvm.Cond.code x code maxLocals ret).before args0 about1 = true := code_word (m := ⟨1, 1⟩) (meth := k1m1) (c := k1c1) (by decide +kernel) rfl rfl rfl (by decide +kernel)
set_option maxRecDepth 65536 in
theorem w_c1 : (Jvm.Cond.code ({ cls := "java/lang/String", name := "<init>", desc := "([C)V" } : Jvm.MethodName) jdk_42_method_3_code (2 : Nat) (Option.none : Option Jvm.ClassFile.FieldType)).before args0 about1 = true := code_word (m := ⟨8, 1⟩) (meth := k8m1) (c := k8c1) (by decide +kernel) rfl rfl rfl (by decide +kernel)
set_option maxRecDepth 65536 in
theorem w_c2 : (Jvm.Cond.code ({ cls := "java/lang/String", name := "<init>", desc := "([CIILjava/lang/Void;)V" } : Jvm.MethodName) jdk_42_method_149_code (6 : Nat) (Option.none : Option Jvm.ClassFile.FieldType)).before args0 about1 = true := code_word (m := ⟨8, 4⟩) (meth := k8m4) (c := k8c4) (by decide +kernel) rfl rfl rfl (by decide +kernel)
set_option maxRecDepth 65536 in
theorem w_c3 : (Jvm.Cond.code ({ cls := "java/lang/Object", name := "<init>", desc := "()V" } : Jvm.MethodName) object_method_1_code (1 : Nat) (Option.none : Option Jvm.ClassFile.FieldType)).before args0 about1 = true := code_word (m := ⟨0, 0⟩) (meth := k0m0) (c := k0c0) (by decide +kernel) rfl rfl rfl (by decide +kernel)
set_option maxRecDepth 65536 in
theorem w_c4 : (Jvm.Cond.code ({ cls := "java/lang/StringUTF16", name := "compress", desc := "([CII)[B" } : Jvm.MethodName) jdk_52_method_16_code (6 : Nat) (Option.some (Jvm.ClassFile.FieldType.array Jvm.ClassFile.FieldType.byte))).before args0 about1 = true := code_word (m := ⟨9, 2⟩) (meth := k9m2) (c := k9c2) (by decide +kernel) rfl rfl rfl (by decide +kernel)
set_option maxRecDepth 65536 in
theorem w_c5 : (Jvm.Cond.code ({ cls := "java/lang/StringUTF16", name := "compress", desc := "([CI[BII)I" } : Jvm.MethodName) jdk_52_method_21_code (7 : Nat) (Option.some Jvm.ClassFile.FieldType.int)).before args0 about1 = true := code_word (m := ⟨9, 3⟩) (meth := k9m3) (c := k9c3) (by decide +kernel) rfl rfl rfl (by decide +kernel)
set_option maxRecDepth 65536 in
theorem w_c6 : (Jvm.Cond.code ({ cls := "java/lang/StringUTF16", name := "coderFromArrayLen", desc := "([BI)B" } : Jvm.MethodName) jdk_52_method_15_code (2 : Nat) (Option.some Jvm.ClassFile.FieldType.byte)).before args0 about1 = true := code_word (m := ⟨9, 1⟩) (meth := k9m1) (c := k9c1) (by decide +kernel) rfl rfl rfl (by decide +kernel)
set_option maxRecDepth 65536 in
theorem w_c7 : (Jvm.Cond.code ({ cls := "com/example/wirecall/wirecall/TextCursor", name := "<init>", desc := "(Ljava/lang/String;)V" } : Jvm.MethodName) prog_21_method_1_code (2 : Nat) (Option.none : Option Jvm.ClassFile.FieldType)).before args0 about1 = true := code_word (m := ⟨2, 0⟩) (meth := k2m0) (c := k2c0) (by decide +kernel) rfl rfl rfl (by decide +kernel)
set_option maxRecDepth 65536 in
theorem w_c8 : (Jvm.Cond.code ({ cls := "com/example/wirecall/wirecall/TextCursor", name := "peek", desc := "(C)Z" } : Jvm.MethodName) prog_21_method_4_code (2 : Nat) (Option.some Jvm.ClassFile.FieldType.boolean)).before args0 about1 = true := code_word (m := ⟨2, 2⟩) (meth := k2m2) (c := k2c2) (by decide +kernel) rfl rfl rfl (by decide +kernel)
set_option maxRecDepth 65536 in
theorem w_c9 : (Jvm.Cond.code ({ cls := "java/lang/String", name := "length", desc := "()I" } : Jvm.MethodName) jdk_42_method_54_code (1 : Nat) (Option.some Jvm.ClassFile.FieldType.int)).before args0 about1 = true := code_word (m := ⟨8, 2⟩) (meth := k8m2) (c := k8c2) (by decide +kernel) rfl rfl rfl (by decide +kernel)
set_option maxRecDepth 65536 in
theorem w_c10 : (Jvm.Cond.code ({ cls := "java/lang/String", name := "coder", desc := "()B" } : Jvm.MethodName) jdk_42_method_152_code (1 : Nat) (Option.some Jvm.ClassFile.FieldType.byte)).before args0 about1 = true := code_word (m := ⟨8, 5⟩) (meth := k8m5) (c := k8c5) (by decide +kernel) rfl rfl rfl (by decide +kernel)
set_option maxRecDepth 65536 in
theorem w_c11 : (Jvm.Cond.code ({ cls := "java/lang/String", name := "charAt", desc := "(I)C" } : Jvm.MethodName) jdk_42_method_56_code (2 : Nat) (Option.some Jvm.ClassFile.FieldType.char)).before args0 about1 = true := code_word (m := ⟨8, 3⟩) (meth := k8m3) (c := k8c3) (by decide +kernel) rfl rfl rfl (by decide +kernel)
set_option maxRecDepth 65536 in
theorem w_c12 : (Jvm.Cond.code ({ cls := "java/lang/String", name := "isLatin1", desc := "()Z" } : Jvm.MethodName) jdk_42_method_154_code (1 : Nat) (Option.some Jvm.ClassFile.FieldType.boolean)).before args0 about1 = true := code_word (m := ⟨8, 6⟩) (meth := k8m6) (c := k8c6) (by decide +kernel) rfl rfl rfl (by decide +kernel)
set_option maxRecDepth 65536 in
theorem w_c13 : (Jvm.Cond.code ({ cls := "java/lang/StringLatin1", name := "charAt", desc := "([BI)C" } : Jvm.MethodName) jdk_43_method_2_code (2 : Nat) (Option.some Jvm.ClassFile.FieldType.char)).before args0 about1 = true := code_word (m := ⟨10, 1⟩) (meth := k10m1) (c := k10c1) (by decide +kernel) rfl rfl rfl (by decide +kernel)
set_option maxRecDepth 65536 in
theorem w_c14 : (Jvm.Cond.code ({ cls := "java/lang/String", name := "checkIndex", desc := "(II)V" } : Jvm.MethodName) jdk_42_method_155_code (2 : Nat) (Option.none : Option Jvm.ClassFile.FieldType)).before args0 about1 = true := code_word (m := ⟨8, 7⟩) (meth := k8m7) (c := k8c7) (by decide +kernel) rfl rfl rfl (by decide +kernel)
set_option maxRecDepth 65536 in
theorem w_c15 : (Jvm.Cond.code ({ cls := "jdk/internal/util/Preconditions", name := "checkIndex", desc := "(IILjava/util/function/BiFunction;)I" } : Jvm.MethodName) jdk_41_method_11_code (3 : Nat) (Option.some Jvm.ClassFile.FieldType.int)).before args0 about1 = true := code_word (m := ⟨11, 1⟩) (meth := k11m1) (c := k11c1) (by decide +kernel) rfl rfl rfl (by decide +kernel)
set_option maxRecDepth 65536 in
theorem w_c16 : (Jvm.Cond.code ({ cls := "com/example/wirecall/wirecall/TextCursor", name := "offset", desc := "()I" } : Jvm.MethodName) prog_21_method_2_code (1 : Nat) (Option.some Jvm.ClassFile.FieldType.int)).before args0 about1 = true := code_word (m := ⟨2, 1⟩) (meth := k2m1) (c := k2c1) (by decide +kernel) rfl rfl rfl (by decide +kernel)
set_option maxRecDepth 65536 in
theorem w_c17 : (Jvm.Cond.code ({ cls := "com/example/wirecall/wirecall/TextCursor", name := "skip", desc := "()V" } : Jvm.MethodName) prog_21_method_6_code (1 : Nat) (Option.none : Option Jvm.ClassFile.FieldType)).before args0 about1 = true := code_word (m := ⟨2, 3⟩) (meth := k2m3) (c := k2c3) (by decide +kernel) rfl rfl rfl (by decide +kernel)
set_option maxRecDepth 65536 in
theorem w_c18 : (Jvm.Cond.code ({ cls := "java/lang/Math", name := "min", desc := "(II)I" } : Jvm.MethodName) jdk_29_method_69_code (2 : Nat) (Option.some Jvm.ClassFile.FieldType.int)).before args0 about1 = true := code_word (m := ⟨12, 1⟩) (meth := k12m1) (c := k12c1) (by decide +kernel) rfl rfl rfl (by decide +kernel)
def codes1 : List Jvm.Cond := [Jvm.Cond.code x code maxLocals ret, Jvm.Cond.code ({ cls := "java/lang/String", name := "<init>", desc := "([C)V" } : Jvm.MethodName) jdk_42_method_3_code (2 : Nat) (Option.none : Option Jvm.ClassFile.FieldType), Jvm.Cond.code ({ cls := "java/lang/String", name := "<init>", desc := "([CIILjava/lang/Void;)V" } : Jvm.MethodName) jdk_42_method_149_code (6 : Nat) (Option.none : Option Jvm.ClassFile.FieldType), Jvm.Cond.code ({ cls := "java/lang/Object", name := "<init>", desc := "()V" } : Jvm.MethodName) object_method_1_code (1 : Nat) (Option.none : Option Jvm.ClassFile.FieldType), Jvm.Cond.code ({ cls := "java/lang/StringUTF16", name := "compress", desc := "([CII)[B" } : Jvm.MethodName) jdk_52_method_16_code (6 : Nat) (Option.some (Jvm.ClassFile.FieldType.array Jvm.ClassFile.FieldType.byte)), Jvm.Cond.code ({ cls := "java/lang/StringUTF16", name := "compress", desc := "([CI[BII)I" } : Jvm.MethodName) jdk_52_method_21_code (7 : Nat) (Option.some Jvm.ClassFile.FieldType.int), Jvm.Cond.code ({ cls := "java/lang/StringUTF16", name := "coderFromArrayLen", desc := "([BI)B" } : Jvm.MethodName) jdk_52_method_15_code (2 : Nat) (Option.some Jvm.ClassFile.FieldType.byte), Jvm.Cond.code ({ cls := "com/example/wirecall/wirecall/TextCursor", name := "<init>", desc := "(Ljava/lang/String;)V" } : Jvm.MethodName) prog_21_method_1_code (2 : Nat) (Option.none : Option Jvm.ClassFile.FieldType), Jvm.Cond.code ({ cls := "com/example/wirecall/wirecall/TextCursor", name := "peek", desc := "(C)Z" } : Jvm.MethodName) prog_21_method_4_code (2 : Nat) (Option.some Jvm.ClassFile.FieldType.boolean), Jvm.Cond.code ({ cls := "java/lang/String", name := "length", desc := "()I" } : Jvm.MethodName) jdk_42_method_54_code (1 : Nat) (Option.some Jvm.ClassFile.FieldType.int), Jvm.Cond.code ({ cls := "java/lang/String", name := "coder", desc := "()B" } : Jvm.MethodName) jdk_42_method_152_code (1 : Nat) (Option.some Jvm.ClassFile.FieldType.byte), Jvm.Cond.code ({ cls := "java/lang/String", name := "charAt", desc := "(I)C" } : Jvm.MethodName) jdk_42_method_56_code (2 : Nat) (Option.some Jvm.ClassFile.FieldType.char), Jvm.Cond.code ({ cls := "java/lang/String", name := "isLatin1", desc := "()Z" } : Jvm.MethodName) jdk_42_method_154_code (1 : Nat) (Option.some Jvm.ClassFile.FieldType.boolean), Jvm.Cond.code ({ cls := "java/lang/StringLatin1", name := "charAt", desc := "([BI)C" } : Jvm.MethodName) jdk_43_method_2_code (2 : Nat) (Option.some Jvm.ClassFile.FieldType.char), Jvm.Cond.code ({ cls := "java/lang/String", name := "checkIndex", desc := "(II)V" } : Jvm.MethodName) jdk_42_method_155_code (2 : Nat) (Option.none : Option Jvm.ClassFile.FieldType), Jvm.Cond.code ({ cls := "jdk/internal/util/Preconditions", name := "checkIndex", desc := "(IILjava/util/function/BiFunction;)I" } : Jvm.MethodName) jdk_41_method_11_code (3 : Nat) (Option.some Jvm.ClassFile.FieldType.int), Jvm.Cond.code ({ cls := "com/example/wirecall/wirecall/TextCursor", name := "offset", desc := "()I" } : Jvm.MethodName) prog_21_method_2_code (1 : Nat) (Option.some Jvm.ClassFile.FieldType.int), Jvm.Cond.code ({ cls := "com/example/wirecall/wirecall/TextCursor", name := "skip", desc := "()V" } : Jvm.MethodName) prog_21_method_6_code (1 : Nat) (Option.none : Option Jvm.ClassFile.FieldType), Jvm.Cond.code ({ cls := "java/lang/Math", name := "min", desc := "(II)I" } : Jvm.MethodName) jdk_29_method_69_code (2 : Nat) (Option.some Jvm.ClassFile.FieldType.int)]
set_option maxRecDepth 65536 in
theorem codes_eq : words1.filter isCode = codes1 := rfl
theorem w_codes : ∀ c ∈ words1.filter isCode, c.before args0 about1 = true := by
  rw [codes_eq]
  intro c hc
  simp only [codes1, List.mem_cons, List.not_mem_nil, or_false] at hc
  rcases hc with rfl | rfl | rfl | rfl | rfl | rfl | rfl | rfl | rfl | rfl | rfl | rfl | rfl | rfl | rfl | rfl | rfl | rfl | rfl
  · exact w_c0
  · exact w_c1
  · exact w_c2
  · exact w_c3
  · exact w_c4
  · exact w_c5
  · exact w_c6
  · exact w_c7
  · exact w_c8
  · exact w_c9
  · exact w_c10
  · exact w_c11
  · exact w_c12
  · exact w_c13
  · exact w_c14
  · exact w_c15
  · exact w_c16
  · exact w_c17
  · exact w_c18
set_option maxRecDepth 65536 in
theorem w_t1 : (words1.take 24).all (fun c => isCode c || c.before args0 about1) = true := by decide +kernel
set_option maxRecDepth 65536 in
theorem w_t2 : ((words1.drop 24).take 24).all (fun c => isCode c || c.before args0 about1) = true := by decide +kernel
set_option maxRecDepth 65536 in
theorem w_t3 : (((words1.drop 24).drop 24).take 24).all (fun c => isCode c || c.before args0 about1) = true := by decide +kernel
set_option maxRecDepth 65536 in
theorem w_t4 : (((words1.drop 24).drop 24).drop 24).all (fun c => isCode c || c.before args0 about1) = true := by decide +kernel
theorem w_tables : (allAtoms (Jvm.Cond.code x code maxLocals ret :: tables_1)).before args0 about1 = true := by
  rw [allAtoms_all]
  show words1.all (fun c => c.before args0 about1) = true
  refine all_split ?_ w_codes
  rw [← List.take_append_drop 24 words1, List.all_append, w_t1, ← List.take_append_drop 24 (words1.drop 24), List.all_append, w_t2, ← List.take_append_drop 24 ((words1.drop 24).drop 24), List.all_append, w_t3, w_t4]
  rfl
set_option maxRecDepth 65536 in
theorem w_rest : rest_1_c.before args0 about1 = true := by decide +kernel
set_option maxRecDepth 65536 in
theorem w_case : (Jvm.Cond.and given_1 narrow_1).before args0 about1 = true := by decide +kernel
set_option maxRecDepth 65536 in
theorem w_consts : constsHeld consts_1 about1 := Jvm.Lit.constsHeldB_iff.mp (by decide +kernel)
theorem w_applies : (headSpec (Jvm.Cond.code x code maxLocals ret :: tables_1) room_1).applies x e0.platform about1 = true :=
  (Spec.applies_iff w_frames).mpr ⟨w_running, w_runnable, w_alone, w_named, w_hears, w_ripe, w_room, w_tables⟩
theorem atStart : AtStart classFile x code maxLocals ret World_1 tables_1 room_1 Calls_1 rest_1 Pre_1 launch0 p0 e0 about1 theMethod args0 below0 :=
  ⟨lists_1, trivial, launch0.admits_env _ _ _, launch0.least_env, fairChoices_fair.cas, fairChoices_fair.clock, w_frames, w_args, w_heap, w_applies, ⟨w_consts, trivial⟩, w_rest, w_case⟩
end start1
theorem witness_1 : WitnessClaimed_1 := ⟨start1.p0, start1.e0, start1.about1, start1.theMethod, start1.args0, start1.below0, start1.atStart⟩
end Jvm.Pilot.@@N@@
