import JvmDerived
import JvmDerived.Pilot.@@N@@Statement
import JvmDerived.Pilot.@@N@@Code
set_option linter.unusedVariables false
set_option linter.unusedSimpArgs false
namespace Jvm.Pilot.@@N@@
open Jvm Jvm.ClassFile Sem Op Lib Jvm.Free Jvm.Stand Jvm.LawKit Jvm.RoadKit Bundle Jvm.Pilot.@@N@@.Jvm.D
/-! own layer: a run that ends well, said backwards -/
section OwnGo
variable {p : Program} {l : Launch} {e : Env} {R : Room} {s : State} {m : MethodId} {args : Array Value} {below : List Frame} {meth : Method} {c : Code} {T T' : State} {locs : List Loc} {cells slots : Nat} {Z : State} {a0 : Array Value} {h : Heap} {Q : Option Value → Heap → List Loc → Prop} {C S maxL0 : Nat} {g g' : JFrame}
def Go (p : Program) (e : Env) (below : List Frame) (s : State) (Q : Option Value → Heap → List Loc → Prop) (C S : Nat) (T : State) (g : JFrame) : Prop :=
  ∃ s₂ o, Steps p.tables e below (T.setTop g) s₂ ∧ s₂.status = .running ∧ Ended s₂ below o ∧ ∃ v L, o = .returned v ∧ Q v s₂.heap L ∧ FrameEnd s o s₂ L C S
def Ct (p : Program) (s : State) (m : MethodId) (meth : Method) (c : Code) (Z : State) (own nm : String) (bytes : ByteArray) (maxL : Nat) (ret : Option FieldType) : Prop :=
  p.tables.exec = Jvm.exec ∧ Z.Warmed39 s.vm ∧ s.vm.findClass own = some m.cls ∧ c.code = bytes ∧ c.maxLocals = maxL ∧ meth.sig.returnType = ret ∧ meth.locks = false ∧ meth.name = nm
theorem go_st (k : ∀ t, Steps p.tables e below (T'.setTop g') t → Steps p.tables e below (T.setTop g) t) (q : Go p e below s Q C S T' g') : Go p e below s Q C S T g := by
  obtain ⟨s2, o, q1, q2⟩ := q
  exact ⟨s2, o, k _ q1, q2⟩
theorem castGo (q : g = g') (k : Go p e below s Q C S T g') : Go p e below s Q C S T g := by rw [q]; exact k
theorem go_tr (k : Steps p.tables e below (T.setTop g) (T'.setTop g')) (q : Go p e below s Q C S T' g') : Go p e below s Q C S T g := by
  obtain ⟨s2, o, q1, q2⟩ := q
  exact ⟨s2, o, k.trans q1, q2⟩
theorem go_end (X : Stand p l e R s m args below meth c T locs cells slots) (hlk : meth.locks = false) {v : Option Value} (hv : meth.sig.returnType = none → v = none)
    (hr : ∀ fs, (∀ (f : JFrame) (acts : List Action), f.method = m → f.locked = none → f.entered = [] → (doReturn e (T.setTop f) acts v).1 = T.setFrames fs) → Steps p.tables e below (T.setTop g) (T.setFrames fs))
    (hC : cells ≤ C) (hS : slots ≤ S) (hQ : Q v T.heap locs) : Go p e below s Q C S T g := by
  obtain ⟨fs, h1, hrun, hended, hW, hsame⟩ := X.leave (v := v) hv hlk
  exact ⟨_, _, hr fs h1, hrun, hended, _, _, rfl, hQ, ⟨_, rfl⟩, hW, hsame.mono hC hS⟩
theorem go_retI (X : Stand p l e R s m args below meth c T locs cells slots) (hx : p.tables.exec = Jvm.exec) (hlk : meth.locks = false) (hret : meth.sig.returnType = some .int) {pc : Nat} {Ls : Array Slot} {z : Int32} {rest : List Value} (hd : decode c.code pc = .ok (.ireturn, 1))
    (hC : cells ≤ C) (hS : slots ≤ S) (hQ : Q (some (.int z)) T.heap locs) : Go p e below s Q C S T (mkF m pc Ls (.int z :: rest)) :=
  go_end X hlk (fun h => by rw [hret] at h; cases h) (fun fs h1 => retOut X hx hret rfl (Or.inl ⟨rfl, Or.inl rfl, _, rfl⟩) hd h1) hC hS hQ
theorem go_retL (X : Stand p l e R s m args below meth c T locs cells slots) (hx : p.tables.exec = Jvm.exec) (hlk : meth.locks = false) (hret : meth.sig.returnType = some .long) {pc : Nat} {Ls : Array Slot} {z : Int64} {rest : List Value} (hd : decode c.code pc = .ok (.lreturn, 1))
    (hC : cells ≤ C) (hS : slots ≤ S) (hQ : Q (some (.long z)) T.heap locs) : Go p e below s Q C S T (mkF m pc Ls (.long z :: rest)) :=
  go_end X hlk (fun h => by rw [hret] at h; cases h) (fun fs h1 => retOut X hx hret rfl (Or.inr (Or.inl ⟨rfl, rfl, _, rfl⟩)) hd h1) hC hS hQ
theorem go_retD (X : Stand p l e R s m args below meth c T locs cells slots) (hx : p.tables.exec = Jvm.exec) (hlk : meth.locks = false) (hret : meth.sig.returnType = some .double) {pc : Nat} {Ls : Array Slot} {z : UInt64} {rest : List Value} (hd : decode c.code pc = .ok (.dreturn, 1))
    (hC : cells ≤ C) (hS : slots ≤ S) (hQ : Q (some (.double z)) T.heap locs) : Go p e below s Q C S T (mkF m pc Ls (.double z :: rest)) :=
  go_end X hlk (fun h => by rw [hret] at h; cases h) (fun fs h1 => retOut X hx hret rfl (Or.inr (Or.inr (Or.inl ⟨rfl, rfl, _, rfl⟩))) hd h1) hC hS hQ
theorem go_retA (X : Stand p l e R s m args below meth c T locs cells slots) (hx : p.tables.exec = Jvm.exec) (hlk : meth.locks = false) {t : FieldType} (hret : meth.sig.returnType = some t) (ht : t.isReference = true) {w : Value} (hw : w.isRef = true) {pc : Nat} {Ls : Array Slot} {rest : List Value} (hd : decode c.code pc = .ok (.areturn, 1))
    (hC : cells ≤ C) (hS : slots ≤ S) (hQ : Q (some w) T.heap locs) : Go p e below s Q C S T (mkF m pc Ls (w :: rest)) :=
  go_end X hlk (fun h => by rw [hret] at h; cases h) (fun fs h1 => retOut X hx hret (by cases t <;> simp_all [FieldType.isReference, narrow] <;> cases w <;> simp_all [Value.isRef, narrow]) (Or.inr (Or.inr (Or.inr (Or.inr ⟨rfl, ht, hw⟩)))) hd h1) hC hS hQ
theorem go_retB (X : Stand p l e R s m args below meth c T locs cells slots) (hx : p.tables.exec = Jvm.exec) (hlk : meth.locks = false) (hret : meth.sig.returnType = some .boolean) {pc : Nat} {Ls : Array Slot} {z w : Int32} {rest : List Value} (hd : decode c.code pc = .ok (.ireturn, 1)) (hw : z &&& 1 = w)
    (hC : cells ≤ C) (hS : slots ≤ S) (hQ : Q (some (.int w)) T.heap locs) : Go p e below s Q C S T (mkF m pc Ls (.int z :: rest)) := by
  subst hw
  exact go_end X hlk (fun h => by rw [hret] at h; cases h) (fun fs h1 => retN X hx (t := .boolean) hret (by simp) hd h1) hC hS hQ
theorem go_ret0 (X : Stand p l e R s m args below meth c T locs cells slots) (hx : p.tables.exec = Jvm.exec) (hlk : meth.locks = false) (hret : meth.sig.returnType = none) {pc : Nat} {Ls : Array Slot} (hd : decode c.code pc = .ok (.return_, 1))
    (hC : cells ≤ C) (hS : slots ≤ S) (hQ : Q none T.heap locs) : Go p e below s Q C S T (mkF m pc Ls []) :=
  go_end X hlk (fun _ => rfl) (fun fs h1 => X.returnOut hx hret hd h1) hC hS hQ
def Met (l : Launch) (y : MethodName) (bytes : ByteArray) (maxL : Nat) (ret : Option FieldType) (ws : List Cond) (rm : Room) (Z : State) (as' : Array Value) (h0 : Heap) (Q : Option Value → Heap → List Loc → Prop) (C S : Nat) : Prop :=
  MetFree l y (head1 (Jvm.Cond.code y bytes maxL ret :: ws) rm) (fun a U => a = as' ∧ Z.Warmed39 U.vm ∧ U.heap = h0) (fun _ _ _ _ _ => True) (fun _ U o U' => ∃ v L, o = .returned v ∧ Q v U'.heap L ∧ FrameEnd U o U' L C S)
def QV (w : Option Value) (h0 : Heap) (n0 : Nat) (v : Option Value) (h : Heap) (L : List Loc) : Prop := v = w ∧ Fr n0 L ∧ h = h0
def QF (w : Option Value) (n0 : Nat) (v : Option Value) (h : Heap) (L : List Loc) : Prop := v = w ∧ Fr n0 L
theorem own_body {y : MethodName} {bytes : ByteArray} {maxL : Nat} {ret : Option FieldType} {rm : Room} {as' : Array Value} {h0 : Heap} {ws : List Cond} (hn : plainFor y = true) {C S : Nat}
    (H : ∀ p e s m below meth c s₁, Ct p s m meth c Z y.cls y.name bytes maxL ret → Stand p l e rm s m as' below meth c s₁ [] 0 0 → s₁.heap = h0 → Go p e below s Q C S s₁ (entryFrame m as' maxL)) :
    Met l y bytes maxL ret ws rm Z as' h0 Q C S := by
  refine MetFree.of_bodySF hn hisR ?_
  intro p e s m args below meth c s₁ Bd hml0 hP hK
  obtain ⟨rfl, hZ, hh⟩ := hP
  have hown : s.vm.findClass y.cls = some m.cls := findClass_of_methodNamed Bd.named
  have hnm := (name_of_methodNamed Bd.named Bd.method).1
  have X0 : Stand p l e rm s m args below meth c s₁ [] 0 0 := Stand.of_body Bd
  have e0 : s₁.heap = h0 := by rw [← hh, Bd.state]; rfl
  exact H p e s m below meth c s₁ ⟨Bd.exec, hZ, hown, Bd.bytes, hml0, Bd.returns, Bd.notSynchronized, hnm⟩ X0 e0
theorem go_callS (X : Stand p l e R s m args below meth c T locs cells slots) (hx : p.tables.exec = Jvm.exec) (hZ : Z.Warmed39 s.vm) (hml : c.maxLocals = maxL0) {own : String} {index : Nat} {y : MethodName} {bytes : ByteArray} {maxL : Nat} {ret : Option FieldType} (hown : s.vm.findClass own = some m.cls)
    (w1 : (Cond.methodLink own index y).before a0 Z = true) (w2 : (Cond.static y).before a0 Z = true) (w3 : (Cond.initialized y.cls).before a0 Z = true) (w4 : (Cond.code y bytes maxL ret).before a0 Z = true) (eT : T.heap = h) {argsL rest : List Value} {rm : Room} {Q' : Option Value → Heap → List Loc → Prop} {W : Nat}
    (hM : Met l y bytes maxL ret [] rm Z argsL.toArray h Q' rm.cells rm.slots)
    (hd : decode c.code g.pc = .ok (.invokestatic index, 3)) (hs : g.stack = argsL.reverse ++ rest) (hg : g.method = m) (hsz : g.locals.size = maxL0) (hlen : ∀ sig, parseMethodDescriptor y.desc = some sig → argsL.length = sig.parameters.length) (hW : 2 * g.monitorRoom + (rest.map fun v => v.category).sum ≤ W)
    (hy : y.cls ≠ "java/lang/invoke/MethodHandle" ∧ y.cls ≠ "java/lang/invoke/VarHandle") (hf : rm.frames + 1 ≤ R.frames) (hl : W + (maxL + 11) + rm.locals ≤ R.locals) (hc : cells + rm.cells ≤ R.cells) (hsl : slots + rm.slots ≤ R.slots)
    (k : ∀ T' v L, Stand p l e R s m args below meth c T' (locs ++ L) (cells + rm.cells) (slots + rm.slots) → Q' v T'.heap L → Go p e below s Q C S T' { g with pc := g.pc + 3, stack := v.toList ++ rest }) : Go p e below s Q C S T g := by
  obtain ⟨v, _, ⟨T1, L1, k1, n1⟩, -, X1, ⟨Lc, hQ, l1, y1, z1⟩, st⟩ := Jvm.LawKit.callS X hx (y := y) hown (mvT hZ w1) (mvT hZ w2) (mvT hZ w3) (mvT hZ w4) hy (backOf (W := W) hM hZ w4 w3 hf hl) (g := g) hg (hsz.trans hml.symm) (argsL := argsL) (rest := rest) hlen hs hW hd (fun _ _ => ⟨rfl, eT, hc, hsl⟩)
  dsimp only [Pt.U, Pt.locs, Pt.cells, Pt.slots] at X1 l1 y1 z1 st hQ
  subst l1 y1 z1
  exact go_st st (k _ _ _ X1 hQ)
theorem go_callV (X : Stand p l e R s m args below meth c T locs cells slots) (hx : p.tables.exec = Jvm.exec) (hZ : Z.Warmed39 s.vm) (hml : c.maxLocals = maxL0) {own K : String} {index : Nat} {y z : MethodName} {bytes : ByteArray} {maxL : Nat} {ret : Option FieldType} (hown : s.vm.findClass own = some m.cls)
    (w1 : (Cond.methodLink own index y).before a0 Z = true) (w2 : (Cond.declares y).before a0 Z = true) (w2' : NotFace s y) (w3 : (Cond.selects K y z).before a0 Z = true) (w3' : (Cond.instanceMethod z).before a0 Z = true) (w4 : (Cond.code z bytes maxL ret).before a0 Z = true) (w5 : (Cond.initialized z.cls).before a0 Z = true) (eT : T.heap = h) {a : Addr} (E : Exa Z h a K) {argsL rest : List Value} {rm : Room} {Q' : Option Value → Heap → List Loc → Prop} {W : Nat}
    (hM : Met l z bytes maxL ret [] rm Z (.ref a :: argsL).toArray h Q' rm.cells rm.slots)
    (hd : decode c.code g.pc = .ok (.invokevirtual index, 3)) (hs : g.stack = argsL.reverse ++ .ref a :: rest) (hg : g.method = m) (hsz : g.locals.size = maxL0) (hlen : ∀ sig, parseMethodDescriptor y.desc = some sig → argsL.length = sig.parameters.length) (hW : 2 * g.monitorRoom + (rest.map fun v => v.category).sum ≤ W)
    (hy : y.cls ≠ "java/lang/invoke/MethodHandle" ∧ y.cls ≠ "java/lang/invoke/VarHandle") (hf : rm.frames + 1 ≤ R.frames) (hl : W + (maxL + 11) + rm.locals ≤ R.locals) (hc : cells + rm.cells ≤ R.cells) (hsl : slots + rm.slots ≤ R.slots)
    (k : ∀ T' v L, Stand p l e R s m args below meth c T' (locs ++ L) (cells + rm.cells) (slots + rm.slots) → Q' v T'.heap L → Go p e below s Q C S T' { g with pc := g.pc + 3, stack := v.toList ++ rest }) : Go p e below s Q C S T g := by
  obtain ⟨cB, kB, q1, q2, q3⟩ := isOf hZ eT E
  obtain ⟨v, _, ⟨T1, L1, k1, n1⟩, -, X1, ⟨Lc, hQ, l1, y1, z1⟩, st⟩ := X.virtualBack hx (y := y) (z := z) hown (mvT hZ w1) (mvT hZ w2) w2' (mvT hZ w3) (mvT hZ w3') hy (backOf (W := W) hM hZ w4 w5 hf hl) q1 q3 (g := g) hg (hsz.trans hml.symm) (Steps.refl _) (argsL := argsL) (rest := rest) hlen hs hW hd (fun _ _ => ⟨rfl, eT, hc, hsl⟩)
  dsimp only [Pt.U, Pt.locs, Pt.cells, Pt.slots] at X1 l1 y1 z1 st hQ
  subst l1 y1 z1
  exact go_tr st (k _ _ _ X1 hQ)
theorem go_callU (X : Stand p l e R s m args below meth c T locs cells slots) (hx : p.tables.exec = Jvm.exec) (hZ : Z.Warmed39 s.vm) (hml : c.maxLocals = maxL0) {own K owner : String} {index : Nat} {y z : MethodName} {bytes : ByteArray} {maxL : Nat} {ret : Option FieldType} (hown : s.vm.findClass own = some m.cls)
    (w1 : (Cond.methodLink own index y).before a0 Z = true) (w2 : (Cond.sameMethod y.cls owner y.name y.desc).before a0 Z = true) (w2' : (Cond.declares ⟨owner, y.name, y.desc⟩).before a0 Z = true) (ho : owner ≠ "java/lang/invoke/MethodHandle" ∧ owner ≠ "java/lang/invoke/VarHandle") (w3 : (Cond.selects K y z).before a0 Z = true) (w3' : (Cond.instanceMethod z).before a0 Z = true) (w4 : (Cond.code z bytes maxL ret).before a0 Z = true) (w5 : (Cond.initialized z.cls).before a0 Z = true) (eT : T.heap = h) {a : Addr} (E : Exa Z h a K) {argsL rest : List Value} {rm : Room} {Q' : Option Value → Heap → List Loc → Prop} {W : Nat}
    (hM : Met l z bytes maxL ret [] rm Z (.ref a :: argsL).toArray h Q' rm.cells rm.slots)
    (hd : decode c.code g.pc = .ok (.invokevirtual index, 3)) (hs : g.stack = argsL.reverse ++ .ref a :: rest) (hg : g.method = m) (hsz : g.locals.size = maxL0) (hlen : ∀ sig, parseMethodDescriptor y.desc = some sig → argsL.length = sig.parameters.length) (hW : 2 * g.monitorRoom + (rest.map fun v => v.category).sum ≤ W)
    (hf : rm.frames + 1 ≤ R.frames) (hl : W + (maxL + 11) + rm.locals ≤ R.locals) (hc : cells + rm.cells ≤ R.cells) (hsl : slots + rm.slots ≤ R.slots)
    (k : ∀ T' v L, Stand p l e R s m args below meth c T' (locs ++ L) (cells + rm.cells) (slots + rm.slots) → Q' v T'.heap L → Go p e below s Q C S T' { g with pc := g.pc + 3, stack := v.toList ++ rest }) : Go p e below s Q C S T g := by
  obtain ⟨cB, kB, q1, q2, q3⟩ := isOf hZ eT E
  obtain ⟨v, _, ⟨T1, L1, k1, n1⟩, -, X1, ⟨Lc, hQ, l1, y1, z1⟩, st⟩ := X.virtualBackUp hx (x := y) (y := z) hown (mvT hZ w1) (mvT hZ w2) (mvT hZ w2') ho (mvT hZ w3) (mvT hZ w3') (backOf (W := W) hM hZ w4 w5 hf hl) q1 q3 (g := g) hg (hsz.trans hml.symm) (Steps.refl _) (argsL := argsL) (rest := rest) hlen hs hW hd (fun _ _ => ⟨rfl, eT, hc, hsl⟩)
  dsimp only [Pt.U, Pt.locs, Pt.cells, Pt.slots] at X1 l1 y1 z1 st hQ
  subst l1 y1 z1
  exact go_tr st (k _ _ _ X1 hQ)
theorem go_callI (X : Stand p l e R s m args below meth c T locs cells slots) (hx : p.tables.exec = Jvm.exec) (hZ : Z.Warmed39 s.vm) (hml : c.maxLocals = maxL0) {own : String} {index : Nat} {y : MethodName} {bytes : ByteArray} {maxL : Nat} (hown : s.vm.findClass own = some m.cls) (hy1 : y.name = "<init>")
    (w1 : (Cond.methodLink own index y).before a0 Z = true) (w2 : (Cond.instanceMethod y).before a0 Z = true) (w4 : (Cond.code y bytes maxL none).before a0 Z = true) (w5 : (Cond.initialized y.cls).before a0 Z = true) (eT : T.heap = h) {a : Addr} {argsL rest : List Value} {rm : Room} {Q' : Option Value → Heap → List Loc → Prop} {W : Nat}
    (hM : Met l y bytes maxL none [] rm Z (.ref a :: argsL).toArray h Q' rm.cells rm.slots)
    (hd : decode c.code g.pc = .ok (.invokespecial index, 3)) (hs : g.stack = argsL.reverse ++ .ref a :: rest) (hg : g.method = m) (hsz : g.locals.size = maxL0) (hlen : ∀ sig, parseMethodDescriptor y.desc = some sig → argsL.length = sig.parameters.length) (hW : 2 * g.monitorRoom + (rest.map fun v => v.category).sum ≤ W)
    (hy : y.cls ≠ "java/lang/invoke/MethodHandle" ∧ y.cls ≠ "java/lang/invoke/VarHandle") (hf : rm.frames + 1 ≤ R.frames) (hl : W + (maxL + 11) + rm.locals ≤ R.locals) (hc : cells + rm.cells ≤ R.cells) (hsl : slots + rm.slots ≤ R.slots)
    (k : ∀ T' v L, Stand p l e R s m args below meth c T' (locs ++ L) (cells + rm.cells) (slots + rm.slots) → Q' v T'.heap L → Go p e below s Q C S T' { g with pc := g.pc + 3, stack := v.toList ++ rest }) : Go p e below s Q C S T g := by
  obtain ⟨v, _, ⟨T1, L1, k1, n1⟩, -, X1, ⟨Lc, hQ, l1, y1, z1⟩, st⟩ := X.specialBack hx (y := y) hy1 hown (mvT hZ w1) (mvT hZ w2) (mvT hZ w4) hy (backOf (W := W) hM hZ w4 w5 hf hl) (g := g) hg (hsz.trans hml.symm) (Steps.refl _) (a := a) (argsL := argsL) (rest := rest) hlen hs hW hd (fun _ _ => ⟨rfl, eT, hc, hsl⟩)
  dsimp only [Pt.U, Pt.locs, Pt.cells, Pt.slots] at X1 l1 y1 z1 st hQ
  subst l1 y1 z1
  exact go_tr st (k _ _ _ X1 hQ)
theorem go_getF (X : Stand p l e R s m args below meth c T locs cells slots) (hx : p.tables.exec = Jvm.exec) (hZ : Z.Warmed39 s.vm) {own R0 O n d host : String} {index : Nat} (hown : s.vm.findClass own = some m.cls) (w : (Cond.fieldLink own index R0 n d).before a0 Z = true ∨ (Cond.fieldLinkNest own index R0 n d host).before a0 Z = true) (via : Via Z R0 O n d)
    (eT : T.heap = h) {a : Addr} {v : Value} (F : Fld Z h a O n d v) {rest : List Value} (hd : decode c.code g.pc = .ok (.getfield index, 3)) (hg : g.method = m) (hs : g.stack = .ref a :: rest)
    (k : ∀ T', Stand p l e R s m args below meth c T' locs cells slots → T'.heap = h → Go p e below s Q C S T' { g with pc := g.pc + 3, stack := v :: rest }) : Go p e below s Q C S T g := by
  obtain ⟨T1, X1, e1, st⟩ := getF X hx hZ hown w via eT F hg hs hd
  exact go_st st (k _ X1 e1)
theorem go_getS (X : Stand p l e R s m args below meth c T locs cells slots) (hx : p.tables.exec = Jvm.exec) (hZ : Z.Warmed39 s.vm) {own R0 O n d host : String} {index : Nat} (hown : s.vm.findClass own = some m.cls) (w : (Cond.fieldLink own index R0 n d).before a0 Z = true ∨ (Cond.fieldLinkNest own index R0 n d host).before a0 Z = true) (via : Via Z R0 O n d)
    (eT : T.heap = h) {v : Value} (F : Sta Z h O n d v) (hd : decode c.code g.pc = .ok (.getstatic index, 3)) (hg : g.method = m)
    (k : ∀ T', Stand p l e R s m args below meth c T' locs cells slots → T'.heap = h → Go p e below s Q C S T' { g with pc := g.pc + 3, stack := v :: g.stack }) : Go p e below s Q C S T g := by
  obtain ⟨T1, X1, e1, st⟩ := getS2 X hx hZ hown w via eT F hg hd
  exact go_st st (k _ X1 e1)
theorem go_putF (X : Stand p l e R s m args below meth c T locs cells slots) (hx : p.tables.exec = Jvm.exec) (hZ : Z.Warmed39 s.vm) {own R0 O n d host K : String} {index kk : Nat} {ty : FieldType} (hown : s.vm.findClass own = some m.cls) (w : (Cond.fieldLink own index R0 n d).before a0 Z = true ∨ (Cond.fieldLinkNest own index R0 n d host).before a0 Z = true) (via : Via Z R0 O n d)
    (eT : T.heap = h) {a : Addr} {v old : Value} (F : Fld Z h a O n d old) (E : Exa Z h a K) (L : (Cond.lays K O n d).before a0 Z = true ∨ ((Cond.laysFinal K O n d).before a0 Z = true ∧ own = O ∧ meth.name = "<init>")) (wi : (Cond.instantiable K kk).before a0 Z = true)
    (hty : parseFieldDescriptor d = some ty) (hn : narrow ty v = v) (hf : fits ty v = true) {rest : List Value} (hd : decode c.code g.pc = .ok (.putfield index, 3)) (hg : g.method = m) (hs : g.stack = v :: .ref a :: rest)
    (k : ∀ T' h', Stand p l e R s m args below meth c T' (locs ++ [⟨a, Jvm.RoadKit.slotOf Z O n d⟩]) cells slots → T'.heap = h' → Wr h h' a (Jvm.RoadKit.slotOf Z O n d) v → Go p e below s Q C S T' { g with pc := g.pc + 3, stack := rest }) : Go p e below s Q C S T g := by
  obtain ⟨T1, h1, X1, e1, W1, st⟩ := putF X hx hZ hown w via eT F E L wi hty hn hf hg hs hd
  exact go_st st (k _ _ X1 e1 W1)
theorem go_newO (X : Stand p l e R s m args below meth c T locs cells slots) (hx : p.tables.exec = Jvm.exec) (hZ : Z.Warmed39 s.vm) {own K : String} {index n : Nat} (hown : s.vm.findClass own = some m.cls) (w : (Cond.classLink own index K).before a0 Z = true) (wi : (Cond.instantiable K n).before a0 Z = true) (wz : (Cond.initialized K).before a0 Z = true) (eT : T.heap = h)
    (hd : decode c.code g.pc = .ok (.new index, 3)) (hg : g.method = m) (hc : cells + 1 ≤ R.cells) (hl : slots + n ≤ R.slots)
    (k : ∀ T' h' a, a = h.size → Stand p l e R s m args below meth c T' locs (cells + 1) (slots + n) → T'.heap = h' → Ext h h' → Exa Z h' a K → (∀ {O nm d : String} {ty : FieldType}, Laid Z a0 K O nm d → parseFieldDescriptor d = some ty → Fld Z h' a O nm d (defaultValue ty)) → Go p e below s Q C S T' { g with pc := g.pc + 3, stack := .ref a :: g.stack }) : Go p e below s Q C S T g := by
  obtain ⟨T1, h1, X1, e1, E1, A1, D1, -, st⟩ := newO X hx hZ hown w wi wz eT hg hd hc hl
  exact go_st st (k _ _ _ rfl X1 e1 E1 A1 D1)
theorem go_initO (X : Stand p l e R s m args below meth c T locs cells slots) (hx : p.tables.exec = Jvm.exec) (hZ : Z.Warmed39 s.vm) (hml : c.maxLocals = maxL0) {own : String} {idx : Nat} (hown : s.vm.findClass own = some m.cls) (w1 : (Cond.methodLink own idx Lib.objectInit).before a0 Z = true) (w2 : (Cond.instanceMethod Lib.objectInit).before a0 Z = true)
    (w3 : (Cond.code Lib.objectInit ⟨#[0xb1]⟩ 1 none).before a0 Z = true) (eT : T.heap = h) {a : Addr} {rest : List Value} (hd : decode c.code g.pc = .ok (.invokespecial idx, 3)) (hg : g.method = m) (hsz : g.locals.size = maxL0) (hs : g.stack = .ref a :: rest)
    (hf : 1 ≤ R.frames) {W : Nat} (hW : 2 * g.monitorRoom + (rest.map fun v => v.category).sum ≤ W) (hl : W + 12 ≤ R.locals)
    (k : ∀ T', Stand p l e R s m args below meth c T' locs cells slots → T'.heap = h → Go p e below s Q C S T' { g with pc := g.pc + 3, stack := rest }) : Go p e below s Q C S T g := by
  obtain ⟨T1, X1, e1, st⟩ := initO X hx hZ hown w1 w2 w3 eT hg (hsz.trans hml.symm) hs hd hf hW hl
  exact go_st st (k _ X1 e1)
theorem own_lrem {tb : Tables} [Ours tb] {target : State} (hh : At T m c below) (hx : tb.exec = Jvm.exec) (hg : g.method = m) {x y : Int64} {rest : List Value} (hd : decode c.code g.pc = .ok (.lrem, 1)) (hs : g.stack = .long y :: .long x :: rest) (hy : y ≠ 0)
    (hr : Steps tb e below (T.setTop { g with pc := g.pc + 1, stack := .long (x % y) :: rest }) target) : Steps tb e below (T.setTop g) target :=
  XT.lrem hh hx hg hd hs hy (by rw [lrem_mod]; exact hr)
/-! arrays, their places by a function -/
def GA (Z : State) (h : Heap) (a : Addr) (ty : FieldType) (n : Nat) (f : Nat → Value) : Prop := ∃ cl : Cell, Arr Z h a cl ty ∧ cl.slots.size = n ∧ n < 2 ^ 31 ∧ ∀ i, i < n → cl.slots[i]? = some (f i)
theorem GA.lt {a : Addr} {ty : FieldType} {n : Nat} {f : Nat → Value} (A : GA Z h a ty n f) : a < h.size := by
  obtain ⟨cl, A1, -⟩ := A
  exact A1.lt
theorem GA.ext {a : Addr} {ty : FieldType} {n : Nat} {f : Nat → Value} {h' : Heap} (A : GA Z h a ty n f) (E : Ext h h') : GA Z h' a ty n f := by
  obtain ⟨cl, A1, r⟩ := A
  exact ⟨cl, A1.ext E, r⟩
theorem GA.other {a b : Addr} {ty : FieldType} {n sl : Nat} {v : Value} {f : Nat → Value} {h' : Heap} (A : GA Z h b ty n f) (W : Wr h h' a sl v) (q : b ≠ a) : GA Z h' b ty n f := by
  obtain ⟨cl, A1, r⟩ := A
  exact ⟨cl, A1.other W q, r⟩
theorem GA.keep {a : Addr} {ty : FieldType} {n : Nat} {f : Nat → Value} {h' : Heap} {ws : List Addr} (A : GA Z h a ty n f) (K : Keep h h' ws) (q : a ∉ ws) : GA Z h' a ty n f := by
  obtain ⟨cl, A1, r⟩ := A
  exact ⟨cl, ⟨K.2.1 _ _ A1.1 q, A1.2⟩, r⟩
theorem GA.congr {a : Addr} {ty : FieldType} {n : Nat} {f f' : Nat → Value} (A : GA Z h a ty n f) (q : ∀ i, i < n → f i = f' i) : GA Z h a ty n f' := by
  obtain ⟨cl, A1, A2, A3, A4⟩ := A
  exact ⟨cl, A1, A2, A3, fun i hi => (A4 i hi).trans (by rw [q i hi])⟩
theorem GA.set {a : Addr} {ty : FieldType} {n j : Nat} {v : Value} {f : Nat → Value} {h' : Heap} (A : GA Z h a ty n f) (W : Wr h h' a j v) : GA Z h' a ty n (fun i => if i = j then v else f i) := by
  obtain ⟨cl, A1, A2, A3, A4⟩ := A
  obtain ⟨c2, w1, w2, w3, w4⟩ := W
  obtain rfl : cl = c2 := Option.some.inj (A1.1.symm.trans w1)
  refine ⟨cl.setSlot j v, A1.same ⟨cl, w1, w2, w3, w4⟩, (sz_set cl j v).trans A2, A3, fun i hi => ?_⟩
  show (cl.slots.setIfInBounds j v)[i]? = _
  rw [Array.getElem?_setIfInBounds]
  by_cases q : i = j
  · subst q
    rw [if_pos rfl, if_pos w3]
    simp only [if_true]
  · rw [if_neg (fun h => q h.symm)]
    simp only [if_neg q]
    exact A4 i hi
theorem GA.len {a : Addr} {ty : FieldType} {n : Nat} {f : Nat → Value} (A : GA Z h a ty n f) : n < 2 ^ 31 := by
  obtain ⟨cl, -, -, A3, -⟩ := A
  exact A3
def OC (Z : State) (h : Heap) (a : Addr) (ty : FieldType) (K : String) : Prop := ∃ cl : Cell, Arr Z h a cl ty ∧ Ovr Z cl.cls K
theorem OC.ext {a : Addr} {ty : FieldType} {K : String} {h' : Heap} (A : OC Z h a ty K) (E : Ext h h') : OC Z h' a ty K := by
  obtain ⟨cl, A1, A2⟩ := A
  exact ⟨cl, A1.ext E, A2⟩
theorem OC.wr {a b : Addr} {ty : FieldType} {K : String} {sl : Nat} {v : Value} {h' : Heap} (A : OC Z h b ty K) (W : Wr h h' a sl v) : OC Z h' b ty K := by
  obtain ⟨cl, A1, A2⟩ := A
  by_cases q : b = a
  · subst q
    exact ⟨_, A1.same W, A2⟩
  · exact ⟨cl, A1.other W q, A2⟩
theorem OC.keep {b : Addr} {ty : FieldType} {K : String} {h' : Heap} {ws : List Addr} (A : OC Z h b ty K) (Kp : Keep h h' ws) : OC Z h' b ty K := by
  obtain ⟨cl, ⟨A1, A3, A4⟩, A2⟩ := A
  obtain ⟨c', q1, q2, q3, q4⟩ := Kp.2.2 _ _ A1
  refine ⟨c', ⟨q1, ?_, by rw [q3]; exact A4⟩, by rw [q2]; exact A2⟩
  unfold State.isArrayOf at A3 ⊢
  rw [q2, q3]
  exact A3
theorem OC.sto {a y : Addr} {ty : FieldType} {K : String} (A : OC Z h a ty K) (I : Ins Z h y K true) : Sto Z h a (.ref y) := by
  obtain ⟨cl, A1, A2⟩ := A
  exact Sto.of A1 A2 I
theorem own_in {j : Int32} {n : Nat} (q : 0 ≤ j.toInt ∧ j.toInt < n) : ¬ (j < 0 ∨ n ≤ j.toNatClampNeg) := by
  have h1 : (j.toNatClampNeg : Int) = j.toInt := by have := q.1; simp only [Int32.toNatClampNeg]; omega
  rw [Int32.lt_iff_toInt_lt]
  have : (0 : Int32).toInt = 0 := rfl
  omega
theorem go_alen (X : Stand p l e R s m args below meth c T locs cells slots) (hx : p.tables.exec = Jvm.exec) (hZ : Z.Warmed39 s.vm) (eT : T.heap = h) {a : Addr} {ty : FieldType} {n : Nat} {f : Nat → Value} (A : GA Z h a ty n f) {rest : List Value}
    (hd : decode c.code g.pc = .ok (.arraylength, 1)) (hg : g.method = m) (hs : g.stack = .ref a :: rest) (w : Int32) (hw : Nat.toInt32 n = w) (k : Go p e below s Q C S T { g with pc := g.pc + 1, stack := .int w :: rest }) : Go p e below s Q C S T g := by
  obtain ⟨cl, A1, rfl, -, -⟩ := A
  subst hw
  exact go_st (fun t => X.arraylength hx (by rw [eT]; exact A1.1) (State.isArrayOf_alike hZ.alike A1.2.1) hg hs hd t) k
theorem go_iald (X : Stand p l e R s m args below meth c T locs cells slots) (hx : p.tables.exec = Jvm.exec) (hZ : Z.Warmed39 s.vm) (eT : T.heap = h) {a : Addr} {n : Nat} {f : Nat → Value} (A : GA Z h a .int n f) {j : Int32} {rest : List Value}
    (hd : decode c.code g.pc = .ok (.iaload, 1)) (hg : g.method = m) (hs : g.stack = .int j :: .ref a :: rest) (q : 0 ≤ j.toInt ∧ j.toInt < n) (w : Value) (hw : f j.toNatClampNeg = w) (k : Go p e below s Q C S T { g with pc := g.pc + 1, stack := w :: rest }) : Go p e below s Q C S T g := by
  obtain ⟨cl, A1, rfl, -, A4⟩ := A
  have q2 := own_in q
  refine go_st (fun t => X.iaload hx (j := j) (v := w) (by rw [eT]; exact A1.1) (State.isArrayOf_alike hZ.alike A1.2.1) A1.2.2 q2 ?_ hg hs hd t) k
  rw [A4 _ (by omega), hw]
theorem go_lald (X : Stand p l e R s m args below meth c T locs cells slots) (hx : p.tables.exec = Jvm.exec) (hZ : Z.Warmed39 s.vm) (eT : T.heap = h) {a : Addr} {n : Nat} {f : Nat → Value} (A : GA Z h a .long n f) {j : Int32} {rest : List Value}
    (hd : decode c.code g.pc = .ok (.laload, 1)) (hg : g.method = m) (hs : g.stack = .int j :: .ref a :: rest) (q : 0 ≤ j.toInt ∧ j.toInt < n) (w : Value) (hw : f j.toNatClampNeg = w) (k : Go p e below s Q C S T { g with pc := g.pc + 1, stack := w :: rest }) : Go p e below s Q C S T g := by
  obtain ⟨cl, A1, rfl, -, A4⟩ := A
  have q2 := own_in q
  refine go_st (fun t => X.laload hx (j := j) (v := w) (by rw [eT]; exact A1.1) (State.isArrayOf_alike hZ.alike A1.2.1) A1.2.2 q2 ?_ hg hs hd t) k
  rw [A4 _ (by omega), hw]
theorem go_bald (X : Stand p l e R s m args below meth c T locs cells slots) (hx : p.tables.exec = Jvm.exec) (hZ : Z.Warmed39 s.vm) (eT : T.heap = h) {a : Addr} {n : Nat} {f : Nat → Value} (A : GA Z h a .byte n f) {j : Int32} {rest : List Value}
    (hd : decode c.code g.pc = .ok (.baload, 1)) (hg : g.method = m) (hs : g.stack = .int j :: .ref a :: rest) (q : 0 ≤ j.toInt ∧ j.toInt < n) (w : Value) (hw : f j.toNatClampNeg = w) (k : Go p e below s Q C S T { g with pc := g.pc + 1, stack := w :: rest }) : Go p e below s Q C S T g := by
  obtain ⟨cl, A1, rfl, -, A4⟩ := A
  have q2 := own_in q
  refine go_st (fun t => X.baloadBytes hx (j := j) (v := w) (by rw [eT]; exact A1.1) (State.isArrayOf_alike hZ.alike A1.2.1) A1.2.2 q2 ?_ hg hs hd t) k
  rw [A4 _ (by omega), hw]
theorem go_cald (X : Stand p l e R s m args below meth c T locs cells slots) (hx : p.tables.exec = Jvm.exec) (hZ : Z.Warmed39 s.vm) (eT : T.heap = h) {a : Addr} {n : Nat} {f : Nat → Value} (A : GA Z h a .char n f) {j : Int32} {rest : List Value}
    (hd : decode c.code g.pc = .ok (.caload, 1)) (hg : g.method = m) (hs : g.stack = .int j :: .ref a :: rest) (q : 0 ≤ j.toInt ∧ j.toInt < n) (w : Value) (hw : f j.toNatClampNeg = w) (k : Go p e below s Q C S T { g with pc := g.pc + 1, stack := w :: rest }) : Go p e below s Q C S T g := by
  obtain ⟨cl, A1, rfl, -, A4⟩ := A
  have q2 := own_in q
  refine go_st (fun t => X.caload hx (j := j) (v := w) (by rw [eT]; exact A1.1) (State.isArrayOf_alike hZ.alike A1.2.1) A1.2.2 q2 ?_ hg hs hd t) k
  rw [A4 _ (by omega), hw]
theorem go_aald (X : Stand p l e R s m args below meth c T locs cells slots) (hx : p.tables.exec = Jvm.exec) (hZ : Z.Warmed39 s.vm) (eT : T.heap = h) {a : Addr} {ty : FieldType} {n : Nat} {f : Nat → Value} (A : GA Z h a ty n f) (hty : ty.isReference = true) {j : Int32} {rest : List Value}
    (hd : decode c.code g.pc = .ok (.aaload, 1)) (hg : g.method = m) (hs : g.stack = .int j :: .ref a :: rest) (q : 0 ≤ j.toInt ∧ j.toInt < n) (w : Value) (hw : f j.toNatClampNeg = w) (k : Go p e below s Q C S T { g with pc := g.pc + 1, stack := w :: rest }) : Go p e below s Q C S T g := by
  obtain ⟨cl, A1, rfl, -, A4⟩ := A
  have q2 := own_in q
  refine go_st (fun t => X.aaload hx (j := j) (v := w) (by rw [eT]; exact A1.1) (State.isArrayOf_alike hZ.alike A1.2.1) hty A1.2.2 q2 ?_ hg hs hd t) k
  rw [A4 _ (by omega), hw]
theorem go_iast (X : Stand p l e R s m args below meth c T locs cells slots) (hx : p.tables.exec = Jvm.exec) (hZ : Z.Warmed39 s.vm) (eT : T.heap = h) {a : Addr} {n : Nat} {f : Nat → Value} (A : GA Z h a .int n f) {j x : Int32} {rest : List Value}
    (hd : decode c.code g.pc = .ok (.iastore, 1)) (hg : g.method = m) (hs : g.stack = .int x :: .int j :: .ref a :: rest) (q : 0 ≤ j.toInt ∧ j.toInt < n)
    (k : ∀ T' h', Stand p l e R s m args below meth c T' (locs ++ [⟨a, j.toNatClampNeg⟩]) cells slots → T'.heap = h' → Wr h h' a j.toNatClampNeg (.int x) → GA Z h' a .int n (fun i => if i = j.toNatClampNeg then .int x else f i) → Go p e below s Q C S T' { g with pc := g.pc + 1, stack := rest }) : Go p e below s Q C S T g := by
  have A' := A
  obtain ⟨cl, A1, rfl, -, A4⟩ := A
  obtain ⟨T1, h1, X1, e1, W1, st⟩ := stI X hx hZ eT A1 (own_in q) hg hs hd
  exact go_st st (k _ _ X1 e1 W1 (A'.set W1))
theorem go_last (X : Stand p l e R s m args below meth c T locs cells slots) (hx : p.tables.exec = Jvm.exec) (hZ : Z.Warmed39 s.vm) (eT : T.heap = h) {a : Addr} {n : Nat} {f : Nat → Value} (A : GA Z h a .long n f) {j : Int32} {x : Int64} {rest : List Value}
    (hd : decode c.code g.pc = .ok (.lastore, 1)) (hg : g.method = m) (hs : g.stack = .long x :: .int j :: .ref a :: rest) (q : 0 ≤ j.toInt ∧ j.toInt < n)
    (k : ∀ T' h', Stand p l e R s m args below meth c T' (locs ++ [⟨a, j.toNatClampNeg⟩]) cells slots → T'.heap = h' → Wr h h' a j.toNatClampNeg (.long x) → GA Z h' a .long n (fun i => if i = j.toNatClampNeg then .long x else f i) → Go p e below s Q C S T' { g with pc := g.pc + 1, stack := rest }) : Go p e below s Q C S T g := by
  have A' := A
  obtain ⟨cl, A1, rfl, -, A4⟩ := A
  obtain ⟨T1, h1, X1, e1, W1, st⟩ := stJ X hx hZ eT A1 (own_in q) hg hs hd
  exact go_st st (k _ _ X1 e1 W1 (A'.set W1))
theorem go_bast (X : Stand p l e R s m args below meth c T locs cells slots) (hx : p.tables.exec = Jvm.exec) (hZ : Z.Warmed39 s.vm) (eT : T.heap = h) {a : Addr} {n : Nat} {f : Nat → Value} (A : GA Z h a .byte n f) {j x : Int32} {rest : List Value}
    (hd : decode c.code g.pc = .ok (.bastore, 1)) (hg : g.method = m) (hs : g.stack = .int x :: .int j :: .ref a :: rest) (q : 0 ≤ j.toInt ∧ j.toInt < n)
    (k : ∀ T' h', Stand p l e R s m args below meth c T' (locs ++ [⟨a, j.toNatClampNeg⟩]) cells slots → T'.heap = h' → Wr h h' a j.toNatClampNeg (.int x.toInt8.toInt32) → GA Z h' a .byte n (fun i => if i = j.toNatClampNeg then .int x.toInt8.toInt32 else f i) → Go p e below s Q C S T' { g with pc := g.pc + 1, stack := rest }) : Go p e below s Q C S T g := by
  have A' := A
  obtain ⟨cl, A1, rfl, -, A4⟩ := A
  obtain ⟨T1, h1, X1, e1, W1, st⟩ := stB X hx hZ eT A1 (own_in q) hg hs hd
  exact go_st st (k _ _ X1 e1 W1 (A'.set W1))
theorem go_cast (X : Stand p l e R s m args below meth c T locs cells slots) (hx : p.tables.exec = Jvm.exec) (hZ : Z.Warmed39 s.vm) (eT : T.heap = h) {a : Addr} {n : Nat} {f : Nat → Value} (A : GA Z h a .char n f) {j x : Int32} {rest : List Value}
    (hd : decode c.code g.pc = .ok (.castore, 1)) (hg : g.method = m) (hs : g.stack = .int x :: .int j :: .ref a :: rest) (q : 0 ≤ j.toInt ∧ j.toInt < n)
    (k : ∀ T' h', Stand p l e R s m args below meth c T' (locs ++ [⟨a, j.toNatClampNeg⟩]) cells slots → T'.heap = h' → Wr h h' a j.toNatClampNeg (.int (nar .char x)) → GA Z h' a .char n (fun i => if i = j.toNatClampNeg then .int (nar .char x) else f i) → Go p e below s Q C S T' { g with pc := g.pc + 1, stack := rest }) : Go p e below s Q C S T g := by
  have A' := A
  obtain ⟨cl, A1, rfl, -, A4⟩ := A
  obtain ⟨T1, h1, X1, e1, W1, st⟩ := stC X hx hZ eT A1 (own_in q) hg hs hd
  exact go_st st (k _ _ X1 e1 W1 (A'.set W1))
theorem go_aast (X : Stand p l e R s m args below meth c T locs cells slots) (hx : p.tables.exec = Jvm.exec) (hZ : Z.Warmed39 s.vm) (eT : T.heap = h) {a : Addr} {ty : FieldType} {n : Nat} {f : Nat → Value} (A : GA Z h a ty n f) (hty : ty.isReference = true) {j : Int32} {v : Value} (F : Sto Z h a v) {rest : List Value}
    (hd : decode c.code g.pc = .ok (.aastore, 1)) (hg : g.method = m) (hs : g.stack = v :: .int j :: .ref a :: rest) (q : 0 ≤ j.toInt ∧ j.toInt < n)
    (k : ∀ T' h', Stand p l e R s m args below meth c T' (locs ++ [⟨a, j.toNatClampNeg⟩]) cells slots → T'.heap = h' → Wr h h' a j.toNatClampNeg v → GA Z h' a ty n (fun i => if i = j.toNatClampNeg then v else f i) → Go p e below s Q C S T' { g with pc := g.pc + 1, stack := rest }) : Go p e below s Q C S T g := by
  have A' := A
  obtain ⟨cl, A1, rfl, -, A4⟩ := A
  obtain ⟨T1, h1, X1, e1, W1, st⟩ := stR X hx hZ eT A1 (own_in q) hty F hg hs hd
  exact go_st st (k _ _ X1 e1 W1 (A'.set W1))
theorem own_clamp {n : Int32} {N : Nat} (q : n.toInt = N) : n.toNatClampNeg = N := by simp only [Int32.toNatClampNeg]; omega
theorem own_nneg {n : Int32} {N : Nat} (q : n.toInt = N) : ¬ n < 0 := by
  rw [Int32.lt_iff_toInt_lt]
  have : (0 : Int32).toInt = 0 := rfl
  omega
theorem go_newP (X : Stand p l e R s m args below meth c T locs cells slots) (hx : p.tables.exec = Jvm.exec) (hZ : Z.Warmed39 s.vm) {aty : ArrayType} (w : (Cond.arrayClass (newarray.typeOf aty)).before a0 Z = true) (eT : T.heap = h) {n : Int32} {rest : List Value} (hd : decode c.code g.pc = .ok (.newarray aty, 2)) (hg : g.method = m) (hs : g.stack = .int n :: rest)
    (N : Nat) (hn : n.toInt = N) (cap : Nat) (hcap : N ≤ cap) (hb : cap * 8 ≤ 536870912) (hc : cells + 1 ≤ R.cells) (hl : slots + cap ≤ R.slots)
    (k : ∀ T' h' a, a = h.size → Stand p l e R s m args below meth c T' locs (cells + 1) (slots + cap) → T'.heap = h' → Ext h h' → GA Z h' a (newarray.typeOf aty) N (fun _ => defaultValue (newarray.typeOf aty)) → Go p e below s Q C S T' { g with pc := g.pc + 2, stack := .ref a :: rest }) : Go p e below s Q C S T g := by
  have hN := own_clamp hn
  have hn0 := own_nneg hn
  obtain ⟨T1, h1, cA, X1, e1, E1, A1, st⟩ := newP X hx hZ w eT hg hd hs hn0 (cap := cap) (by omega) hb hc hl
  refine go_st st (k _ _ _ rfl X1 e1 E1 ⟨_, A1, (sz_new _ _ _).trans hN, ?_, fun i hi => ?_⟩)
  · have := (rng32 n).2
    omega
  · show (Array.replicate n.toNatClampNeg (defaultValue _))[i]? = _
    rw [hN, Array.getElem?_replicate, if_pos hi]
theorem go_newR (X : Stand p l e R s m args below meth c T locs cells slots) (hx : p.tables.exec = Jvm.exec) (hZ : Z.Warmed39 s.vm) {own K : String} {index : Nat} (hown : s.vm.findClass own = some m.cls) (w1 : (Cond.classLink own index K).before a0 Z = true) (w2 : (Cond.arrayOver (.object K)).before a0 Z = true) (eT : T.heap = h) {n : Int32} {rest : List Value} (hd : decode c.code g.pc = .ok (.anewarray index, 3)) (hg : g.method = m) (hs : g.stack = .int n :: rest)
    (N : Nat) (hn : n.toInt = N) (cap : Nat) (hcap : N ≤ cap) (hb : cap * 8 ≤ 536870912) (hc : cells + 1 ≤ R.cells) (hl : slots + cap ≤ R.slots)
    (k : ∀ T' h' a, a = h.size → Stand p l e R s m args below meth c T' locs (cells + 1) (slots + cap) → T'.heap = h' → Ext h h' → GA Z h' a (.object K) N (fun _ => .null) → OC Z h' a (.object K) K → Go p e below s Q C S T' { g with pc := g.pc + 3, stack := .ref a :: rest }) : Go p e below s Q C S T g := by
  have hN := own_clamp hn
  have hn0 := own_nneg hn
  obtain ⟨T1, h1, cA, X1, e1, E1, A1, O1, st⟩ := newR X hx hZ hown w1 w2 eT hg hd hs hn0 (cap := cap) (by omega) hb hc hl
  refine go_st st (k _ _ _ rfl X1 e1 E1 ⟨_, A1, (sz_new _ _ _).trans hN, ?_, fun i hi => ?_⟩ ⟨_, A1, O1⟩)
  · have := (rng32 n).2
    omega
  · show (Array.replicate n.toNatClampNeg (defaultValue _))[i]? = _
    rw [hN, Array.getElem?_replicate, if_pos hi]
    rfl
end OwnGo
theorem own_n16 {n : Nat} (h : n < 100) : (Int32.ofNat n).toInt = n := Int32.toInt_ofNat_of_lt (by omega)
theorem own_cl16 {n : Nat} (h : n < 100) : (Int32.ofNat n).toNatClampNeg = n := own_clamp (own_n16 h)
theorem own_i16 {n : Nat} (h : n < 16) : 0 ≤ (Int32.ofNat n).toInt ∧ (Int32.ofNat n).toInt < (16 : Nat) := by
  rw [own_n16 (by omega)]
  omega
def upd (f : Nat → Int64) (i : Nat) (v : Int64) (j : Nat) : Int64 := if j = i then v else f j
theorem own_gu {Z : State} {h : Heap} {a : Addr} {k n : Nat} {v : Int64} {f : Nat → Int64} (hk : k = n) (G : GA Z h a .long 16 (fun i => if i = k then .long v else (fun i => Value.long (f i)) i)) : GA Z h a .long 16 (fun i => .long (upd f n v i)) := by
  subst hk
  refine G.congr fun i _ => ?_
  unfold upd
  by_cases q : i = k <;> simp [q]
def st (v : Int64) : Nat := (((XT.ushrL (v * (-7046029254386353131 : Int64)) (32 : Int32)).toInt32) &&& (15 : Int32)).toInt.toNat
theorem st_lt (v : Int64) : st v < 16 := by
  unfold st
  have h := c_mask ((XT.ushrL (v * (-7046029254386353131 : Int64)) (32 : Int32)).toInt32) 15 4 (by decide) (by decide)
  omega
theorem st_eq (v : Int64) : ((XT.ushrL (v * (-7046029254386353131 : Int64)) (32 : Int32)).toInt32) &&& (15 : Int32) = Int32.ofNat (st v) := by
  have h := c_mask ((XT.ushrL (v * (-7046029254386353131 : Int64)) (32 : Int32)).toInt32) 15 4 (by decide) (by decide)
  rw [← Int32.toInt_inj, own_n16 (by have := st_lt v; omega)]
  unfold st
  omega
theorem own_nx {p : Nat} (h : p < 16) : (Int32.ofNat p + (1 : Int32)) &&& (15 : Int32) = Int32.ofNat ((p + 1) % 16) := by
  have hc : p = 0 ∨ p = 1 ∨ p = 2 ∨ p = 3 ∨ p = 4 ∨ p = 5 ∨ p = 6 ∨ p = 7 ∨ p = 8 ∨ p = 9 ∨ p = 10 ∨ p = 11 ∨ p = 12 ∨ p = 13 ∨ p = 14 ∨ p = 15 := by omega
  rcases hc with rfl | rfl | rfl | rfl | rfl | rfl | rfl | rfl | rfl | rfl | rfl | rfl | rfl | rfl | rfl | rfl <;> decide
/-- the slot that is found for v after d steps -/
def Fnd (f : Nat → Int64) (v : Int64) (r : Nat) : Prop := ∃ d, d < 16 ∧ r = (st v + d) % 16 ∧ (∀ e, e < d → f ((st v + e) % 16) ≠ 0 ∧ f ((st v + e) % 16) ≠ v) ∧ (f r = 0 ∨ f r = v)
/-- the table: u places in use, every value reached from its own start -/
def TI (f : Nat → Int64) (u : Nat) : Prop := (∃ P : List Nat, P.length ≤ u ∧ ∀ p, p < 16 → f p ≠ 0 → p ∈ P) ∧ ∀ p, p < 16 → f p ≠ 0 → ∃ d, d < 16 ∧ p = (st (f p) + d) % 16 ∧ ∀ e, e < d → f ((st (f p) + e) % 16) ≠ 0
def mem (f : Nat → Int64) (v : Int64) : Prop := ∃ p, p < 16 ∧ f p = v
theorem own_pig : ∀ (n : Nat) (P : List Nat), P.length < n → ∃ p, p < n ∧ p ∉ P
  | 0, _, h => absurd h (Nat.not_lt_zero _)
  | n + 1, P, h => by
    by_cases q : n ∈ P
    · have h2 : (P.erase n).length < n := by
        rw [List.length_erase_of_mem q]
        have := List.length_pos_of_mem q
        omega
      obtain ⟨p, hp, hn⟩ := own_pig n (P.erase n) h2
      refine ⟨p, by omega, fun hm => hn ?_⟩
      exact (List.mem_erase_of_ne (by omega)).mpr hm
    · exact ⟨n, by omega, q⟩
theorem TI.zero {f : Nat → Int64} {u : Nat} (h : TI f u) (hu : u < 16) : ∃ p, p < 16 ∧ f p = 0 := by
  obtain ⟨⟨P, hl, hP⟩, -⟩ := h
  obtain ⟨p, hp, hn⟩ := own_pig 16 P (by omega)
  refine ⟨p, hp, ?_⟩
  by_cases q : f p = 0
  · exact q
  · exact absurd (hP p hp q) hn
theorem own_d16 {f : Nat → Int64} {v : Int64} {d : Nat} (hz : ∃ p, p < 16 ∧ f p = 0) (h : ∀ e, e < d → f ((st v + e) % 16) ≠ 0 ∧ f ((st v + e) % 16) ≠ v) : d < 16 := by
  obtain ⟨p, hp, hf⟩ := hz
  rcases Nat.lt_or_ge d 16 with q | q
  · exact q
  · have hs := st_lt v
    have := (h ((p + 16 - st v) % 16) (by omega)).1
    have e : (st v + (p + 16 - st v) % 16) % 16 = p := by omega
    rw [e] at this
    exact absurd hf this
theorem Fnd.lt {f : Nat → Int64} {v : Int64} {r : Nat} (h : Fnd f v r) : r < 16 := by
  obtain ⟨d, -, e, -⟩ := h
  omega
theorem Fnd.hit {f : Nat → Int64} {v : Int64} {r u : Nat} (h : Fnd f v r) (T : TI f u) (hv : v ≠ 0) (hm : mem f v) : f r = v := by
  obtain ⟨d, hd, hr, hb, hz⟩ := h
  obtain ⟨p, hp, hf⟩ := hm
  obtain ⟨d2, hd2, he2, hn2⟩ := T.2 p hp (by rw [hf]; exact hv)
  rw [hf] at he2 hn2
  rcases hz with z | z
  · exfalso
    rcases Nat.lt_trichotomy d d2 with q | q | q
    · exact hn2 d q (by rw [← hr]; exact z)
    · subst q
      rw [← he2] at hr
      rw [hr, hf] at z
      exact hv z
    · exact (hb d2 q).2 (by rw [← he2]; exact hf)
  · exact z
theorem Fnd.miss {f : Nat → Int64} {v : Int64} {r : Nat} (h : Fnd f v r) (hm : ¬ mem f v) : f r = 0 := by
  obtain ⟨d, hd, hr, hb, hz⟩ := h
  rcases hz with z | z
  · exact z
  · exact absurd ⟨r, by omega, z⟩ hm
theorem Fnd.ins {f : Nat → Int64} {v : Int64} {r u : Nat} (h : Fnd f v r) (T : TI f u) (hv : v ≠ 0) (hz : f r = 0) : TI (upd f r v) (u + 1) := by
  obtain ⟨d, hd, hr, hb, -⟩ := h
  obtain ⟨⟨P, hl, hP⟩, hR⟩ := T
  have keep : ∀ p, f p ≠ 0 → upd f r v p ≠ 0 := by
    intro p hp
    unfold upd
    split
    · exact hv
    · exact hp
  refine ⟨⟨r :: P, by simp; omega, fun p hp hn => ?_⟩, fun p hp hn => ?_⟩
  · by_cases q : p = r
    · rw [q]; simp
    · unfold upd at hn
      rw [if_neg q] at hn
      exact List.mem_cons_of_mem _ (hP p hp hn)
  · by_cases q : p = r
    · have e : upd f r v p = v := by unfold upd; rw [if_pos q]
      rw [e]
      exact ⟨d, hd, by rw [q]; exact hr, fun e' he => keep _ (hb e' he).1⟩
    · have e : upd f r v p = f p := by unfold upd; rw [if_neg q]
      rw [e] at hn ⊢
      obtain ⟨d2, h1, h2, h3⟩ := hR p hp hn
      exact ⟨d2, h1, h2, fun e' he => keep _ (h3 e' he)⟩
theorem own_memu {f : Nat → Int64} {v w : Int64} {r : Nat} (hr : r < 16) (hz : f r = 0) (hw : w ≠ 0) : mem (upd f r v) w ↔ mem f w ∨ w = v := by
  constructor
  · rintro ⟨p, hp, h⟩
    unfold upd at h
    by_cases q : p = r
    · rw [if_pos q] at h; exact Or.inr h.symm
    · rw [if_neg q] at h; exact Or.inl ⟨p, hp, h⟩
  · rintro (⟨p, hp, h⟩ | h)
    · refine ⟨p, hp, ?_⟩
      unfold upd
      rw [if_neg (fun q => by rw [q] at h; exact hw (h.symm.trans hz))]
      exact h
    · refine ⟨r, hr, ?_⟩
      unfold upd
      rw [if_pos rfl, h]
/-- w has been added -/
def Pres (f : Nat → Int64) (z : Int32) (w : Int64) : Prop := (w = 0 ∧ z = 1) ∨ (w ≠ 0 ∧ mem f w)
/-- what add leaves: c is the count -/
def Add (f : Nat → Int64) (u : Nat) (z : Int32) (v : Int64) (f' : Nat → Int64) (u' : Nat) (z' : Int32) : Prop := TI f' u' ∧ (z' = 0 ∨ z' = 1) ∧ (∀ w, Pres f' z' w ↔ Pres f z w ∨ w = v) ∧ u' ≤ u + 1 ∧ ((Pres f z v ∧ (u' : Int) + z'.toInt = u + z.toInt) ∨ (¬ Pres f z v ∧ (u' : Int) + z'.toInt = u + z.toInt + 1))
theorem add_zero {f : Nat → Int64} {u : Nat} {z : Int32} (T : TI f u) (hz : z = 0 ∨ z = 1) : Add f u z 0 f u 1 := by
  have e1 : (1 : Int32).toInt = 1 := rfl
  have e0 : (0 : Int32).toInt = 0 := rfl
  refine ⟨T, Or.inr rfl, fun w => ?_, by omega, ?_⟩
  · unfold Pres
    by_cases q : w = 0 <;> simp [q]
  · rcases hz with h | h
    · right
      subst h
      exact ⟨by unfold Pres; simp, by rw [e1, e0]; omega⟩
    · left
      subst h
      exact ⟨by unfold Pres; simp, rfl⟩
theorem add_hit {f : Nat → Int64} {u : Nat} {z : Int32} {v : Int64} (T : TI f u) (hz : z = 0 ∨ z = 1) (hv : v ≠ 0) (hm : mem f v) : Add f u z v f u z := by
  refine ⟨T, hz, fun w => ?_, by omega, Or.inl ⟨Or.inr ⟨hv, hm⟩, rfl⟩⟩
  constructor
  · exact Or.inl
  · rintro (h | h)
    · exact h
    · rw [h]; exact Or.inr ⟨hv, hm⟩
theorem add_new {f : Nat → Int64} {u : Nat} {z : Int32} {v : Int64} {r : Nat} (T : TI f u) (F : Fnd f v r) (hz : z = 0 ∨ z = 1) (hv : v ≠ 0) (h0 : f r = 0) : Add f u z v (upd f r v) (u + 1) z := by
  have hm : ¬ mem f v := fun h => by
    have := F.hit T hv h
    rw [h0] at this
    exact hv this.symm
  refine ⟨F.ins T hv h0, hz, fun w => ?_, by omega, Or.inr ⟨?_, by omega⟩⟩
  · unfold Pres
    by_cases q : w = 0
    · subst q
      simp [Ne.symm hv, hv]
    · simp only [q, false_and, false_or, ne_eq, not_false_eq_true, true_and]
      exact own_memu F.lt h0 q
  · unfold Pres
    rintro (h | h)
    · exact hv h.1
    · exact hm h.2

theorem d1_0 : decode method_2_code 0 = .ok (.iload_n 0, 1) := by decide +kernel
theorem d1_1 : decode method_2_code 1 = .ok (.ifCond .ne 5, 3) := by decide +kernel
theorem d1_4 : decode method_2_code 4 = .ok (.lload_n 1, 1) := by decide +kernel
theorem d1_5 : decode method_2_code 5 = .ok (.lreturn, 1) := by decide +kernel
theorem d1_6 : decode method_2_code 6 = .ok (.iload_n 0, 1) := by decide +kernel
theorem d1_7 : decode method_2_code 7 = .ok (.iconst 1, 1) := by decide +kernel
theorem d1_8 : decode method_2_code 8 = .ok (.if_icmp .ne 5, 3) := by decide +kernel
theorem d1_11 : decode method_2_code 11 = .ok (.lload_n 3, 1) := by decide +kernel
theorem d1_12 : decode method_2_code 12 = .ok (.lreturn, 1) := by decide +kernel
theorem d1_13 : decode method_2_code 13 = .ok (.iload_n 0, 1) := by decide +kernel
theorem d1_14 : decode method_2_code 14 = .ok (.iconst 2, 1) := by decide +kernel
theorem d1_15 : decode method_2_code 15 = .ok (.if_icmp .ne 6, 3) := by decide +kernel
theorem d1_18 : decode method_2_code 18 = .ok (.lload 5, 2) := by decide +kernel
theorem d1_20 : decode method_2_code 20 = .ok (.lreturn, 1) := by decide +kernel
theorem d1_21 : decode method_2_code 21 = .ok (.lload 7, 2) := by decide +kernel
theorem d1_23 : decode method_2_code 23 = .ok (.lreturn, 1) := by decide +kernel
theorem pn0 : plainFor (⟨"com/example/skipstone/skipstone/prune/DistinctHashesCountPinLaw", "pick", "(IJJJJ)J"⟩ : MethodName) = true := by first | (refine plainFor_of_name ?_; simp [plainName, overriddenIn]; done) | (refine plainFor_of_name ?_; decide +kernel) | decide +kernel
def fPick (x0 : Int32) (x1 : Int64) (x2 : Int64) (x3 : Int64) (x4 : Int64) : Int64 := (if x0 = (0 : Int32) then x1 else (if x0 = (1 : Int32) then x2 else (if x0 = (2 : Int32) then x3 else x4)))
theorem ef_1 (m : MethodId) (x0 : Int32) (x1 : Int64) (x2 : Int64) (x3 : Int64) (x4 : Int64) : entryFrame m #[(.int x0), (.long x1), (.long x2), (.long x3), (.long x4)] 9 = mkF m 0 #[.val (.int x0), .val (.long x1), .second, .val (.long x2), .second, .val (.long x3), .second, .val (.long x4), .second] [] := by first | (simp [entryFrame, mkF, argsToLocals, Value.category]; done) | rfl
abbrev rm_1 : Room := ({ frames := 0, cells := 0, slots := 0, locals := 0 } : Room)
set_option maxRecDepth 65536 in
set_option maxHeartbeats 4000000 in
theorem met_1 (l : Launch) (Z : State) (a0 : Array Value) (hw : ∀ d ∈ tables_1, d.before a0 Z = true) (x0 : Int32) (x1 : Int64) (x2 : Int64) (x3 : Int64) (x4 : Int64) (h0 : Heap) (n0 : Nat) :
    Met l (⟨"com/example/skipstone/skipstone/prune/DistinctHashesCountPinLaw", "pick", "(IJJJJ)J"⟩ : MethodName) method_2_code 9 (some FieldType.long) [] rm_1 Z #[(.int x0), (.long x1), (.long x2), (.long x3), (.long x4)] h0 (QV (some (.long (fPick x0 x1 x2 x3 x4))) h0 n0) 0 0 := by
  refine own_body pn0 ?_
  intro p e s m below meth c s₁ ct X0 e0
  have ct0 := ct
  obtain ⟨hx, hZ, hown, hby, hml, hret, hlk, hnm⟩ := ct
  have N0 := Fr.nil n0
  refine castGo (ef_1 m x0 x1 x2 x3 x4) ?_
  unfold fPick
  show Go p e below s _ _ _ s₁ (mkF m 0 #[.val (.int x0), .val (.long x1), .second, .val (.long x2), .second, .val (.long x3), .second, .val (.long x4), .second] [])
  refine go_st (fun _ kq => XS.iloadN X0.here hx rfl (hb hby d1_0) rfl kq) ?_
  show Go p e below s _ _ _ s₁ (mkF m 1 #[.val (.int x0), .val (.long x1), .second, .val (.long x2), .second, .val (.long x3), .second, .val (.long x4), .second] [(.int x0)])
  by_cases hc1 : x0 = (0 : Int32)
  · rw [if_pos hc1]
    refine go_st (fun _ kq => XS.ifNo X0.here hx rfl (hb hby d1_1) rfl (XT.i0_ne_f hc1) kq) ?_
    show Go p e below s _ _ _ s₁ (mkF m 4 #[.val (.int x0), .val (.long x1), .second, .val (.long x2), .second, .val (.long x3), .second, .val (.long x4), .second] [])
    refine go_st (fun _ kq => XT.lloadN X0.here hx rfl (hb hby d1_4) rfl kq) ?_
    show Go p e below s _ _ _ s₁ (mkF m 5 #[.val (.int x0), .val (.long x1), .second, .val (.long x2), .second, .val (.long x3), .second, .val (.long x4), .second] [(.long x1)])
    exact go_retL X0 hx hlk hret (hb hby d1_5) (by decide) (by decide) ⟨rfl, N0, e0⟩
  · rw [if_neg hc1]
    refine go_st (fun _ kq => XS.ifYes X0.here hx rfl (pc0 := 1) (pc' := 6) rfl (hb hby d1_1) rfl (XT.i0_ne_t hc1) (by decide) (by decide) kq) ?_
    show Go p e below s _ _ _ s₁ (mkF m 6 #[.val (.int x0), .val (.long x1), .second, .val (.long x2), .second, .val (.long x3), .second, .val (.long x4), .second] [])
    refine go_st (fun _ kq => XS.iloadN X0.here hx rfl (hb hby d1_6) rfl kq) ?_
    show Go p e below s _ _ _ s₁ (mkF m 7 #[.val (.int x0), .val (.long x1), .second, .val (.long x2), .second, .val (.long x3), .second, .val (.long x4), .second] [(.int x0)])
    refine go_st (fun _ kq => XT.iconstV X0.here hx rfl (1 : Int32) (hb hby d1_7) (by decide) kq) ?_
    show Go p e below s _ _ _ s₁ (mkF m 8 #[.val (.int x0), .val (.long x1), .second, .val (.long x2), .second, .val (.long x3), .second, .val (.long x4), .second] [(.int (1 : Int32)), (.int x0)])
    by_cases hc2 : x0 = (1 : Int32)
    · rw [if_pos hc2]
      refine go_st (fun _ kq => XS.icmpNo X0.here hx rfl (hb hby d1_8) rfl (XT.ii_ne_f hc2) kq) ?_
      show Go p e below s _ _ _ s₁ (mkF m 11 #[.val (.int x0), .val (.long x1), .second, .val (.long x2), .second, .val (.long x3), .second, .val (.long x4), .second] [])
      refine go_st (fun _ kq => XT.lloadN X0.here hx rfl (hb hby d1_11) rfl kq) ?_
      show Go p e below s _ _ _ s₁ (mkF m 12 #[.val (.int x0), .val (.long x1), .second, .val (.long x2), .second, .val (.long x3), .second, .val (.long x4), .second] [(.long x2)])
      exact go_retL X0 hx hlk hret (hb hby d1_12) (by decide) (by decide) ⟨rfl, N0, e0⟩
    · rw [if_neg hc2]
      refine go_st (fun _ kq => XS.icmpYes X0.here hx rfl (pc0 := 8) (pc' := 13) rfl (hb hby d1_8) rfl (XT.ii_ne_t hc2) (by decide) (by decide) kq) ?_
      show Go p e below s _ _ _ s₁ (mkF m 13 #[.val (.int x0), .val (.long x1), .second, .val (.long x2), .second, .val (.long x3), .second, .val (.long x4), .second] [])
      refine go_st (fun _ kq => XS.iloadN X0.here hx rfl (hb hby d1_13) rfl kq) ?_
      show Go p e below s _ _ _ s₁ (mkF m 14 #[.val (.int x0), .val (.long x1), .second, .val (.long x2), .second, .val (.long x3), .second, .val (.long x4), .second] [(.int x0)])
      refine go_st (fun _ kq => XT.iconstV X0.here hx rfl (2 : Int32) (hb hby d1_14) (by decide) kq) ?_
      show Go p e below s _ _ _ s₁ (mkF m 15 #[.val (.int x0), .val (.long x1), .second, .val (.long x2), .second, .val (.long x3), .second, .val (.long x4), .second] [(.int (2 : Int32)), (.int x0)])
      by_cases hc3 : x0 = (2 : Int32)
      · rw [if_pos hc3]
        refine go_st (fun _ kq => XS.icmpNo X0.here hx rfl (hb hby d1_15) rfl (XT.ii_ne_f hc3) kq) ?_
        show Go p e below s _ _ _ s₁ (mkF m 18 #[.val (.int x0), .val (.long x1), .second, .val (.long x2), .second, .val (.long x3), .second, .val (.long x4), .second] [])
        refine go_st (fun _ kq => XT.lload X0.here hx rfl (hb hby d1_18) rfl kq) ?_
        show Go p e below s _ _ _ s₁ (mkF m 20 #[.val (.int x0), .val (.long x1), .second, .val (.long x2), .second, .val (.long x3), .second, .val (.long x4), .second] [(.long x3)])
        exact go_retL X0 hx hlk hret (hb hby d1_20) (by decide) (by decide) ⟨rfl, N0, e0⟩
      · rw [if_neg hc3]
        refine go_st (fun _ kq => XS.icmpYes X0.here hx rfl (pc0 := 15) (pc' := 21) rfl (hb hby d1_15) rfl (XT.ii_ne_t hc3) (by decide) (by decide) kq) ?_
        show Go p e below s _ _ _ s₁ (mkF m 21 #[.val (.int x0), .val (.long x1), .second, .val (.long x2), .second, .val (.long x3), .second, .val (.long x4), .second] [])
        refine go_st (fun _ kq => XT.lload X0.here hx rfl (hb hby d1_21) rfl kq) ?_
        show Go p e below s _ _ _ s₁ (mkF m 23 #[.val (.int x0), .val (.long x1), .second, .val (.long x2), .second, .val (.long x3), .second, .val (.long x4), .second] [(.long x4)])
        exact go_retL X0 hx hlk hret (hb hby d1_23) (by decide) (by decide) ⟨rfl, N0, e0⟩
theorem d2_0 : decode prog_20_method_1_code 0 = .ok (.aload_n 0, 1) := by decide +kernel
theorem d2_1 : decode prog_20_method_1_code 1 = .ok (.invokespecial 1, 3) := by decide +kernel
theorem d2_4 : decode prog_20_method_1_code 4 = .ok (.aload_n 0, 1) := by decide +kernel
theorem d2_5 : decode prog_20_method_1_code 5 = .ok (.bipush 16, 2) := by decide +kernel
theorem d2_7 : decode prog_20_method_1_code 7 = .ok (.newarray .long, 2) := by decide +kernel
theorem d2_9 : decode prog_20_method_1_code 9 = .ok (.putfield 7, 3) := by decide +kernel
theorem d2_12 : decode prog_20_method_1_code 12 = .ok (.return_, 1) := by decide +kernel
theorem pn1 : plainFor (⟨"com/example/skipstone/skipstone/prune/DistinctHashes", "<init>", "()V"⟩ : MethodName) = true := by first | (refine plainFor_of_name ?_; simp [plainName, overriddenIn]; done) | (refine plainFor_of_name ?_; decide +kernel) | decide +kernel
def Q_ini (Z : State) (a : Addr) (h0 : Heap) (n0 : Nat) (v : Option Value) (h : Heap) (L : List Loc) : Prop := ∃ sl : Addr, v = none ∧ Fr n0 L ∧ Keep h0 h [a] ∧ h0.size ≤ sl ∧ (a ≠ sl) ∧ Exa Z h a "com/example/skipstone/skipstone/prune/DistinctHashes" ∧ Fld Z h a "com/example/skipstone/skipstone/prune/DistinctHashes" "slots" "[J" (.ref sl) ∧ Fld Z h a "com/example/skipstone/skipstone/prune/DistinctHashes" "slotsUsed" "I" (.int (0 : Int32)) ∧ Fld Z h a "com/example/skipstone/skipstone/prune/DistinctHashes" "holdsZero" "Z" (.int (0 : Int32)) ∧ GA Z h sl .long 16 (fun i => .long ((fun _ => (0 : Int64)) i))
theorem ef_ini (m : MethodId) (a : Addr) : entryFrame m #[(.ref a)] 1 = mkF m 0 #[.val (.ref a)] [] := by first | (simp [entryFrame, mkF, argsToLocals, Value.category]; done) | rfl
abbrev rm_ini : Room := ({ frames := 1, cells := 1, slots := 16, locals := 12 } : Room)
set_option maxRecDepth 65536 in
set_option maxHeartbeats 4000000 in
theorem met_ini (l : Launch) (Z : State) (a0 : Array Value) (hw : ∀ d ∈ tables_1, d.before a0 Z = true) (a : Addr) (h0 : Heap) (n0 : Nat) (Z0 : n0 ≤ h0.size) (P0 : Fld Z h0 a "com/example/skipstone/skipstone/prune/DistinctHashes" "slots" "[J" .null) (P1 : Fld Z h0 a "com/example/skipstone/skipstone/prune/DistinctHashes" "slotsUsed" "I" (.int (0 : Int32))) (P2 : Fld Z h0 a "com/example/skipstone/skipstone/prune/DistinctHashes" "holdsZero" "Z" (.int (0 : Int32))) (P3 : Exa Z h0 a "com/example/skipstone/skipstone/prune/DistinctHashes") (P4 : n0 ≤ a) :
    Met l (⟨"com/example/skipstone/skipstone/prune/DistinctHashes", "<init>", "()V"⟩ : MethodName) prog_20_method_1_code 1 none [] rm_ini Z #[(.ref a)] h0 (Q_ini Z a h0 n0) rm_ini.cells rm_ini.slots := by
  refine own_body pn1 ?_
  intro p e s m below meth c s₁ ct X0 e0
  have ct0 := ct
  obtain ⟨hx, hZ, hown, hby, hml, hret, hlk, hnm⟩ := ct
  have lt_a : a < h0.size := P3.lt
  have N0 := Fr.nil n0
  refine castGo (ef_ini m a) ?_
  show Go p e below s _ _ _ s₁ (mkF m 0 #[.val (.ref a)] [])
  refine go_st (fun _ kq => XS.aloadN X0.here hx rfl (hb hby d2_0) rfl rfl kq) ?_
  show Go p e below s _ _ _ s₁ (mkF m 1 #[.val (.ref a)] [(.ref a)])
  refine go_initO X0 hx hZ hml hown (hw _ (List.mem_of_getElem? (i := 10) rfl)) (hw _ (List.mem_of_getElem? (i := 11) rfl)) (hw _ (List.mem_of_getElem? (i := 12) rfl)) e0 (hb hby d2_1) rfl rfl rfl (by decide) (W := 0) (by show 2 * 0 + _ ≤ _; exact Nat.le_of_eq rfl) (by decide) ?_
  intro T4 X4 e4
  show Go p e below s _ _ _ T4 (mkF m 4 #[.val (.ref a)] [])
  refine go_st (fun _ kq => XS.aloadN X4.here hx rfl (hb hby d2_4) rfl rfl kq) ?_
  show Go p e below s _ _ _ T4 (mkF m 5 #[.val (.ref a)] [(.ref a)])
  refine go_st (fun _ kq => XT.bipushV X4.here hx rfl (16 : Int32) (hb hby d2_5) (by decide) kq) ?_
  show Go p e below s _ _ _ T4 (mkF m 7 #[.val (.ref a)] [(.int (16 : Int32)), (.ref a)])
  refine go_newP X4 hx hZ (hw _ (List.mem_of_getElem? (i := 13) rfl)) e4 (hb hby d2_7) rfl rfl 16 (by decide) 16 (Nat.le_refl _) (by decide) (by decide) (by decide) ?_
  intro T5 h5 a5 g5 X5 e5 E5 G5
  have ne6 : a ≠ a5 := fun q => Nat.lt_irrefl _ (Nat.lt_of_lt_of_le lt_a (Nat.le_of_eq (g5.symm.trans q.symm)))
  have nw_a5 : n0 ≤ a5 := Nat.le_trans Z0 (Nat.le_of_eq g5.symm)
  have lt_a5 : a5 < h5.size := G5.lt
  have A5 : GA Z h5 a5 .long 16 (fun i => .long ((fun _ => (0 : Int64)) i)) := G5
  show Go p e below s _ _ _ T5 (mkF m 9 #[.val (.ref a)] [(.ref a5), (.ref a)])
  have c7 := Fld.ext E5 P0
  have c8 := Exa.ext E5 P3
  refine go_putF X5 hx hZ hown (host := "") (Or.inl (hw _ (List.mem_of_getElem? (i := 14) rfl))) Via.refl e5 c7 c8 (Or.inl (hw _ (List.mem_of_getElem? (i := 15) rfl))) (hw _ (List.mem_of_getElem? (i := 5) rfl)) (ty := (.array .long)) (by decide) rfl rfl (hb hby d2_9) rfl rfl ?_
  intro T9 h9 X9 e9 W9
  have N9 := Fr.snoc X9 N0 P4
  have F9 : Fld Z h9 a "com/example/skipstone/skipstone/prune/DistinctHashes" "slots" "[J" (.ref a5) := Fld.same W9 c7
  show Go p e below s _ _ _ T9 (mkF m 12 #[.val (.ref a)] [])
  have c10 := Exa.wr W9 c8
  have c11 := Fld.ext E5 P1
  have c12 := Fld.other W9 c11 (Or.inr (slot_ne (a0 := a0) (t := .int) (t' := (.array .long)) (Or.inl (hw _ (List.mem_of_getElem? (i := 22) rfl))) (Or.inl (hw _ (List.mem_of_getElem? (i := 15) rfl))) (by decide) (by decide) (by decide)))
  have c13 := Fld.ext E5 P2
  have c14 := Fld.other W9 c13 (Or.inr (slot_ne (a0 := a0) (t := .boolean) (t' := (.array .long)) (Or.inl (hw _ (List.mem_of_getElem? (i := 24) rfl))) (Or.inl (hw _ (List.mem_of_getElem? (i := 15) rfl))) (by decide) (by decide) (by decide)))
  have c15 := A5.other W9 (Ne.symm ne6)
  exact go_ret0 X9 hx hlk hret (hb hby d2_12) (by decide) (by decide) (by rw [e9]; exact ⟨a5, rfl, N9, (Keep.wr (Keep.ext (Keep.refl h0 [a]) E5) W9 (Or.inl (by simp))), (Nat.le_trans (Nat.le_refl _) (Nat.le_of_eq g5.symm)), ne6, c10, F9, c12, c14, c15⟩)
theorem d4_0 : decode prog_20_method_3_code 0 = .ok (.aload_n 0, 1) := by decide +kernel
theorem d4_1 : decode prog_20_method_3_code 1 = .ok (.getfield 17, 3) := by decide +kernel
theorem d4_4 : decode prog_20_method_3_code 4 = .ok (.aload_n 0, 1) := by decide +kernel
theorem d4_5 : decode prog_20_method_3_code 5 = .ok (.getfield 13, 3) := by decide +kernel
theorem d4_8 : decode prog_20_method_3_code 8 = .ok (.ifCond .eq 7, 3) := by decide +kernel
theorem d4_11 : decode prog_20_method_3_code 11 = .ok (.iconst 1, 1) := by decide +kernel
theorem d4_12 : decode prog_20_method_3_code 12 = .ok (.goto 4, 3) := by decide +kernel
theorem d4_15 : decode prog_20_method_3_code 15 = .ok (.iconst 0, 1) := by decide +kernel
theorem d4_16 : decode prog_20_method_3_code 16 = .ok (.iadd, 1) := by decide +kernel
theorem d4_17 : decode prog_20_method_3_code 17 = .ok (.ireturn, 1) := by decide +kernel
theorem pn2 : plainFor (⟨"com/example/skipstone/skipstone/prune/DistinctHashes", "count", "()I"⟩ : MethodName) = true := by first | (refine plainFor_of_name ?_; simp [plainName, overriddenIn]; done) | (refine plainFor_of_name ?_; decide +kernel) | decide +kernel
def fCnt (u : Int32) (z : Int32) : Int32 := (if z = (0 : Int32) then (u + (0 : Int32)) else (u + (1 : Int32)))
theorem ef_4 (m : MethodId) (a : Addr) (u : Int32) (z : Int32) : entryFrame m #[(.ref a)] 1 = mkF m 0 #[.val (.ref a)] [] := by first | (simp [entryFrame, mkF, argsToLocals, Value.category]; done) | rfl
abbrev rm_4 : Room := ({ frames := 0, cells := 0, slots := 0, locals := 0 } : Room)
set_option maxRecDepth 65536 in
set_option maxHeartbeats 4000000 in
theorem met_4 (l : Launch) (Z : State) (a0 : Array Value) (hw : ∀ d ∈ tables_1, d.before a0 Z = true) (a : Addr) (u : Int32) (z : Int32) (h0 : Heap) (n0 : Nat) (Z0 : n0 ≤ h0.size) (P0 : Fld Z h0 a "com/example/skipstone/skipstone/prune/DistinctHashes" "slotsUsed" "I" (.int u)) (P1 : Fld Z h0 a "com/example/skipstone/skipstone/prune/DistinctHashes" "holdsZero" "Z" (.int z)) :
    Met l (⟨"com/example/skipstone/skipstone/prune/DistinctHashes", "count", "()I"⟩ : MethodName) prog_20_method_3_code 1 (some FieldType.int) [] rm_4 Z #[(.ref a)] h0 (QV (some (.int (fCnt u z))) h0 n0) 0 0 := by
  refine own_body pn2 ?_
  intro p e s m below meth c s₁ ct X0 e0
  have ct0 := ct
  obtain ⟨hx, hZ, hown, hby, hml, hret, hlk, hnm⟩ := ct
  have N0 := Fr.nil n0
  refine castGo (ef_4 m a u z) ?_
  unfold fCnt
  show Go p e below s _ _ _ s₁ (mkF m 0 #[.val (.ref a)] [])
  refine go_st (fun _ kq => XS.aloadN X0.here hx rfl (hb hby d4_0) rfl rfl kq) ?_
  show Go p e below s _ _ _ s₁ (mkF m 1 #[.val (.ref a)] [(.ref a)])
  refine go_getF X0 hx hZ hown (host := "") (Or.inl (hw _ (List.mem_of_getElem? (i := 21) rfl))) Via.refl e0 P0 (hb hby d4_1) rfl rfl ?_
  intro T16 X16 e16
  show Go p e below s _ _ _ T16 (mkF m 4 #[.val (.ref a)] [(.int u)])
  refine go_st (fun _ kq => XS.aloadN X16.here hx rfl (hb hby d4_4) rfl rfl kq) ?_
  show Go p e below s _ _ _ T16 (mkF m 5 #[.val (.ref a)] [(.ref a), (.int u)])
  refine go_getF X16 hx hZ hown (host := "") (Or.inl (hw _ (List.mem_of_getElem? (i := 23) rfl))) Via.refl e16 P1 (hb hby d4_5) rfl rfl ?_
  intro T17 X17 e17
  show Go p e below s _ _ _ T17 (mkF m 8 #[.val (.ref a)] [(.int z), (.int u)])
  by_cases hc18 : z = (0 : Int32)
  · rw [if_pos hc18]
    refine go_st (fun _ kq => XS.ifYes X17.here hx rfl (pc0 := 8) (pc' := 15) rfl (hb hby d4_8) rfl (XT.i0_eq_t hc18) (by decide) (by decide) kq) ?_
    show Go p e below s _ _ _ T17 (mkF m 15 #[.val (.ref a)] [(.int u)])
    refine go_st (fun _ kq => XT.iconstV X17.here hx rfl (0 : Int32) (hb hby d4_15) (by decide) kq) ?_
    show Go p e below s _ _ _ T17 (mkF m 16 #[.val (.ref a)] [(.int (0 : Int32)), (.int u)])
    refine go_st (fun _ kq => XS.iadd X17.here hx rfl (hb hby d4_16) rfl kq) ?_
    show Go p e below s _ _ _ T17 (mkF m 17 #[.val (.ref a)] [(.int (u + (0 : Int32)))])
    exact go_retI X17 hx hlk hret (hb hby d4_17) (by decide) (by decide) ⟨rfl, N0, e17⟩
  · rw [if_neg hc18]
    refine go_st (fun _ kq => XS.ifNo X17.here hx rfl (hb hby d4_8) rfl (XT.i0_eq_f hc18) kq) ?_
    show Go p e below s _ _ _ T17 (mkF m 11 #[.val (.ref a)] [(.int u)])
    refine go_st (fun _ kq => XT.iconstV X17.here hx rfl (1 : Int32) (hb hby d4_11) (by decide) kq) ?_
    show Go p e below s _ _ _ T17 (mkF m 12 #[.val (.ref a)] [(.int (1 : Int32)), (.int u)])
    refine go_st (fun _ kq => XS.goto X17.here hx rfl (pc0 := 12) (pc' := 16) rfl (hb hby d4_12) (by decide) (by decide) kq) ?_
    show Go p e below s _ _ _ T17 (mkF m 16 #[.val (.ref a)] [(.int (1 : Int32)), (.int u)])
    refine go_st (fun _ kq => XS.iadd X17.here hx rfl (hb hby d4_16) rfl kq) ?_
    show Go p e below s _ _ _ T17 (mkF m 17 #[.val (.ref a)] [(.int (u + (1 : Int32)))])
    exact go_retI X17 hx hlk hret (hb hby d4_17) (by decide) (by decide) ⟨rfl, N0, e17⟩
theorem d6_0 : decode prog_20_method_6_code 0 = .ok (.aload_n 0, 1) := by decide +kernel
theorem d6_1 : decode prog_20_method_6_code 1 = .ok (.arraylength, 1) := by decide +kernel
theorem d6_2 : decode prog_20_method_6_code 2 = .ok (.iconst 1, 1) := by decide +kernel
theorem d6_3 : decode prog_20_method_6_code 3 = .ok (.isub, 1) := by decide +kernel
theorem d6_4 : decode prog_20_method_6_code 4 = .ok (.istore_n 3, 1) := by decide +kernel
theorem d6_5 : decode prog_20_method_6_code 5 = .ok (.lload_n 1, 1) := by decide +kernel
theorem d6_6 : decode prog_20_method_6_code 6 = .ok (.ldc2_w 58, 3) := by decide +kernel
theorem d6_9 : decode prog_20_method_6_code 9 = .ok (.lmul, 1) := by decide +kernel
theorem d6_10 : decode prog_20_method_6_code 10 = .ok (.bipush 32, 2) := by decide +kernel
theorem d6_12 : decode prog_20_method_6_code 12 = .ok (.lushr, 1) := by decide +kernel
theorem d6_13 : decode prog_20_method_6_code 13 = .ok (.l2i, 1) := by decide +kernel
theorem d6_14 : decode prog_20_method_6_code 14 = .ok (.iload_n 3, 1) := by decide +kernel
theorem d6_15 : decode prog_20_method_6_code 15 = .ok (.iand, 1) := by decide +kernel
theorem d6_16 : decode prog_20_method_6_code 16 = .ok (.istore 4, 2) := by decide +kernel
theorem d6_18 : decode prog_20_method_6_code 18 = .ok (.aload_n 0, 1) := by decide +kernel
theorem d6_19 : decode prog_20_method_6_code 19 = .ok (.iload 4, 2) := by decide +kernel
theorem d6_21 : decode prog_20_method_6_code 21 = .ok (.laload, 1) := by decide +kernel
theorem d6_22 : decode prog_20_method_6_code 22 = .ok (.lconst 0, 1) := by decide +kernel
theorem d6_23 : decode prog_20_method_6_code 23 = .ok (.lcmp, 1) := by decide +kernel
theorem d6_24 : decode prog_20_method_6_code 24 = .ok (.ifCond .eq 23, 3) := by decide +kernel
theorem d6_27 : decode prog_20_method_6_code 27 = .ok (.aload_n 0, 1) := by decide +kernel
theorem d6_28 : decode prog_20_method_6_code 28 = .ok (.iload 4, 2) := by decide +kernel
theorem d6_30 : decode prog_20_method_6_code 30 = .ok (.laload, 1) := by decide +kernel
theorem d6_31 : decode prog_20_method_6_code 31 = .ok (.lload_n 1, 1) := by decide +kernel
theorem d6_32 : decode prog_20_method_6_code 32 = .ok (.lcmp, 1) := by decide +kernel
theorem d6_33 : decode prog_20_method_6_code 33 = .ok (.ifCond .eq 14, 3) := by decide +kernel
theorem d6_36 : decode prog_20_method_6_code 36 = .ok (.iload 4, 2) := by decide +kernel
theorem d6_38 : decode prog_20_method_6_code 38 = .ok (.iconst 1, 1) := by decide +kernel
theorem d6_39 : decode prog_20_method_6_code 39 = .ok (.iadd, 1) := by decide +kernel
theorem d6_40 : decode prog_20_method_6_code 40 = .ok (.iload_n 3, 1) := by decide +kernel
theorem d6_41 : decode prog_20_method_6_code 41 = .ok (.iand, 1) := by decide +kernel
theorem d6_42 : decode prog_20_method_6_code 42 = .ok (.istore 4, 2) := by decide +kernel
theorem d6_44 : decode prog_20_method_6_code 44 = .ok (.goto (-26), 3) := by decide +kernel
theorem d6_47 : decode prog_20_method_6_code 47 = .ok (.iload 4, 2) := by decide +kernel
theorem d6_49 : decode prog_20_method_6_code 49 = .ok (.ireturn, 1) := by decide +kernel
theorem pn3 : plainFor (⟨"com/example/skipstone/skipstone/prune/DistinctHashes", "find", "([JJ)I"⟩ : MethodName) = true := by first | (refine plainFor_of_name ?_; simp [plainName, overriddenIn]; done) | (refine plainFor_of_name ?_; decide +kernel) | decide +kernel
def Q_find (Z : State) (sl : Addr) (vv : Int64) (f : Nat → Int64) (h0 : Heap) (n0 : Nat) (v : Option Value) (h : Heap) (L : List Loc) : Prop := ∃ r : Nat, v = some (.int (Int32.ofNat r)) ∧ Fr n0 L ∧ Keep h0 h [] ∧ (Fnd f vv r)
theorem ef_find (m : MethodId) (sl : Addr) (vv : Int64) (f : Nat → Int64) : entryFrame m #[(.ref sl), (.long vv)] 5 = mkF m 0 #[.val (.ref sl), .val (.long vv), .second, .unset, .unset] [] := by first | (simp [entryFrame, mkF, argsToLocals, Value.category]; done) | rfl
abbrev rm_find : Room := ({ frames := 0, cells := 0, slots := 0, locals := 0 } : Room)
set_option maxRecDepth 65536 in
set_option maxHeartbeats 4000000 in
theorem find_loop (l : Launch) (Z : State) (a0 : Array Value) (hw : ∀ d ∈ tables_1, d.before a0 Z = true) {p : Program} {e : Env} {s : State} {m : MethodId} {args : Array Value} {below : List Frame} {meth : Method} {c : Code} (ct : Ct p s m meth c Z "com/example/skipstone/skipstone/prune/DistinctHashes" "find" prog_20_method_6_code 5 (some FieldType.int)) {sl : Addr} {vv : Int64} {f : Nat → Int64} {n0 : Nat} {h0 : Heap} (hz : ∃ p, p < 16 ∧ f p = 0) : ∀ (n d : Nat), 16 < d + n → (∀ e, e < d → f ((st vv + e) % 16) ≠ 0 ∧ f ((st vv + e) % 16) ≠ vv) → ∀ {T0 : State} {locs : List Loc}, Stand p l e rm_find s m args below meth c T0 locs 0 0 → T0.heap = h0 → Fr n0 locs → GA Z h0 sl .long 16 (fun i => .long (f i)) →
    Go p e below s (Q_find Z sl vv f h0 n0) 0 0 T0 (mkF m 18 #[.val (.ref sl), .val (.long vv), .second, .val (.int (15 : Int32)), .val (.int (Int32.ofNat ((st vv + d) % 16)))] [])
  | 0, d, hn, hbb, _, _, _, _, _, _ => absurd (own_d16 hz hbb) (by omega)
  | n + 1, d, hn, hbb, T0, locs, X0, e0, N0, G => by
    have ct0 := ct
    have hp : (st vv + d) % 16 < 16 := Nat.mod_lt _ (by decide)
    obtain ⟨hx, hZ, hown, hby, hml, hret, hlk, hnm⟩ := ct
    show Go p e below s _ _ _ T0 (mkF m 18 #[.val (.ref sl), .val (.long vv), .second, .val (.int (15 : Int32)), .val (.int (Int32.ofNat ((st vv + d) % 16)))] [])
    refine go_st (fun _ kq => XS.aloadN X0.here hx rfl (hb hby d6_18) rfl rfl kq) ?_
    show Go p e below s _ _ _ T0 (mkF m 19 #[.val (.ref sl), .val (.long vv), .second, .val (.int (15 : Int32)), .val (.int (Int32.ofNat ((st vv + d) % 16)))] [(.ref sl)])
    refine go_st (fun _ kq => XS.iload X0.here hx rfl (hb hby d6_19) rfl kq) ?_
    show Go p e below s _ _ _ T0 (mkF m 21 #[.val (.ref sl), .val (.long vv), .second, .val (.int (15 : Int32)), .val (.int (Int32.ofNat ((st vv + d) % 16)))] [(.int (Int32.ofNat ((st vv + d) % 16))), (.ref sl)])
    refine go_lald X0 hx hZ e0 G (hb hby d6_21) rfl rfl (own_i16 hp) (.long (f ((st vv + d) % 16))) (by rw [own_cl16 (by omega)]) ?_
    show Go p e below s _ _ _ T0 (mkF m 22 #[.val (.ref sl), .val (.long vv), .second, .val (.int (15 : Int32)), .val (.int (Int32.ofNat ((st vv + d) % 16)))] [(.long (f ((st vv + d) % 16)))])
    refine go_st (fun _ kq => XT.lconstV X0.here hx rfl (0 : Int64) (hb hby d6_22) (by decide) kq) ?_
    show Go p e below s _ _ _ T0 (mkF m 23 #[.val (.ref sl), .val (.long vv), .second, .val (.int (15 : Int32)), .val (.int (Int32.ofNat ((st vv + d) % 16)))] [(.long (0 : Int64)), (.long (f ((st vv + d) % 16)))])
    refine go_st (fun _ kq => XT.lcmp X0.here hx rfl (hb hby d6_23) rfl kq) ?_
    show Go p e below s _ _ _ T0 (mkF m 24 #[.val (.ref sl), .val (.long vv), .second, .val (.int (15 : Int32)), .val (.int (Int32.ofNat ((st vv + d) % 16)))] [(.int (XT.cmpL (f ((st vv + d) % 16)) (0 : Int64)))])
    by_cases hc19 : (f ((st vv + d) % 16)) = (0 : Int64)
    · refine go_st (fun _ kq => XS.ifYes X0.here hx rfl (pc0 := 24) (pc' := 47) rfl (hb hby d6_24) rfl (XT.ll_eq_t hc19) (by decide) (by decide) kq) ?_
      show Go p e below s _ _ _ T0 (mkF m 47 #[.val (.ref sl), .val (.long vv), .second, .val (.int (15 : Int32)), .val (.int (Int32.ofNat ((st vv + d) % 16)))] [])
      refine go_st (fun _ kq => XS.iload X0.here hx rfl (hb hby d6_47) rfl kq) ?_
      show Go p e below s _ _ _ T0 (mkF m 49 #[.val (.ref sl), .val (.long vv), .second, .val (.int (15 : Int32)), .val (.int (Int32.ofNat ((st vv + d) % 16)))] [(.int (Int32.ofNat ((st vv + d) % 16)))])
      exact go_retI X0 hx hlk hret (hb hby d6_49) (by decide) (by decide) (by rw [e0]; exact ⟨_, rfl, N0, Keep.refl _ _, ⟨d, own_d16 hz hbb, rfl, hbb, (Or.inl hc19)⟩⟩)
    · refine go_st (fun _ kq => XS.ifNo X0.here hx rfl (hb hby d6_24) rfl (XT.ll_eq_f hc19) kq) ?_
      show Go p e below s _ _ _ T0 (mkF m 27 #[.val (.ref sl), .val (.long vv), .second, .val (.int (15 : Int32)), .val (.int (Int32.ofNat ((st vv + d) % 16)))] [])
      refine go_st (fun _ kq => XS.aloadN X0.here hx rfl (hb hby d6_27) rfl rfl kq) ?_
      show Go p e below s _ _ _ T0 (mkF m 28 #[.val (.ref sl), .val (.long vv), .second, .val (.int (15 : Int32)), .val (.int (Int32.ofNat ((st vv + d) % 16)))] [(.ref sl)])
      refine go_st (fun _ kq => XS.iload X0.here hx rfl (hb hby d6_28) rfl kq) ?_
      show Go p e below s _ _ _ T0 (mkF m 30 #[.val (.ref sl), .val (.long vv), .second, .val (.int (15 : Int32)), .val (.int (Int32.ofNat ((st vv + d) % 16)))] [(.int (Int32.ofNat ((st vv + d) % 16))), (.ref sl)])
      refine go_lald X0 hx hZ e0 G (hb hby d6_30) rfl rfl (own_i16 hp) (.long (f ((st vv + d) % 16))) (by rw [own_cl16 (by omega)]) ?_
      show Go p e below s _ _ _ T0 (mkF m 31 #[.val (.ref sl), .val (.long vv), .second, .val (.int (15 : Int32)), .val (.int (Int32.ofNat ((st vv + d) % 16)))] [(.long (f ((st vv + d) % 16)))])
      refine go_st (fun _ kq => XT.lloadN X0.here hx rfl (hb hby d6_31) rfl kq) ?_
      show Go p e below s _ _ _ T0 (mkF m 32 #[.val (.ref sl), .val (.long vv), .second, .val (.int (15 : Int32)), .val (.int (Int32.ofNat ((st vv + d) % 16)))] [(.long vv), (.long (f ((st vv + d) % 16)))])
      refine go_st (fun _ kq => XT.lcmp X0.here hx rfl (hb hby d6_32) rfl kq) ?_
      show Go p e below s _ _ _ T0 (mkF m 33 #[.val (.ref sl), .val (.long vv), .second, .val (.int (15 : Int32)), .val (.int (Int32.ofNat ((st vv + d) % 16)))] [(.int (XT.cmpL (f ((st vv + d) % 16)) vv))])
      by_cases hc20 : (f ((st vv + d) % 16)) = vv
      · refine go_st (fun _ kq => XS.ifYes X0.here hx rfl (pc0 := 33) (pc' := 47) rfl (hb hby d6_33) rfl (XT.ll_eq_t hc20) (by decide) (by decide) kq) ?_
        show Go p e below s _ _ _ T0 (mkF m 47 #[.val (.ref sl), .val (.long vv), .second, .val (.int (15 : Int32)), .val (.int (Int32.ofNat ((st vv + d) % 16)))] [])
        refine go_st (fun _ kq => XS.iload X0.here hx rfl (hb hby d6_47) rfl kq) ?_
        show Go p e below s _ _ _ T0 (mkF m 49 #[.val (.ref sl), .val (.long vv), .second, .val (.int (15 : Int32)), .val (.int (Int32.ofNat ((st vv + d) % 16)))] [(.int (Int32.ofNat ((st vv + d) % 16)))])
        exact go_retI X0 hx hlk hret (hb hby d6_49) (by decide) (by decide) (by rw [e0]; exact ⟨_, rfl, N0, Keep.refl _ _, ⟨d, own_d16 hz hbb, rfl, hbb, (Or.inr hc20)⟩⟩)
      · refine go_st (fun _ kq => XS.ifNo X0.here hx rfl (hb hby d6_33) rfl (XT.ll_eq_f hc20) kq) ?_
        show Go p e below s _ _ _ T0 (mkF m 36 #[.val (.ref sl), .val (.long vv), .second, .val (.int (15 : Int32)), .val (.int (Int32.ofNat ((st vv + d) % 16)))] [])
        refine go_st (fun _ kq => XS.iload X0.here hx rfl (hb hby d6_36) rfl kq) ?_
        show Go p e below s _ _ _ T0 (mkF m 38 #[.val (.ref sl), .val (.long vv), .second, .val (.int (15 : Int32)), .val (.int (Int32.ofNat ((st vv + d) % 16)))] [(.int (Int32.ofNat ((st vv + d) % 16)))])
        refine go_st (fun _ kq => XT.iconstV X0.here hx rfl (1 : Int32) (hb hby d6_38) (by decide) kq) ?_
        show Go p e below s _ _ _ T0 (mkF m 39 #[.val (.ref sl), .val (.long vv), .second, .val (.int (15 : Int32)), .val (.int (Int32.ofNat ((st vv + d) % 16)))] [(.int (1 : Int32)), (.int (Int32.ofNat ((st vv + d) % 16)))])
        refine go_st (fun _ kq => XS.iadd X0.here hx rfl (hb hby d6_39) rfl kq) ?_
        show Go p e below s _ _ _ T0 (mkF m 40 #[.val (.ref sl), .val (.long vv), .second, .val (.int (15 : Int32)), .val (.int (Int32.ofNat ((st vv + d) % 16)))] [(.int ((Int32.ofNat ((st vv + d) % 16)) + (1 : Int32)))])
        refine go_st (fun _ kq => XS.iloadN X0.here hx rfl (hb hby d6_40) rfl kq) ?_
        show Go p e below s _ _ _ T0 (mkF m 41 #[.val (.ref sl), .val (.long vv), .second, .val (.int (15 : Int32)), .val (.int (Int32.ofNat ((st vv + d) % 16)))] [(.int (15 : Int32)), (.int ((Int32.ofNat ((st vv + d) % 16)) + (1 : Int32)))])
        refine go_st (fun _ kq => XS.iand X0.here hx rfl (hb hby d6_41) rfl kq) ?_
        show Go p e below s _ _ _ T0 (mkF m 42 #[.val (.ref sl), .val (.long vv), .second, .val (.int (15 : Int32)), .val (.int (Int32.ofNat ((st vv + d) % 16)))] [(.int (((Int32.ofNat ((st vv + d) % 16)) + (1 : Int32)) &&& (15 : Int32)))])
        rw [own_nx hp, show ((st vv + d) % 16 + 1) % 16 = (st vv + (d + 1)) % 16 by omega]
        show Go p e below s _ _ _ T0 (mkF m 42 #[.val (.ref sl), .val (.long vv), .second, .val (.int (15 : Int32)), .val (.int (Int32.ofNat ((st vv + d) % 16)))] [(.int (Int32.ofNat ((st vv + (d + 1)) % 16)))])
        refine go_st (fun _ kq => XS.istore X0.here hx rfl (hb hby d6_42) rfl (l' := #[.val (.ref sl), .val (.long vv), .second, .val (.int (15 : Int32)), .val (.int (Int32.ofNat ((st vv + (d + 1)) % 16)))]) rfl kq) ?_
        show Go p e below s _ _ _ T0 (mkF m 44 #[.val (.ref sl), .val (.long vv), .second, .val (.int (15 : Int32)), .val (.int (Int32.ofNat ((st vv + (d + 1)) % 16)))] [])
        refine go_st (fun _ kq => XS.goto X0.here hx rfl (pc0 := 44) (pc' := 18) rfl (hb hby d6_44) (by decide) (by decide) kq) ?_
        show Go p e below s _ _ _ T0 (mkF m 18 #[.val (.ref sl), .val (.long vv), .second, .val (.int (15 : Int32)), .val (.int (Int32.ofNat ((st vv + (d + 1)) % 16)))] [])
        have hb2 : ∀ e, e < d + 1 → f ((st vv + e) % 16) ≠ 0 ∧ f ((st vv + e) % 16) ≠ vv := fun e he => (Nat.lt_or_ge e d).elim (hbb e) (fun q => (show e = d by omega) ▸ ⟨hc19, hc20⟩)
        exact find_loop l Z a0 hw ct0 hz n (d + 1) (by have := own_d16 hz hb2; omega) hb2 X0 e0 N0 G
set_option maxRecDepth 65536 in
set_option maxHeartbeats 4000000 in
theorem met_find (l : Launch) (Z : State) (a0 : Array Value) (hw : ∀ d ∈ tables_1, d.before a0 Z = true) (sl : Addr) (vv : Int64) (f : Nat → Int64) (h0 : Heap) (n0 : Nat) (Z0 : n0 ≤ h0.size) (P0 : GA Z h0 sl .long 16 (fun i => .long (f i))) (P1 : ∃ p, p < 16 ∧ f p = 0) :
    Met l (⟨"com/example/skipstone/skipstone/prune/DistinctHashes", "find", "([JJ)I"⟩ : MethodName) prog_20_method_6_code 5 (some FieldType.int) [] rm_find Z #[(.ref sl), (.long vv)] h0 (Q_find Z sl vv f h0 n0) rm_find.cells rm_find.slots := by
  refine own_body pn3 ?_
  intro p e s m below meth c s₁ ct X0 e0
  have ct0 := ct
  obtain ⟨hx, hZ, hown, hby, hml, hret, hlk, hnm⟩ := ct
  have lt_sl : sl < h0.size := P0.lt
  have N0 := Fr.nil n0
  refine castGo (ef_find m sl vv f) ?_
  show Go p e below s _ _ _ s₁ (mkF m 0 #[.val (.ref sl), .val (.long vv), .second, .unset, .unset] [])
  refine go_st (fun _ kq => XS.aloadN X0.here hx rfl (hb hby d6_0) rfl rfl kq) ?_
  show Go p e below s _ _ _ s₁ (mkF m 1 #[.val (.ref sl), .val (.long vv), .second, .unset, .unset] [(.ref sl)])
  refine go_alen X0 hx hZ e0 P0 (hb hby d6_1) rfl rfl (16 : Int32) (by decide) ?_
  show Go p e below s _ _ _ s₁ (mkF m 2 #[.val (.ref sl), .val (.long vv), .second, .unset, .unset] [(.int (16 : Int32))])
  refine go_st (fun _ kq => XT.iconstV X0.here hx rfl (1 : Int32) (hb hby d6_2) (by decide) kq) ?_
  show Go p e below s _ _ _ s₁ (mkF m 3 #[.val (.ref sl), .val (.long vv), .second, .unset, .unset] [(.int (1 : Int32)), (.int (16 : Int32))])
  refine go_st (fun _ kq => XS.isub X0.here hx rfl (hb hby d6_3) rfl kq) ?_
  rw [show ((16 : Int32) - (1 : Int32)) = (15 : Int32) from by decide +kernel]
  show Go p e below s _ _ _ s₁ (mkF m 4 #[.val (.ref sl), .val (.long vv), .second, .unset, .unset] [(.int (15 : Int32))])
  refine go_st (fun _ kq => XS.istoreN X0.here hx rfl (hb hby d6_4) rfl (l' := #[.val (.ref sl), .val (.long vv), .second, .val (.int (15 : Int32)), .unset]) rfl kq) ?_
  show Go p e below s _ _ _ s₁ (mkF m 5 #[.val (.ref sl), .val (.long vv), .second, .val (.int (15 : Int32)), .unset] [])
  refine go_st (fun _ kq => XT.lloadN X0.here hx rfl (hb hby d6_5) rfl kq) ?_
  show Go p e below s _ _ _ s₁ (mkF m 6 #[.val (.ref sl), .val (.long vv), .second, .val (.int (15 : Int32)), .unset] [(.long vv)])
  refine go_st (fun _ kq => Jvm.Stand.ldc2J X0 hx hown (mvT hZ (hw _ (List.mem_of_getElem? (i := 33) rfl))) rfl (hb hby d6_6) kq) ?_
  show Go p e below s _ _ _ s₁ (mkF m 9 #[.val (.ref sl), .val (.long vv), .second, .val (.int (15 : Int32)), .unset] [(.long (-7046029254386353131 : Int64)), (.long vv)])
  refine go_st (fun _ kq => XT.lmul X0.here hx rfl (hb hby d6_9) rfl kq) ?_
  show Go p e below s _ _ _ s₁ (mkF m 10 #[.val (.ref sl), .val (.long vv), .second, .val (.int (15 : Int32)), .unset] [(.long (vv * (-7046029254386353131 : Int64)))])
  refine go_st (fun _ kq => XT.bipushV X0.here hx rfl (32 : Int32) (hb hby d6_10) (by decide) kq) ?_
  show Go p e below s _ _ _ s₁ (mkF m 12 #[.val (.ref sl), .val (.long vv), .second, .val (.int (15 : Int32)), .unset] [(.int (32 : Int32)), (.long (vv * (-7046029254386353131 : Int64)))])
  refine go_st (fun _ kq => XT.lushr X0.here hx rfl (hb hby d6_12) rfl kq) ?_
  show Go p e below s _ _ _ s₁ (mkF m 13 #[.val (.ref sl), .val (.long vv), .second, .val (.int (15 : Int32)), .unset] [(.long (XT.ushrL (vv * (-7046029254386353131 : Int64)) (32 : Int32)))])
  refine go_st (fun _ kq => XT.l2i X0.here hx rfl (hb hby d6_13) rfl kq) ?_
  show Go p e below s _ _ _ s₁ (mkF m 14 #[.val (.ref sl), .val (.long vv), .second, .val (.int (15 : Int32)), .unset] [(.int (XT.ushrL (vv * (-7046029254386353131 : Int64)) (32 : Int32)).toInt32)])
  refine go_st (fun _ kq => XS.iloadN X0.here hx rfl (hb hby d6_14) rfl kq) ?_
  show Go p e below s _ _ _ s₁ (mkF m 15 #[.val (.ref sl), .val (.long vv), .second, .val (.int (15 : Int32)), .unset] [(.int (15 : Int32)), (.int (XT.ushrL (vv * (-7046029254386353131 : Int64)) (32 : Int32)).toInt32)])
  refine go_st (fun _ kq => XS.iand X0.here hx rfl (hb hby d6_15) rfl kq) ?_
  show Go p e below s _ _ _ s₁ (mkF m 16 #[.val (.ref sl), .val (.long vv), .second, .val (.int (15 : Int32)), .unset] [(.int ((XT.ushrL (vv * (-7046029254386353131 : Int64)) (32 : Int32)).toInt32 &&& (15 : Int32)))])
  rw [st_eq]
  show Go p e below s _ _ _ s₁ (mkF m 16 #[.val (.ref sl), .val (.long vv), .second, .val (.int (15 : Int32)), .unset] [(.int (Int32.ofNat (st vv)))])
  refine go_st (fun _ kq => XS.istore X0.here hx rfl (hb hby d6_16) rfl (l' := #[.val (.ref sl), .val (.long vv), .second, .val (.int (15 : Int32)), .val (.int (Int32.ofNat (st vv)))]) rfl kq) ?_
  show Go p e below s _ _ _ s₁ (mkF m 18 #[.val (.ref sl), .val (.long vv), .second, .val (.int (15 : Int32)), .val (.int (Int32.ofNat (st vv)))] [])
  rw [show st vv = (st vv + 0) % 16 by have := st_lt vv; omega]
  exact find_loop l Z a0 hw ct0 P1 17 0 (by decide) (fun e he => absurd he (Nat.not_lt_zero _)) X0 e0 N0 P0
theorem own_mh {f : Nat → Int64} {v : Int64} {r : Nat} (F : Fnd f v r) (h : ¬ f r = 0) : mem f v := by
  have hl := F.lt
  obtain ⟨d, -, -, -, z⟩ := F
  rcases z with z | z
  · exact absurd z h
  · exact ⟨r, hl, z⟩
theorem d5_0 : decode prog_20_method_2_code 0 = .ok (.lload_n 1, 1) := by decide +kernel
theorem d5_1 : decode prog_20_method_2_code 1 = .ok (.lconst 0, 1) := by decide +kernel
theorem d5_2 : decode prog_20_method_2_code 2 = .ok (.lcmp, 1) := by decide +kernel
theorem d5_3 : decode prog_20_method_2_code 3 = .ok (.ifCond .ne 11, 3) := by decide +kernel
theorem d5_6 : decode prog_20_method_2_code 6 = .ok (.aload_n 0, 1) := by decide +kernel
theorem d5_7 : decode prog_20_method_2_code 7 = .ok (.iconst 1, 1) := by decide +kernel
theorem d5_8 : decode prog_20_method_2_code 8 = .ok (.putfield 13, 3) := by decide +kernel
theorem d5_11 : decode prog_20_method_2_code 11 = .ok (.goto 60, 3) := by decide +kernel
theorem d5_14 : decode prog_20_method_2_code 14 = .ok (.iconst 2, 1) := by decide +kernel
theorem d5_15 : decode prog_20_method_2_code 15 = .ok (.aload_n 0, 1) := by decide +kernel
theorem d5_16 : decode prog_20_method_2_code 16 = .ok (.getfield 17, 3) := by decide +kernel
theorem d5_19 : decode prog_20_method_2_code 19 = .ok (.iconst 1, 1) := by decide +kernel
theorem d5_20 : decode prog_20_method_2_code 20 = .ok (.iadd, 1) := by decide +kernel
theorem d5_21 : decode prog_20_method_2_code 21 = .ok (.imul, 1) := by decide +kernel
theorem d5_22 : decode prog_20_method_2_code 22 = .ok (.aload_n 0, 1) := by decide +kernel
theorem d5_23 : decode prog_20_method_2_code 23 = .ok (.getfield 7, 3) := by decide +kernel
theorem d5_26 : decode prog_20_method_2_code 26 = .ok (.arraylength, 1) := by decide +kernel
theorem d5_27 : decode prog_20_method_2_code 27 = .ok (.if_icmp .le 7, 3) := by decide +kernel
theorem d5_30 : decode prog_20_method_2_code 30 = .ok (.aload_n 0, 1) := by decide +kernel
theorem d5_31 : decode prog_20_method_2_code 31 = .ok (.invokevirtual 21, 3) := by decide +kernel
theorem d5_34 : decode prog_20_method_2_code 34 = .ok (.aload_n 0, 1) := by decide +kernel
theorem d5_35 : decode prog_20_method_2_code 35 = .ok (.getfield 7, 3) := by decide +kernel
theorem d5_38 : decode prog_20_method_2_code 38 = .ok (.lload_n 1, 1) := by decide +kernel
theorem d5_39 : decode prog_20_method_2_code 39 = .ok (.invokestatic 24, 3) := by decide +kernel
theorem d5_42 : decode prog_20_method_2_code 42 = .ok (.istore_n 3, 1) := by decide +kernel
theorem d5_43 : decode prog_20_method_2_code 43 = .ok (.aload_n 0, 1) := by decide +kernel
theorem d5_44 : decode prog_20_method_2_code 44 = .ok (.getfield 7, 3) := by decide +kernel
theorem d5_47 : decode prog_20_method_2_code 47 = .ok (.iload_n 3, 1) := by decide +kernel
theorem d5_48 : decode prog_20_method_2_code 48 = .ok (.laload, 1) := by decide +kernel
theorem d5_49 : decode prog_20_method_2_code 49 = .ok (.lconst 0, 1) := by decide +kernel
theorem d5_50 : decode prog_20_method_2_code 50 = .ok (.lcmp, 1) := by decide +kernel
theorem d5_51 : decode prog_20_method_2_code 51 = .ok (.ifCond .ne 20, 3) := by decide +kernel
theorem d5_54 : decode prog_20_method_2_code 54 = .ok (.aload_n 0, 1) := by decide +kernel
theorem d5_55 : decode prog_20_method_2_code 55 = .ok (.getfield 7, 3) := by decide +kernel
theorem d5_58 : decode prog_20_method_2_code 58 = .ok (.iload_n 3, 1) := by decide +kernel
theorem d5_59 : decode prog_20_method_2_code 59 = .ok (.lload_n 1, 1) := by decide +kernel
theorem d5_60 : decode prog_20_method_2_code 60 = .ok (.lastore, 1) := by decide +kernel
theorem d5_61 : decode prog_20_method_2_code 61 = .ok (.aload_n 0, 1) := by decide +kernel
theorem d5_62 : decode prog_20_method_2_code 62 = .ok (.dup, 1) := by decide +kernel
theorem d5_63 : decode prog_20_method_2_code 63 = .ok (.getfield 17, 3) := by decide +kernel
theorem d5_66 : decode prog_20_method_2_code 66 = .ok (.iconst 1, 1) := by decide +kernel
theorem d5_67 : decode prog_20_method_2_code 67 = .ok (.iadd, 1) := by decide +kernel
theorem d5_68 : decode prog_20_method_2_code 68 = .ok (.putfield 17, 3) := by decide +kernel
theorem d5_71 : decode prog_20_method_2_code 71 = .ok (.return_, 1) := by decide +kernel
theorem pn4 : plainFor (⟨"com/example/skipstone/skipstone/prune/DistinctHashes", "add", "(J)V"⟩ : MethodName) = true := by first | (refine plainFor_of_name ?_; simp [plainName, overriddenIn]; done) | (refine plainFor_of_name ?_; decide +kernel) | decide +kernel
def Q_add (Z : State) (a : Addr) (vv : Int64) (sl : Addr) (u : Nat) (z : Int32) (f : Nat → Int64) (h0 : Heap) (n0 : Nat) (v : Option Value) (h : Heap) (L : List Loc) : Prop := ∃ f' : Nat → Int64, ∃ u' : Nat, ∃ z' : Int32, v = none ∧ Fr n0 L ∧ Keep h0 h [a, sl] ∧ (Add f u z vv f' u' z') ∧ Exa Z h a "com/example/skipstone/skipstone/prune/DistinctHashes" ∧ Fld Z h a "com/example/skipstone/skipstone/prune/DistinctHashes" "slots" "[J" (.ref sl) ∧ Fld Z h a "com/example/skipstone/skipstone/prune/DistinctHashes" "slotsUsed" "I" (.int (Int32.ofNat u')) ∧ Fld Z h a "com/example/skipstone/skipstone/prune/DistinctHashes" "holdsZero" "Z" (.int z') ∧ GA Z h sl .long 16 (fun i => .long (f' i))
theorem pd0 : parseMethodDescriptor "([JJ)I" = some ⟨[(.array .long), .long], (some .int)⟩ := by decide +kernel
theorem ef_add (m : MethodId) (a : Addr) (vv : Int64) (sl : Addr) (u : Nat) (z : Int32) (f : Nat → Int64) : entryFrame m #[(.ref a), (.long vv)] 4 = mkF m 0 #[.val (.ref a), .val (.long vv), .second, .unset] [] := by first | (simp [entryFrame, mkF, argsToLocals, Value.category]; done) | rfl
abbrev rm_add : Room := ({ frames := 1, cells := 0, slots := 0, locals := 16 } : Room)
set_option maxRecDepth 65536 in
set_option maxHeartbeats 4000000 in
theorem met_add (l : Launch) (Z : State) (a0 : Array Value) (hw : ∀ d ∈ tables_1, d.before a0 Z = true) (a : Addr) (vv : Int64) (sl : Addr) (u : Nat) (z : Int32) (f : Nat → Int64) (h0 : Heap) (n0 : Nat) (Z0 : n0 ≤ h0.size) (P0 : Exa Z h0 a "com/example/skipstone/skipstone/prune/DistinctHashes") (P1 : Fld Z h0 a "com/example/skipstone/skipstone/prune/DistinctHashes" "slots" "[J" (.ref sl)) (P2 : Fld Z h0 a "com/example/skipstone/skipstone/prune/DistinctHashes" "slotsUsed" "I" (.int (Int32.ofNat u))) (P3 : Fld Z h0 a "com/example/skipstone/skipstone/prune/DistinctHashes" "holdsZero" "Z" (.int z)) (P4 : GA Z h0 sl .long 16 (fun i => .long (f i))) (P5 : a ≠ sl) (P6 : TI f u) (P7 : z = 0 ∨ z = 1) (P8 : u < 6) (P9 : n0 ≤ a) (P10 : n0 ≤ sl) :
    Met l (⟨"com/example/skipstone/skipstone/prune/DistinctHashes", "add", "(J)V"⟩ : MethodName) prog_20_method_2_code 4 none [] rm_add Z #[(.ref a), (.long vv)] h0 (Q_add Z a vv sl u z f h0 n0) rm_add.cells rm_add.slots := by
  refine own_body pn4 ?_
  intro p e s m below meth c s₁ ct X0 e0
  have ct0 := ct
  obtain ⟨hx, hZ, hown, hby, hml, hret, hlk, hnm⟩ := ct
  have lt_a : a < h0.size := P0.lt
  have lt_sl : sl < h0.size := P4.lt
  have N0 := Fr.nil n0
  refine castGo (ef_add m a vv sl u z f) ?_
  show Go p e below s _ _ _ s₁ (mkF m 0 #[.val (.ref a), .val (.long vv), .second, .unset] [])
  refine go_st (fun _ kq => XT.lloadN X0.here hx rfl (hb hby d5_0) rfl kq) ?_
  show Go p e below s _ _ _ s₁ (mkF m 1 #[.val (.ref a), .val (.long vv), .second, .unset] [(.long vv)])
  refine go_st (fun _ kq => XT.lconstV X0.here hx rfl (0 : Int64) (hb hby d5_1) (by decide) kq) ?_
  show Go p e below s _ _ _ s₁ (mkF m 2 #[.val (.ref a), .val (.long vv), .second, .unset] [(.long (0 : Int64)), (.long vv)])
  refine go_st (fun _ kq => XT.lcmp X0.here hx rfl (hb hby d5_2) rfl kq) ?_
  show Go p e below s _ _ _ s₁ (mkF m 3 #[.val (.ref a), .val (.long vv), .second, .unset] [(.int (XT.cmpL vv (0 : Int64)))])
  by_cases hc21 : vv = (0 : Int64)
  · refine go_st (fun _ kq => XS.ifNo X0.here hx rfl (hb hby d5_3) rfl (XT.ll_ne_f hc21) kq) ?_
    show Go p e below s _ _ _ s₁ (mkF m 6 #[.val (.ref a), .val (.long vv), .second, .unset] [])
    refine go_st (fun _ kq => XS.aloadN X0.here hx rfl (hb hby d5_6) rfl rfl kq) ?_
    show Go p e below s _ _ _ s₁ (mkF m 7 #[.val (.ref a), .val (.long vv), .second, .unset] [(.ref a)])
    refine go_st (fun _ kq => XT.iconstV X0.here hx rfl (1 : Int32) (hb hby d5_7) (by decide) kq) ?_
    show Go p e below s _ _ _ s₁ (mkF m 8 #[.val (.ref a), .val (.long vv), .second, .unset] [(.int (1 : Int32)), (.ref a)])
    refine go_putF X0 hx hZ hown (host := "") (Or.inl (hw _ (List.mem_of_getElem? (i := 23) rfl))) Via.refl e0 P3 P0 (Or.inl (hw _ (List.mem_of_getElem? (i := 24) rfl))) (hw _ (List.mem_of_getElem? (i := 5) rfl)) (ty := .boolean) (by decide) (by decide) (by decide) (hb hby d5_8) rfl rfl ?_
    intro T22 h22 X22 e22 W22
    have N22 := Fr.snoc X22 N0 P9
    have F22 : Fld Z h22 a "com/example/skipstone/skipstone/prune/DistinctHashes" "holdsZero" "Z" (.int (1 : Int32)) := Fld.same W22 P3
    show Go p e below s _ _ _ T22 (mkF m 11 #[.val (.ref a), .val (.long vv), .second, .unset] [])
    refine go_st (fun _ kq => XS.goto X22.here hx rfl (pc0 := 11) (pc' := 71) rfl (hb hby d5_11) (by decide) (by decide) kq) ?_
    show Go p e below s _ _ _ T22 (mkF m 71 #[.val (.ref a), .val (.long vv), .second, .unset] [])
    have c23 := Exa.wr W22 P0
    have c24 := Fld.other W22 P1 (Or.inr (slot_ne (a0 := a0) (t := (.array .long)) (t' := .boolean) (Or.inl (hw _ (List.mem_of_getElem? (i := 15) rfl))) (Or.inl (hw _ (List.mem_of_getElem? (i := 24) rfl))) (by decide) (by decide) (by decide)))
    have c25 := Fld.other W22 P2 (Or.inr (slot_ne (a0 := a0) (t := .int) (t' := .boolean) (Or.inl (hw _ (List.mem_of_getElem? (i := 22) rfl))) (Or.inl (hw _ (List.mem_of_getElem? (i := 24) rfl))) (by decide) (by decide) (by decide)))
    have c26 := P4.other W22 (Ne.symm P5)
    exact go_ret0 X22 hx hlk hret (hb hby d5_71) (by decide) (by decide) (by rw [e22]; exact ⟨f, u, (1 : Int32), rfl, N22, (Keep.wr (Keep.refl h0 [a, sl]) W22 (Or.inl (by simp))), ((Eq.symm hc21) ▸ add_zero P6 P7), c23, c24, c25, F22, c26⟩)
  · refine go_st (fun _ kq => XS.ifYes X0.here hx rfl (pc0 := 3) (pc' := 14) rfl (hb hby d5_3) rfl (XT.ll_ne_t hc21) (by decide) (by decide) kq) ?_
    show Go p e below s _ _ _ s₁ (mkF m 14 #[.val (.ref a), .val (.long vv), .second, .unset] [])
    have hzero := P6.zero (show u < 16 by omega)
    refine go_st (fun _ kq => XT.iconstV X0.here hx rfl (2 : Int32) (hb hby d5_14) (by decide) kq) ?_
    show Go p e below s _ _ _ s₁ (mkF m 15 #[.val (.ref a), .val (.long vv), .second, .unset] [(.int (2 : Int32))])
    refine go_st (fun _ kq => XS.aloadN X0.here hx rfl (hb hby d5_15) rfl rfl kq) ?_
    show Go p e below s _ _ _ s₁ (mkF m 16 #[.val (.ref a), .val (.long vv), .second, .unset] [(.ref a), (.int (2 : Int32))])
    refine go_getF X0 hx hZ hown (host := "") (Or.inl (hw _ (List.mem_of_getElem? (i := 21) rfl))) Via.refl e0 P2 (hb hby d5_16) rfl rfl ?_
    intro T27 X27 e27
    show Go p e below s _ _ _ T27 (mkF m 19 #[.val (.ref a), .val (.long vv), .second, .unset] [(.int (Int32.ofNat u)), (.int (2 : Int32))])
    refine go_st (fun _ kq => XT.iconstV X27.here hx rfl (1 : Int32) (hb hby d5_19) (by decide) kq) ?_
    show Go p e below s _ _ _ T27 (mkF m 20 #[.val (.ref a), .val (.long vv), .second, .unset] [(.int (1 : Int32)), (.int (Int32.ofNat u)), (.int (2 : Int32))])
    refine go_st (fun _ kq => XS.iadd X27.here hx rfl (hb hby d5_20) rfl kq) ?_
    show Go p e below s _ _ _ T27 (mkF m 21 #[.val (.ref a), .val (.long vv), .second, .unset] [(.int ((Int32.ofNat u) + (1 : Int32))), (.int (2 : Int32))])
    refine go_st (fun _ kq => XS.imul X27.here hx rfl (hb hby d5_21) rfl kq) ?_
    show Go p e below s _ _ _ T27 (mkF m 22 #[.val (.ref a), .val (.long vv), .second, .unset] [(.int ((2 : Int32) * ((Int32.ofNat u) + (1 : Int32))))])
    refine go_st (fun _ kq => XS.aloadN X27.here hx rfl (hb hby d5_22) rfl rfl kq) ?_
    show Go p e below s _ _ _ T27 (mkF m 23 #[.val (.ref a), .val (.long vv), .second, .unset] [(.ref a), (.int ((2 : Int32) * ((Int32.ofNat u) + (1 : Int32))))])
    refine go_getF X27 hx hZ hown (host := "") (Or.inl (hw _ (List.mem_of_getElem? (i := 14) rfl))) Via.refl e27 P1 (hb hby d5_23) rfl rfl ?_
    intro T28 X28 e28
    show Go p e below s _ _ _ T28 (mkF m 26 #[.val (.ref a), .val (.long vv), .second, .unset] [(.ref sl), (.int ((2 : Int32) * ((Int32.ofNat u) + (1 : Int32))))])
    refine go_alen X28 hx hZ e28 P4 (hb hby d5_26) rfl rfl (16 : Int32) (by decide) ?_
    show Go p e below s _ _ _ T28 (mkF m 27 #[.val (.ref a), .val (.long vv), .second, .unset] [(.int (16 : Int32)), (.int ((2 : Int32) * ((Int32.ofNat u) + (1 : Int32))))])
    have hb29 : ¬ ((16 : Int32) < ((2 : Int32) * ((Int32.ofNat u) + (1 : Int32)))) := by rw [Int32.lt_iff_toInt_lt]; have h1 := c_iadd (Int32.ofNat u) 1; have h2 := rng32 (Int32.ofNat u + 1); have h3 := c_imul 2 (Int32.ofNat u + 1); have h4 := rng32 (2 * (Int32.ofNat u + 1)); rw [own_n16 (by omega)] at h1; have e1 : (1 : Int32).toInt = 1 := rfl; have e2 : (2 : Int32).toInt = 2 := rfl; have e16 : (16 : Int32).toInt = 16 := rfl; rw [e2] at h3; omega
    refine go_st (fun _ kq => XS.icmpYes X28.here hx rfl (pc0 := 27) (pc' := 34) rfl (hb hby d5_27) rfl (XT.ii_le_t hb29) (by decide) (by decide) kq) ?_
    show Go p e below s _ _ _ T28 (mkF m 34 #[.val (.ref a), .val (.long vv), .second, .unset] [])
    refine go_st (fun _ kq => XS.aloadN X28.here hx rfl (hb hby d5_34) rfl rfl kq) ?_
    show Go p e below s _ _ _ T28 (mkF m 35 #[.val (.ref a), .val (.long vv), .second, .unset] [(.ref a)])
    refine go_getF X28 hx hZ hown (host := "") (Or.inl (hw _ (List.mem_of_getElem? (i := 14) rfl))) Via.refl e28 P1 (hb hby d5_35) rfl rfl ?_
    intro T30 X30 e30
    show Go p e below s _ _ _ T30 (mkF m 38 #[.val (.ref a), .val (.long vv), .second, .unset] [(.ref sl)])
    refine go_st (fun _ kq => XT.lloadN X30.here hx rfl (hb hby d5_38) rfl kq) ?_
    show Go p e below s _ _ _ T30 (mkF m 39 #[.val (.ref a), .val (.long vv), .second, .unset] [(.long vv), (.ref sl)])
    refine go_callS X30 hx hZ hml hown (hw _ (List.mem_of_getElem? (i := 30) rfl)) (hw _ (List.mem_of_getElem? (i := 31) rfl)) (hw _ (List.mem_of_getElem? (i := 6) rfl)) (hw _ (List.mem_of_getElem? (i := 32) rfl)) e30 (argsL := [(.ref sl), (.long vv)]) (rest := []) (W := 0) (met_find l Z a0 hw sl vv f h0 n0 Z0 P4 hzero) (hb hby d5_39) rfl rfl rfl (lenOf pd0 rfl) (by show 2 * 0 + _ ≤ _; exact Nat.le_of_eq rfl) (by decide) (by decide) (by decide) (by decide) (by decide) ?_
    intro T31 v31 L31 X31 q31
    obtain ⟨r_31, rfl, M31, K31, x31_0⟩ := q31
    have N31 := Fr.app N0 M31
    show Go p e below s _ _ _ T31 (mkF m 42 #[.val (.ref a), .val (.long vv), .second, .unset] [(.int (Int32.ofNat r_31))])
    have hF := x31_0
    refine go_st (fun _ kq => XS.istoreN X31.here hx rfl (hb hby d5_42) rfl (l' := #[.val (.ref a), .val (.long vv), .second, .val (.int (Int32.ofNat r_31))]) rfl kq) ?_
    show Go p e below s _ _ _ T31 (mkF m 43 #[.val (.ref a), .val (.long vv), .second, .val (.int (Int32.ofNat r_31))] [])
    refine go_st (fun _ kq => XS.aloadN X31.here hx rfl (hb hby d5_43) rfl rfl kq) ?_
    show Go p e below s _ _ _ T31 (mkF m 44 #[.val (.ref a), .val (.long vv), .second, .val (.int (Int32.ofNat r_31))] [(.ref a)])
    have c32 := Fld.keep P1 K31 nin0
    refine go_getF X31 hx hZ hown (host := "") (Or.inl (hw _ (List.mem_of_getElem? (i := 14) rfl))) Via.refl rfl c32 (hb hby d5_44) rfl rfl ?_
    intro T33 X33 e33
    show Go p e below s _ _ _ T33 (mkF m 47 #[.val (.ref a), .val (.long vv), .second, .val (.int (Int32.ofNat r_31))] [(.ref sl)])
    refine go_st (fun _ kq => XS.iloadN X33.here hx rfl (hb hby d5_47) rfl kq) ?_
    show Go p e below s _ _ _ T33 (mkF m 48 #[.val (.ref a), .val (.long vv), .second, .val (.int (Int32.ofNat r_31))] [(.int (Int32.ofNat r_31)), (.ref sl)])
    have c34 := GA.keep P4 K31 nin0
    refine go_lald X33 hx hZ e33 c34 (hb hby d5_48) rfl rfl (own_i16 hF.lt) (.long (f r_31)) (by rw [own_cl16 (by have := hF.lt; omega)]) ?_
    show Go p e below s _ _ _ T33 (mkF m 49 #[.val (.ref a), .val (.long vv), .second, .val (.int (Int32.ofNat r_31))] [(.long (f r_31))])
    refine go_st (fun _ kq => XT.lconstV X33.here hx rfl (0 : Int64) (hb hby d5_49) (by decide) kq) ?_
    show Go p e below s _ _ _ T33 (mkF m 50 #[.val (.ref a), .val (.long vv), .second, .val (.int (Int32.ofNat r_31))] [(.long (0 : Int64)), (.long (f r_31))])
    refine go_st (fun _ kq => XT.lcmp X33.here hx rfl (hb hby d5_50) rfl kq) ?_
    show Go p e below s _ _ _ T33 (mkF m 51 #[.val (.ref a), .val (.long vv), .second, .val (.int (Int32.ofNat r_31))] [(.int (XT.cmpL (f r_31) (0 : Int64)))])
    by_cases hc35 : (f r_31) = (0 : Int64)
    · refine go_st (fun _ kq => XS.ifNo X33.here hx rfl (hb hby d5_51) rfl (XT.ll_ne_f hc35) kq) ?_
      show Go p e below s _ _ _ T33 (mkF m 54 #[.val (.ref a), .val (.long vv), .second, .val (.int (Int32.ofNat r_31))] [])
      refine go_st (fun _ kq => XS.aloadN X33.here hx rfl (hb hby d5_54) rfl rfl kq) ?_
      show Go p e below s _ _ _ T33 (mkF m 55 #[.val (.ref a), .val (.long vv), .second, .val (.int (Int32.ofNat r_31))] [(.ref a)])
      refine go_getF X33 hx hZ hown (host := "") (Or.inl (hw _ (List.mem_of_getElem? (i := 14) rfl))) Via.refl e33 c32 (hb hby d5_55) rfl rfl ?_
      intro T36 X36 e36
      show Go p e below s _ _ _ T36 (mkF m 58 #[.val (.ref a), .val (.long vv), .second, .val (.int (Int32.ofNat r_31))] [(.ref sl)])
      refine go_st (fun _ kq => XS.iloadN X36.here hx rfl (hb hby d5_58) rfl kq) ?_
      show Go p e below s _ _ _ T36 (mkF m 59 #[.val (.ref a), .val (.long vv), .second, .val (.int (Int32.ofNat r_31))] [(.int (Int32.ofNat r_31)), (.ref sl)])
      refine go_st (fun _ kq => XT.lloadN X36.here hx rfl (hb hby d5_59) rfl kq) ?_
      show Go p e below s _ _ _ T36 (mkF m 60 #[.val (.ref a), .val (.long vv), .second, .val (.int (Int32.ofNat r_31))] [(.long vv), (.int (Int32.ofNat r_31)), (.ref sl)])
      refine go_last X36 hx hZ e36 c34 (hb hby d5_60) rfl rfl (own_i16 hF.lt) ?_
      intro T37 h37 X37 e37 W37 G37
      have N37 := Fr.snoc X37 N31 P10
      have A37 : GA Z h37 sl .long 16 (fun i => .long ((upd f r_31 vv) i)) := (own_gu (own_cl16 (by have := hF.lt; omega)) G37)
      show Go p e below s _ _ _ T37 (mkF m 61 #[.val (.ref a), .val (.long vv), .second, .val (.int (Int32.ofNat r_31))] [])
      refine go_st (fun _ kq => XS.aloadN X37.here hx rfl (hb hby d5_61) rfl rfl kq) ?_
      show Go p e below s _ _ _ T37 (mkF m 62 #[.val (.ref a), .val (.long vv), .second, .val (.int (Int32.ofNat r_31))] [(.ref a)])
      refine go_st (fun _ kq => XS.dup X37.here hx rfl (hb hby d5_62) rfl rfl kq) ?_
      show Go p e below s _ _ _ T37 (mkF m 63 #[.val (.ref a), .val (.long vv), .second, .val (.int (Int32.ofNat r_31))] [(.ref a), (.ref a)])
      have c38 := Fld.keep P2 K31 nin0
      have c39 := Fld.other W37 c38 (Or.inl P5)
      refine go_getF X37 hx hZ hown (host := "") (Or.inl (hw _ (List.mem_of_getElem? (i := 21) rfl))) Via.refl e37 c39 (hb hby d5_63) rfl rfl ?_
      intro T40 X40 e40
      show Go p e below s _ _ _ T40 (mkF m 66 #[.val (.ref a), .val (.long vv), .second, .val (.int (Int32.ofNat r_31))] [(.int (Int32.ofNat u)), (.ref a)])
      refine go_st (fun _ kq => XT.iconstV X40.here hx rfl (1 : Int32) (hb hby d5_66) (by decide) kq) ?_
      show Go p e below s _ _ _ T40 (mkF m 67 #[.val (.ref a), .val (.long vv), .second, .val (.int (Int32.ofNat r_31))] [(.int (1 : Int32)), (.int (Int32.ofNat u)), (.ref a)])
      refine go_st (fun _ kq => XS.iadd X40.here hx rfl (hb hby d5_67) rfl kq) ?_
      show Go p e below s _ _ _ T40 (mkF m 68 #[.val (.ref a), .val (.long vv), .second, .val (.int (Int32.ofNat r_31))] [(.int ((Int32.ofNat u) + (1 : Int32))), (.ref a)])
      rw [show Int32.ofNat u + (1 : Int32) = Int32.ofNat (u + 1) from by rw [← Int32.toInt_inj, own_n16 (by omega)]; have h1 := c_iadd (Int32.ofNat u) 1; have h2 := rng32 (Int32.ofNat u + 1); rw [own_n16 (by omega)] at h1; have e1 : (1 : Int32).toInt = 1 := rfl; omega]
      show Go p e below s _ _ _ T40 (mkF m 68 #[.val (.ref a), .val (.long vv), .second, .val (.int (Int32.ofNat r_31))] [(.int (Int32.ofNat (u + 1))), (.ref a)])
      have c41 := Exa.keep P0 K31
      have c42 := Exa.wr W37 c41
      refine go_putF X40 hx hZ hown (host := "") (Or.inl (hw _ (List.mem_of_getElem? (i := 21) rfl))) Via.refl e40 c39 c42 (Or.inl (hw _ (List.mem_of_getElem? (i := 22) rfl))) (hw _ (List.mem_of_getElem? (i := 5) rfl)) (ty := .int) (by decide) rfl rfl (hb hby d5_68) rfl rfl ?_
      intro T43 h43 X43 e43 W43
      have N43 := Fr.snoc X43 N37 P9
      have F43 : Fld Z h43 a "com/example/skipstone/skipstone/prune/DistinctHashes" "slotsUsed" "I" (.int (Int32.ofNat (u + 1))) := Fld.same W43 c39
      show Go p e below s _ _ _ T43 (mkF m 71 #[.val (.ref a), .val (.long vv), .second, .val (.int (Int32.ofNat r_31))] [])
      have c44 := Exa.wr W43 c42
      have c45 := Fld.other W37 c32 (Or.inl P5)
      have c46 := Fld.other W43 c45 (Or.inr (slot_ne (a0 := a0) (t := (.array .long)) (t' := .int) (Or.inl (hw _ (List.mem_of_getElem? (i := 15) rfl))) (Or.inl (hw _ (List.mem_of_getElem? (i := 22) rfl))) (by decide) (by decide) (by decide)))
      have c47 := Fld.keep P3 K31 nin0
      have c48 := Fld.other W37 c47 (Or.inl P5)
      have c49 := Fld.other W43 c48 (Or.inr (slot_ne (a0 := a0) (t := .boolean) (t' := .int) (Or.inl (hw _ (List.mem_of_getElem? (i := 24) rfl))) (Or.inl (hw _ (List.mem_of_getElem? (i := 22) rfl))) (by decide) (by decide) (by decide)))
      have c50 := A37.other W43 (Ne.symm P5)
      exact go_ret0 X43 hx hlk hret (hb hby d5_71) (by decide) (by decide) (by rw [e43]; exact ⟨(upd f r_31 vv), (u + 1), z, rfl, N43, (Keep.wr (Keep.wr (Keep.trans (Keep.refl h0 [a, sl]) K31 all0) W37 (Or.inl (by simp))) W43 (Or.inl (by simp))), (add_new P6 hF P7 hc21 hc35), c44, c46, F43, c49, c50⟩)
    · refine go_st (fun _ kq => XS.ifYes X33.here hx rfl (pc0 := 51) (pc' := 71) rfl (hb hby d5_51) rfl (XT.ll_ne_t hc35) (by decide) (by decide) kq) ?_
      show Go p e below s _ _ _ T33 (mkF m 71 #[.val (.ref a), .val (.long vv), .second, .val (.int (Int32.ofNat r_31))] [])
      have c51 := Exa.keep P0 K31
      have c52 := Fld.keep P2 K31 nin0
      have c53 := Fld.keep P3 K31 nin0
      exact go_ret0 X33 hx hlk hret (hb hby d5_71) (by decide) (by decide) (by rw [e33]; exact ⟨f, u, z, rfl, N31, (Keep.trans (Keep.refl h0 [a, sl]) K31 all0), (add_hit P6 P7 hc21 (own_mh hF hc35)), c51, c32, c52, c53, c34⟩)
theorem own_p0 (w : Int64) : Pres (fun _ => (0 : Int64)) (0 : Int32) w ↔ False := by
  unfold Pres mem
  constructor
  · rintro (h | ⟨h, p, hp, h2⟩)
    · exact absurd h.2 (by decide)
    · exact h h2.symm
  · exact False.elim
theorem own_step {P : Prop} {c c' : Int} {Qp : Prop} [Decidable Qp] (cn : (P ∧ c' = c) ∨ (¬ P ∧ c' = c + 1)) (h : P ↔ Qp) : c' = c + (if Qp then 0 else 1) := by
  rcases cn with ⟨q, e⟩ | ⟨q, e⟩
  · rw [if_pos (h.mp q)]; omega
  · rw [if_neg (fun z => q (h.mpr z))]; exact e
theorem own_cnt {u : Nat} {z : Int32} (hu : u < 90) (hz : z = 0 ∨ z = 1) : fCnt (Int32.ofNat u) z = Int32.ofInt ((u : Int) + z.toInt) := by
  unfold fCnt
  have e1 : (1 : Int32).toInt = 1 := rfl
  have e0 : (0 : Int32).toInt = 0 := rfl
  rw [← Int32.toInt_inj]
  have hr : ∀ k : Int, 0 ≤ k → k < 100 → (Int32.ofInt k).toInt = k := fun k h1 h2 => by
    rw [Int32.toInt_ofInt]
    show k.bmod 4294967296 = k
    apply Int.bmod_eq_of_le <;> omega
  rcases hz with h | h <;> subst h
  · rw [if_pos rfl, hr _ (by omega) (by omega)]
    have h1 := c_iadd (Int32.ofNat u) 0
    have h2 := rng32 (Int32.ofNat u + 0)
    rw [own_n16 (by omega)] at h1
    omega
  · rw [if_neg (by decide), hr _ (by omega) (by omega)]
    have h1 := c_iadd (Int32.ofNat u) 1
    have h2 := rng32 (Int32.ofNat u + 1)
    rw [own_n16 (by omega)] at h1
    omega
theorem pd1 : parseMethodDescriptor "()V" = some ⟨[], none⟩ := by decide +kernel
theorem pd2 : parseMethodDescriptor "()I" = some ⟨[], (some .int)⟩ := by decide +kernel
theorem pd3 : parseMethodDescriptor "(J)V" = some ⟨[.long], none⟩ := by decide +kernel
set_option maxRecDepth 65536 in
set_option maxHeartbeats 4000000 in
theorem blk147 (l : Launch) (Z : State) (a0 : Array Value) (hw : ∀ d ∈ tables_1, d.before a0 Z = true) {p : Program} {e : Env} {s : State} {m : MethodId} {args : Array Value} {below : List Frame} {meth : Method} {c : Code} (ct : Ct p s m meth c Z "com/example/skipstone/skipstone/prune/DistinctHashesCountPinLaw" "law" code maxLocals ret) (x0 x1 x2 x3 : Int64) (x4 : Int32) (v0 v1 v2 v3 : Int64) (n2 n3 n4 : Int32) (hn2 : n2 = Int32.ofInt (1 + (if v1 = v0 then 0 else 1))) (hn3 : n3 = Int32.ofInt (1 + (if v1 = v0 then 0 else 1) + (if v2 = v0 ∨ v2 = v1 then 0 else 1))) (hn4 : n4 = Int32.ofInt (1 + (if v1 = v0 then 0 else 1) + (if v2 = v0 ∨ v2 = v1 then 0 else 1) + (if v3 = v0 ∨ v3 = v1 ∨ v3 = v2 then 0 else 1))) {T0 : State} {locs : List Loc} (X0 : Stand p l e room_1 s m args below meth c T0 locs 0 0) {h0 : Heap} (e0 : T0.heap = h0) (n0 : Nat) (Z0 : n0 ≤ h0.size) (N0 : Fr n0 locs) :
    Go p e below s (QF (some (.int 1)) n0) 16 128 T0 (mkF m 147 #[.val (.long x0), .second, .val (.long x1), .second, .val (.long x2), .second, .val (.long x3), .second, .val (.int x4), .val (.long v0), .second, .val (.long v1), .second, .val (.long v2), .second, .val (.long v3), .second, .val (.int (1 : Int32)), .val (.int n2), .val (.int n3), .val (.int n4), .unset, .unset] []) := by
  have ct0 := ct
  obtain ⟨hx, hZ, hown, hby, hml, hret, hlk, hnm⟩ := ct
  show Go p e below s _ _ _ T0 (mkF m 147 #[.val (.long x0), .second, .val (.long x1), .second, .val (.long x2), .second, .val (.long x3), .second, .val (.int x4), .val (.long v0), .second, .val (.long v1), .second, .val (.long v2), .second, .val (.long v3), .second, .val (.int (1 : Int32)), .val (.int n2), .val (.int n3), .val (.int n4), .unset, .unset] [])
  refine go_newO X0 hx hZ hown (hw _ (List.mem_of_getElem? (i := 4) rfl)) (hw _ (List.mem_of_getElem? (i := 5) rfl)) (hw _ (List.mem_of_getElem? (i := 6) rfl)) e0 (hb hby at_147) rfl (by decide) (by decide) ?_
  intro T54 h54 a54 g54 X54 e54 E54 A54 D54
  have nw_a54 : n0 ≤ a54 := Nat.le_trans Z0 (Nat.le_of_eq g54.symm)
  have lt_a54 : a54 < h54.size := A54.lt
  have F55 : Fld Z h54 a54 "com/example/skipstone/skipstone/prune/DistinctHashes" "slots" "[J" .null := D54 (Or.inl (hw _ (List.mem_of_getElem? (i := 15) rfl))) (ty := (.array .long)) (by decide)
  have F56 : Fld Z h54 a54 "com/example/skipstone/skipstone/prune/DistinctHashes" "slotsUsed" "I" (.int (0 : Int32)) := D54 (Or.inl (hw _ (List.mem_of_getElem? (i := 22) rfl))) (ty := .int) (by decide)
  have F57 : Fld Z h54 a54 "com/example/skipstone/skipstone/prune/DistinctHashes" "holdsZero" "Z" (.int (0 : Int32)) := D54 (Or.inl (hw _ (List.mem_of_getElem? (i := 24) rfl))) (ty := .boolean) (by decide)
  show Go p e below s _ _ _ T54 (mkF m 150 #[.val (.long x0), .second, .val (.long x1), .second, .val (.long x2), .second, .val (.long x3), .second, .val (.int x4), .val (.long v0), .second, .val (.long v1), .second, .val (.long v2), .second, .val (.long v3), .second, .val (.int (1 : Int32)), .val (.int n2), .val (.int n3), .val (.int n4), .unset, .unset] [(.ref a54)])
  refine go_st (fun _ kq => XS.dup X54.here hx rfl (hb hby at_150) rfl rfl kq) ?_
  show Go p e below s _ _ _ T54 (mkF m 151 #[.val (.long x0), .second, .val (.long x1), .second, .val (.long x2), .second, .val (.long x3), .second, .val (.int x4), .val (.long v0), .second, .val (.long v1), .second, .val (.long v2), .second, .val (.long v3), .second, .val (.int (1 : Int32)), .val (.int n2), .val (.int n3), .val (.int n4), .unset, .unset] [(.ref a54), (.ref a54)])
  have z59 : n0 ≤ h54.size := Nat.le_trans Z0 E54.1
  refine go_callI X54 hx hZ hml hown rfl (hw _ (List.mem_of_getElem? (i := 7) rfl)) (hw _ (List.mem_of_getElem? (i := 8) rfl)) (hw _ (List.mem_of_getElem? (i := 9) rfl)) (hw _ (List.mem_of_getElem? (i := 6) rfl)) e54 (argsL := []) (rest := [(.ref a54)]) (W := 1) (met_ini l Z a0 hw a54 h54 n0 z59 F55 F56 F57 A54 nw_a54) (hb hby at_151) rfl rfl rfl (lenOf pd1 rfl) (by show 2 * 0 + _ ≤ _; exact Nat.le_of_eq rfl) (by decide) (by decide) (by decide) (by decide) (by decide) ?_
  intro T58 v58 L58 X58 q58
  obtain ⟨sl_58, rfl, M58, K58, fz58_sl, p58_0, f58_0, f58_1, f58_2, f58_3, f58_4⟩ := q58
  have N58 := Fr.app N0 M58
  have ne60 : a54 ≠ sl_58 := Nat.ne_of_lt (Nat.lt_of_lt_of_le lt_a54 fz58_sl)
  have nw_sl_58 : n0 ≤ sl_58 := Nat.le_trans z59 fz58_sl
  have y61 : h0.size ≤ h54.size := Nat.le_trans (Nat.le_refl _) E54.1
  have lt_sl_58 : sl_58 < T58.heap.size := f58_4.lt
  show Go p e below s _ _ _ T58 (mkF m 154 #[.val (.long x0), .second, .val (.long x1), .second, .val (.long x2), .second, .val (.long x3), .second, .val (.int x4), .val (.long v0), .second, .val (.long v1), .second, .val (.long v2), .second, .val (.long v3), .second, .val (.int (1 : Int32)), .val (.int n2), .val (.int n3), .val (.int n4), .unset, .unset] [(.ref a54)])
  have ti0 : TI (fun _ => (0 : Int64)) 0 := ⟨⟨[], by simp, fun p _ h => absurd rfl h⟩, fun p _ h => absurd rfl h⟩
  refine go_st (fun _ kq => XS.astore X58.here hx rfl (hb hby at_154) rfl rfl (l' := #[.val (.long x0), .second, .val (.long x1), .second, .val (.long x2), .second, .val (.long x3), .second, .val (.int x4), .val (.long v0), .second, .val (.long v1), .second, .val (.long v2), .second, .val (.long v3), .second, .val (.int (1 : Int32)), .val (.int n2), .val (.int n3), .val (.int n4), .val (.ref a54), .unset]) rfl kq) ?_
  show Go p e below s _ _ _ T58 (mkF m 156 #[.val (.long x0), .second, .val (.long x1), .second, .val (.long x2), .second, .val (.long x3), .second, .val (.int x4), .val (.long v0), .second, .val (.long v1), .second, .val (.long v2), .second, .val (.long v3), .second, .val (.int (1 : Int32)), .val (.int n2), .val (.int n3), .val (.int n4), .val (.ref a54), .unset] [])
  refine go_st (fun _ kq => XS.aload X58.here hx rfl (hb hby at_156) rfl rfl kq) ?_
  show Go p e below s _ _ _ T58 (mkF m 158 #[.val (.long x0), .second, .val (.long x1), .second, .val (.long x2), .second, .val (.long x3), .second, .val (.int x4), .val (.long v0), .second, .val (.long v1), .second, .val (.long v2), .second, .val (.long v3), .second, .val (.int (1 : Int32)), .val (.int n2), .val (.int n3), .val (.int n4), .val (.ref a54), .unset] [(.ref a54)])
  have z63 : n0 ≤ T58.heap.size := Nat.le_trans z59 K58.1
  refine go_callV X58 hx hZ hml hown (hw _ (List.mem_of_getElem? (i := 16) rfl)) (hw _ (List.mem_of_getElem? (i := 17) rfl)) (notFace_of_selects (args := #[]) (mvT hZ (hw _ (List.mem_of_getElem? (i := 19) rfl)))) (hw _ (List.mem_of_getElem? (i := 19) rfl)) (hw _ (List.mem_of_getElem? (i := 18) rfl)) (hw _ (List.mem_of_getElem? (i := 20) rfl)) (hw _ (List.mem_of_getElem? (i := 6) rfl)) rfl f58_0 (argsL := []) (rest := []) (W := 0) (met_4 l Z a0 hw a54 (0 : Int32) (0 : Int32) T58.heap n0 z63 f58_2 f58_3) (hb hby at_158) rfl rfl rfl (lenOf pd2 rfl) (by show 2 * 0 + _ ≤ _; exact Nat.le_of_eq rfl) (by decide) (by decide) (by decide) (by decide) (by decide) ?_
  intro T62 v62 L62 X62 q62
  obtain ⟨rfl, M62, e62⟩ := q62
  have N62 := Fr.app N58 M62
  show Go p e below s _ _ _ T62 (mkF m 161 #[.val (.long x0), .second, .val (.long x1), .second, .val (.long x2), .second, .val (.long x3), .second, .val (.int x4), .val (.long v0), .second, .val (.long v1), .second, .val (.long v2), .second, .val (.long v3), .second, .val (.int (1 : Int32)), .val (.int n2), .val (.int n3), .val (.int n4), .val (.ref a54), .unset] [(.int (fCnt (0 : Int32) (0 : Int32)))])
  have hb64 : (fCnt (0 : Int32) (0 : Int32)) = (0 : Int32) := by decide
  refine go_st (fun _ kq => XS.ifNo X62.here hx rfl (hb hby at_161) rfl (XT.i0_ne_f hb64) kq) ?_
  show Go p e below s _ _ _ T62 (mkF m 164 #[.val (.long x0), .second, .val (.long x1), .second, .val (.long x2), .second, .val (.long x3), .second, .val (.int x4), .val (.long v0), .second, .val (.long v1), .second, .val (.long v2), .second, .val (.long v3), .second, .val (.int (1 : Int32)), .val (.int n2), .val (.int n3), .val (.int n4), .val (.ref a54), .unset] [])
  refine go_st (fun _ kq => XT.iconstV X62.here hx rfl (1 : Int32) (hb hby at_164) (by decide) kq) ?_
  show Go p e below s _ _ _ T62 (mkF m 165 #[.val (.long x0), .second, .val (.long x1), .second, .val (.long x2), .second, .val (.long x3), .second, .val (.int x4), .val (.long v0), .second, .val (.long v1), .second, .val (.long v2), .second, .val (.long v3), .second, .val (.int (1 : Int32)), .val (.int n2), .val (.int n3), .val (.int n4), .val (.ref a54), .unset] [(.int (1 : Int32))])
  refine go_st (fun _ kq => XS.goto X62.here hx rfl (pc0 := 165) (pc' := 169) rfl (hb hby at_165) (by decide) (by decide) kq) ?_
  show Go p e below s _ _ _ T62 (mkF m 169 #[.val (.long x0), .second, .val (.long x1), .second, .val (.long x2), .second, .val (.long x3), .second, .val (.int x4), .val (.long v0), .second, .val (.long v1), .second, .val (.long v2), .second, .val (.long v3), .second, .val (.int (1 : Int32)), .val (.int n2), .val (.int n3), .val (.int n4), .val (.ref a54), .unset] [(.int (1 : Int32))])
  refine go_st (fun _ kq => XS.istore X62.here hx rfl (hb hby at_169) rfl (l' := #[.val (.long x0), .second, .val (.long x1), .second, .val (.long x2), .second, .val (.long x3), .second, .val (.int x4), .val (.long v0), .second, .val (.long v1), .second, .val (.long v2), .second, .val (.long v3), .second, .val (.int (1 : Int32)), .val (.int n2), .val (.int n3), .val (.int n4), .val (.ref a54), .val (.int (1 : Int32))]) rfl kq) ?_
  show Go p e below s _ _ _ T62 (mkF m 171 #[.val (.long x0), .second, .val (.long x1), .second, .val (.long x2), .second, .val (.long x3), .second, .val (.int x4), .val (.long v0), .second, .val (.long v1), .second, .val (.long v2), .second, .val (.long v3), .second, .val (.int (1 : Int32)), .val (.int n2), .val (.int n3), .val (.int n4), .val (.ref a54), .val (.int (1 : Int32))] [])
  refine go_st (fun _ kq => XS.aload X62.here hx rfl (hb hby at_171) rfl rfl kq) ?_
  show Go p e below s _ _ _ T62 (mkF m 173 #[.val (.long x0), .second, .val (.long x1), .second, .val (.long x2), .second, .val (.long x3), .second, .val (.int x4), .val (.long v0), .second, .val (.long v1), .second, .val (.long v2), .second, .val (.long v3), .second, .val (.int (1 : Int32)), .val (.int n2), .val (.int n3), .val (.int n4), .val (.ref a54), .val (.int (1 : Int32))] [(.ref a54)])
  refine go_st (fun _ kq => XT.lload X62.here hx rfl (hb hby at_173) rfl kq) ?_
  show Go p e below s _ _ _ T62 (mkF m 175 #[.val (.long x0), .second, .val (.long x1), .second, .val (.long x2), .second, .val (.long x3), .second, .val (.int x4), .val (.long v0), .second, .val (.long v1), .second, .val (.long v2), .second, .val (.long v3), .second, .val (.int (1 : Int32)), .val (.int n2), .val (.int n3), .val (.int n4), .val (.ref a54), .val (.int (1 : Int32))] [(.long v0), (.ref a54)])
  refine go_callV X62 hx hZ hml hown (hw _ (List.mem_of_getElem? (i := 25) rfl)) (hw _ (List.mem_of_getElem? (i := 26) rfl)) (notFace_of_selects (args := #[]) (mvT hZ (hw _ (List.mem_of_getElem? (i := 28) rfl)))) (hw _ (List.mem_of_getElem? (i := 28) rfl)) (hw _ (List.mem_of_getElem? (i := 27) rfl)) (hw _ (List.mem_of_getElem? (i := 29) rfl)) (hw _ (List.mem_of_getElem? (i := 6) rfl)) e62 f58_0 (argsL := [(.long v0)]) (rest := []) (W := 0) (met_add l Z a0 hw a54 v0 sl_58 0 (0 : Int32) (fun _ => (0 : Int64)) T58.heap n0 z63 f58_0 f58_1 f58_2 f58_3 f58_4 p58_0 ti0 (Or.inl rfl) (by omega) nw_a54 nw_sl_58) (hb hby at_175) rfl rfl rfl (lenOf pd3 rfl) (by show 2 * 0 + _ ≤ _; exact Nat.le_of_eq rfl) (by decide) (by decide) (by decide) (by decide) (by decide) ?_
  intro T65 v65 L65 X65 q65
  obtain ⟨f'_65, u'_65, z'_65, rfl, M65, K65, p65_0, f65_0, f65_1, f65_2, f65_3, f65_4⟩ := q65
  have N65 := Fr.app N62 M65
  obtain ⟨ti65, zz65, pp65, ul65, cn65⟩ := p65_0
  have pr1 : ∀ w, Pres f'_65 z'_65 w ↔ (w = v0) := fun w => (pp65 w).trans (by first | (rw [own_p0 w]; done) | (rw [own_p0 w]; simp [or_assoc]))
  have ck1 : (u'_65 : Int) + (z'_65 : Int32).toInt = 1 := (own_step cn65 (own_p0 v0)).trans (by rfl)
  show Go p e below s _ _ _ T65 (mkF m 178 #[.val (.long x0), .second, .val (.long x1), .second, .val (.long x2), .second, .val (.long x3), .second, .val (.int x4), .val (.long v0), .second, .val (.long v1), .second, .val (.long v2), .second, .val (.long v3), .second, .val (.int (1 : Int32)), .val (.int n2), .val (.int n3), .val (.int n4), .val (.ref a54), .val (.int (1 : Int32))] [])
  refine go_st (fun _ kq => XS.iload X65.here hx rfl (hb hby at_178) rfl kq) ?_
  show Go p e below s _ _ _ T65 (mkF m 180 #[.val (.long x0), .second, .val (.long x1), .second, .val (.long x2), .second, .val (.long x3), .second, .val (.int x4), .val (.long v0), .second, .val (.long v1), .second, .val (.long v2), .second, .val (.long v3), .second, .val (.int (1 : Int32)), .val (.int n2), .val (.int n3), .val (.int n4), .val (.ref a54), .val (.int (1 : Int32))] [(.int (1 : Int32))])
  refine go_st (fun _ kq => XS.ifNo X65.here hx rfl (hb hby at_180) rfl (XT.i0_eq_f (by decide)) kq) ?_
  show Go p e below s _ _ _ T65 (mkF m 183 #[.val (.long x0), .second, .val (.long x1), .second, .val (.long x2), .second, .val (.long x3), .second, .val (.int x4), .val (.long v0), .second, .val (.long v1), .second, .val (.long v2), .second, .val (.long v3), .second, .val (.int (1 : Int32)), .val (.int n2), .val (.int n3), .val (.int n4), .val (.ref a54), .val (.int (1 : Int32))] [])
  refine go_st (fun _ kq => XS.aload X65.here hx rfl (hb hby at_183) rfl rfl kq) ?_
  show Go p e below s _ _ _ T65 (mkF m 185 #[.val (.long x0), .second, .val (.long x1), .second, .val (.long x2), .second, .val (.long x3), .second, .val (.int x4), .val (.long v0), .second, .val (.long v1), .second, .val (.long v2), .second, .val (.long v3), .second, .val (.int (1 : Int32)), .val (.int n2), .val (.int n3), .val (.int n4), .val (.ref a54), .val (.int (1 : Int32))] [(.ref a54)])
  have z67 : n0 ≤ T65.heap.size := Nat.le_trans z63 K65.1
  refine go_callV X65 hx hZ hml hown (hw _ (List.mem_of_getElem? (i := 16) rfl)) (hw _ (List.mem_of_getElem? (i := 17) rfl)) (notFace_of_selects (args := #[]) (mvT hZ (hw _ (List.mem_of_getElem? (i := 19) rfl)))) (hw _ (List.mem_of_getElem? (i := 19) rfl)) (hw _ (List.mem_of_getElem? (i := 18) rfl)) (hw _ (List.mem_of_getElem? (i := 20) rfl)) (hw _ (List.mem_of_getElem? (i := 6) rfl)) rfl f65_0 (argsL := []) (rest := []) (W := 0) (met_4 l Z a0 hw a54 (Int32.ofNat u'_65) z'_65 T65.heap n0 z67 f65_2 f65_3) (hb hby at_185) rfl rfl rfl (lenOf pd2 rfl) (by show 2 * 0 + _ ≤ _; exact Nat.le_of_eq rfl) (by decide) (by decide) (by decide) (by decide) (by decide) ?_
  intro T66 v66 L66 X66 q66
  obtain ⟨rfl, M66, e66⟩ := q66
  have N66 := Fr.app N65 M66
  show Go p e below s _ _ _ T66 (mkF m 188 #[.val (.long x0), .second, .val (.long x1), .second, .val (.long x2), .second, .val (.long x3), .second, .val (.int x4), .val (.long v0), .second, .val (.long v1), .second, .val (.long v2), .second, .val (.long v3), .second, .val (.int (1 : Int32)), .val (.int n2), .val (.int n3), .val (.int n4), .val (.ref a54), .val (.int (1 : Int32))] [(.int (fCnt (Int32.ofNat u'_65) z'_65))])
  refine go_st (fun _ kq => XS.iload X66.here hx rfl (hb hby at_188) rfl kq) ?_
  show Go p e below s _ _ _ T66 (mkF m 190 #[.val (.long x0), .second, .val (.long x1), .second, .val (.long x2), .second, .val (.long x3), .second, .val (.int x4), .val (.long v0), .second, .val (.long v1), .second, .val (.long v2), .second, .val (.long v3), .second, .val (.int (1 : Int32)), .val (.int n2), .val (.int n3), .val (.int n4), .val (.ref a54), .val (.int (1 : Int32))] [(.int (1 : Int32)), (.int (fCnt (Int32.ofNat u'_65) z'_65))])
  have hb68 : (fCnt (Int32.ofNat u'_65) z'_65) = (1 : Int32) := by rw [own_cnt (by omega) zz65, ck1]; decide
  refine go_st (fun _ kq => XS.icmpNo X66.here hx rfl (hb hby at_190) rfl (XT.ii_ne_f hb68) kq) ?_
  show Go p e below s _ _ _ T66 (mkF m 193 #[.val (.long x0), .second, .val (.long x1), .second, .val (.long x2), .second, .val (.long x3), .second, .val (.int x4), .val (.long v0), .second, .val (.long v1), .second, .val (.long v2), .second, .val (.long v3), .second, .val (.int (1 : Int32)), .val (.int n2), .val (.int n3), .val (.int n4), .val (.ref a54), .val (.int (1 : Int32))] [])
  refine go_st (fun _ kq => XT.iconstV X66.here hx rfl (1 : Int32) (hb hby at_193) (by decide) kq) ?_
  show Go p e below s _ _ _ T66 (mkF m 194 #[.val (.long x0), .second, .val (.long x1), .second, .val (.long x2), .second, .val (.long x3), .second, .val (.int x4), .val (.long v0), .second, .val (.long v1), .second, .val (.long v2), .second, .val (.long v3), .second, .val (.int (1 : Int32)), .val (.int n2), .val (.int n3), .val (.int n4), .val (.ref a54), .val (.int (1 : Int32))] [(.int (1 : Int32))])
  refine go_st (fun _ kq => XS.goto X66.here hx rfl (pc0 := 194) (pc' := 198) rfl (hb hby at_194) (by decide) (by decide) kq) ?_
  show Go p e below s _ _ _ T66 (mkF m 198 #[.val (.long x0), .second, .val (.long x1), .second, .val (.long x2), .second, .val (.long x3), .second, .val (.int x4), .val (.long v0), .second, .val (.long v1), .second, .val (.long v2), .second, .val (.long v3), .second, .val (.int (1 : Int32)), .val (.int n2), .val (.int n3), .val (.int n4), .val (.ref a54), .val (.int (1 : Int32))] [(.int (1 : Int32))])
  refine go_st (fun _ kq => XS.istore X66.here hx rfl (hb hby at_198) rfl (l' := #[.val (.long x0), .second, .val (.long x1), .second, .val (.long x2), .second, .val (.long x3), .second, .val (.int x4), .val (.long v0), .second, .val (.long v1), .second, .val (.long v2), .second, .val (.long v3), .second, .val (.int (1 : Int32)), .val (.int n2), .val (.int n3), .val (.int n4), .val (.ref a54), .val (.int (1 : Int32))]) rfl kq) ?_
  show Go p e below s _ _ _ T66 (mkF m 200 #[.val (.long x0), .second, .val (.long x1), .second, .val (.long x2), .second, .val (.long x3), .second, .val (.int x4), .val (.long v0), .second, .val (.long v1), .second, .val (.long v2), .second, .val (.long v3), .second, .val (.int (1 : Int32)), .val (.int n2), .val (.int n3), .val (.int n4), .val (.ref a54), .val (.int (1 : Int32))] [])
  refine go_st (fun _ kq => XS.aload X66.here hx rfl (hb hby at_200) rfl rfl kq) ?_
  show Go p e below s _ _ _ T66 (mkF m 202 #[.val (.long x0), .second, .val (.long x1), .second, .val (.long x2), .second, .val (.long x3), .second, .val (.int x4), .val (.long v0), .second, .val (.long v1), .second, .val (.long v2), .second, .val (.long v3), .second, .val (.int (1 : Int32)), .val (.int n2), .val (.int n3), .val (.int n4), .val (.ref a54), .val (.int (1 : Int32))] [(.ref a54)])
  refine go_st (fun _ kq => XT.lload X66.here hx rfl (hb hby at_202) rfl kq) ?_
  show Go p e below s _ _ _ T66 (mkF m 204 #[.val (.long x0), .second, .val (.long x1), .second, .val (.long x2), .second, .val (.long x3), .second, .val (.int x4), .val (.long v0), .second, .val (.long v1), .second, .val (.long v2), .second, .val (.long v3), .second, .val (.int (1 : Int32)), .val (.int n2), .val (.int n3), .val (.int n4), .val (.ref a54), .val (.int (1 : Int32))] [(.long v1), (.ref a54)])
  refine go_callV X66 hx hZ hml hown (hw _ (List.mem_of_getElem? (i := 25) rfl)) (hw _ (List.mem_of_getElem? (i := 26) rfl)) (notFace_of_selects (args := #[]) (mvT hZ (hw _ (List.mem_of_getElem? (i := 28) rfl)))) (hw _ (List.mem_of_getElem? (i := 28) rfl)) (hw _ (List.mem_of_getElem? (i := 27) rfl)) (hw _ (List.mem_of_getElem? (i := 29) rfl)) (hw _ (List.mem_of_getElem? (i := 6) rfl)) e66 f65_0 (argsL := [(.long v1)]) (rest := []) (W := 0) (met_add l Z a0 hw a54 v1 sl_58 u'_65 z'_65 f'_65 T65.heap n0 z67 f65_0 f65_1 f65_2 f65_3 f65_4 p58_0 ti65 zz65 (by omega) nw_a54 nw_sl_58) (hb hby at_204) rfl rfl rfl (lenOf pd3 rfl) (by show 2 * 0 + _ ≤ _; exact Nat.le_of_eq rfl) (by decide) (by decide) (by decide) (by decide) (by decide) ?_
  intro T69 v69 L69 X69 q69
  obtain ⟨f'_69, u'_69, z'_69, rfl, M69, K69, p69_0, f69_0, f69_1, f69_2, f69_3, f69_4⟩ := q69
  have N69 := Fr.app N66 M69
  obtain ⟨ti69, zz69, pp69, ul69, cn69⟩ := p69_0
  have pr2 : ∀ w, Pres f'_69 z'_69 w ↔ (w = v0 ∨ w = v1) := fun w => (pp69 w).trans (by first | (rw [pr1 w]; done) | (rw [pr1 w]; simp [or_assoc]))
  have ck2 : (u'_69 : Int) + (z'_69 : Int32).toInt = 1 + (if v1 = v0 then 0 else 1) := (own_step cn69 (pr1 v1)).trans (by rw [ck1])
  show Go p e below s _ _ _ T69 (mkF m 207 #[.val (.long x0), .second, .val (.long x1), .second, .val (.long x2), .second, .val (.long x3), .second, .val (.int x4), .val (.long v0), .second, .val (.long v1), .second, .val (.long v2), .second, .val (.long v3), .second, .val (.int (1 : Int32)), .val (.int n2), .val (.int n3), .val (.int n4), .val (.ref a54), .val (.int (1 : Int32))] [])
  refine go_st (fun _ kq => XS.iload X69.here hx rfl (hb hby at_207) rfl kq) ?_
  show Go p e below s _ _ _ T69 (mkF m 209 #[.val (.long x0), .second, .val (.long x1), .second, .val (.long x2), .second, .val (.long x3), .second, .val (.int x4), .val (.long v0), .second, .val (.long v1), .second, .val (.long v2), .second, .val (.long v3), .second, .val (.int (1 : Int32)), .val (.int n2), .val (.int n3), .val (.int n4), .val (.ref a54), .val (.int (1 : Int32))] [(.int (1 : Int32))])
  refine go_st (fun _ kq => XS.ifNo X69.here hx rfl (hb hby at_209) rfl (XT.i0_eq_f (by decide)) kq) ?_
  show Go p e below s _ _ _ T69 (mkF m 212 #[.val (.long x0), .second, .val (.long x1), .second, .val (.long x2), .second, .val (.long x3), .second, .val (.int x4), .val (.long v0), .second, .val (.long v1), .second, .val (.long v2), .second, .val (.long v3), .second, .val (.int (1 : Int32)), .val (.int n2), .val (.int n3), .val (.int n4), .val (.ref a54), .val (.int (1 : Int32))] [])
  refine go_st (fun _ kq => XS.aload X69.here hx rfl (hb hby at_212) rfl rfl kq) ?_
  show Go p e below s _ _ _ T69 (mkF m 214 #[.val (.long x0), .second, .val (.long x1), .second, .val (.long x2), .second, .val (.long x3), .second, .val (.int x4), .val (.long v0), .second, .val (.long v1), .second, .val (.long v2), .second, .val (.long v3), .second, .val (.int (1 : Int32)), .val (.int n2), .val (.int n3), .val (.int n4), .val (.ref a54), .val (.int (1 : Int32))] [(.ref a54)])
  have z71 : n0 ≤ T69.heap.size := Nat.le_trans z67 K69.1
  refine go_callV X69 hx hZ hml hown (hw _ (List.mem_of_getElem? (i := 16) rfl)) (hw _ (List.mem_of_getElem? (i := 17) rfl)) (notFace_of_selects (args := #[]) (mvT hZ (hw _ (List.mem_of_getElem? (i := 19) rfl)))) (hw _ (List.mem_of_getElem? (i := 19) rfl)) (hw _ (List.mem_of_getElem? (i := 18) rfl)) (hw _ (List.mem_of_getElem? (i := 20) rfl)) (hw _ (List.mem_of_getElem? (i := 6) rfl)) rfl f69_0 (argsL := []) (rest := []) (W := 0) (met_4 l Z a0 hw a54 (Int32.ofNat u'_69) z'_69 T69.heap n0 z71 f69_2 f69_3) (hb hby at_214) rfl rfl rfl (lenOf pd2 rfl) (by show 2 * 0 + _ ≤ _; exact Nat.le_of_eq rfl) (by decide) (by decide) (by decide) (by decide) (by decide) ?_
  intro T70 v70 L70 X70 q70
  obtain ⟨rfl, M70, e70⟩ := q70
  have N70 := Fr.app N69 M70
  show Go p e below s _ _ _ T70 (mkF m 217 #[.val (.long x0), .second, .val (.long x1), .second, .val (.long x2), .second, .val (.long x3), .second, .val (.int x4), .val (.long v0), .second, .val (.long v1), .second, .val (.long v2), .second, .val (.long v3), .second, .val (.int (1 : Int32)), .val (.int n2), .val (.int n3), .val (.int n4), .val (.ref a54), .val (.int (1 : Int32))] [(.int (fCnt (Int32.ofNat u'_69) z'_69))])
  refine go_st (fun _ kq => XS.iload X70.here hx rfl (hb hby at_217) rfl kq) ?_
  show Go p e below s _ _ _ T70 (mkF m 219 #[.val (.long x0), .second, .val (.long x1), .second, .val (.long x2), .second, .val (.long x3), .second, .val (.int x4), .val (.long v0), .second, .val (.long v1), .second, .val (.long v2), .second, .val (.long v3), .second, .val (.int (1 : Int32)), .val (.int n2), .val (.int n3), .val (.int n4), .val (.ref a54), .val (.int (1 : Int32))] [(.int n2), (.int (fCnt (Int32.ofNat u'_69) z'_69))])
  have hb72 : (fCnt (Int32.ofNat u'_69) z'_69) = n2 := by rw [own_cnt (by omega) zz69, ck2]; exact hn2.symm
  refine go_st (fun _ kq => XS.icmpNo X70.here hx rfl (hb hby at_219) rfl (XT.ii_ne_f hb72) kq) ?_
  show Go p e below s _ _ _ T70 (mkF m 222 #[.val (.long x0), .second, .val (.long x1), .second, .val (.long x2), .second, .val (.long x3), .second, .val (.int x4), .val (.long v0), .second, .val (.long v1), .second, .val (.long v2), .second, .val (.long v3), .second, .val (.int (1 : Int32)), .val (.int n2), .val (.int n3), .val (.int n4), .val (.ref a54), .val (.int (1 : Int32))] [])
  refine go_st (fun _ kq => XT.iconstV X70.here hx rfl (1 : Int32) (hb hby at_222) (by decide) kq) ?_
  show Go p e below s _ _ _ T70 (mkF m 223 #[.val (.long x0), .second, .val (.long x1), .second, .val (.long x2), .second, .val (.long x3), .second, .val (.int x4), .val (.long v0), .second, .val (.long v1), .second, .val (.long v2), .second, .val (.long v3), .second, .val (.int (1 : Int32)), .val (.int n2), .val (.int n3), .val (.int n4), .val (.ref a54), .val (.int (1 : Int32))] [(.int (1 : Int32))])
  refine go_st (fun _ kq => XS.goto X70.here hx rfl (pc0 := 223) (pc' := 227) rfl (hb hby at_223) (by decide) (by decide) kq) ?_
  show Go p e below s _ _ _ T70 (mkF m 227 #[.val (.long x0), .second, .val (.long x1), .second, .val (.long x2), .second, .val (.long x3), .second, .val (.int x4), .val (.long v0), .second, .val (.long v1), .second, .val (.long v2), .second, .val (.long v3), .second, .val (.int (1 : Int32)), .val (.int n2), .val (.int n3), .val (.int n4), .val (.ref a54), .val (.int (1 : Int32))] [(.int (1 : Int32))])
  refine go_st (fun _ kq => XS.istore X70.here hx rfl (hb hby at_227) rfl (l' := #[.val (.long x0), .second, .val (.long x1), .second, .val (.long x2), .second, .val (.long x3), .second, .val (.int x4), .val (.long v0), .second, .val (.long v1), .second, .val (.long v2), .second, .val (.long v3), .second, .val (.int (1 : Int32)), .val (.int n2), .val (.int n3), .val (.int n4), .val (.ref a54), .val (.int (1 : Int32))]) rfl kq) ?_
  show Go p e below s _ _ _ T70 (mkF m 229 #[.val (.long x0), .second, .val (.long x1), .second, .val (.long x2), .second, .val (.long x3), .second, .val (.int x4), .val (.long v0), .second, .val (.long v1), .second, .val (.long v2), .second, .val (.long v3), .second, .val (.int (1 : Int32)), .val (.int n2), .val (.int n3), .val (.int n4), .val (.ref a54), .val (.int (1 : Int32))] [])
  refine go_st (fun _ kq => XS.aload X70.here hx rfl (hb hby at_229) rfl rfl kq) ?_
  show Go p e below s _ _ _ T70 (mkF m 231 #[.val (.long x0), .second, .val (.long x1), .second, .val (.long x2), .second, .val (.long x3), .second, .val (.int x4), .val (.long v0), .second, .val (.long v1), .second, .val (.long v2), .second, .val (.long v3), .second, .val (.int (1 : Int32)), .val (.int n2), .val (.int n3), .val (.int n4), .val (.ref a54), .val (.int (1 : Int32))] [(.ref a54)])
  refine go_st (fun _ kq => XT.lload X70.here hx rfl (hb hby at_231) rfl kq) ?_
  show Go p e below s _ _ _ T70 (mkF m 233 #[.val (.long x0), .second, .val (.long x1), .second, .val (.long x2), .second, .val (.long x3), .second, .val (.int x4), .val (.long v0), .second, .val (.long v1), .second, .val (.long v2), .second, .val (.long v3), .second, .val (.int (1 : Int32)), .val (.int n2), .val (.int n3), .val (.int n4), .val (.ref a54), .val (.int (1 : Int32))] [(.long v2), (.ref a54)])
  refine go_callV X70 hx hZ hml hown (hw _ (List.mem_of_getElem? (i := 25) rfl)) (hw _ (List.mem_of_getElem? (i := 26) rfl)) (notFace_of_selects (args := #[]) (mvT hZ (hw _ (List.mem_of_getElem? (i := 28) rfl)))) (hw _ (List.mem_of_getElem? (i := 28) rfl)) (hw _ (List.mem_of_getElem? (i := 27) rfl)) (hw _ (List.mem_of_getElem? (i := 29) rfl)) (hw _ (List.mem_of_getElem? (i := 6) rfl)) e70 f69_0 (argsL := [(.long v2)]) (rest := []) (W := 0) (met_add l Z a0 hw a54 v2 sl_58 u'_69 z'_69 f'_69 T69.heap n0 z71 f69_0 f69_1 f69_2 f69_3 f69_4 p58_0 ti69 zz69 (by omega) nw_a54 nw_sl_58) (hb hby at_233) rfl rfl rfl (lenOf pd3 rfl) (by show 2 * 0 + _ ≤ _; exact Nat.le_of_eq rfl) (by decide) (by decide) (by decide) (by decide) (by decide) ?_
  intro T73 v73 L73 X73 q73
  obtain ⟨f'_73, u'_73, z'_73, rfl, M73, K73, p73_0, f73_0, f73_1, f73_2, f73_3, f73_4⟩ := q73
  have N73 := Fr.app N70 M73
  obtain ⟨ti73, zz73, pp73, ul73, cn73⟩ := p73_0
  have pr3 : ∀ w, Pres f'_73 z'_73 w ↔ (w = v0 ∨ w = v1 ∨ w = v2) := fun w => (pp73 w).trans (by first | (rw [pr2 w]; done) | (rw [pr2 w]; simp [or_assoc]))
  have ck3 : (u'_73 : Int) + (z'_73 : Int32).toInt = 1 + (if v1 = v0 then 0 else 1) + (if v2 = v0 ∨ v2 = v1 then 0 else 1) := (own_step cn73 (pr2 v2)).trans (by rw [ck2])
  show Go p e below s _ _ _ T73 (mkF m 236 #[.val (.long x0), .second, .val (.long x1), .second, .val (.long x2), .second, .val (.long x3), .second, .val (.int x4), .val (.long v0), .second, .val (.long v1), .second, .val (.long v2), .second, .val (.long v3), .second, .val (.int (1 : Int32)), .val (.int n2), .val (.int n3), .val (.int n4), .val (.ref a54), .val (.int (1 : Int32))] [])
  refine go_st (fun _ kq => XS.iload X73.here hx rfl (hb hby at_236) rfl kq) ?_
  show Go p e below s _ _ _ T73 (mkF m 238 #[.val (.long x0), .second, .val (.long x1), .second, .val (.long x2), .second, .val (.long x3), .second, .val (.int x4), .val (.long v0), .second, .val (.long v1), .second, .val (.long v2), .second, .val (.long v3), .second, .val (.int (1 : Int32)), .val (.int n2), .val (.int n3), .val (.int n4), .val (.ref a54), .val (.int (1 : Int32))] [(.int (1 : Int32))])
  refine go_st (fun _ kq => XS.ifNo X73.here hx rfl (hb hby at_238) rfl (XT.i0_eq_f (by decide)) kq) ?_
  show Go p e below s _ _ _ T73 (mkF m 241 #[.val (.long x0), .second, .val (.long x1), .second, .val (.long x2), .second, .val (.long x3), .second, .val (.int x4), .val (.long v0), .second, .val (.long v1), .second, .val (.long v2), .second, .val (.long v3), .second, .val (.int (1 : Int32)), .val (.int n2), .val (.int n3), .val (.int n4), .val (.ref a54), .val (.int (1 : Int32))] [])
  refine go_st (fun _ kq => XS.aload X73.here hx rfl (hb hby at_241) rfl rfl kq) ?_
  show Go p e below s _ _ _ T73 (mkF m 243 #[.val (.long x0), .second, .val (.long x1), .second, .val (.long x2), .second, .val (.long x3), .second, .val (.int x4), .val (.long v0), .second, .val (.long v1), .second, .val (.long v2), .second, .val (.long v3), .second, .val (.int (1 : Int32)), .val (.int n2), .val (.int n3), .val (.int n4), .val (.ref a54), .val (.int (1 : Int32))] [(.ref a54)])
  have z75 : n0 ≤ T73.heap.size := Nat.le_trans z71 K73.1
  refine go_callV X73 hx hZ hml hown (hw _ (List.mem_of_getElem? (i := 16) rfl)) (hw _ (List.mem_of_getElem? (i := 17) rfl)) (notFace_of_selects (args := #[]) (mvT hZ (hw _ (List.mem_of_getElem? (i := 19) rfl)))) (hw _ (List.mem_of_getElem? (i := 19) rfl)) (hw _ (List.mem_of_getElem? (i := 18) rfl)) (hw _ (List.mem_of_getElem? (i := 20) rfl)) (hw _ (List.mem_of_getElem? (i := 6) rfl)) rfl f73_0 (argsL := []) (rest := []) (W := 0) (met_4 l Z a0 hw a54 (Int32.ofNat u'_73) z'_73 T73.heap n0 z75 f73_2 f73_3) (hb hby at_243) rfl rfl rfl (lenOf pd2 rfl) (by show 2 * 0 + _ ≤ _; exact Nat.le_of_eq rfl) (by decide) (by decide) (by decide) (by decide) (by decide) ?_
  intro T74 v74 L74 X74 q74
  obtain ⟨rfl, M74, e74⟩ := q74
  have N74 := Fr.app N73 M74
  show Go p e below s _ _ _ T74 (mkF m 246 #[.val (.long x0), .second, .val (.long x1), .second, .val (.long x2), .second, .val (.long x3), .second, .val (.int x4), .val (.long v0), .second, .val (.long v1), .second, .val (.long v2), .second, .val (.long v3), .second, .val (.int (1 : Int32)), .val (.int n2), .val (.int n3), .val (.int n4), .val (.ref a54), .val (.int (1 : Int32))] [(.int (fCnt (Int32.ofNat u'_73) z'_73))])
  refine go_st (fun _ kq => XS.iload X74.here hx rfl (hb hby at_246) rfl kq) ?_
  show Go p e below s _ _ _ T74 (mkF m 248 #[.val (.long x0), .second, .val (.long x1), .second, .val (.long x2), .second, .val (.long x3), .second, .val (.int x4), .val (.long v0), .second, .val (.long v1), .second, .val (.long v2), .second, .val (.long v3), .second, .val (.int (1 : Int32)), .val (.int n2), .val (.int n3), .val (.int n4), .val (.ref a54), .val (.int (1 : Int32))] [(.int n3), (.int (fCnt (Int32.ofNat u'_73) z'_73))])
  have hb76 : (fCnt (Int32.ofNat u'_73) z'_73) = n3 := by rw [own_cnt (by omega) zz73, ck3]; exact hn3.symm
  refine go_st (fun _ kq => XS.icmpNo X74.here hx rfl (hb hby at_248) rfl (XT.ii_ne_f hb76) kq) ?_
  show Go p e below s _ _ _ T74 (mkF m 251 #[.val (.long x0), .second, .val (.long x1), .second, .val (.long x2), .second, .val (.long x3), .second, .val (.int x4), .val (.long v0), .second, .val (.long v1), .second, .val (.long v2), .second, .val (.long v3), .second, .val (.int (1 : Int32)), .val (.int n2), .val (.int n3), .val (.int n4), .val (.ref a54), .val (.int (1 : Int32))] [])
  refine go_st (fun _ kq => XT.iconstV X74.here hx rfl (1 : Int32) (hb hby at_251) (by decide) kq) ?_
  show Go p e below s _ _ _ T74 (mkF m 252 #[.val (.long x0), .second, .val (.long x1), .second, .val (.long x2), .second, .val (.long x3), .second, .val (.int x4), .val (.long v0), .second, .val (.long v1), .second, .val (.long v2), .second, .val (.long v3), .second, .val (.int (1 : Int32)), .val (.int n2), .val (.int n3), .val (.int n4), .val (.ref a54), .val (.int (1 : Int32))] [(.int (1 : Int32))])
  refine go_st (fun _ kq => XS.goto X74.here hx rfl (pc0 := 252) (pc' := 256) rfl (hb hby at_252) (by decide) (by decide) kq) ?_
  show Go p e below s _ _ _ T74 (mkF m 256 #[.val (.long x0), .second, .val (.long x1), .second, .val (.long x2), .second, .val (.long x3), .second, .val (.int x4), .val (.long v0), .second, .val (.long v1), .second, .val (.long v2), .second, .val (.long v3), .second, .val (.int (1 : Int32)), .val (.int n2), .val (.int n3), .val (.int n4), .val (.ref a54), .val (.int (1 : Int32))] [(.int (1 : Int32))])
  refine go_st (fun _ kq => XS.istore X74.here hx rfl (hb hby at_256) rfl (l' := #[.val (.long x0), .second, .val (.long x1), .second, .val (.long x2), .second, .val (.long x3), .second, .val (.int x4), .val (.long v0), .second, .val (.long v1), .second, .val (.long v2), .second, .val (.long v3), .second, .val (.int (1 : Int32)), .val (.int n2), .val (.int n3), .val (.int n4), .val (.ref a54), .val (.int (1 : Int32))]) rfl kq) ?_
  show Go p e below s _ _ _ T74 (mkF m 258 #[.val (.long x0), .second, .val (.long x1), .second, .val (.long x2), .second, .val (.long x3), .second, .val (.int x4), .val (.long v0), .second, .val (.long v1), .second, .val (.long v2), .second, .val (.long v3), .second, .val (.int (1 : Int32)), .val (.int n2), .val (.int n3), .val (.int n4), .val (.ref a54), .val (.int (1 : Int32))] [])
  refine go_st (fun _ kq => XS.aload X74.here hx rfl (hb hby at_258) rfl rfl kq) ?_
  show Go p e below s _ _ _ T74 (mkF m 260 #[.val (.long x0), .second, .val (.long x1), .second, .val (.long x2), .second, .val (.long x3), .second, .val (.int x4), .val (.long v0), .second, .val (.long v1), .second, .val (.long v2), .second, .val (.long v3), .second, .val (.int (1 : Int32)), .val (.int n2), .val (.int n3), .val (.int n4), .val (.ref a54), .val (.int (1 : Int32))] [(.ref a54)])
  refine go_st (fun _ kq => XT.lload X74.here hx rfl (hb hby at_260) rfl kq) ?_
  show Go p e below s _ _ _ T74 (mkF m 262 #[.val (.long x0), .second, .val (.long x1), .second, .val (.long x2), .second, .val (.long x3), .second, .val (.int x4), .val (.long v0), .second, .val (.long v1), .second, .val (.long v2), .second, .val (.long v3), .second, .val (.int (1 : Int32)), .val (.int n2), .val (.int n3), .val (.int n4), .val (.ref a54), .val (.int (1 : Int32))] [(.long v3), (.ref a54)])
  refine go_callV X74 hx hZ hml hown (hw _ (List.mem_of_getElem? (i := 25) rfl)) (hw _ (List.mem_of_getElem? (i := 26) rfl)) (notFace_of_selects (args := #[]) (mvT hZ (hw _ (List.mem_of_getElem? (i := 28) rfl)))) (hw _ (List.mem_of_getElem? (i := 28) rfl)) (hw _ (List.mem_of_getElem? (i := 27) rfl)) (hw _ (List.mem_of_getElem? (i := 29) rfl)) (hw _ (List.mem_of_getElem? (i := 6) rfl)) e74 f73_0 (argsL := [(.long v3)]) (rest := []) (W := 0) (met_add l Z a0 hw a54 v3 sl_58 u'_73 z'_73 f'_73 T73.heap n0 z75 f73_0 f73_1 f73_2 f73_3 f73_4 p58_0 ti73 zz73 (by omega) nw_a54 nw_sl_58) (hb hby at_262) rfl rfl rfl (lenOf pd3 rfl) (by show 2 * 0 + _ ≤ _; exact Nat.le_of_eq rfl) (by decide) (by decide) (by decide) (by decide) (by decide) ?_
  intro T77 v77 L77 X77 q77
  obtain ⟨f'_77, u'_77, z'_77, rfl, M77, K77, p77_0, f77_0, f77_1, f77_2, f77_3, f77_4⟩ := q77
  have N77 := Fr.app N74 M77
  obtain ⟨ti77, zz77, pp77, ul77, cn77⟩ := p77_0
  have pr4 : ∀ w, Pres f'_77 z'_77 w ↔ (w = v0 ∨ w = v1 ∨ w = v2 ∨ w = v3) := fun w => (pp77 w).trans (by first | (rw [pr3 w]; done) | (rw [pr3 w]; simp [or_assoc]))
  have ck4 : (u'_77 : Int) + (z'_77 : Int32).toInt = 1 + (if v1 = v0 then 0 else 1) + (if v2 = v0 ∨ v2 = v1 then 0 else 1) + (if v3 = v0 ∨ v3 = v1 ∨ v3 = v2 then 0 else 1) := (own_step cn77 (pr3 v3)).trans (by rw [ck3])
  show Go p e below s _ _ _ T77 (mkF m 265 #[.val (.long x0), .second, .val (.long x1), .second, .val (.long x2), .second, .val (.long x3), .second, .val (.int x4), .val (.long v0), .second, .val (.long v1), .second, .val (.long v2), .second, .val (.long v3), .second, .val (.int (1 : Int32)), .val (.int n2), .val (.int n3), .val (.int n4), .val (.ref a54), .val (.int (1 : Int32))] [])
  refine go_st (fun _ kq => XS.iload X77.here hx rfl (hb hby at_265) rfl kq) ?_
  show Go p e below s _ _ _ T77 (mkF m 267 #[.val (.long x0), .second, .val (.long x1), .second, .val (.long x2), .second, .val (.long x3), .second, .val (.int x4), .val (.long v0), .second, .val (.long v1), .second, .val (.long v2), .second, .val (.long v3), .second, .val (.int (1 : Int32)), .val (.int n2), .val (.int n3), .val (.int n4), .val (.ref a54), .val (.int (1 : Int32))] [(.int (1 : Int32))])
  refine go_st (fun _ kq => XS.ifNo X77.here hx rfl (hb hby at_267) rfl (XT.i0_eq_f (by decide)) kq) ?_
  show Go p e below s _ _ _ T77 (mkF m 270 #[.val (.long x0), .second, .val (.long x1), .second, .val (.long x2), .second, .val (.long x3), .second, .val (.int x4), .val (.long v0), .second, .val (.long v1), .second, .val (.long v2), .second, .val (.long v3), .second, .val (.int (1 : Int32)), .val (.int n2), .val (.int n3), .val (.int n4), .val (.ref a54), .val (.int (1 : Int32))] [])
  refine go_st (fun _ kq => XS.aload X77.here hx rfl (hb hby at_270) rfl rfl kq) ?_
  show Go p e below s _ _ _ T77 (mkF m 272 #[.val (.long x0), .second, .val (.long x1), .second, .val (.long x2), .second, .val (.long x3), .second, .val (.int x4), .val (.long v0), .second, .val (.long v1), .second, .val (.long v2), .second, .val (.long v3), .second, .val (.int (1 : Int32)), .val (.int n2), .val (.int n3), .val (.int n4), .val (.ref a54), .val (.int (1 : Int32))] [(.ref a54)])
  have z79 : n0 ≤ T77.heap.size := Nat.le_trans z75 K77.1
  refine go_callV X77 hx hZ hml hown (hw _ (List.mem_of_getElem? (i := 16) rfl)) (hw _ (List.mem_of_getElem? (i := 17) rfl)) (notFace_of_selects (args := #[]) (mvT hZ (hw _ (List.mem_of_getElem? (i := 19) rfl)))) (hw _ (List.mem_of_getElem? (i := 19) rfl)) (hw _ (List.mem_of_getElem? (i := 18) rfl)) (hw _ (List.mem_of_getElem? (i := 20) rfl)) (hw _ (List.mem_of_getElem? (i := 6) rfl)) rfl f77_0 (argsL := []) (rest := []) (W := 0) (met_4 l Z a0 hw a54 (Int32.ofNat u'_77) z'_77 T77.heap n0 z79 f77_2 f77_3) (hb hby at_272) rfl rfl rfl (lenOf pd2 rfl) (by show 2 * 0 + _ ≤ _; exact Nat.le_of_eq rfl) (by decide) (by decide) (by decide) (by decide) (by decide) ?_
  intro T78 v78 L78 X78 q78
  obtain ⟨rfl, M78, e78⟩ := q78
  have N78 := Fr.app N77 M78
  show Go p e below s _ _ _ T78 (mkF m 275 #[.val (.long x0), .second, .val (.long x1), .second, .val (.long x2), .second, .val (.long x3), .second, .val (.int x4), .val (.long v0), .second, .val (.long v1), .second, .val (.long v2), .second, .val (.long v3), .second, .val (.int (1 : Int32)), .val (.int n2), .val (.int n3), .val (.int n4), .val (.ref a54), .val (.int (1 : Int32))] [(.int (fCnt (Int32.ofNat u'_77) z'_77))])
  refine go_st (fun _ kq => XS.iload X78.here hx rfl (hb hby at_275) rfl kq) ?_
  show Go p e below s _ _ _ T78 (mkF m 277 #[.val (.long x0), .second, .val (.long x1), .second, .val (.long x2), .second, .val (.long x3), .second, .val (.int x4), .val (.long v0), .second, .val (.long v1), .second, .val (.long v2), .second, .val (.long v3), .second, .val (.int (1 : Int32)), .val (.int n2), .val (.int n3), .val (.int n4), .val (.ref a54), .val (.int (1 : Int32))] [(.int n4), (.int (fCnt (Int32.ofNat u'_77) z'_77))])
  have hb80 : (fCnt (Int32.ofNat u'_77) z'_77) = n4 := by rw [own_cnt (by omega) zz77, ck4]; exact hn4.symm
  refine go_st (fun _ kq => XS.icmpNo X78.here hx rfl (hb hby at_277) rfl (XT.ii_ne_f hb80) kq) ?_
  show Go p e below s _ _ _ T78 (mkF m 280 #[.val (.long x0), .second, .val (.long x1), .second, .val (.long x2), .second, .val (.long x3), .second, .val (.int x4), .val (.long v0), .second, .val (.long v1), .second, .val (.long v2), .second, .val (.long v3), .second, .val (.int (1 : Int32)), .val (.int n2), .val (.int n3), .val (.int n4), .val (.ref a54), .val (.int (1 : Int32))] [])
  refine go_st (fun _ kq => XT.iconstV X78.here hx rfl (1 : Int32) (hb hby at_280) (by decide) kq) ?_
  show Go p e below s _ _ _ T78 (mkF m 281 #[.val (.long x0), .second, .val (.long x1), .second, .val (.long x2), .second, .val (.long x3), .second, .val (.int x4), .val (.long v0), .second, .val (.long v1), .second, .val (.long v2), .second, .val (.long v3), .second, .val (.int (1 : Int32)), .val (.int n2), .val (.int n3), .val (.int n4), .val (.ref a54), .val (.int (1 : Int32))] [(.int (1 : Int32))])
  refine go_st (fun _ kq => XS.goto X78.here hx rfl (pc0 := 281) (pc' := 285) rfl (hb hby at_281) (by decide) (by decide) kq) ?_
  show Go p e below s _ _ _ T78 (mkF m 285 #[.val (.long x0), .second, .val (.long x1), .second, .val (.long x2), .second, .val (.long x3), .second, .val (.int x4), .val (.long v0), .second, .val (.long v1), .second, .val (.long v2), .second, .val (.long v3), .second, .val (.int (1 : Int32)), .val (.int n2), .val (.int n3), .val (.int n4), .val (.ref a54), .val (.int (1 : Int32))] [(.int (1 : Int32))])
  refine go_st (fun _ kq => XS.istore X78.here hx rfl (hb hby at_285) rfl (l' := #[.val (.long x0), .second, .val (.long x1), .second, .val (.long x2), .second, .val (.long x3), .second, .val (.int x4), .val (.long v0), .second, .val (.long v1), .second, .val (.long v2), .second, .val (.long v3), .second, .val (.int (1 : Int32)), .val (.int n2), .val (.int n3), .val (.int n4), .val (.ref a54), .val (.int (1 : Int32))]) rfl kq) ?_
  show Go p e below s _ _ _ T78 (mkF m 287 #[.val (.long x0), .second, .val (.long x1), .second, .val (.long x2), .second, .val (.long x3), .second, .val (.int x4), .val (.long v0), .second, .val (.long v1), .second, .val (.long v2), .second, .val (.long v3), .second, .val (.int (1 : Int32)), .val (.int n2), .val (.int n3), .val (.int n4), .val (.ref a54), .val (.int (1 : Int32))] [])
  refine go_st (fun _ kq => XS.iload X78.here hx rfl (hb hby at_287) rfl kq) ?_
  show Go p e below s _ _ _ T78 (mkF m 289 #[.val (.long x0), .second, .val (.long x1), .second, .val (.long x2), .second, .val (.long x3), .second, .val (.int x4), .val (.long v0), .second, .val (.long v1), .second, .val (.long v2), .second, .val (.long v3), .second, .val (.int (1 : Int32)), .val (.int n2), .val (.int n3), .val (.int n4), .val (.ref a54), .val (.int (1 : Int32))] [(.int (1 : Int32))])
  exact go_retB (w := (1 : Int32)) X78 hx hlk hret (hb hby at_289) (by decide) (by decide) (by decide) ⟨rfl, N78⟩
set_option maxRecDepth 65536 in
set_option maxHeartbeats 4000000 in
theorem blk69 (l : Launch) (Z : State) (a0 : Array Value) (hw : ∀ d ∈ tables_1, d.before a0 Z = true) {p : Program} {e : Env} {s : State} {m : MethodId} {args : Array Value} {below : List Frame} {meth : Method} {c : Code} (ct : Ct p s m meth c Z "com/example/skipstone/skipstone/prune/DistinctHashesCountPinLaw" "law" code maxLocals ret) (x0 x1 x2 x3 : Int64) (x4 : Int32) (v0 v1 v2 v3 : Int64) {T0 : State} {locs : List Loc} (X0 : Stand p l e room_1 s m args below meth c T0 locs 0 0) {h0 : Heap} (e0 : T0.heap = h0) (n0 : Nat) (Z0 : n0 ≤ h0.size) (N0 : Fr n0 locs) :
    Go p e below s (QF (some (.int 1)) n0) 16 128 T0 (mkF m 69 #[.val (.long x0), .second, .val (.long x1), .second, .val (.long x2), .second, .val (.long x3), .second, .val (.int x4), .val (.long v0), .second, .val (.long v1), .second, .val (.long v2), .second, .val (.long v3), .second, .val (.int (1 : Int32)), .unset, .unset, .unset, .unset, .unset] []) := by
  have ct0 := ct
  obtain ⟨hx, hZ, hown, hby, hml, hret, hlk, hnm⟩ := ct
  show Go p e below s _ _ _ T0 (mkF m 69 #[.val (.long x0), .second, .val (.long x1), .second, .val (.long x2), .second, .val (.long x3), .second, .val (.int x4), .val (.long v0), .second, .val (.long v1), .second, .val (.long v2), .second, .val (.long v3), .second, .val (.int (1 : Int32)), .unset, .unset, .unset, .unset, .unset] [])
  refine go_st (fun _ kq => XS.iload X0.here hx rfl (hb hby at_69) rfl kq) ?_
  show Go p e below s _ _ _ T0 (mkF m 71 #[.val (.long x0), .second, .val (.long x1), .second, .val (.long x2), .second, .val (.long x3), .second, .val (.int x4), .val (.long v0), .second, .val (.long v1), .second, .val (.long v2), .second, .val (.long v3), .second, .val (.int (1 : Int32)), .unset, .unset, .unset, .unset, .unset] [(.int (1 : Int32))])
  refine go_st (fun _ kq => XT.lload X0.here hx rfl (hb hby at_71) rfl kq) ?_
  show Go p e below s _ _ _ T0 (mkF m 73 #[.val (.long x0), .second, .val (.long x1), .second, .val (.long x2), .second, .val (.long x3), .second, .val (.int x4), .val (.long v0), .second, .val (.long v1), .second, .val (.long v2), .second, .val (.long v3), .second, .val (.int (1 : Int32)), .unset, .unset, .unset, .unset, .unset] [(.long v1), (.int (1 : Int32))])
  refine go_st (fun _ kq => XT.lload X0.here hx rfl (hb hby at_73) rfl kq) ?_
  show Go p e below s _ _ _ T0 (mkF m 75 #[.val (.long x0), .second, .val (.long x1), .second, .val (.long x2), .second, .val (.long x3), .second, .val (.int x4), .val (.long v0), .second, .val (.long v1), .second, .val (.long v2), .second, .val (.long v3), .second, .val (.int (1 : Int32)), .unset, .unset, .unset, .unset, .unset] [(.long v0), (.long v1), (.int (1 : Int32))])
  refine go_st (fun _ kq => XT.lcmp X0.here hx rfl (hb hby at_75) rfl kq) ?_
  show Go p e below s _ _ _ T0 (mkF m 76 #[.val (.long x0), .second, .val (.long x1), .second, .val (.long x2), .second, .val (.long x3), .second, .val (.int x4), .val (.long v0), .second, .val (.long v1), .second, .val (.long v2), .second, .val (.long v3), .second, .val (.int (1 : Int32)), .unset, .unset, .unset, .unset, .unset] [(.int (XT.cmpL v1 v0)), (.int (1 : Int32))])
  by_cases hc81 : v1 = v0
  · refine go_st (fun _ kq => XS.ifYes X0.here hx rfl (pc0 := 76) (pc' := 83) rfl (hb hby at_76) rfl (XT.ll_eq_t hc81) (by decide) (by decide) kq) ?_
    show Go p e below s _ _ _ T0 (mkF m 83 #[.val (.long x0), .second, .val (.long x1), .second, .val (.long x2), .second, .val (.long x3), .second, .val (.int x4), .val (.long v0), .second, .val (.long v1), .second, .val (.long v2), .second, .val (.long v3), .second, .val (.int (1 : Int32)), .unset, .unset, .unset, .unset, .unset] [(.int (1 : Int32))])
    refine go_st (fun _ kq => XT.iconstV X0.here hx rfl (0 : Int32) (hb hby at_83) (by decide) kq) ?_
    show Go p e below s _ _ _ T0 (mkF m 84 #[.val (.long x0), .second, .val (.long x1), .second, .val (.long x2), .second, .val (.long x3), .second, .val (.int x4), .val (.long v0), .second, .val (.long v1), .second, .val (.long v2), .second, .val (.long v3), .second, .val (.int (1 : Int32)), .unset, .unset, .unset, .unset, .unset] [(.int (0 : Int32)), (.int (1 : Int32))])
    refine go_st (fun _ kq => XS.iadd X0.here hx rfl (hb hby at_84) rfl kq) ?_
    rw [show ((1 : Int32) + (0 : Int32)) = (1 : Int32) from by decide +kernel]
    show Go p e below s _ _ _ T0 (mkF m 85 #[.val (.long x0), .second, .val (.long x1), .second, .val (.long x2), .second, .val (.long x3), .second, .val (.int x4), .val (.long v0), .second, .val (.long v1), .second, .val (.long v2), .second, .val (.long v3), .second, .val (.int (1 : Int32)), .unset, .unset, .unset, .unset, .unset] [(.int (1 : Int32))])
    refine go_st (fun _ kq => XS.istore X0.here hx rfl (hb hby at_85) rfl (l' := #[.val (.long x0), .second, .val (.long x1), .second, .val (.long x2), .second, .val (.long x3), .second, .val (.int x4), .val (.long v0), .second, .val (.long v1), .second, .val (.long v2), .second, .val (.long v3), .second, .val (.int (1 : Int32)), .val (.int (1 : Int32)), .unset, .unset, .unset, .unset]) rfl kq) ?_
    show Go p e below s _ _ _ T0 (mkF m 87 #[.val (.long x0), .second, .val (.long x1), .second, .val (.long x2), .second, .val (.long x3), .second, .val (.int x4), .val (.long v0), .second, .val (.long v1), .second, .val (.long v2), .second, .val (.long v3), .second, .val (.int (1 : Int32)), .val (.int (1 : Int32)), .unset, .unset, .unset, .unset] [])
    refine go_st (fun _ kq => XS.iload X0.here hx rfl (hb hby at_87) rfl kq) ?_
    show Go p e below s _ _ _ T0 (mkF m 89 #[.val (.long x0), .second, .val (.long x1), .second, .val (.long x2), .second, .val (.long x3), .second, .val (.int x4), .val (.long v0), .second, .val (.long v1), .second, .val (.long v2), .second, .val (.long v3), .second, .val (.int (1 : Int32)), .val (.int (1 : Int32)), .unset, .unset, .unset, .unset] [(.int (1 : Int32))])
    refine go_st (fun _ kq => XT.lload X0.here hx rfl (hb hby at_89) rfl kq) ?_
    show Go p e below s _ _ _ T0 (mkF m 91 #[.val (.long x0), .second, .val (.long x1), .second, .val (.long x2), .second, .val (.long x3), .second, .val (.int x4), .val (.long v0), .second, .val (.long v1), .second, .val (.long v2), .second, .val (.long v3), .second, .val (.int (1 : Int32)), .val (.int (1 : Int32)), .unset, .unset, .unset, .unset] [(.long v2), (.int (1 : Int32))])
    refine go_st (fun _ kq => XT.lload X0.here hx rfl (hb hby at_91) rfl kq) ?_
    show Go p e below s _ _ _ T0 (mkF m 93 #[.val (.long x0), .second, .val (.long x1), .second, .val (.long x2), .second, .val (.long x3), .second, .val (.int x4), .val (.long v0), .second, .val (.long v1), .second, .val (.long v2), .second, .val (.long v3), .second, .val (.int (1 : Int32)), .val (.int (1 : Int32)), .unset, .unset, .unset, .unset] [(.long v0), (.long v2), (.int (1 : Int32))])
    refine go_st (fun _ kq => XT.lcmp X0.here hx rfl (hb hby at_93) rfl kq) ?_
    show Go p e below s _ _ _ T0 (mkF m 94 #[.val (.long x0), .second, .val (.long x1), .second, .val (.long x2), .second, .val (.long x3), .second, .val (.int x4), .val (.long v0), .second, .val (.long v1), .second, .val (.long v2), .second, .val (.long v3), .second, .val (.int (1 : Int32)), .val (.int (1 : Int32)), .unset, .unset, .unset, .unset] [(.int (XT.cmpL v2 v0)), (.int (1 : Int32))])
    by_cases hc82 : v2 = v0
    · refine go_st (fun _ kq => XS.ifYes X0.here hx rfl (pc0 := 94) (pc' := 109) rfl (hb hby at_94) rfl (XT.ll_eq_t hc82) (by decide) (by decide) kq) ?_
      show Go p e below s _ _ _ T0 (mkF m 109 #[.val (.long x0), .second, .val (.long x1), .second, .val (.long x2), .second, .val (.long x3), .second, .val (.int x4), .val (.long v0), .second, .val (.long v1), .second, .val (.long v2), .second, .val (.long v3), .second, .val (.int (1 : Int32)), .val (.int (1 : Int32)), .unset, .unset, .unset, .unset] [(.int (1 : Int32))])
      refine go_st (fun _ kq => XT.iconstV X0.here hx rfl (0 : Int32) (hb hby at_109) (by decide) kq) ?_
      show Go p e below s _ _ _ T0 (mkF m 110 #[.val (.long x0), .second, .val (.long x1), .second, .val (.long x2), .second, .val (.long x3), .second, .val (.int x4), .val (.long v0), .second, .val (.long v1), .second, .val (.long v2), .second, .val (.long v3), .second, .val (.int (1 : Int32)), .val (.int (1 : Int32)), .unset, .unset, .unset, .unset] [(.int (0 : Int32)), (.int (1 : Int32))])
      refine go_st (fun _ kq => XS.iadd X0.here hx rfl (hb hby at_110) rfl kq) ?_
      rw [show ((1 : Int32) + (0 : Int32)) = (1 : Int32) from by decide +kernel]
      show Go p e below s _ _ _ T0 (mkF m 111 #[.val (.long x0), .second, .val (.long x1), .second, .val (.long x2), .second, .val (.long x3), .second, .val (.int x4), .val (.long v0), .second, .val (.long v1), .second, .val (.long v2), .second, .val (.long v3), .second, .val (.int (1 : Int32)), .val (.int (1 : Int32)), .unset, .unset, .unset, .unset] [(.int (1 : Int32))])
      refine go_st (fun _ kq => XS.istore X0.here hx rfl (hb hby at_111) rfl (l' := #[.val (.long x0), .second, .val (.long x1), .second, .val (.long x2), .second, .val (.long x3), .second, .val (.int x4), .val (.long v0), .second, .val (.long v1), .second, .val (.long v2), .second, .val (.long v3), .second, .val (.int (1 : Int32)), .val (.int (1 : Int32)), .val (.int (1 : Int32)), .unset, .unset, .unset]) rfl kq) ?_
      show Go p e below s _ _ _ T0 (mkF m 113 #[.val (.long x0), .second, .val (.long x1), .second, .val (.long x2), .second, .val (.long x3), .second, .val (.int x4), .val (.long v0), .second, .val (.long v1), .second, .val (.long v2), .second, .val (.long v3), .second, .val (.int (1 : Int32)), .val (.int (1 : Int32)), .val (.int (1 : Int32)), .unset, .unset, .unset] [])
      refine go_st (fun _ kq => XS.iload X0.here hx rfl (hb hby at_113) rfl kq) ?_
      show Go p e below s _ _ _ T0 (mkF m 115 #[.val (.long x0), .second, .val (.long x1), .second, .val (.long x2), .second, .val (.long x3), .second, .val (.int x4), .val (.long v0), .second, .val (.long v1), .second, .val (.long v2), .second, .val (.long v3), .second, .val (.int (1 : Int32)), .val (.int (1 : Int32)), .val (.int (1 : Int32)), .unset, .unset, .unset] [(.int (1 : Int32))])
      refine go_st (fun _ kq => XT.lload X0.here hx rfl (hb hby at_115) rfl kq) ?_
      show Go p e below s _ _ _ T0 (mkF m 117 #[.val (.long x0), .second, .val (.long x1), .second, .val (.long x2), .second, .val (.long x3), .second, .val (.int x4), .val (.long v0), .second, .val (.long v1), .second, .val (.long v2), .second, .val (.long v3), .second, .val (.int (1 : Int32)), .val (.int (1 : Int32)), .val (.int (1 : Int32)), .unset, .unset, .unset] [(.long v3), (.int (1 : Int32))])
      refine go_st (fun _ kq => XT.lload X0.here hx rfl (hb hby at_117) rfl kq) ?_
      show Go p e below s _ _ _ T0 (mkF m 119 #[.val (.long x0), .second, .val (.long x1), .second, .val (.long x2), .second, .val (.long x3), .second, .val (.int x4), .val (.long v0), .second, .val (.long v1), .second, .val (.long v2), .second, .val (.long v3), .second, .val (.int (1 : Int32)), .val (.int (1 : Int32)), .val (.int (1 : Int32)), .unset, .unset, .unset] [(.long v0), (.long v3), (.int (1 : Int32))])
      refine go_st (fun _ kq => XT.lcmp X0.here hx rfl (hb hby at_119) rfl kq) ?_
      show Go p e below s _ _ _ T0 (mkF m 120 #[.val (.long x0), .second, .val (.long x1), .second, .val (.long x2), .second, .val (.long x3), .second, .val (.int x4), .val (.long v0), .second, .val (.long v1), .second, .val (.long v2), .second, .val (.long v3), .second, .val (.int (1 : Int32)), .val (.int (1 : Int32)), .val (.int (1 : Int32)), .unset, .unset, .unset] [(.int (XT.cmpL v3 v0)), (.int (1 : Int32))])
      by_cases hc83 : v3 = v0
      · refine go_st (fun _ kq => XS.ifYes X0.here hx rfl (pc0 := 120) (pc' := 143) rfl (hb hby at_120) rfl (XT.ll_eq_t hc83) (by decide) (by decide) kq) ?_
        show Go p e below s _ _ _ T0 (mkF m 143 #[.val (.long x0), .second, .val (.long x1), .second, .val (.long x2), .second, .val (.long x3), .second, .val (.int x4), .val (.long v0), .second, .val (.long v1), .second, .val (.long v2), .second, .val (.long v3), .second, .val (.int (1 : Int32)), .val (.int (1 : Int32)), .val (.int (1 : Int32)), .unset, .unset, .unset] [(.int (1 : Int32))])
        refine go_st (fun _ kq => XT.iconstV X0.here hx rfl (0 : Int32) (hb hby at_143) (by decide) kq) ?_
        show Go p e below s _ _ _ T0 (mkF m 144 #[.val (.long x0), .second, .val (.long x1), .second, .val (.long x2), .second, .val (.long x3), .second, .val (.int x4), .val (.long v0), .second, .val (.long v1), .second, .val (.long v2), .second, .val (.long v3), .second, .val (.int (1 : Int32)), .val (.int (1 : Int32)), .val (.int (1 : Int32)), .unset, .unset, .unset] [(.int (0 : Int32)), (.int (1 : Int32))])
        refine go_st (fun _ kq => XS.iadd X0.here hx rfl (hb hby at_144) rfl kq) ?_
        rw [show ((1 : Int32) + (0 : Int32)) = (1 : Int32) from by decide +kernel]
        show Go p e below s _ _ _ T0 (mkF m 145 #[.val (.long x0), .second, .val (.long x1), .second, .val (.long x2), .second, .val (.long x3), .second, .val (.int x4), .val (.long v0), .second, .val (.long v1), .second, .val (.long v2), .second, .val (.long v3), .second, .val (.int (1 : Int32)), .val (.int (1 : Int32)), .val (.int (1 : Int32)), .unset, .unset, .unset] [(.int (1 : Int32))])
        refine go_st (fun _ kq => XS.istore X0.here hx rfl (hb hby at_145) rfl (l' := #[.val (.long x0), .second, .val (.long x1), .second, .val (.long x2), .second, .val (.long x3), .second, .val (.int x4), .val (.long v0), .second, .val (.long v1), .second, .val (.long v2), .second, .val (.long v3), .second, .val (.int (1 : Int32)), .val (.int (1 : Int32)), .val (.int (1 : Int32)), .val (.int (1 : Int32)), .unset, .unset]) rfl kq) ?_
        show Go p e below s _ _ _ T0 (mkF m 147 #[.val (.long x0), .second, .val (.long x1), .second, .val (.long x2), .second, .val (.long x3), .second, .val (.int x4), .val (.long v0), .second, .val (.long v1), .second, .val (.long v2), .second, .val (.long v3), .second, .val (.int (1 : Int32)), .val (.int (1 : Int32)), .val (.int (1 : Int32)), .val (.int (1 : Int32)), .unset, .unset] [])
        exact blk147 l Z a0 hw ct0 x0 x1 x2 x3 x4 v0 v1 v2 v3 (1 : Int32) (1 : Int32) (1 : Int32) (by first | (simp [hc81, hc82, hc83]; done) | (simp [hc81, hc82, hc83]; decide)) (by first | (simp [hc81, hc82, hc83]; done) | (simp [hc81, hc82, hc83]; decide)) (by first | (simp [hc81, hc82, hc83]; done) | (simp [hc81, hc82, hc83]; decide)) X0 e0 n0 Z0 N0
      · refine go_st (fun _ kq => XS.ifNo X0.here hx rfl (hb hby at_120) rfl (XT.ll_eq_f hc83) kq) ?_
        show Go p e below s _ _ _ T0 (mkF m 123 #[.val (.long x0), .second, .val (.long x1), .second, .val (.long x2), .second, .val (.long x3), .second, .val (.int x4), .val (.long v0), .second, .val (.long v1), .second, .val (.long v2), .second, .val (.long v3), .second, .val (.int (1 : Int32)), .val (.int (1 : Int32)), .val (.int (1 : Int32)), .unset, .unset, .unset] [(.int (1 : Int32))])
        refine go_st (fun _ kq => XT.lload X0.here hx rfl (hb hby at_123) rfl kq) ?_
        show Go p e below s _ _ _ T0 (mkF m 125 #[.val (.long x0), .second, .val (.long x1), .second, .val (.long x2), .second, .val (.long x3), .second, .val (.int x4), .val (.long v0), .second, .val (.long v1), .second, .val (.long v2), .second, .val (.long v3), .second, .val (.int (1 : Int32)), .val (.int (1 : Int32)), .val (.int (1 : Int32)), .unset, .unset, .unset] [(.long v3), (.int (1 : Int32))])
        refine go_st (fun _ kq => XT.lload X0.here hx rfl (hb hby at_125) rfl kq) ?_
        show Go p e below s _ _ _ T0 (mkF m 127 #[.val (.long x0), .second, .val (.long x1), .second, .val (.long x2), .second, .val (.long x3), .second, .val (.int x4), .val (.long v0), .second, .val (.long v1), .second, .val (.long v2), .second, .val (.long v3), .second, .val (.int (1 : Int32)), .val (.int (1 : Int32)), .val (.int (1 : Int32)), .unset, .unset, .unset] [(.long v1), (.long v3), (.int (1 : Int32))])
        refine go_st (fun _ kq => XT.lcmp X0.here hx rfl (hb hby at_127) rfl kq) ?_
        show Go p e below s _ _ _ T0 (mkF m 128 #[.val (.long x0), .second, .val (.long x1), .second, .val (.long x2), .second, .val (.long x3), .second, .val (.int x4), .val (.long v0), .second, .val (.long v1), .second, .val (.long v2), .second, .val (.long v3), .second, .val (.int (1 : Int32)), .val (.int (1 : Int32)), .val (.int (1 : Int32)), .unset, .unset, .unset] [(.int (XT.cmpL v3 v1)), (.int (1 : Int32))])
        by_cases hc84 : v3 = v1
        · refine go_st (fun _ kq => XS.ifYes X0.here hx rfl (pc0 := 128) (pc' := 143) rfl (hb hby at_128) rfl (XT.ll_eq_t hc84) (by decide) (by decide) kq) ?_
          show Go p e below s _ _ _ T0 (mkF m 143 #[.val (.long x0), .second, .val (.long x1), .second, .val (.long x2), .second, .val (.long x3), .second, .val (.int x4), .val (.long v0), .second, .val (.long v1), .second, .val (.long v2), .second, .val (.long v3), .second, .val (.int (1 : Int32)), .val (.int (1 : Int32)), .val (.int (1 : Int32)), .unset, .unset, .unset] [(.int (1 : Int32))])
          refine go_st (fun _ kq => XT.iconstV X0.here hx rfl (0 : Int32) (hb hby at_143) (by decide) kq) ?_
          show Go p e below s _ _ _ T0 (mkF m 144 #[.val (.long x0), .second, .val (.long x1), .second, .val (.long x2), .second, .val (.long x3), .second, .val (.int x4), .val (.long v0), .second, .val (.long v1), .second, .val (.long v2), .second, .val (.long v3), .second, .val (.int (1 : Int32)), .val (.int (1 : Int32)), .val (.int (1 : Int32)), .unset, .unset, .unset] [(.int (0 : Int32)), (.int (1 : Int32))])
          refine go_st (fun _ kq => XS.iadd X0.here hx rfl (hb hby at_144) rfl kq) ?_
          rw [show ((1 : Int32) + (0 : Int32)) = (1 : Int32) from by decide +kernel]
          show Go p e below s _ _ _ T0 (mkF m 145 #[.val (.long x0), .second, .val (.long x1), .second, .val (.long x2), .second, .val (.long x3), .second, .val (.int x4), .val (.long v0), .second, .val (.long v1), .second, .val (.long v2), .second, .val (.long v3), .second, .val (.int (1 : Int32)), .val (.int (1 : Int32)), .val (.int (1 : Int32)), .unset, .unset, .unset] [(.int (1 : Int32))])
          refine go_st (fun _ kq => XS.istore X0.here hx rfl (hb hby at_145) rfl (l' := #[.val (.long x0), .second, .val (.long x1), .second, .val (.long x2), .second, .val (.long x3), .second, .val (.int x4), .val (.long v0), .second, .val (.long v1), .second, .val (.long v2), .second, .val (.long v3), .second, .val (.int (1 : Int32)), .val (.int (1 : Int32)), .val (.int (1 : Int32)), .val (.int (1 : Int32)), .unset, .unset]) rfl kq) ?_
          show Go p e below s _ _ _ T0 (mkF m 147 #[.val (.long x0), .second, .val (.long x1), .second, .val (.long x2), .second, .val (.long x3), .second, .val (.int x4), .val (.long v0), .second, .val (.long v1), .second, .val (.long v2), .second, .val (.long v3), .second, .val (.int (1 : Int32)), .val (.int (1 : Int32)), .val (.int (1 : Int32)), .val (.int (1 : Int32)), .unset, .unset] [])
          exact blk147 l Z a0 hw ct0 x0 x1 x2 x3 x4 v0 v1 v2 v3 (1 : Int32) (1 : Int32) (1 : Int32) (by first | (simp [hc81, hc82, hc83, hc84]; done) | (simp [hc81, hc82, hc83, hc84]; decide)) (by first | (simp [hc81, hc82, hc83, hc84]; done) | (simp [hc81, hc82, hc83, hc84]; decide)) (by first | (simp [hc81, hc82, hc83, hc84]; done) | (simp [hc81, hc82, hc83, hc84]; decide)) X0 e0 n0 Z0 N0
        · refine go_st (fun _ kq => XS.ifNo X0.here hx rfl (hb hby at_128) rfl (XT.ll_eq_f hc84) kq) ?_
          show Go p e below s _ _ _ T0 (mkF m 131 #[.val (.long x0), .second, .val (.long x1), .second, .val (.long x2), .second, .val (.long x3), .second, .val (.int x4), .val (.long v0), .second, .val (.long v1), .second, .val (.long v2), .second, .val (.long v3), .second, .val (.int (1 : Int32)), .val (.int (1 : Int32)), .val (.int (1 : Int32)), .unset, .unset, .unset] [(.int (1 : Int32))])
          refine go_st (fun _ kq => XT.lload X0.here hx rfl (hb hby at_131) rfl kq) ?_
          show Go p e below s _ _ _ T0 (mkF m 133 #[.val (.long x0), .second, .val (.long x1), .second, .val (.long x2), .second, .val (.long x3), .second, .val (.int x4), .val (.long v0), .second, .val (.long v1), .second, .val (.long v2), .second, .val (.long v3), .second, .val (.int (1 : Int32)), .val (.int (1 : Int32)), .val (.int (1 : Int32)), .unset, .unset, .unset] [(.long v3), (.int (1 : Int32))])
          refine go_st (fun _ kq => XT.lload X0.here hx rfl (hb hby at_133) rfl kq) ?_
          show Go p e below s _ _ _ T0 (mkF m 135 #[.val (.long x0), .second, .val (.long x1), .second, .val (.long x2), .second, .val (.long x3), .second, .val (.int x4), .val (.long v0), .second, .val (.long v1), .second, .val (.long v2), .second, .val (.long v3), .second, .val (.int (1 : Int32)), .val (.int (1 : Int32)), .val (.int (1 : Int32)), .unset, .unset, .unset] [(.long v2), (.long v3), (.int (1 : Int32))])
          refine go_st (fun _ kq => XT.lcmp X0.here hx rfl (hb hby at_135) rfl kq) ?_
          show Go p e below s _ _ _ T0 (mkF m 136 #[.val (.long x0), .second, .val (.long x1), .second, .val (.long x2), .second, .val (.long x3), .second, .val (.int x4), .val (.long v0), .second, .val (.long v1), .second, .val (.long v2), .second, .val (.long v3), .second, .val (.int (1 : Int32)), .val (.int (1 : Int32)), .val (.int (1 : Int32)), .unset, .unset, .unset] [(.int (XT.cmpL v3 v2)), (.int (1 : Int32))])
          by_cases hc85 : v3 = v2
          · refine go_st (fun _ kq => XS.ifYes X0.here hx rfl (pc0 := 136) (pc' := 143) rfl (hb hby at_136) rfl (XT.ll_eq_t hc85) (by decide) (by decide) kq) ?_
            show Go p e below s _ _ _ T0 (mkF m 143 #[.val (.long x0), .second, .val (.long x1), .second, .val (.long x2), .second, .val (.long x3), .second, .val (.int x4), .val (.long v0), .second, .val (.long v1), .second, .val (.long v2), .second, .val (.long v3), .second, .val (.int (1 : Int32)), .val (.int (1 : Int32)), .val (.int (1 : Int32)), .unset, .unset, .unset] [(.int (1 : Int32))])
            refine go_st (fun _ kq => XT.iconstV X0.here hx rfl (0 : Int32) (hb hby at_143) (by decide) kq) ?_
            show Go p e below s _ _ _ T0 (mkF m 144 #[.val (.long x0), .second, .val (.long x1), .second, .val (.long x2), .second, .val (.long x3), .second, .val (.int x4), .val (.long v0), .second, .val (.long v1), .second, .val (.long v2), .second, .val (.long v3), .second, .val (.int (1 : Int32)), .val (.int (1 : Int32)), .val (.int (1 : Int32)), .unset, .unset, .unset] [(.int (0 : Int32)), (.int (1 : Int32))])
            refine go_st (fun _ kq => XS.iadd X0.here hx rfl (hb hby at_144) rfl kq) ?_
            rw [show ((1 : Int32) + (0 : Int32)) = (1 : Int32) from by decide +kernel]
            show Go p e below s _ _ _ T0 (mkF m 145 #[.val (.long x0), .second, .val (.long x1), .second, .val (.long x2), .second, .val (.long x3), .second, .val (.int x4), .val (.long v0), .second, .val (.long v1), .second, .val (.long v2), .second, .val (.long v3), .second, .val (.int (1 : Int32)), .val (.int (1 : Int32)), .val (.int (1 : Int32)), .unset, .unset, .unset] [(.int (1 : Int32))])
            refine go_st (fun _ kq => XS.istore X0.here hx rfl (hb hby at_145) rfl (l' := #[.val (.long x0), .second, .val (.long x1), .second, .val (.long x2), .second, .val (.long x3), .second, .val (.int x4), .val (.long v0), .second, .val (.long v1), .second, .val (.long v2), .second, .val (.long v3), .second, .val (.int (1 : Int32)), .val (.int (1 : Int32)), .val (.int (1 : Int32)), .val (.int (1 : Int32)), .unset, .unset]) rfl kq) ?_
            show Go p e below s _ _ _ T0 (mkF m 147 #[.val (.long x0), .second, .val (.long x1), .second, .val (.long x2), .second, .val (.long x3), .second, .val (.int x4), .val (.long v0), .second, .val (.long v1), .second, .val (.long v2), .second, .val (.long v3), .second, .val (.int (1 : Int32)), .val (.int (1 : Int32)), .val (.int (1 : Int32)), .val (.int (1 : Int32)), .unset, .unset] [])
            exact blk147 l Z a0 hw ct0 x0 x1 x2 x3 x4 v0 v1 v2 v3 (1 : Int32) (1 : Int32) (1 : Int32) (by first | (simp [hc81, hc82, hc83, hc84, hc85]; done) | (simp [hc81, hc82, hc83, hc84, hc85]; decide)) (by first | (simp [hc81, hc82, hc83, hc84, hc85]; done) | (simp [hc81, hc82, hc83, hc84, hc85]; decide)) (by first | (simp [hc81, hc82, hc83, hc84, hc85]; done) | (simp [hc81, hc82, hc83, hc84, hc85]; decide)) X0 e0 n0 Z0 N0
          · refine go_st (fun _ kq => XS.ifNo X0.here hx rfl (hb hby at_136) rfl (XT.ll_eq_f hc85) kq) ?_
            show Go p e below s _ _ _ T0 (mkF m 139 #[.val (.long x0), .second, .val (.long x1), .second, .val (.long x2), .second, .val (.long x3), .second, .val (.int x4), .val (.long v0), .second, .val (.long v1), .second, .val (.long v2), .second, .val (.long v3), .second, .val (.int (1 : Int32)), .val (.int (1 : Int32)), .val (.int (1 : Int32)), .unset, .unset, .unset] [(.int (1 : Int32))])
            refine go_st (fun _ kq => XT.iconstV X0.here hx rfl (1 : Int32) (hb hby at_139) (by decide) kq) ?_
            show Go p e below s _ _ _ T0 (mkF m 140 #[.val (.long x0), .second, .val (.long x1), .second, .val (.long x2), .second, .val (.long x3), .second, .val (.int x4), .val (.long v0), .second, .val (.long v1), .second, .val (.long v2), .second, .val (.long v3), .second, .val (.int (1 : Int32)), .val (.int (1 : Int32)), .val (.int (1 : Int32)), .unset, .unset, .unset] [(.int (1 : Int32)), (.int (1 : Int32))])
            refine go_st (fun _ kq => XS.goto X0.here hx rfl (pc0 := 140) (pc' := 144) rfl (hb hby at_140) (by decide) (by decide) kq) ?_
            show Go p e below s _ _ _ T0 (mkF m 144 #[.val (.long x0), .second, .val (.long x1), .second, .val (.long x2), .second, .val (.long x3), .second, .val (.int x4), .val (.long v0), .second, .val (.long v1), .second, .val (.long v2), .second, .val (.long v3), .second, .val (.int (1 : Int32)), .val (.int (1 : Int32)), .val (.int (1 : Int32)), .unset, .unset, .unset] [(.int (1 : Int32)), (.int (1 : Int32))])
            refine go_st (fun _ kq => XS.iadd X0.here hx rfl (hb hby at_144) rfl kq) ?_
            rw [show ((1 : Int32) + (1 : Int32)) = (2 : Int32) from by decide +kernel]
            show Go p e below s _ _ _ T0 (mkF m 145 #[.val (.long x0), .second, .val (.long x1), .second, .val (.long x2), .second, .val (.long x3), .second, .val (.int x4), .val (.long v0), .second, .val (.long v1), .second, .val (.long v2), .second, .val (.long v3), .second, .val (.int (1 : Int32)), .val (.int (1 : Int32)), .val (.int (1 : Int32)), .unset, .unset, .unset] [(.int (2 : Int32))])
            refine go_st (fun _ kq => XS.istore X0.here hx rfl (hb hby at_145) rfl (l' := #[.val (.long x0), .second, .val (.long x1), .second, .val (.long x2), .second, .val (.long x3), .second, .val (.int x4), .val (.long v0), .second, .val (.long v1), .second, .val (.long v2), .second, .val (.long v3), .second, .val (.int (1 : Int32)), .val (.int (1 : Int32)), .val (.int (1 : Int32)), .val (.int (2 : Int32)), .unset, .unset]) rfl kq) ?_
            show Go p e below s _ _ _ T0 (mkF m 147 #[.val (.long x0), .second, .val (.long x1), .second, .val (.long x2), .second, .val (.long x3), .second, .val (.int x4), .val (.long v0), .second, .val (.long v1), .second, .val (.long v2), .second, .val (.long v3), .second, .val (.int (1 : Int32)), .val (.int (1 : Int32)), .val (.int (1 : Int32)), .val (.int (2 : Int32)), .unset, .unset] [])
            exact blk147 l Z a0 hw ct0 x0 x1 x2 x3 x4 v0 v1 v2 v3 (1 : Int32) (1 : Int32) (2 : Int32) (by first | (simp [hc81, hc82, hc83, hc84, hc85]; done) | (simp [hc81, hc82, hc83, hc84, hc85]; decide)) (by first | (simp [hc81, hc82, hc83, hc84, hc85]; done) | (simp [hc81, hc82, hc83, hc84, hc85]; decide)) (by first | (simp [hc81, hc82, hc83, hc84, hc85]; done) | (simp [hc81, hc82, hc83, hc84, hc85]; decide)) X0 e0 n0 Z0 N0
    · refine go_st (fun _ kq => XS.ifNo X0.here hx rfl (hb hby at_94) rfl (XT.ll_eq_f hc82) kq) ?_
      show Go p e below s _ _ _ T0 (mkF m 97 #[.val (.long x0), .second, .val (.long x1), .second, .val (.long x2), .second, .val (.long x3), .second, .val (.int x4), .val (.long v0), .second, .val (.long v1), .second, .val (.long v2), .second, .val (.long v3), .second, .val (.int (1 : Int32)), .val (.int (1 : Int32)), .unset, .unset, .unset, .unset] [(.int (1 : Int32))])
      refine go_st (fun _ kq => XT.lload X0.here hx rfl (hb hby at_97) rfl kq) ?_
      show Go p e below s _ _ _ T0 (mkF m 99 #[.val (.long x0), .second, .val (.long x1), .second, .val (.long x2), .second, .val (.long x3), .second, .val (.int x4), .val (.long v0), .second, .val (.long v1), .second, .val (.long v2), .second, .val (.long v3), .second, .val (.int (1 : Int32)), .val (.int (1 : Int32)), .unset, .unset, .unset, .unset] [(.long v2), (.int (1 : Int32))])
      refine go_st (fun _ kq => XT.lload X0.here hx rfl (hb hby at_99) rfl kq) ?_
      show Go p e below s _ _ _ T0 (mkF m 101 #[.val (.long x0), .second, .val (.long x1), .second, .val (.long x2), .second, .val (.long x3), .second, .val (.int x4), .val (.long v0), .second, .val (.long v1), .second, .val (.long v2), .second, .val (.long v3), .second, .val (.int (1 : Int32)), .val (.int (1 : Int32)), .unset, .unset, .unset, .unset] [(.long v1), (.long v2), (.int (1 : Int32))])
      refine go_st (fun _ kq => XT.lcmp X0.here hx rfl (hb hby at_101) rfl kq) ?_
      show Go p e below s _ _ _ T0 (mkF m 102 #[.val (.long x0), .second, .val (.long x1), .second, .val (.long x2), .second, .val (.long x3), .second, .val (.int x4), .val (.long v0), .second, .val (.long v1), .second, .val (.long v2), .second, .val (.long v3), .second, .val (.int (1 : Int32)), .val (.int (1 : Int32)), .unset, .unset, .unset, .unset] [(.int (XT.cmpL v2 v1)), (.int (1 : Int32))])
      by_cases hc86 : v2 = v1
      · refine go_st (fun _ kq => XS.ifYes X0.here hx rfl (pc0 := 102) (pc' := 109) rfl (hb hby at_102) rfl (XT.ll_eq_t hc86) (by decide) (by decide) kq) ?_
        show Go p e below s _ _ _ T0 (mkF m 109 #[.val (.long x0), .second, .val (.long x1), .second, .val (.long x2), .second, .val (.long x3), .second, .val (.int x4), .val (.long v0), .second, .val (.long v1), .second, .val (.long v2), .second, .val (.long v3), .second, .val (.int (1 : Int32)), .val (.int (1 : Int32)), .unset, .unset, .unset, .unset] [(.int (1 : Int32))])
        refine go_st (fun _ kq => XT.iconstV X0.here hx rfl (0 : Int32) (hb hby at_109) (by decide) kq) ?_
        show Go p e below s _ _ _ T0 (mkF m 110 #[.val (.long x0), .second, .val (.long x1), .second, .val (.long x2), .second, .val (.long x3), .second, .val (.int x4), .val (.long v0), .second, .val (.long v1), .second, .val (.long v2), .second, .val (.long v3), .second, .val (.int (1 : Int32)), .val (.int (1 : Int32)), .unset, .unset, .unset, .unset] [(.int (0 : Int32)), (.int (1 : Int32))])
        refine go_st (fun _ kq => XS.iadd X0.here hx rfl (hb hby at_110) rfl kq) ?_
        rw [show ((1 : Int32) + (0 : Int32)) = (1 : Int32) from by decide +kernel]
        show Go p e below s _ _ _ T0 (mkF m 111 #[.val (.long x0), .second, .val (.long x1), .second, .val (.long x2), .second, .val (.long x3), .second, .val (.int x4), .val (.long v0), .second, .val (.long v1), .second, .val (.long v2), .second, .val (.long v3), .second, .val (.int (1 : Int32)), .val (.int (1 : Int32)), .unset, .unset, .unset, .unset] [(.int (1 : Int32))])
        refine go_st (fun _ kq => XS.istore X0.here hx rfl (hb hby at_111) rfl (l' := #[.val (.long x0), .second, .val (.long x1), .second, .val (.long x2), .second, .val (.long x3), .second, .val (.int x4), .val (.long v0), .second, .val (.long v1), .second, .val (.long v2), .second, .val (.long v3), .second, .val (.int (1 : Int32)), .val (.int (1 : Int32)), .val (.int (1 : Int32)), .unset, .unset, .unset]) rfl kq) ?_
        show Go p e below s _ _ _ T0 (mkF m 113 #[.val (.long x0), .second, .val (.long x1), .second, .val (.long x2), .second, .val (.long x3), .second, .val (.int x4), .val (.long v0), .second, .val (.long v1), .second, .val (.long v2), .second, .val (.long v3), .second, .val (.int (1 : Int32)), .val (.int (1 : Int32)), .val (.int (1 : Int32)), .unset, .unset, .unset] [])
        refine go_st (fun _ kq => XS.iload X0.here hx rfl (hb hby at_113) rfl kq) ?_
        show Go p e below s _ _ _ T0 (mkF m 115 #[.val (.long x0), .second, .val (.long x1), .second, .val (.long x2), .second, .val (.long x3), .second, .val (.int x4), .val (.long v0), .second, .val (.long v1), .second, .val (.long v2), .second, .val (.long v3), .second, .val (.int (1 : Int32)), .val (.int (1 : Int32)), .val (.int (1 : Int32)), .unset, .unset, .unset] [(.int (1 : Int32))])
        refine go_st (fun _ kq => XT.lload X0.here hx rfl (hb hby at_115) rfl kq) ?_
        show Go p e below s _ _ _ T0 (mkF m 117 #[.val (.long x0), .second, .val (.long x1), .second, .val (.long x2), .second, .val (.long x3), .second, .val (.int x4), .val (.long v0), .second, .val (.long v1), .second, .val (.long v2), .second, .val (.long v3), .second, .val (.int (1 : Int32)), .val (.int (1 : Int32)), .val (.int (1 : Int32)), .unset, .unset, .unset] [(.long v3), (.int (1 : Int32))])
        refine go_st (fun _ kq => XT.lload X0.here hx rfl (hb hby at_117) rfl kq) ?_
        show Go p e below s _ _ _ T0 (mkF m 119 #[.val (.long x0), .second, .val (.long x1), .second, .val (.long x2), .second, .val (.long x3), .second, .val (.int x4), .val (.long v0), .second, .val (.long v1), .second, .val (.long v2), .second, .val (.long v3), .second, .val (.int (1 : Int32)), .val (.int (1 : Int32)), .val (.int (1 : Int32)), .unset, .unset, .unset] [(.long v0), (.long v3), (.int (1 : Int32))])
        refine go_st (fun _ kq => XT.lcmp X0.here hx rfl (hb hby at_119) rfl kq) ?_
        show Go p e below s _ _ _ T0 (mkF m 120 #[.val (.long x0), .second, .val (.long x1), .second, .val (.long x2), .second, .val (.long x3), .second, .val (.int x4), .val (.long v0), .second, .val (.long v1), .second, .val (.long v2), .second, .val (.long v3), .second, .val (.int (1 : Int32)), .val (.int (1 : Int32)), .val (.int (1 : Int32)), .unset, .unset, .unset] [(.int (XT.cmpL v3 v0)), (.int (1 : Int32))])
        by_cases hc87 : v3 = v0
        · refine go_st (fun _ kq => XS.ifYes X0.here hx rfl (pc0 := 120) (pc' := 143) rfl (hb hby at_120) rfl (XT.ll_eq_t hc87) (by decide) (by decide) kq) ?_
          show Go p e below s _ _ _ T0 (mkF m 143 #[.val (.long x0), .second, .val (.long x1), .second, .val (.long x2), .second, .val (.long x3), .second, .val (.int x4), .val (.long v0), .second, .val (.long v1), .second, .val (.long v2), .second, .val (.long v3), .second, .val (.int (1 : Int32)), .val (.int (1 : Int32)), .val (.int (1 : Int32)), .unset, .unset, .unset] [(.int (1 : Int32))])
          refine go_st (fun _ kq => XT.iconstV X0.here hx rfl (0 : Int32) (hb hby at_143) (by decide) kq) ?_
          show Go p e below s _ _ _ T0 (mkF m 144 #[.val (.long x0), .second, .val (.long x1), .second, .val (.long x2), .second, .val (.long x3), .second, .val (.int x4), .val (.long v0), .second, .val (.long v1), .second, .val (.long v2), .second, .val (.long v3), .second, .val (.int (1 : Int32)), .val (.int (1 : Int32)), .val (.int (1 : Int32)), .unset, .unset, .unset] [(.int (0 : Int32)), (.int (1 : Int32))])
          refine go_st (fun _ kq => XS.iadd X0.here hx rfl (hb hby at_144) rfl kq) ?_
          rw [show ((1 : Int32) + (0 : Int32)) = (1 : Int32) from by decide +kernel]
          show Go p e below s _ _ _ T0 (mkF m 145 #[.val (.long x0), .second, .val (.long x1), .second, .val (.long x2), .second, .val (.long x3), .second, .val (.int x4), .val (.long v0), .second, .val (.long v1), .second, .val (.long v2), .second, .val (.long v3), .second, .val (.int (1 : Int32)), .val (.int (1 : Int32)), .val (.int (1 : Int32)), .unset, .unset, .unset] [(.int (1 : Int32))])
          refine go_st (fun _ kq => XS.istore X0.here hx rfl (hb hby at_145) rfl (l' := #[.val (.long x0), .second, .val (.long x1), .second, .val (.long x2), .second, .val (.long x3), .second, .val (.int x4), .val (.long v0), .second, .val (.long v1), .second, .val (.long v2), .second, .val (.long v3), .second, .val (.int (1 : Int32)), .val (.int (1 : Int32)), .val (.int (1 : Int32)), .val (.int (1 : Int32)), .unset, .unset]) rfl kq) ?_
          show Go p e below s _ _ _ T0 (mkF m 147 #[.val (.long x0), .second, .val (.long x1), .second, .val (.long x2), .second, .val (.long x3), .second, .val (.int x4), .val (.long v0), .second, .val (.long v1), .second, .val (.long v2), .second, .val (.long v3), .second, .val (.int (1 : Int32)), .val (.int (1 : Int32)), .val (.int (1 : Int32)), .val (.int (1 : Int32)), .unset, .unset] [])
          exact blk147 l Z a0 hw ct0 x0 x1 x2 x3 x4 v0 v1 v2 v3 (1 : Int32) (1 : Int32) (1 : Int32) (by first | (simp [hc81, hc82, hc86, hc87]; done) | (simp [hc81, hc82, hc86, hc87]; decide)) (by first | (simp [hc81, hc82, hc86, hc87]; done) | (simp [hc81, hc82, hc86, hc87]; decide)) (by first | (simp [hc81, hc82, hc86, hc87]; done) | (simp [hc81, hc82, hc86, hc87]; decide)) X0 e0 n0 Z0 N0
        · refine go_st (fun _ kq => XS.ifNo X0.here hx rfl (hb hby at_120) rfl (XT.ll_eq_f hc87) kq) ?_
          show Go p e below s _ _ _ T0 (mkF m 123 #[.val (.long x0), .second, .val (.long x1), .second, .val (.long x2), .second, .val (.long x3), .second, .val (.int x4), .val (.long v0), .second, .val (.long v1), .second, .val (.long v2), .second, .val (.long v3), .second, .val (.int (1 : Int32)), .val (.int (1 : Int32)), .val (.int (1 : Int32)), .unset, .unset, .unset] [(.int (1 : Int32))])
          refine go_st (fun _ kq => XT.lload X0.here hx rfl (hb hby at_123) rfl kq) ?_
          show Go p e below s _ _ _ T0 (mkF m 125 #[.val (.long x0), .second, .val (.long x1), .second, .val (.long x2), .second, .val (.long x3), .second, .val (.int x4), .val (.long v0), .second, .val (.long v1), .second, .val (.long v2), .second, .val (.long v3), .second, .val (.int (1 : Int32)), .val (.int (1 : Int32)), .val (.int (1 : Int32)), .unset, .unset, .unset] [(.long v3), (.int (1 : Int32))])
          refine go_st (fun _ kq => XT.lload X0.here hx rfl (hb hby at_125) rfl kq) ?_
          show Go p e below s _ _ _ T0 (mkF m 127 #[.val (.long x0), .second, .val (.long x1), .second, .val (.long x2), .second, .val (.long x3), .second, .val (.int x4), .val (.long v0), .second, .val (.long v1), .second, .val (.long v2), .second, .val (.long v3), .second, .val (.int (1 : Int32)), .val (.int (1 : Int32)), .val (.int (1 : Int32)), .unset, .unset, .unset] [(.long v1), (.long v3), (.int (1 : Int32))])
          refine go_st (fun _ kq => XT.lcmp X0.here hx rfl (hb hby at_127) rfl kq) ?_
          show Go p e below s _ _ _ T0 (mkF m 128 #[.val (.long x0), .second, .val (.long x1), .second, .val (.long x2), .second, .val (.long x3), .second, .val (.int x4), .val (.long v0), .second, .val (.long v1), .second, .val (.long v2), .second, .val (.long v3), .second, .val (.int (1 : Int32)), .val (.int (1 : Int32)), .val (.int (1 : Int32)), .unset, .unset, .unset] [(.int (XT.cmpL v3 v1)), (.int (1 : Int32))])
          by_cases hc88 : v3 = v1
          · refine go_st (fun _ kq => XS.ifYes X0.here hx rfl (pc0 := 128) (pc' := 143) rfl (hb hby at_128) rfl (XT.ll_eq_t hc88) (by decide) (by decide) kq) ?_
            show Go p e below s _ _ _ T0 (mkF m 143 #[.val (.long x0), .second, .val (.long x1), .second, .val (.long x2), .second, .val (.long x3), .second, .val (.int x4), .val (.long v0), .second, .val (.long v1), .second, .val (.long v2), .second, .val (.long v3), .second, .val (.int (1 : Int32)), .val (.int (1 : Int32)), .val (.int (1 : Int32)), .unset, .unset, .unset] [(.int (1 : Int32))])
            refine go_st (fun _ kq => XT.iconstV X0.here hx rfl (0 : Int32) (hb hby at_143) (by decide) kq) ?_
            show Go p e below s _ _ _ T0 (mkF m 144 #[.val (.long x0), .second, .val (.long x1), .second, .val (.long x2), .second, .val (.long x3), .second, .val (.int x4), .val (.long v0), .second, .val (.long v1), .second, .val (.long v2), .second, .val (.long v3), .second, .val (.int (1 : Int32)), .val (.int (1 : Int32)), .val (.int (1 : Int32)), .unset, .unset, .unset] [(.int (0 : Int32)), (.int (1 : Int32))])
            refine go_st (fun _ kq => XS.iadd X0.here hx rfl (hb hby at_144) rfl kq) ?_
            rw [show ((1 : Int32) + (0 : Int32)) = (1 : Int32) from by decide +kernel]
            show Go p e below s _ _ _ T0 (mkF m 145 #[.val (.long x0), .second, .val (.long x1), .second, .val (.long x2), .second, .val (.long x3), .second, .val (.int x4), .val (.long v0), .second, .val (.long v1), .second, .val (.long v2), .second, .val (.long v3), .second, .val (.int (1 : Int32)), .val (.int (1 : Int32)), .val (.int (1 : Int32)), .unset, .unset, .unset] [(.int (1 : Int32))])
            refine go_st (fun _ kq => XS.istore X0.here hx rfl (hb hby at_145) rfl (l' := #[.val (.long x0), .second, .val (.long x1), .second, .val (.long x2), .second, .val (.long x3), .second, .val (.int x4), .val (.long v0), .second, .val (.long v1), .second, .val (.long v2), .second, .val (.long v3), .second, .val (.int (1 : Int32)), .val (.int (1 : Int32)), .val (.int (1 : Int32)), .val (.int (1 : Int32)), .unset, .unset]) rfl kq) ?_
            show Go p e below s _ _ _ T0 (mkF m 147 #[.val (.long x0), .second, .val (.long x1), .second, .val (.long x2), .second, .val (.long x3), .second, .val (.int x4), .val (.long v0), .second, .val (.long v1), .second, .val (.long v2), .second, .val (.long v3), .second, .val (.int (1 : Int32)), .val (.int (1 : Int32)), .val (.int (1 : Int32)), .val (.int (1 : Int32)), .unset, .unset] [])
            exact blk147 l Z a0 hw ct0 x0 x1 x2 x3 x4 v0 v1 v2 v3 (1 : Int32) (1 : Int32) (1 : Int32) (by first | (simp [hc81, hc82, hc86, hc87, hc88]; done) | (simp [hc81, hc82, hc86, hc87, hc88]; decide)) (by first | (simp [hc81, hc82, hc86, hc87, hc88]; done) | (simp [hc81, hc82, hc86, hc87, hc88]; decide)) (by first | (simp [hc81, hc82, hc86, hc87, hc88]; done) | (simp [hc81, hc82, hc86, hc87, hc88]; decide)) X0 e0 n0 Z0 N0
          · refine go_st (fun _ kq => XS.ifNo X0.here hx rfl (hb hby at_128) rfl (XT.ll_eq_f hc88) kq) ?_
            show Go p e below s _ _ _ T0 (mkF m 131 #[.val (.long x0), .second, .val (.long x1), .second, .val (.long x2), .second, .val (.long x3), .second, .val (.int x4), .val (.long v0), .second, .val (.long v1), .second, .val (.long v2), .second, .val (.long v3), .second, .val (.int (1 : Int32)), .val (.int (1 : Int32)), .val (.int (1 : Int32)), .unset, .unset, .unset] [(.int (1 : Int32))])
            refine go_st (fun _ kq => XT.lload X0.here hx rfl (hb hby at_131) rfl kq) ?_
            show Go p e below s _ _ _ T0 (mkF m 133 #[.val (.long x0), .second, .val (.long x1), .second, .val (.long x2), .second, .val (.long x3), .second, .val (.int x4), .val (.long v0), .second, .val (.long v1), .second, .val (.long v2), .second, .val (.long v3), .second, .val (.int (1 : Int32)), .val (.int (1 : Int32)), .val (.int (1 : Int32)), .unset, .unset, .unset] [(.long v3), (.int (1 : Int32))])
            refine go_st (fun _ kq => XT.lload X0.here hx rfl (hb hby at_133) rfl kq) ?_
            show Go p e below s _ _ _ T0 (mkF m 135 #[.val (.long x0), .second, .val (.long x1), .second, .val (.long x2), .second, .val (.long x3), .second, .val (.int x4), .val (.long v0), .second, .val (.long v1), .second, .val (.long v2), .second, .val (.long v3), .second, .val (.int (1 : Int32)), .val (.int (1 : Int32)), .val (.int (1 : Int32)), .unset, .unset, .unset] [(.long v2), (.long v3), (.int (1 : Int32))])
            refine go_st (fun _ kq => XT.lcmp X0.here hx rfl (hb hby at_135) rfl kq) ?_
            show Go p e below s _ _ _ T0 (mkF m 136 #[.val (.long x0), .second, .val (.long x1), .second, .val (.long x2), .second, .val (.long x3), .second, .val (.int x4), .val (.long v0), .second, .val (.long v1), .second, .val (.long v2), .second, .val (.long v3), .second, .val (.int (1 : Int32)), .val (.int (1 : Int32)), .val (.int (1 : Int32)), .unset, .unset, .unset] [(.int (XT.cmpL v3 v2)), (.int (1 : Int32))])
            by_cases hc89 : v3 = v2
            · refine go_st (fun _ kq => XS.ifYes X0.here hx rfl (pc0 := 136) (pc' := 143) rfl (hb hby at_136) rfl (XT.ll_eq_t hc89) (by decide) (by decide) kq) ?_
              show Go p e below s _ _ _ T0 (mkF m 143 #[.val (.long x0), .second, .val (.long x1), .second, .val (.long x2), .second, .val (.long x3), .second, .val (.int x4), .val (.long v0), .second, .val (.long v1), .second, .val (.long v2), .second, .val (.long v3), .second, .val (.int (1 : Int32)), .val (.int (1 : Int32)), .val (.int (1 : Int32)), .unset, .unset, .unset] [(.int (1 : Int32))])
              refine go_st (fun _ kq => XT.iconstV X0.here hx rfl (0 : Int32) (hb hby at_143) (by decide) kq) ?_
              show Go p e below s _ _ _ T0 (mkF m 144 #[.val (.long x0), .second, .val (.long x1), .second, .val (.long x2), .second, .val (.long x3), .second, .val (.int x4), .val (.long v0), .second, .val (.long v1), .second, .val (.long v2), .second, .val (.long v3), .second, .val (.int (1 : Int32)), .val (.int (1 : Int32)), .val (.int (1 : Int32)), .unset, .unset, .unset] [(.int (0 : Int32)), (.int (1 : Int32))])
              refine go_st (fun _ kq => XS.iadd X0.here hx rfl (hb hby at_144) rfl kq) ?_
              rw [show ((1 : Int32) + (0 : Int32)) = (1 : Int32) from by decide +kernel]
              show Go p e below s _ _ _ T0 (mkF m 145 #[.val (.long x0), .second, .val (.long x1), .second, .val (.long x2), .second, .val (.long x3), .second, .val (.int x4), .val (.long v0), .second, .val (.long v1), .second, .val (.long v2), .second, .val (.long v3), .second, .val (.int (1 : Int32)), .val (.int (1 : Int32)), .val (.int (1 : Int32)), .unset, .unset, .unset] [(.int (1 : Int32))])
              refine go_st (fun _ kq => XS.istore X0.here hx rfl (hb hby at_145) rfl (l' := #[.val (.long x0), .second, .val (.long x1), .second, .val (.long x2), .second, .val (.long x3), .second, .val (.int x4), .val (.long v0), .second, .val (.long v1), .second, .val (.long v2), .second, .val (.long v3), .second, .val (.int (1 : Int32)), .val (.int (1 : Int32)), .val (.int (1 : Int32)), .val (.int (1 : Int32)), .unset, .unset]) rfl kq) ?_
              show Go p e below s _ _ _ T0 (mkF m 147 #[.val (.long x0), .second, .val (.long x1), .second, .val (.long x2), .second, .val (.long x3), .second, .val (.int x4), .val (.long v0), .second, .val (.long v1), .second, .val (.long v2), .second, .val (.long v3), .second, .val (.int (1 : Int32)), .val (.int (1 : Int32)), .val (.int (1 : Int32)), .val (.int (1 : Int32)), .unset, .unset] [])
              exact blk147 l Z a0 hw ct0 x0 x1 x2 x3 x4 v0 v1 v2 v3 (1 : Int32) (1 : Int32) (1 : Int32) (by first | (simp [hc81, hc82, hc86, hc87, hc88, hc89]; done) | (simp [hc81, hc82, hc86, hc87, hc88, hc89]; decide)) (by first | (simp [hc81, hc82, hc86, hc87, hc88, hc89]; done) | (simp [hc81, hc82, hc86, hc87, hc88, hc89]; decide)) (by first | (simp [hc81, hc82, hc86, hc87, hc88, hc89]; done) | (simp [hc81, hc82, hc86, hc87, hc88, hc89]; decide)) X0 e0 n0 Z0 N0
            · refine go_st (fun _ kq => XS.ifNo X0.here hx rfl (hb hby at_136) rfl (XT.ll_eq_f hc89) kq) ?_
              show Go p e below s _ _ _ T0 (mkF m 139 #[.val (.long x0), .second, .val (.long x1), .second, .val (.long x2), .second, .val (.long x3), .second, .val (.int x4), .val (.long v0), .second, .val (.long v1), .second, .val (.long v2), .second, .val (.long v3), .second, .val (.int (1 : Int32)), .val (.int (1 : Int32)), .val (.int (1 : Int32)), .unset, .unset, .unset] [(.int (1 : Int32))])
              refine go_st (fun _ kq => XT.iconstV X0.here hx rfl (1 : Int32) (hb hby at_139) (by decide) kq) ?_
              show Go p e below s _ _ _ T0 (mkF m 140 #[.val (.long x0), .second, .val (.long x1), .second, .val (.long x2), .second, .val (.long x3), .second, .val (.int x4), .val (.long v0), .second, .val (.long v1), .second, .val (.long v2), .second, .val (.long v3), .second, .val (.int (1 : Int32)), .val (.int (1 : Int32)), .val (.int (1 : Int32)), .unset, .unset, .unset] [(.int (1 : Int32)), (.int (1 : Int32))])
              refine go_st (fun _ kq => XS.goto X0.here hx rfl (pc0 := 140) (pc' := 144) rfl (hb hby at_140) (by decide) (by decide) kq) ?_
              show Go p e below s _ _ _ T0 (mkF m 144 #[.val (.long x0), .second, .val (.long x1), .second, .val (.long x2), .second, .val (.long x3), .second, .val (.int x4), .val (.long v0), .second, .val (.long v1), .second, .val (.long v2), .second, .val (.long v3), .second, .val (.int (1 : Int32)), .val (.int (1 : Int32)), .val (.int (1 : Int32)), .unset, .unset, .unset] [(.int (1 : Int32)), (.int (1 : Int32))])
              refine go_st (fun _ kq => XS.iadd X0.here hx rfl (hb hby at_144) rfl kq) ?_
              rw [show ((1 : Int32) + (1 : Int32)) = (2 : Int32) from by decide +kernel]
              show Go p e below s _ _ _ T0 (mkF m 145 #[.val (.long x0), .second, .val (.long x1), .second, .val (.long x2), .second, .val (.long x3), .second, .val (.int x4), .val (.long v0), .second, .val (.long v1), .second, .val (.long v2), .second, .val (.long v3), .second, .val (.int (1 : Int32)), .val (.int (1 : Int32)), .val (.int (1 : Int32)), .unset, .unset, .unset] [(.int (2 : Int32))])
              refine go_st (fun _ kq => XS.istore X0.here hx rfl (hb hby at_145) rfl (l' := #[.val (.long x0), .second, .val (.long x1), .second, .val (.long x2), .second, .val (.long x3), .second, .val (.int x4), .val (.long v0), .second, .val (.long v1), .second, .val (.long v2), .second, .val (.long v3), .second, .val (.int (1 : Int32)), .val (.int (1 : Int32)), .val (.int (1 : Int32)), .val (.int (2 : Int32)), .unset, .unset]) rfl kq) ?_
              show Go p e below s _ _ _ T0 (mkF m 147 #[.val (.long x0), .second, .val (.long x1), .second, .val (.long x2), .second, .val (.long x3), .second, .val (.int x4), .val (.long v0), .second, .val (.long v1), .second, .val (.long v2), .second, .val (.long v3), .second, .val (.int (1 : Int32)), .val (.int (1 : Int32)), .val (.int (1 : Int32)), .val (.int (2 : Int32)), .unset, .unset] [])
              exact blk147 l Z a0 hw ct0 x0 x1 x2 x3 x4 v0 v1 v2 v3 (1 : Int32) (1 : Int32) (2 : Int32) (by first | (simp [hc81, hc82, hc86, hc87, hc88, hc89]; done) | (simp [hc81, hc82, hc86, hc87, hc88, hc89]; decide)) (by first | (simp [hc81, hc82, hc86, hc87, hc88, hc89]; done) | (simp [hc81, hc82, hc86, hc87, hc88, hc89]; decide)) (by first | (simp [hc81, hc82, hc86, hc87, hc88, hc89]; done) | (simp [hc81, hc82, hc86, hc87, hc88, hc89]; decide)) X0 e0 n0 Z0 N0
      · refine go_st (fun _ kq => XS.ifNo X0.here hx rfl (hb hby at_102) rfl (XT.ll_eq_f hc86) kq) ?_
        show Go p e below s _ _ _ T0 (mkF m 105 #[.val (.long x0), .second, .val (.long x1), .second, .val (.long x2), .second, .val (.long x3), .second, .val (.int x4), .val (.long v0), .second, .val (.long v1), .second, .val (.long v2), .second, .val (.long v3), .second, .val (.int (1 : Int32)), .val (.int (1 : Int32)), .unset, .unset, .unset, .unset] [(.int (1 : Int32))])
        refine go_st (fun _ kq => XT.iconstV X0.here hx rfl (1 : Int32) (hb hby at_105) (by decide) kq) ?_
        show Go p e below s _ _ _ T0 (mkF m 106 #[.val (.long x0), .second, .val (.long x1), .second, .val (.long x2), .second, .val (.long x3), .second, .val (.int x4), .val (.long v0), .second, .val (.long v1), .second, .val (.long v2), .second, .val (.long v3), .second, .val (.int (1 : Int32)), .val (.int (1 : Int32)), .unset, .unset, .unset, .unset] [(.int (1 : Int32)), (.int (1 : Int32))])
        refine go_st (fun _ kq => XS.goto X0.here hx rfl (pc0 := 106) (pc' := 110) rfl (hb hby at_106) (by decide) (by decide) kq) ?_
        show Go p e below s _ _ _ T0 (mkF m 110 #[.val (.long x0), .second, .val (.long x1), .second, .val (.long x2), .second, .val (.long x3), .second, .val (.int x4), .val (.long v0), .second, .val (.long v1), .second, .val (.long v2), .second, .val (.long v3), .second, .val (.int (1 : Int32)), .val (.int (1 : Int32)), .unset, .unset, .unset, .unset] [(.int (1 : Int32)), (.int (1 : Int32))])
        refine go_st (fun _ kq => XS.iadd X0.here hx rfl (hb hby at_110) rfl kq) ?_
        rw [show ((1 : Int32) + (1 : Int32)) = (2 : Int32) from by decide +kernel]
        show Go p e below s _ _ _ T0 (mkF m 111 #[.val (.long x0), .second, .val (.long x1), .second, .val (.long x2), .second, .val (.long x3), .second, .val (.int x4), .val (.long v0), .second, .val (.long v1), .second, .val (.long v2), .second, .val (.long v3), .second, .val (.int (1 : Int32)), .val (.int (1 : Int32)), .unset, .unset, .unset, .unset] [(.int (2 : Int32))])
        refine go_st (fun _ kq => XS.istore X0.here hx rfl (hb hby at_111) rfl (l' := #[.val (.long x0), .second, .val (.long x1), .second, .val (.long x2), .second, .val (.long x3), .second, .val (.int x4), .val (.long v0), .second, .val (.long v1), .second, .val (.long v2), .second, .val (.long v3), .second, .val (.int (1 : Int32)), .val (.int (1 : Int32)), .val (.int (2 : Int32)), .unset, .unset, .unset]) rfl kq) ?_
        show Go p e below s _ _ _ T0 (mkF m 113 #[.val (.long x0), .second, .val (.long x1), .second, .val (.long x2), .second, .val (.long x3), .second, .val (.int x4), .val (.long v0), .second, .val (.long v1), .second, .val (.long v2), .second, .val (.long v3), .second, .val (.int (1 : Int32)), .val (.int (1 : Int32)), .val (.int (2 : Int32)), .unset, .unset, .unset] [])
        refine go_st (fun _ kq => XS.iload X0.here hx rfl (hb hby at_113) rfl kq) ?_
        show Go p e below s _ _ _ T0 (mkF m 115 #[.val (.long x0), .second, .val (.long x1), .second, .val (.long x2), .second, .val (.long x3), .second, .val (.int x4), .val (.long v0), .second, .val (.long v1), .second, .val (.long v2), .second, .val (.long v3), .second, .val (.int (1 : Int32)), .val (.int (1 : Int32)), .val (.int (2 : Int32)), .unset, .unset, .unset] [(.int (2 : Int32))])
        refine go_st (fun _ kq => XT.lload X0.here hx rfl (hb hby at_115) rfl kq) ?_
        show Go p e below s _ _ _ T0 (mkF m 117 #[.val (.long x0), .second, .val (.long x1), .second, .val (.long x2), .second, .val (.long x3), .second, .val (.int x4), .val (.long v0), .second, .val (.long v1), .second, .val (.long v2), .second, .val (.long v3), .second, .val (.int (1 : Int32)), .val (.int (1 : Int32)), .val (.int (2 : Int32)), .unset, .unset, .unset] [(.long v3), (.int (2 : Int32))])
        refine go_st (fun _ kq => XT.lload X0.here hx rfl (hb hby at_117) rfl kq) ?_
        show Go p e below s _ _ _ T0 (mkF m 119 #[.val (.long x0), .second, .val (.long x1), .second, .val (.long x2), .second, .val (.long x3), .second, .val (.int x4), .val (.long v0), .second, .val (.long v1), .second, .val (.long v2), .second, .val (.long v3), .second, .val (.int (1 : Int32)), .val (.int (1 : Int32)), .val (.int (2 : Int32)), .unset, .unset, .unset] [(.long v0), (.long v3), (.int (2 : Int32))])
        refine go_st (fun _ kq => XT.lcmp X0.here hx rfl (hb hby at_119) rfl kq) ?_
        show Go p e below s _ _ _ T0 (mkF m 120 #[.val (.long x0), .second, .val (.long x1), .second, .val (.long x2), .second, .val (.long x3), .second, .val (.int x4), .val (.long v0), .second, .val (.long v1), .second, .val (.long v2), .second, .val (.long v3), .second, .val (.int (1 : Int32)), .val (.int (1 : Int32)), .val (.int (2 : Int32)), .unset, .unset, .unset] [(.int (XT.cmpL v3 v0)), (.int (2 : Int32))])
        by_cases hc90 : v3 = v0
        · refine go_st (fun _ kq => XS.ifYes X0.here hx rfl (pc0 := 120) (pc' := 143) rfl (hb hby at_120) rfl (XT.ll_eq_t hc90) (by decide) (by decide) kq) ?_
          show Go p e below s _ _ _ T0 (mkF m 143 #[.val (.long x0), .second, .val (.long x1), .second, .val (.long x2), .second, .val (.long x3), .second, .val (.int x4), .val (.long v0), .second, .val (.long v1), .second, .val (.long v2), .second, .val (.long v3), .second, .val (.int (1 : Int32)), .val (.int (1 : Int32)), .val (.int (2 : Int32)), .unset, .unset, .unset] [(.int (2 : Int32))])
          refine go_st (fun _ kq => XT.iconstV X0.here hx rfl (0 : Int32) (hb hby at_143) (by decide) kq) ?_
          show Go p e below s _ _ _ T0 (mkF m 144 #[.val (.long x0), .second, .val (.long x1), .second, .val (.long x2), .second, .val (.long x3), .second, .val (.int x4), .val (.long v0), .second, .val (.long v1), .second, .val (.long v2), .second, .val (.long v3), .second, .val (.int (1 : Int32)), .val (.int (1 : Int32)), .val (.int (2 : Int32)), .unset, .unset, .unset] [(.int (0 : Int32)), (.int (2 : Int32))])
          refine go_st (fun _ kq => XS.iadd X0.here hx rfl (hb hby at_144) rfl kq) ?_
          rw [show ((2 : Int32) + (0 : Int32)) = (2 : Int32) from by decide +kernel]
          show Go p e below s _ _ _ T0 (mkF m 145 #[.val (.long x0), .second, .val (.long x1), .second, .val (.long x2), .second, .val (.long x3), .second, .val (.int x4), .val (.long v0), .second, .val (.long v1), .second, .val (.long v2), .second, .val (.long v3), .second, .val (.int (1 : Int32)), .val (.int (1 : Int32)), .val (.int (2 : Int32)), .unset, .unset, .unset] [(.int (2 : Int32))])
          refine go_st (fun _ kq => XS.istore X0.here hx rfl (hb hby at_145) rfl (l' := #[.val (.long x0), .second, .val (.long x1), .second, .val (.long x2), .second, .val (.long x3), .second, .val (.int x4), .val (.long v0), .second, .val (.long v1), .second, .val (.long v2), .second, .val (.long v3), .second, .val (.int (1 : Int32)), .val (.int (1 : Int32)), .val (.int (2 : Int32)), .val (.int (2 : Int32)), .unset, .unset]) rfl kq) ?_
          show Go p e below s _ _ _ T0 (mkF m 147 #[.val (.long x0), .second, .val (.long x1), .second, .val (.long x2), .second, .val (.long x3), .second, .val (.int x4), .val (.long v0), .second, .val (.long v1), .second, .val (.long v2), .second, .val (.long v3), .second, .val (.int (1 : Int32)), .val (.int (1 : Int32)), .val (.int (2 : Int32)), .val (.int (2 : Int32)), .unset, .unset] [])
          exact blk147 l Z a0 hw ct0 x0 x1 x2 x3 x4 v0 v1 v2 v3 (1 : Int32) (2 : Int32) (2 : Int32) (by first | (simp [hc81, hc82, hc86, hc90]; done) | (simp [hc81, hc82, hc86, hc90]; decide)) (by first | (simp [hc81, hc82, hc86, hc90]; done) | (simp [hc81, hc82, hc86, hc90]; decide)) (by first | (simp [hc81, hc82, hc86, hc90]; done) | (simp [hc81, hc82, hc86, hc90]; decide)) X0 e0 n0 Z0 N0
        · refine go_st (fun _ kq => XS.ifNo X0.here hx rfl (hb hby at_120) rfl (XT.ll_eq_f hc90) kq) ?_
          show Go p e below s _ _ _ T0 (mkF m 123 #[.val (.long x0), .second, .val (.long x1), .second, .val (.long x2), .second, .val (.long x3), .second, .val (.int x4), .val (.long v0), .second, .val (.long v1), .second, .val (.long v2), .second, .val (.long v3), .second, .val (.int (1 : Int32)), .val (.int (1 : Int32)), .val (.int (2 : Int32)), .unset, .unset, .unset] [(.int (2 : Int32))])
          refine go_st (fun _ kq => XT.lload X0.here hx rfl (hb hby at_123) rfl kq) ?_
          show Go p e below s _ _ _ T0 (mkF m 125 #[.val (.long x0), .second, .val (.long x1), .second, .val (.long x2), .second, .val (.long x3), .second, .val (.int x4), .val (.long v0), .second, .val (.long v1), .second, .val (.long v2), .second, .val (.long v3), .second, .val (.int (1 : Int32)), .val (.int (1 : Int32)), .val (.int (2 : Int32)), .unset, .unset, .unset] [(.long v3), (.int (2 : Int32))])
          refine go_st (fun _ kq => XT.lload X0.here hx rfl (hb hby at_125) rfl kq) ?_
          show Go p e below s _ _ _ T0 (mkF m 127 #[.val (.long x0), .second, .val (.long x1), .second, .val (.long x2), .second, .val (.long x3), .second, .val (.int x4), .val (.long v0), .second, .val (.long v1), .second, .val (.long v2), .second, .val (.long v3), .second, .val (.int (1 : Int32)), .val (.int (1 : Int32)), .val (.int (2 : Int32)), .unset, .unset, .unset] [(.long v1), (.long v3), (.int (2 : Int32))])
          refine go_st (fun _ kq => XT.lcmp X0.here hx rfl (hb hby at_127) rfl kq) ?_
          show Go p e below s _ _ _ T0 (mkF m 128 #[.val (.long x0), .second, .val (.long x1), .second, .val (.long x2), .second, .val (.long x3), .second, .val (.int x4), .val (.long v0), .second, .val (.long v1), .second, .val (.long v2), .second, .val (.long v3), .second, .val (.int (1 : Int32)), .val (.int (1 : Int32)), .val (.int (2 : Int32)), .unset, .unset, .unset] [(.int (XT.cmpL v3 v1)), (.int (2 : Int32))])
          by_cases hc91 : v3 = v1
          · refine go_st (fun _ kq => XS.ifYes X0.here hx rfl (pc0 := 128) (pc' := 143) rfl (hb hby at_128) rfl (XT.ll_eq_t hc91) (by decide) (by decide) kq) ?_
            show Go p e below s _ _ _ T0 (mkF m 143 #[.val (.long x0), .second, .val (.long x1), .second, .val (.long x2), .second, .val (.long x3), .second, .val (.int x4), .val (.long v0), .second, .val (.long v1), .second, .val (.long v2), .second, .val (.long v3), .second, .val (.int (1 : Int32)), .val (.int (1 : Int32)), .val (.int (2 : Int32)), .unset, .unset, .unset] [(.int (2 : Int32))])
            refine go_st (fun _ kq => XT.iconstV X0.here hx rfl (0 : Int32) (hb hby at_143) (by decide) kq) ?_
            show Go p e below s _ _ _ T0 (mkF m 144 #[.val (.long x0), .second, .val (.long x1), .second, .val (.long x2), .second, .val (.long x3), .second, .val (.int x4), .val (.long v0), .second, .val (.long v1), .second, .val (.long v2), .second, .val (.long v3), .second, .val (.int (1 : Int32)), .val (.int (1 : Int32)), .val (.int (2 : Int32)), .unset, .unset, .unset] [(.int (0 : Int32)), (.int (2 : Int32))])
            refine go_st (fun _ kq => XS.iadd X0.here hx rfl (hb hby at_144) rfl kq) ?_
            rw [show ((2 : Int32) + (0 : Int32)) = (2 : Int32) from by decide +kernel]
            show Go p e below s _ _ _ T0 (mkF m 145 #[.val (.long x0), .second, .val (.long x1), .second, .val (.long x2), .second, .val (.long x3), .second, .val (.int x4), .val (.long v0), .second, .val (.long v1), .second, .val (.long v2), .second, .val (.long v3), .second, .val (.int (1 : Int32)), .val (.int (1 : Int32)), .val (.int (2 : Int32)), .unset, .unset, .unset] [(.int (2 : Int32))])
            refine go_st (fun _ kq => XS.istore X0.here hx rfl (hb hby at_145) rfl (l' := #[.val (.long x0), .second, .val (.long x1), .second, .val (.long x2), .second, .val (.long x3), .second, .val (.int x4), .val (.long v0), .second, .val (.long v1), .second, .val (.long v2), .second, .val (.long v3), .second, .val (.int (1 : Int32)), .val (.int (1 : Int32)), .val (.int (2 : Int32)), .val (.int (2 : Int32)), .unset, .unset]) rfl kq) ?_
            show Go p e below s _ _ _ T0 (mkF m 147 #[.val (.long x0), .second, .val (.long x1), .second, .val (.long x2), .second, .val (.long x3), .second, .val (.int x4), .val (.long v0), .second, .val (.long v1), .second, .val (.long v2), .second, .val (.long v3), .second, .val (.int (1 : Int32)), .val (.int (1 : Int32)), .val (.int (2 : Int32)), .val (.int (2 : Int32)), .unset, .unset] [])
            exact blk147 l Z a0 hw ct0 x0 x1 x2 x3 x4 v0 v1 v2 v3 (1 : Int32) (2 : Int32) (2 : Int32) (by first | (simp [hc81, hc82, hc86, hc90, hc91]; done) | (simp [hc81, hc82, hc86, hc90, hc91]; decide)) (by first | (simp [hc81, hc82, hc86, hc90, hc91]; done) | (simp [hc81, hc82, hc86, hc90, hc91]; decide)) (by first | (simp [hc81, hc82, hc86, hc90, hc91]; done) | (simp [hc81, hc82, hc86, hc90, hc91]; decide)) X0 e0 n0 Z0 N0
          · refine go_st (fun _ kq => XS.ifNo X0.here hx rfl (hb hby at_128) rfl (XT.ll_eq_f hc91) kq) ?_
            show Go p e below s _ _ _ T0 (mkF m 131 #[.val (.long x0), .second, .val (.long x1), .second, .val (.long x2), .second, .val (.long x3), .second, .val (.int x4), .val (.long v0), .second, .val (.long v1), .second, .val (.long v2), .second, .val (.long v3), .second, .val (.int (1 : Int32)), .val (.int (1 : Int32)), .val (.int (2 : Int32)), .unset, .unset, .unset] [(.int (2 : Int32))])
            refine go_st (fun _ kq => XT.lload X0.here hx rfl (hb hby at_131) rfl kq) ?_
            show Go p e below s _ _ _ T0 (mkF m 133 #[.val (.long x0), .second, .val (.long x1), .second, .val (.long x2), .second, .val (.long x3), .second, .val (.int x4), .val (.long v0), .second, .val (.long v1), .second, .val (.long v2), .second, .val (.long v3), .second, .val (.int (1 : Int32)), .val (.int (1 : Int32)), .val (.int (2 : Int32)), .unset, .unset, .unset] [(.long v3), (.int (2 : Int32))])
            refine go_st (fun _ kq => XT.lload X0.here hx rfl (hb hby at_133) rfl kq) ?_
            show Go p e below s _ _ _ T0 (mkF m 135 #[.val (.long x0), .second, .val (.long x1), .second, .val (.long x2), .second, .val (.long x3), .second, .val (.int x4), .val (.long v0), .second, .val (.long v1), .second, .val (.long v2), .second, .val (.long v3), .second, .val (.int (1 : Int32)), .val (.int (1 : Int32)), .val (.int (2 : Int32)), .unset, .unset, .unset] [(.long v2), (.long v3), (.int (2 : Int32))])
            refine go_st (fun _ kq => XT.lcmp X0.here hx rfl (hb hby at_135) rfl kq) ?_
            show Go p e below s _ _ _ T0 (mkF m 136 #[.val (.long x0), .second, .val (.long x1), .second, .val (.long x2), .second, .val (.long x3), .second, .val (.int x4), .val (.long v0), .second, .val (.long v1), .second, .val (.long v2), .second, .val (.long v3), .second, .val (.int (1 : Int32)), .val (.int (1 : Int32)), .val (.int (2 : Int32)), .unset, .unset, .unset] [(.int (XT.cmpL v3 v2)), (.int (2 : Int32))])
            by_cases hc92 : v3 = v2
            · refine go_st (fun _ kq => XS.ifYes X0.here hx rfl (pc0 := 136) (pc' := 143) rfl (hb hby at_136) rfl (XT.ll_eq_t hc92) (by decide) (by decide) kq) ?_
              show Go p e below s _ _ _ T0 (mkF m 143 #[.val (.long x0), .second, .val (.long x1), .second, .val (.long x2), .second, .val (.long x3), .second, .val (.int x4), .val (.long v0), .second, .val (.long v1), .second, .val (.long v2), .second, .val (.long v3), .second, .val (.int (1 : Int32)), .val (.int (1 : Int32)), .val (.int (2 : Int32)), .unset, .unset, .unset] [(.int (2 : Int32))])
              refine go_st (fun _ kq => XT.iconstV X0.here hx rfl (0 : Int32) (hb hby at_143) (by decide) kq) ?_
              show Go p e below s _ _ _ T0 (mkF m 144 #[.val (.long x0), .second, .val (.long x1), .second, .val (.long x2), .second, .val (.long x3), .second, .val (.int x4), .val (.long v0), .second, .val (.long v1), .second, .val (.long v2), .second, .val (.long v3), .second, .val (.int (1 : Int32)), .val (.int (1 : Int32)), .val (.int (2 : Int32)), .unset, .unset, .unset] [(.int (0 : Int32)), (.int (2 : Int32))])
              refine go_st (fun _ kq => XS.iadd X0.here hx rfl (hb hby at_144) rfl kq) ?_
              rw [show ((2 : Int32) + (0 : Int32)) = (2 : Int32) from by decide +kernel]
              show Go p e below s _ _ _ T0 (mkF m 145 #[.val (.long x0), .second, .val (.long x1), .second, .val (.long x2), .second, .val (.long x3), .second, .val (.int x4), .val (.long v0), .second, .val (.long v1), .second, .val (.long v2), .second, .val (.long v3), .second, .val (.int (1 : Int32)), .val (.int (1 : Int32)), .val (.int (2 : Int32)), .unset, .unset, .unset] [(.int (2 : Int32))])
              refine go_st (fun _ kq => XS.istore X0.here hx rfl (hb hby at_145) rfl (l' := #[.val (.long x0), .second, .val (.long x1), .second, .val (.long x2), .second, .val (.long x3), .second, .val (.int x4), .val (.long v0), .second, .val (.long v1), .second, .val (.long v2), .second, .val (.long v3), .second, .val (.int (1 : Int32)), .val (.int (1 : Int32)), .val (.int (2 : Int32)), .val (.int (2 : Int32)), .unset, .unset]) rfl kq) ?_
              show Go p e below s _ _ _ T0 (mkF m 147 #[.val (.long x0), .second, .val (.long x1), .second, .val (.long x2), .second, .val (.long x3), .second, .val (.int x4), .val (.long v0), .second, .val (.long v1), .second, .val (.long v2), .second, .val (.long v3), .second, .val (.int (1 : Int32)), .val (.int (1 : Int32)), .val (.int (2 : Int32)), .val (.int (2 : Int32)), .unset, .unset] [])
              exact blk147 l Z a0 hw ct0 x0 x1 x2 x3 x4 v0 v1 v2 v3 (1 : Int32) (2 : Int32) (2 : Int32) (by first | (simp [hc81, hc82, hc86, hc90, hc91, hc92]; done) | (simp [hc81, hc82, hc86, hc90, hc91, hc92]; decide)) (by first | (simp [hc81, hc82, hc86, hc90, hc91, hc92]; done) | (simp [hc81, hc82, hc86, hc90, hc91, hc92]; decide)) (by first | (simp [hc81, hc82, hc86, hc90, hc91, hc92]; done) | (simp [hc81, hc82, hc86, hc90, hc91, hc92]; decide)) X0 e0 n0 Z0 N0
            · refine go_st (fun _ kq => XS.ifNo X0.here hx rfl (hb hby at_136) rfl (XT.ll_eq_f hc92) kq) ?_
              show Go p e below s _ _ _ T0 (mkF m 139 #[.val (.long x0), .second, .val (.long x1), .second, .val (.long x2), .second, .val (.long x3), .second, .val (.int x4), .val (.long v0), .second, .val (.long v1), .second, .val (.long v2), .second, .val (.long v3), .second, .val (.int (1 : Int32)), .val (.int (1 : Int32)), .val (.int (2 : Int32)), .unset, .unset, .unset] [(.int (2 : Int32))])
              refine go_st (fun _ kq => XT.iconstV X0.here hx rfl (1 : Int32) (hb hby at_139) (by decide) kq) ?_
              show Go p e below s _ _ _ T0 (mkF m 140 #[.val (.long x0), .second, .val (.long x1), .second, .val (.long x2), .second, .val (.long x3), .second, .val (.int x4), .val (.long v0), .second, .val (.long v1), .second, .val (.long v2), .second, .val (.long v3), .second, .val (.int (1 : Int32)), .val (.int (1 : Int32)), .val (.int (2 : Int32)), .unset, .unset, .unset] [(.int (1 : Int32)), (.int (2 : Int32))])
              refine go_st (fun _ kq => XS.goto X0.here hx rfl (pc0 := 140) (pc' := 144) rfl (hb hby at_140) (by decide) (by decide) kq) ?_
              show Go p e below s _ _ _ T0 (mkF m 144 #[.val (.long x0), .second, .val (.long x1), .second, .val (.long x2), .second, .val (.long x3), .second, .val (.int x4), .val (.long v0), .second, .val (.long v1), .second, .val (.long v2), .second, .val (.long v3), .second, .val (.int (1 : Int32)), .val (.int (1 : Int32)), .val (.int (2 : Int32)), .unset, .unset, .unset] [(.int (1 : Int32)), (.int (2 : Int32))])
              refine go_st (fun _ kq => XS.iadd X0.here hx rfl (hb hby at_144) rfl kq) ?_
              rw [show ((2 : Int32) + (1 : Int32)) = (3 : Int32) from by decide +kernel]
              show Go p e below s _ _ _ T0 (mkF m 145 #[.val (.long x0), .second, .val (.long x1), .second, .val (.long x2), .second, .val (.long x3), .second, .val (.int x4), .val (.long v0), .second, .val (.long v1), .second, .val (.long v2), .second, .val (.long v3), .second, .val (.int (1 : Int32)), .val (.int (1 : Int32)), .val (.int (2 : Int32)), .unset, .unset, .unset] [(.int (3 : Int32))])
              refine go_st (fun _ kq => XS.istore X0.here hx rfl (hb hby at_145) rfl (l' := #[.val (.long x0), .second, .val (.long x1), .second, .val (.long x2), .second, .val (.long x3), .second, .val (.int x4), .val (.long v0), .second, .val (.long v1), .second, .val (.long v2), .second, .val (.long v3), .second, .val (.int (1 : Int32)), .val (.int (1 : Int32)), .val (.int (2 : Int32)), .val (.int (3 : Int32)), .unset, .unset]) rfl kq) ?_
              show Go p e below s _ _ _ T0 (mkF m 147 #[.val (.long x0), .second, .val (.long x1), .second, .val (.long x2), .second, .val (.long x3), .second, .val (.int x4), .val (.long v0), .second, .val (.long v1), .second, .val (.long v2), .second, .val (.long v3), .second, .val (.int (1 : Int32)), .val (.int (1 : Int32)), .val (.int (2 : Int32)), .val (.int (3 : Int32)), .unset, .unset] [])
              exact blk147 l Z a0 hw ct0 x0 x1 x2 x3 x4 v0 v1 v2 v3 (1 : Int32) (2 : Int32) (3 : Int32) (by first | (simp [hc81, hc82, hc86, hc90, hc91, hc92]; done) | (simp [hc81, hc82, hc86, hc90, hc91, hc92]; decide)) (by first | (simp [hc81, hc82, hc86, hc90, hc91, hc92]; done) | (simp [hc81, hc82, hc86, hc90, hc91, hc92]; decide)) (by first | (simp [hc81, hc82, hc86, hc90, hc91, hc92]; done) | (simp [hc81, hc82, hc86, hc90, hc91, hc92]; decide)) X0 e0 n0 Z0 N0
  · refine go_st (fun _ kq => XS.ifNo X0.here hx rfl (hb hby at_76) rfl (XT.ll_eq_f hc81) kq) ?_
    show Go p e below s _ _ _ T0 (mkF m 79 #[.val (.long x0), .second, .val (.long x1), .second, .val (.long x2), .second, .val (.long x3), .second, .val (.int x4), .val (.long v0), .second, .val (.long v1), .second, .val (.long v2), .second, .val (.long v3), .second, .val (.int (1 : Int32)), .unset, .unset, .unset, .unset, .unset] [(.int (1 : Int32))])
    refine go_st (fun _ kq => XT.iconstV X0.here hx rfl (1 : Int32) (hb hby at_79) (by decide) kq) ?_
    show Go p e below s _ _ _ T0 (mkF m 80 #[.val (.long x0), .second, .val (.long x1), .second, .val (.long x2), .second, .val (.long x3), .second, .val (.int x4), .val (.long v0), .second, .val (.long v1), .second, .val (.long v2), .second, .val (.long v3), .second, .val (.int (1 : Int32)), .unset, .unset, .unset, .unset, .unset] [(.int (1 : Int32)), (.int (1 : Int32))])
    refine go_st (fun _ kq => XS.goto X0.here hx rfl (pc0 := 80) (pc' := 84) rfl (hb hby at_80) (by decide) (by decide) kq) ?_
    show Go p e below s _ _ _ T0 (mkF m 84 #[.val (.long x0), .second, .val (.long x1), .second, .val (.long x2), .second, .val (.long x3), .second, .val (.int x4), .val (.long v0), .second, .val (.long v1), .second, .val (.long v2), .second, .val (.long v3), .second, .val (.int (1 : Int32)), .unset, .unset, .unset, .unset, .unset] [(.int (1 : Int32)), (.int (1 : Int32))])
    refine go_st (fun _ kq => XS.iadd X0.here hx rfl (hb hby at_84) rfl kq) ?_
    rw [show ((1 : Int32) + (1 : Int32)) = (2 : Int32) from by decide +kernel]
    show Go p e below s _ _ _ T0 (mkF m 85 #[.val (.long x0), .second, .val (.long x1), .second, .val (.long x2), .second, .val (.long x3), .second, .val (.int x4), .val (.long v0), .second, .val (.long v1), .second, .val (.long v2), .second, .val (.long v3), .second, .val (.int (1 : Int32)), .unset, .unset, .unset, .unset, .unset] [(.int (2 : Int32))])
    refine go_st (fun _ kq => XS.istore X0.here hx rfl (hb hby at_85) rfl (l' := #[.val (.long x0), .second, .val (.long x1), .second, .val (.long x2), .second, .val (.long x3), .second, .val (.int x4), .val (.long v0), .second, .val (.long v1), .second, .val (.long v2), .second, .val (.long v3), .second, .val (.int (1 : Int32)), .val (.int (2 : Int32)), .unset, .unset, .unset, .unset]) rfl kq) ?_
    show Go p e below s _ _ _ T0 (mkF m 87 #[.val (.long x0), .second, .val (.long x1), .second, .val (.long x2), .second, .val (.long x3), .second, .val (.int x4), .val (.long v0), .second, .val (.long v1), .second, .val (.long v2), .second, .val (.long v3), .second, .val (.int (1 : Int32)), .val (.int (2 : Int32)), .unset, .unset, .unset, .unset] [])
    refine go_st (fun _ kq => XS.iload X0.here hx rfl (hb hby at_87) rfl kq) ?_
    show Go p e below s _ _ _ T0 (mkF m 89 #[.val (.long x0), .second, .val (.long x1), .second, .val (.long x2), .second, .val (.long x3), .second, .val (.int x4), .val (.long v0), .second, .val (.long v1), .second, .val (.long v2), .second, .val (.long v3), .second, .val (.int (1 : Int32)), .val (.int (2 : Int32)), .unset, .unset, .unset, .unset] [(.int (2 : Int32))])
    refine go_st (fun _ kq => XT.lload X0.here hx rfl (hb hby at_89) rfl kq) ?_
    show Go p e below s _ _ _ T0 (mkF m 91 #[.val (.long x0), .second, .val (.long x1), .second, .val (.long x2), .second, .val (.long x3), .second, .val (.int x4), .val (.long v0), .second, .val (.long v1), .second, .val (.long v2), .second, .val (.long v3), .second, .val (.int (1 : Int32)), .val (.int (2 : Int32)), .unset, .unset, .unset, .unset] [(.long v2), (.int (2 : Int32))])
    refine go_st (fun _ kq => XT.lload X0.here hx rfl (hb hby at_91) rfl kq) ?_
    show Go p e below s _ _ _ T0 (mkF m 93 #[.val (.long x0), .second, .val (.long x1), .second, .val (.long x2), .second, .val (.long x3), .second, .val (.int x4), .val (.long v0), .second, .val (.long v1), .second, .val (.long v2), .second, .val (.long v3), .second, .val (.int (1 : Int32)), .val (.int (2 : Int32)), .unset, .unset, .unset, .unset] [(.long v0), (.long v2), (.int (2 : Int32))])
    refine go_st (fun _ kq => XT.lcmp X0.here hx rfl (hb hby at_93) rfl kq) ?_
    show Go p e below s _ _ _ T0 (mkF m 94 #[.val (.long x0), .second, .val (.long x1), .second, .val (.long x2), .second, .val (.long x3), .second, .val (.int x4), .val (.long v0), .second, .val (.long v1), .second, .val (.long v2), .second, .val (.long v3), .second, .val (.int (1 : Int32)), .val (.int (2 : Int32)), .unset, .unset, .unset, .unset] [(.int (XT.cmpL v2 v0)), (.int (2 : Int32))])
    by_cases hc93 : v2 = v0
    · refine go_st (fun _ kq => XS.ifYes X0.here hx rfl (pc0 := 94) (pc' := 109) rfl (hb hby at_94) rfl (XT.ll_eq_t hc93) (by decide) (by decide) kq) ?_
      show Go p e below s _ _ _ T0 (mkF m 109 #[.val (.long x0), .second, .val (.long x1), .second, .val (.long x2), .second, .val (.long x3), .second, .val (.int x4), .val (.long v0), .second, .val (.long v1), .second, .val (.long v2), .second, .val (.long v3), .second, .val (.int (1 : Int32)), .val (.int (2 : Int32)), .unset, .unset, .unset, .unset] [(.int (2 : Int32))])
      refine go_st (fun _ kq => XT.iconstV X0.here hx rfl (0 : Int32) (hb hby at_109) (by decide) kq) ?_
      show Go p e below s _ _ _ T0 (mkF m 110 #[.val (.long x0), .second, .val (.long x1), .second, .val (.long x2), .second, .val (.long x3), .second, .val (.int x4), .val (.long v0), .second, .val (.long v1), .second, .val (.long v2), .second, .val (.long v3), .second, .val (.int (1 : Int32)), .val (.int (2 : Int32)), .unset, .unset, .unset, .unset] [(.int (0 : Int32)), (.int (2 : Int32))])
      refine go_st (fun _ kq => XS.iadd X0.here hx rfl (hb hby at_110) rfl kq) ?_
      rw [show ((2 : Int32) + (0 : Int32)) = (2 : Int32) from by decide +kernel]
      show Go p e below s _ _ _ T0 (mkF m 111 #[.val (.long x0), .second, .val (.long x1), .second, .val (.long x2), .second, .val (.long x3), .second, .val (.int x4), .val (.long v0), .second, .val (.long v1), .second, .val (.long v2), .second, .val (.long v3), .second, .val (.int (1 : Int32)), .val (.int (2 : Int32)), .unset, .unset, .unset, .unset] [(.int (2 : Int32))])
      refine go_st (fun _ kq => XS.istore X0.here hx rfl (hb hby at_111) rfl (l' := #[.val (.long x0), .second, .val (.long x1), .second, .val (.long x2), .second, .val (.long x3), .second, .val (.int x4), .val (.long v0), .second, .val (.long v1), .second, .val (.long v2), .second, .val (.long v3), .second, .val (.int (1 : Int32)), .val (.int (2 : Int32)), .val (.int (2 : Int32)), .unset, .unset, .unset]) rfl kq) ?_
      show Go p e below s _ _ _ T0 (mkF m 113 #[.val (.long x0), .second, .val (.long x1), .second, .val (.long x2), .second, .val (.long x3), .second, .val (.int x4), .val (.long v0), .second, .val (.long v1), .second, .val (.long v2), .second, .val (.long v3), .second, .val (.int (1 : Int32)), .val (.int (2 : Int32)), .val (.int (2 : Int32)), .unset, .unset, .unset] [])
      refine go_st (fun _ kq => XS.iload X0.here hx rfl (hb hby at_113) rfl kq) ?_
      show Go p e below s _ _ _ T0 (mkF m 115 #[.val (.long x0), .second, .val (.long x1), .second, .val (.long x2), .second, .val (.long x3), .second, .val (.int x4), .val (.long v0), .second, .val (.long v1), .second, .val (.long v2), .second, .val (.long v3), .second, .val (.int (1 : Int32)), .val (.int (2 : Int32)), .val (.int (2 : Int32)), .unset, .unset, .unset] [(.int (2 : Int32))])
      refine go_st (fun _ kq => XT.lload X0.here hx rfl (hb hby at_115) rfl kq) ?_
      show Go p e below s _ _ _ T0 (mkF m 117 #[.val (.long x0), .second, .val (.long x1), .second, .val (.long x2), .second, .val (.long x3), .second, .val (.int x4), .val (.long v0), .second, .val (.long v1), .second, .val (.long v2), .second, .val (.long v3), .second, .val (.int (1 : Int32)), .val (.int (2 : Int32)), .val (.int (2 : Int32)), .unset, .unset, .unset] [(.long v3), (.int (2 : Int32))])
      refine go_st (fun _ kq => XT.lload X0.here hx rfl (hb hby at_117) rfl kq) ?_
      show Go p e below s _ _ _ T0 (mkF m 119 #[.val (.long x0), .second, .val (.long x1), .second, .val (.long x2), .second, .val (.long x3), .second, .val (.int x4), .val (.long v0), .second, .val (.long v1), .second, .val (.long v2), .second, .val (.long v3), .second, .val (.int (1 : Int32)), .val (.int (2 : Int32)), .val (.int (2 : Int32)), .unset, .unset, .unset] [(.long v0), (.long v3), (.int (2 : Int32))])
      refine go_st (fun _ kq => XT.lcmp X0.here hx rfl (hb hby at_119) rfl kq) ?_
      show Go p e below s _ _ _ T0 (mkF m 120 #[.val (.long x0), .second, .val (.long x1), .second, .val (.long x2), .second, .val (.long x3), .second, .val (.int x4), .val (.long v0), .second, .val (.long v1), .second, .val (.long v2), .second, .val (.long v3), .second, .val (.int (1 : Int32)), .val (.int (2 : Int32)), .val (.int (2 : Int32)), .unset, .unset, .unset] [(.int (XT.cmpL v3 v0)), (.int (2 : Int32))])
      by_cases hc94 : v3 = v0
      · refine go_st (fun _ kq => XS.ifYes X0.here hx rfl (pc0 := 120) (pc' := 143) rfl (hb hby at_120) rfl (XT.ll_eq_t hc94) (by decide) (by decide) kq) ?_
        show Go p e below s _ _ _ T0 (mkF m 143 #[.val (.long x0), .second, .val (.long x1), .second, .val (.long x2), .second, .val (.long x3), .second, .val (.int x4), .val (.long v0), .second, .val (.long v1), .second, .val (.long v2), .second, .val (.long v3), .second, .val (.int (1 : Int32)), .val (.int (2 : Int32)), .val (.int (2 : Int32)), .unset, .unset, .unset] [(.int (2 : Int32))])
        refine go_st (fun _ kq => XT.iconstV X0.here hx rfl (0 : Int32) (hb hby at_143) (by decide) kq) ?_
        show Go p e below s _ _ _ T0 (mkF m 144 #[.val (.long x0), .second, .val (.long x1), .second, .val (.long x2), .second, .val (.long x3), .second, .val (.int x4), .val (.long v0), .second, .val (.long v1), .second, .val (.long v2), .second, .val (.long v3), .second, .val (.int (1 : Int32)), .val (.int (2 : Int32)), .val (.int (2 : Int32)), .unset, .unset, .unset] [(.int (0 : Int32)), (.int (2 : Int32))])
        refine go_st (fun _ kq => XS.iadd X0.here hx rfl (hb hby at_144) rfl kq) ?_
        rw [show ((2 : Int32) + (0 : Int32)) = (2 : Int32) from by decide +kernel]
        show Go p e below s _ _ _ T0 (mkF m 145 #[.val (.long x0), .second, .val (.long x1), .second, .val (.long x2), .second, .val (.long x3), .second, .val (.int x4), .val (.long v0), .second, .val (.long v1), .second, .val (.long v2), .second, .val (.long v3), .second, .val (.int (1 : Int32)), .val (.int (2 : Int32)), .val (.int (2 : Int32)), .unset, .unset, .unset] [(.int (2 : Int32))])
        refine go_st (fun _ kq => XS.istore X0.here hx rfl (hb hby at_145) rfl (l' := #[.val (.long x0), .second, .val (.long x1), .second, .val (.long x2), .second, .val (.long x3), .second, .val (.int x4), .val (.long v0), .second, .val (.long v1), .second, .val (.long v2), .second, .val (.long v3), .second, .val (.int (1 : Int32)), .val (.int (2 : Int32)), .val (.int (2 : Int32)), .val (.int (2 : Int32)), .unset, .unset]) rfl kq) ?_
        show Go p e below s _ _ _ T0 (mkF m 147 #[.val (.long x0), .second, .val (.long x1), .second, .val (.long x2), .second, .val (.long x3), .second, .val (.int x4), .val (.long v0), .second, .val (.long v1), .second, .val (.long v2), .second, .val (.long v3), .second, .val (.int (1 : Int32)), .val (.int (2 : Int32)), .val (.int (2 : Int32)), .val (.int (2 : Int32)), .unset, .unset] [])
        exact blk147 l Z a0 hw ct0 x0 x1 x2 x3 x4 v0 v1 v2 v3 (2 : Int32) (2 : Int32) (2 : Int32) (by first | (simp [hc81, hc93, hc94]; done) | (simp [hc81, hc93, hc94]; decide)) (by first | (simp [hc81, hc93, hc94]; done) | (simp [hc81, hc93, hc94]; decide)) (by first | (simp [hc81, hc93, hc94]; done) | (simp [hc81, hc93, hc94]; decide)) X0 e0 n0 Z0 N0
      · refine go_st (fun _ kq => XS.ifNo X0.here hx rfl (hb hby at_120) rfl (XT.ll_eq_f hc94) kq) ?_
        show Go p e below s _ _ _ T0 (mkF m 123 #[.val (.long x0), .second, .val (.long x1), .second, .val (.long x2), .second, .val (.long x3), .second, .val (.int x4), .val (.long v0), .second, .val (.long v1), .second, .val (.long v2), .second, .val (.long v3), .second, .val (.int (1 : Int32)), .val (.int (2 : Int32)), .val (.int (2 : Int32)), .unset, .unset, .unset] [(.int (2 : Int32))])
        refine go_st (fun _ kq => XT.lload X0.here hx rfl (hb hby at_123) rfl kq) ?_
        show Go p e below s _ _ _ T0 (mkF m 125 #[.val (.long x0), .second, .val (.long x1), .second, .val (.long x2), .second, .val (.long x3), .second, .val (.int x4), .val (.long v0), .second, .val (.long v1), .second, .val (.long v2), .second, .val (.long v3), .second, .val (.int (1 : Int32)), .val (.int (2 : Int32)), .val (.int (2 : Int32)), .unset, .unset, .unset] [(.long v3), (.int (2 : Int32))])
        refine go_st (fun _ kq => XT.lload X0.here hx rfl (hb hby at_125) rfl kq) ?_
        show Go p e below s _ _ _ T0 (mkF m 127 #[.val (.long x0), .second, .val (.long x1), .second, .val (.long x2), .second, .val (.long x3), .second, .val (.int x4), .val (.long v0), .second, .val (.long v1), .second, .val (.long v2), .second, .val (.long v3), .second, .val (.int (1 : Int32)), .val (.int (2 : Int32)), .val (.int (2 : Int32)), .unset, .unset, .unset] [(.long v1), (.long v3), (.int (2 : Int32))])
        refine go_st (fun _ kq => XT.lcmp X0.here hx rfl (hb hby at_127) rfl kq) ?_
        show Go p e below s _ _ _ T0 (mkF m 128 #[.val (.long x0), .second, .val (.long x1), .second, .val (.long x2), .second, .val (.long x3), .second, .val (.int x4), .val (.long v0), .second, .val (.long v1), .second, .val (.long v2), .second, .val (.long v3), .second, .val (.int (1 : Int32)), .val (.int (2 : Int32)), .val (.int (2 : Int32)), .unset, .unset, .unset] [(.int (XT.cmpL v3 v1)), (.int (2 : Int32))])
        by_cases hc95 : v3 = v1
        · refine go_st (fun _ kq => XS.ifYes X0.here hx rfl (pc0 := 128) (pc' := 143) rfl (hb hby at_128) rfl (XT.ll_eq_t hc95) (by decide) (by decide) kq) ?_
          show Go p e below s _ _ _ T0 (mkF m 143 #[.val (.long x0), .second, .val (.long x1), .second, .val (.long x2), .second, .val (.long x3), .second, .val (.int x4), .val (.long v0), .second, .val (.long v1), .second, .val (.long v2), .second, .val (.long v3), .second, .val (.int (1 : Int32)), .val (.int (2 : Int32)), .val (.int (2 : Int32)), .unset, .unset, .unset] [(.int (2 : Int32))])
          refine go_st (fun _ kq => XT.iconstV X0.here hx rfl (0 : Int32) (hb hby at_143) (by decide) kq) ?_
          show Go p e below s _ _ _ T0 (mkF m 144 #[.val (.long x0), .second, .val (.long x1), .second, .val (.long x2), .second, .val (.long x3), .second, .val (.int x4), .val (.long v0), .second, .val (.long v1), .second, .val (.long v2), .second, .val (.long v3), .second, .val (.int (1 : Int32)), .val (.int (2 : Int32)), .val (.int (2 : Int32)), .unset, .unset, .unset] [(.int (0 : Int32)), (.int (2 : Int32))])
          refine go_st (fun _ kq => XS.iadd X0.here hx rfl (hb hby at_144) rfl kq) ?_
          rw [show ((2 : Int32) + (0 : Int32)) = (2 : Int32) from by decide +kernel]
          show Go p e below s _ _ _ T0 (mkF m 145 #[.val (.long x0), .second, .val (.long x1), .second, .val (.long x2), .second, .val (.long x3), .second, .val (.int x4), .val (.long v0), .second, .val (.long v1), .second, .val (.long v2), .second, .val (.long v3), .second, .val (.int (1 : Int32)), .val (.int (2 : Int32)), .val (.int (2 : Int32)), .unset, .unset, .unset] [(.int (2 : Int32))])
          refine go_st (fun _ kq => XS.istore X0.here hx rfl (hb hby at_145) rfl (l' := #[.val (.long x0), .second, .val (.long x1), .second, .val (.long x2), .second, .val (.long x3), .second, .val (.int x4), .val (.long v0), .second, .val (.long v1), .second, .val (.long v2), .second, .val (.long v3), .second, .val (.int (1 : Int32)), .val (.int (2 : Int32)), .val (.int (2 : Int32)), .val (.int (2 : Int32)), .unset, .unset]) rfl kq) ?_
          show Go p e below s _ _ _ T0 (mkF m 147 #[.val (.long x0), .second, .val (.long x1), .second, .val (.long x2), .second, .val (.long x3), .second, .val (.int x4), .val (.long v0), .second, .val (.long v1), .second, .val (.long v2), .second, .val (.long v3), .second, .val (.int (1 : Int32)), .val (.int (2 : Int32)), .val (.int (2 : Int32)), .val (.int (2 : Int32)), .unset, .unset] [])
          exact blk147 l Z a0 hw ct0 x0 x1 x2 x3 x4 v0 v1 v2 v3 (2 : Int32) (2 : Int32) (2 : Int32) (by first | (simp [hc81, hc93, hc94, hc95]; done) | (simp [hc81, hc93, hc94, hc95]; decide)) (by first | (simp [hc81, hc93, hc94, hc95]; done) | (simp [hc81, hc93, hc94, hc95]; decide)) (by first | (simp [hc81, hc93, hc94, hc95]; done) | (simp [hc81, hc93, hc94, hc95]; decide)) X0 e0 n0 Z0 N0
        · refine go_st (fun _ kq => XS.ifNo X0.here hx rfl (hb hby at_128) rfl (XT.ll_eq_f hc95) kq) ?_
          show Go p e below s _ _ _ T0 (mkF m 131 #[.val (.long x0), .second, .val (.long x1), .second, .val (.long x2), .second, .val (.long x3), .second, .val (.int x4), .val (.long v0), .second, .val (.long v1), .second, .val (.long v2), .second, .val (.long v3), .second, .val (.int (1 : Int32)), .val (.int (2 : Int32)), .val (.int (2 : Int32)), .unset, .unset, .unset] [(.int (2 : Int32))])
          refine go_st (fun _ kq => XT.lload X0.here hx rfl (hb hby at_131) rfl kq) ?_
          show Go p e below s _ _ _ T0 (mkF m 133 #[.val (.long x0), .second, .val (.long x1), .second, .val (.long x2), .second, .val (.long x3), .second, .val (.int x4), .val (.long v0), .second, .val (.long v1), .second, .val (.long v2), .second, .val (.long v3), .second, .val (.int (1 : Int32)), .val (.int (2 : Int32)), .val (.int (2 : Int32)), .unset, .unset, .unset] [(.long v3), (.int (2 : Int32))])
          refine go_st (fun _ kq => XT.lload X0.here hx rfl (hb hby at_133) rfl kq) ?_
          show Go p e below s _ _ _ T0 (mkF m 135 #[.val (.long x0), .second, .val (.long x1), .second, .val (.long x2), .second, .val (.long x3), .second, .val (.int x4), .val (.long v0), .second, .val (.long v1), .second, .val (.long v2), .second, .val (.long v3), .second, .val (.int (1 : Int32)), .val (.int (2 : Int32)), .val (.int (2 : Int32)), .unset, .unset, .unset] [(.long v2), (.long v3), (.int (2 : Int32))])
          refine go_st (fun _ kq => XT.lcmp X0.here hx rfl (hb hby at_135) rfl kq) ?_
          show Go p e below s _ _ _ T0 (mkF m 136 #[.val (.long x0), .second, .val (.long x1), .second, .val (.long x2), .second, .val (.long x3), .second, .val (.int x4), .val (.long v0), .second, .val (.long v1), .second, .val (.long v2), .second, .val (.long v3), .second, .val (.int (1 : Int32)), .val (.int (2 : Int32)), .val (.int (2 : Int32)), .unset, .unset, .unset] [(.int (XT.cmpL v3 v2)), (.int (2 : Int32))])
          by_cases hc96 : v3 = v2
          · refine go_st (fun _ kq => XS.ifYes X0.here hx rfl (pc0 := 136) (pc' := 143) rfl (hb hby at_136) rfl (XT.ll_eq_t hc96) (by decide) (by decide) kq) ?_
            show Go p e below s _ _ _ T0 (mkF m 143 #[.val (.long x0), .second, .val (.long x1), .second, .val (.long x2), .second, .val (.long x3), .second, .val (.int x4), .val (.long v0), .second, .val (.long v1), .second, .val (.long v2), .second, .val (.long v3), .second, .val (.int (1 : Int32)), .val (.int (2 : Int32)), .val (.int (2 : Int32)), .unset, .unset, .unset] [(.int (2 : Int32))])
            refine go_st (fun _ kq => XT.iconstV X0.here hx rfl (0 : Int32) (hb hby at_143) (by decide) kq) ?_
            show Go p e below s _ _ _ T0 (mkF m 144 #[.val (.long x0), .second, .val (.long x1), .second, .val (.long x2), .second, .val (.long x3), .second, .val (.int x4), .val (.long v0), .second, .val (.long v1), .second, .val (.long v2), .second, .val (.long v3), .second, .val (.int (1 : Int32)), .val (.int (2 : Int32)), .val (.int (2 : Int32)), .unset, .unset, .unset] [(.int (0 : Int32)), (.int (2 : Int32))])
            refine go_st (fun _ kq => XS.iadd X0.here hx rfl (hb hby at_144) rfl kq) ?_
            rw [show ((2 : Int32) + (0 : Int32)) = (2 : Int32) from by decide +kernel]
            show Go p e below s _ _ _ T0 (mkF m 145 #[.val (.long x0), .second, .val (.long x1), .second, .val (.long x2), .second, .val (.long x3), .second, .val (.int x4), .val (.long v0), .second, .val (.long v1), .second, .val (.long v2), .second, .val (.long v3), .second, .val (.int (1 : Int32)), .val (.int (2 : Int32)), .val (.int (2 : Int32)), .unset, .unset, .unset] [(.int (2 : Int32))])
            refine go_st (fun _ kq => XS.istore X0.here hx rfl (hb hby at_145) rfl (l' := #[.val (.long x0), .second, .val (.long x1), .second, .val (.long x2), .second, .val (.long x3), .second, .val (.int x4), .val (.long v0), .second, .val (.long v1), .second, .val (.long v2), .second, .val (.long v3), .second, .val (.int (1 : Int32)), .val (.int (2 : Int32)), .val (.int (2 : Int32)), .val (.int (2 : Int32)), .unset, .unset]) rfl kq) ?_
            show Go p e below s _ _ _ T0 (mkF m 147 #[.val (.long x0), .second, .val (.long x1), .second, .val (.long x2), .second, .val (.long x3), .second, .val (.int x4), .val (.long v0), .second, .val (.long v1), .second, .val (.long v2), .second, .val (.long v3), .second, .val (.int (1 : Int32)), .val (.int (2 : Int32)), .val (.int (2 : Int32)), .val (.int (2 : Int32)), .unset, .unset] [])
            exact blk147 l Z a0 hw ct0 x0 x1 x2 x3 x4 v0 v1 v2 v3 (2 : Int32) (2 : Int32) (2 : Int32) (by first | (simp [hc81, hc93, hc94, hc95, hc96]; done) | (simp [hc81, hc93, hc94, hc95, hc96]; decide)) (by first | (simp [hc81, hc93, hc94, hc95, hc96]; done) | (simp [hc81, hc93, hc94, hc95, hc96]; decide)) (by first | (simp [hc81, hc93, hc94, hc95, hc96]; done) | (simp [hc81, hc93, hc94, hc95, hc96]; decide)) X0 e0 n0 Z0 N0
          · refine go_st (fun _ kq => XS.ifNo X0.here hx rfl (hb hby at_136) rfl (XT.ll_eq_f hc96) kq) ?_
            show Go p e below s _ _ _ T0 (mkF m 139 #[.val (.long x0), .second, .val (.long x1), .second, .val (.long x2), .second, .val (.long x3), .second, .val (.int x4), .val (.long v0), .second, .val (.long v1), .second, .val (.long v2), .second, .val (.long v3), .second, .val (.int (1 : Int32)), .val (.int (2 : Int32)), .val (.int (2 : Int32)), .unset, .unset, .unset] [(.int (2 : Int32))])
            refine go_st (fun _ kq => XT.iconstV X0.here hx rfl (1 : Int32) (hb hby at_139) (by decide) kq) ?_
            show Go p e below s _ _ _ T0 (mkF m 140 #[.val (.long x0), .second, .val (.long x1), .second, .val (.long x2), .second, .val (.long x3), .second, .val (.int x4), .val (.long v0), .second, .val (.long v1), .second, .val (.long v2), .second, .val (.long v3), .second, .val (.int (1 : Int32)), .val (.int (2 : Int32)), .val (.int (2 : Int32)), .unset, .unset, .unset] [(.int (1 : Int32)), (.int (2 : Int32))])
            refine go_st (fun _ kq => XS.goto X0.here hx rfl (pc0 := 140) (pc' := 144) rfl (hb hby at_140) (by decide) (by decide) kq) ?_
            show Go p e below s _ _ _ T0 (mkF m 144 #[.val (.long x0), .second, .val (.long x1), .second, .val (.long x2), .second, .val (.long x3), .second, .val (.int x4), .val (.long v0), .second, .val (.long v1), .second, .val (.long v2), .second, .val (.long v3), .second, .val (.int (1 : Int32)), .val (.int (2 : Int32)), .val (.int (2 : Int32)), .unset, .unset, .unset] [(.int (1 : Int32)), (.int (2 : Int32))])
            refine go_st (fun _ kq => XS.iadd X0.here hx rfl (hb hby at_144) rfl kq) ?_
            rw [show ((2 : Int32) + (1 : Int32)) = (3 : Int32) from by decide +kernel]
            show Go p e below s _ _ _ T0 (mkF m 145 #[.val (.long x0), .second, .val (.long x1), .second, .val (.long x2), .second, .val (.long x3), .second, .val (.int x4), .val (.long v0), .second, .val (.long v1), .second, .val (.long v2), .second, .val (.long v3), .second, .val (.int (1 : Int32)), .val (.int (2 : Int32)), .val (.int (2 : Int32)), .unset, .unset, .unset] [(.int (3 : Int32))])
            refine go_st (fun _ kq => XS.istore X0.here hx rfl (hb hby at_145) rfl (l' := #[.val (.long x0), .second, .val (.long x1), .second, .val (.long x2), .second, .val (.long x3), .second, .val (.int x4), .val (.long v0), .second, .val (.long v1), .second, .val (.long v2), .second, .val (.long v3), .second, .val (.int (1 : Int32)), .val (.int (2 : Int32)), .val (.int (2 : Int32)), .val (.int (3 : Int32)), .unset, .unset]) rfl kq) ?_
            show Go p e below s _ _ _ T0 (mkF m 147 #[.val (.long x0), .second, .val (.long x1), .second, .val (.long x2), .second, .val (.long x3), .second, .val (.int x4), .val (.long v0), .second, .val (.long v1), .second, .val (.long v2), .second, .val (.long v3), .second, .val (.int (1 : Int32)), .val (.int (2 : Int32)), .val (.int (2 : Int32)), .val (.int (3 : Int32)), .unset, .unset] [])
            exact blk147 l Z a0 hw ct0 x0 x1 x2 x3 x4 v0 v1 v2 v3 (2 : Int32) (2 : Int32) (3 : Int32) (by first | (simp [hc81, hc93, hc94, hc95, hc96]; done) | (simp [hc81, hc93, hc94, hc95, hc96]; decide)) (by first | (simp [hc81, hc93, hc94, hc95, hc96]; done) | (simp [hc81, hc93, hc94, hc95, hc96]; decide)) (by first | (simp [hc81, hc93, hc94, hc95, hc96]; done) | (simp [hc81, hc93, hc94, hc95, hc96]; decide)) X0 e0 n0 Z0 N0
    · refine go_st (fun _ kq => XS.ifNo X0.here hx rfl (hb hby at_94) rfl (XT.ll_eq_f hc93) kq) ?_
      show Go p e below s _ _ _ T0 (mkF m 97 #[.val (.long x0), .second, .val (.long x1), .second, .val (.long x2), .second, .val (.long x3), .second, .val (.int x4), .val (.long v0), .second, .val (.long v1), .second, .val (.long v2), .second, .val (.long v3), .second, .val (.int (1 : Int32)), .val (.int (2 : Int32)), .unset, .unset, .unset, .unset] [(.int (2 : Int32))])
      refine go_st (fun _ kq => XT.lload X0.here hx rfl (hb hby at_97) rfl kq) ?_
      show Go p e below s _ _ _ T0 (mkF m 99 #[.val (.long x0), .second, .val (.long x1), .second, .val (.long x2), .second, .val (.long x3), .second, .val (.int x4), .val (.long v0), .second, .val (.long v1), .second, .val (.long v2), .second, .val (.long v3), .second, .val (.int (1 : Int32)), .val (.int (2 : Int32)), .unset, .unset, .unset, .unset] [(.long v2), (.int (2 : Int32))])
      refine go_st (fun _ kq => XT.lload X0.here hx rfl (hb hby at_99) rfl kq) ?_
      show Go p e below s _ _ _ T0 (mkF m 101 #[.val (.long x0), .second, .val (.long x1), .second, .val (.long x2), .second, .val (.long x3), .second, .val (.int x4), .val (.long v0), .second, .val (.long v1), .second, .val (.long v2), .second, .val (.long v3), .second, .val (.int (1 : Int32)), .val (.int (2 : Int32)), .unset, .unset, .unset, .unset] [(.long v1), (.long v2), (.int (2 : Int32))])
      refine go_st (fun _ kq => XT.lcmp X0.here hx rfl (hb hby at_101) rfl kq) ?_
      show Go p e below s _ _ _ T0 (mkF m 102 #[.val (.long x0), .second, .val (.long x1), .second, .val (.long x2), .second, .val (.long x3), .second, .val (.int x4), .val (.long v0), .second, .val (.long v1), .second, .val (.long v2), .second, .val (.long v3), .second, .val (.int (1 : Int32)), .val (.int (2 : Int32)), .unset, .unset, .unset, .unset] [(.int (XT.cmpL v2 v1)), (.int (2 : Int32))])
      by_cases hc97 : v2 = v1
      · refine go_st (fun _ kq => XS.ifYes X0.here hx rfl (pc0 := 102) (pc' := 109) rfl (hb hby at_102) rfl (XT.ll_eq_t hc97) (by decide) (by decide) kq) ?_
        show Go p e below s _ _ _ T0 (mkF m 109 #[.val (.long x0), .second, .val (.long x1), .second, .val (.long x2), .second, .val (.long x3), .second, .val (.int x4), .val (.long v0), .second, .val (.long v1), .second, .val (.long v2), .second, .val (.long v3), .second, .val (.int (1 : Int32)), .val (.int (2 : Int32)), .unset, .unset, .unset, .unset] [(.int (2 : Int32))])
        refine go_st (fun _ kq => XT.iconstV X0.here hx rfl (0 : Int32) (hb hby at_109) (by decide) kq) ?_
        show Go p e below s _ _ _ T0 (mkF m 110 #[.val (.long x0), .second, .val (.long x1), .second, .val (.long x2), .second, .val (.long x3), .second, .val (.int x4), .val (.long v0), .second, .val (.long v1), .second, .val (.long v2), .second, .val (.long v3), .second, .val (.int (1 : Int32)), .val (.int (2 : Int32)), .unset, .unset, .unset, .unset] [(.int (0 : Int32)), (.int (2 : Int32))])
        refine go_st (fun _ kq => XS.iadd X0.here hx rfl (hb hby at_110) rfl kq) ?_
        rw [show ((2 : Int32) + (0 : Int32)) = (2 : Int32) from by decide +kernel]
        show Go p e below s _ _ _ T0 (mkF m 111 #[.val (.long x0), .second, .val (.long x1), .second, .val (.long x2), .second, .val (.long x3), .second, .val (.int x4), .val (.long v0), .second, .val (.long v1), .second, .val (.long v2), .second, .val (.long v3), .second, .val (.int (1 : Int32)), .val (.int (2 : Int32)), .unset, .unset, .unset, .unset] [(.int (2 : Int32))])
        refine go_st (fun _ kq => XS.istore X0.here hx rfl (hb hby at_111) rfl (l' := #[.val (.long x0), .second, .val (.long x1), .second, .val (.long x2), .second, .val (.long x3), .second, .val (.int x4), .val (.long v0), .second, .val (.long v1), .second, .val (.long v2), .second, .val (.long v3), .second, .val (.int (1 : Int32)), .val (.int (2 : Int32)), .val (.int (2 : Int32)), .unset, .unset, .unset]) rfl kq) ?_
        show Go p e below s _ _ _ T0 (mkF m 113 #[.val (.long x0), .second, .val (.long x1), .second, .val (.long x2), .second, .val (.long x3), .second, .val (.int x4), .val (.long v0), .second, .val (.long v1), .second, .val (.long v2), .second, .val (.long v3), .second, .val (.int (1 : Int32)), .val (.int (2 : Int32)), .val (.int (2 : Int32)), .unset, .unset, .unset] [])
        refine go_st (fun _ kq => XS.iload X0.here hx rfl (hb hby at_113) rfl kq) ?_
        show Go p e below s _ _ _ T0 (mkF m 115 #[.val (.long x0), .second, .val (.long x1), .second, .val (.long x2), .second, .val (.long x3), .second, .val (.int x4), .val (.long v0), .second, .val (.long v1), .second, .val (.long v2), .second, .val (.long v3), .second, .val (.int (1 : Int32)), .val (.int (2 : Int32)), .val (.int (2 : Int32)), .unset, .unset, .unset] [(.int (2 : Int32))])
        refine go_st (fun _ kq => XT.lload X0.here hx rfl (hb hby at_115) rfl kq) ?_
        show Go p e below s _ _ _ T0 (mkF m 117 #[.val (.long x0), .second, .val (.long x1), .second, .val (.long x2), .second, .val (.long x3), .second, .val (.int x4), .val (.long v0), .second, .val (.long v1), .second, .val (.long v2), .second, .val (.long v3), .second, .val (.int (1 : Int32)), .val (.int (2 : Int32)), .val (.int (2 : Int32)), .unset, .unset, .unset] [(.long v3), (.int (2 : Int32))])
        refine go_st (fun _ kq => XT.lload X0.here hx rfl (hb hby at_117) rfl kq) ?_
        show Go p e below s _ _ _ T0 (mkF m 119 #[.val (.long x0), .second, .val (.long x1), .second, .val (.long x2), .second, .val (.long x3), .second, .val (.int x4), .val (.long v0), .second, .val (.long v1), .second, .val (.long v2), .second, .val (.long v3), .second, .val (.int (1 : Int32)), .val (.int (2 : Int32)), .val (.int (2 : Int32)), .unset, .unset, .unset] [(.long v0), (.long v3), (.int (2 : Int32))])
        refine go_st (fun _ kq => XT.lcmp X0.here hx rfl (hb hby at_119) rfl kq) ?_
        show Go p e below s _ _ _ T0 (mkF m 120 #[.val (.long x0), .second, .val (.long x1), .second, .val (.long x2), .second, .val (.long x3), .second, .val (.int x4), .val (.long v0), .second, .val (.long v1), .second, .val (.long v2), .second, .val (.long v3), .second, .val (.int (1 : Int32)), .val (.int (2 : Int32)), .val (.int (2 : Int32)), .unset, .unset, .unset] [(.int (XT.cmpL v3 v0)), (.int (2 : Int32))])
        by_cases hc98 : v3 = v0
        · refine go_st (fun _ kq => XS.ifYes X0.here hx rfl (pc0 := 120) (pc' := 143) rfl (hb hby at_120) rfl (XT.ll_eq_t hc98) (by decide) (by decide) kq) ?_
          show Go p e below s _ _ _ T0 (mkF m 143 #[.val (.long x0), .second, .val (.long x1), .second, .val (.long x2), .second, .val (.long x3), .second, .val (.int x4), .val (.long v0), .second, .val (.long v1), .second, .val (.long v2), .second, .val (.long v3), .second, .val (.int (1 : Int32)), .val (.int (2 : Int32)), .val (.int (2 : Int32)), .unset, .unset, .unset] [(.int (2 : Int32))])
          refine go_st (fun _ kq => XT.iconstV X0.here hx rfl (0 : Int32) (hb hby at_143) (by decide) kq) ?_
          show Go p e below s _ _ _ T0 (mkF m 144 #[.val (.long x0), .second, .val (.long x1), .second, .val (.long x2), .second, .val (.long x3), .second, .val (.int x4), .val (.long v0), .second, .val (.long v1), .second, .val (.long v2), .second, .val (.long v3), .second, .val (.int (1 : Int32)), .val (.int (2 : Int32)), .val (.int (2 : Int32)), .unset, .unset, .unset] [(.int (0 : Int32)), (.int (2 : Int32))])
          refine go_st (fun _ kq => XS.iadd X0.here hx rfl (hb hby at_144) rfl kq) ?_
          rw [show ((2 : Int32) + (0 : Int32)) = (2 : Int32) from by decide +kernel]
          show Go p e below s _ _ _ T0 (mkF m 145 #[.val (.long x0), .second, .val (.long x1), .second, .val (.long x2), .second, .val (.long x3), .second, .val (.int x4), .val (.long v0), .second, .val (.long v1), .second, .val (.long v2), .second, .val (.long v3), .second, .val (.int (1 : Int32)), .val (.int (2 : Int32)), .val (.int (2 : Int32)), .unset, .unset, .unset] [(.int (2 : Int32))])
          refine go_st (fun _ kq => XS.istore X0.here hx rfl (hb hby at_145) rfl (l' := #[.val (.long x0), .second, .val (.long x1), .second, .val (.long x2), .second, .val (.long x3), .second, .val (.int x4), .val (.long v0), .second, .val (.long v1), .second, .val (.long v2), .second, .val (.long v3), .second, .val (.int (1 : Int32)), .val (.int (2 : Int32)), .val (.int (2 : Int32)), .val (.int (2 : Int32)), .unset, .unset]) rfl kq) ?_
          show Go p e below s _ _ _ T0 (mkF m 147 #[.val (.long x0), .second, .val (.long x1), .second, .val (.long x2), .second, .val (.long x3), .second, .val (.int x4), .val (.long v0), .second, .val (.long v1), .second, .val (.long v2), .second, .val (.long v3), .second, .val (.int (1 : Int32)), .val (.int (2 : Int32)), .val (.int (2 : Int32)), .val (.int (2 : Int32)), .unset, .unset] [])
          exact blk147 l Z a0 hw ct0 x0 x1 x2 x3 x4 v0 v1 v2 v3 (2 : Int32) (2 : Int32) (2 : Int32) (by first | (simp [hc81, hc93, hc97, hc98]; done) | (simp [hc81, hc93, hc97, hc98]; decide)) (by first | (simp [hc81, hc93, hc97, hc98]; done) | (simp [hc81, hc93, hc97, hc98]; decide)) (by first | (simp [hc81, hc93, hc97, hc98]; done) | (simp [hc81, hc93, hc97, hc98]; decide)) X0 e0 n0 Z0 N0
        · refine go_st (fun _ kq => XS.ifNo X0.here hx rfl (hb hby at_120) rfl (XT.ll_eq_f hc98) kq) ?_
          show Go p e below s _ _ _ T0 (mkF m 123 #[.val (.long x0), .second, .val (.long x1), .second, .val (.long x2), .second, .val (.long x3), .second, .val (.int x4), .val (.long v0), .second, .val (.long v1), .second, .val (.long v2), .second, .val (.long v3), .second, .val (.int (1 : Int32)), .val (.int (2 : Int32)), .val (.int (2 : Int32)), .unset, .unset, .unset] [(.int (2 : Int32))])
          refine go_st (fun _ kq => XT.lload X0.here hx rfl (hb hby at_123) rfl kq) ?_
          show Go p e below s _ _ _ T0 (mkF m 125 #[.val (.long x0), .second, .val (.long x1), .second, .val (.long x2), .second, .val (.long x3), .second, .val (.int x4), .val (.long v0), .second, .val (.long v1), .second, .val (.long v2), .second, .val (.long v3), .second, .val (.int (1 : Int32)), .val (.int (2 : Int32)), .val (.int (2 : Int32)), .unset, .unset, .unset] [(.long v3), (.int (2 : Int32))])
          refine go_st (fun _ kq => XT.lload X0.here hx rfl (hb hby at_125) rfl kq) ?_
          show Go p e below s _ _ _ T0 (mkF m 127 #[.val (.long x0), .second, .val (.long x1), .second, .val (.long x2), .second, .val (.long x3), .second, .val (.int x4), .val (.long v0), .second, .val (.long v1), .second, .val (.long v2), .second, .val (.long v3), .second, .val (.int (1 : Int32)), .val (.int (2 : Int32)), .val (.int (2 : Int32)), .unset, .unset, .unset] [(.long v1), (.long v3), (.int (2 : Int32))])
          refine go_st (fun _ kq => XT.lcmp X0.here hx rfl (hb hby at_127) rfl kq) ?_
          show Go p e below s _ _ _ T0 (mkF m 128 #[.val (.long x0), .second, .val (.long x1), .second, .val (.long x2), .second, .val (.long x3), .second, .val (.int x4), .val (.long v0), .second, .val (.long v1), .second, .val (.long v2), .second, .val (.long v3), .second, .val (.int (1 : Int32)), .val (.int (2 : Int32)), .val (.int (2 : Int32)), .unset, .unset, .unset] [(.int (XT.cmpL v3 v1)), (.int (2 : Int32))])
          by_cases hc99 : v3 = v1
          · refine go_st (fun _ kq => XS.ifYes X0.here hx rfl (pc0 := 128) (pc' := 143) rfl (hb hby at_128) rfl (XT.ll_eq_t hc99) (by decide) (by decide) kq) ?_
            show Go p e below s _ _ _ T0 (mkF m 143 #[.val (.long x0), .second, .val (.long x1), .second, .val (.long x2), .second, .val (.long x3), .second, .val (.int x4), .val (.long v0), .second, .val (.long v1), .second, .val (.long v2), .second, .val (.long v3), .second, .val (.int (1 : Int32)), .val (.int (2 : Int32)), .val (.int (2 : Int32)), .unset, .unset, .unset] [(.int (2 : Int32))])
            refine go_st (fun _ kq => XT.iconstV X0.here hx rfl (0 : Int32) (hb hby at_143) (by decide) kq) ?_
            show Go p e below s _ _ _ T0 (mkF m 144 #[.val (.long x0), .second, .val (.long x1), .second, .val (.long x2), .second, .val (.long x3), .second, .val (.int x4), .val (.long v0), .second, .val (.long v1), .second, .val (.long v2), .second, .val (.long v3), .second, .val (.int (1 : Int32)), .val (.int (2 : Int32)), .val (.int (2 : Int32)), .unset, .unset, .unset] [(.int (0 : Int32)), (.int (2 : Int32))])
            refine go_st (fun _ kq => XS.iadd X0.here hx rfl (hb hby at_144) rfl kq) ?_
            rw [show ((2 : Int32) + (0 : Int32)) = (2 : Int32) from by decide +kernel]
            show Go p e below s _ _ _ T0 (mkF m 145 #[.val (.long x0), .second, .val (.long x1), .second, .val (.long x2), .second, .val (.long x3), .second, .val (.int x4), .val (.long v0), .second, .val (.long v1), .second, .val (.long v2), .second, .val (.long v3), .second, .val (.int (1 : Int32)), .val (.int (2 : Int32)), .val (.int (2 : Int32)), .unset, .unset, .unset] [(.int (2 : Int32))])
            refine go_st (fun _ kq => XS.istore X0.here hx rfl (hb hby at_145) rfl (l' := #[.val (.long x0), .second, .val (.long x1), .second, .val (.long x2), .second, .val (.long x3), .second, .val (.int x4), .val (.long v0), .second, .val (.long v1), .second, .val (.long v2), .second, .val (.long v3), .second, .val (.int (1 : Int32)), .val (.int (2 : Int32)), .val (.int (2 : Int32)), .val (.int (2 : Int32)), .unset, .unset]) rfl kq) ?_
            show Go p e below s _ _ _ T0 (mkF m 147 #[.val (.long x0), .second, .val (.long x1), .second, .val (.long x2), .second, .val (.long x3), .second, .val (.int x4), .val (.long v0), .second, .val (.long v1), .second, .val (.long v2), .second, .val (.long v3), .second, .val (.int (1 : Int32)), .val (.int (2 : Int32)), .val (.int (2 : Int32)), .val (.int (2 : Int32)), .unset, .unset] [])
            exact blk147 l Z a0 hw ct0 x0 x1 x2 x3 x4 v0 v1 v2 v3 (2 : Int32) (2 : Int32) (2 : Int32) (by first | (simp [hc81, hc93, hc97, hc98, hc99]; done) | (simp [hc81, hc93, hc97, hc98, hc99]; decide)) (by first | (simp [hc81, hc93, hc97, hc98, hc99]; done) | (simp [hc81, hc93, hc97, hc98, hc99]; decide)) (by first | (simp [hc81, hc93, hc97, hc98, hc99]; done) | (simp [hc81, hc93, hc97, hc98, hc99]; decide)) X0 e0 n0 Z0 N0
          · refine go_st (fun _ kq => XS.ifNo X0.here hx rfl (hb hby at_128) rfl (XT.ll_eq_f hc99) kq) ?_
            show Go p e below s _ _ _ T0 (mkF m 131 #[.val (.long x0), .second, .val (.long x1), .second, .val (.long x2), .second, .val (.long x3), .second, .val (.int x4), .val (.long v0), .second, .val (.long v1), .second, .val (.long v2), .second, .val (.long v3), .second, .val (.int (1 : Int32)), .val (.int (2 : Int32)), .val (.int (2 : Int32)), .unset, .unset, .unset] [(.int (2 : Int32))])
            refine go_st (fun _ kq => XT.lload X0.here hx rfl (hb hby at_131) rfl kq) ?_
            show Go p e below s _ _ _ T0 (mkF m 133 #[.val (.long x0), .second, .val (.long x1), .second, .val (.long x2), .second, .val (.long x3), .second, .val (.int x4), .val (.long v0), .second, .val (.long v1), .second, .val (.long v2), .second, .val (.long v3), .second, .val (.int (1 : Int32)), .val (.int (2 : Int32)), .val (.int (2 : Int32)), .unset, .unset, .unset] [(.long v3), (.int (2 : Int32))])
            refine go_st (fun _ kq => XT.lload X0.here hx rfl (hb hby at_133) rfl kq) ?_
            show Go p e below s _ _ _ T0 (mkF m 135 #[.val (.long x0), .second, .val (.long x1), .second, .val (.long x2), .second, .val (.long x3), .second, .val (.int x4), .val (.long v0), .second, .val (.long v1), .second, .val (.long v2), .second, .val (.long v3), .second, .val (.int (1 : Int32)), .val (.int (2 : Int32)), .val (.int (2 : Int32)), .unset, .unset, .unset] [(.long v2), (.long v3), (.int (2 : Int32))])
            refine go_st (fun _ kq => XT.lcmp X0.here hx rfl (hb hby at_135) rfl kq) ?_
            show Go p e below s _ _ _ T0 (mkF m 136 #[.val (.long x0), .second, .val (.long x1), .second, .val (.long x2), .second, .val (.long x3), .second, .val (.int x4), .val (.long v0), .second, .val (.long v1), .second, .val (.long v2), .second, .val (.long v3), .second, .val (.int (1 : Int32)), .val (.int (2 : Int32)), .val (.int (2 : Int32)), .unset, .unset, .unset] [(.int (XT.cmpL v3 v2)), (.int (2 : Int32))])
            by_cases hc100 : v3 = v2
            · refine go_st (fun _ kq => XS.ifYes X0.here hx rfl (pc0 := 136) (pc' := 143) rfl (hb hby at_136) rfl (XT.ll_eq_t hc100) (by decide) (by decide) kq) ?_
              show Go p e below s _ _ _ T0 (mkF m 143 #[.val (.long x0), .second, .val (.long x1), .second, .val (.long x2), .second, .val (.long x3), .second, .val (.int x4), .val (.long v0), .second, .val (.long v1), .second, .val (.long v2), .second, .val (.long v3), .second, .val (.int (1 : Int32)), .val (.int (2 : Int32)), .val (.int (2 : Int32)), .unset, .unset, .unset] [(.int (2 : Int32))])
              refine go_st (fun _ kq => XT.iconstV X0.here hx rfl (0 : Int32) (hb hby at_143) (by decide) kq) ?_
              show Go p e below s _ _ _ T0 (mkF m 144 #[.val (.long x0), .second, .val (.long x1), .second, .val (.long x2), .second, .val (.long x3), .second, .val (.int x4), .val (.long v0), .second, .val (.long v1), .second, .val (.long v2), .second, .val (.long v3), .second, .val (.int (1 : Int32)), .val (.int (2 : Int32)), .val (.int (2 : Int32)), .unset, .unset, .unset] [(.int (0 : Int32)), (.int (2 : Int32))])
              refine go_st (fun _ kq => XS.iadd X0.here hx rfl (hb hby at_144) rfl kq) ?_
              rw [show ((2 : Int32) + (0 : Int32)) = (2 : Int32) from by decide +kernel]
              show Go p e below s _ _ _ T0 (mkF m 145 #[.val (.long x0), .second, .val (.long x1), .second, .val (.long x2), .second, .val (.long x3), .second, .val (.int x4), .val (.long v0), .second, .val (.long v1), .second, .val (.long v2), .second, .val (.long v3), .second, .val (.int (1 : Int32)), .val (.int (2 : Int32)), .val (.int (2 : Int32)), .unset, .unset, .unset] [(.int (2 : Int32))])
              refine go_st (fun _ kq => XS.istore X0.here hx rfl (hb hby at_145) rfl (l' := #[.val (.long x0), .second, .val (.long x1), .second, .val (.long x2), .second, .val (.long x3), .second, .val (.int x4), .val (.long v0), .second, .val (.long v1), .second, .val (.long v2), .second, .val (.long v3), .second, .val (.int (1 : Int32)), .val (.int (2 : Int32)), .val (.int (2 : Int32)), .val (.int (2 : Int32)), .unset, .unset]) rfl kq) ?_
              show Go p e below s _ _ _ T0 (mkF m 147 #[.val (.long x0), .second, .val (.long x1), .second, .val (.long x2), .second, .val (.long x3), .second, .val (.int x4), .val (.long v0), .second, .val (.long v1), .second, .val (.long v2), .second, .val (.long v3), .second, .val (.int (1 : Int32)), .val (.int (2 : Int32)), .val (.int (2 : Int32)), .val (.int (2 : Int32)), .unset, .unset] [])
              exact blk147 l Z a0 hw ct0 x0 x1 x2 x3 x4 v0 v1 v2 v3 (2 : Int32) (2 : Int32) (2 : Int32) (by first | (simp [hc81, hc93, hc97, hc98, hc99, hc100]; done) | (simp [hc81, hc93, hc97, hc98, hc99, hc100]; decide)) (by first | (simp [hc81, hc93, hc97, hc98, hc99, hc100]; done) | (simp [hc81, hc93, hc97, hc98, hc99, hc100]; decide)) (by first | (simp [hc81, hc93, hc97, hc98, hc99, hc100]; done) | (simp [hc81, hc93, hc97, hc98, hc99, hc100]; decide)) X0 e0 n0 Z0 N0
            · refine go_st (fun _ kq => XS.ifNo X0.here hx rfl (hb hby at_136) rfl (XT.ll_eq_f hc100) kq) ?_
              show Go p e below s _ _ _ T0 (mkF m 139 #[.val (.long x0), .second, .val (.long x1), .second, .val (.long x2), .second, .val (.long x3), .second, .val (.int x4), .val (.long v0), .second, .val (.long v1), .second, .val (.long v2), .second, .val (.long v3), .second, .val (.int (1 : Int32)), .val (.int (2 : Int32)), .val (.int (2 : Int32)), .unset, .unset, .unset] [(.int (2 : Int32))])
              refine go_st (fun _ kq => XT.iconstV X0.here hx rfl (1 : Int32) (hb hby at_139) (by decide) kq) ?_
              show Go p e below s _ _ _ T0 (mkF m 140 #[.val (.long x0), .second, .val (.long x1), .second, .val (.long x2), .second, .val (.long x3), .second, .val (.int x4), .val (.long v0), .second, .val (.long v1), .second, .val (.long v2), .second, .val (.long v3), .second, .val (.int (1 : Int32)), .val (.int (2 : Int32)), .val (.int (2 : Int32)), .unset, .unset, .unset] [(.int (1 : Int32)), (.int (2 : Int32))])
              refine go_st (fun _ kq => XS.goto X0.here hx rfl (pc0 := 140) (pc' := 144) rfl (hb hby at_140) (by decide) (by decide) kq) ?_
              show Go p e below s _ _ _ T0 (mkF m 144 #[.val (.long x0), .second, .val (.long x1), .second, .val (.long x2), .second, .val (.long x3), .second, .val (.int x4), .val (.long v0), .second, .val (.long v1), .second, .val (.long v2), .second, .val (.long v3), .second, .val (.int (1 : Int32)), .val (.int (2 : Int32)), .val (.int (2 : Int32)), .unset, .unset, .unset] [(.int (1 : Int32)), (.int (2 : Int32))])
              refine go_st (fun _ kq => XS.iadd X0.here hx rfl (hb hby at_144) rfl kq) ?_
              rw [show ((2 : Int32) + (1 : Int32)) = (3 : Int32) from by decide +kernel]
              show Go p e below s _ _ _ T0 (mkF m 145 #[.val (.long x0), .second, .val (.long x1), .second, .val (.long x2), .second, .val (.long x3), .second, .val (.int x4), .val (.long v0), .second, .val (.long v1), .second, .val (.long v2), .second, .val (.long v3), .second, .val (.int (1 : Int32)), .val (.int (2 : Int32)), .val (.int (2 : Int32)), .unset, .unset, .unset] [(.int (3 : Int32))])
              refine go_st (fun _ kq => XS.istore X0.here hx rfl (hb hby at_145) rfl (l' := #[.val (.long x0), .second, .val (.long x1), .second, .val (.long x2), .second, .val (.long x3), .second, .val (.int x4), .val (.long v0), .second, .val (.long v1), .second, .val (.long v2), .second, .val (.long v3), .second, .val (.int (1 : Int32)), .val (.int (2 : Int32)), .val (.int (2 : Int32)), .val (.int (3 : Int32)), .unset, .unset]) rfl kq) ?_
              show Go p e below s _ _ _ T0 (mkF m 147 #[.val (.long x0), .second, .val (.long x1), .second, .val (.long x2), .second, .val (.long x3), .second, .val (.int x4), .val (.long v0), .second, .val (.long v1), .second, .val (.long v2), .second, .val (.long v3), .second, .val (.int (1 : Int32)), .val (.int (2 : Int32)), .val (.int (2 : Int32)), .val (.int (3 : Int32)), .unset, .unset] [])
              exact blk147 l Z a0 hw ct0 x0 x1 x2 x3 x4 v0 v1 v2 v3 (2 : Int32) (2 : Int32) (3 : Int32) (by first | (simp [hc81, hc93, hc97, hc98, hc99, hc100]; done) | (simp [hc81, hc93, hc97, hc98, hc99, hc100]; decide)) (by first | (simp [hc81, hc93, hc97, hc98, hc99, hc100]; done) | (simp [hc81, hc93, hc97, hc98, hc99, hc100]; decide)) (by first | (simp [hc81, hc93, hc97, hc98, hc99, hc100]; done) | (simp [hc81, hc93, hc97, hc98, hc99, hc100]; decide)) X0 e0 n0 Z0 N0
      · refine go_st (fun _ kq => XS.ifNo X0.here hx rfl (hb hby at_102) rfl (XT.ll_eq_f hc97) kq) ?_
        show Go p e below s _ _ _ T0 (mkF m 105 #[.val (.long x0), .second, .val (.long x1), .second, .val (.long x2), .second, .val (.long x3), .second, .val (.int x4), .val (.long v0), .second, .val (.long v1), .second, .val (.long v2), .second, .val (.long v3), .second, .val (.int (1 : Int32)), .val (.int (2 : Int32)), .unset, .unset, .unset, .unset] [(.int (2 : Int32))])
        refine go_st (fun _ kq => XT.iconstV X0.here hx rfl (1 : Int32) (hb hby at_105) (by decide) kq) ?_
        show Go p e below s _ _ _ T0 (mkF m 106 #[.val (.long x0), .second, .val (.long x1), .second, .val (.long x2), .second, .val (.long x3), .second, .val (.int x4), .val (.long v0), .second, .val (.long v1), .second, .val (.long v2), .second, .val (.long v3), .second, .val (.int (1 : Int32)), .val (.int (2 : Int32)), .unset, .unset, .unset, .unset] [(.int (1 : Int32)), (.int (2 : Int32))])
        refine go_st (fun _ kq => XS.goto X0.here hx rfl (pc0 := 106) (pc' := 110) rfl (hb hby at_106) (by decide) (by decide) kq) ?_
        show Go p e below s _ _ _ T0 (mkF m 110 #[.val (.long x0), .second, .val (.long x1), .second, .val (.long x2), .second, .val (.long x3), .second, .val (.int x4), .val (.long v0), .second, .val (.long v1), .second, .val (.long v2), .second, .val (.long v3), .second, .val (.int (1 : Int32)), .val (.int (2 : Int32)), .unset, .unset, .unset, .unset] [(.int (1 : Int32)), (.int (2 : Int32))])
        refine go_st (fun _ kq => XS.iadd X0.here hx rfl (hb hby at_110) rfl kq) ?_
        rw [show ((2 : Int32) + (1 : Int32)) = (3 : Int32) from by decide +kernel]
        show Go p e below s _ _ _ T0 (mkF m 111 #[.val (.long x0), .second, .val (.long x1), .second, .val (.long x2), .second, .val (.long x3), .second, .val (.int x4), .val (.long v0), .second, .val (.long v1), .second, .val (.long v2), .second, .val (.long v3), .second, .val (.int (1 : Int32)), .val (.int (2 : Int32)), .unset, .unset, .unset, .unset] [(.int (3 : Int32))])
        refine go_st (fun _ kq => XS.istore X0.here hx rfl (hb hby at_111) rfl (l' := #[.val (.long x0), .second, .val (.long x1), .second, .val (.long x2), .second, .val (.long x3), .second, .val (.int x4), .val (.long v0), .second, .val (.long v1), .second, .val (.long v2), .second, .val (.long v3), .second, .val (.int (1 : Int32)), .val (.int (2 : Int32)), .val (.int (3 : Int32)), .unset, .unset, .unset]) rfl kq) ?_
        show Go p e below s _ _ _ T0 (mkF m 113 #[.val (.long x0), .second, .val (.long x1), .second, .val (.long x2), .second, .val (.long x3), .second, .val (.int x4), .val (.long v0), .second, .val (.long v1), .second, .val (.long v2), .second, .val (.long v3), .second, .val (.int (1 : Int32)), .val (.int (2 : Int32)), .val (.int (3 : Int32)), .unset, .unset, .unset] [])
        refine go_st (fun _ kq => XS.iload X0.here hx rfl (hb hby at_113) rfl kq) ?_
        show Go p e below s _ _ _ T0 (mkF m 115 #[.val (.long x0), .second, .val (.long x1), .second, .val (.long x2), .second, .val (.long x3), .second, .val (.int x4), .val (.long v0), .second, .val (.long v1), .second, .val (.long v2), .second, .val (.long v3), .second, .val (.int (1 : Int32)), .val (.int (2 : Int32)), .val (.int (3 : Int32)), .unset, .unset, .unset] [(.int (3 : Int32))])
        refine go_st (fun _ kq => XT.lload X0.here hx rfl (hb hby at_115) rfl kq) ?_
        show Go p e below s _ _ _ T0 (mkF m 117 #[.val (.long x0), .second, .val (.long x1), .second, .val (.long x2), .second, .val (.long x3), .second, .val (.int x4), .val (.long v0), .second, .val (.long v1), .second, .val (.long v2), .second, .val (.long v3), .second, .val (.int (1 : Int32)), .val (.int (2 : Int32)), .val (.int (3 : Int32)), .unset, .unset, .unset] [(.long v3), (.int (3 : Int32))])
        refine go_st (fun _ kq => XT.lload X0.here hx rfl (hb hby at_117) rfl kq) ?_
        show Go p e below s _ _ _ T0 (mkF m 119 #[.val (.long x0), .second, .val (.long x1), .second, .val (.long x2), .second, .val (.long x3), .second, .val (.int x4), .val (.long v0), .second, .val (.long v1), .second, .val (.long v2), .second, .val (.long v3), .second, .val (.int (1 : Int32)), .val (.int (2 : Int32)), .val (.int (3 : Int32)), .unset, .unset, .unset] [(.long v0), (.long v3), (.int (3 : Int32))])
        refine go_st (fun _ kq => XT.lcmp X0.here hx rfl (hb hby at_119) rfl kq) ?_
        show Go p e below s _ _ _ T0 (mkF m 120 #[.val (.long x0), .second, .val (.long x1), .second, .val (.long x2), .second, .val (.long x3), .second, .val (.int x4), .val (.long v0), .second, .val (.long v1), .second, .val (.long v2), .second, .val (.long v3), .second, .val (.int (1 : Int32)), .val (.int (2 : Int32)), .val (.int (3 : Int32)), .unset, .unset, .unset] [(.int (XT.cmpL v3 v0)), (.int (3 : Int32))])
        by_cases hc101 : v3 = v0
        · refine go_st (fun _ kq => XS.ifYes X0.here hx rfl (pc0 := 120) (pc' := 143) rfl (hb hby at_120) rfl (XT.ll_eq_t hc101) (by decide) (by decide) kq) ?_
          show Go p e below s _ _ _ T0 (mkF m 143 #[.val (.long x0), .second, .val (.long x1), .second, .val (.long x2), .second, .val (.long x3), .second, .val (.int x4), .val (.long v0), .second, .val (.long v1), .second, .val (.long v2), .second, .val (.long v3), .second, .val (.int (1 : Int32)), .val (.int (2 : Int32)), .val (.int (3 : Int32)), .unset, .unset, .unset] [(.int (3 : Int32))])
          refine go_st (fun _ kq => XT.iconstV X0.here hx rfl (0 : Int32) (hb hby at_143) (by decide) kq) ?_
          show Go p e below s _ _ _ T0 (mkF m 144 #[.val (.long x0), .second, .val (.long x1), .second, .val (.long x2), .second, .val (.long x3), .second, .val (.int x4), .val (.long v0), .second, .val (.long v1), .second, .val (.long v2), .second, .val (.long v3), .second, .val (.int (1 : Int32)), .val (.int (2 : Int32)), .val (.int (3 : Int32)), .unset, .unset, .unset] [(.int (0 : Int32)), (.int (3 : Int32))])
          refine go_st (fun _ kq => XS.iadd X0.here hx rfl (hb hby at_144) rfl kq) ?_
          rw [show ((3 : Int32) + (0 : Int32)) = (3 : Int32) from by decide +kernel]
          show Go p e below s _ _ _ T0 (mkF m 145 #[.val (.long x0), .second, .val (.long x1), .second, .val (.long x2), .second, .val (.long x3), .second, .val (.int x4), .val (.long v0), .second, .val (.long v1), .second, .val (.long v2), .second, .val (.long v3), .second, .val (.int (1 : Int32)), .val (.int (2 : Int32)), .val (.int (3 : Int32)), .unset, .unset, .unset] [(.int (3 : Int32))])
          refine go_st (fun _ kq => XS.istore X0.here hx rfl (hb hby at_145) rfl (l' := #[.val (.long x0), .second, .val (.long x1), .second, .val (.long x2), .second, .val (.long x3), .second, .val (.int x4), .val (.long v0), .second, .val (.long v1), .second, .val (.long v2), .second, .val (.long v3), .second, .val (.int (1 : Int32)), .val (.int (2 : Int32)), .val (.int (3 : Int32)), .val (.int (3 : Int32)), .unset, .unset]) rfl kq) ?_
          show Go p e below s _ _ _ T0 (mkF m 147 #[.val (.long x0), .second, .val (.long x1), .second, .val (.long x2), .second, .val (.long x3), .second, .val (.int x4), .val (.long v0), .second, .val (.long v1), .second, .val (.long v2), .second, .val (.long v3), .second, .val (.int (1 : Int32)), .val (.int (2 : Int32)), .val (.int (3 : Int32)), .val (.int (3 : Int32)), .unset, .unset] [])
          exact blk147 l Z a0 hw ct0 x0 x1 x2 x3 x4 v0 v1 v2 v3 (2 : Int32) (3 : Int32) (3 : Int32) (by first | (simp [hc81, hc93, hc97, hc101]; done) | (simp [hc81, hc93, hc97, hc101]; decide)) (by first | (simp [hc81, hc93, hc97, hc101]; done) | (simp [hc81, hc93, hc97, hc101]; decide)) (by first | (simp [hc81, hc93, hc97, hc101]; done) | (simp [hc81, hc93, hc97, hc101]; decide)) X0 e0 n0 Z0 N0
        · refine go_st (fun _ kq => XS.ifNo X0.here hx rfl (hb hby at_120) rfl (XT.ll_eq_f hc101) kq) ?_
          show Go p e below s _ _ _ T0 (mkF m 123 #[.val (.long x0), .second, .val (.long x1), .second, .val (.long x2), .second, .val (.long x3), .second, .val (.int x4), .val (.long v0), .second, .val (.long v1), .second, .val (.long v2), .second, .val (.long v3), .second, .val (.int (1 : Int32)), .val (.int (2 : Int32)), .val (.int (3 : Int32)), .unset, .unset, .unset] [(.int (3 : Int32))])
          refine go_st (fun _ kq => XT.lload X0.here hx rfl (hb hby at_123) rfl kq) ?_
          show Go p e below s _ _ _ T0 (mkF m 125 #[.val (.long x0), .second, .val (.long x1), .second, .val (.long x2), .second, .val (.long x3), .second, .val (.int x4), .val (.long v0), .second, .val (.long v1), .second, .val (.long v2), .second, .val (.long v3), .second, .val (.int (1 : Int32)), .val (.int (2 : Int32)), .val (.int (3 : Int32)), .unset, .unset, .unset] [(.long v3), (.int (3 : Int32))])
          refine go_st (fun _ kq => XT.lload X0.here hx rfl (hb hby at_125) rfl kq) ?_
          show Go p e below s _ _ _ T0 (mkF m 127 #[.val (.long x0), .second, .val (.long x1), .second, .val (.long x2), .second, .val (.long x3), .second, .val (.int x4), .val (.long v0), .second, .val (.long v1), .second, .val (.long v2), .second, .val (.long v3), .second, .val (.int (1 : Int32)), .val (.int (2 : Int32)), .val (.int (3 : Int32)), .unset, .unset, .unset] [(.long v1), (.long v3), (.int (3 : Int32))])
          refine go_st (fun _ kq => XT.lcmp X0.here hx rfl (hb hby at_127) rfl kq) ?_
          show Go p e below s _ _ _ T0 (mkF m 128 #[.val (.long x0), .second, .val (.long x1), .second, .val (.long x2), .second, .val (.long x3), .second, .val (.int x4), .val (.long v0), .second, .val (.long v1), .second, .val (.long v2), .second, .val (.long v3), .second, .val (.int (1 : Int32)), .val (.int (2 : Int32)), .val (.int (3 : Int32)), .unset, .unset, .unset] [(.int (XT.cmpL v3 v1)), (.int (3 : Int32))])
          by_cases hc102 : v3 = v1
          · refine go_st (fun _ kq => XS.ifYes X0.here hx rfl (pc0 := 128) (pc' := 143) rfl (hb hby at_128) rfl (XT.ll_eq_t hc102) (by decide) (by decide) kq) ?_
            show Go p e below s _ _ _ T0 (mkF m 143 #[.val (.long x0), .second, .val (.long x1), .second, .val (.long x2), .second, .val (.long x3), .second, .val (.int x4), .val (.long v0), .second, .val (.long v1), .second, .val (.long v2), .second, .val (.long v3), .second, .val (.int (1 : Int32)), .val (.int (2 : Int32)), .val (.int (3 : Int32)), .unset, .unset, .unset] [(.int (3 : Int32))])
            refine go_st (fun _ kq => XT.iconstV X0.here hx rfl (0 : Int32) (hb hby at_143) (by decide) kq) ?_
            show Go p e below s _ _ _ T0 (mkF m 144 #[.val (.long x0), .second, .val (.long x1), .second, .val (.long x2), .second, .val (.long x3), .second, .val (.int x4), .val (.long v0), .second, .val (.long v1), .second, .val (.long v2), .second, .val (.long v3), .second, .val (.int (1 : Int32)), .val (.int (2 : Int32)), .val (.int (3 : Int32)), .unset, .unset, .unset] [(.int (0 : Int32)), (.int (3 : Int32))])
            refine go_st (fun _ kq => XS.iadd X0.here hx rfl (hb hby at_144) rfl kq) ?_
            rw [show ((3 : Int32) + (0 : Int32)) = (3 : Int32) from by decide +kernel]
            show Go p e below s _ _ _ T0 (mkF m 145 #[.val (.long x0), .second, .val (.long x1), .second, .val (.long x2), .second, .val (.long x3), .second, .val (.int x4), .val (.long v0), .second, .val (.long v1), .second, .val (.long v2), .second, .val (.long v3), .second, .val (.int (1 : Int32)), .val (.int (2 : Int32)), .val (.int (3 : Int32)), .unset, .unset, .unset] [(.int (3 : Int32))])
            refine go_st (fun _ kq => XS.istore X0.here hx rfl (hb hby at_145) rfl (l' := #[.val (.long x0), .second, .val (.long x1), .second, .val (.long x2), .second, .val (.long x3), .second, .val (.int x4), .val (.long v0), .second, .val (.long v1), .second, .val (.long v2), .second, .val (.long v3), .second, .val (.int (1 : Int32)), .val (.int (2 : Int32)), .val (.int (3 : Int32)), .val (.int (3 : Int32)), .unset, .unset]) rfl kq) ?_
            show Go p e below s _ _ _ T0 (mkF m 147 #[.val (.long x0), .second, .val (.long x1), .second, .val (.long x2), .second, .val (.long x3), .second, .val (.int x4), .val (.long v0), .second, .val (.long v1), .second, .val (.long v2), .second, .val (.long v3), .second, .val (.int (1 : Int32)), .val (.int (2 : Int32)), .val (.int (3 : Int32)), .val (.int (3 : Int32)), .unset, .unset] [])
            exact blk147 l Z a0 hw ct0 x0 x1 x2 x3 x4 v0 v1 v2 v3 (2 : Int32) (3 : Int32) (3 : Int32) (by first | (simp [hc81, hc93, hc97, hc101, hc102]; done) | (simp [hc81, hc93, hc97, hc101, hc102]; decide)) (by first | (simp [hc81, hc93, hc97, hc101, hc102]; done) | (simp [hc81, hc93, hc97, hc101, hc102]; decide)) (by first | (simp [hc81, hc93, hc97, hc101, hc102]; done) | (simp [hc81, hc93, hc97, hc101, hc102]; decide)) X0 e0 n0 Z0 N0
          · refine go_st (fun _ kq => XS.ifNo X0.here hx rfl (hb hby at_128) rfl (XT.ll_eq_f hc102) kq) ?_
            show Go p e below s _ _ _ T0 (mkF m 131 #[.val (.long x0), .second, .val (.long x1), .second, .val (.long x2), .second, .val (.long x3), .second, .val (.int x4), .val (.long v0), .second, .val (.long v1), .second, .val (.long v2), .second, .val (.long v3), .second, .val (.int (1 : Int32)), .val (.int (2 : Int32)), .val (.int (3 : Int32)), .unset, .unset, .unset] [(.int (3 : Int32))])
            refine go_st (fun _ kq => XT.lload X0.here hx rfl (hb hby at_131) rfl kq) ?_
            show Go p e below s _ _ _ T0 (mkF m 133 #[.val (.long x0), .second, .val (.long x1), .second, .val (.long x2), .second, .val (.long x3), .second, .val (.int x4), .val (.long v0), .second, .val (.long v1), .second, .val (.long v2), .second, .val (.long v3), .second, .val (.int (1 : Int32)), .val (.int (2 : Int32)), .val (.int (3 : Int32)), .unset, .unset, .unset] [(.long v3), (.int (3 : Int32))])
            refine go_st (fun _ kq => XT.lload X0.here hx rfl (hb hby at_133) rfl kq) ?_
            show Go p e below s _ _ _ T0 (mkF m 135 #[.val (.long x0), .second, .val (.long x1), .second, .val (.long x2), .second, .val (.long x3), .second, .val (.int x4), .val (.long v0), .second, .val (.long v1), .second, .val (.long v2), .second, .val (.long v3), .second, .val (.int (1 : Int32)), .val (.int (2 : Int32)), .val (.int (3 : Int32)), .unset, .unset, .unset] [(.long v2), (.long v3), (.int (3 : Int32))])
            refine go_st (fun _ kq => XT.lcmp X0.here hx rfl (hb hby at_135) rfl kq) ?_
            show Go p e below s _ _ _ T0 (mkF m 136 #[.val (.long x0), .second, .val (.long x1), .second, .val (.long x2), .second, .val (.long x3), .second, .val (.int x4), .val (.long v0), .second, .val (.long v1), .second, .val (.long v2), .second, .val (.long v3), .second, .val (.int (1 : Int32)), .val (.int (2 : Int32)), .val (.int (3 : Int32)), .unset, .unset, .unset] [(.int (XT.cmpL v3 v2)), (.int (3 : Int32))])
            by_cases hc103 : v3 = v2
            · refine go_st (fun _ kq => XS.ifYes X0.here hx rfl (pc0 := 136) (pc' := 143) rfl (hb hby at_136) rfl (XT.ll_eq_t hc103) (by decide) (by decide) kq) ?_
              show Go p e below s _ _ _ T0 (mkF m 143 #[.val (.long x0), .second, .val (.long x1), .second, .val (.long x2), .second, .val (.long x3), .second, .val (.int x4), .val (.long v0), .second, .val (.long v1), .second, .val (.long v2), .second, .val (.long v3), .second, .val (.int (1 : Int32)), .val (.int (2 : Int32)), .val (.int (3 : Int32)), .unset, .unset, .unset] [(.int (3 : Int32))])
              refine go_st (fun _ kq => XT.iconstV X0.here hx rfl (0 : Int32) (hb hby at_143) (by decide) kq) ?_
              show Go p e below s _ _ _ T0 (mkF m 144 #[.val (.long x0), .second, .val (.long x1), .second, .val (.long x2), .second, .val (.long x3), .second, .val (.int x4), .val (.long v0), .second, .val (.long v1), .second, .val (.long v2), .second, .val (.long v3), .second, .val (.int (1 : Int32)), .val (.int (2 : Int32)), .val (.int (3 : Int32)), .unset, .unset, .unset] [(.int (0 : Int32)), (.int (3 : Int32))])
              refine go_st (fun _ kq => XS.iadd X0.here hx rfl (hb hby at_144) rfl kq) ?_
              rw [show ((3 : Int32) + (0 : Int32)) = (3 : Int32) from by decide +kernel]
              show Go p e below s _ _ _ T0 (mkF m 145 #[.val (.long x0), .second, .val (.long x1), .second, .val (.long x2), .second, .val (.long x3), .second, .val (.int x4), .val (.long v0), .second, .val (.long v1), .second, .val (.long v2), .second, .val (.long v3), .second, .val (.int (1 : Int32)), .val (.int (2 : Int32)), .val (.int (3 : Int32)), .unset, .unset, .unset] [(.int (3 : Int32))])
              refine go_st (fun _ kq => XS.istore X0.here hx rfl (hb hby at_145) rfl (l' := #[.val (.long x0), .second, .val (.long x1), .second, .val (.long x2), .second, .val (.long x3), .second, .val (.int x4), .val (.long v0), .second, .val (.long v1), .second, .val (.long v2), .second, .val (.long v3), .second, .val (.int (1 : Int32)), .val (.int (2 : Int32)), .val (.int (3 : Int32)), .val (.int (3 : Int32)), .unset, .unset]) rfl kq) ?_
              show Go p e below s _ _ _ T0 (mkF m 147 #[.val (.long x0), .second, .val (.long x1), .second, .val (.long x2), .second, .val (.long x3), .second, .val (.int x4), .val (.long v0), .second, .val (.long v1), .second, .val (.long v2), .second, .val (.long v3), .second, .val (.int (1 : Int32)), .val (.int (2 : Int32)), .val (.int (3 : Int32)), .val (.int (3 : Int32)), .unset, .unset] [])
              exact blk147 l Z a0 hw ct0 x0 x1 x2 x3 x4 v0 v1 v2 v3 (2 : Int32) (3 : Int32) (3 : Int32) (by first | (simp [hc81, hc93, hc97, hc101, hc102, hc103]; done) | (simp [hc81, hc93, hc97, hc101, hc102, hc103]; decide)) (by first | (simp [hc81, hc93, hc97, hc101, hc102, hc103]; done) | (simp [hc81, hc93, hc97, hc101, hc102, hc103]; decide)) (by first | (simp [hc81, hc93, hc97, hc101, hc102, hc103]; done) | (simp [hc81, hc93, hc97, hc101, hc102, hc103]; decide)) X0 e0 n0 Z0 N0
            · refine go_st (fun _ kq => XS.ifNo X0.here hx rfl (hb hby at_136) rfl (XT.ll_eq_f hc103) kq) ?_
              show Go p e below s _ _ _ T0 (mkF m 139 #[.val (.long x0), .second, .val (.long x1), .second, .val (.long x2), .second, .val (.long x3), .second, .val (.int x4), .val (.long v0), .second, .val (.long v1), .second, .val (.long v2), .second, .val (.long v3), .second, .val (.int (1 : Int32)), .val (.int (2 : Int32)), .val (.int (3 : Int32)), .unset, .unset, .unset] [(.int (3 : Int32))])
              refine go_st (fun _ kq => XT.iconstV X0.here hx rfl (1 : Int32) (hb hby at_139) (by decide) kq) ?_
              show Go p e below s _ _ _ T0 (mkF m 140 #[.val (.long x0), .second, .val (.long x1), .second, .val (.long x2), .second, .val (.long x3), .second, .val (.int x4), .val (.long v0), .second, .val (.long v1), .second, .val (.long v2), .second, .val (.long v3), .second, .val (.int (1 : Int32)), .val (.int (2 : Int32)), .val (.int (3 : Int32)), .unset, .unset, .unset] [(.int (1 : Int32)), (.int (3 : Int32))])
              refine go_st (fun _ kq => XS.goto X0.here hx rfl (pc0 := 140) (pc' := 144) rfl (hb hby at_140) (by decide) (by decide) kq) ?_
              show Go p e below s _ _ _ T0 (mkF m 144 #[.val (.long x0), .second, .val (.long x1), .second, .val (.long x2), .second, .val (.long x3), .second, .val (.int x4), .val (.long v0), .second, .val (.long v1), .second, .val (.long v2), .second, .val (.long v3), .second, .val (.int (1 : Int32)), .val (.int (2 : Int32)), .val (.int (3 : Int32)), .unset, .unset, .unset] [(.int (1 : Int32)), (.int (3 : Int32))])
              refine go_st (fun _ kq => XS.iadd X0.here hx rfl (hb hby at_144) rfl kq) ?_
              rw [show ((3 : Int32) + (1 : Int32)) = (4 : Int32) from by decide +kernel]
              show Go p e below s _ _ _ T0 (mkF m 145 #[.val (.long x0), .second, .val (.long x1), .second, .val (.long x2), .second, .val (.long x3), .second, .val (.int x4), .val (.long v0), .second, .val (.long v1), .second, .val (.long v2), .second, .val (.long v3), .second, .val (.int (1 : Int32)), .val (.int (2 : Int32)), .val (.int (3 : Int32)), .unset, .unset, .unset] [(.int (4 : Int32))])
              refine go_st (fun _ kq => XS.istore X0.here hx rfl (hb hby at_145) rfl (l' := #[.val (.long x0), .second, .val (.long x1), .second, .val (.long x2), .second, .val (.long x3), .second, .val (.int x4), .val (.long v0), .second, .val (.long v1), .second, .val (.long v2), .second, .val (.long v3), .second, .val (.int (1 : Int32)), .val (.int (2 : Int32)), .val (.int (3 : Int32)), .val (.int (4 : Int32)), .unset, .unset]) rfl kq) ?_
              show Go p e below s _ _ _ T0 (mkF m 147 #[.val (.long x0), .second, .val (.long x1), .second, .val (.long x2), .second, .val (.long x3), .second, .val (.int x4), .val (.long v0), .second, .val (.long v1), .second, .val (.long v2), .second, .val (.long v3), .second, .val (.int (1 : Int32)), .val (.int (2 : Int32)), .val (.int (3 : Int32)), .val (.int (4 : Int32)), .unset, .unset] [])
              exact blk147 l Z a0 hw ct0 x0 x1 x2 x3 x4 v0 v1 v2 v3 (2 : Int32) (3 : Int32) (4 : Int32) (by first | (simp [hc81, hc93, hc97, hc101, hc102, hc103]; done) | (simp [hc81, hc93, hc97, hc101, hc102, hc103]; decide)) (by first | (simp [hc81, hc93, hc97, hc101, hc102, hc103]; done) | (simp [hc81, hc93, hc97, hc101, hc102, hc103]; decide)) (by first | (simp [hc81, hc93, hc97, hc101, hc102, hc103]; done) | (simp [hc81, hc93, hc97, hc101, hc102, hc103]; decide)) X0 e0 n0 Z0 N0
theorem pn5 : plainFor x = true := by first | (refine plainFor_of_name ?_; simp [plainName, overriddenIn]; done) | (refine plainFor_of_name ?_; decide +kernel) | decide +kernel
theorem pd4 : parseMethodDescriptor "(IJJJJ)J" = some ⟨[.int, .long, .long, .long, .long], (some .long)⟩ := by decide +kernel
theorem ef_law (m : MethodId) (x0 : Int64) (x1 : Int64) (x2 : Int64) (x3 : Int64) (x4 : Int32) : entryFrame m #[(.long x0), (.long x1), (.long x2), (.long x3), (.int x4)] maxLocals = mkF m 0 #[.val (.long x0), .second, .val (.long x1), .second, .val (.long x2), .second, .val (.long x3), .second, .val (.int x4), .unset, .unset, .unset, .unset, .unset, .unset, .unset, .unset, .unset, .unset, .unset, .unset, .unset, .unset] [] := by first | (simp [entryFrame, mkF, argsToLocals, Value.category, maxLocals]; done) | rfl
set_option maxRecDepth 65536 in
set_option maxHeartbeats 4000000 in
theorem met_law (l : Launch) (Z : State) (a0 : Array Value) (hw : ∀ d ∈ tables_1, d.before a0 Z = true) (x0 : Int64) (x1 : Int64) (x2 : Int64) (x3 : Int64) (x4 : Int32) (h0 : Heap) (n0 : Nat) (Z0 : n0 ≤ h0.size) :
    Met l x code maxLocals ret tables_1 room_1 Z #[(.long x0), (.long x1), (.long x2), (.long x3), (.int x4)] h0 (QF (some (.int (1 : Int32))) n0) 16 128 := by
  refine own_body pn5 ?_
  intro p e s m below meth c s₁ ct X0 e0
  have ct0 := ct
  obtain ⟨hx, hZ, hown, hby, hml, hret, hlk, hnm⟩ := ct
  have N0 := Fr.nil n0
  refine castGo (ef_law m x0 x1 x2 x3 x4) ?_
  show Go p e below s _ _ _ s₁ (mkF m 0 #[.val (.long x0), .second, .val (.long x1), .second, .val (.long x2), .second, .val (.long x3), .second, .val (.int x4), .unset, .unset, .unset, .unset, .unset, .unset, .unset, .unset, .unset, .unset, .unset, .unset, .unset, .unset] [])
  refine go_st (fun _ kq => XS.iload X0.here hx rfl (hb hby at_0) rfl kq) ?_
  show Go p e below s _ _ _ s₁ (mkF m 2 #[.val (.long x0), .second, .val (.long x1), .second, .val (.long x2), .second, .val (.long x3), .second, .val (.int x4), .unset, .unset, .unset, .unset, .unset, .unset, .unset, .unset, .unset, .unset, .unset, .unset, .unset, .unset] [(.int x4)])
  refine go_st (fun _ kq => XT.iconstV X0.here hx rfl (1 : Int32) (hb hby at_2) (by decide) kq) ?_
  show Go p e below s _ _ _ s₁ (mkF m 3 #[.val (.long x0), .second, .val (.long x1), .second, .val (.long x2), .second, .val (.long x3), .second, .val (.int x4), .unset, .unset, .unset, .unset, .unset, .unset, .unset, .unset, .unset, .unset, .unset, .unset, .unset, .unset] [(.int (1 : Int32)), (.int x4)])
  refine go_st (fun _ kq => XS.iand X0.here hx rfl (hb hby at_3) rfl kq) ?_
  show Go p e below s _ _ _ s₁ (mkF m 4 #[.val (.long x0), .second, .val (.long x1), .second, .val (.long x2), .second, .val (.long x3), .second, .val (.int x4), .unset, .unset, .unset, .unset, .unset, .unset, .unset, .unset, .unset, .unset, .unset, .unset, .unset, .unset] [(.int (x4 &&& (1 : Int32)))])
  by_cases hc104 : (x4 &&& (1 : Int32)) = (0 : Int32)
  · refine go_st (fun _ kq => XS.ifYes X0.here hx rfl (pc0 := 4) (pc' := 11) rfl (hb hby at_4) rfl (XT.i0_eq_t hc104) (by decide) (by decide) kq) ?_
    show Go p e below s _ _ _ s₁ (mkF m 11 #[.val (.long x0), .second, .val (.long x1), .second, .val (.long x2), .second, .val (.long x3), .second, .val (.int x4), .unset, .unset, .unset, .unset, .unset, .unset, .unset, .unset, .unset, .unset, .unset, .unset, .unset, .unset] [])
    refine go_st (fun _ kq => XT.lloadN X0.here hx rfl (hb hby at_11) rfl kq) ?_
    show Go p e below s _ _ _ s₁ (mkF m 12 #[.val (.long x0), .second, .val (.long x1), .second, .val (.long x2), .second, .val (.long x3), .second, .val (.int x4), .unset, .unset, .unset, .unset, .unset, .unset, .unset, .unset, .unset, .unset, .unset, .unset, .unset, .unset] [(.long x0)])
    refine go_st (fun _ kq => XT.lstore X0.here hx rfl (hb hby at_12) rfl (l' := #[.val (.long x0), .second, .val (.long x1), .second, .val (.long x2), .second, .val (.long x3), .second, .val (.int x4), .val (.long x0), .second, .unset, .unset, .unset, .unset, .unset, .unset, .unset, .unset, .unset, .unset, .unset, .unset]) rfl kq) ?_
    show Go p e below s _ _ _ s₁ (mkF m 14 #[.val (.long x0), .second, .val (.long x1), .second, .val (.long x2), .second, .val (.long x3), .second, .val (.int x4), .val (.long x0), .second, .unset, .unset, .unset, .unset, .unset, .unset, .unset, .unset, .unset, .unset, .unset, .unset] [])
    refine go_st (fun _ kq => XS.iload X0.here hx rfl (hb hby at_14) rfl kq) ?_
    show Go p e below s _ _ _ s₁ (mkF m 16 #[.val (.long x0), .second, .val (.long x1), .second, .val (.long x2), .second, .val (.long x3), .second, .val (.int x4), .val (.long x0), .second, .unset, .unset, .unset, .unset, .unset, .unset, .unset, .unset, .unset, .unset, .unset, .unset] [(.int x4)])
    refine go_st (fun _ kq => XT.iconstV X0.here hx rfl (1 : Int32) (hb hby at_16) (by decide) kq) ?_
    show Go p e below s _ _ _ s₁ (mkF m 17 #[.val (.long x0), .second, .val (.long x1), .second, .val (.long x2), .second, .val (.long x3), .second, .val (.int x4), .val (.long x0), .second, .unset, .unset, .unset, .unset, .unset, .unset, .unset, .unset, .unset, .unset, .unset, .unset] [(.int (1 : Int32)), (.int x4)])
    refine go_st (fun _ kq => XT.iushr X0.here hx rfl (hb hby at_17) rfl kq) ?_
    show Go p e below s _ _ _ s₁ (mkF m 18 #[.val (.long x0), .second, .val (.long x1), .second, .val (.long x2), .second, .val (.long x3), .second, .val (.int x4), .val (.long x0), .second, .unset, .unset, .unset, .unset, .unset, .unset, .unset, .unset, .unset, .unset, .unset, .unset] [(.int (XT.ushr x4 (1 : Int32)))])
    refine go_st (fun _ kq => XT.iconstV X0.here hx rfl (3 : Int32) (hb hby at_18) (by decide) kq) ?_
    show Go p e below s _ _ _ s₁ (mkF m 19 #[.val (.long x0), .second, .val (.long x1), .second, .val (.long x2), .second, .val (.long x3), .second, .val (.int x4), .val (.long x0), .second, .unset, .unset, .unset, .unset, .unset, .unset, .unset, .unset, .unset, .unset, .unset, .unset] [(.int (3 : Int32)), (.int (XT.ushr x4 (1 : Int32)))])
    refine go_st (fun _ kq => XS.iand X0.here hx rfl (hb hby at_19) rfl kq) ?_
    show Go p e below s _ _ _ s₁ (mkF m 20 #[.val (.long x0), .second, .val (.long x1), .second, .val (.long x2), .second, .val (.long x3), .second, .val (.int x4), .val (.long x0), .second, .unset, .unset, .unset, .unset, .unset, .unset, .unset, .unset, .unset, .unset, .unset, .unset] [(.int ((XT.ushr x4 (1 : Int32)) &&& (3 : Int32)))])
    refine go_st (fun _ kq => XT.lloadN X0.here hx rfl (hb hby at_20) rfl kq) ?_
    show Go p e below s _ _ _ s₁ (mkF m 21 #[.val (.long x0), .second, .val (.long x1), .second, .val (.long x2), .second, .val (.long x3), .second, .val (.int x4), .val (.long x0), .second, .unset, .unset, .unset, .unset, .unset, .unset, .unset, .unset, .unset, .unset, .unset, .unset] [(.long x1), (.int ((XT.ushr x4 (1 : Int32)) &&& (3 : Int32)))])
    refine go_st (fun _ kq => XT.lload X0.here hx rfl (hb hby at_21) rfl kq) ?_
    show Go p e below s _ _ _ s₁ (mkF m 23 #[.val (.long x0), .second, .val (.long x1), .second, .val (.long x2), .second, .val (.long x3), .second, .val (.int x4), .val (.long x0), .second, .unset, .unset, .unset, .unset, .unset, .unset, .unset, .unset, .unset, .unset, .unset, .unset] [(.long x0), (.long x1), (.int ((XT.ushr x4 (1 : Int32)) &&& (3 : Int32)))])
    refine go_st (fun _ kq => XT.lconstV X0.here hx rfl (0 : Int64) (hb hby at_23) (by decide) kq) ?_
    show Go p e below s _ _ _ s₁ (mkF m 24 #[.val (.long x0), .second, .val (.long x1), .second, .val (.long x2), .second, .val (.long x3), .second, .val (.int x4), .val (.long x0), .second, .unset, .unset, .unset, .unset, .unset, .unset, .unset, .unset, .unset, .unset, .unset, .unset] [(.long (0 : Int64)), (.long x0), (.long x1), (.int ((XT.ushr x4 (1 : Int32)) &&& (3 : Int32)))])
    refine go_st (fun _ kq => XT.lloadN X0.here hx rfl (hb hby at_24) rfl kq) ?_
    show Go p e below s _ _ _ s₁ (mkF m 25 #[.val (.long x0), .second, .val (.long x1), .second, .val (.long x2), .second, .val (.long x3), .second, .val (.int x4), .val (.long x0), .second, .unset, .unset, .unset, .unset, .unset, .unset, .unset, .unset, .unset, .unset, .unset, .unset] [(.long x0), (.long (0 : Int64)), (.long x0), (.long x1), (.int ((XT.ushr x4 (1 : Int32)) &&& (3 : Int32)))])
    refine go_callS X0 hx hZ hml hown (hw _ (List.mem_of_getElem? (i := 0) rfl)) (hw _ (List.mem_of_getElem? (i := 1) rfl)) (hw _ (List.mem_of_getElem? (i := 2) rfl)) (hw _ (List.mem_of_getElem? (i := 3) rfl)) e0 (argsL := [(.int ((XT.ushr x4 (1 : Int32)) &&& (3 : Int32))), (.long x1), (.long x0), (.long (0 : Int64)), (.long x0)]) (rest := []) (W := 0) (met_1 l Z a0 hw ((XT.ushr x4 (1 : Int32)) &&& (3 : Int32)) x1 x0 (0 : Int64) x0 h0 n0) (hb hby at_25) rfl rfl rfl (lenOf pd4 rfl) (by show 2 * 0 + _ ≤ _; exact Nat.le_of_eq rfl) (by decide) (by decide) (by decide) (by decide) (by decide) ?_
    intro T105 v105 L105 X105 q105
    obtain ⟨rfl, M105, e105⟩ := q105
    have N105 := Fr.app N0 M105
    show Go p e below s _ _ _ T105 (mkF m 28 #[.val (.long x0), .second, .val (.long x1), .second, .val (.long x2), .second, .val (.long x3), .second, .val (.int x4), .val (.long x0), .second, .unset, .unset, .unset, .unset, .unset, .unset, .unset, .unset, .unset, .unset, .unset, .unset] [(.long (fPick ((XT.ushr x4 (1 : Int32)) &&& (3 : Int32)) x1 x0 (0 : Int64) x0))])
    refine go_st (fun _ kq => XT.lstore X105.here hx rfl (hb hby at_28) rfl (l' := #[.val (.long x0), .second, .val (.long x1), .second, .val (.long x2), .second, .val (.long x3), .second, .val (.int x4), .val (.long x0), .second, .val (.long (fPick ((XT.ushr x4 (1 : Int32)) &&& (3 : Int32)) x1 x0 (0 : Int64) x0)), .second, .unset, .unset, .unset, .unset, .unset, .unset, .unset, .unset, .unset, .unset]) rfl kq) ?_
    show Go p e below s _ _ _ T105 (mkF m 30 #[.val (.long x0), .second, .val (.long x1), .second, .val (.long x2), .second, .val (.long x3), .second, .val (.int x4), .val (.long x0), .second, .val (.long (fPick ((XT.ushr x4 (1 : Int32)) &&& (3 : Int32)) x1 x0 (0 : Int64) x0)), .second, .unset, .unset, .unset, .unset, .unset, .unset, .unset, .unset, .unset, .unset] [])
    refine go_st (fun _ kq => XS.iload X105.here hx rfl (hb hby at_30) rfl kq) ?_
    show Go p e below s _ _ _ T105 (mkF m 32 #[.val (.long x0), .second, .val (.long x1), .second, .val (.long x2), .second, .val (.long x3), .second, .val (.int x4), .val (.long x0), .second, .val (.long (fPick ((XT.ushr x4 (1 : Int32)) &&& (3 : Int32)) x1 x0 (0 : Int64) x0)), .second, .unset, .unset, .unset, .unset, .unset, .unset, .unset, .unset, .unset, .unset] [(.int x4)])
    refine go_st (fun _ kq => XT.iconstV X105.here hx rfl (3 : Int32) (hb hby at_32) (by decide) kq) ?_
    show Go p e below s _ _ _ T105 (mkF m 33 #[.val (.long x0), .second, .val (.long x1), .second, .val (.long x2), .second, .val (.long x3), .second, .val (.int x4), .val (.long x0), .second, .val (.long (fPick ((XT.ushr x4 (1 : Int32)) &&& (3 : Int32)) x1 x0 (0 : Int64) x0)), .second, .unset, .unset, .unset, .unset, .unset, .unset, .unset, .unset, .unset, .unset] [(.int (3 : Int32)), (.int x4)])
    refine go_st (fun _ kq => XT.iushr X105.here hx rfl (hb hby at_33) rfl kq) ?_
    show Go p e below s _ _ _ T105 (mkF m 34 #[.val (.long x0), .second, .val (.long x1), .second, .val (.long x2), .second, .val (.long x3), .second, .val (.int x4), .val (.long x0), .second, .val (.long (fPick ((XT.ushr x4 (1 : Int32)) &&& (3 : Int32)) x1 x0 (0 : Int64) x0)), .second, .unset, .unset, .unset, .unset, .unset, .unset, .unset, .unset, .unset, .unset] [(.int (XT.ushr x4 (3 : Int32)))])
    refine go_st (fun _ kq => XT.iconstV X105.here hx rfl (3 : Int32) (hb hby at_34) (by decide) kq) ?_
    show Go p e below s _ _ _ T105 (mkF m 35 #[.val (.long x0), .second, .val (.long x1), .second, .val (.long x2), .second, .val (.long x3), .second, .val (.int x4), .val (.long x0), .second, .val (.long (fPick ((XT.ushr x4 (1 : Int32)) &&& (3 : Int32)) x1 x0 (0 : Int64) x0)), .second, .unset, .unset, .unset, .unset, .unset, .unset, .unset, .unset, .unset, .unset] [(.int (3 : Int32)), (.int (XT.ushr x4 (3 : Int32)))])
    refine go_st (fun _ kq => XS.iand X105.here hx rfl (hb hby at_35) rfl kq) ?_
    show Go p e below s _ _ _ T105 (mkF m 36 #[.val (.long x0), .second, .val (.long x1), .second, .val (.long x2), .second, .val (.long x3), .second, .val (.int x4), .val (.long x0), .second, .val (.long (fPick ((XT.ushr x4 (1 : Int32)) &&& (3 : Int32)) x1 x0 (0 : Int64) x0)), .second, .unset, .unset, .unset, .unset, .unset, .unset, .unset, .unset, .unset, .unset] [(.int ((XT.ushr x4 (3 : Int32)) &&& (3 : Int32)))])
    refine go_st (fun _ kq => XT.lload X105.here hx rfl (hb hby at_36) rfl kq) ?_
    show Go p e below s _ _ _ T105 (mkF m 38 #[.val (.long x0), .second, .val (.long x1), .second, .val (.long x2), .second, .val (.long x3), .second, .val (.int x4), .val (.long x0), .second, .val (.long (fPick ((XT.ushr x4 (1 : Int32)) &&& (3 : Int32)) x1 x0 (0 : Int64) x0)), .second, .unset, .unset, .unset, .unset, .unset, .unset, .unset, .unset, .unset, .unset] [(.long x2), (.int ((XT.ushr x4 (3 : Int32)) &&& (3 : Int32)))])
    refine go_st (fun _ kq => XT.lload X105.here hx rfl (hb hby at_38) rfl kq) ?_
    show Go p e below s _ _ _ T105 (mkF m 40 #[.val (.long x0), .second, .val (.long x1), .second, .val (.long x2), .second, .val (.long x3), .second, .val (.int x4), .val (.long x0), .second, .val (.long (fPick ((XT.ushr x4 (1 : Int32)) &&& (3 : Int32)) x1 x0 (0 : Int64) x0)), .second, .unset, .unset, .unset, .unset, .unset, .unset, .unset, .unset, .unset, .unset] [(.long x0), (.long x2), (.int ((XT.ushr x4 (3 : Int32)) &&& (3 : Int32)))])
    refine go_st (fun _ kq => XT.lload X105.here hx rfl (hb hby at_40) rfl kq) ?_
    show Go p e below s _ _ _ T105 (mkF m 42 #[.val (.long x0), .second, .val (.long x1), .second, .val (.long x2), .second, .val (.long x3), .second, .val (.int x4), .val (.long x0), .second, .val (.long (fPick ((XT.ushr x4 (1 : Int32)) &&& (3 : Int32)) x1 x0 (0 : Int64) x0)), .second, .unset, .unset, .unset, .unset, .unset, .unset, .unset, .unset, .unset, .unset] [(.long (fPick ((XT.ushr x4 (1 : Int32)) &&& (3 : Int32)) x1 x0 (0 : Int64) x0)), (.long x0), (.long x2), (.int ((XT.ushr x4 (3 : Int32)) &&& (3 : Int32)))])
    refine go_st (fun _ kq => XT.lconstV X105.here hx rfl (0 : Int64) (hb hby at_42) (by decide) kq) ?_
    show Go p e below s _ _ _ T105 (mkF m 43 #[.val (.long x0), .second, .val (.long x1), .second, .val (.long x2), .second, .val (.long x3), .second, .val (.int x4), .val (.long x0), .second, .val (.long (fPick ((XT.ushr x4 (1 : Int32)) &&& (3 : Int32)) x1 x0 (0 : Int64) x0)), .second, .unset, .unset, .unset, .unset, .unset, .unset, .unset, .unset, .unset, .unset] [(.long (0 : Int64)), (.long (fPick ((XT.ushr x4 (1 : Int32)) &&& (3 : Int32)) x1 x0 (0 : Int64) x0)), (.long x0), (.long x2), (.int ((XT.ushr x4 (3 : Int32)) &&& (3 : Int32)))])
    refine go_callS X105 hx hZ hml hown (hw _ (List.mem_of_getElem? (i := 0) rfl)) (hw _ (List.mem_of_getElem? (i := 1) rfl)) (hw _ (List.mem_of_getElem? (i := 2) rfl)) (hw _ (List.mem_of_getElem? (i := 3) rfl)) e105 (argsL := [(.int ((XT.ushr x4 (3 : Int32)) &&& (3 : Int32))), (.long x2), (.long x0), (.long (fPick ((XT.ushr x4 (1 : Int32)) &&& (3 : Int32)) x1 x0 (0 : Int64) x0)), (.long (0 : Int64))]) (rest := []) (W := 0) (met_1 l Z a0 hw ((XT.ushr x4 (3 : Int32)) &&& (3 : Int32)) x2 x0 (fPick ((XT.ushr x4 (1 : Int32)) &&& (3 : Int32)) x1 x0 (0 : Int64) x0) (0 : Int64) h0 n0) (hb hby at_43) rfl rfl rfl (lenOf pd4 rfl) (by show 2 * 0 + _ ≤ _; exact Nat.le_of_eq rfl) (by decide) (by decide) (by decide) (by decide) (by decide) ?_
    intro T106 v106 L106 X106 q106
    obtain ⟨rfl, M106, e106⟩ := q106
    have N106 := Fr.app N105 M106
    show Go p e below s _ _ _ T106 (mkF m 46 #[.val (.long x0), .second, .val (.long x1), .second, .val (.long x2), .second, .val (.long x3), .second, .val (.int x4), .val (.long x0), .second, .val (.long (fPick ((XT.ushr x4 (1 : Int32)) &&& (3 : Int32)) x1 x0 (0 : Int64) x0)), .second, .unset, .unset, .unset, .unset, .unset, .unset, .unset, .unset, .unset, .unset] [(.long (fPick ((XT.ushr x4 (3 : Int32)) &&& (3 : Int32)) x2 x0 (fPick ((XT.ushr x4 (1 : Int32)) &&& (3 : Int32)) x1 x0 (0 : Int64) x0) (0 : Int64)))])
    refine go_st (fun _ kq => XT.lstore X106.here hx rfl (hb hby at_46) rfl (l' := #[.val (.long x0), .second, .val (.long x1), .second, .val (.long x2), .second, .val (.long x3), .second, .val (.int x4), .val (.long x0), .second, .val (.long (fPick ((XT.ushr x4 (1 : Int32)) &&& (3 : Int32)) x1 x0 (0 : Int64) x0)), .second, .val (.long (fPick ((XT.ushr x4 (3 : Int32)) &&& (3 : Int32)) x2 x0 (fPick ((XT.ushr x4 (1 : Int32)) &&& (3 : Int32)) x1 x0 (0 : Int64) x0) (0 : Int64))), .second, .unset, .unset, .unset, .unset, .unset, .unset, .unset, .unset]) rfl kq) ?_
    show Go p e below s _ _ _ T106 (mkF m 48 #[.val (.long x0), .second, .val (.long x1), .second, .val (.long x2), .second, .val (.long x3), .second, .val (.int x4), .val (.long x0), .second, .val (.long (fPick ((XT.ushr x4 (1 : Int32)) &&& (3 : Int32)) x1 x0 (0 : Int64) x0)), .second, .val (.long (fPick ((XT.ushr x4 (3 : Int32)) &&& (3 : Int32)) x2 x0 (fPick ((XT.ushr x4 (1 : Int32)) &&& (3 : Int32)) x1 x0 (0 : Int64) x0) (0 : Int64))), .second, .unset, .unset, .unset, .unset, .unset, .unset, .unset, .unset] [])
    refine go_st (fun _ kq => XS.iload X106.here hx rfl (hb hby at_48) rfl kq) ?_
    show Go p e below s _ _ _ T106 (mkF m 50 #[.val (.long x0), .second, .val (.long x1), .second, .val (.long x2), .second, .val (.long x3), .second, .val (.int x4), .val (.long x0), .second, .val (.long (fPick ((XT.ushr x4 (1 : Int32)) &&& (3 : Int32)) x1 x0 (0 : Int64) x0)), .second, .val (.long (fPick ((XT.ushr x4 (3 : Int32)) &&& (3 : Int32)) x2 x0 (fPick ((XT.ushr x4 (1 : Int32)) &&& (3 : Int32)) x1 x0 (0 : Int64) x0) (0 : Int64))), .second, .unset, .unset, .unset, .unset, .unset, .unset, .unset, .unset] [(.int x4)])
    refine go_st (fun _ kq => XT.iconstV X106.here hx rfl (5 : Int32) (hb hby at_50) (by decide) kq) ?_
    show Go p e below s _ _ _ T106 (mkF m 51 #[.val (.long x0), .second, .val (.long x1), .second, .val (.long x2), .second, .val (.long x3), .second, .val (.int x4), .val (.long x0), .second, .val (.long (fPick ((XT.ushr x4 (1 : Int32)) &&& (3 : Int32)) x1 x0 (0 : Int64) x0)), .second, .val (.long (fPick ((XT.ushr x4 (3 : Int32)) &&& (3 : Int32)) x2 x0 (fPick ((XT.ushr x4 (1 : Int32)) &&& (3 : Int32)) x1 x0 (0 : Int64) x0) (0 : Int64))), .second, .unset, .unset, .unset, .unset, .unset, .unset, .unset, .unset] [(.int (5 : Int32)), (.int x4)])
    refine go_st (fun _ kq => XT.iushr X106.here hx rfl (hb hby at_51) rfl kq) ?_
    show Go p e below s _ _ _ T106 (mkF m 52 #[.val (.long x0), .second, .val (.long x1), .second, .val (.long x2), .second, .val (.long x3), .second, .val (.int x4), .val (.long x0), .second, .val (.long (fPick ((XT.ushr x4 (1 : Int32)) &&& (3 : Int32)) x1 x0 (0 : Int64) x0)), .second, .val (.long (fPick ((XT.ushr x4 (3 : Int32)) &&& (3 : Int32)) x2 x0 (fPick ((XT.ushr x4 (1 : Int32)) &&& (3 : Int32)) x1 x0 (0 : Int64) x0) (0 : Int64))), .second, .unset, .unset, .unset, .unset, .unset, .unset, .unset, .unset] [(.int (XT.ushr x4 (5 : Int32)))])
    refine go_st (fun _ kq => XT.iconstV X106.here hx rfl (3 : Int32) (hb hby at_52) (by decide) kq) ?_
    show Go p e below s _ _ _ T106 (mkF m 53 #[.val (.long x0), .second, .val (.long x1), .second, .val (.long x2), .second, .val (.long x3), .second, .val (.int x4), .val (.long x0), .second, .val (.long (fPick ((XT.ushr x4 (1 : Int32)) &&& (3 : Int32)) x1 x0 (0 : Int64) x0)), .second, .val (.long (fPick ((XT.ushr x4 (3 : Int32)) &&& (3 : Int32)) x2 x0 (fPick ((XT.ushr x4 (1 : Int32)) &&& (3 : Int32)) x1 x0 (0 : Int64) x0) (0 : Int64))), .second, .unset, .unset, .unset, .unset, .unset, .unset, .unset, .unset] [(.int (3 : Int32)), (.int (XT.ushr x4 (5 : Int32)))])
    refine go_st (fun _ kq => XS.iand X106.here hx rfl (hb hby at_53) rfl kq) ?_
    show Go p e below s _ _ _ T106 (mkF m 54 #[.val (.long x0), .second, .val (.long x1), .second, .val (.long x2), .second, .val (.long x3), .second, .val (.int x4), .val (.long x0), .second, .val (.long (fPick ((XT.ushr x4 (1 : Int32)) &&& (3 : Int32)) x1 x0 (0 : Int64) x0)), .second, .val (.long (fPick ((XT.ushr x4 (3 : Int32)) &&& (3 : Int32)) x2 x0 (fPick ((XT.ushr x4 (1 : Int32)) &&& (3 : Int32)) x1 x0 (0 : Int64) x0) (0 : Int64))), .second, .unset, .unset, .unset, .unset, .unset, .unset, .unset, .unset] [(.int ((XT.ushr x4 (5 : Int32)) &&& (3 : Int32)))])
    refine go_st (fun _ kq => XT.lload X106.here hx rfl (hb hby at_54) rfl kq) ?_
    show Go p e below s _ _ _ T106 (mkF m 56 #[.val (.long x0), .second, .val (.long x1), .second, .val (.long x2), .second, .val (.long x3), .second, .val (.int x4), .val (.long x0), .second, .val (.long (fPick ((XT.ushr x4 (1 : Int32)) &&& (3 : Int32)) x1 x0 (0 : Int64) x0)), .second, .val (.long (fPick ((XT.ushr x4 (3 : Int32)) &&& (3 : Int32)) x2 x0 (fPick ((XT.ushr x4 (1 : Int32)) &&& (3 : Int32)) x1 x0 (0 : Int64) x0) (0 : Int64))), .second, .unset, .unset, .unset, .unset, .unset, .unset, .unset, .unset] [(.long x3), (.int ((XT.ushr x4 (5 : Int32)) &&& (3 : Int32)))])
    refine go_st (fun _ kq => XT.lload X106.here hx rfl (hb hby at_56) rfl kq) ?_
    show Go p e below s _ _ _ T106 (mkF m 58 #[.val (.long x0), .second, .val (.long x1), .second, .val (.long x2), .second, .val (.long x3), .second, .val (.int x4), .val (.long x0), .second, .val (.long (fPick ((XT.ushr x4 (1 : Int32)) &&& (3 : Int32)) x1 x0 (0 : Int64) x0)), .second, .val (.long (fPick ((XT.ushr x4 (3 : Int32)) &&& (3 : Int32)) x2 x0 (fPick ((XT.ushr x4 (1 : Int32)) &&& (3 : Int32)) x1 x0 (0 : Int64) x0) (0 : Int64))), .second, .unset, .unset, .unset, .unset, .unset, .unset, .unset, .unset] [(.long (fPick ((XT.ushr x4 (1 : Int32)) &&& (3 : Int32)) x1 x0 (0 : Int64) x0)), (.long x3), (.int ((XT.ushr x4 (5 : Int32)) &&& (3 : Int32)))])
    refine go_st (fun _ kq => XT.lload X106.here hx rfl (hb hby at_58) rfl kq) ?_
    show Go p e below s _ _ _ T106 (mkF m 60 #[.val (.long x0), .second, .val (.long x1), .second, .val (.long x2), .second, .val (.long x3), .second, .val (.int x4), .val (.long x0), .second, .val (.long (fPick ((XT.ushr x4 (1 : Int32)) &&& (3 : Int32)) x1 x0 (0 : Int64) x0)), .second, .val (.long (fPick ((XT.ushr x4 (3 : Int32)) &&& (3 : Int32)) x2 x0 (fPick ((XT.ushr x4 (1 : Int32)) &&& (3 : Int32)) x1 x0 (0 : Int64) x0) (0 : Int64))), .second, .unset, .unset, .unset, .unset, .unset, .unset, .unset, .unset] [(.long (fPick ((XT.ushr x4 (3 : Int32)) &&& (3 : Int32)) x2 x0 (fPick ((XT.ushr x4 (1 : Int32)) &&& (3 : Int32)) x1 x0 (0 : Int64) x0) (0 : Int64))), (.long (fPick ((XT.ushr x4 (1 : Int32)) &&& (3 : Int32)) x1 x0 (0 : Int64) x0)), (.long x3), (.int ((XT.ushr x4 (5 : Int32)) &&& (3 : Int32)))])
    refine go_st (fun _ kq => XT.lconstV X106.here hx rfl (0 : Int64) (hb hby at_60) (by decide) kq) ?_
    show Go p e below s _ _ _ T106 (mkF m 61 #[.val (.long x0), .second, .val (.long x1), .second, .val (.long x2), .second, .val (.long x3), .second, .val (.int x4), .val (.long x0), .second, .val (.long (fPick ((XT.ushr x4 (1 : Int32)) &&& (3 : Int32)) x1 x0 (0 : Int64) x0)), .second, .val (.long (fPick ((XT.ushr x4 (3 : Int32)) &&& (3 : Int32)) x2 x0 (fPick ((XT.ushr x4 (1 : Int32)) &&& (3 : Int32)) x1 x0 (0 : Int64) x0) (0 : Int64))), .second, .unset, .unset, .unset, .unset, .unset, .unset, .unset, .unset] [(.long (0 : Int64)), (.long (fPick ((XT.ushr x4 (3 : Int32)) &&& (3 : Int32)) x2 x0 (fPick ((XT.ushr x4 (1 : Int32)) &&& (3 : Int32)) x1 x0 (0 : Int64) x0) (0 : Int64))), (.long (fPick ((XT.ushr x4 (1 : Int32)) &&& (3 : Int32)) x1 x0 (0 : Int64) x0)), (.long x3), (.int ((XT.ushr x4 (5 : Int32)) &&& (3 : Int32)))])
    refine go_callS X106 hx hZ hml hown (hw _ (List.mem_of_getElem? (i := 0) rfl)) (hw _ (List.mem_of_getElem? (i := 1) rfl)) (hw _ (List.mem_of_getElem? (i := 2) rfl)) (hw _ (List.mem_of_getElem? (i := 3) rfl)) e106 (argsL := [(.int ((XT.ushr x4 (5 : Int32)) &&& (3 : Int32))), (.long x3), (.long (fPick ((XT.ushr x4 (1 : Int32)) &&& (3 : Int32)) x1 x0 (0 : Int64) x0)), (.long (fPick ((XT.ushr x4 (3 : Int32)) &&& (3 : Int32)) x2 x0 (fPick ((XT.ushr x4 (1 : Int32)) &&& (3 : Int32)) x1 x0 (0 : Int64) x0) (0 : Int64))), (.long (0 : Int64))]) (rest := []) (W := 0) (met_1 l Z a0 hw ((XT.ushr x4 (5 : Int32)) &&& (3 : Int32)) x3 (fPick ((XT.ushr x4 (1 : Int32)) &&& (3 : Int32)) x1 x0 (0 : Int64) x0) (fPick ((XT.ushr x4 (3 : Int32)) &&& (3 : Int32)) x2 x0 (fPick ((XT.ushr x4 (1 : Int32)) &&& (3 : Int32)) x1 x0 (0 : Int64) x0) (0 : Int64)) (0 : Int64) h0 n0) (hb hby at_61) rfl rfl rfl (lenOf pd4 rfl) (by show 2 * 0 + _ ≤ _; exact Nat.le_of_eq rfl) (by decide) (by decide) (by decide) (by decide) (by decide) ?_
    intro T107 v107 L107 X107 q107
    obtain ⟨rfl, M107, e107⟩ := q107
    have N107 := Fr.app N106 M107
    show Go p e below s _ _ _ T107 (mkF m 64 #[.val (.long x0), .second, .val (.long x1), .second, .val (.long x2), .second, .val (.long x3), .second, .val (.int x4), .val (.long x0), .second, .val (.long (fPick ((XT.ushr x4 (1 : Int32)) &&& (3 : Int32)) x1 x0 (0 : Int64) x0)), .second, .val (.long (fPick ((XT.ushr x4 (3 : Int32)) &&& (3 : Int32)) x2 x0 (fPick ((XT.ushr x4 (1 : Int32)) &&& (3 : Int32)) x1 x0 (0 : Int64) x0) (0 : Int64))), .second, .unset, .unset, .unset, .unset, .unset, .unset, .unset, .unset] [(.long (fPick ((XT.ushr x4 (5 : Int32)) &&& (3 : Int32)) x3 (fPick ((XT.ushr x4 (1 : Int32)) &&& (3 : Int32)) x1 x0 (0 : Int64) x0) (fPick ((XT.ushr x4 (3 : Int32)) &&& (3 : Int32)) x2 x0 (fPick ((XT.ushr x4 (1 : Int32)) &&& (3 : Int32)) x1 x0 (0 : Int64) x0) (0 : Int64)) (0 : Int64)))])
    refine go_st (fun _ kq => XT.lstore X107.here hx rfl (hb hby at_64) rfl (l' := #[.val (.long x0), .second, .val (.long x1), .second, .val (.long x2), .second, .val (.long x3), .second, .val (.int x4), .val (.long x0), .second, .val (.long (fPick ((XT.ushr x4 (1 : Int32)) &&& (3 : Int32)) x1 x0 (0 : Int64) x0)), .second, .val (.long (fPick ((XT.ushr x4 (3 : Int32)) &&& (3 : Int32)) x2 x0 (fPick ((XT.ushr x4 (1 : Int32)) &&& (3 : Int32)) x1 x0 (0 : Int64) x0) (0 : Int64))), .second, .val (.long (fPick ((XT.ushr x4 (5 : Int32)) &&& (3 : Int32)) x3 (fPick ((XT.ushr x4 (1 : Int32)) &&& (3 : Int32)) x1 x0 (0 : Int64) x0) (fPick ((XT.ushr x4 (3 : Int32)) &&& (3 : Int32)) x2 x0 (fPick ((XT.ushr x4 (1 : Int32)) &&& (3 : Int32)) x1 x0 (0 : Int64) x0) (0 : Int64)) (0 : Int64))), .second, .unset, .unset, .unset, .unset, .unset, .unset]) rfl kq) ?_
    show Go p e below s _ _ _ T107 (mkF m 66 #[.val (.long x0), .second, .val (.long x1), .second, .val (.long x2), .second, .val (.long x3), .second, .val (.int x4), .val (.long x0), .second, .val (.long (fPick ((XT.ushr x4 (1 : Int32)) &&& (3 : Int32)) x1 x0 (0 : Int64) x0)), .second, .val (.long (fPick ((XT.ushr x4 (3 : Int32)) &&& (3 : Int32)) x2 x0 (fPick ((XT.ushr x4 (1 : Int32)) &&& (3 : Int32)) x1 x0 (0 : Int64) x0) (0 : Int64))), .second, .val (.long (fPick ((XT.ushr x4 (5 : Int32)) &&& (3 : Int32)) x3 (fPick ((XT.ushr x4 (1 : Int32)) &&& (3 : Int32)) x1 x0 (0 : Int64) x0) (fPick ((XT.ushr x4 (3 : Int32)) &&& (3 : Int32)) x2 x0 (fPick ((XT.ushr x4 (1 : Int32)) &&& (3 : Int32)) x1 x0 (0 : Int64) x0) (0 : Int64)) (0 : Int64))), .second, .unset, .unset, .unset, .unset, .unset, .unset] [])
    refine go_st (fun _ kq => XT.iconstV X107.here hx rfl (1 : Int32) (hb hby at_66) (by decide) kq) ?_
    show Go p e below s _ _ _ T107 (mkF m 67 #[.val (.long x0), .second, .val (.long x1), .second, .val (.long x2), .second, .val (.long x3), .second, .val (.int x4), .val (.long x0), .second, .val (.long (fPick ((XT.ushr x4 (1 : Int32)) &&& (3 : Int32)) x1 x0 (0 : Int64) x0)), .second, .val (.long (fPick ((XT.ushr x4 (3 : Int32)) &&& (3 : Int32)) x2 x0 (fPick ((XT.ushr x4 (1 : Int32)) &&& (3 : Int32)) x1 x0 (0 : Int64) x0) (0 : Int64))), .second, .val (.long (fPick ((XT.ushr x4 (5 : Int32)) &&& (3 : Int32)) x3 (fPick ((XT.ushr x4 (1 : Int32)) &&& (3 : Int32)) x1 x0 (0 : Int64) x0) (fPick ((XT.ushr x4 (3 : Int32)) &&& (3 : Int32)) x2 x0 (fPick ((XT.ushr x4 (1 : Int32)) &&& (3 : Int32)) x1 x0 (0 : Int64) x0) (0 : Int64)) (0 : Int64))), .second, .unset, .unset, .unset, .unset, .unset, .unset] [(.int (1 : Int32))])
    refine go_st (fun _ kq => XS.istore X107.here hx rfl (hb hby at_67) rfl (l' := #[.val (.long x0), .second, .val (.long x1), .second, .val (.long x2), .second, .val (.long x3), .second, .val (.int x4), .val (.long x0), .second, .val (.long (fPick ((XT.ushr x4 (1 : Int32)) &&& (3 : Int32)) x1 x0 (0 : Int64) x0)), .second, .val (.long (fPick ((XT.ushr x4 (3 : Int32)) &&& (3 : Int32)) x2 x0 (fPick ((XT.ushr x4 (1 : Int32)) &&& (3 : Int32)) x1 x0 (0 : Int64) x0) (0 : Int64))), .second, .val (.long (fPick ((XT.ushr x4 (5 : Int32)) &&& (3 : Int32)) x3 (fPick ((XT.ushr x4 (1 : Int32)) &&& (3 : Int32)) x1 x0 (0 : Int64) x0) (fPick ((XT.ushr x4 (3 : Int32)) &&& (3 : Int32)) x2 x0 (fPick ((XT.ushr x4 (1 : Int32)) &&& (3 : Int32)) x1 x0 (0 : Int64) x0) (0 : Int64)) (0 : Int64))), .second, .val (.int (1 : Int32)), .unset, .unset, .unset, .unset, .unset]) rfl kq) ?_
    show Go p e below s _ _ _ T107 (mkF m 69 #[.val (.long x0), .second, .val (.long x1), .second, .val (.long x2), .second, .val (.long x3), .second, .val (.int x4), .val (.long x0), .second, .val (.long (fPick ((XT.ushr x4 (1 : Int32)) &&& (3 : Int32)) x1 x0 (0 : Int64) x0)), .second, .val (.long (fPick ((XT.ushr x4 (3 : Int32)) &&& (3 : Int32)) x2 x0 (fPick ((XT.ushr x4 (1 : Int32)) &&& (3 : Int32)) x1 x0 (0 : Int64) x0) (0 : Int64))), .second, .val (.long (fPick ((XT.ushr x4 (5 : Int32)) &&& (3 : Int32)) x3 (fPick ((XT.ushr x4 (1 : Int32)) &&& (3 : Int32)) x1 x0 (0 : Int64) x0) (fPick ((XT.ushr x4 (3 : Int32)) &&& (3 : Int32)) x2 x0 (fPick ((XT.ushr x4 (1 : Int32)) &&& (3 : Int32)) x1 x0 (0 : Int64) x0) (0 : Int64)) (0 : Int64))), .second, .val (.int (1 : Int32)), .unset, .unset, .unset, .unset, .unset] [])
    exact blk69 l Z a0 hw ct0 x0 x1 x2 x3 x4 x0 (fPick ((XT.ushr x4 (1 : Int32)) &&& (3 : Int32)) x1 x0 (0 : Int64) x0) (fPick ((XT.ushr x4 (3 : Int32)) &&& (3 : Int32)) x2 x0 (fPick ((XT.ushr x4 (1 : Int32)) &&& (3 : Int32)) x1 x0 (0 : Int64) x0) (0 : Int64)) (fPick ((XT.ushr x4 (5 : Int32)) &&& (3 : Int32)) x3 (fPick ((XT.ushr x4 (1 : Int32)) &&& (3 : Int32)) x1 x0 (0 : Int64) x0) (fPick ((XT.ushr x4 (3 : Int32)) &&& (3 : Int32)) x2 x0 (fPick ((XT.ushr x4 (1 : Int32)) &&& (3 : Int32)) x1 x0 (0 : Int64) x0) (0 : Int64)) (0 : Int64)) X107 e107 n0 Z0 N107
  · refine go_st (fun _ kq => XS.ifNo X0.here hx rfl (hb hby at_4) rfl (XT.i0_eq_f hc104) kq) ?_
    show Go p e below s _ _ _ s₁ (mkF m 7 #[.val (.long x0), .second, .val (.long x1), .second, .val (.long x2), .second, .val (.long x3), .second, .val (.int x4), .unset, .unset, .unset, .unset, .unset, .unset, .unset, .unset, .unset, .unset, .unset, .unset, .unset, .unset] [])
    refine go_st (fun _ kq => XT.lconstV X0.here hx rfl (0 : Int64) (hb hby at_7) (by decide) kq) ?_
    show Go p e below s _ _ _ s₁ (mkF m 8 #[.val (.long x0), .second, .val (.long x1), .second, .val (.long x2), .second, .val (.long x3), .second, .val (.int x4), .unset, .unset, .unset, .unset, .unset, .unset, .unset, .unset, .unset, .unset, .unset, .unset, .unset, .unset] [(.long (0 : Int64))])
    refine go_st (fun _ kq => XS.goto X0.here hx rfl (pc0 := 8) (pc' := 12) rfl (hb hby at_8) (by decide) (by decide) kq) ?_
    show Go p e below s _ _ _ s₁ (mkF m 12 #[.val (.long x0), .second, .val (.long x1), .second, .val (.long x2), .second, .val (.long x3), .second, .val (.int x4), .unset, .unset, .unset, .unset, .unset, .unset, .unset, .unset, .unset, .unset, .unset, .unset, .unset, .unset] [(.long (0 : Int64))])
    refine go_st (fun _ kq => XT.lstore X0.here hx rfl (hb hby at_12) rfl (l' := #[.val (.long x0), .second, .val (.long x1), .second, .val (.long x2), .second, .val (.long x3), .second, .val (.int x4), .val (.long (0 : Int64)), .second, .unset, .unset, .unset, .unset, .unset, .unset, .unset, .unset, .unset, .unset, .unset, .unset]) rfl kq) ?_
    show Go p e below s _ _ _ s₁ (mkF m 14 #[.val (.long x0), .second, .val (.long x1), .second, .val (.long x2), .second, .val (.long x3), .second, .val (.int x4), .val (.long (0 : Int64)), .second, .unset, .unset, .unset, .unset, .unset, .unset, .unset, .unset, .unset, .unset, .unset, .unset] [])
    refine go_st (fun _ kq => XS.iload X0.here hx rfl (hb hby at_14) rfl kq) ?_
    show Go p e below s _ _ _ s₁ (mkF m 16 #[.val (.long x0), .second, .val (.long x1), .second, .val (.long x2), .second, .val (.long x3), .second, .val (.int x4), .val (.long (0 : Int64)), .second, .unset, .unset, .unset, .unset, .unset, .unset, .unset, .unset, .unset, .unset, .unset, .unset] [(.int x4)])
    refine go_st (fun _ kq => XT.iconstV X0.here hx rfl (1 : Int32) (hb hby at_16) (by decide) kq) ?_
    show Go p e below s _ _ _ s₁ (mkF m 17 #[.val (.long x0), .second, .val (.long x1), .second, .val (.long x2), .second, .val (.long x3), .second, .val (.int x4), .val (.long (0 : Int64)), .second, .unset, .unset, .unset, .unset, .unset, .unset, .unset, .unset, .unset, .unset, .unset, .unset] [(.int (1 : Int32)), (.int x4)])
    refine go_st (fun _ kq => XT.iushr X0.here hx rfl (hb hby at_17) rfl kq) ?_
    show Go p e below s _ _ _ s₁ (mkF m 18 #[.val (.long x0), .second, .val (.long x1), .second, .val (.long x2), .second, .val (.long x3), .second, .val (.int x4), .val (.long (0 : Int64)), .second, .unset, .unset, .unset, .unset, .unset, .unset, .unset, .unset, .unset, .unset, .unset, .unset] [(.int (XT.ushr x4 (1 : Int32)))])
    refine go_st (fun _ kq => XT.iconstV X0.here hx rfl (3 : Int32) (hb hby at_18) (by decide) kq) ?_
    show Go p e below s _ _ _ s₁ (mkF m 19 #[.val (.long x0), .second, .val (.long x1), .second, .val (.long x2), .second, .val (.long x3), .second, .val (.int x4), .val (.long (0 : Int64)), .second, .unset, .unset, .unset, .unset, .unset, .unset, .unset, .unset, .unset, .unset, .unset, .unset] [(.int (3 : Int32)), (.int (XT.ushr x4 (1 : Int32)))])
    refine go_st (fun _ kq => XS.iand X0.here hx rfl (hb hby at_19) rfl kq) ?_
    show Go p e below s _ _ _ s₁ (mkF m 20 #[.val (.long x0), .second, .val (.long x1), .second, .val (.long x2), .second, .val (.long x3), .second, .val (.int x4), .val (.long (0 : Int64)), .second, .unset, .unset, .unset, .unset, .unset, .unset, .unset, .unset, .unset, .unset, .unset, .unset] [(.int ((XT.ushr x4 (1 : Int32)) &&& (3 : Int32)))])
    refine go_st (fun _ kq => XT.lloadN X0.here hx rfl (hb hby at_20) rfl kq) ?_
    show Go p e below s _ _ _ s₁ (mkF m 21 #[.val (.long x0), .second, .val (.long x1), .second, .val (.long x2), .second, .val (.long x3), .second, .val (.int x4), .val (.long (0 : Int64)), .second, .unset, .unset, .unset, .unset, .unset, .unset, .unset, .unset, .unset, .unset, .unset, .unset] [(.long x1), (.int ((XT.ushr x4 (1 : Int32)) &&& (3 : Int32)))])
    refine go_st (fun _ kq => XT.lload X0.here hx rfl (hb hby at_21) rfl kq) ?_
    show Go p e below s _ _ _ s₁ (mkF m 23 #[.val (.long x0), .second, .val (.long x1), .second, .val (.long x2), .second, .val (.long x3), .second, .val (.int x4), .val (.long (0 : Int64)), .second, .unset, .unset, .unset, .unset, .unset, .unset, .unset, .unset, .unset, .unset, .unset, .unset] [(.long (0 : Int64)), (.long x1), (.int ((XT.ushr x4 (1 : Int32)) &&& (3 : Int32)))])
    refine go_st (fun _ kq => XT.lconstV X0.here hx rfl (0 : Int64) (hb hby at_23) (by decide) kq) ?_
    show Go p e below s _ _ _ s₁ (mkF m 24 #[.val (.long x0), .second, .val (.long x1), .second, .val (.long x2), .second, .val (.long x3), .second, .val (.int x4), .val (.long (0 : Int64)), .second, .unset, .unset, .unset, .unset, .unset, .unset, .unset, .unset, .unset, .unset, .unset, .unset] [(.long (0 : Int64)), (.long (0 : Int64)), (.long x1), (.int ((XT.ushr x4 (1 : Int32)) &&& (3 : Int32)))])
    refine go_st (fun _ kq => XT.lloadN X0.here hx rfl (hb hby at_24) rfl kq) ?_
    show Go p e below s _ _ _ s₁ (mkF m 25 #[.val (.long x0), .second, .val (.long x1), .second, .val (.long x2), .second, .val (.long x3), .second, .val (.int x4), .val (.long (0 : Int64)), .second, .unset, .unset, .unset, .unset, .unset, .unset, .unset, .unset, .unset, .unset, .unset, .unset] [(.long x0), (.long (0 : Int64)), (.long (0 : Int64)), (.long x1), (.int ((XT.ushr x4 (1 : Int32)) &&& (3 : Int32)))])
    refine go_callS X0 hx hZ hml hown (hw _ (List.mem_of_getElem? (i := 0) rfl)) (hw _ (List.mem_of_getElem? (i := 1) rfl)) (hw _ (List.mem_of_getElem? (i := 2) rfl)) (hw _ (List.mem_of_getElem? (i := 3) rfl)) e0 (argsL := [(.int ((XT.ushr x4 (1 : Int32)) &&& (3 : Int32))), (.long x1), (.long (0 : Int64)), (.long (0 : Int64)), (.long x0)]) (rest := []) (W := 0) (met_1 l Z a0 hw ((XT.ushr x4 (1 : Int32)) &&& (3 : Int32)) x1 (0 : Int64) (0 : Int64) x0 h0 n0) (hb hby at_25) rfl rfl rfl (lenOf pd4 rfl) (by show 2 * 0 + _ ≤ _; exact Nat.le_of_eq rfl) (by decide) (by decide) (by decide) (by decide) (by decide) ?_
    intro T108 v108 L108 X108 q108
    obtain ⟨rfl, M108, e108⟩ := q108
    have N108 := Fr.app N0 M108
    show Go p e below s _ _ _ T108 (mkF m 28 #[.val (.long x0), .second, .val (.long x1), .second, .val (.long x2), .second, .val (.long x3), .second, .val (.int x4), .val (.long (0 : Int64)), .second, .unset, .unset, .unset, .unset, .unset, .unset, .unset, .unset, .unset, .unset, .unset, .unset] [(.long (fPick ((XT.ushr x4 (1 : Int32)) &&& (3 : Int32)) x1 (0 : Int64) (0 : Int64) x0))])
    refine go_st (fun _ kq => XT.lstore X108.here hx rfl (hb hby at_28) rfl (l' := #[.val (.long x0), .second, .val (.long x1), .second, .val (.long x2), .second, .val (.long x3), .second, .val (.int x4), .val (.long (0 : Int64)), .second, .val (.long (fPick ((XT.ushr x4 (1 : Int32)) &&& (3 : Int32)) x1 (0 : Int64) (0 : Int64) x0)), .second, .unset, .unset, .unset, .unset, .unset, .unset, .unset, .unset, .unset, .unset]) rfl kq) ?_
    show Go p e below s _ _ _ T108 (mkF m 30 #[.val (.long x0), .second, .val (.long x1), .second, .val (.long x2), .second, .val (.long x3), .second, .val (.int x4), .val (.long (0 : Int64)), .second, .val (.long (fPick ((XT.ushr x4 (1 : Int32)) &&& (3 : Int32)) x1 (0 : Int64) (0 : Int64) x0)), .second, .unset, .unset, .unset, .unset, .unset, .unset, .unset, .unset, .unset, .unset] [])
    refine go_st (fun _ kq => XS.iload X108.here hx rfl (hb hby at_30) rfl kq) ?_
    show Go p e below s _ _ _ T108 (mkF m 32 #[.val (.long x0), .second, .val (.long x1), .second, .val (.long x2), .second, .val (.long x3), .second, .val (.int x4), .val (.long (0 : Int64)), .second, .val (.long (fPick ((XT.ushr x4 (1 : Int32)) &&& (3 : Int32)) x1 (0 : Int64) (0 : Int64) x0)), .second, .unset, .unset, .unset, .unset, .unset, .unset, .unset, .unset, .unset, .unset] [(.int x4)])
    refine go_st (fun _ kq => XT.iconstV X108.here hx rfl (3 : Int32) (hb hby at_32) (by decide) kq) ?_
    show Go p e below s _ _ _ T108 (mkF m 33 #[.val (.long x0), .second, .val (.long x1), .second, .val (.long x2), .second, .val (.long x3), .second, .val (.int x4), .val (.long (0 : Int64)), .second, .val (.long (fPick ((XT.ushr x4 (1 : Int32)) &&& (3 : Int32)) x1 (0 : Int64) (0 : Int64) x0)), .second, .unset, .unset, .unset, .unset, .unset, .unset, .unset, .unset, .unset, .unset] [(.int (3 : Int32)), (.int x4)])
    refine go_st (fun _ kq => XT.iushr X108.here hx rfl (hb hby at_33) rfl kq) ?_
    show Go p e below s _ _ _ T108 (mkF m 34 #[.val (.long x0), .second, .val (.long x1), .second, .val (.long x2), .second, .val (.long x3), .second, .val (.int x4), .val (.long (0 : Int64)), .second, .val (.long (fPick ((XT.ushr x4 (1 : Int32)) &&& (3 : Int32)) x1 (0 : Int64) (0 : Int64) x0)), .second, .unset, .unset, .unset, .unset, .unset, .unset, .unset, .unset, .unset, .unset] [(.int (XT.ushr x4 (3 : Int32)))])
    refine go_st (fun _ kq => XT.iconstV X108.here hx rfl (3 : Int32) (hb hby at_34) (by decide) kq) ?_
    show Go p e below s _ _ _ T108 (mkF m 35 #[.val (.long x0), .second, .val (.long x1), .second, .val (.long x2), .second, .val (.long x3), .second, .val (.int x4), .val (.long (0 : Int64)), .second, .val (.long (fPick ((XT.ushr x4 (1 : Int32)) &&& (3 : Int32)) x1 (0 : Int64) (0 : Int64) x0)), .second, .unset, .unset, .unset, .unset, .unset, .unset, .unset, .unset, .unset, .unset] [(.int (3 : Int32)), (.int (XT.ushr x4 (3 : Int32)))])
    refine go_st (fun _ kq => XS.iand X108.here hx rfl (hb hby at_35) rfl kq) ?_
    show Go p e below s _ _ _ T108 (mkF m 36 #[.val (.long x0), .second, .val (.long x1), .second, .val (.long x2), .second, .val (.long x3), .second, .val (.int x4), .val (.long (0 : Int64)), .second, .val (.long (fPick ((XT.ushr x4 (1 : Int32)) &&& (3 : Int32)) x1 (0 : Int64) (0 : Int64) x0)), .second, .unset, .unset, .unset, .unset, .unset, .unset, .unset, .unset, .unset, .unset] [(.int ((XT.ushr x4 (3 : Int32)) &&& (3 : Int32)))])
    refine go_st (fun _ kq => XT.lload X108.here hx rfl (hb hby at_36) rfl kq) ?_
    show Go p e below s _ _ _ T108 (mkF m 38 #[.val (.long x0), .second, .val (.long x1), .second, .val (.long x2), .second, .val (.long x3), .second, .val (.int x4), .val (.long (0 : Int64)), .second, .val (.long (fPick ((XT.ushr x4 (1 : Int32)) &&& (3 : Int32)) x1 (0 : Int64) (0 : Int64) x0)), .second, .unset, .unset, .unset, .unset, .unset, .unset, .unset, .unset, .unset, .unset] [(.long x2), (.int ((XT.ushr x4 (3 : Int32)) &&& (3 : Int32)))])
    refine go_st (fun _ kq => XT.lload X108.here hx rfl (hb hby at_38) rfl kq) ?_
    show Go p e below s _ _ _ T108 (mkF m 40 #[.val (.long x0), .second, .val (.long x1), .second, .val (.long x2), .second, .val (.long x3), .second, .val (.int x4), .val (.long (0 : Int64)), .second, .val (.long (fPick ((XT.ushr x4 (1 : Int32)) &&& (3 : Int32)) x1 (0 : Int64) (0 : Int64) x0)), .second, .unset, .unset, .unset, .unset, .unset, .unset, .unset, .unset, .unset, .unset] [(.long (0 : Int64)), (.long x2), (.int ((XT.ushr x4 (3 : Int32)) &&& (3 : Int32)))])
    refine go_st (fun _ kq => XT.lload X108.here hx rfl (hb hby at_40) rfl kq) ?_
    show Go p e below s _ _ _ T108 (mkF m 42 #[.val (.long x0), .second, .val (.long x1), .second, .val (.long x2), .second, .val (.long x3), .second, .val (.int x4), .val (.long (0 : Int64)), .second, .val (.long (fPick ((XT.ushr x4 (1 : Int32)) &&& (3 : Int32)) x1 (0 : Int64) (0 : Int64) x0)), .second, .unset, .unset, .unset, .unset, .unset, .unset, .unset, .unset, .unset, .unset] [(.long (fPick ((XT.ushr x4 (1 : Int32)) &&& (3 : Int32)) x1 (0 : Int64) (0 : Int64) x0)), (.long (0 : Int64)), (.long x2), (.int ((XT.ushr x4 (3 : Int32)) &&& (3 : Int32)))])
    refine go_st (fun _ kq => XT.lconstV X108.here hx rfl (0 : Int64) (hb hby at_42) (by decide) kq) ?_
    show Go p e below s _ _ _ T108 (mkF m 43 #[.val (.long x0), .second, .val (.long x1), .second, .val (.long x2), .second, .val (.long x3), .second, .val (.int x4), .val (.long (0 : Int64)), .second, .val (.long (fPick ((XT.ushr x4 (1 : Int32)) &&& (3 : Int32)) x1 (0 : Int64) (0 : Int64) x0)), .second, .unset, .unset, .unset, .unset, .unset, .unset, .unset, .unset, .unset, .unset] [(.long (0 : Int64)), (.long (fPick ((XT.ushr x4 (1 : Int32)) &&& (3 : Int32)) x1 (0 : Int64) (0 : Int64) x0)), (.long (0 : Int64)), (.long x2), (.int ((XT.ushr x4 (3 : Int32)) &&& (3 : Int32)))])
    refine go_callS X108 hx hZ hml hown (hw _ (List.mem_of_getElem? (i := 0) rfl)) (hw _ (List.mem_of_getElem? (i := 1) rfl)) (hw _ (List.mem_of_getElem? (i := 2) rfl)) (hw _ (List.mem_of_getElem? (i := 3) rfl)) e108 (argsL := [(.int ((XT.ushr x4 (3 : Int32)) &&& (3 : Int32))), (.long x2), (.long (0 : Int64)), (.long (fPick ((XT.ushr x4 (1 : Int32)) &&& (3 : Int32)) x1 (0 : Int64) (0 : Int64) x0)), (.long (0 : Int64))]) (rest := []) (W := 0) (met_1 l Z a0 hw ((XT.ushr x4 (3 : Int32)) &&& (3 : Int32)) x2 (0 : Int64) (fPick ((XT.ushr x4 (1 : Int32)) &&& (3 : Int32)) x1 (0 : Int64) (0 : Int64) x0) (0 : Int64) h0 n0) (hb hby at_43) rfl rfl rfl (lenOf pd4 rfl) (by show 2 * 0 + _ ≤ _; exact Nat.le_of_eq rfl) (by decide) (by decide) (by decide) (by decide) (by decide) ?_
    intro T109 v109 L109 X109 q109
    obtain ⟨rfl, M109, e109⟩ := q109
    have N109 := Fr.app N108 M109
    show Go p e below s _ _ _ T109 (mkF m 46 #[.val (.long x0), .second, .val (.long x1), .second, .val (.long x2), .second, .val (.long x3), .second, .val (.int x4), .val (.long (0 : Int64)), .second, .val (.long (fPick ((XT.ushr x4 (1 : Int32)) &&& (3 : Int32)) x1 (0 : Int64) (0 : Int64) x0)), .second, .unset, .unset, .unset, .unset, .unset, .unset, .unset, .unset, .unset, .unset] [(.long (fPick ((XT.ushr x4 (3 : Int32)) &&& (3 : Int32)) x2 (0 : Int64) (fPick ((XT.ushr x4 (1 : Int32)) &&& (3 : Int32)) x1 (0 : Int64) (0 : Int64) x0) (0 : Int64)))])
    refine go_st (fun _ kq => XT.lstore X109.here hx rfl (hb hby at_46) rfl (l' := #[.val (.long x0), .second, .val (.long x1), .second, .val (.long x2), .second, .val (.long x3), .second, .val (.int x4), .val (.long (0 : Int64)), .second, .val (.long (fPick ((XT.ushr x4 (1 : Int32)) &&& (3 : Int32)) x1 (0 : Int64) (0 : Int64) x0)), .second, .val (.long (fPick ((XT.ushr x4 (3 : Int32)) &&& (3 : Int32)) x2 (0 : Int64) (fPick ((XT.ushr x4 (1 : Int32)) &&& (3 : Int32)) x1 (0 : Int64) (0 : Int64) x0) (0 : Int64))), .second, .unset, .unset, .unset, .unset, .unset, .unset, .unset, .unset]) rfl kq) ?_
    show Go p e below s _ _ _ T109 (mkF m 48 #[.val (.long x0), .second, .val (.long x1), .second, .val (.long x2), .second, .val (.long x3), .second, .val (.int x4), .val (.long (0 : Int64)), .second, .val (.long (fPick ((XT.ushr x4 (1 : Int32)) &&& (3 : Int32)) x1 (0 : Int64) (0 : Int64) x0)), .second, .val (.long (fPick ((XT.ushr x4 (3 : Int32)) &&& (3 : Int32)) x2 (0 : Int64) (fPick ((XT.ushr x4 (1 : Int32)) &&& (3 : Int32)) x1 (0 : Int64) (0 : Int64) x0) (0 : Int64))), .second, .unset, .unset, .unset, .unset, .unset, .unset, .unset, .unset] [])
    refine go_st (fun _ kq => XS.iload X109.here hx rfl (hb hby at_48) rfl kq) ?_
    show Go p e below s _ _ _ T109 (mkF m 50 #[.val (.long x0), .second, .val (.long x1), .second, .val (.long x2), .second, .val (.long x3), .second, .val (.int x4), .val (.long (0 : Int64)), .second, .val (.long (fPick ((XT.ushr x4 (1 : Int32)) &&& (3 : Int32)) x1 (0 : Int64) (0 : Int64) x0)), .second, .val (.long (fPick ((XT.ushr x4 (3 : Int32)) &&& (3 : Int32)) x2 (0 : Int64) (fPick ((XT.ushr x4 (1 : Int32)) &&& (3 : Int32)) x1 (0 : Int64) (0 : Int64) x0) (0 : Int64))), .second, .unset, .unset, .unset, .unset, .unset, .unset, .unset, .unset] [(.int x4)])
    refine go_st (fun _ kq => XT.iconstV X109.here hx rfl (5 : Int32) (hb hby at_50) (by decide) kq) ?_
    show Go p e below s _ _ _ T109 (mkF m 51 #[.val (.long x0), .second, .val (.long x1), .second, .val (.long x2), .second, .val (.long x3), .second, .val (.int x4), .val (.long (0 : Int64)), .second, .val (.long (fPick ((XT.ushr x4 (1 : Int32)) &&& (3 : Int32)) x1 (0 : Int64) (0 : Int64) x0)), .second, .val (.long (fPick ((XT.ushr x4 (3 : Int32)) &&& (3 : Int32)) x2 (0 : Int64) (fPick ((XT.ushr x4 (1 : Int32)) &&& (3 : Int32)) x1 (0 : Int64) (0 : Int64) x0) (0 : Int64))), .second, .unset, .unset, .unset, .unset, .unset, .unset, .unset, .unset] [(.int (5 : Int32)), (.int x4)])
    refine go_st (fun _ kq => XT.iushr X109.here hx rfl (hb hby at_51) rfl kq) ?_
    show Go p e below s _ _ _ T109 (mkF m 52 #[.val (.long x0), .second, .val (.long x1), .second, .val (.long x2), .second, .val (.long x3), .second, .val (.int x4), .val (.long (0 : Int64)), .second, .val (.long (fPick ((XT.ushr x4 (1 : Int32)) &&& (3 : Int32)) x1 (0 : Int64) (0 : Int64) x0)), .second, .val (.long (fPick ((XT.ushr x4 (3 : Int32)) &&& (3 : Int32)) x2 (0 : Int64) (fPick ((XT.ushr x4 (1 : Int32)) &&& (3 : Int32)) x1 (0 : Int64) (0 : Int64) x0) (0 : Int64))), .second, .unset, .unset, .unset, .unset, .unset, .unset, .unset, .unset] [(.int (XT.ushr x4 (5 : Int32)))])
    refine go_st (fun _ kq => XT.iconstV X109.here hx rfl (3 : Int32) (hb hby at_52) (by decide) kq) ?_
    show Go p e below s _ _ _ T109 (mkF m 53 #[.val (.long x0), .second, .val (.long x1), .second, .val (.long x2), .second, .val (.long x3), .second, .val (.int x4), .val (.long (0 : Int64)), .second, .val (.long (fPick ((XT.ushr x4 (1 : Int32)) &&& (3 : Int32)) x1 (0 : Int64) (0 : Int64) x0)), .second, .val (.long (fPick ((XT.ushr x4 (3 : Int32)) &&& (3 : Int32)) x2 (0 : Int64) (fPick ((XT.ushr x4 (1 : Int32)) &&& (3 : Int32)) x1 (0 : Int64) (0 : Int64) x0) (0 : Int64))), .second, .unset, .unset, .unset, .unset, .unset, .unset, .unset, .unset] [(.int (3 : Int32)), (.int (XT.ushr x4 (5 : Int32)))])
    refine go_st (fun _ kq => XS.iand X109.here hx rfl (hb hby at_53) rfl kq) ?_
    show Go p e below s _ _ _ T109 (mkF m 54 #[.val (.long x0), .second, .val (.long x1), .second, .val (.long x2), .second, .val (.long x3), .second, .val (.int x4), .val (.long (0 : Int64)), .second, .val (.long (fPick ((XT.ushr x4 (1 : Int32)) &&& (3 : Int32)) x1 (0 : Int64) (0 : Int64) x0)), .second, .val (.long (fPick ((XT.ushr x4 (3 : Int32)) &&& (3 : Int32)) x2 (0 : Int64) (fPick ((XT.ushr x4 (1 : Int32)) &&& (3 : Int32)) x1 (0 : Int64) (0 : Int64) x0) (0 : Int64))), .second, .unset, .unset, .unset, .unset, .unset, .unset, .unset, .unset] [(.int ((XT.ushr x4 (5 : Int32)) &&& (3 : Int32)))])
    refine go_st (fun _ kq => XT.lload X109.here hx rfl (hb hby at_54) rfl kq) ?_
    show Go p e below s _ _ _ T109 (mkF m 56 #[.val (.long x0), .second, .val (.long x1), .second, .val (.long x2), .second, .val (.long x3), .second, .val (.int x4), .val (.long (0 : Int64)), .second, .val (.long (fPick ((XT.ushr x4 (1 : Int32)) &&& (3 : Int32)) x1 (0 : Int64) (0 : Int64) x0)), .second, .val (.long (fPick ((XT.ushr x4 (3 : Int32)) &&& (3 : Int32)) x2 (0 : Int64) (fPick ((XT.ushr x4 (1 : Int32)) &&& (3 : Int32)) x1 (0 : Int64) (0 : Int64) x0) (0 : Int64))), .second, .unset, .unset, .unset, .unset, .unset, .unset, .unset, .unset] [(.long x3), (.int ((XT.ushr x4 (5 : Int32)) &&& (3 : Int32)))])
    refine go_st (fun _ kq => XT.lload X109.here hx rfl (hb hby at_56) rfl kq) ?_
    show Go p e below s _ _ _ T109 (mkF m 58 #[.val (.long x0), .second, .val (.long x1), .second, .val (.long x2), .second, .val (.long x3), .second, .val (.int x4), .val (.long (0 : Int64)), .second, .val (.long (fPick ((XT.ushr x4 (1 : Int32)) &&& (3 : Int32)) x1 (0 : Int64) (0 : Int64) x0)), .second, .val (.long (fPick ((XT.ushr x4 (3 : Int32)) &&& (3 : Int32)) x2 (0 : Int64) (fPick ((XT.ushr x4 (1 : Int32)) &&& (3 : Int32)) x1 (0 : Int64) (0 : Int64) x0) (0 : Int64))), .second, .unset, .unset, .unset, .unset, .unset, .unset, .unset, .unset] [(.long (fPick ((XT.ushr x4 (1 : Int32)) &&& (3 : Int32)) x1 (0 : Int64) (0 : Int64) x0)), (.long x3), (.int ((XT.ushr x4 (5 : Int32)) &&& (3 : Int32)))])
    refine go_st (fun _ kq => XT.lload X109.here hx rfl (hb hby at_58) rfl kq) ?_
    show Go p e below s _ _ _ T109 (mkF m 60 #[.val (.long x0), .second, .val (.long x1), .second, .val (.long x2), .second, .val (.long x3), .second, .val (.int x4), .val (.long (0 : Int64)), .second, .val (.long (fPick ((XT.ushr x4 (1 : Int32)) &&& (3 : Int32)) x1 (0 : Int64) (0 : Int64) x0)), .second, .val (.long (fPick ((XT.ushr x4 (3 : Int32)) &&& (3 : Int32)) x2 (0 : Int64) (fPick ((XT.ushr x4 (1 : Int32)) &&& (3 : Int32)) x1 (0 : Int64) (0 : Int64) x0) (0 : Int64))), .second, .unset, .unset, .unset, .unset, .unset, .unset, .unset, .unset] [(.long (fPick ((XT.ushr x4 (3 : Int32)) &&& (3 : Int32)) x2 (0 : Int64) (fPick ((XT.ushr x4 (1 : Int32)) &&& (3 : Int32)) x1 (0 : Int64) (0 : Int64) x0) (0 : Int64))), (.long (fPick ((XT.ushr x4 (1 : Int32)) &&& (3 : Int32)) x1 (0 : Int64) (0 : Int64) x0)), (.long x3), (.int ((XT.ushr x4 (5 : Int32)) &&& (3 : Int32)))])
    refine go_st (fun _ kq => XT.lconstV X109.here hx rfl (0 : Int64) (hb hby at_60) (by decide) kq) ?_
    show Go p e below s _ _ _ T109 (mkF m 61 #[.val (.long x0), .second, .val (.long x1), .second, .val (.long x2), .second, .val (.long x3), .second, .val (.int x4), .val (.long (0 : Int64)), .second, .val (.long (fPick ((XT.ushr x4 (1 : Int32)) &&& (3 : Int32)) x1 (0 : Int64) (0 : Int64) x0)), .second, .val (.long (fPick ((XT.ushr x4 (3 : Int32)) &&& (3 : Int32)) x2 (0 : Int64) (fPick ((XT.ushr x4 (1 : Int32)) &&& (3 : Int32)) x1 (0 : Int64) (0 : Int64) x0) (0 : Int64))), .second, .unset, .unset, .unset, .unset, .unset, .unset, .unset, .unset] [(.long (0 : Int64)), (.long (fPick ((XT.ushr x4 (3 : Int32)) &&& (3 : Int32)) x2 (0 : Int64) (fPick ((XT.ushr x4 (1 : Int32)) &&& (3 : Int32)) x1 (0 : Int64) (0 : Int64) x0) (0 : Int64))), (.long (fPick ((XT.ushr x4 (1 : Int32)) &&& (3 : Int32)) x1 (0 : Int64) (0 : Int64) x0)), (.long x3), (.int ((XT.ushr x4 (5 : Int32)) &&& (3 : Int32)))])
    refine go_callS X109 hx hZ hml hown (hw _ (List.mem_of_getElem? (i := 0) rfl)) (hw _ (List.mem_of_getElem? (i := 1) rfl)) (hw _ (List.mem_of_getElem? (i := 2) rfl)) (hw _ (List.mem_of_getElem? (i := 3) rfl)) e109 (argsL := [(.int ((XT.ushr x4 (5 : Int32)) &&& (3 : Int32))), (.long x3), (.long (fPick ((XT.ushr x4 (1 : Int32)) &&& (3 : Int32)) x1 (0 : Int64) (0 : Int64) x0)), (.long (fPick ((XT.ushr x4 (3 : Int32)) &&& (3 : Int32)) x2 (0 : Int64) (fPick ((XT.ushr x4 (1 : Int32)) &&& (3 : Int32)) x1 (0 : Int64) (0 : Int64) x0) (0 : Int64))), (.long (0 : Int64))]) (rest := []) (W := 0) (met_1 l Z a0 hw ((XT.ushr x4 (5 : Int32)) &&& (3 : Int32)) x3 (fPick ((XT.ushr x4 (1 : Int32)) &&& (3 : Int32)) x1 (0 : Int64) (0 : Int64) x0) (fPick ((XT.ushr x4 (3 : Int32)) &&& (3 : Int32)) x2 (0 : Int64) (fPick ((XT.ushr x4 (1 : Int32)) &&& (3 : Int32)) x1 (0 : Int64) (0 : Int64) x0) (0 : Int64)) (0 : Int64) h0 n0) (hb hby at_61) rfl rfl rfl (lenOf pd4 rfl) (by show 2 * 0 + _ ≤ _; exact Nat.le_of_eq rfl) (by decide) (by decide) (by decide) (by decide) (by decide) ?_
    intro T110 v110 L110 X110 q110
    obtain ⟨rfl, M110, e110⟩ := q110
    have N110 := Fr.app N109 M110
    show Go p e below s _ _ _ T110 (mkF m 64 #[.val (.long x0), .second, .val (.long x1), .second, .val (.long x2), .second, .val (.long x3), .second, .val (.int x4), .val (.long (0 : Int64)), .second, .val (.long (fPick ((XT.ushr x4 (1 : Int32)) &&& (3 : Int32)) x1 (0 : Int64) (0 : Int64) x0)), .second, .val (.long (fPick ((XT.ushr x4 (3 : Int32)) &&& (3 : Int32)) x2 (0 : Int64) (fPick ((XT.ushr x4 (1 : Int32)) &&& (3 : Int32)) x1 (0 : Int64) (0 : Int64) x0) (0 : Int64))), .second, .unset, .unset, .unset, .unset, .unset, .unset, .unset, .unset] [(.long (fPick ((XT.ushr x4 (5 : Int32)) &&& (3 : Int32)) x3 (fPick ((XT.ushr x4 (1 : Int32)) &&& (3 : Int32)) x1 (0 : Int64) (0 : Int64) x0) (fPick ((XT.ushr x4 (3 : Int32)) &&& (3 : Int32)) x2 (0 : Int64) (fPick ((XT.ushr x4 (1 : Int32)) &&& (3 : Int32)) x1 (0 : Int64) (0 : Int64) x0) (0 : Int64)) (0 : Int64)))])
    refine go_st (fun _ kq => XT.lstore X110.here hx rfl (hb hby at_64) rfl (l' := #[.val (.long x0), .second, .val (.long x1), .second, .val (.long x2), .second, .val (.long x3), .second, .val (.int x4), .val (.long (0 : Int64)), .second, .val (.long (fPick ((XT.ushr x4 (1 : Int32)) &&& (3 : Int32)) x1 (0 : Int64) (0 : Int64) x0)), .second, .val (.long (fPick ((XT.ushr x4 (3 : Int32)) &&& (3 : Int32)) x2 (0 : Int64) (fPick ((XT.ushr x4 (1 : Int32)) &&& (3 : Int32)) x1 (0 : Int64) (0 : Int64) x0) (0 : Int64))), .second, .val (.long (fPick ((XT.ushr x4 (5 : Int32)) &&& (3 : Int32)) x3 (fPick ((XT.ushr x4 (1 : Int32)) &&& (3 : Int32)) x1 (0 : Int64) (0 : Int64) x0) (fPick ((XT.ushr x4 (3 : Int32)) &&& (3 : Int32)) x2 (0 : Int64) (fPick ((XT.ushr x4 (1 : Int32)) &&& (3 : Int32)) x1 (0 : Int64) (0 : Int64) x0) (0 : Int64)) (0 : Int64))), .second, .unset, .unset, .unset, .unset, .unset, .unset]) rfl kq) ?_
    show Go p e below s _ _ _ T110 (mkF m 66 #[.val (.long x0), .second, .val (.long x1), .second, .val (.long x2), .second, .val (.long x3), .second, .val (.int x4), .val (.long (0 : Int64)), .second, .val (.long (fPick ((XT.ushr x4 (1 : Int32)) &&& (3 : Int32)) x1 (0 : Int64) (0 : Int64) x0)), .second, .val (.long (fPick ((XT.ushr x4 (3 : Int32)) &&& (3 : Int32)) x2 (0 : Int64) (fPick ((XT.ushr x4 (1 : Int32)) &&& (3 : Int32)) x1 (0 : Int64) (0 : Int64) x0) (0 : Int64))), .second, .val (.long (fPick ((XT.ushr x4 (5 : Int32)) &&& (3 : Int32)) x3 (fPick ((XT.ushr x4 (1 : Int32)) &&& (3 : Int32)) x1 (0 : Int64) (0 : Int64) x0) (fPick ((XT.ushr x4 (3 : Int32)) &&& (3 : Int32)) x2 (0 : Int64) (fPick ((XT.ushr x4 (1 : Int32)) &&& (3 : Int32)) x1 (0 : Int64) (0 : Int64) x0) (0 : Int64)) (0 : Int64))), .second, .unset, .unset, .unset, .unset, .unset, .unset] [])
    refine go_st (fun _ kq => XT.iconstV X110.here hx rfl (1 : Int32) (hb hby at_66) (by decide) kq) ?_
    show Go p e below s _ _ _ T110 (mkF m 67 #[.val (.long x0), .second, .val (.long x1), .second, .val (.long x2), .second, .val (.long x3), .second, .val (.int x4), .val (.long (0 : Int64)), .second, .val (.long (fPick ((XT.ushr x4 (1 : Int32)) &&& (3 : Int32)) x1 (0 : Int64) (0 : Int64) x0)), .second, .val (.long (fPick ((XT.ushr x4 (3 : Int32)) &&& (3 : Int32)) x2 (0 : Int64) (fPick ((XT.ushr x4 (1 : Int32)) &&& (3 : Int32)) x1 (0 : Int64) (0 : Int64) x0) (0 : Int64))), .second, .val (.long (fPick ((XT.ushr x4 (5 : Int32)) &&& (3 : Int32)) x3 (fPick ((XT.ushr x4 (1 : Int32)) &&& (3 : Int32)) x1 (0 : Int64) (0 : Int64) x0) (fPick ((XT.ushr x4 (3 : Int32)) &&& (3 : Int32)) x2 (0 : Int64) (fPick ((XT.ushr x4 (1 : Int32)) &&& (3 : Int32)) x1 (0 : Int64) (0 : Int64) x0) (0 : Int64)) (0 : Int64))), .second, .unset, .unset, .unset, .unset, .unset, .unset] [(.int (1 : Int32))])
    refine go_st (fun _ kq => XS.istore X110.here hx rfl (hb hby at_67) rfl (l' := #[.val (.long x0), .second, .val (.long x1), .second, .val (.long x2), .second, .val (.long x3), .second, .val (.int x4), .val (.long (0 : Int64)), .second, .val (.long (fPick ((XT.ushr x4 (1 : Int32)) &&& (3 : Int32)) x1 (0 : Int64) (0 : Int64) x0)), .second, .val (.long (fPick ((XT.ushr x4 (3 : Int32)) &&& (3 : Int32)) x2 (0 : Int64) (fPick ((XT.ushr x4 (1 : Int32)) &&& (3 : Int32)) x1 (0 : Int64) (0 : Int64) x0) (0 : Int64))), .second, .val (.long (fPick ((XT.ushr x4 (5 : Int32)) &&& (3 : Int32)) x3 (fPick ((XT.ushr x4 (1 : Int32)) &&& (3 : Int32)) x1 (0 : Int64) (0 : Int64) x0) (fPick ((XT.ushr x4 (3 : Int32)) &&& (3 : Int32)) x2 (0 : Int64) (fPick ((XT.ushr x4 (1 : Int32)) &&& (3 : Int32)) x1 (0 : Int64) (0 : Int64) x0) (0 : Int64)) (0 : Int64))), .second, .val (.int (1 : Int32)), .unset, .unset, .unset, .unset, .unset]) rfl kq) ?_
    show Go p e below s _ _ _ T110 (mkF m 69 #[.val (.long x0), .second, .val (.long x1), .second, .val (.long x2), .second, .val (.long x3), .second, .val (.int x4), .val (.long (0 : Int64)), .second, .val (.long (fPick ((XT.ushr x4 (1 : Int32)) &&& (3 : Int32)) x1 (0 : Int64) (0 : Int64) x0)), .second, .val (.long (fPick ((XT.ushr x4 (3 : Int32)) &&& (3 : Int32)) x2 (0 : Int64) (fPick ((XT.ushr x4 (1 : Int32)) &&& (3 : Int32)) x1 (0 : Int64) (0 : Int64) x0) (0 : Int64))), .second, .val (.long (fPick ((XT.ushr x4 (5 : Int32)) &&& (3 : Int32)) x3 (fPick ((XT.ushr x4 (1 : Int32)) &&& (3 : Int32)) x1 (0 : Int64) (0 : Int64) x0) (fPick ((XT.ushr x4 (3 : Int32)) &&& (3 : Int32)) x2 (0 : Int64) (fPick ((XT.ushr x4 (1 : Int32)) &&& (3 : Int32)) x1 (0 : Int64) (0 : Int64) x0) (0 : Int64)) (0 : Int64))), .second, .val (.int (1 : Int32)), .unset, .unset, .unset, .unset, .unset] [])
    exact blk69 l Z a0 hw ct0 x0 x1 x2 x3 x4 (0 : Int64) (fPick ((XT.ushr x4 (1 : Int32)) &&& (3 : Int32)) x1 (0 : Int64) (0 : Int64) x0) (fPick ((XT.ushr x4 (3 : Int32)) &&& (3 : Int32)) x2 (0 : Int64) (fPick ((XT.ushr x4 (1 : Int32)) &&& (3 : Int32)) x1 (0 : Int64) (0 : Int64) x0) (0 : Int64)) (fPick ((XT.ushr x4 (5 : Int32)) &&& (3 : Int32)) x3 (fPick ((XT.ushr x4 (1 : Int32)) &&& (3 : Int32)) x1 (0 : Int64) (0 : Int64) x0) (fPick ((XT.ushr x4 (3 : Int32)) &&& (3 : Int32)) x2 (0 : Int64) (fPick ((XT.ushr x4 (1 : Int32)) &&& (3 : Int32)) x1 (0 : Int64) (0 : Int64) x0) (0 : Int64)) (0 : Int64)) X110 e110 n0 Z0 N110
set_option maxRecDepth 65536 in
set_option maxHeartbeats 4000000 in
theorem comes_1 {Post : Tables → Env → Array Value → State → Outcome → State → Prop} (hpost : ∀ tb e args s v u, (limb_1_1.after args s (.returned v) u = true ∧ limb_1_2.after args s (.returned v) u = true ∧ True) → FrameEnd s (.returned v) u (Jvm.fieldLocs frame_1_writes args s ++ Jvm.arrayLocs frame_1_arrays args s ++ Jvm.staticLocs frame_1_statics s) 16 128 → Post tb e args s (.returned v) u) :
    ArmFor flags0 classFile x code maxLocals ret World_1 tables_1 room_1 Calls_1 rest_1 Pre_1 Post := by
  intro l hfl _ _ p e ha hc hk s m args below hf hA hF happ hP
  obtain ⟨hcalls, hrest, hpre⟩ := hP
  obtain ⟨-, -, -, hnamed, -, -, -, hat⟩ := (Spec.applies_iff hf).mp happ
  obtain ⟨hg, hn⟩ := and_e (Cond.before_iff.mp (show (Jvm.Cond.and given_1 narrow_1).before args s = true from hpre))
  obtain ⟨k1, r1⟩ := and_e hg
  obtain ⟨g0, r2⟩ := and_e r1
  obtain ⟨g1, r3⟩ := and_e r2
  obtain ⟨g2, r4⟩ := and_e r3
  obtain ⟨g3, r5⟩ := and_e r4
  have g4 := r5
  obtain ⟨w0, w1, w2, w3, w4, rfl⟩ : ∃ w0 w1 w2 w3 w4 : Value, args = #[w0, w1, w2, w3, w4] := by
    have hs : args.size = 5 := by simpa [Cond.value, given_1] using k1
    obtain ⟨L⟩ := args
    match L, hs with
    | [w0, w1, w2, w3, w4], _ => exact ⟨w0, w1, w2, w3, w4, rfl⟩
  have hw := fun d (hd : d ∈ tables_1) => atoms_spec (ws := Jvm.Cond.code x code maxLocals ret :: tables_1) hat d (List.mem_cons_of_mem _ hd)
  have hfit : Fit s := fun {y c} hc i hi => by
    obtain ⟨ha, rfl⟩ := Array.getElem?_eq_some_iff.mp hc
    have q := List.all_eq_true.mp ((Array.all_eq_true_iff_forall_mem.mp hF) _ (Array.getElem_mem ha)) i (List.mem_range.mpr hi)
    simpa [Array.getElem?_eq_getElem hi] using q
  obtain ⟨i0, f0⟩ := isL_v g0
  obtain rfl : w0 = (.long i0) := Option.some.inj f0
  obtain ⟨i1, f1⟩ := isL_v g1
  obtain rfl : w1 = (.long i1) := Option.some.inj f1
  obtain ⟨i2, f2⟩ := isL_v g2
  obtain rfl : w2 = (.long i2) := Option.some.inj f2
  obtain ⟨i3, f3⟩ := isL_v g3
  obtain rfl : w3 = (.long i3) := Option.some.inj f3
  obtain ⟨i4, f4⟩ := is_v g4
  obtain rfl : w4 = (.int i4) := Option.some.inj f4
  have hm := met_law l s _ hw i0 i1 i2 i3 i4 s.heap s.heap.size (Nat.le_refl _)
  obtain ⟨n, o, h1, h2, h3, _, L, rfl, ⟨rfl, N⟩, hq⟩ := hm p e ha hc hk s m _ below hf ((Spec.applies_iff_loose hf).mp happ).1 ⟨rfl, State.Warmed39.refl s, rfl⟩ trivial
  refine ⟨n, _, h1, h2, h3, hpost _ _ _ _ _ _ ⟨Cond.after_iff.mpr rfl, Cond.after_iff.mpr (eq_i res_at (Term.int_eval (1)) rfl), trivial⟩ ⟨hq.1, hq.2.1, (hq.2.2.sift fun y hy => Or.inr (N y hy)).mono (by decide) (by decide)⟩⟩
theorem main_1_1 : Claimed_1_1 := comes_1 fun _ _ _ _ _ _ h hF => ⟨h.1, hF⟩
theorem main_1_2 : Claimed_1_2 := comes_1 fun _ _ _ _ _ _ h hF => ⟨h.2.1, hF⟩
end Jvm.Pilot.@@N@@
namespace Jvm.Pilot.@@N@@
open Jvm Jvm.ClassFile Sem Op Lib Jvm.Free Jvm.Stand Jvm.Pilot.@@N@@.Jvm.D
/-! MADE BY PROGRAM (witnessworld.py) out of the Statement's table words and the real class files: 11 classes; the members and pool entries that the words name. The judged class is class 1, her method 2. -/
namespace start1
open Jvm.ClassFile
def u (s : String) : CpInfo := .utf8 (stringToUtf16 s)
/-- a pool by its gaps: so many unusable entries, then the entry; so many at the end -/
def gap : Nat → List CpInfo → List CpInfo
  | 0, r => r
  | n + 1, r => .unusable :: gap n r
def poolList (es : List (Nat × CpInfo)) (last : Nat) : List CpInfo := es.foldr (fun e r => gap e.1 (e.2 :: r)) (gap last [])
def pool (es : List (Nat × CpInfo)) (last : Nat) : Array CpInfo := ⟨poolList es last⟩
def fileOf (pool : Array CpInfo) (this : Nat) (attrs : Array Attribute := #[]) (ms : Array MethodInfo := #[]) (fl : Nat := 33) (sup : Nat := 0) (ifs : Array Nat := #[]) (fds : Array FieldInfo := #[]) : ClassFile where
  minorVersion := 0
  majorVersion := 65
  constantPool := pool
  accessFlags := fl
  thisClass := this
  superClass := sup
  interfaces := ifs
  fields := fds
  methods := ms
  attributes := attrs
def plain (name : String) (sup : Option ClassId) : Class where
  name := name
  kind := .ordinary
  loader := none
  accessFlags := 33
  super := sup
  interfaces := #[]
  cf := none
  fields := #[]
  methods := #[]
  instanceTypes := #[]
  staticTypes := #[]
  resolved := #[]
  callSites := []
  init := .initialized
  statics := none
  mirror := none

def pool0 : Array CpInfo := pool [(5, u "<init>"), (0, u "()V"), (1, .class_ 10), (1, u "java/lang/Object")] 113

def k0c0 : Code := { maxStack := 0, maxLocals := 1, code := object_method_1_code, exceptionTable := #[], attributes := #[] }
def k0m0 : Method := { name := "<init>", desc := "()V", sig := { parameters := [], returnType := none }, accessFlags := 1, code := some k0c0 }
/-- java/lang/Object -/
def k0 : Class := { plain "java/lang/Object" none with
  accessFlags := 33
  interfaces := #[]
  cf := some (fileOf pool0 8 #[] #[{ accessFlags := 1, nameIndex := 5, descriptorIndex := 6, attributes := #[] }] 33 0 #[] #[])
  fields := #[]
  methods := #[k0m0]
  instanceTypes := #[]
  staticTypes := #[]
  resolved := Array.replicate 124 none
  statics := none }

def pool1 : Array CpInfo := pool [(2, .class_ 4), (0, .nameAndType 5 6), (0, u "java/lang/Object"), (0, u "<init>"), (0, u "()V"), (0, .methodref 8 9), (0, .class_ 10), (0, .nameAndType 11 12), (0, u "com/example/skipstone/skipstone/prune/DistinctHashesCountPinLaw"), (0, u "pick"), (0, u "(IJJJJ)J"), (0, .class_ 14), (0, u "com/example/skipstone/skipstone/prune/DistinctHashes"), (0, .methodref 13 3), (0, .methodref 13 17), (0, .nameAndType 18 19), (0, u "count"), (0, u "()I"), (0, .methodref 13 21), (0, .nameAndType 22 23), (0, u "add"), (0, u "(J)V"), (3, u "law"), (0, u "(JJJJI)Z")] 2

def k1m0 : Method := { name := "<init>", desc := "()V", sig := { parameters := [], returnType := none }, accessFlags := 1, code := none }
def k1c1 : Code := { maxStack := 2, maxLocals := 9, code := method_2_code, exceptionTable := #[], attributes := #[] }
def k1m1 : Method := { name := "pick", desc := "(IJJJJ)J", sig := { parameters := [.int, .long, .long, .long, .long], returnType := some .long }, accessFlags := 10, code := some k1c1 }
def k1c2 : Code := { maxStack := 9, maxLocals := 23, code := code, exceptionTable := #[], attributes := #[] }
def k1m2 : Method := { name := "law", desc := "(JJJJI)Z", sig := { parameters := [.long, .long, .long, .long, .int], returnType := some .boolean }, accessFlags := 9, code := some k1c2 }
/-- com/example/skipstone/skipstone/prune/DistinctHashesCountPinLaw -/
def k1 : Class := { plain "com/example/skipstone/skipstone/prune/DistinctHashesCountPinLaw" (some 0) with
  accessFlags := 49
  interfaces := #[]
  cf := some (fileOf pool1 8 #[] #[{ accessFlags := 1, nameIndex := 5, descriptorIndex := 6, attributes := #[] }, { accessFlags := 10, nameIndex := 11, descriptorIndex := 12, attributes := #[] }, { accessFlags := 9, nameIndex := 27, descriptorIndex := 28, attributes := #[] }] 49 2 #[] #[])
  fields := #[]
  methods := #[k1m0, k1m1, k1m2]
  instanceTypes := #[]
  staticTypes := #[]
  resolved := Array.replicate 31 none
  statics := none }

def pool2 : Array CpInfo := pool [(1, .methodref 2 3), (0, .class_ 4), (0, .nameAndType 5 6), (0, u "java/lang/Object"), (0, u "<init>"), (0, u "()V"), (0, .fieldref 8 9), (0, .class_ 10), (0, .nameAndType 11 12), (0, u "com/example/skipstone/skipstone/prune/DistinctHashes"), (0, u "slots"), (0, u "[J"), (0, .fieldref 8 14), (0, .nameAndType 15 16), (0, u "holdsZero"), (0, u "Z"), (0, .fieldref 8 18), (0, .nameAndType 19 20), (0, u "slotsUsed"), (0, u "I"), (3, .methodref 8 25), (0, .nameAndType 26 27), (0, u "find"), (0, u "([JJ)I"), (2, u "count"), (0, u "()I"), (13, u "(J)V"), (12, .long 11400714819323198485), (3, u "add")] 21

def k2c0 : Code := { maxStack := 2, maxLocals := 1, code := prog_20_method_1_code, exceptionTable := #[], attributes := #[] }
def k2m0 : Method := { name := "<init>", desc := "()V", sig := { parameters := [], returnType := none }, accessFlags := 1, code := some k2c0 }
def k2c1 : Code := { maxStack := 4, maxLocals := 4, code := prog_20_method_2_code, exceptionTable := #[], attributes := #[] }
def k2m1 : Method := { name := "add", desc := "(J)V", sig := { parameters := [.long], returnType := none }, accessFlags := 1, code := some k2c1 }
def k2c2 : Code := { maxStack := 2, maxLocals := 1, code := prog_20_method_3_code, exceptionTable := #[], attributes := #[] }
def k2m2 : Method := { name := "count", desc := "()I", sig := { parameters := [], returnType := some .int }, accessFlags := 1, code := some k2c2 }
def k2c3 : Code := { maxStack := 4, maxLocals := 5, code := prog_20_method_6_code, exceptionTable := #[], attributes := #[] }
def k2m3 : Method := { name := "find", desc := "([JJ)I", sig := { parameters := [(.array .long), .long], returnType := some .int }, accessFlags := 10, code := some k2c3 }
/-- com/example/skipstone/skipstone/prune/DistinctHashes -/
def k2 : Class := { plain "com/example/skipstone/skipstone/prune/DistinctHashes" (some 0) with
  accessFlags := 49
  interfaces := #[]
  cf := some (fileOf pool2 8 #[] #[{ accessFlags := 1, nameIndex := 5, descriptorIndex := 6, attributes := #[] }, { accessFlags := 1, nameIndex := 62, descriptorIndex := 45, attributes := #[] }, { accessFlags := 1, nameIndex := 30, descriptorIndex := 31, attributes := #[] }, { accessFlags := 10, nameIndex := 26, descriptorIndex := 27, attributes := #[] }] 49 2 #[] #[{ accessFlags := 2, nameIndex := 11, descriptorIndex := 12, attributes := #[] }, { accessFlags := 2, nameIndex := 19, descriptorIndex := 20, attributes := #[] }, { accessFlags := 2, nameIndex := 15, descriptorIndex := 16, attributes := #[] }])
  fields := #[{ name := "slots", type := (.array .long), accessFlags := 2, slot := 0, constantValue := 0 }, { name := "slotsUsed", type := .int, accessFlags := 2, slot := 1, constantValue := 0 }, { name := "holdsZero", type := .boolean, accessFlags := 2, slot := 2, constantValue := 0 }]
  methods := #[k2m0, k2m1, k2m2, k2m3]
  instanceTypes := #[(.array .long), .int, .boolean]
  staticTypes := #[]
  resolved := Array.replicate 84 none
  statics := none }

def pool3 : Array CpInfo := pool [(1, u "java/lang/Cloneable"), (0, .class_ 1), (0, u "java/lang/Object"), (0, .class_ 3)] 3

/-- java/lang/Cloneable -/
def k3 : Class := { plain "java/lang/Cloneable" (some 0) with
  accessFlags := 1537
  interfaces := #[]
  cf := some (fileOf pool3 2 #[] #[] 1537 4 #[] #[])
  fields := #[]
  methods := #[]
  instanceTypes := #[]
  staticTypes := #[]
  resolved := Array.replicate 8 none
  statics := none }

def pool4 : Array CpInfo := pool [(1, u "java/io/Serializable"), (0, .class_ 1), (0, u "java/lang/Object"), (0, .class_ 3)] 3

/-- java/io/Serializable -/
def k4 : Class := { plain "java/io/Serializable" (some 0) with
  accessFlags := 1537
  interfaces := #[]
  cf := some (fileOf pool4 2 #[] #[] 1537 4 #[] #[])
  fields := #[]
  methods := #[]
  instanceTypes := #[]
  staticTypes := #[]
  resolved := Array.replicate 8 none
  statics := none }

/-- the primitive byte -/
def k5 : Class := { plain "byte" none with kind := .primitive 'B', accessFlags := 0x411 }
/-- [B -/
def k6 : Class := { plain "[B" (some 0) with kind := .array 5 .byte, interfaces := #[3, 4], accessFlags := 1041 }

/-- the primitive int -/
def k7 : Class := { plain "int" none with kind := .primitive 'I', accessFlags := 0x411 }
/-- [I -/
def k8 : Class := { plain "[I" (some 0) with kind := .array 7 .int, interfaces := #[3, 4], accessFlags := 1041 }

/-- the primitive long -/
def k9 : Class := { plain "long" none with kind := .primitive 'J', accessFlags := 0x411 }
/-- [J -/
def k10 : Class := { plain "[J" (some 0) with kind := .array 9 .long, interfaces := #[3, 4], accessFlags := 1041 }

def heap : Heap := #[]
def classes : Array Class := #[k0, k1, k2, k3, k4, k5, k6, k7, k8, k9, k10]
def interned : List (Array UInt16 × Addr) := []
def slotsUsed : Nat := 0
def theMethod : MethodId := ⟨1, 2⟩
def args0 : Array Value := #[.long 5, .long 7, .long 5, .long 0, .int 9]
def aboutOver (below : List Frame) : State where
  vm := { classes := classes, interned := interned.toArray }
  heap := heap
  slotsUsed := slotsUsed
  threads := #[{ frames := .invoking theMethod args0 :: below }]
def below0 : List Frame := [.native { method := ⟨0, 0⟩, args := #[] }]
def about1 : State := aboutOver below0
def p0 : Program := .bare "" "" ""
def e0 : Env := launch0.env 0 0 0
theorem w_frames : about1.frames = Frame.invoking theMethod args0 :: below0 := rfl
set_option maxRecDepth 65536 in
theorem w_args : argsFit about1.vm theMethod args0 = true := by decide +kernel
set_option maxRecDepth 65536 in
theorem w_heap : heapFits about1 = true := by decide +kernel
set_option maxRecDepth 65536 in
theorem w_runnable : about1.curStatus? = some .runnable := by decide +kernel
set_option maxRecDepth 65536 in
theorem w_alone : about1.alone = true := by decide +kernel
set_option maxRecDepth 65536 in
theorem w_named : about1.methodNamed? x = some theMethod := by decide +kernel
set_option maxRecDepth 65536 in
theorem w_hears : about1.hears theMethod below0 = true := by decide +kernel
set_option maxRecDepth 65536 in
theorem w_ripe : about1.ripe theMethod args0 below0 = true := by decide +kernel
theorem w_running : about1.status = .running := rfl
set_option maxRecDepth 65536 in
theorem w_room : about1.hasRoom e0.platform room_1 = true :=
  launch0.hasRoom_least _ room_1 (by decide +kernel) (by decide +kernel) (by decide +kernel) (by decide +kernel) (by decide +kernel) (by decide +kernel)
theorem allAtoms_all (ts : List Jvm.Cond) (a : Array Jvm.Value) (st : Jvm.State) : (allAtoms ts).before a st = ts.all (fun c => c.before a st) := by
  induction ts with
  | nil => rfl
  | cons c t ih =>
    show (Jvm.Cond.and c (allAtoms t)).before a st = _
    rw [Jvm.Cond.before_and, ih, List.all_cons]
def words1 : List Jvm.Cond := Jvm.Cond.code x code maxLocals ret :: tables_1
/-- a 'code' word, met by the world's own term for the bytes: nothing is compared byte by byte -/
theorem code_word {y : MethodName} {bytes : ByteArray} {mx : Nat} {rt : Option FieldType} {a : Array Value} {s : State} {m : MethodId} {meth : Method} {c : Code} (h1 : s.methodNamed? y = some m) (h2 : s.vm.method? m = some meth) (h3 : meth.code = some c) (h4 : c.code = bytes)
    (h5 : (c.maxLocals == mx && c.exceptionTable.isEmpty && decide (c.maxStack ≤ mostOperands) && decide (meth.sig.returnType = rt) && !meth.locks && decide (parseMethodDescriptor y.desc = some meth.sig)) = true) : (Jvm.Cond.code y bytes mx rt).before a s = true := by
  simp only [Bool.and_eq_true, beq_iff_eq, Bool.not_eq_true', decide_eq_true_eq] at h5
  obtain ⟨⟨⟨⟨⟨g1, g2⟩, g3⟩, g4⟩, g5⟩, g6⟩ := h5
  simp [Cond.before, Cond.holds, Cond.value, h1, h2, h3, h4, g1, g2, g3, g4, g5, g6]
def isCode : Jvm.Cond → Bool
  | .code _ _ _ _ => true
  | _ => false
theorem all_split {L : List Jvm.Cond} {P : Jvm.Cond → Bool} (h1 : L.all (fun c => isCode c || P c) = true) (h2 : ∀ c ∈ L.filter isCode, P c = true) : L.all P = true := by
  refine List.all_eq_true.mpr fun c hc => ?_
  have h := List.all_eq_true.mp h1 c hc
  rcases Bool.eq_false_or_eq_true (isCode c) with hi | hi
  · exact h2 c (List.mem_filter.mpr ⟨hc, hi⟩)
  · simpa [hi] using h
set_option maxRecDepth 65536 in
theorem w_c0 : (Jvm.Cond.code x code maxLocals ret).before args0 about1 = true := code_word (m := ⟨1, 2⟩) (meth := k1m2) (c := k1c2) (by decide +kernel) rfl rfl rfl (by decide +kernel)
set_option maxRecDepth 65536 in
theorem w_c1 : (Jvm.Cond.code ({ cls := "com/example/skipstone/skipstone/prune/DistinctHashesCountPinLaw", name := "pick", desc := "(IJJJJ)J" } : Jvm.MethodName) method_2_code (9 : Nat) (Option.some Jvm.ClassFile.FieldType.long)).before args0 about1 = true := code_word (m := ⟨1, 1⟩) (meth := k1m1) (c := k1c1) (by decide +kernel) rfl rfl rfl (by decide +kernel)
set_option maxRecDepth 65536 in
theorem w_c2 : (Jvm.Cond.code ({ cls := "com/example/skipstone/skipstone/prune/DistinctHashes", name := "<init>", desc := "()V" } : Jvm.MethodName) prog_20_method_1_code (1 : Nat) (Option.none : Option Jvm.ClassFile.FieldType)).before args0 about1 = true := code_word (m := ⟨2, 0⟩) (meth := k2m0) (c := k2c0) (by decide +kernel) rfl rfl rfl (by decide +kernel)
set_option maxRecDepth 65536 in
theorem w_c3 : (Jvm.Cond.code ({ cls := "java/lang/Object", name := "<init>", desc := "()V" } : Jvm.MethodName) object_method_1_code (1 : Nat) (Option.none : Option Jvm.ClassFile.FieldType)).before args0 about1 = true := code_word (m := ⟨0, 0⟩) (meth := k0m0) (c := k0c0) (by decide +kernel) rfl rfl rfl (by decide +kernel)
set_option maxRecDepth 65536 in
theorem w_c4 : (Jvm.Cond.code ({ cls := "com/example/skipstone/skipstone/prune/DistinctHashes", name := "count", desc := "()I" } : Jvm.MethodName) prog_20_method_3_code (1 : Nat) (Option.some Jvm.ClassFile.FieldType.int)).before args0 about1 = true := code_word (m := ⟨2, 2⟩) (meth := k2m2) (c := k2c2) (by decide +kernel) rfl rfl rfl (by decide +kernel)
set_option maxRecDepth 65536 in
theorem w_c5 : (Jvm.Cond.code ({ cls := "com/example/skipstone/skipstone/prune/DistinctHashes", name := "add", desc := "(J)V" } : Jvm.MethodName) prog_20_method_2_code (4 : Nat) (Option.none : Option Jvm.ClassFile.FieldType)).before args0 about1 = true := code_word (m := ⟨2, 1⟩) (meth := k2m1) (c := k2c1) (by decide +kernel) rfl rfl rfl (by decide +kernel)
set_option maxRecDepth 65536 in
theorem w_c6 : (Jvm.Cond.code ({ cls := "com/example/skipstone/skipstone/prune/DistinctHashes", name := "find", desc := "([JJ)I" } : Jvm.MethodName) prog_20_method_6_code (5 : Nat) (Option.some Jvm.ClassFile.FieldType.int)).before args0 about1 = true := code_word (m := ⟨2, 3⟩) (meth := k2m3) (c := k2c3) (by decide +kernel) rfl rfl rfl (by decide +kernel)
def codes1 : List Jvm.Cond := [Jvm.Cond.code x code maxLocals ret, Jvm.Cond.code ({ cls := "com/example/skipstone/skipstone/prune/DistinctHashesCountPinLaw", name := "pick", desc := "(IJJJJ)J" } : Jvm.MethodName) method_2_code (9 : Nat) (Option.some Jvm.ClassFile.FieldType.long), Jvm.Cond.code ({ cls := "com/example/skipstone/skipstone/prune/DistinctHashes", name := "<init>", desc := "()V" } : Jvm.MethodName) prog_20_method_1_code (1 : Nat) (Option.none : Option Jvm.ClassFile.FieldType), Jvm.Cond.code ({ cls := "java/lang/Object", name := "<init>", desc := "()V" } : Jvm.MethodName) object_method_1_code (1 : Nat) (Option.none : Option Jvm.ClassFile.FieldType), Jvm.Cond.code ({ cls := "com/example/skipstone/skipstone/prune/DistinctHashes", name := "count", desc := "()I" } : Jvm.MethodName) prog_20_method_3_code (1 : Nat) (Option.some Jvm.ClassFile.FieldType.int), Jvm.Cond.code ({ cls := "com/example/skipstone/skipstone/prune/DistinctHashes", name := "add", desc := "(J)V" } : Jvm.MethodName) prog_20_method_2_code (4 : Nat) (Option.none : Option Jvm.ClassFile.FieldType), Jvm.Cond.code ({ cls := "com/example/skipstone/skipstone/prune/DistinctHashes", name := "find", desc := "([JJ)I" } : Jvm.MethodName) prog_20_method_6_code (5 : Nat) (Option.some Jvm.ClassFile.FieldType.int)]
set_option maxRecDepth 65536 in
theorem codes_eq : words1.filter isCode = codes1 := rfl
theorem w_codes : ∀ c ∈ words1.filter isCode, c.before args0 about1 = true := by
  rw [codes_eq]
  intro c hc
  simp only [codes1, List.mem_cons, List.not_mem_nil, or_false] at hc
  rcases hc with rfl | rfl | rfl | rfl | rfl | rfl | rfl
  · exact w_c0
  · exact w_c1
  · exact w_c2
  · exact w_c3
  · exact w_c4
  · exact w_c5
  · exact w_c6
set_option maxRecDepth 65536 in
theorem w_t1 : (words1.take 24).all (fun c => isCode c || c.before args0 about1) = true := by decide +kernel
set_option maxRecDepth 65536 in
theorem w_t2 : (words1.drop 24).all (fun c => isCode c || c.before args0 about1) = true := by decide +kernel
theorem w_tables : (allAtoms (Jvm.Cond.code x code maxLocals ret :: tables_1)).before args0 about1 = true := by
  rw [allAtoms_all]
  show words1.all (fun c => c.before args0 about1) = true
  refine all_split ?_ w_codes
  rw [← List.take_append_drop 24 words1, List.all_append, w_t1, w_t2]
  rfl
set_option maxRecDepth 65536 in
theorem w_case : (Jvm.Cond.and given_1 narrow_1).before args0 about1 = true := by decide +kernel
theorem w_applies : (headSpec (Jvm.Cond.code x code maxLocals ret :: tables_1) room_1).applies x e0.platform about1 = true :=
  (Spec.applies_iff w_frames).mpr ⟨w_running, w_runnable, w_alone, w_named, w_hears, w_ripe, w_room, w_tables⟩
theorem atStart : AtStart classFile x code maxLocals ret World_1 tables_1 room_1 Calls_1 rest_1 Pre_1 launch0 p0 e0 about1 theMethod args0 below0 :=
  ⟨lists_1, trivial, launch0.admits_env _ _ _, launch0.least_env, fairChoices_fair.cas, fairChoices_fair.clock, w_frames, w_args, w_heap, w_applies, trivial, trivial, w_case⟩
end start1
theorem witness_1 : WitnessClaimed_1 := ⟨start1.p0, start1.e0, start1.about1, start1.theMethod, start1.args0, start1.below0, start1.atStart⟩
end Jvm.Pilot.@@N@@
