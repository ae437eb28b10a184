import JvmDerived
import JvmDerived.Pilot.@@N@@Statement
import JvmDerived.Pilot.@@N@@Code
set_option linter.unusedVariables false
set_option linter.unusedSimpArgs false
namespace Jvm.Pilot.@@N@@
open Jvm Jvm.ClassFile Sem Op Lib Jvm.Free Jvm.Stand Jvm.LawKit Jvm.RoadKit Bundle Jvm.Pilot.@@N@@.Jvm.D
/-! own layer: a run that ends well, said backwards -/
section OwnGo
variable {p : Program} {l : Launch} {e : Env} {R : Room} {s : State} {m : MethodId} {args : Array Value} {below : List Frame} {meth : Method} {c : Code} {T T' : State} {locs : List Loc} {cells slots : Nat} {Z : State} {a0 : Array Value} {h : Heap} {Q : Option Value → Heap → List Loc → Prop} {C S maxL0 : Nat} {g g' : JFrame}
def Go (p : Program) (e : Env) (below : List Frame) (s : State) (Q : Option Value → Heap → List Loc → Prop) (C S : Nat) (T : State) (g : JFrame) : Prop :=
  ∃ s₂ o, Steps p.tables e below (T.setTop g) s₂ ∧ s₂.status = .running ∧ Ended s₂ below o ∧ ∃ v L, o = .returned v ∧ Q v s₂.heap L ∧ FrameEnd s o s₂ L C S
def Ct (p : Program) (s : State) (m : MethodId) (meth : Method) (c : Code) (Z : State) (own nm : String) (bytes : ByteArray) (maxL : Nat) (ret : Option FieldType) : Prop :=
  p.tables.exec = Jvm.exec ∧ Z.Warmed39 s.vm ∧ s.vm.findClass own = some m.cls ∧ c.code = bytes ∧ c.maxLocals = maxL ∧ meth.sig.returnType = ret ∧ meth.locks = false ∧ meth.name = nm
theorem go_st (k : ∀ t, Steps p.tables e below (T'.setTop g') t → Steps p.tables e below (T.setTop g) t) (q : Go p e below s Q C S T' g') : Go p e below s Q C S T g := by
  obtain ⟨s2, o, q1, q2⟩ := q
  exact ⟨s2, o, k _ q1, q2⟩
theorem castGo (q : g = g') (k : Go p e below s Q C S T g') : Go p e below s Q C S T g := by rw [q]; exact k
theorem go_tr (k : Steps p.tables e below (T.setTop g) (T'.setTop g')) (q : Go p e below s Q C S T' g') : Go p e below s Q C S T g := by
  obtain ⟨s2, o, q1, q2⟩ := q
  exact ⟨s2, o, k.trans q1, q2⟩
theorem go_end (X : Stand p l e R s m args below meth c T locs cells slots) (hlk : meth.locks = false) {v : Option Value} (hv : meth.sig.returnType = none → v = none)
    (hr : ∀ fs, (∀ (f : JFrame) (acts : List Action), f.method = m → f.locked = none → f.entered = [] → (doReturn e (T.setTop f) acts v).1 = T.setFrames fs) → Steps p.tables e below (T.setTop g) (T.setFrames fs))
    (hC : cells ≤ C) (hS : slots ≤ S) (hQ : Q v T.heap locs) : Go p e below s Q C S T g := by
  obtain ⟨fs, h1, hrun, hended, hW, hsame⟩ := X.leave (v := v) hv hlk
  exact ⟨_, _, hr fs h1, hrun, hended, _, _, rfl, hQ, ⟨_, rfl⟩, hW, hsame.mono hC hS⟩
theorem go_retI (X : Stand p l e R s m args below meth c T locs cells slots) (hx : p.tables.exec = Jvm.exec) (hlk : meth.locks = false) (hret : meth.sig.returnType = some .int) {pc : Nat} {Ls : Array Slot} {z : Int32} {rest : List Value} (hd : decode c.code pc = .ok (.ireturn, 1))
    (hC : cells ≤ C) (hS : slots ≤ S) (hQ : Q (some (.int z)) T.heap locs) : Go p e below s Q C S T (mkF m pc Ls (.int z :: rest)) :=
  go_end X hlk (fun h => by rw [hret] at h; cases h) (fun fs h1 => retOut X hx hret rfl (Or.inl ⟨rfl, Or.inl rfl, _, rfl⟩) hd h1) hC hS hQ
theorem go_retL (X : Stand p l e R s m args below meth c T locs cells slots) (hx : p.tables.exec = Jvm.exec) (hlk : meth.locks = false) (hret : meth.sig.returnType = some .long) {pc : Nat} {Ls : Array Slot} {z : Int64} {rest : List Value} (hd : decode c.code pc = .ok (.lreturn, 1))
    (hC : cells ≤ C) (hS : slots ≤ S) (hQ : Q (some (.long z)) T.heap locs) : Go p e below s Q C S T (mkF m pc Ls (.long z :: rest)) :=
  go_end X hlk (fun h => by rw [hret] at h; cases h) (fun fs h1 => retOut X hx hret rfl (Or.inr (Or.inl ⟨rfl, rfl, _, rfl⟩)) hd h1) hC hS hQ
theorem go_retD (X : Stand p l e R s m args below meth c T locs cells slots) (hx : p.tables.exec = Jvm.exec) (hlk : meth.locks = false) (hret : meth.sig.returnType = some .double) {pc : Nat} {Ls : Array Slot} {z : UInt64} {rest : List Value} (hd : decode c.code pc = .ok (.dreturn, 1))
    (hC : cells ≤ C) (hS : slots ≤ S) (hQ : Q (some (.double z)) T.heap locs) : Go p e below s Q C S T (mkF m pc Ls (.double z :: rest)) :=
  go_end X hlk (fun h => by rw [hret] at h; cases h) (fun fs h1 => retOut X hx hret rfl (Or.inr (Or.inr (Or.inl ⟨rfl, rfl, _, rfl⟩))) hd h1) hC hS hQ
theorem go_retA (X : Stand p l e R s m args below meth c T locs cells slots) (hx : p.tables.exec = Jvm.exec) (hlk : meth.locks = false) {t : FieldType} (hret : meth.sig.returnType = some t) (ht : t.isReference = true) {w : Value} (hw : w.isRef = true) {pc : Nat} {Ls : Array Slot} {rest : List Value} (hd : decode c.code pc = .ok (.areturn, 1))
    (hC : cells ≤ C) (hS : slots ≤ S) (hQ : Q (some w) T.heap locs) : Go p e below s Q C S T (mkF m pc Ls (w :: rest)) :=
  go_end X hlk (fun h => by rw [hret] at h; cases h) (fun fs h1 => retOut X hx hret (by cases t <;> simp_all [FieldType.isReference, narrow] <;> cases w <;> simp_all [Value.isRef, narrow]) (Or.inr (Or.inr (Or.inr (Or.inr ⟨rfl, ht, hw⟩)))) hd h1) hC hS hQ
theorem go_retB (X : Stand p l e R s m args below meth c T locs cells slots) (hx : p.tables.exec = Jvm.exec) (hlk : meth.locks = false) (hret : meth.sig.returnType = some .boolean) {pc : Nat} {Ls : Array Slot} {z w : Int32} {rest : List Value} (hd : decode c.code pc = .ok (.ireturn, 1)) (hw : z &&& 1 = w)
    (hC : cells ≤ C) (hS : slots ≤ S) (hQ : Q (some (.int w)) T.heap locs) : Go p e below s Q C S T (mkF m pc Ls (.int z :: rest)) := by
  subst hw
  exact go_end X hlk (fun h => by rw [hret] at h; cases h) (fun fs h1 => retN X hx (t := .boolean) hret (by simp) hd h1) hC hS hQ
theorem go_ret0 (X : Stand p l e R s m args below meth c T locs cells slots) (hx : p.tables.exec = Jvm.exec) (hlk : meth.locks = false) (hret : meth.sig.returnType = none) {pc : Nat} {Ls : Array Slot} (hd : decode c.code pc = .ok (.return_, 1))
    (hC : cells ≤ C) (hS : slots ≤ S) (hQ : Q none T.heap locs) : Go p e below s Q C S T (mkF m pc Ls []) :=
  go_end X hlk (fun _ => rfl) (fun fs h1 => X.returnOut hx hret hd h1) hC hS hQ
def Met (l : Launch) (y : MethodName) (bytes : ByteArray) (maxL : Nat) (ret : Option FieldType) (ws : List Cond) (rm : Room) (Z : State) (as' : Array Value) (h0 : Heap) (Q : Option Value → Heap → List Loc → Prop) (C S : Nat) : Prop :=
  MetFree l y (head1 (Jvm.Cond.code y bytes maxL ret :: ws) rm) (fun a U => a = as' ∧ Z.Warmed39 U.vm ∧ U.heap = h0) (fun _ _ _ _ _ => True) (fun _ U o U' => ∃ v L, o = .returned v ∧ Q v U'.heap L ∧ FrameEnd U o U' L C S)
def QV (w : Option Value) (h0 : Heap) (n0 : Nat) (v : Option Value) (h : Heap) (L : List Loc) : Prop := v = w ∧ Fr n0 L ∧ h = h0
def QF (w : Option Value) (n0 : Nat) (v : Option Value) (h : Heap) (L : List Loc) : Prop := v = w ∧ Fr n0 L
theorem own_body {y : MethodName} {bytes : ByteArray} {maxL : Nat} {ret : Option FieldType} {rm : Room} {as' : Array Value} {h0 : Heap} {ws : List Cond} (hn : plainFor y = true) {C S : Nat}
    (H : ∀ p e s m below meth c s₁, Ct p s m meth c Z y.cls y.name bytes maxL ret → Stand p l e rm s m as' below meth c s₁ [] 0 0 → s₁.heap = h0 → Go p e below s Q C S s₁ (entryFrame m as' maxL)) :
    Met l y bytes maxL ret ws rm Z as' h0 Q C S := by
  refine MetFree.of_bodySF hn hisR ?_
  intro p e s m args below meth c s₁ Bd hml0 hP hK
  obtain ⟨rfl, hZ, hh⟩ := hP
  have hown : s.vm.findClass y.cls = some m.cls := findClass_of_methodNamed Bd.named
  have hnm := (name_of_methodNamed Bd.named Bd.method).1
  have X0 : Stand p l e rm s m args below meth c s₁ [] 0 0 := Stand.of_body Bd
  have e0 : s₁.heap = h0 := by rw [← hh, Bd.state]; rfl
  exact H p e s m below meth c s₁ ⟨Bd.exec, hZ, hown, Bd.bytes, hml0, Bd.returns, Bd.notSynchronized, hnm⟩ X0 e0
theorem go_callS (X : Stand p l e R s m args below meth c T locs cells slots) (hx : p.tables.exec = Jvm.exec) (hZ : Z.Warmed39 s.vm) (hml : c.maxLocals = maxL0) {own : String} {index : Nat} {y : MethodName} {bytes : ByteArray} {maxL : Nat} {ret : Option FieldType} (hown : s.vm.findClass own = some m.cls)
    (w1 : (Cond.methodLink own index y).before a0 Z = true) (w2 : (Cond.static y).before a0 Z = true) (w3 : (Cond.initialized y.cls).before a0 Z = true) (w4 : (Cond.code y bytes maxL ret).before a0 Z = true) (eT : T.heap = h) {argsL rest : List Value} {rm : Room} {Q' : Option Value → Heap → List Loc → Prop} {W : Nat}
    (hM : Met l y bytes maxL ret [] rm Z argsL.toArray h Q' rm.cells rm.slots)
    (hd : decode c.code g.pc = .ok (.invokestatic index, 3)) (hs : g.stack = argsL.reverse ++ rest) (hg : g.method = m) (hsz : g.locals.size = maxL0) (hlen : ∀ sig, parseMethodDescriptor y.desc = some sig → argsL.length = sig.parameters.length) (hW : 2 * g.monitorRoom + (rest.map fun v => v.category).sum ≤ W)
    (hy : y.cls ≠ "java/lang/invoke/MethodHandle" ∧ y.cls ≠ "java/lang/invoke/VarHandle") (hf : rm.frames + 1 ≤ R.frames) (hl : W + (maxL + 11) + rm.locals ≤ R.locals) (hc : cells + rm.cells ≤ R.cells) (hsl : slots + rm.slots ≤ R.slots)
    (k : ∀ T' v L, Stand p l e R s m args below meth c T' (locs ++ L) (cells + rm.cells) (slots + rm.slots) → Q' v T'.heap L → Go p e below s Q C S T' { g with pc := g.pc + 3, stack := v.toList ++ rest }) : Go p e below s Q C S T g := by
  obtain ⟨v, _, ⟨T1, L1, k1, n1⟩, -, X1, ⟨Lc, hQ, l1, y1, z1⟩, st⟩ := Jvm.LawKit.callS X hx (y := y) hown (mvT hZ w1) (mvT hZ w2) (mvT hZ w3) (mvT hZ w4) hy (backOf (W := W) hM hZ w4 w3 hf hl) (g := g) hg (hsz.trans hml.symm) (argsL := argsL) (rest := rest) hlen hs hW hd (fun _ _ => ⟨rfl, eT, hc, hsl⟩)
  dsimp only [Pt.U, Pt.locs, Pt.cells, Pt.slots] at X1 l1 y1 z1 st hQ
  subst l1 y1 z1
  exact go_st st (k _ _ _ X1 hQ)
theorem go_callV (X : Stand p l e R s m args below meth c T locs cells slots) (hx : p.tables.exec = Jvm.exec) (hZ : Z.Warmed39 s.vm) (hml : c.maxLocals = maxL0) {own K : String} {index : Nat} {y z : MethodName} {bytes : ByteArray} {maxL : Nat} {ret : Option FieldType} (hown : s.vm.findClass own = some m.cls)
    (w1 : (Cond.methodLink own index y).before a0 Z = true) (w2 : (Cond.declares y).before a0 Z = true) (w2' : NotFace s y) (w3 : (Cond.selects K y z).before a0 Z = true) (w3' : (Cond.instanceMethod z).before a0 Z = true) (w4 : (Cond.code z bytes maxL ret).before a0 Z = true) (w5 : (Cond.initialized z.cls).before a0 Z = true) (eT : T.heap = h) {a : Addr} (E : Exa Z h a K) {argsL rest : List Value} {rm : Room} {Q' : Option Value → Heap → List Loc → Prop} {W : Nat}
    (hM : Met l z bytes maxL ret [] rm Z (.ref a :: argsL).toArray h Q' rm.cells rm.slots)
    (hd : decode c.code g.pc = .ok (.invokevirtual index, 3)) (hs : g.stack = argsL.reverse ++ .ref a :: rest) (hg : g.method = m) (hsz : g.locals.size = maxL0) (hlen : ∀ sig, parseMethodDescriptor y.desc = some sig → argsL.length = sig.parameters.length) (hW : 2 * g.monitorRoom + (rest.map fun v => v.category).sum ≤ W)
    (hy : y.cls ≠ "java/lang/invoke/MethodHandle" ∧ y.cls ≠ "java/lang/invoke/VarHandle") (hf : rm.frames + 1 ≤ R.frames) (hl : W + (maxL + 11) + rm.locals ≤ R.locals) (hc : cells + rm.cells ≤ R.cells) (hsl : slots + rm.slots ≤ R.slots)
    (k : ∀ T' v L, Stand p l e R s m args below meth c T' (locs ++ L) (cells + rm.cells) (slots + rm.slots) → Q' v T'.heap L → Go p e below s Q C S T' { g with pc := g.pc + 3, stack := v.toList ++ rest }) : Go p e below s Q C S T g := by
  obtain ⟨cB, kB, q1, q2, q3⟩ := isOf hZ eT E
  obtain ⟨v, _, ⟨T1, L1, k1, n1⟩, -, X1, ⟨Lc, hQ, l1, y1, z1⟩, st⟩ := X.virtualBack hx (y := y) (z := z) hown (mvT hZ w1) (mvT hZ w2) w2' (mvT hZ w3) (mvT hZ w3') hy (backOf (W := W) hM hZ w4 w5 hf hl) q1 q3 (g := g) hg (hsz.trans hml.symm) (Steps.refl _) (argsL := argsL) (rest := rest) hlen hs hW hd (fun _ _ => ⟨rfl, eT, hc, hsl⟩)
  dsimp only [Pt.U, Pt.locs, Pt.cells, Pt.slots] at X1 l1 y1 z1 st hQ
  subst l1 y1 z1
  exact go_tr st (k _ _ _ X1 hQ)
theorem go_callU (X : Stand p l e R s m args below meth c T locs cells slots) (hx : p.tables.exec = Jvm.exec) (hZ : Z.Warmed39 s.vm) (hml : c.maxLocals = maxL0) {own K owner : String} {index : Nat} {y z : MethodName} {bytes : ByteArray} {maxL : Nat} {ret : Option FieldType} (hown : s.vm.findClass own = some m.cls)
    (w1 : (Cond.methodLink own index y).before a0 Z = true) (w2 : (Cond.sameMethod y.cls owner y.name y.desc).before a0 Z = true) (w2' : (Cond.declares ⟨owner, y.name, y.desc⟩).before a0 Z = true) (ho : owner ≠ "java/lang/invoke/MethodHandle" ∧ owner ≠ "java/lang/invoke/VarHandle") (w3 : (Cond.selects K y z).before a0 Z = true) (w3' : (Cond.instanceMethod z).before a0 Z = true) (w4 : (Cond.code z bytes maxL ret).before a0 Z = true) (w5 : (Cond.initialized z.cls).before a0 Z = true) (eT : T.heap = h) {a : Addr} (E : Exa Z h a K) {argsL rest : List Value} {rm : Room} {Q' : Option Value → Heap → List Loc → Prop} {W : Nat}
    (hM : Met l z bytes maxL ret [] rm Z (.ref a :: argsL).toArray h Q' rm.cells rm.slots)
    (hd : decode c.code g.pc = .ok (.invokevirtual index, 3)) (hs : g.stack = argsL.reverse ++ .ref a :: rest) (hg : g.method = m) (hsz : g.locals.size = maxL0) (hlen : ∀ sig, parseMethodDescriptor y.desc = some sig → argsL.length = sig.parameters.length) (hW : 2 * g.monitorRoom + (rest.map fun v => v.category).sum ≤ W)
    (hf : rm.frames + 1 ≤ R.frames) (hl : W + (maxL + 11) + rm.locals ≤ R.locals) (hc : cells + rm.cells ≤ R.cells) (hsl : slots + rm.slots ≤ R.slots)
    (k : ∀ T' v L, Stand p l e R s m args below meth c T' (locs ++ L) (cells + rm.cells) (slots + rm.slots) → Q' v T'.heap L → Go p e below s Q C S T' { g with pc := g.pc + 3, stack := v.toList ++ rest }) : Go p e below s Q C S T g := by
  obtain ⟨cB, kB, q1, q2, q3⟩ := isOf hZ eT E
  obtain ⟨v, _, ⟨T1, L1, k1, n1⟩, -, X1, ⟨Lc, hQ, l1, y1, z1⟩, st⟩ := X.virtualBackUp hx (x := y) (y := z) hown (mvT hZ w1) (mvT hZ w2) (mvT hZ w2') ho (mvT hZ w3) (mvT hZ w3') (backOf (W := W) hM hZ w4 w5 hf hl) q1 q3 (g := g) hg (hsz.trans hml.symm) (Steps.refl _) (argsL := argsL) (rest := rest) hlen hs hW hd (fun _ _ => ⟨rfl, eT, hc, hsl⟩)
  dsimp only [Pt.U, Pt.locs, Pt.cells, Pt.slots] at X1 l1 y1 z1 st hQ
  subst l1 y1 z1
  exact go_tr st (k _ _ _ X1 hQ)
theorem go_callI (X : Stand p l e R s m args below meth c T locs cells slots) (hx : p.tables.exec = Jvm.exec) (hZ : Z.Warmed39 s.vm) (hml : c.maxLocals = maxL0) {own : String} {index : Nat} {y : MethodName} {bytes : ByteArray} {maxL : Nat} (hown : s.vm.findClass own = some m.cls) (hy1 : y.name = "<init>")
    (w1 : (Cond.methodLink own index y).before a0 Z = true) (w2 : (Cond.instanceMethod y).before a0 Z = true) (w4 : (Cond.code y bytes maxL none).before a0 Z = true) (w5 : (Cond.initialized y.cls).before a0 Z = true) (eT : T.heap = h) {a : Addr} {argsL rest : List Value} {rm : Room} {Q' : Option Value → Heap → List Loc → Prop} {W : Nat}
    (hM : Met l y bytes maxL none [] rm Z (.ref a :: argsL).toArray h Q' rm.cells rm.slots)
    (hd : decode c.code g.pc = .ok (.invokespecial index, 3)) (hs : g.stack = argsL.reverse ++ .ref a :: rest) (hg : g.method = m) (hsz : g.locals.size = maxL0) (hlen : ∀ sig, parseMethodDescriptor y.desc = some sig → argsL.length = sig.parameters.length) (hW : 2 * g.monitorRoom + (rest.map fun v => v.category).sum ≤ W)
    (hy : y.cls ≠ "java/lang/invoke/MethodHandle" ∧ y.cls ≠ "java/lang/invoke/VarHandle") (hf : rm.frames + 1 ≤ R.frames) (hl : W + (maxL + 11) + rm.locals ≤ R.locals) (hc : cells + rm.cells ≤ R.cells) (hsl : slots + rm.slots ≤ R.slots)
    (k : ∀ T' v L, Stand p l e R s m args below meth c T' (locs ++ L) (cells + rm.cells) (slots + rm.slots) → Q' v T'.heap L → Go p e below s Q C S T' { g with pc := g.pc + 3, stack := v.toList ++ rest }) : Go p e below s Q C S T g := by
  obtain ⟨v, _, ⟨T1, L1, k1, n1⟩, -, X1, ⟨Lc, hQ, l1, y1, z1⟩, st⟩ := X.specialBack hx (y := y) hy1 hown (mvT hZ w1) (mvT hZ w2) (mvT hZ w4) hy (backOf (W := W) hM hZ w4 w5 hf hl) (g := g) hg (hsz.trans hml.symm) (Steps.refl _) (a := a) (argsL := argsL) (rest := rest) hlen hs hW hd (fun _ _ => ⟨rfl, eT, hc, hsl⟩)
  dsimp only [Pt.U, Pt.locs, Pt.cells, Pt.slots] at X1 l1 y1 z1 st hQ
  subst l1 y1 z1
  exact go_tr st (k _ _ _ X1 hQ)
theorem go_getF (X : Stand p l e R s m args below meth c T locs cells slots) (hx : p.tables.exec = Jvm.exec) (hZ : Z.Warmed39 s.vm) {own R0 O n d host : String} {index : Nat} (hown : s.vm.findClass own = some m.cls) (w : (Cond.fieldLink own index R0 n d).before a0 Z = true ∨ (Cond.fieldLinkNest own index R0 n d host).before a0 Z = true) (via : Via Z R0 O n d)
    (eT : T.heap = h) {a : Addr} {v : Value} (F : Fld Z h a O n d v) {rest : List Value} (hd : decode c.code g.pc = .ok (.getfield index, 3)) (hg : g.method = m) (hs : g.stack = .ref a :: rest)
    (k : ∀ T', Stand p l e R s m args below meth c T' locs cells slots → T'.heap = h → Go p e below s Q C S T' { g with pc := g.pc + 3, stack := v :: rest }) : Go p e below s Q C S T g := by
  obtain ⟨T1, X1, e1, st⟩ := getF X hx hZ hown w via eT F hg hs hd
  exact go_st st (k _ X1 e1)
theorem go_getS (X : Stand p l e R s m args below meth c T locs cells slots) (hx : p.tables.exec = Jvm.exec) (hZ : Z.Warmed39 s.vm) {own R0 O n d host : String} {index : Nat} (hown : s.vm.findClass own = some m.cls) (w : (Cond.fieldLink own index R0 n d).before a0 Z = true ∨ (Cond.fieldLinkNest own index R0 n d host).before a0 Z = true) (via : Via Z R0 O n d)
    (eT : T.heap = h) {v : Value} (F : Sta Z h O n d v) (hd : decode c.code g.pc = .ok (.getstatic index, 3)) (hg : g.method = m)
    (k : ∀ T', Stand p l e R s m args below meth c T' locs cells slots → T'.heap = h → Go p e below s Q C S T' { g with pc := g.pc + 3, stack := v :: g.stack }) : Go p e below s Q C S T g := by
  obtain ⟨T1, X1, e1, st⟩ := getS2 X hx hZ hown w via eT F hg hd
  exact go_st st (k _ X1 e1)
theorem go_putF (X : Stand p l e R s m args below meth c T locs cells slots) (hx : p.tables.exec = Jvm.exec) (hZ : Z.Warmed39 s.vm) {own R0 O n d host K : String} {index kk : Nat} {ty : FieldType} (hown : s.vm.findClass own = some m.cls) (w : (Cond.fieldLink own index R0 n d).before a0 Z = true ∨ (Cond.fieldLinkNest own index R0 n d host).before a0 Z = true) (via : Via Z R0 O n d)
    (eT : T.heap = h) {a : Addr} {v old : Value} (F : Fld Z h a O n d old) (E : Exa Z h a K) (L : (Cond.lays K O n d).before a0 Z = true ∨ ((Cond.laysFinal K O n d).before a0 Z = true ∧ own = O ∧ meth.name = "<init>")) (wi : (Cond.instantiable K kk).before a0 Z = true)
    (hty : parseFieldDescriptor d = some ty) (hn : narrow ty v = v) (hf : fits ty v = true) {rest : List Value} (hd : decode c.code g.pc = .ok (.putfield index, 3)) (hg : g.method = m) (hs : g.stack = v :: .ref a :: rest)
    (k : ∀ T' h', Stand p l e R s m args below meth c T' (locs ++ [⟨a, Jvm.RoadKit.slotOf Z O n d⟩]) cells slots → T'.heap = h' → Wr h h' a (Jvm.RoadKit.slotOf Z O n d) v → Go p e below s Q C S T' { g with pc := g.pc + 3, stack := rest }) : Go p e below s Q C S T g := by
  obtain ⟨T1, h1, X1, e1, W1, st⟩ := putF X hx hZ hown w via eT F E L wi hty hn hf hg hs hd
  exact go_st st (k _ _ X1 e1 W1)
theorem go_newO (X : Stand p l e R s m args below meth c T locs cells slots) (hx : p.tables.exec = Jvm.exec) (hZ : Z.Warmed39 s.vm) {own K : String} {index n : Nat} (hown : s.vm.findClass own = some m.cls) (w : (Cond.classLink own index K).before a0 Z = true) (wi : (Cond.instantiable K n).before a0 Z = true) (wz : (Cond.initialized K).before a0 Z = true) (eT : T.heap = h)
    (hd : decode c.code g.pc = .ok (.new index, 3)) (hg : g.method = m) (hc : cells + 1 ≤ R.cells) (hl : slots + n ≤ R.slots)
    (k : ∀ T' h' a, a = h.size → Stand p l e R s m args below meth c T' locs (cells + 1) (slots + n) → T'.heap = h' → Ext h h' → Exa Z h' a K → (∀ {O nm d : String} {ty : FieldType}, Laid Z a0 K O nm d → parseFieldDescriptor d = some ty → Fld Z h' a O nm d (defaultValue ty)) → Go p e below s Q C S T' { g with pc := g.pc + 3, stack := .ref a :: g.stack }) : Go p e below s Q C S T g := by
  obtain ⟨T1, h1, X1, e1, E1, A1, D1, -, st⟩ := newO X hx hZ hown w wi wz eT hg hd hc hl
  exact go_st st (k _ _ _ rfl X1 e1 E1 A1 D1)
theorem go_initO (X : Stand p l e R s m args below meth c T locs cells slots) (hx : p.tables.exec = Jvm.exec) (hZ : Z.Warmed39 s.vm) (hml : c.maxLocals = maxL0) {own : String} {idx : Nat} (hown : s.vm.findClass own = some m.cls) (w1 : (Cond.methodLink own idx Lib.objectInit).before a0 Z = true) (w2 : (Cond.instanceMethod Lib.objectInit).before a0 Z = true)
    (w3 : (Cond.code Lib.objectInit ⟨#[0xb1]⟩ 1 none).before a0 Z = true) (eT : T.heap = h) {a : Addr} {rest : List Value} (hd : decode c.code g.pc = .ok (.invokespecial idx, 3)) (hg : g.method = m) (hsz : g.locals.size = maxL0) (hs : g.stack = .ref a :: rest)
    (hf : 1 ≤ R.frames) {W : Nat} (hW : 2 * g.monitorRoom + (rest.map fun v => v.category).sum ≤ W) (hl : W + 12 ≤ R.locals)
    (k : ∀ T', Stand p l e R s m args below meth c T' locs cells slots → T'.heap = h → Go p e below s Q C S T' { g with pc := g.pc + 3, stack := rest }) : Go p e below s Q C S T g := by
  obtain ⟨T1, X1, e1, st⟩ := initO X hx hZ hown w1 w2 w3 eT hg (hsz.trans hml.symm) hs hd hf hW hl
  exact go_st st (k _ X1 e1)
theorem own_lrem {tb : Tables} [Ours tb] {target : State} (hh : At T m c below) (hx : tb.exec = Jvm.exec) (hg : g.method = m) {x y : Int64} {rest : List Value} (hd : decode c.code g.pc = .ok (.lrem, 1)) (hs : g.stack = .long y :: .long x :: rest) (hy : y ≠ 0)
    (hr : Steps tb e below (T.setTop { g with pc := g.pc + 1, stack := .long (x % y) :: rest }) target) : Steps tb e below (T.setTop g) target :=
  XT.lrem hh hx hg hd hs hy (by rw [lrem_mod]; exact hr)
/-! arrays, their places by a function -/
def GA (Z : State) (h : Heap) (a : Addr) (ty : FieldType) (n : Nat) (f : Nat → Value) : Prop := ∃ cl : Cell, Arr Z h a cl ty ∧ cl.slots.size = n ∧ n < 2 ^ 31 ∧ ∀ i, i < n → cl.slots[i]? = some (f i)
theorem GA.lt {a : Addr} {ty : FieldType} {n : Nat} {f : Nat → Value} (A : GA Z h a ty n f) : a < h.size := by
  obtain ⟨cl, A1, -⟩ := A
  exact A1.lt
theorem GA.ext {a : Addr} {ty : FieldType} {n : Nat} {f : Nat → Value} {h' : Heap} (A : GA Z h a ty n f) (E : Ext h h') : GA Z h' a ty n f := by
  obtain ⟨cl, A1, r⟩ := A
  exact ⟨cl, A1.ext E, r⟩
theorem GA.other {a b : Addr} {ty : FieldType} {n sl : Nat} {v : Value} {f : Nat → Value} {h' : Heap} (A : GA Z h b ty n f) (W : Wr h h' a sl v) (q : b ≠ a) : GA Z h' b ty n f := by
  obtain ⟨cl, A1, r⟩ := A
  exact ⟨cl, A1.other W q, r⟩
theorem GA.keep {a : Addr} {ty : FieldType} {n : Nat} {f : Nat → Value} {h' : Heap} {ws : List Addr} (A : GA Z h a ty n f) (K : Keep h h' ws) (q : a ∉ ws) : GA Z h' a ty n f := by
  obtain ⟨cl, A1, r⟩ := A
  exact ⟨cl, ⟨K.2.1 _ _ A1.1 q, A1.2⟩, r⟩
theorem GA.congr {a : Addr} {ty : FieldType} {n : Nat} {f f' : Nat → Value} (A : GA Z h a ty n f) (q : ∀ i, i < n → f i = f' i) : GA Z h a ty n f' := by
  obtain ⟨cl, A1, A2, A3, A4⟩ := A
  exact ⟨cl, A1, A2, A3, fun i hi => (A4 i hi).trans (by rw [q i hi])⟩
theorem GA.set {a : Addr} {ty : FieldType} {n j : Nat} {v : Value} {f : Nat → Value} {h' : Heap} (A : GA Z h a ty n f) (W : Wr h h' a j v) : GA Z h' a ty n (fun i => if i = j then v else f i) := by
  obtain ⟨cl, A1, A2, A3, A4⟩ := A
  obtain ⟨c2, w1, w2, w3, w4⟩ := W
  obtain rfl : cl = c2 := Option.some.inj (A1.1.symm.trans w1)
  refine ⟨cl.setSlot j v, A1.same ⟨cl, w1, w2, w3, w4⟩, (sz_set cl j v).trans A2, A3, fun i hi => ?_⟩
  show (cl.slots.setIfInBounds j v)[i]? = _
  rw [Array.getElem?_setIfInBounds]
  by_cases q : i = j
  · subst q
    rw [if_pos rfl, if_pos w3]
    simp only [if_true]
  · rw [if_neg (fun h => q h.symm)]
    simp only [if_neg q]
    exact A4 i hi
theorem GA.len {a : Addr} {ty : FieldType} {n : Nat} {f : Nat → Value} (A : GA Z h a ty n f) : n < 2 ^ 31 := by
  obtain ⟨cl, -, -, A3, -⟩ := A
  exact A3
def OC (Z : State) (h : Heap) (a : Addr) (ty : FieldType) (K : String) : Prop := ∃ cl : Cell, Arr Z h a cl ty ∧ Ovr Z cl.cls K
theorem OC.ext {a : Addr} {ty : FieldType} {K : String} {h' : Heap} (A : OC Z h a ty K) (E : Ext h h') : OC Z h' a ty K := by
  obtain ⟨cl, A1, A2⟩ := A
  exact ⟨cl, A1.ext E, A2⟩
theorem OC.wr {a b : Addr} {ty : FieldType} {K : String} {sl : Nat} {v : Value} {h' : Heap} (A : OC Z h b ty K) (W : Wr h h' a sl v) : OC Z h' b ty K := by
  obtain ⟨cl, A1, A2⟩ := A
  by_cases q : b = a
  · subst q
    exact ⟨_, A1.same W, A2⟩
  · exact ⟨cl, A1.other W q, A2⟩
theorem OC.keep {b : Addr} {ty : FieldType} {K : String} {h' : Heap} {ws : List Addr} (A : OC Z h b ty K) (Kp : Keep h h' ws) : OC Z h' b ty K := by
  obtain ⟨cl, ⟨A1, A3, A4⟩, A2⟩ := A
  obtain ⟨c', q1, q2, q3, q4⟩ := Kp.2.2 _ _ A1
  refine ⟨c', ⟨q1, ?_, by rw [q3]; exact A4⟩, by rw [q2]; exact A2⟩
  unfold State.isArrayOf at A3 ⊢
  rw [q2, q3]
  exact A3
theorem OC.sto {a y : Addr} {ty : FieldType} {K : String} (A : OC Z h a ty K) (I : Ins Z h y K true) : Sto Z h a (.ref y) := by
  obtain ⟨cl, A1, A2⟩ := A
  exact Sto.of A1 A2 I
theorem own_in {j : Int32} {n : Nat} (q : 0 ≤ j.toInt ∧ j.toInt < n) : ¬ (j < 0 ∨ n ≤ j.toNatClampNeg) := by
  have h1 : (j.toNatClampNeg : Int) = j.toInt := by have := q.1; simp only [Int32.toNatClampNeg]; omega
  rw [Int32.lt_iff_toInt_lt]
  have : (0 : Int32).toInt = 0 := rfl
  omega
theorem go_alen (X : Stand p l e R s m args below meth c T locs cells slots) (hx : p.tables.exec = Jvm.exec) (hZ : Z.Warmed39 s.vm) (eT : T.heap = h) {a : Addr} {ty : FieldType} {n : Nat} {f : Nat → Value} (A : GA Z h a ty n f) {rest : List Value}
    (hd : decode c.code g.pc = .ok (.arraylength, 1)) (hg : g.method = m) (hs : g.stack = .ref a :: rest) (w : Int32) (hw : Nat.toInt32 n = w) (k : Go p e below s Q C S T { g with pc := g.pc + 1, stack := .int w :: rest }) : Go p e below s Q C S T g := by
  obtain ⟨cl, A1, rfl, -, -⟩ := A
  subst hw
  exact go_st (fun t => X.arraylength hx (by rw [eT]; exact A1.1) (State.isArrayOf_alike hZ.alike A1.2.1) hg hs hd t) k
theorem go_iald (X : Stand p l e R s m args below meth c T locs cells slots) (hx : p.tables.exec = Jvm.exec) (hZ : Z.Warmed39 s.vm) (eT : T.heap = h) {a : Addr} {n : Nat} {f : Nat → Value} (A : GA Z h a .int n f) {j : Int32} {rest : List Value}
    (hd : decode c.code g.pc = .ok (.iaload, 1)) (hg : g.method = m) (hs : g.stack = .int j :: .ref a :: rest) (q : 0 ≤ j.toInt ∧ j.toInt < n) (w : Value) (hw : f j.toNatClampNeg = w) (k : Go p e below s Q C S T { g with pc := g.pc + 1, stack := w :: rest }) : Go p e below s Q C S T g := by
  obtain ⟨cl, A1, rfl, -, A4⟩ := A
  have q2 := own_in q
  refine go_st (fun t => X.iaload hx (j := j) (v := w) (by rw [eT]; exact A1.1) (State.isArrayOf_alike hZ.alike A1.2.1) A1.2.2 q2 ?_ hg hs hd t) k
  rw [A4 _ (by omega), hw]
theorem go_lald (X : Stand p l e R s m args below meth c T locs cells slots) (hx : p.tables.exec = Jvm.exec) (hZ : Z.Warmed39 s.vm) (eT : T.heap = h) {a : Addr} {n : Nat} {f : Nat → Value} (A : GA Z h a .long n f) {j : Int32} {rest : List Value}
    (hd : decode c.code g.pc = .ok (.laload, 1)) (hg : g.method = m) (hs : g.stack = .int j :: .ref a :: rest) (q : 0 ≤ j.toInt ∧ j.toInt < n) (w : Value) (hw : f j.toNatClampNeg = w) (k : Go p e below s Q C S T { g with pc := g.pc + 1, stack := w :: rest }) : Go p e below s Q C S T g := by
  obtain ⟨cl, A1, rfl, -, A4⟩ := A
  have q2 := own_in q
  refine go_st (fun t => X.laload hx (j := j) (v := w) (by rw [eT]; exact A1.1) (State.isArrayOf_alike hZ.alike A1.2.1) A1.2.2 q2 ?_ hg hs hd t) k
  rw [A4 _ (by omega), hw]
theorem go_bald (X : Stand p l e R s m args below meth c T locs cells slots) (hx : p.tables.exec = Jvm.exec) (hZ : Z.Warmed39 s.vm) (eT : T.heap = h) {a : Addr} {n : Nat} {f : Nat → Value} (A : GA Z h a .byte n f) {j : Int32} {rest : List Value}
    (hd : decode c.code g.pc = .ok (.baload, 1)) (hg : g.method = m) (hs : g.stack = .int j :: .ref a :: rest) (q : 0 ≤ j.toInt ∧ j.toInt < n) (w : Value) (hw : f j.toNatClampNeg = w) (k : Go p e below s Q C S T { g with pc := g.pc + 1, stack := w :: rest }) : Go p e below s Q C S T g := by
  obtain ⟨cl, A1, rfl, -, A4⟩ := A
  have q2 := own_in q
  refine go_st (fun t => X.baloadBytes hx (j := j) (v := w) (by rw [eT]; exact A1.1) (State.isArrayOf_alike hZ.alike A1.2.1) A1.2.2 q2 ?_ hg hs hd t) k
  rw [A4 _ (by omega), hw]
theorem go_cald (X : Stand p l e R s m args below meth c T locs cells slots) (hx : p.tables.exec = Jvm.exec) (hZ : Z.Warmed39 s.vm) (eT : T.heap = h) {a : Addr} {n : Nat} {f : Nat → Value} (A : GA Z h a .char n f) {j : Int32} {rest : List Value}
    (hd : decode c.code g.pc = .ok (.caload, 1)) (hg : g.method = m) (hs : g.stack = .int j :: .ref a :: rest) (q : 0 ≤ j.toInt ∧ j.toInt < n) (w : Value) (hw : f j.toNatClampNeg = w) (k : Go p e below s Q C S T { g with pc := g.pc + 1, stack := w :: rest }) : Go p e below s Q C S T g := by
  obtain ⟨cl, A1, rfl, -, A4⟩ := A
  have q2 := own_in q
  refine go_st (fun t => X.caload hx (j := j) (v := w) (by rw [eT]; exact A1.1) (State.isArrayOf_alike hZ.alike A1.2.1) A1.2.2 q2 ?_ hg hs hd t) k
  rw [A4 _ (by omega), hw]
theorem go_aald (X : Stand p l e R s m args below meth c T locs cells slots) (hx : p.tables.exec = Jvm.exec) (hZ : Z.Warmed39 s.vm) (eT : T.heap = h) {a : Addr} {ty : FieldType} {n : Nat} {f : Nat → Value} (A : GA Z h a ty n f) (hty : ty.isReference = true) {j : Int32} {rest : List Value}
    (hd : decode c.code g.pc = .ok (.aaload, 1)) (hg : g.method = m) (hs : g.stack = .int j :: .ref a :: rest) (q : 0 ≤ j.toInt ∧ j.toInt < n) (w : Value) (hw : f j.toNatClampNeg = w) (k : Go p e below s Q C S T { g with pc := g.pc + 1, stack := w :: rest }) : Go p e below s Q C S T g := by
  obtain ⟨cl, A1, rfl, -, A4⟩ := A
  have q2 := own_in q
  refine go_st (fun t => X.aaload hx (j := j) (v := w) (by rw [eT]; exact A1.1) (State.isArrayOf_alike hZ.alike A1.2.1) hty A1.2.2 q2 ?_ hg hs hd t) k
  rw [A4 _ (by omega), hw]
theorem go_iast (X : Stand p l e R s m args below meth c T locs cells slots) (hx : p.tables.exec = Jvm.exec) (hZ : Z.Warmed39 s.vm) (eT : T.heap = h) {a : Addr} {n : Nat} {f : Nat → Value} (A : GA Z h a .int n f) {j x : Int32} {rest : List Value}
    (hd : decode c.code g.pc = .ok (.iastore, 1)) (hg : g.method = m) (hs : g.stack = .int x :: .int j :: .ref a :: rest) (q : 0 ≤ j.toInt ∧ j.toInt < n)
    (k : ∀ T' h', Stand p l e R s m args below meth c T' (locs ++ [⟨a, j.toNatClampNeg⟩]) cells slots → T'.heap = h' → Wr h h' a j.toNatClampNeg (.int x) → GA Z h' a .int n (fun i => if i = j.toNatClampNeg then .int x else f i) → Go p e below s Q C S T' { g with pc := g.pc + 1, stack := rest }) : Go p e below s Q C S T g := by
  have A' := A
  obtain ⟨cl, A1, rfl, -, A4⟩ := A
  obtain ⟨T1, h1, X1, e1, W1, st⟩ := stI X hx hZ eT A1 (own_in q) hg hs hd
  exact go_st st (k _ _ X1 e1 W1 (A'.set W1))
theorem go_last (X : Stand p l e R s m args below meth c T locs cells slots) (hx : p.tables.exec = Jvm.exec) (hZ : Z.Warmed39 s.vm) (eT : T.heap = h) {a : Addr} {n : Nat} {f : Nat → Value} (A : GA Z h a .long n f) {j : Int32} {x : Int64} {rest : List Value}
    (hd : decode c.code g.pc = .ok (.lastore, 1)) (hg : g.method = m) (hs : g.stack = .long x :: .int j :: .ref a :: rest) (q : 0 ≤ j.toInt ∧ j.toInt < n)
    (k : ∀ T' h', Stand p l e R s m args below meth c T' (locs ++ [⟨a, j.toNatClampNeg⟩]) cells slots → T'.heap = h' → Wr h h' a j.toNatClampNeg (.long x) → GA Z h' a .long n (fun i => if i = j.toNatClampNeg then .long x else f i) → Go p e below s Q C S T' { g with pc := g.pc + 1, stack := rest }) : Go p e below s Q C S T g := by
  have A' := A
  obtain ⟨cl, A1, rfl, -, A4⟩ := A
  obtain ⟨T1, h1, X1, e1, W1, st⟩ := stJ X hx hZ eT A1 (own_in q) hg hs hd
  exact go_st st (k _ _ X1 e1 W1 (A'.set W1))
theorem go_bast (X : Stand p l e R s m args below meth c T locs cells slots) (hx : p.tables.exec = Jvm.exec) (hZ : Z.Warmed39 s.vm) (eT : T.heap = h) {a : Addr} {n : Nat} {f : Nat → Value} (A : GA Z h a .byte n f) {j x : Int32} {rest : List Value}
    (hd : decode c.code g.pc = .ok (.bastore, 1)) (hg : g.method = m) (hs : g.stack = .int x :: .int j :: .ref a :: rest) (q : 0 ≤ j.toInt ∧ j.toInt < n)
    (k : ∀ T' h', Stand p l e R s m args below meth c T' (locs ++ [⟨a, j.toNatClampNeg⟩]) cells slots → T'.heap = h' → Wr h h' a j.toNatClampNeg (.int x.toInt8.toInt32) → GA Z h' a .byte n (fun i => if i = j.toNatClampNeg then .int x.toInt8.toInt32 else f i) → Go p e below s Q C S T' { g with pc := g.pc + 1, stack := rest }) : Go p e below s Q C S T g := by
  have A' := A
  obtain ⟨cl, A1, rfl, -, A4⟩ := A
  obtain ⟨T1, h1, X1, e1, W1, st⟩ := stB X hx hZ eT A1 (own_in q) hg hs hd
  exact go_st st (k _ _ X1 e1 W1 (A'.set W1))
theorem go_cast (X : Stand p l e R s m args below meth c T locs cells slots) (hx : p.tables.exec = Jvm.exec) (hZ : Z.Warmed39 s.vm) (eT : T.heap = h) {a : Addr} {n : Nat} {f : Nat → Value} (A : GA Z h a .char n f) {j x : Int32} {rest : List Value}
    (hd : decode c.code g.pc = .ok (.castore, 1)) (hg : g.method = m) (hs : g.stack = .int x :: .int j :: .ref a :: rest) (q : 0 ≤ j.toInt ∧ j.toInt < n)
    (k : ∀ T' h', Stand p l e R s m args below meth c T' (locs ++ [⟨a, j.toNatClampNeg⟩]) cells slots → T'.heap = h' → Wr h h' a j.toNatClampNeg (.int (nar .char x)) → GA Z h' a .char n (fun i => if i = j.toNatClampNeg then .int (nar .char x) else f i) → Go p e below s Q C S T' { g with pc := g.pc + 1, stack := rest }) : Go p e below s Q C S T g := by
  have A' := A
  obtain ⟨cl, A1, rfl, -, A4⟩ := A
  obtain ⟨T1, h1, X1, e1, W1, st⟩ := stC X hx hZ eT A1 (own_in q) hg hs hd
  exact go_st st (k _ _ X1 e1 W1 (A'.set W1))
theorem go_aast (X : Stand p l e R s m args below meth c T locs cells slots) (hx : p.tables.exec = Jvm.exec) (hZ : Z.Warmed39 s.vm) (eT : T.heap = h) {a : Addr} {ty : FieldType} {n : Nat} {f : Nat → Value} (A : GA Z h a ty n f) (hty : ty.isReference = true) {j : Int32} {v : Value} (F : Sto Z h a v) {rest : List Value}
    (hd : decode c.code g.pc = .ok (.aastore, 1)) (hg : g.method = m) (hs : g.stack = v :: .int j :: .ref a :: rest) (q : 0 ≤ j.toInt ∧ j.toInt < n)
    (k : ∀ T' h', Stand p l e R s m args below meth c T' (locs ++ [⟨a, j.toNatClampNeg⟩]) cells slots → T'.heap = h' → Wr h h' a j.toNatClampNeg v → GA Z h' a ty n (fun i => if i = j.toNatClampNeg then v else f i) → Go p e below s Q C S T' { g with pc := g.pc + 1, stack := rest }) : Go p e below s Q C S T g := by
  have A' := A
  obtain ⟨cl, A1, rfl, -, A4⟩ := A
  obtain ⟨T1, h1, X1, e1, W1, st⟩ := stR X hx hZ eT A1 (own_in q) hty F hg hs hd
  exact go_st st (k _ _ X1 e1 W1 (A'.set W1))
theorem own_clamp {n : Int32} {N : Nat} (q : n.toInt = N) : n.toNatClampNeg = N := by simp only [Int32.toNatClampNeg]; omega
theorem own_nneg {n : Int32} {N : Nat} (q : n.toInt = N) : ¬ n < 0 := by
  rw [Int32.lt_iff_toInt_lt]
  have : (0 : Int32).toInt = 0 := rfl
  omega
theorem go_newP (X : Stand p l e R s m args below meth c T locs cells slots) (hx : p.tables.exec = Jvm.exec) (hZ : Z.Warmed39 s.vm) {aty : ArrayType} (w : (Cond.arrayClass (newarray.typeOf aty)).before a0 Z = true) (eT : T.heap = h) {n : Int32} {rest : List Value} (hd : decode c.code g.pc = .ok (.newarray aty, 2)) (hg : g.method = m) (hs : g.stack = .int n :: rest)
    (N : Nat) (hn : n.toInt = N) (cap : Nat) (hcap : N ≤ cap) (hb : cap * 8 ≤ 536870912) (hc : cells + 1 ≤ R.cells) (hl : slots + cap ≤ R.slots)
    (k : ∀ T' h' a, a = h.size → Stand p l e R s m args below meth c T' locs (cells + 1) (slots + cap) → T'.heap = h' → Ext h h' → GA Z h' a (newarray.typeOf aty) N (fun _ => defaultValue (newarray.typeOf aty)) → Go p e below s Q C S T' { g with pc := g.pc + 2, stack := .ref a :: rest }) : Go p e below s Q C S T g := by
  have hN := own_clamp hn
  have hn0 := own_nneg hn
  obtain ⟨T1, h1, cA, X1, e1, E1, A1, st⟩ := newP X hx hZ w eT hg hd hs hn0 (cap := cap) (by omega) hb hc hl
  refine go_st st (k _ _ _ rfl X1 e1 E1 ⟨_, A1, (sz_new _ _ _).trans hN, ?_, fun i hi => ?_⟩)
  · have := (rng32 n).2
    omega
  · show (Array.replicate n.toNatClampNeg (defaultValue _))[i]? = _
    rw [hN, Array.getElem?_replicate, if_pos hi]
theorem go_newR (X : Stand p l e R s m args below meth c T locs cells slots) (hx : p.tables.exec = Jvm.exec) (hZ : Z.Warmed39 s.vm) {own K : String} {index : Nat} (hown : s.vm.findClass own = some m.cls) (w1 : (Cond.classLink own index K).before a0 Z = true) (w2 : (Cond.arrayOver (.object K)).before a0 Z = true) (eT : T.heap = h) {n : Int32} {rest : List Value} (hd : decode c.code g.pc = .ok (.anewarray index, 3)) (hg : g.method = m) (hs : g.stack = .int n :: rest)
    (N : Nat) (hn : n.toInt = N) (cap : Nat) (hcap : N ≤ cap) (hb : cap * 8 ≤ 536870912) (hc : cells + 1 ≤ R.cells) (hl : slots + cap ≤ R.slots)
    (k : ∀ T' h' a, a = h.size → Stand p l e R s m args below meth c T' locs (cells + 1) (slots + cap) → T'.heap = h' → Ext h h' → GA Z h' a (.object K) N (fun _ => .null) → OC Z h' a (.object K) K → Go p e below s Q C S T' { g with pc := g.pc + 3, stack := .ref a :: rest }) : Go p e below s Q C S T g := by
  have hN := own_clamp hn
  have hn0 := own_nneg hn
  obtain ⟨T1, h1, cA, X1, e1, E1, A1, O1, st⟩ := newR X hx hZ hown w1 w2 eT hg hd hs hn0 (cap := cap) (by omega) hb hc hl
  refine go_st st (k _ _ _ rfl X1 e1 E1 ⟨_, A1, (sz_new _ _ _).trans hN, ?_, fun i hi => ?_⟩ ⟨_, A1, O1⟩)
  · have := (rng32 n).2
    omega
  · show (Array.replicate n.toNatClampNeg (defaultValue _))[i]? = _
    rw [hN, Array.getElem?_replicate, if_pos hi]
    rfl
end OwnGo
theorem own_ordf {s : State} {args : Array Value} {t : Term} {a : Addr} {C n : String} {k : Int32} (ev : t.eval args s none [] s = some (.ref a)) (hq : (Cond.eq (.field t C n "I") (.int k)).value args s none s [] = some true) : Fld s s.heap a C n "I" (.int k) := by
  obtain ⟨u, v, h1, h2, h3, h4⟩ := cmp_v (Or.inl hq)
  have e2 : v = .int k := by
    have := Term.int_eval (args := args) (first := s) (o := none) (idx := []) (s := s) k
    rw [this] at h2
    exact (Option.some.inj h2).symm
  subst e2
  obtain ⟨z, rfl⟩ := h4
  have h5 := gotT (Cond.eq_ints h1 (Term.int_eval k)) hq
  subst h5
  rw [fld_at ev] at h1
  exact Fld.start h1
theorem d7_0 : decode jdk_37_method_2_code 0 = .ok (.aload_n 0, 1) := by decide +kernel
theorem d7_1 : decode jdk_37_method_2_code 1 = .ok (.getfield 7, 3) := by decide +kernel
theorem d7_4 : decode jdk_37_method_2_code 4 = .ok (.ireturn, 1) := by decide +kernel
theorem pn0 : plainFor (⟨"java/lang/Enum", "ordinal", "()I"⟩ : MethodName) = true := by first | (refine plainFor_of_name ?_; simp [plainName, overriddenIn]; done) | (refine plainFor_of_name ?_; decide +kernel) | decide +kernel
def fOrd (d : Int32) : Int32 := d
theorem ef_7 (m : MethodId) (a : Addr) (d : Int32) : entryFrame m #[(.ref a)] 1 = mkF m 0 #[.val (.ref a)] [] := by first | (simp [entryFrame, mkF, argsToLocals, Value.category]; done) | rfl
abbrev rm_7 : Room := ({ frames := 0, cells := 0, slots := 0, locals := 0 } : Room)
set_option maxRecDepth 65536 in
set_option maxHeartbeats 4000000 in
theorem met_7 (l : Launch) (Z : State) (a0 : Array Value) (hw : ∀ d ∈ tables_1, d.before a0 Z = true) (a : Addr) (d : Int32) (h0 : Heap) (n0 : Nat) (Z0 : n0 ≤ h0.size) (P0 : Fld Z h0 a "java/lang/Enum" "ordinal" "I" (.int d)) :
    Met l (⟨"java/lang/Enum", "ordinal", "()I"⟩ : MethodName) jdk_37_method_2_code 1 (some FieldType.int) [] rm_7 Z #[(.ref a)] h0 (QV (some (.int (fOrd d))) h0 n0) 0 0 := by
  refine own_body pn0 ?_
  intro p e s m below meth c s₁ ct X0 e0
  have ct0 := ct
  obtain ⟨hx, hZ, hown, hby, hml, hret, hlk, hnm⟩ := ct
  have N0 := Fr.nil n0
  refine castGo (ef_7 m a d) ?_
  unfold fOrd
  show Go p e below s _ _ _ s₁ (mkF m 0 #[.val (.ref a)] [])
  refine go_st (fun _ k => XS.aloadN X0.here hx rfl (hb hby d7_0) rfl rfl k) ?_
  show Go p e below s _ _ _ s₁ (mkF m 1 #[.val (.ref a)] [(.ref a)])
  refine go_getF X0 hx hZ hown (host := "") (Or.inl (hw _ (List.mem_of_getElem? (i := 46) rfl))) Via.refl e0 P0 (hb hby d7_1) rfl rfl ?_
  intro T1 X1 e1
  show Go p e below s _ _ _ T1 (mkF m 4 #[.val (.ref a)] [(.int d)])
  exact go_retI X1 hx hlk hret (hb hby d7_4) (by decide) (by decide) ⟨rfl, N0, e1⟩
theorem d1_0 : decode jdk_29_method_69_code 0 = .ok (.iload_n 0, 1) := by decide +kernel
theorem d1_1 : decode jdk_29_method_69_code 1 = .ok (.iload_n 1, 1) := by decide +kernel
theorem d1_2 : decode jdk_29_method_69_code 2 = .ok (.if_icmp .gt 7, 3) := by decide +kernel
theorem d1_5 : decode jdk_29_method_69_code 5 = .ok (.iload_n 0, 1) := by decide +kernel
theorem d1_6 : decode jdk_29_method_69_code 6 = .ok (.goto 4, 3) := by decide +kernel
theorem d1_9 : decode jdk_29_method_69_code 9 = .ok (.iload_n 1, 1) := by decide +kernel
theorem d1_10 : decode jdk_29_method_69_code 10 = .ok (.ireturn, 1) := by decide +kernel
theorem pn1 : plainFor (⟨"java/lang/Math", "min", "(II)I"⟩ : MethodName) = true := by first | (refine plainFor_of_name ?_; simp [plainName, overriddenIn]; done) | (refine plainFor_of_name ?_; decide +kernel) | decide +kernel
def fMin (x0 : Int32) (x1 : Int32) : Int32 := (if x1 < x0 then x1 else x0)
theorem ef_1 (m : MethodId) (x0 : Int32) (x1 : Int32) : entryFrame m #[(.int x0), (.int x1)] 2 = mkF m 0 #[.val (.int x0), .val (.int x1)] [] := by first | (simp [entryFrame, mkF, argsToLocals, Value.category]; done) | rfl
abbrev rm_1 : Room := ({ frames := 0, cells := 0, slots := 0, locals := 0 } : Room)
set_option maxRecDepth 65536 in
set_option maxHeartbeats 4000000 in
theorem met_1 (l : Launch) (Z : State) (a0 : Array Value) (hw : ∀ d ∈ tables_1, d.before a0 Z = true) (x0 : Int32) (x1 : Int32) (h0 : Heap) (n0 : Nat) :
    Met l (⟨"java/lang/Math", "min", "(II)I"⟩ : MethodName) jdk_29_method_69_code 2 (some FieldType.int) [] rm_1 Z #[(.int x0), (.int x1)] h0 (QV (some (.int (fMin x0 x1))) h0 n0) 0 0 := by
  refine own_body pn1 ?_
  intro p e s m below meth c s₁ ct X0 e0
  have ct0 := ct
  obtain ⟨hx, hZ, hown, hby, hml, hret, hlk, hnm⟩ := ct
  have N0 := Fr.nil n0
  refine castGo (ef_1 m x0 x1) ?_
  unfold fMin
  show Go p e below s _ _ _ s₁ (mkF m 0 #[.val (.int x0), .val (.int x1)] [])
  refine go_st (fun _ k => XS.iloadN X0.here hx rfl (hb hby d1_0) rfl k) ?_
  show Go p e below s _ _ _ s₁ (mkF m 1 #[.val (.int x0), .val (.int x1)] [(.int x0)])
  refine go_st (fun _ k => XS.iloadN X0.here hx rfl (hb hby d1_1) rfl k) ?_
  show Go p e below s _ _ _ s₁ (mkF m 2 #[.val (.int x0), .val (.int x1)] [(.int x1), (.int x0)])
  by_cases hc2 : x1 < x0
  · rw [if_pos hc2]
    refine go_st (fun _ k => XS.icmpYes X0.here hx rfl (pc0 := 2) (pc' := 9) rfl (hb hby d1_2) rfl (XT.ii_gt_t hc2) (by decide) (by decide) k) ?_
    show Go p e below s _ _ _ s₁ (mkF m 9 #[.val (.int x0), .val (.int x1)] [])
    refine go_st (fun _ k => XS.iloadN X0.here hx rfl (hb hby d1_9) rfl k) ?_
    show Go p e below s _ _ _ s₁ (mkF m 10 #[.val (.int x0), .val (.int x1)] [(.int x1)])
    exact go_retI X0 hx hlk hret (hb hby d1_10) (by decide) (by decide) ⟨rfl, N0, e0⟩
  · rw [if_neg hc2]
    refine go_st (fun _ k => XS.icmpNo X0.here hx rfl (hb hby d1_2) rfl (XT.ii_gt_f hc2) k) ?_
    show Go p e below s _ _ _ s₁ (mkF m 5 #[.val (.int x0), .val (.int x1)] [])
    refine go_st (fun _ k => XS.iloadN X0.here hx rfl (hb hby d1_5) rfl k) ?_
    show Go p e below s _ _ _ s₁ (mkF m 6 #[.val (.int x0), .val (.int x1)] [(.int x0)])
    refine go_st (fun _ k => XS.goto X0.here hx rfl (pc0 := 6) (pc' := 10) rfl (hb hby d1_6) (by decide) (by decide) k) ?_
    show Go p e below s _ _ _ s₁ (mkF m 10 #[.val (.int x0), .val (.int x1)] [(.int x0)])
    exact go_retI X0 hx hlk hret (hb hby d1_10) (by decide) (by decide) ⟨rfl, N0, e0⟩
theorem d2_0 : decode jdk_29_method_65_code 0 = .ok (.iload_n 0, 1) := by decide +kernel
theorem d2_1 : decode jdk_29_method_65_code 1 = .ok (.iload_n 1, 1) := by decide +kernel
theorem d2_2 : decode jdk_29_method_65_code 2 = .ok (.if_icmp .lt 7, 3) := by decide +kernel
theorem d2_5 : decode jdk_29_method_65_code 5 = .ok (.iload_n 0, 1) := by decide +kernel
theorem d2_6 : decode jdk_29_method_65_code 6 = .ok (.goto 4, 3) := by decide +kernel
theorem d2_9 : decode jdk_29_method_65_code 9 = .ok (.iload_n 1, 1) := by decide +kernel
theorem d2_10 : decode jdk_29_method_65_code 10 = .ok (.ireturn, 1) := by decide +kernel
theorem pn2 : plainFor (⟨"java/lang/Math", "max", "(II)I"⟩ : MethodName) = true := by first | (refine plainFor_of_name ?_; simp [plainName, overriddenIn]; done) | (refine plainFor_of_name ?_; decide +kernel) | decide +kernel
def fMax (x0 : Int32) (x1 : Int32) : Int32 := (if x0 < x1 then x1 else x0)
theorem ef_2 (m : MethodId) (x0 : Int32) (x1 : Int32) : entryFrame m #[(.int x0), (.int x1)] 2 = mkF m 0 #[.val (.int x0), .val (.int x1)] [] := by first | (simp [entryFrame, mkF, argsToLocals, Value.category]; done) | rfl
abbrev rm_2 : Room := ({ frames := 0, cells := 0, slots := 0, locals := 0 } : Room)
set_option maxRecDepth 65536 in
set_option maxHeartbeats 4000000 in
theorem met_2 (l : Launch) (Z : State) (a0 : Array Value) (hw : ∀ d ∈ tables_1, d.before a0 Z = true) (x0 : Int32) (x1 : Int32) (h0 : Heap) (n0 : Nat) :
    Met l (⟨"java/lang/Math", "max", "(II)I"⟩ : MethodName) jdk_29_method_65_code 2 (some FieldType.int) [] rm_2 Z #[(.int x0), (.int x1)] h0 (QV (some (.int (fMax x0 x1))) h0 n0) 0 0 := by
  refine own_body pn2 ?_
  intro p e s m below meth c s₁ ct X0 e0
  have ct0 := ct
  obtain ⟨hx, hZ, hown, hby, hml, hret, hlk, hnm⟩ := ct
  have N0 := Fr.nil n0
  refine castGo (ef_2 m x0 x1) ?_
  unfold fMax
  show Go p e below s _ _ _ s₁ (mkF m 0 #[.val (.int x0), .val (.int x1)] [])
  refine go_st (fun _ k => XS.iloadN X0.here hx rfl (hb hby d2_0) rfl k) ?_
  show Go p e below s _ _ _ s₁ (mkF m 1 #[.val (.int x0), .val (.int x1)] [(.int x0)])
  refine go_st (fun _ k => XS.iloadN X0.here hx rfl (hb hby d2_1) rfl k) ?_
  show Go p e below s _ _ _ s₁ (mkF m 2 #[.val (.int x0), .val (.int x1)] [(.int x1), (.int x0)])
  by_cases hc3 : x0 < x1
  · rw [if_pos hc3]
    refine go_st (fun _ k => XS.icmpYes X0.here hx rfl (pc0 := 2) (pc' := 9) rfl (hb hby d2_2) rfl (XT.ii_lt_t hc3) (by decide) (by decide) k) ?_
    show Go p e below s _ _ _ s₁ (mkF m 9 #[.val (.int x0), .val (.int x1)] [])
    refine go_st (fun _ k => XS.iloadN X0.here hx rfl (hb hby d2_9) rfl k) ?_
    show Go p e below s _ _ _ s₁ (mkF m 10 #[.val (.int x0), .val (.int x1)] [(.int x1)])
    exact go_retI X0 hx hlk hret (hb hby d2_10) (by decide) (by decide) ⟨rfl, N0, e0⟩
  · rw [if_neg hc3]
    refine go_st (fun _ k => XS.icmpNo X0.here hx rfl (hb hby d2_2) rfl (XT.ii_lt_f hc3) k) ?_
    show Go p e below s _ _ _ s₁ (mkF m 5 #[.val (.int x0), .val (.int x1)] [])
    refine go_st (fun _ k => XS.iloadN X0.here hx rfl (hb hby d2_5) rfl k) ?_
    show Go p e below s _ _ _ s₁ (mkF m 6 #[.val (.int x0), .val (.int x1)] [(.int x0)])
    refine go_st (fun _ k => XS.goto X0.here hx rfl (pc0 := 6) (pc' := 10) rfl (hb hby d2_6) (by decide) (by decide) k) ?_
    show Go p e below s _ _ _ s₁ (mkF m 10 #[.val (.int x0), .val (.int x1)] [(.int x0)])
    exact go_retI X0 hx hlk hret (hb hby d2_10) (by decide) (by decide) ⟨rfl, N0, e0⟩
theorem d3_0 : decode method_3_code 0 = .ok (.iload_n 0, 1) := by decide +kernel
theorem d3_1 : decode method_3_code 1 = .ok (.iload_n 1, 1) := by decide +kernel
theorem d3_2 : decode method_3_code 2 = .ok (.if_icmp .ge 5, 3) := by decide +kernel
theorem d3_5 : decode method_3_code 5 = .ok (.iconst (-1), 1) := by decide +kernel
theorem d3_6 : decode method_3_code 6 = .ok (.ireturn, 1) := by decide +kernel
theorem d3_7 : decode method_3_code 7 = .ok (.iload_n 0, 1) := by decide +kernel
theorem d3_8 : decode method_3_code 8 = .ok (.iload_n 1, 1) := by decide +kernel
theorem d3_9 : decode method_3_code 9 = .ok (.if_icmp .ne 5, 3) := by decide +kernel
theorem d3_12 : decode method_3_code 12 = .ok (.iconst 0, 1) := by decide +kernel
theorem d3_13 : decode method_3_code 13 = .ok (.ireturn, 1) := by decide +kernel
theorem d3_14 : decode method_3_code 14 = .ok (.iconst 1, 1) := by decide +kernel
theorem d3_15 : decode method_3_code 15 = .ok (.ireturn, 1) := by decide +kernel
theorem pn3 : plainFor (⟨"com/example/skipstone/skipstone/prune/OperatorAdmitsPinLaw", "sign", "(II)I"⟩ : MethodName) = true := by first | (refine plainFor_of_name ?_; simp [plainName, overriddenIn]; done) | (refine plainFor_of_name ?_; decide +kernel) | decide +kernel
def fSign (x0 : Int32) (x1 : Int32) : Int32 := (if x0 < x1 then (-1 : Int32) else (if x0 = x1 then (0 : Int32) else (1 : Int32)))
theorem ef_3 (m : MethodId) (x0 : Int32) (x1 : Int32) : entryFrame m #[(.int x0), (.int x1)] 2 = mkF m 0 #[.val (.int x0), .val (.int x1)] [] := by first | (simp [entryFrame, mkF, argsToLocals, Value.category]; done) | rfl
abbrev rm_3 : Room := ({ frames := 0, cells := 0, slots := 0, locals := 0 } : Room)
set_option maxRecDepth 65536 in
set_option maxHeartbeats 4000000 in
theorem met_3 (l : Launch) (Z : State) (a0 : Array Value) (hw : ∀ d ∈ tables_1, d.before a0 Z = true) (x0 : Int32) (x1 : Int32) (h0 : Heap) (n0 : Nat) :
    Met l (⟨"com/example/skipstone/skipstone/prune/OperatorAdmitsPinLaw", "sign", "(II)I"⟩ : MethodName) method_3_code 2 (some FieldType.int) [] rm_3 Z #[(.int x0), (.int x1)] h0 (QV (some (.int (fSign x0 x1))) h0 n0) 0 0 := by
  refine own_body pn3 ?_
  intro p e s m below meth c s₁ ct X0 e0
  have ct0 := ct
  obtain ⟨hx, hZ, hown, hby, hml, hret, hlk, hnm⟩ := ct
  have N0 := Fr.nil n0
  refine castGo (ef_3 m x0 x1) ?_
  unfold fSign
  show Go p e below s _ _ _ s₁ (mkF m 0 #[.val (.int x0), .val (.int x1)] [])
  refine go_st (fun _ k => XS.iloadN X0.here hx rfl (hb hby d3_0) rfl k) ?_
  show Go p e below s _ _ _ s₁ (mkF m 1 #[.val (.int x0), .val (.int x1)] [(.int x0)])
  refine go_st (fun _ k => XS.iloadN X0.here hx rfl (hb hby d3_1) rfl k) ?_
  show Go p e below s _ _ _ s₁ (mkF m 2 #[.val (.int x0), .val (.int x1)] [(.int x1), (.int x0)])
  by_cases hc4 : x0 < x1
  · rw [if_pos hc4]
    refine go_st (fun _ k => XS.icmpNo X0.here hx rfl (hb hby d3_2) rfl (XT.ii_ge_f hc4) k) ?_
    show Go p e below s _ _ _ s₁ (mkF m 5 #[.val (.int x0), .val (.int x1)] [])
    refine go_st (fun _ k => XT.iconstV X0.here hx rfl (-1 : Int32) (hb hby d3_5) (by decide) k) ?_
    show Go p e below s _ _ _ s₁ (mkF m 6 #[.val (.int x0), .val (.int x1)] [(.int (-1 : Int32))])
    exact go_retI X0 hx hlk hret (hb hby d3_6) (by decide) (by decide) ⟨rfl, N0, e0⟩
  · rw [if_neg hc4]
    refine go_st (fun _ k => XS.icmpYes X0.here hx rfl (pc0 := 2) (pc' := 7) rfl (hb hby d3_2) rfl (XT.ii_ge_t hc4) (by decide) (by decide) k) ?_
    show Go p e below s _ _ _ s₁ (mkF m 7 #[.val (.int x0), .val (.int x1)] [])
    refine go_st (fun _ k => XS.iloadN X0.here hx rfl (hb hby d3_7) rfl k) ?_
    show Go p e below s _ _ _ s₁ (mkF m 8 #[.val (.int x0), .val (.int x1)] [(.int x0)])
    refine go_st (fun _ k => XS.iloadN X0.here hx rfl (hb hby d3_8) rfl k) ?_
    show Go p e below s _ _ _ s₁ (mkF m 9 #[.val (.int x0), .val (.int x1)] [(.int x1), (.int x0)])
    by_cases hc5 : x0 = x1
    · rw [if_pos hc5]
      refine go_st (fun _ k => XS.icmpNo X0.here hx rfl (hb hby d3_9) rfl (XT.ii_ne_f hc5) k) ?_
      show Go p e below s _ _ _ s₁ (mkF m 12 #[.val (.int x0), .val (.int x1)] [])
      refine go_st (fun _ k => XT.iconstV X0.here hx rfl (0 : Int32) (hb hby d3_12) (by decide) k) ?_
      show Go p e below s _ _ _ s₁ (mkF m 13 #[.val (.int x0), .val (.int x1)] [(.int (0 : Int32))])
      exact go_retI X0 hx hlk hret (hb hby d3_13) (by decide) (by decide) ⟨rfl, N0, e0⟩
    · rw [if_neg hc5]
      refine go_st (fun _ k => XS.icmpYes X0.here hx rfl (pc0 := 9) (pc' := 14) rfl (hb hby d3_9) rfl (XT.ii_ne_t hc5) (by decide) (by decide) k) ?_
      show Go p e below s _ _ _ s₁ (mkF m 14 #[.val (.int x0), .val (.int x1)] [])
      refine go_st (fun _ k => XT.iconstV X0.here hx rfl (1 : Int32) (hb hby d3_14) (by decide) k) ?_
      show Go p e below s _ _ _ s₁ (mkF m 15 #[.val (.int x0), .val (.int x1)] [(.int (1 : Int32))])
      exact go_retI X0 hx hlk hret (hb hby d3_15) (by decide) (by decide) ⟨rfl, N0, e0⟩
theorem d4_0 : decode method_4_code 0 = .ok (.iload_n 0, 1) := by decide +kernel
theorem d4_1 : decode method_4_code 1 = .ok (.ifCond .ge 8, 3) := by decide +kernel
theorem d4_4 : decode method_4_code 4 = .ok (.iload_n 1, 1) := by decide +kernel
theorem d4_5 : decode method_4_code 5 = .ok (.ldc 7, 2) := by decide +kernel
theorem d4_7 : decode method_4_code 7 = .ok (.ior, 1) := by decide +kernel
theorem d4_8 : decode method_4_code 8 = .ok (.ireturn, 1) := by decide +kernel
theorem d4_9 : decode method_4_code 9 = .ok (.iload_n 0, 1) := by decide +kernel
theorem d4_10 : decode method_4_code 10 = .ok (.ifCond .ne 5, 3) := by decide +kernel
theorem d4_13 : decode method_4_code 13 = .ok (.iconst 0, 1) := by decide +kernel
theorem d4_14 : decode method_4_code 14 = .ok (.ireturn, 1) := by decide +kernel
theorem d4_15 : decode method_4_code 15 = .ok (.iconst 1, 1) := by decide +kernel
theorem d4_16 : decode method_4_code 16 = .ok (.iload_n 1, 1) := by decide +kernel
theorem d4_17 : decode method_4_code 17 = .ok (.ldc 8, 2) := by decide +kernel
theorem d4_19 : decode method_4_code 19 = .ok (.iand, 1) := by decide +kernel
theorem d4_20 : decode method_4_code 20 = .ok (.invokestatic 9, 3) := by decide +kernel
theorem d4_23 : decode method_4_code 23 = .ok (.ireturn, 1) := by decide +kernel
theorem pn4 : plainFor (⟨"com/example/skipstone/skipstone/prune/OperatorAdmitsPinLaw", "enc", "(II)I"⟩ : MethodName) = true := by first | (refine plainFor_of_name ?_; simp [plainName, overriddenIn]; done) | (refine plainFor_of_name ?_; decide +kernel) | decide +kernel
theorem pd0 : parseMethodDescriptor "(II)I" = some ⟨[.int, .int], (some .int)⟩ := by decide +kernel
def fEnc (x0 : Int32) (x1 : Int32) : Int32 := (if x0 < (0 : Int32) then (x1 ||| (-2147483648 : Int32)) else (if x0 = (0 : Int32) then (0 : Int32) else (fMax (1 : Int32) (x1 &&& (2147483647 : Int32)))))
theorem ef_4 (m : MethodId) (x0 : Int32) (x1 : Int32) : entryFrame m #[(.int x0), (.int x1)] 2 = mkF m 0 #[.val (.int x0), .val (.int x1)] [] := by first | (simp [entryFrame, mkF, argsToLocals, Value.category]; done) | rfl
abbrev rm_4 : Room := ({ frames := 1, cells := 0, slots := 0, locals := 13 } : Room)
set_option maxRecDepth 65536 in
set_option maxHeartbeats 4000000 in
theorem met_4 (l : Launch) (Z : State) (a0 : Array Value) (hw : ∀ d ∈ tables_1, d.before a0 Z = true) (x0 : Int32) (x1 : Int32) (h0 : Heap) (n0 : Nat) :
    Met l (⟨"com/example/skipstone/skipstone/prune/OperatorAdmitsPinLaw", "enc", "(II)I"⟩ : MethodName) method_4_code 2 (some FieldType.int) [] rm_4 Z #[(.int x0), (.int x1)] h0 (QV (some (.int (fEnc x0 x1))) h0 n0) 0 0 := by
  refine own_body pn4 ?_
  intro p e s m below meth c s₁ ct X0 e0
  have ct0 := ct
  obtain ⟨hx, hZ, hown, hby, hml, hret, hlk, hnm⟩ := ct
  have N0 := Fr.nil n0
  refine castGo (ef_4 m x0 x1) ?_
  unfold fEnc
  show Go p e below s _ _ _ s₁ (mkF m 0 #[.val (.int x0), .val (.int x1)] [])
  refine go_st (fun _ k => XS.iloadN X0.here hx rfl (hb hby d4_0) rfl k) ?_
  show Go p e below s _ _ _ s₁ (mkF m 1 #[.val (.int x0), .val (.int x1)] [(.int x0)])
  by_cases hc6 : x0 < (0 : Int32)
  · rw [if_pos hc6]
    refine go_st (fun _ k => XS.ifNo X0.here hx rfl (hb hby d4_1) rfl (XT.i0_ge_f hc6) k) ?_
    show Go p e below s _ _ _ s₁ (mkF m 4 #[.val (.int x0), .val (.int x1)] [])
    refine go_st (fun _ k => XS.iloadN X0.here hx rfl (hb hby d4_4) rfl k) ?_
    show Go p e below s _ _ _ s₁ (mkF m 5 #[.val (.int x0), .val (.int x1)] [(.int x1)])
    refine go_st (fun _ k => Jvm.Stand.ldcI X0 hx hown (mvT hZ (hw _ (List.mem_of_getElem? (i := 48) rfl))) rfl (hb hby d4_5) k) ?_
    show Go p e below s _ _ _ s₁ (mkF m 7 #[.val (.int x0), .val (.int x1)] [(.int (-2147483648 : Int32)), (.int x1)])
    refine go_st (fun _ k => XT.ior X0.here hx rfl (hb hby d4_7) rfl k) ?_
    show Go p e below s _ _ _ s₁ (mkF m 8 #[.val (.int x0), .val (.int x1)] [(.int (x1 ||| (-2147483648 : Int32)))])
    exact go_retI X0 hx hlk hret (hb hby d4_8) (by decide) (by decide) ⟨rfl, N0, e0⟩
  · rw [if_neg hc6]
    refine go_st (fun _ k => XS.ifYes X0.here hx rfl (pc0 := 1) (pc' := 9) rfl (hb hby d4_1) rfl (XT.i0_ge_t hc6) (by decide) (by decide) k) ?_
    show Go p e below s _ _ _ s₁ (mkF m 9 #[.val (.int x0), .val (.int x1)] [])
    refine go_st (fun _ k => XS.iloadN X0.here hx rfl (hb hby d4_9) rfl k) ?_
    show Go p e below s _ _ _ s₁ (mkF m 10 #[.val (.int x0), .val (.int x1)] [(.int x0)])
    by_cases hc7 : x0 = (0 : Int32)
    · rw [if_pos hc7]
      refine go_st (fun _ k => XS.ifNo X0.here hx rfl (hb hby d4_10) rfl (XT.i0_ne_f hc7) k) ?_
      show Go p e below s _ _ _ s₁ (mkF m 13 #[.val (.int x0), .val (.int x1)] [])
      refine go_st (fun _ k => XT.iconstV X0.here hx rfl (0 : Int32) (hb hby d4_13) (by decide) k) ?_
      show Go p e below s _ _ _ s₁ (mkF m 14 #[.val (.int x0), .val (.int x1)] [(.int (0 : Int32))])
      exact go_retI X0 hx hlk hret (hb hby d4_14) (by decide) (by decide) ⟨rfl, N0, e0⟩
    · rw [if_neg hc7]
      refine go_st (fun _ k => XS.ifYes X0.here hx rfl (pc0 := 10) (pc' := 15) rfl (hb hby d4_10) rfl (XT.i0_ne_t hc7) (by decide) (by decide) k) ?_
      show Go p e below s _ _ _ s₁ (mkF m 15 #[.val (.int x0), .val (.int x1)] [])
      refine go_st (fun _ k => XT.iconstV X0.here hx rfl (1 : Int32) (hb hby d4_15) (by decide) k) ?_
      show Go p e below s _ _ _ s₁ (mkF m 16 #[.val (.int x0), .val (.int x1)] [(.int (1 : Int32))])
      refine go_st (fun _ k => XS.iloadN X0.here hx rfl (hb hby d4_16) rfl k) ?_
      show Go p e below s _ _ _ s₁ (mkF m 17 #[.val (.int x0), .val (.int x1)] [(.int x1), (.int (1 : Int32))])
      refine go_st (fun _ k => Jvm.Stand.ldcI X0 hx hown (mvT hZ (hw _ (List.mem_of_getElem? (i := 16) rfl))) rfl (hb hby d4_17) k) ?_
      show Go p e below s _ _ _ s₁ (mkF m 19 #[.val (.int x0), .val (.int x1)] [(.int (2147483647 : Int32)), (.int x1), (.int (1 : Int32))])
      refine go_st (fun _ k => XS.iand X0.here hx rfl (hb hby d4_19) rfl k) ?_
      show Go p e below s _ _ _ s₁ (mkF m 20 #[.val (.int x0), .val (.int x1)] [(.int (x1 &&& (2147483647 : Int32))), (.int (1 : Int32))])
      refine go_callS X0 hx hZ hml hown (hw _ (List.mem_of_getElem? (i := 21) rfl)) (hw _ (List.mem_of_getElem? (i := 22) rfl)) (hw _ (List.mem_of_getElem? (i := 19) rfl)) (hw _ (List.mem_of_getElem? (i := 23) rfl)) e0 (argsL := [(.int (1 : Int32)), (.int (x1 &&& (2147483647 : Int32)))]) (rest := []) (W := 0) (met_2 l Z a0 hw (1 : Int32) (x1 &&& (2147483647 : Int32)) h0 n0) (hb hby d4_20) rfl rfl rfl (lenOf pd0 rfl) (by show 2 * 0 + _ ≤ _; exact Nat.le_of_eq rfl) (by decide) (by decide) (by decide) (by decide) (by decide) ?_
      intro T8 v8 L8 X8 q8
      obtain ⟨rfl, M8, e8⟩ := q8
      have N8 := Fr.app N0 M8
      show Go p e below s _ _ _ T8 (mkF m 23 #[.val (.int x0), .val (.int x1)] [(.int (fMax (1 : Int32) (x1 &&& (2147483647 : Int32))))])
      exact go_retI X8 hx hlk hret (hb hby d4_23) (by decide) (by decide) ⟨rfl, N8, e8⟩
theorem d5_0 : decode method_2_code 0 = .ok (.iload_n 0, 1) := by decide +kernel
theorem d5_1 : decode method_2_code 1 = .ok (.ifCond .ne 14, 3) := by decide +kernel
theorem d5_4 : decode method_2_code 4 = .ok (.iload_n 1, 1) := by decide +kernel
theorem d5_5 : decode method_2_code 5 = .ok (.iload_n 2, 1) := by decide +kernel
theorem d5_6 : decode method_2_code 6 = .ok (.if_icmp .ne 7, 3) := by decide +kernel
theorem d5_9 : decode method_2_code 9 = .ok (.iconst 1, 1) := by decide +kernel
theorem d5_10 : decode method_2_code 10 = .ok (.goto 4, 3) := by decide +kernel
theorem d5_13 : decode method_2_code 13 = .ok (.iconst 0, 1) := by decide +kernel
theorem d5_14 : decode method_2_code 14 = .ok (.ireturn, 1) := by decide +kernel
theorem d5_15 : decode method_2_code 15 = .ok (.iload_n 0, 1) := by decide +kernel
theorem d5_16 : decode method_2_code 16 = .ok (.iconst 1, 1) := by decide +kernel
theorem d5_17 : decode method_2_code 17 = .ok (.if_icmp .ne 14, 3) := by decide +kernel
theorem d5_20 : decode method_2_code 20 = .ok (.iload_n 1, 1) := by decide +kernel
theorem d5_21 : decode method_2_code 21 = .ok (.iload_n 2, 1) := by decide +kernel
theorem d5_22 : decode method_2_code 22 = .ok (.if_icmp .eq 7, 3) := by decide +kernel
theorem d5_25 : decode method_2_code 25 = .ok (.iconst 1, 1) := by decide +kernel
theorem d5_26 : decode method_2_code 26 = .ok (.goto 4, 3) := by decide +kernel
theorem d5_29 : decode method_2_code 29 = .ok (.iconst 0, 1) := by decide +kernel
theorem d5_30 : decode method_2_code 30 = .ok (.ireturn, 1) := by decide +kernel
theorem d5_31 : decode method_2_code 31 = .ok (.iload_n 0, 1) := by decide +kernel
theorem d5_32 : decode method_2_code 32 = .ok (.iconst 2, 1) := by decide +kernel
theorem d5_33 : decode method_2_code 33 = .ok (.if_icmp .ne 14, 3) := by decide +kernel
theorem d5_36 : decode method_2_code 36 = .ok (.iload_n 1, 1) := by decide +kernel
theorem d5_37 : decode method_2_code 37 = .ok (.iload_n 2, 1) := by decide +kernel
theorem d5_38 : decode method_2_code 38 = .ok (.if_icmp .ge 7, 3) := by decide +kernel
theorem d5_41 : decode method_2_code 41 = .ok (.iconst 1, 1) := by decide +kernel
theorem d5_42 : decode method_2_code 42 = .ok (.goto 4, 3) := by decide +kernel
theorem d5_45 : decode method_2_code 45 = .ok (.iconst 0, 1) := by decide +kernel
theorem d5_46 : decode method_2_code 46 = .ok (.ireturn, 1) := by decide +kernel
theorem d5_47 : decode method_2_code 47 = .ok (.iload_n 0, 1) := by decide +kernel
theorem d5_48 : decode method_2_code 48 = .ok (.iconst 3, 1) := by decide +kernel
theorem d5_49 : decode method_2_code 49 = .ok (.if_icmp .ne 14, 3) := by decide +kernel
theorem d5_52 : decode method_2_code 52 = .ok (.iload_n 1, 1) := by decide +kernel
theorem d5_53 : decode method_2_code 53 = .ok (.iload_n 2, 1) := by decide +kernel
theorem d5_54 : decode method_2_code 54 = .ok (.if_icmp .gt 7, 3) := by decide +kernel
theorem d5_57 : decode method_2_code 57 = .ok (.iconst 1, 1) := by decide +kernel
theorem d5_58 : decode method_2_code 58 = .ok (.goto 4, 3) := by decide +kernel
theorem d5_61 : decode method_2_code 61 = .ok (.iconst 0, 1) := by decide +kernel
theorem d5_62 : decode method_2_code 62 = .ok (.ireturn, 1) := by decide +kernel
theorem d5_63 : decode method_2_code 63 = .ok (.iload_n 0, 1) := by decide +kernel
theorem d5_64 : decode method_2_code 64 = .ok (.iconst 4, 1) := by decide +kernel
theorem d5_65 : decode method_2_code 65 = .ok (.if_icmp .ne 14, 3) := by decide +kernel
theorem d5_68 : decode method_2_code 68 = .ok (.iload_n 1, 1) := by decide +kernel
theorem d5_69 : decode method_2_code 69 = .ok (.iload_n 2, 1) := by decide +kernel
theorem d5_70 : decode method_2_code 70 = .ok (.if_icmp .le 7, 3) := by decide +kernel
theorem d5_73 : decode method_2_code 73 = .ok (.iconst 1, 1) := by decide +kernel
theorem d5_74 : decode method_2_code 74 = .ok (.goto 4, 3) := by decide +kernel
theorem d5_77 : decode method_2_code 77 = .ok (.iconst 0, 1) := by decide +kernel
theorem d5_78 : decode method_2_code 78 = .ok (.ireturn, 1) := by decide +kernel
theorem d5_79 : decode method_2_code 79 = .ok (.iload_n 1, 1) := by decide +kernel
theorem d5_80 : decode method_2_code 80 = .ok (.iload_n 2, 1) := by decide +kernel
theorem d5_81 : decode method_2_code 81 = .ok (.if_icmp .lt 7, 3) := by decide +kernel
theorem d5_84 : decode method_2_code 84 = .ok (.iconst 1, 1) := by decide +kernel
theorem d5_85 : decode method_2_code 85 = .ok (.goto 4, 3) := by decide +kernel
theorem d5_88 : decode method_2_code 88 = .ok (.iconst 0, 1) := by decide +kernel
theorem d5_89 : decode method_2_code 89 = .ok (.ireturn, 1) := by decide +kernel
theorem pn5 : plainFor (⟨"com/example/skipstone/skipstone/prune/OperatorAdmitsPinLaw", "sat", "(III)Z"⟩ : MethodName) = true := by first | (refine plainFor_of_name ?_; simp [plainName, overriddenIn]; done) | (refine plainFor_of_name ?_; decide +kernel) | decide +kernel
def fSat (x0 : Int32) (x1 : Int32) (x2 : Int32) : Int32 := (if x0 = (0 : Int32) then (if x1 = x2 then (1 : Int32) else (0 : Int32)) else (if x0 = (1 : Int32) then (if x1 = x2 then (0 : Int32) else (1 : Int32)) else (if x0 = (2 : Int32) then (if x1 < x2 then (1 : Int32) else (0 : Int32)) else (if x0 = (3 : Int32) then (if x2 < x1 then (0 : Int32) else (1 : Int32)) else (if x0 = (4 : Int32) then (if x2 < x1 then (1 : Int32) else (0 : Int32)) else (if x1 < x2 then (0 : Int32) else (1 : Int32)))))))
theorem ef_5 (m : MethodId) (x0 : Int32) (x1 : Int32) (x2 : Int32) : entryFrame m #[(.int x0), (.int x1), (.int x2)] 3 = mkF m 0 #[.val (.int x0), .val (.int x1), .val (.int x2)] [] := by first | (simp [entryFrame, mkF, argsToLocals, Value.category]; done) | rfl
abbrev rm_5 : Room := ({ frames := 0, cells := 0, slots := 0, locals := 0 } : Room)
set_option maxRecDepth 65536 in
set_option maxHeartbeats 4000000 in
theorem met_5 (l : Launch) (Z : State) (a0 : Array Value) (hw : ∀ d ∈ tables_1, d.before a0 Z = true) (x0 : Int32) (x1 : Int32) (x2 : Int32) (h0 : Heap) (n0 : Nat) :
    Met l (⟨"com/example/skipstone/skipstone/prune/OperatorAdmitsPinLaw", "sat", "(III)Z"⟩ : MethodName) method_2_code 3 (some FieldType.boolean) [] rm_5 Z #[(.int x0), (.int x1), (.int x2)] h0 (QV (some (.int (fSat x0 x1 x2))) h0 n0) 0 0 := by
  refine own_body pn5 ?_
  intro p e s m below meth c s₁ ct X0 e0
  have ct0 := ct
  obtain ⟨hx, hZ, hown, hby, hml, hret, hlk, hnm⟩ := ct
  have N0 := Fr.nil n0
  refine castGo (ef_5 m x0 x1 x2) ?_
  unfold fSat
  show Go p e below s _ _ _ s₁ (mkF m 0 #[.val (.int x0), .val (.int x1), .val (.int x2)] [])
  refine go_st (fun _ k => XS.iloadN X0.here hx rfl (hb hby d5_0) rfl k) ?_
  show Go p e below s _ _ _ s₁ (mkF m 1 #[.val (.int x0), .val (.int x1), .val (.int x2)] [(.int x0)])
  by_cases hc9 : x0 = (0 : Int32)
  · rw [if_pos hc9]
    refine go_st (fun _ k => XS.ifNo X0.here hx rfl (hb hby d5_1) rfl (XT.i0_ne_f hc9) k) ?_
    show Go p e below s _ _ _ s₁ (mkF m 4 #[.val (.int x0), .val (.int x1), .val (.int x2)] [])
    refine go_st (fun _ k => XS.iloadN X0.here hx rfl (hb hby d5_4) rfl k) ?_
    show Go p e below s _ _ _ s₁ (mkF m 5 #[.val (.int x0), .val (.int x1), .val (.int x2)] [(.int x1)])
    refine go_st (fun _ k => XS.iloadN X0.here hx rfl (hb hby d5_5) rfl k) ?_
    show Go p e below s _ _ _ s₁ (mkF m 6 #[.val (.int x0), .val (.int x1), .val (.int x2)] [(.int x2), (.int x1)])
    by_cases hc10 : x1 = x2
    · rw [if_pos hc10]
      refine go_st (fun _ k => XS.icmpNo X0.here hx rfl (hb hby d5_6) rfl (XT.ii_ne_f hc10) k) ?_
      show Go p e below s _ _ _ s₁ (mkF m 9 #[.val (.int x0), .val (.int x1), .val (.int x2)] [])
      refine go_st (fun _ k => XT.iconstV X0.here hx rfl (1 : Int32) (hb hby d5_9) (by decide) k) ?_
      show Go p e below s _ _ _ s₁ (mkF m 10 #[.val (.int x0), .val (.int x1), .val (.int x2)] [(.int (1 : Int32))])
      refine go_st (fun _ k => XS.goto X0.here hx rfl (pc0 := 10) (pc' := 14) rfl (hb hby d5_10) (by decide) (by decide) k) ?_
      show Go p e below s _ _ _ s₁ (mkF m 14 #[.val (.int x0), .val (.int x1), .val (.int x2)] [(.int (1 : Int32))])
      exact go_retB (w := (1 : Int32)) X0 hx hlk hret (hb hby d5_14) (by decide) (by decide) (by decide) ⟨rfl, N0, e0⟩
    · rw [if_neg hc10]
      refine go_st (fun _ k => XS.icmpYes X0.here hx rfl (pc0 := 6) (pc' := 13) rfl (hb hby d5_6) rfl (XT.ii_ne_t hc10) (by decide) (by decide) k) ?_
      show Go p e below s _ _ _ s₁ (mkF m 13 #[.val (.int x0), .val (.int x1), .val (.int x2)] [])
      refine go_st (fun _ k => XT.iconstV X0.here hx rfl (0 : Int32) (hb hby d5_13) (by decide) k) ?_
      show Go p e below s _ _ _ s₁ (mkF m 14 #[.val (.int x0), .val (.int x1), .val (.int x2)] [(.int (0 : Int32))])
      exact go_retB (w := (0 : Int32)) X0 hx hlk hret (hb hby d5_14) (by decide) (by decide) (by decide) ⟨rfl, N0, e0⟩
  · rw [if_neg hc9]
    refine go_st (fun _ k => XS.ifYes X0.here hx rfl (pc0 := 1) (pc' := 15) rfl (hb hby d5_1) rfl (XT.i0_ne_t hc9) (by decide) (by decide) k) ?_
    show Go p e below s _ _ _ s₁ (mkF m 15 #[.val (.int x0), .val (.int x1), .val (.int x2)] [])
    refine go_st (fun _ k => XS.iloadN X0.here hx rfl (hb hby d5_15) rfl k) ?_
    show Go p e below s _ _ _ s₁ (mkF m 16 #[.val (.int x0), .val (.int x1), .val (.int x2)] [(.int x0)])
    refine go_st (fun _ k => XT.iconstV X0.here hx rfl (1 : Int32) (hb hby d5_16) (by decide) k) ?_
    show Go p e below s _ _ _ s₁ (mkF m 17 #[.val (.int x0), .val (.int x1), .val (.int x2)] [(.int (1 : Int32)), (.int x0)])
    by_cases hc11 : x0 = (1 : Int32)
    · rw [if_pos hc11]
      refine go_st (fun _ k => XS.icmpNo X0.here hx rfl (hb hby d5_17) rfl (XT.ii_ne_f hc11) k) ?_
      show Go p e below s _ _ _ s₁ (mkF m 20 #[.val (.int x0), .val (.int x1), .val (.int x2)] [])
      refine go_st (fun _ k => XS.iloadN X0.here hx rfl (hb hby d5_20) rfl k) ?_
      show Go p e below s _ _ _ s₁ (mkF m 21 #[.val (.int x0), .val (.int x1), .val (.int x2)] [(.int x1)])
      refine go_st (fun _ k => XS.iloadN X0.here hx rfl (hb hby d5_21) rfl k) ?_
      show Go p e below s _ _ _ s₁ (mkF m 22 #[.val (.int x0), .val (.int x1), .val (.int x2)] [(.int x2), (.int x1)])
      by_cases hc12 : x1 = x2
      · rw [if_pos hc12]
        refine go_st (fun _ k => XS.icmpYes X0.here hx rfl (pc0 := 22) (pc' := 29) rfl (hb hby d5_22) rfl (XT.ii_eq_t hc12) (by decide) (by decide) k) ?_
        show Go p e below s _ _ _ s₁ (mkF m 29 #[.val (.int x0), .val (.int x1), .val (.int x2)] [])
        refine go_st (fun _ k => XT.iconstV X0.here hx rfl (0 : Int32) (hb hby d5_29) (by decide) k) ?_
        show Go p e below s _ _ _ s₁ (mkF m 30 #[.val (.int x0), .val (.int x1), .val (.int x2)] [(.int (0 : Int32))])
        exact go_retB (w := (0 : Int32)) X0 hx hlk hret (hb hby d5_30) (by decide) (by decide) (by decide) ⟨rfl, N0, e0⟩
      · rw [if_neg hc12]
        refine go_st (fun _ k => XS.icmpNo X0.here hx rfl (hb hby d5_22) rfl (XT.ii_eq_f hc12) k) ?_
        show Go p e below s _ _ _ s₁ (mkF m 25 #[.val (.int x0), .val (.int x1), .val (.int x2)] [])
        refine go_st (fun _ k => XT.iconstV X0.here hx rfl (1 : Int32) (hb hby d5_25) (by decide) k) ?_
        show Go p e below s _ _ _ s₁ (mkF m 26 #[.val (.int x0), .val (.int x1), .val (.int x2)] [(.int (1 : Int32))])
        refine go_st (fun _ k => XS.goto X0.here hx rfl (pc0 := 26) (pc' := 30) rfl (hb hby d5_26) (by decide) (by decide) k) ?_
        show Go p e below s _ _ _ s₁ (mkF m 30 #[.val (.int x0), .val (.int x1), .val (.int x2)] [(.int (1 : Int32))])
        exact go_retB (w := (1 : Int32)) X0 hx hlk hret (hb hby d5_30) (by decide) (by decide) (by decide) ⟨rfl, N0, e0⟩
    · rw [if_neg hc11]
      refine go_st (fun _ k => XS.icmpYes X0.here hx rfl (pc0 := 17) (pc' := 31) rfl (hb hby d5_17) rfl (XT.ii_ne_t hc11) (by decide) (by decide) k) ?_
      show Go p e below s _ _ _ s₁ (mkF m 31 #[.val (.int x0), .val (.int x1), .val (.int x2)] [])
      refine go_st (fun _ k => XS.iloadN X0.here hx rfl (hb hby d5_31) rfl k) ?_
      show Go p e below s _ _ _ s₁ (mkF m 32 #[.val (.int x0), .val (.int x1), .val (.int x2)] [(.int x0)])
      refine go_st (fun _ k => XT.iconstV X0.here hx rfl (2 : Int32) (hb hby d5_32) (by decide) k) ?_
      show Go p e below s _ _ _ s₁ (mkF m 33 #[.val (.int x0), .val (.int x1), .val (.int x2)] [(.int (2 : Int32)), (.int x0)])
      by_cases hc13 : x0 = (2 : Int32)
      · rw [if_pos hc13]
        refine go_st (fun _ k => XS.icmpNo X0.here hx rfl (hb hby d5_33) rfl (XT.ii_ne_f hc13) k) ?_
        show Go p e below s _ _ _ s₁ (mkF m 36 #[.val (.int x0), .val (.int x1), .val (.int x2)] [])
        refine go_st (fun _ k => XS.iloadN X0.here hx rfl (hb hby d5_36) rfl k) ?_
        show Go p e below s _ _ _ s₁ (mkF m 37 #[.val (.int x0), .val (.int x1), .val (.int x2)] [(.int x1)])
        refine go_st (fun _ k => XS.iloadN X0.here hx rfl (hb hby d5_37) rfl k) ?_
        show Go p e below s _ _ _ s₁ (mkF m 38 #[.val (.int x0), .val (.int x1), .val (.int x2)] [(.int x2), (.int x1)])
        by_cases hc14 : x1 < x2
        · rw [if_pos hc14]
          refine go_st (fun _ k => XS.icmpNo X0.here hx rfl (hb hby d5_38) rfl (XT.ii_ge_f hc14) k) ?_
          show Go p e below s _ _ _ s₁ (mkF m 41 #[.val (.int x0), .val (.int x1), .val (.int x2)] [])
          refine go_st (fun _ k => XT.iconstV X0.here hx rfl (1 : Int32) (hb hby d5_41) (by decide) k) ?_
          show Go p e below s _ _ _ s₁ (mkF m 42 #[.val (.int x0), .val (.int x1), .val (.int x2)] [(.int (1 : Int32))])
          refine go_st (fun _ k => XS.goto X0.here hx rfl (pc0 := 42) (pc' := 46) rfl (hb hby d5_42) (by decide) (by decide) k) ?_
          show Go p e below s _ _ _ s₁ (mkF m 46 #[.val (.int x0), .val (.int x1), .val (.int x2)] [(.int (1 : Int32))])
          exact go_retB (w := (1 : Int32)) X0 hx hlk hret (hb hby d5_46) (by decide) (by decide) (by decide) ⟨rfl, N0, e0⟩
        · rw [if_neg hc14]
          refine go_st (fun _ k => XS.icmpYes X0.here hx rfl (pc0 := 38) (pc' := 45) rfl (hb hby d5_38) rfl (XT.ii_ge_t hc14) (by decide) (by decide) k) ?_
          show Go p e below s _ _ _ s₁ (mkF m 45 #[.val (.int x0), .val (.int x1), .val (.int x2)] [])
          refine go_st (fun _ k => XT.iconstV X0.here hx rfl (0 : Int32) (hb hby d5_45) (by decide) k) ?_
          show Go p e below s _ _ _ s₁ (mkF m 46 #[.val (.int x0), .val (.int x1), .val (.int x2)] [(.int (0 : Int32))])
          exact go_retB (w := (0 : Int32)) X0 hx hlk hret (hb hby d5_46) (by decide) (by decide) (by decide) ⟨rfl, N0, e0⟩
      · rw [if_neg hc13]
        refine go_st (fun _ k => XS.icmpYes X0.here hx rfl (pc0 := 33) (pc' := 47) rfl (hb hby d5_33) rfl (XT.ii_ne_t hc13) (by decide) (by decide) k) ?_
        show Go p e below s _ _ _ s₁ (mkF m 47 #[.val (.int x0), .val (.int x1), .val (.int x2)] [])
        refine go_st (fun _ k => XS.iloadN X0.here hx rfl (hb hby d5_47) rfl k) ?_
        show Go p e below s _ _ _ s₁ (mkF m 48 #[.val (.int x0), .val (.int x1), .val (.int x2)] [(.int x0)])
        refine go_st (fun _ k => XT.iconstV X0.here hx rfl (3 : Int32) (hb hby d5_48) (by decide) k) ?_
        show Go p e below s _ _ _ s₁ (mkF m 49 #[.val (.int x0), .val (.int x1), .val (.int x2)] [(.int (3 : Int32)), (.int x0)])
        by_cases hc15 : x0 = (3 : Int32)
        · rw [if_pos hc15]
          refine go_st (fun _ k => XS.icmpNo X0.here hx rfl (hb hby d5_49) rfl (XT.ii_ne_f hc15) k) ?_
          show Go p e below s _ _ _ s₁ (mkF m 52 #[.val (.int x0), .val (.int x1), .val (.int x2)] [])
          refine go_st (fun _ k => XS.iloadN X0.here hx rfl (hb hby d5_52) rfl k) ?_
          show Go p e below s _ _ _ s₁ (mkF m 53 #[.val (.int x0), .val (.int x1), .val (.int x2)] [(.int x1)])
          refine go_st (fun _ k => XS.iloadN X0.here hx rfl (hb hby d5_53) rfl k) ?_
          show Go p e below s _ _ _ s₁ (mkF m 54 #[.val (.int x0), .val (.int x1), .val (.int x2)] [(.int x2), (.int x1)])
          by_cases hc16 : x2 < x1
          · rw [if_pos hc16]
            refine go_st (fun _ k => XS.icmpYes X0.here hx rfl (pc0 := 54) (pc' := 61) rfl (hb hby d5_54) rfl (XT.ii_gt_t hc16) (by decide) (by decide) k) ?_
            show Go p e below s _ _ _ s₁ (mkF m 61 #[.val (.int x0), .val (.int x1), .val (.int x2)] [])
            refine go_st (fun _ k => XT.iconstV X0.here hx rfl (0 : Int32) (hb hby d5_61) (by decide) k) ?_
            show Go p e below s _ _ _ s₁ (mkF m 62 #[.val (.int x0), .val (.int x1), .val (.int x2)] [(.int (0 : Int32))])
            exact go_retB (w := (0 : Int32)) X0 hx hlk hret (hb hby d5_62) (by decide) (by decide) (by decide) ⟨rfl, N0, e0⟩
          · rw [if_neg hc16]
            refine go_st (fun _ k => XS.icmpNo X0.here hx rfl (hb hby d5_54) rfl (XT.ii_gt_f hc16) k) ?_
            show Go p e below s _ _ _ s₁ (mkF m 57 #[.val (.int x0), .val (.int x1), .val (.int x2)] [])
            refine go_st (fun _ k => XT.iconstV X0.here hx rfl (1 : Int32) (hb hby d5_57) (by decide) k) ?_
            show Go p e below s _ _ _ s₁ (mkF m 58 #[.val (.int x0), .val (.int x1), .val (.int x2)] [(.int (1 : Int32))])
            refine go_st (fun _ k => XS.goto X0.here hx rfl (pc0 := 58) (pc' := 62) rfl (hb hby d5_58) (by decide) (by decide) k) ?_
            show Go p e below s _ _ _ s₁ (mkF m 62 #[.val (.int x0), .val (.int x1), .val (.int x2)] [(.int (1 : Int32))])
            exact go_retB (w := (1 : Int32)) X0 hx hlk hret (hb hby d5_62) (by decide) (by decide) (by decide) ⟨rfl, N0, e0⟩
        · rw [if_neg hc15]
          refine go_st (fun _ k => XS.icmpYes X0.here hx rfl (pc0 := 49) (pc' := 63) rfl (hb hby d5_49) rfl (XT.ii_ne_t hc15) (by decide) (by decide) k) ?_
          show Go p e below s _ _ _ s₁ (mkF m 63 #[.val (.int x0), .val (.int x1), .val (.int x2)] [])
          refine go_st (fun _ k => XS.iloadN X0.here hx rfl (hb hby d5_63) rfl k) ?_
          show Go p e below s _ _ _ s₁ (mkF m 64 #[.val (.int x0), .val (.int x1), .val (.int x2)] [(.int x0)])
          refine go_st (fun _ k => XT.iconstV X0.here hx rfl (4 : Int32) (hb hby d5_64) (by decide) k) ?_
          show Go p e below s _ _ _ s₁ (mkF m 65 #[.val (.int x0), .val (.int x1), .val (.int x2)] [(.int (4 : Int32)), (.int x0)])
          by_cases hc17 : x0 = (4 : Int32)
          · rw [if_pos hc17]
            refine go_st (fun _ k => XS.icmpNo X0.here hx rfl (hb hby d5_65) rfl (XT.ii_ne_f hc17) k) ?_
            show Go p e below s _ _ _ s₁ (mkF m 68 #[.val (.int x0), .val (.int x1), .val (.int x2)] [])
            refine go_st (fun _ k => XS.iloadN X0.here hx rfl (hb hby d5_68) rfl k) ?_
            show Go p e below s _ _ _ s₁ (mkF m 69 #[.val (.int x0), .val (.int x1), .val (.int x2)] [(.int x1)])
            refine go_st (fun _ k => XS.iloadN X0.here hx rfl (hb hby d5_69) rfl k) ?_
            show Go p e below s _ _ _ s₁ (mkF m 70 #[.val (.int x0), .val (.int x1), .val (.int x2)] [(.int x2), (.int x1)])
            by_cases hc18 : x2 < x1
            · rw [if_pos hc18]
              refine go_st (fun _ k => XS.icmpNo X0.here hx rfl (hb hby d5_70) rfl (XT.ii_le_f hc18) k) ?_
              show Go p e below s _ _ _ s₁ (mkF m 73 #[.val (.int x0), .val (.int x1), .val (.int x2)] [])
              refine go_st (fun _ k => XT.iconstV X0.here hx rfl (1 : Int32) (hb hby d5_73) (by decide) k) ?_
              show Go p e below s _ _ _ s₁ (mkF m 74 #[.val (.int x0), .val (.int x1), .val (.int x2)] [(.int (1 : Int32))])
              refine go_st (fun _ k => XS.goto X0.here hx rfl (pc0 := 74) (pc' := 78) rfl (hb hby d5_74) (by decide) (by decide) k) ?_
              show Go p e below s _ _ _ s₁ (mkF m 78 #[.val (.int x0), .val (.int x1), .val (.int x2)] [(.int (1 : Int32))])
              exact go_retB (w := (1 : Int32)) X0 hx hlk hret (hb hby d5_78) (by decide) (by decide) (by decide) ⟨rfl, N0, e0⟩
            · rw [if_neg hc18]
              refine go_st (fun _ k => XS.icmpYes X0.here hx rfl (pc0 := 70) (pc' := 77) rfl (hb hby d5_70) rfl (XT.ii_le_t hc18) (by decide) (by decide) k) ?_
              show Go p e below s _ _ _ s₁ (mkF m 77 #[.val (.int x0), .val (.int x1), .val (.int x2)] [])
              refine go_st (fun _ k => XT.iconstV X0.here hx rfl (0 : Int32) (hb hby d5_77) (by decide) k) ?_
              show Go p e below s _ _ _ s₁ (mkF m 78 #[.val (.int x0), .val (.int x1), .val (.int x2)] [(.int (0 : Int32))])
              exact go_retB (w := (0 : Int32)) X0 hx hlk hret (hb hby d5_78) (by decide) (by decide) (by decide) ⟨rfl, N0, e0⟩
          · rw [if_neg hc17]
            refine go_st (fun _ k => XS.icmpYes X0.here hx rfl (pc0 := 65) (pc' := 79) rfl (hb hby d5_65) rfl (XT.ii_ne_t hc17) (by decide) (by decide) k) ?_
            show Go p e below s _ _ _ s₁ (mkF m 79 #[.val (.int x0), .val (.int x1), .val (.int x2)] [])
            refine go_st (fun _ k => XS.iloadN X0.here hx rfl (hb hby d5_79) rfl k) ?_
            show Go p e below s _ _ _ s₁ (mkF m 80 #[.val (.int x0), .val (.int x1), .val (.int x2)] [(.int x1)])
            refine go_st (fun _ k => XS.iloadN X0.here hx rfl (hb hby d5_80) rfl k) ?_
            show Go p e below s _ _ _ s₁ (mkF m 81 #[.val (.int x0), .val (.int x1), .val (.int x2)] [(.int x2), (.int x1)])
            by_cases hc19 : x1 < x2
            · rw [if_pos hc19]
              refine go_st (fun _ k => XS.icmpYes X0.here hx rfl (pc0 := 81) (pc' := 88) rfl (hb hby d5_81) rfl (XT.ii_lt_t hc19) (by decide) (by decide) k) ?_
              show Go p e below s _ _ _ s₁ (mkF m 88 #[.val (.int x0), .val (.int x1), .val (.int x2)] [])
              refine go_st (fun _ k => XT.iconstV X0.here hx rfl (0 : Int32) (hb hby d5_88) (by decide) k) ?_
              show Go p e below s _ _ _ s₁ (mkF m 89 #[.val (.int x0), .val (.int x1), .val (.int x2)] [(.int (0 : Int32))])
              exact go_retB (w := (0 : Int32)) X0 hx hlk hret (hb hby d5_89) (by decide) (by decide) (by decide) ⟨rfl, N0, e0⟩
            · rw [if_neg hc19]
              refine go_st (fun _ k => XS.icmpNo X0.here hx rfl (hb hby d5_81) rfl (XT.ii_lt_f hc19) k) ?_
              show Go p e below s _ _ _ s₁ (mkF m 84 #[.val (.int x0), .val (.int x1), .val (.int x2)] [])
              refine go_st (fun _ k => XT.iconstV X0.here hx rfl (1 : Int32) (hb hby d5_84) (by decide) k) ?_
              show Go p e below s _ _ _ s₁ (mkF m 85 #[.val (.int x0), .val (.int x1), .val (.int x2)] [(.int (1 : Int32))])
              refine go_st (fun _ k => XS.goto X0.here hx rfl (pc0 := 85) (pc' := 89) rfl (hb hby d5_85) (by decide) (by decide) k) ?_
              show Go p e below s _ _ _ s₁ (mkF m 89 #[.val (.int x0), .val (.int x1), .val (.int x2)] [(.int (1 : Int32))])
              exact go_retB (w := (1 : Int32)) X0 hx hlk hret (hb hby d5_89) (by decide) (by decide) (by decide) ⟨rfl, N0, e0⟩
theorem d6_0 : decode prog_26_method_7_code 0 = .ok (.aload_n 0, 1) := by decide +kernel
theorem d6_1 : decode prog_26_method_7_code 1 = .ok (.invokevirtual 57, 3) := by decide +kernel
theorem d6_4 : decode prog_26_method_7_code 4 = .ok (.tableswitch 40 0 5 #[50, 66, 82, 94, 106, 118], 40) := by decide +kernel
theorem d6_44 : decode prog_26_method_7_code 44 = .ok (.new 61, 3) := by decide +kernel
theorem d6_47 : decode prog_26_method_7_code 47 = .ok (.dup, 1) := by decide +kernel
theorem d6_48 : decode prog_26_method_7_code 48 = .ok (.aconst_null, 1) := by decide +kernel
theorem d6_49 : decode prog_26_method_7_code 49 = .ok (.aconst_null, 1) := by decide +kernel
theorem d6_50 : decode prog_26_method_7_code 50 = .ok (.invokespecial 63, 3) := by decide +kernel
theorem d6_53 : decode prog_26_method_7_code 53 = .ok (.athrow, 1) := by decide +kernel
theorem d6_54 : decode prog_26_method_7_code 54 = .ok (.iload_n 1, 1) := by decide +kernel
theorem d6_55 : decode prog_26_method_7_code 55 = .ok (.ifCond .gt 11, 3) := by decide +kernel
theorem d6_58 : decode prog_26_method_7_code 58 = .ok (.iload_n 2, 1) := by decide +kernel
theorem d6_59 : decode prog_26_method_7_code 59 = .ok (.ifCond .lt 7, 3) := by decide +kernel
theorem d6_62 : decode prog_26_method_7_code 62 = .ok (.iconst 1, 1) := by decide +kernel
theorem d6_63 : decode prog_26_method_7_code 63 = .ok (.goto 68, 3) := by decide +kernel
theorem d6_66 : decode prog_26_method_7_code 66 = .ok (.iconst 0, 1) := by decide +kernel
theorem d6_67 : decode prog_26_method_7_code 67 = .ok (.goto 64, 3) := by decide +kernel
theorem d6_70 : decode prog_26_method_7_code 70 = .ok (.iload_n 1, 1) := by decide +kernel
theorem d6_71 : decode prog_26_method_7_code 71 = .ok (.ifCond .ne 7, 3) := by decide +kernel
theorem d6_74 : decode prog_26_method_7_code 74 = .ok (.iload_n 2, 1) := by decide +kernel
theorem d6_75 : decode prog_26_method_7_code 75 = .ok (.ifCond .eq 7, 3) := by decide +kernel
theorem d6_78 : decode prog_26_method_7_code 78 = .ok (.iconst 1, 1) := by decide +kernel
theorem d6_79 : decode prog_26_method_7_code 79 = .ok (.goto 52, 3) := by decide +kernel
theorem d6_82 : decode prog_26_method_7_code 82 = .ok (.iconst 0, 1) := by decide +kernel
theorem d6_83 : decode prog_26_method_7_code 83 = .ok (.goto 48, 3) := by decide +kernel
theorem d6_86 : decode prog_26_method_7_code 86 = .ok (.iload_n 1, 1) := by decide +kernel
theorem d6_87 : decode prog_26_method_7_code 87 = .ok (.ifCond .ge 7, 3) := by decide +kernel
theorem d6_90 : decode prog_26_method_7_code 90 = .ok (.iconst 1, 1) := by decide +kernel
theorem d6_91 : decode prog_26_method_7_code 91 = .ok (.goto 40, 3) := by decide +kernel
theorem d6_94 : decode prog_26_method_7_code 94 = .ok (.iconst 0, 1) := by decide +kernel
theorem d6_95 : decode prog_26_method_7_code 95 = .ok (.goto 36, 3) := by decide +kernel
theorem d6_98 : decode prog_26_method_7_code 98 = .ok (.iload_n 1, 1) := by decide +kernel
theorem d6_99 : decode prog_26_method_7_code 99 = .ok (.ifCond .gt 7, 3) := by decide +kernel
theorem d6_102 : decode prog_26_method_7_code 102 = .ok (.iconst 1, 1) := by decide +kernel
theorem d6_103 : decode prog_26_method_7_code 103 = .ok (.goto 28, 3) := by decide +kernel
theorem d6_106 : decode prog_26_method_7_code 106 = .ok (.iconst 0, 1) := by decide +kernel
theorem d6_107 : decode prog_26_method_7_code 107 = .ok (.goto 24, 3) := by decide +kernel
theorem d6_110 : decode prog_26_method_7_code 110 = .ok (.iload_n 2, 1) := by decide +kernel
theorem d6_111 : decode prog_26_method_7_code 111 = .ok (.ifCond .le 7, 3) := by decide +kernel
theorem d6_114 : decode prog_26_method_7_code 114 = .ok (.iconst 1, 1) := by decide +kernel
theorem d6_115 : decode prog_26_method_7_code 115 = .ok (.goto 16, 3) := by decide +kernel
theorem d6_118 : decode prog_26_method_7_code 118 = .ok (.iconst 0, 1) := by decide +kernel
theorem d6_119 : decode prog_26_method_7_code 119 = .ok (.goto 12, 3) := by decide +kernel
theorem d6_122 : decode prog_26_method_7_code 122 = .ok (.iload_n 2, 1) := by decide +kernel
theorem d6_123 : decode prog_26_method_7_code 123 = .ok (.ifCond .lt 7, 3) := by decide +kernel
theorem d6_126 : decode prog_26_method_7_code 126 = .ok (.iconst 1, 1) := by decide +kernel
theorem d6_127 : decode prog_26_method_7_code 127 = .ok (.goto 4, 3) := by decide +kernel
theorem d6_130 : decode prog_26_method_7_code 130 = .ok (.iconst 0, 1) := by decide +kernel
theorem d6_131 : decode prog_26_method_7_code 131 = .ok (.ireturn, 1) := by decide +kernel
theorem pn6 : plainFor (⟨"com/example/skipstone/skipstone/prune/Operator", "admits", "(II)Z"⟩ : MethodName) = true := by first | (refine plainFor_of_name ?_; simp [plainName, overriddenIn]; done) | (refine plainFor_of_name ?_; decide +kernel) | decide +kernel
theorem pd1 : parseMethodDescriptor "()I" = some ⟨[], (some .int)⟩ := by decide +kernel
def fAdm0 (u : Int32) (v : Int32) : Int32 := (if (0 : Int32) < u then (0 : Int32) else (if v < (0 : Int32) then (0 : Int32) else (1 : Int32)))
theorem ef_adm0 (m : MethodId) (a : Addr) (u : Int32) (v : Int32) : entryFrame m #[(.ref a), (.int u), (.int v)] 3 = mkF m 0 #[.val (.ref a), .val (.int u), .val (.int v)] [] := by first | (simp [entryFrame, mkF, argsToLocals, Value.category]; done) | rfl
abbrev rm_adm0 : Room := ({ frames := 1, cells := 0, slots := 0, locals := 12 } : Room)
set_option maxRecDepth 65536 in
set_option maxHeartbeats 4000000 in
theorem met_adm0 (l : Launch) (Z : State) (a0 : Array Value) (hw : ∀ d ∈ tables_1, d.before a0 Z = true) (a : Addr) (u : Int32) (v : Int32) (h0 : Heap) (n0 : Nat) (Z0 : n0 ≤ h0.size) (P0 : Exa Z h0 a "com/example/skipstone/skipstone/prune/Operator") (P1 : Fld Z h0 a "java/lang/Enum" "ordinal" "I" (.int (0 : Int32))) :
    Met l (⟨"com/example/skipstone/skipstone/prune/Operator", "admits", "(II)Z"⟩ : MethodName) prog_26_method_7_code 3 (some FieldType.boolean) [] rm_adm0 Z #[(.ref a), (.int u), (.int v)] h0 (QV (some (.int (fAdm0 u v))) h0 n0) 0 0 := by
  refine own_body pn6 ?_
  intro p e s m below meth c s₁ ct X0 e0
  have ct0 := ct
  obtain ⟨hx, hZ, hown, hby, hml, hret, hlk, hnm⟩ := ct
  have N0 := Fr.nil n0
  refine castGo (ef_adm0 m a u v) ?_
  unfold fAdm0
  show Go p e below s _ _ _ s₁ (mkF m 0 #[.val (.ref a), .val (.int u), .val (.int v)] [])
  refine go_st (fun _ k => XS.aloadN X0.here hx rfl (hb hby d6_0) rfl rfl k) ?_
  show Go p e below s _ _ _ s₁ (mkF m 1 #[.val (.ref a), .val (.int u), .val (.int v)] [(.ref a)])
  refine go_callU X0 hx hZ hml hown (hw _ (List.mem_of_getElem? (i := 39) rfl)) (hw _ (List.mem_of_getElem? (i := 40) rfl)) (hw _ (List.mem_of_getElem? (i := 41) rfl)) (by decide) (hw _ (List.mem_of_getElem? (i := 43) rfl)) (hw _ (List.mem_of_getElem? (i := 42) rfl)) (hw _ (List.mem_of_getElem? (i := 45) rfl)) (hw _ (List.mem_of_getElem? (i := 44) rfl)) e0 P0 (argsL := []) (rest := []) (W := 0) (met_7 l Z a0 hw a (0 : Int32) h0 n0 Z0 P1) (hb hby d6_1) rfl rfl rfl (lenOf pd1 rfl) (by show 2 * 0 + _ ≤ _; exact Nat.le_of_eq rfl) (by decide) (by decide) (by decide) (by decide) ?_
  intro T20 v20 L20 X20 q20
  obtain ⟨rfl, M20, e20⟩ := q20
  have N20 := Fr.app N0 M20
  show Go p e below s _ _ _ T20 (mkF m 4 #[.val (.ref a), .val (.int u), .val (.int v)] [(.int (0 : Int32))])
  refine go_st (fun _ k => XS.tswIn X20.here hx rfl (pc0 := 4) (pc' := 54) (o := 50) rfl (hb hby d6_4) rfl (by decide) (by decide) (by decide) (by decide) k) ?_
  show Go p e below s _ _ _ T20 (mkF m 54 #[.val (.ref a), .val (.int u), .val (.int v)] [])
  refine go_st (fun _ k => XS.iloadN X20.here hx rfl (hb hby d6_54) rfl k) ?_
  show Go p e below s _ _ _ T20 (mkF m 55 #[.val (.ref a), .val (.int u), .val (.int v)] [(.int u)])
  by_cases hc21 : (0 : Int32) < u
  · rw [if_pos hc21]
    refine go_st (fun _ k => XS.ifYes X20.here hx rfl (pc0 := 55) (pc' := 66) rfl (hb hby d6_55) rfl (XT.i0_gt_t hc21) (by decide) (by decide) k) ?_
    show Go p e below s _ _ _ T20 (mkF m 66 #[.val (.ref a), .val (.int u), .val (.int v)] [])
    refine go_st (fun _ k => XT.iconstV X20.here hx rfl (0 : Int32) (hb hby d6_66) (by decide) k) ?_
    show Go p e below s _ _ _ T20 (mkF m 67 #[.val (.ref a), .val (.int u), .val (.int v)] [(.int (0 : Int32))])
    refine go_st (fun _ k => XS.goto X20.here hx rfl (pc0 := 67) (pc' := 131) rfl (hb hby d6_67) (by decide) (by decide) k) ?_
    show Go p e below s _ _ _ T20 (mkF m 131 #[.val (.ref a), .val (.int u), .val (.int v)] [(.int (0 : Int32))])
    exact go_retB (w := (0 : Int32)) X20 hx hlk hret (hb hby d6_131) (by decide) (by decide) (by decide) ⟨rfl, N20, e20⟩
  · rw [if_neg hc21]
    refine go_st (fun _ k => XS.ifNo X20.here hx rfl (hb hby d6_55) rfl (XT.i0_gt_f hc21) k) ?_
    show Go p e below s _ _ _ T20 (mkF m 58 #[.val (.ref a), .val (.int u), .val (.int v)] [])
    refine go_st (fun _ k => XS.iloadN X20.here hx rfl (hb hby d6_58) rfl k) ?_
    show Go p e below s _ _ _ T20 (mkF m 59 #[.val (.ref a), .val (.int u), .val (.int v)] [(.int v)])
    by_cases hc22 : v < (0 : Int32)
    · rw [if_pos hc22]
      refine go_st (fun _ k => XS.ifYes X20.here hx rfl (pc0 := 59) (pc' := 66) rfl (hb hby d6_59) rfl (XT.i0_lt_t hc22) (by decide) (by decide) k) ?_
      show Go p e below s _ _ _ T20 (mkF m 66 #[.val (.ref a), .val (.int u), .val (.int v)] [])
      refine go_st (fun _ k => XT.iconstV X20.here hx rfl (0 : Int32) (hb hby d6_66) (by decide) k) ?_
      show Go p e below s _ _ _ T20 (mkF m 67 #[.val (.ref a), .val (.int u), .val (.int v)] [(.int (0 : Int32))])
      refine go_st (fun _ k => XS.goto X20.here hx rfl (pc0 := 67) (pc' := 131) rfl (hb hby d6_67) (by decide) (by decide) k) ?_
      show Go p e below s _ _ _ T20 (mkF m 131 #[.val (.ref a), .val (.int u), .val (.int v)] [(.int (0 : Int32))])
      exact go_retB (w := (0 : Int32)) X20 hx hlk hret (hb hby d6_131) (by decide) (by decide) (by decide) ⟨rfl, N20, e20⟩
    · rw [if_neg hc22]
      refine go_st (fun _ k => XS.ifNo X20.here hx rfl (hb hby d6_59) rfl (XT.i0_lt_f hc22) k) ?_
      show Go p e below s _ _ _ T20 (mkF m 62 #[.val (.ref a), .val (.int u), .val (.int v)] [])
      refine go_st (fun _ k => XT.iconstV X20.here hx rfl (1 : Int32) (hb hby d6_62) (by decide) k) ?_
      show Go p e below s _ _ _ T20 (mkF m 63 #[.val (.ref a), .val (.int u), .val (.int v)] [(.int (1 : Int32))])
      refine go_st (fun _ k => XS.goto X20.here hx rfl (pc0 := 63) (pc' := 131) rfl (hb hby d6_63) (by decide) (by decide) k) ?_
      show Go p e below s _ _ _ T20 (mkF m 131 #[.val (.ref a), .val (.int u), .val (.int v)] [(.int (1 : Int32))])
      exact go_retB (w := (1 : Int32)) X20 hx hlk hret (hb hby d6_131) (by decide) (by decide) (by decide) ⟨rfl, N20, e20⟩
def fAdm1 (u : Int32) (v : Int32) : Int32 := (if u = (0 : Int32) then (if v = (0 : Int32) then (0 : Int32) else (1 : Int32)) else (1 : Int32))
theorem ef_adm1 (m : MethodId) (a : Addr) (u : Int32) (v : Int32) : entryFrame m #[(.ref a), (.int u), (.int v)] 3 = mkF m 0 #[.val (.ref a), .val (.int u), .val (.int v)] [] := by first | (simp [entryFrame, mkF, argsToLocals, Value.category]; done) | rfl
abbrev rm_adm1 : Room := ({ frames := 1, cells := 0, slots := 0, locals := 12 } : Room)
set_option maxRecDepth 65536 in
set_option maxHeartbeats 4000000 in
theorem met_adm1 (l : Launch) (Z : State) (a0 : Array Value) (hw : ∀ d ∈ tables_1, d.before a0 Z = true) (a : Addr) (u : Int32) (v : Int32) (h0 : Heap) (n0 : Nat) (Z0 : n0 ≤ h0.size) (P0 : Exa Z h0 a "com/example/skipstone/skipstone/prune/Operator") (P1 : Fld Z h0 a "java/lang/Enum" "ordinal" "I" (.int (1 : Int32))) :
    Met l (⟨"com/example/skipstone/skipstone/prune/Operator", "admits", "(II)Z"⟩ : MethodName) prog_26_method_7_code 3 (some FieldType.boolean) [] rm_adm1 Z #[(.ref a), (.int u), (.int v)] h0 (QV (some (.int (fAdm1 u v))) h0 n0) 0 0 := by
  refine own_body pn6 ?_
  intro p e s m below meth c s₁ ct X0 e0
  have ct0 := ct
  obtain ⟨hx, hZ, hown, hby, hml, hret, hlk, hnm⟩ := ct
  have N0 := Fr.nil n0
  refine castGo (ef_adm1 m a u v) ?_
  unfold fAdm1
  show Go p e below s _ _ _ s₁ (mkF m 0 #[.val (.ref a), .val (.int u), .val (.int v)] [])
  refine go_st (fun _ k => XS.aloadN X0.here hx rfl (hb hby d6_0) rfl rfl k) ?_
  show Go p e below s _ _ _ s₁ (mkF m 1 #[.val (.ref a), .val (.int u), .val (.int v)] [(.ref a)])
  refine go_callU X0 hx hZ hml hown (hw _ (List.mem_of_getElem? (i := 39) rfl)) (hw _ (List.mem_of_getElem? (i := 40) rfl)) (hw _ (List.mem_of_getElem? (i := 41) rfl)) (by decide) (hw _ (List.mem_of_getElem? (i := 43) rfl)) (hw _ (List.mem_of_getElem? (i := 42) rfl)) (hw _ (List.mem_of_getElem? (i := 45) rfl)) (hw _ (List.mem_of_getElem? (i := 44) rfl)) e0 P0 (argsL := []) (rest := []) (W := 0) (met_7 l Z a0 hw a (1 : Int32) h0 n0 Z0 P1) (hb hby d6_1) rfl rfl rfl (lenOf pd1 rfl) (by show 2 * 0 + _ ≤ _; exact Nat.le_of_eq rfl) (by decide) (by decide) (by decide) (by decide) ?_
  intro T23 v23 L23 X23 q23
  obtain ⟨rfl, M23, e23⟩ := q23
  have N23 := Fr.app N0 M23
  show Go p e below s _ _ _ T23 (mkF m 4 #[.val (.ref a), .val (.int u), .val (.int v)] [(.int (1 : Int32))])
  refine go_st (fun _ k => XS.tswIn X23.here hx rfl (pc0 := 4) (pc' := 70) (o := 66) rfl (hb hby d6_4) rfl (by decide) (by decide) (by decide) (by decide) k) ?_
  show Go p e below s _ _ _ T23 (mkF m 70 #[.val (.ref a), .val (.int u), .val (.int v)] [])
  refine go_st (fun _ k => XS.iloadN X23.here hx rfl (hb hby d6_70) rfl k) ?_
  show Go p e below s _ _ _ T23 (mkF m 71 #[.val (.ref a), .val (.int u), .val (.int v)] [(.int u)])
  by_cases hc24 : u = (0 : Int32)
  · rw [if_pos hc24]
    refine go_st (fun _ k => XS.ifNo X23.here hx rfl (hb hby d6_71) rfl (XT.i0_ne_f hc24) k) ?_
    show Go p e below s _ _ _ T23 (mkF m 74 #[.val (.ref a), .val (.int u), .val (.int v)] [])
    refine go_st (fun _ k => XS.iloadN X23.here hx rfl (hb hby d6_74) rfl k) ?_
    show Go p e below s _ _ _ T23 (mkF m 75 #[.val (.ref a), .val (.int u), .val (.int v)] [(.int v)])
    by_cases hc25 : v = (0 : Int32)
    · rw [if_pos hc25]
      refine go_st (fun _ k => XS.ifYes X23.here hx rfl (pc0 := 75) (pc' := 82) rfl (hb hby d6_75) rfl (XT.i0_eq_t hc25) (by decide) (by decide) k) ?_
      show Go p e below s _ _ _ T23 (mkF m 82 #[.val (.ref a), .val (.int u), .val (.int v)] [])
      refine go_st (fun _ k => XT.iconstV X23.here hx rfl (0 : Int32) (hb hby d6_82) (by decide) k) ?_
      show Go p e below s _ _ _ T23 (mkF m 83 #[.val (.ref a), .val (.int u), .val (.int v)] [(.int (0 : Int32))])
      refine go_st (fun _ k => XS.goto X23.here hx rfl (pc0 := 83) (pc' := 131) rfl (hb hby d6_83) (by decide) (by decide) k) ?_
      show Go p e below s _ _ _ T23 (mkF m 131 #[.val (.ref a), .val (.int u), .val (.int v)] [(.int (0 : Int32))])
      exact go_retB (w := (0 : Int32)) X23 hx hlk hret (hb hby d6_131) (by decide) (by decide) (by decide) ⟨rfl, N23, e23⟩
    · rw [if_neg hc25]
      refine go_st (fun _ k => XS.ifNo X23.here hx rfl (hb hby d6_75) rfl (XT.i0_eq_f hc25) k) ?_
      show Go p e below s _ _ _ T23 (mkF m 78 #[.val (.ref a), .val (.int u), .val (.int v)] [])
      refine go_st (fun _ k => XT.iconstV X23.here hx rfl (1 : Int32) (hb hby d6_78) (by decide) k) ?_
      show Go p e below s _ _ _ T23 (mkF m 79 #[.val (.ref a), .val (.int u), .val (.int v)] [(.int (1 : Int32))])
      refine go_st (fun _ k => XS.goto X23.here hx rfl (pc0 := 79) (pc' := 131) rfl (hb hby d6_79) (by decide) (by decide) k) ?_
      show Go p e below s _ _ _ T23 (mkF m 131 #[.val (.ref a), .val (.int u), .val (.int v)] [(.int (1 : Int32))])
      exact go_retB (w := (1 : Int32)) X23 hx hlk hret (hb hby d6_131) (by decide) (by decide) (by decide) ⟨rfl, N23, e23⟩
  · rw [if_neg hc24]
    refine go_st (fun _ k => XS.ifYes X23.here hx rfl (pc0 := 71) (pc' := 78) rfl (hb hby d6_71) rfl (XT.i0_ne_t hc24) (by decide) (by decide) k) ?_
    show Go p e below s _ _ _ T23 (mkF m 78 #[.val (.ref a), .val (.int u), .val (.int v)] [])
    refine go_st (fun _ k => XT.iconstV X23.here hx rfl (1 : Int32) (hb hby d6_78) (by decide) k) ?_
    show Go p e below s _ _ _ T23 (mkF m 79 #[.val (.ref a), .val (.int u), .val (.int v)] [(.int (1 : Int32))])
    refine go_st (fun _ k => XS.goto X23.here hx rfl (pc0 := 79) (pc' := 131) rfl (hb hby d6_79) (by decide) (by decide) k) ?_
    show Go p e below s _ _ _ T23 (mkF m 131 #[.val (.ref a), .val (.int u), .val (.int v)] [(.int (1 : Int32))])
    exact go_retB (w := (1 : Int32)) X23 hx hlk hret (hb hby d6_131) (by decide) (by decide) (by decide) ⟨rfl, N23, e23⟩
def fAdm2 (u : Int32) (v : Int32) : Int32 := (if u < (0 : Int32) then (1 : Int32) else (0 : Int32))
theorem ef_adm2 (m : MethodId) (a : Addr) (u : Int32) (v : Int32) : entryFrame m #[(.ref a), (.int u), (.int v)] 3 = mkF m 0 #[.val (.ref a), .val (.int u), .val (.int v)] [] := by first | (simp [entryFrame, mkF, argsToLocals, Value.category]; done) | rfl
abbrev rm_adm2 : Room := ({ frames := 1, cells := 0, slots := 0, locals := 12 } : Room)
set_option maxRecDepth 65536 in
set_option maxHeartbeats 4000000 in
theorem met_adm2 (l : Launch) (Z : State) (a0 : Array Value) (hw : ∀ d ∈ tables_1, d.before a0 Z = true) (a : Addr) (u : Int32) (v : Int32) (h0 : Heap) (n0 : Nat) (Z0 : n0 ≤ h0.size) (P0 : Exa Z h0 a "com/example/skipstone/skipstone/prune/Operator") (P1 : Fld Z h0 a "java/lang/Enum" "ordinal" "I" (.int (2 : Int32))) :
    Met l (⟨"com/example/skipstone/skipstone/prune/Operator", "admits", "(II)Z"⟩ : MethodName) prog_26_method_7_code 3 (some FieldType.boolean) [] rm_adm2 Z #[(.ref a), (.int u), (.int v)] h0 (QV (some (.int (fAdm2 u v))) h0 n0) 0 0 := by
  refine own_body pn6 ?_
  intro p e s m below meth c s₁ ct X0 e0
  have ct0 := ct
  obtain ⟨hx, hZ, hown, hby, hml, hret, hlk, hnm⟩ := ct
  have N0 := Fr.nil n0
  refine castGo (ef_adm2 m a u v) ?_
  unfold fAdm2
  show Go p e below s _ _ _ s₁ (mkF m 0 #[.val (.ref a), .val (.int u), .val (.int v)] [])
  refine go_st (fun _ k => XS.aloadN X0.here hx rfl (hb hby d6_0) rfl rfl k) ?_
  show Go p e below s _ _ _ s₁ (mkF m 1 #[.val (.ref a), .val (.int u), .val (.int v)] [(.ref a)])
  refine go_callU X0 hx hZ hml hown (hw _ (List.mem_of_getElem? (i := 39) rfl)) (hw _ (List.mem_of_getElem? (i := 40) rfl)) (hw _ (List.mem_of_getElem? (i := 41) rfl)) (by decide) (hw _ (List.mem_of_getElem? (i := 43) rfl)) (hw _ (List.mem_of_getElem? (i := 42) rfl)) (hw _ (List.mem_of_getElem? (i := 45) rfl)) (hw _ (List.mem_of_getElem? (i := 44) rfl)) e0 P0 (argsL := []) (rest := []) (W := 0) (met_7 l Z a0 hw a (2 : Int32) h0 n0 Z0 P1) (hb hby d6_1) rfl rfl rfl (lenOf pd1 rfl) (by show 2 * 0 + _ ≤ _; exact Nat.le_of_eq rfl) (by decide) (by decide) (by decide) (by decide) ?_
  intro T26 v26 L26 X26 q26
  obtain ⟨rfl, M26, e26⟩ := q26
  have N26 := Fr.app N0 M26
  show Go p e below s _ _ _ T26 (mkF m 4 #[.val (.ref a), .val (.int u), .val (.int v)] [(.int (2 : Int32))])
  refine go_st (fun _ k => XS.tswIn X26.here hx rfl (pc0 := 4) (pc' := 86) (o := 82) rfl (hb hby d6_4) rfl (by decide) (by decide) (by decide) (by decide) k) ?_
  show Go p e below s _ _ _ T26 (mkF m 86 #[.val (.ref a), .val (.int u), .val (.int v)] [])
  refine go_st (fun _ k => XS.iloadN X26.here hx rfl (hb hby d6_86) rfl k) ?_
  show Go p e below s _ _ _ T26 (mkF m 87 #[.val (.ref a), .val (.int u), .val (.int v)] [(.int u)])
  by_cases hc27 : u < (0 : Int32)
  · rw [if_pos hc27]
    refine go_st (fun _ k => XS.ifNo X26.here hx rfl (hb hby d6_87) rfl (XT.i0_ge_f hc27) k) ?_
    show Go p e below s _ _ _ T26 (mkF m 90 #[.val (.ref a), .val (.int u), .val (.int v)] [])
    refine go_st (fun _ k => XT.iconstV X26.here hx rfl (1 : Int32) (hb hby d6_90) (by decide) k) ?_
    show Go p e below s _ _ _ T26 (mkF m 91 #[.val (.ref a), .val (.int u), .val (.int v)] [(.int (1 : Int32))])
    refine go_st (fun _ k => XS.goto X26.here hx rfl (pc0 := 91) (pc' := 131) rfl (hb hby d6_91) (by decide) (by decide) k) ?_
    show Go p e below s _ _ _ T26 (mkF m 131 #[.val (.ref a), .val (.int u), .val (.int v)] [(.int (1 : Int32))])
    exact go_retB (w := (1 : Int32)) X26 hx hlk hret (hb hby d6_131) (by decide) (by decide) (by decide) ⟨rfl, N26, e26⟩
  · rw [if_neg hc27]
    refine go_st (fun _ k => XS.ifYes X26.here hx rfl (pc0 := 87) (pc' := 94) rfl (hb hby d6_87) rfl (XT.i0_ge_t hc27) (by decide) (by decide) k) ?_
    show Go p e below s _ _ _ T26 (mkF m 94 #[.val (.ref a), .val (.int u), .val (.int v)] [])
    refine go_st (fun _ k => XT.iconstV X26.here hx rfl (0 : Int32) (hb hby d6_94) (by decide) k) ?_
    show Go p e below s _ _ _ T26 (mkF m 95 #[.val (.ref a), .val (.int u), .val (.int v)] [(.int (0 : Int32))])
    refine go_st (fun _ k => XS.goto X26.here hx rfl (pc0 := 95) (pc' := 131) rfl (hb hby d6_95) (by decide) (by decide) k) ?_
    show Go p e below s _ _ _ T26 (mkF m 131 #[.val (.ref a), .val (.int u), .val (.int v)] [(.int (0 : Int32))])
    exact go_retB (w := (0 : Int32)) X26 hx hlk hret (hb hby d6_131) (by decide) (by decide) (by decide) ⟨rfl, N26, e26⟩
def fAdm3 (u : Int32) (v : Int32) : Int32 := (if (0 : Int32) < u then (0 : Int32) else (1 : Int32))
theorem ef_adm3 (m : MethodId) (a : Addr) (u : Int32) (v : Int32) : entryFrame m #[(.ref a), (.int u), (.int v)] 3 = mkF m 0 #[.val (.ref a), .val (.int u), .val (.int v)] [] := by first | (simp [entryFrame, mkF, argsToLocals, Value.category]; done) | rfl
abbrev rm_adm3 : Room := ({ frames := 1, cells := 0, slots := 0, locals := 12 } : Room)
set_option maxRecDepth 65536 in
set_option maxHeartbeats 4000000 in
theorem met_adm3 (l : Launch) (Z : State) (a0 : Array Value) (hw : ∀ d ∈ tables_1, d.before a0 Z = true) (a : Addr) (u : Int32) (v : Int32) (h0 : Heap) (n0 : Nat) (Z0 : n0 ≤ h0.size) (P0 : Exa Z h0 a "com/example/skipstone/skipstone/prune/Operator") (P1 : Fld Z h0 a "java/lang/Enum" "ordinal" "I" (.int (3 : Int32))) :
    Met l (⟨"com/example/skipstone/skipstone/prune/Operator", "admits", "(II)Z"⟩ : MethodName) prog_26_method_7_code 3 (some FieldType.boolean) [] rm_adm3 Z #[(.ref a), (.int u), (.int v)] h0 (QV (some (.int (fAdm3 u v))) h0 n0) 0 0 := by
  refine own_body pn6 ?_
  intro p e s m below meth c s₁ ct X0 e0
  have ct0 := ct
  obtain ⟨hx, hZ, hown, hby, hml, hret, hlk, hnm⟩ := ct
  have N0 := Fr.nil n0
  refine castGo (ef_adm3 m a u v) ?_
  unfold fAdm3
  show Go p e below s _ _ _ s₁ (mkF m 0 #[.val (.ref a), .val (.int u), .val (.int v)] [])
  refine go_st (fun _ k => XS.aloadN X0.here hx rfl (hb hby d6_0) rfl rfl k) ?_
  show Go p e below s _ _ _ s₁ (mkF m 1 #[.val (.ref a), .val (.int u), .val (.int v)] [(.ref a)])
  refine go_callU X0 hx hZ hml hown (hw _ (List.mem_of_getElem? (i := 39) rfl)) (hw _ (List.mem_of_getElem? (i := 40) rfl)) (hw _ (List.mem_of_getElem? (i := 41) rfl)) (by decide) (hw _ (List.mem_of_getElem? (i := 43) rfl)) (hw _ (List.mem_of_getElem? (i := 42) rfl)) (hw _ (List.mem_of_getElem? (i := 45) rfl)) (hw _ (List.mem_of_getElem? (i := 44) rfl)) e0 P0 (argsL := []) (rest := []) (W := 0) (met_7 l Z a0 hw a (3 : Int32) h0 n0 Z0 P1) (hb hby d6_1) rfl rfl rfl (lenOf pd1 rfl) (by show 2 * 0 + _ ≤ _; exact Nat.le_of_eq rfl) (by decide) (by decide) (by decide) (by decide) ?_
  intro T28 v28 L28 X28 q28
  obtain ⟨rfl, M28, e28⟩ := q28
  have N28 := Fr.app N0 M28
  show Go p e below s _ _ _ T28 (mkF m 4 #[.val (.ref a), .val (.int u), .val (.int v)] [(.int (3 : Int32))])
  refine go_st (fun _ k => XS.tswIn X28.here hx rfl (pc0 := 4) (pc' := 98) (o := 94) rfl (hb hby d6_4) rfl (by decide) (by decide) (by decide) (by decide) k) ?_
  show Go p e below s _ _ _ T28 (mkF m 98 #[.val (.ref a), .val (.int u), .val (.int v)] [])
  refine go_st (fun _ k => XS.iloadN X28.here hx rfl (hb hby d6_98) rfl k) ?_
  show Go p e below s _ _ _ T28 (mkF m 99 #[.val (.ref a), .val (.int u), .val (.int v)] [(.int u)])
  by_cases hc29 : (0 : Int32) < u
  · rw [if_pos hc29]
    refine go_st (fun _ k => XS.ifYes X28.here hx rfl (pc0 := 99) (pc' := 106) rfl (hb hby d6_99) rfl (XT.i0_gt_t hc29) (by decide) (by decide) k) ?_
    show Go p e below s _ _ _ T28 (mkF m 106 #[.val (.ref a), .val (.int u), .val (.int v)] [])
    refine go_st (fun _ k => XT.iconstV X28.here hx rfl (0 : Int32) (hb hby d6_106) (by decide) k) ?_
    show Go p e below s _ _ _ T28 (mkF m 107 #[.val (.ref a), .val (.int u), .val (.int v)] [(.int (0 : Int32))])
    refine go_st (fun _ k => XS.goto X28.here hx rfl (pc0 := 107) (pc' := 131) rfl (hb hby d6_107) (by decide) (by decide) k) ?_
    show Go p e below s _ _ _ T28 (mkF m 131 #[.val (.ref a), .val (.int u), .val (.int v)] [(.int (0 : Int32))])
    exact go_retB (w := (0 : Int32)) X28 hx hlk hret (hb hby d6_131) (by decide) (by decide) (by decide) ⟨rfl, N28, e28⟩
  · rw [if_neg hc29]
    refine go_st (fun _ k => XS.ifNo X28.here hx rfl (hb hby d6_99) rfl (XT.i0_gt_f hc29) k) ?_
    show Go p e below s _ _ _ T28 (mkF m 102 #[.val (.ref a), .val (.int u), .val (.int v)] [])
    refine go_st (fun _ k => XT.iconstV X28.here hx rfl (1 : Int32) (hb hby d6_102) (by decide) k) ?_
    show Go p e below s _ _ _ T28 (mkF m 103 #[.val (.ref a), .val (.int u), .val (.int v)] [(.int (1 : Int32))])
    refine go_st (fun _ k => XS.goto X28.here hx rfl (pc0 := 103) (pc' := 131) rfl (hb hby d6_103) (by decide) (by decide) k) ?_
    show Go p e below s _ _ _ T28 (mkF m 131 #[.val (.ref a), .val (.int u), .val (.int v)] [(.int (1 : Int32))])
    exact go_retB (w := (1 : Int32)) X28 hx hlk hret (hb hby d6_131) (by decide) (by decide) (by decide) ⟨rfl, N28, e28⟩
def fAdm4 (u : Int32) (v : Int32) : Int32 := (if (0 : Int32) < v then (1 : Int32) else (0 : Int32))
theorem ef_adm4 (m : MethodId) (a : Addr) (u : Int32) (v : Int32) : entryFrame m #[(.ref a), (.int u), (.int v)] 3 = mkF m 0 #[.val (.ref a), .val (.int u), .val (.int v)] [] := by first | (simp [entryFrame, mkF, argsToLocals, Value.category]; done) | rfl
abbrev rm_adm4 : Room := ({ frames := 1, cells := 0, slots := 0, locals := 12 } : Room)
set_option maxRecDepth 65536 in
set_option maxHeartbeats 4000000 in
theorem met_adm4 (l : Launch) (Z : State) (a0 : Array Value) (hw : ∀ d ∈ tables_1, d.before a0 Z = true) (a : Addr) (u : Int32) (v : Int32) (h0 : Heap) (n0 : Nat) (Z0 : n0 ≤ h0.size) (P0 : Exa Z h0 a "com/example/skipstone/skipstone/prune/Operator") (P1 : Fld Z h0 a "java/lang/Enum" "ordinal" "I" (.int (4 : Int32))) :
    Met l (⟨"com/example/skipstone/skipstone/prune/Operator", "admits", "(II)Z"⟩ : MethodName) prog_26_method_7_code 3 (some FieldType.boolean) [] rm_adm4 Z #[(.ref a), (.int u), (.int v)] h0 (QV (some (.int (fAdm4 u v))) h0 n0) 0 0 := by
  refine own_body pn6 ?_
  intro p e s m below meth c s₁ ct X0 e0
  have ct0 := ct
  obtain ⟨hx, hZ, hown, hby, hml, hret, hlk, hnm⟩ := ct
  have N0 := Fr.nil n0
  refine castGo (ef_adm4 m a u v) ?_
  unfold fAdm4
  show Go p e below s _ _ _ s₁ (mkF m 0 #[.val (.ref a), .val (.int u), .val (.int v)] [])
  refine go_st (fun _ k => XS.aloadN X0.here hx rfl (hb hby d6_0) rfl rfl k) ?_
  show Go p e below s _ _ _ s₁ (mkF m 1 #[.val (.ref a), .val (.int u), .val (.int v)] [(.ref a)])
  refine go_callU X0 hx hZ hml hown (hw _ (List.mem_of_getElem? (i := 39) rfl)) (hw _ (List.mem_of_getElem? (i := 40) rfl)) (hw _ (List.mem_of_getElem? (i := 41) rfl)) (by decide) (hw _ (List.mem_of_getElem? (i := 43) rfl)) (hw _ (List.mem_of_getElem? (i := 42) rfl)) (hw _ (List.mem_of_getElem? (i := 45) rfl)) (hw _ (List.mem_of_getElem? (i := 44) rfl)) e0 P0 (argsL := []) (rest := []) (W := 0) (met_7 l Z a0 hw a (4 : Int32) h0 n0 Z0 P1) (hb hby d6_1) rfl rfl rfl (lenOf pd1 rfl) (by show 2 * 0 + _ ≤ _; exact Nat.le_of_eq rfl) (by decide) (by decide) (by decide) (by decide) ?_
  intro T30 v30 L30 X30 q30
  obtain ⟨rfl, M30, e30⟩ := q30
  have N30 := Fr.app N0 M30
  show Go p e below s _ _ _ T30 (mkF m 4 #[.val (.ref a), .val (.int u), .val (.int v)] [(.int (4 : Int32))])
  refine go_st (fun _ k => XS.tswIn X30.here hx rfl (pc0 := 4) (pc' := 110) (o := 106) rfl (hb hby d6_4) rfl (by decide) (by decide) (by decide) (by decide) k) ?_
  show Go p e below s _ _ _ T30 (mkF m 110 #[.val (.ref a), .val (.int u), .val (.int v)] [])
  refine go_st (fun _ k => XS.iloadN X30.here hx rfl (hb hby d6_110) rfl k) ?_
  show Go p e below s _ _ _ T30 (mkF m 111 #[.val (.ref a), .val (.int u), .val (.int v)] [(.int v)])
  by_cases hc31 : (0 : Int32) < v
  · rw [if_pos hc31]
    refine go_st (fun _ k => XS.ifNo X30.here hx rfl (hb hby d6_111) rfl (XT.i0_le_f hc31) k) ?_
    show Go p e below s _ _ _ T30 (mkF m 114 #[.val (.ref a), .val (.int u), .val (.int v)] [])
    refine go_st (fun _ k => XT.iconstV X30.here hx rfl (1 : Int32) (hb hby d6_114) (by decide) k) ?_
    show Go p e below s _ _ _ T30 (mkF m 115 #[.val (.ref a), .val (.int u), .val (.int v)] [(.int (1 : Int32))])
    refine go_st (fun _ k => XS.goto X30.here hx rfl (pc0 := 115) (pc' := 131) rfl (hb hby d6_115) (by decide) (by decide) k) ?_
    show Go p e below s _ _ _ T30 (mkF m 131 #[.val (.ref a), .val (.int u), .val (.int v)] [(.int (1 : Int32))])
    exact go_retB (w := (1 : Int32)) X30 hx hlk hret (hb hby d6_131) (by decide) (by decide) (by decide) ⟨rfl, N30, e30⟩
  · rw [if_neg hc31]
    refine go_st (fun _ k => XS.ifYes X30.here hx rfl (pc0 := 111) (pc' := 118) rfl (hb hby d6_111) rfl (XT.i0_le_t hc31) (by decide) (by decide) k) ?_
    show Go p e below s _ _ _ T30 (mkF m 118 #[.val (.ref a), .val (.int u), .val (.int v)] [])
    refine go_st (fun _ k => XT.iconstV X30.here hx rfl (0 : Int32) (hb hby d6_118) (by decide) k) ?_
    show Go p e below s _ _ _ T30 (mkF m 119 #[.val (.ref a), .val (.int u), .val (.int v)] [(.int (0 : Int32))])
    refine go_st (fun _ k => XS.goto X30.here hx rfl (pc0 := 119) (pc' := 131) rfl (hb hby d6_119) (by decide) (by decide) k) ?_
    show Go p e below s _ _ _ T30 (mkF m 131 #[.val (.ref a), .val (.int u), .val (.int v)] [(.int (0 : Int32))])
    exact go_retB (w := (0 : Int32)) X30 hx hlk hret (hb hby d6_131) (by decide) (by decide) (by decide) ⟨rfl, N30, e30⟩
def fAdm5 (u : Int32) (v : Int32) : Int32 := (if v < (0 : Int32) then (0 : Int32) else (1 : Int32))
theorem ef_adm5 (m : MethodId) (a : Addr) (u : Int32) (v : Int32) : entryFrame m #[(.ref a), (.int u), (.int v)] 3 = mkF m 0 #[.val (.ref a), .val (.int u), .val (.int v)] [] := by first | (simp [entryFrame, mkF, argsToLocals, Value.category]; done) | rfl
abbrev rm_adm5 : Room := ({ frames := 1, cells := 0, slots := 0, locals := 12 } : Room)
set_option maxRecDepth 65536 in
set_option maxHeartbeats 4000000 in
theorem met_adm5 (l : Launch) (Z : State) (a0 : Array Value) (hw : ∀ d ∈ tables_1, d.before a0 Z = true) (a : Addr) (u : Int32) (v : Int32) (h0 : Heap) (n0 : Nat) (Z0 : n0 ≤ h0.size) (P0 : Exa Z h0 a "com/example/skipstone/skipstone/prune/Operator") (P1 : Fld Z h0 a "java/lang/Enum" "ordinal" "I" (.int (5 : Int32))) :
    Met l (⟨"com/example/skipstone/skipstone/prune/Operator", "admits", "(II)Z"⟩ : MethodName) prog_26_method_7_code 3 (some FieldType.boolean) [] rm_adm5 Z #[(.ref a), (.int u), (.int v)] h0 (QV (some (.int (fAdm5 u v))) h0 n0) 0 0 := by
  refine own_body pn6 ?_
  intro p e s m below meth c s₁ ct X0 e0
  have ct0 := ct
  obtain ⟨hx, hZ, hown, hby, hml, hret, hlk, hnm⟩ := ct
  have N0 := Fr.nil n0
  refine castGo (ef_adm5 m a u v) ?_
  unfold fAdm5
  show Go p e below s _ _ _ s₁ (mkF m 0 #[.val (.ref a), .val (.int u), .val (.int v)] [])
  refine go_st (fun _ k => XS.aloadN X0.here hx rfl (hb hby d6_0) rfl rfl k) ?_
  show Go p e below s _ _ _ s₁ (mkF m 1 #[.val (.ref a), .val (.int u), .val (.int v)] [(.ref a)])
  refine go_callU X0 hx hZ hml hown (hw _ (List.mem_of_getElem? (i := 39) rfl)) (hw _ (List.mem_of_getElem? (i := 40) rfl)) (hw _ (List.mem_of_getElem? (i := 41) rfl)) (by decide) (hw _ (List.mem_of_getElem? (i := 43) rfl)) (hw _ (List.mem_of_getElem? (i := 42) rfl)) (hw _ (List.mem_of_getElem? (i := 45) rfl)) (hw _ (List.mem_of_getElem? (i := 44) rfl)) e0 P0 (argsL := []) (rest := []) (W := 0) (met_7 l Z a0 hw a (5 : Int32) h0 n0 Z0 P1) (hb hby d6_1) rfl rfl rfl (lenOf pd1 rfl) (by show 2 * 0 + _ ≤ _; exact Nat.le_of_eq rfl) (by decide) (by decide) (by decide) (by decide) ?_
  intro T32 v32 L32 X32 q32
  obtain ⟨rfl, M32, e32⟩ := q32
  have N32 := Fr.app N0 M32
  show Go p e below s _ _ _ T32 (mkF m 4 #[.val (.ref a), .val (.int u), .val (.int v)] [(.int (5 : Int32))])
  refine go_st (fun _ k => XS.tswIn X32.here hx rfl (pc0 := 4) (pc' := 122) (o := 118) rfl (hb hby d6_4) rfl (by decide) (by decide) (by decide) (by decide) k) ?_
  show Go p e below s _ _ _ T32 (mkF m 122 #[.val (.ref a), .val (.int u), .val (.int v)] [])
  refine go_st (fun _ k => XS.iloadN X32.here hx rfl (hb hby d6_122) rfl k) ?_
  show Go p e below s _ _ _ T32 (mkF m 123 #[.val (.ref a), .val (.int u), .val (.int v)] [(.int v)])
  by_cases hc33 : v < (0 : Int32)
  · rw [if_pos hc33]
    refine go_st (fun _ k => XS.ifYes X32.here hx rfl (pc0 := 123) (pc' := 130) rfl (hb hby d6_123) rfl (XT.i0_lt_t hc33) (by decide) (by decide) k) ?_
    show Go p e below s _ _ _ T32 (mkF m 130 #[.val (.ref a), .val (.int u), .val (.int v)] [])
    refine go_st (fun _ k => XT.iconstV X32.here hx rfl (0 : Int32) (hb hby d6_130) (by decide) k) ?_
    show Go p e below s _ _ _ T32 (mkF m 131 #[.val (.ref a), .val (.int u), .val (.int v)] [(.int (0 : Int32))])
    exact go_retB (w := (0 : Int32)) X32 hx hlk hret (hb hby d6_131) (by decide) (by decide) (by decide) ⟨rfl, N32, e32⟩
  · rw [if_neg hc33]
    refine go_st (fun _ k => XS.ifNo X32.here hx rfl (hb hby d6_123) rfl (XT.i0_lt_f hc33) k) ?_
    show Go p e below s _ _ _ T32 (mkF m 126 #[.val (.ref a), .val (.int u), .val (.int v)] [])
    refine go_st (fun _ k => XT.iconstV X32.here hx rfl (1 : Int32) (hb hby d6_126) (by decide) k) ?_
    show Go p e below s _ _ _ T32 (mkF m 127 #[.val (.ref a), .val (.int u), .val (.int v)] [(.int (1 : Int32))])
    refine go_st (fun _ k => XS.goto X32.here hx rfl (pc0 := 127) (pc' := 131) rfl (hb hby d6_127) (by decide) (by decide) k) ?_
    show Go p e below s _ _ _ T32 (mkF m 131 #[.val (.ref a), .val (.int u), .val (.int v)] [(.int (1 : Int32))])
    exact go_retB (w := (1 : Int32)) X32 hx hlk hret (hb hby d6_131) (by decide) (by decide) (by decide) ⟨rfl, N32, e32⟩
theorem own_six (x : Int32) (h0 : ¬ (x &&& 2147483647) % 6 = 0) (h1 : ¬ (x &&& 2147483647) % 6 = 1) (h2 : ¬ (x &&& 2147483647) % 6 = 2) (h3 : ¬ (x &&& 2147483647) % 6 = 3) (h4 : ¬ (x &&& 2147483647) % 6 = 4) (h5 : ¬ (x &&& 2147483647) % 6 = 5) : False := by
  have k1 := c_mask x 2147483647 31 (by decide) (by decide)
  have k2 := (c_irem (x &&& 2147483647) 6 6 rfl).1 (by omega)
  rw [← Int32.toInt_inj] at h0 h1 h2 h3 h4 h5
  have e0 : (0 : Int32).toInt = 0 := rfl
  have e1 : (1 : Int32).toInt = 1 := rfl
  have e2 : (2 : Int32).toInt = 2 := rfl
  have e3 : (3 : Int32).toInt = 3 := rfl
  have e4 : (4 : Int32).toInt = 4 := rfl
  have e5 : (5 : Int32).toInt = 5 := rfl
  omega
theorem pn7 : plainFor x = true := by first | (refine plainFor_of_name ?_; simp [plainName, overriddenIn]; done) | (refine plainFor_of_name ?_; decide +kernel) | decide +kernel
theorem pd2 : parseMethodDescriptor "(III)Z" = some ⟨[.int, .int, .int], (some .boolean)⟩ := by decide +kernel
theorem pd3 : parseMethodDescriptor "(II)Z" = some ⟨[.int, .int], (some .boolean)⟩ := by decide +kernel
def fLaw (x0 : Int32) (x1 : Int32) (x2 : Int32) (x3 : Int32) (x4 : Int32) (x5 : Int32) : Int32 := (if (fSat ((x0 &&& (2147483647 : Int32)) % (6 : Int32)) (fMin x1 x2) x3) = (0 : Int32) then (if (fSat ((x0 &&& (2147483647 : Int32)) % (6 : Int32)) (fMax x1 x2) x3) = (0 : Int32) then (if x3 < (fMin x1 x2) then (if ((x0 &&& (2147483647 : Int32)) % (6 : Int32)) = (0 : Int32) then (if (fAdm0 (fEnc (fSign (fMin x1 x2) x3) x4) (fEnc (fSign (fMax x1 x2) x3) x5)) = (0 : Int32) then (1 : Int32) else (0 : Int32)) else (if ((x0 &&& (2147483647 : Int32)) % (6 : Int32)) = (1 : Int32) then (if (fAdm1 (fEnc (fSign (fMin x1 x2) x3) x4) (fEnc (fSign (fMax x1 x2) x3) x5)) = (0 : Int32) then (1 : Int32) else (0 : Int32)) else (if ((x0 &&& (2147483647 : Int32)) % (6 : Int32)) = (2 : Int32) then (if (fAdm2 (fEnc (fSign (fMin x1 x2) x3) x4) (fEnc (fSign (fMax x1 x2) x3) x5)) = (0 : Int32) then (1 : Int32) else (0 : Int32)) else (if ((x0 &&& (2147483647 : Int32)) % (6 : Int32)) = (3 : Int32) then (if (fAdm3 (fEnc (fSign (fMin x1 x2) x3) x4) (fEnc (fSign (fMax x1 x2) x3) x5)) = (0 : Int32) then (1 : Int32) else (0 : Int32)) else (if ((x0 &&& (2147483647 : Int32)) % (6 : Int32)) = (4 : Int32) then (if (fAdm4 (fEnc (fSign (fMin x1 x2) x3) x4) (fEnc (fSign (fMax x1 x2) x3) x5)) = (0 : Int32) then (1 : Int32) else (0 : Int32)) else (if ((x0 &&& (2147483647 : Int32)) % (6 : Int32)) = (5 : Int32) then (if (fAdm5 (fEnc (fSign (fMin x1 x2) x3) x4) (fEnc (fSign (fMax x1 x2) x3) x5)) = (0 : Int32) then (1 : Int32) else (0 : Int32)) else (0 : Int32))))))) else (if (fMax x1 x2) < x3 then (if ((x0 &&& (2147483647 : Int32)) % (6 : Int32)) = (0 : Int32) then (if (fAdm0 (fEnc (fSign (fMin x1 x2) x3) x4) (fEnc (fSign (fMax x1 x2) x3) x5)) = (0 : Int32) then (1 : Int32) else (0 : Int32)) else (if ((x0 &&& (2147483647 : Int32)) % (6 : Int32)) = (1 : Int32) then (if (fAdm1 (fEnc (fSign (fMin x1 x2) x3) x4) (fEnc (fSign (fMax x1 x2) x3) x5)) = (0 : Int32) then (1 : Int32) else (0 : Int32)) else (if ((x0 &&& (2147483647 : Int32)) % (6 : Int32)) = (2 : Int32) then (if (fAdm2 (fEnc (fSign (fMin x1 x2) x3) x4) (fEnc (fSign (fMax x1 x2) x3) x5)) = (0 : Int32) then (1 : Int32) else (0 : Int32)) else (if ((x0 &&& (2147483647 : Int32)) % (6 : Int32)) = (3 : Int32) then (if (fAdm3 (fEnc (fSign (fMin x1 x2) x3) x4) (fEnc (fSign (fMax x1 x2) x3) x5)) = (0 : Int32) then (1 : Int32) else (0 : Int32)) else (if ((x0 &&& (2147483647 : Int32)) % (6 : Int32)) = (4 : Int32) then (if (fAdm4 (fEnc (fSign (fMin x1 x2) x3) x4) (fEnc (fSign (fMax x1 x2) x3) x5)) = (0 : Int32) then (1 : Int32) else (0 : Int32)) else (if ((x0 &&& (2147483647 : Int32)) % (6 : Int32)) = (5 : Int32) then (if (fAdm5 (fEnc (fSign (fMin x1 x2) x3) x4) (fEnc (fSign (fMax x1 x2) x3) x5)) = (0 : Int32) then (1 : Int32) else (0 : Int32)) else (0 : Int32))))))) else (if (fSat ((x0 &&& (2147483647 : Int32)) % (6 : Int32)) x3 x3) = (0 : Int32) then (if ((x0 &&& (2147483647 : Int32)) % (6 : Int32)) = (0 : Int32) then (if (fAdm0 (fEnc (fSign (fMin x1 x2) x3) x4) (fEnc (fSign (fMax x1 x2) x3) x5)) = (0 : Int32) then (1 : Int32) else (0 : Int32)) else (if ((x0 &&& (2147483647 : Int32)) % (6 : Int32)) = (1 : Int32) then (if (fAdm1 (fEnc (fSign (fMin x1 x2) x3) x4) (fEnc (fSign (fMax x1 x2) x3) x5)) = (0 : Int32) then (1 : Int32) else (0 : Int32)) else (if ((x0 &&& (2147483647 : Int32)) % (6 : Int32)) = (2 : Int32) then (if (fAdm2 (fEnc (fSign (fMin x1 x2) x3) x4) (fEnc (fSign (fMax x1 x2) x3) x5)) = (0 : Int32) then (1 : Int32) else (0 : Int32)) else (if ((x0 &&& (2147483647 : Int32)) % (6 : Int32)) = (3 : Int32) then (if (fAdm3 (fEnc (fSign (fMin x1 x2) x3) x4) (fEnc (fSign (fMax x1 x2) x3) x5)) = (0 : Int32) then (1 : Int32) else (0 : Int32)) else (if ((x0 &&& (2147483647 : Int32)) % (6 : Int32)) = (4 : Int32) then (if (fAdm4 (fEnc (fSign (fMin x1 x2) x3) x4) (fEnc (fSign (fMax x1 x2) x3) x5)) = (0 : Int32) then (1 : Int32) else (0 : Int32)) else (if ((x0 &&& (2147483647 : Int32)) % (6 : Int32)) = (5 : Int32) then (if (fAdm5 (fEnc (fSign (fMin x1 x2) x3) x4) (fEnc (fSign (fMax x1 x2) x3) x5)) = (0 : Int32) then (1 : Int32) else (0 : Int32)) else (0 : Int32))))))) else (if ((x0 &&& (2147483647 : Int32)) % (6 : Int32)) = (0 : Int32) then (if (fAdm0 (fEnc (fSign (fMin x1 x2) x3) x4) (fEnc (fSign (fMax x1 x2) x3) x5)) = (1 : Int32) then (1 : Int32) else (0 : Int32)) else (if ((x0 &&& (2147483647 : Int32)) % (6 : Int32)) = (1 : Int32) then (if (fAdm1 (fEnc (fSign (fMin x1 x2) x3) x4) (fEnc (fSign (fMax x1 x2) x3) x5)) = (1 : Int32) then (1 : Int32) else (0 : Int32)) else (if ((x0 &&& (2147483647 : Int32)) % (6 : Int32)) = (2 : Int32) then (if (fAdm2 (fEnc (fSign (fMin x1 x2) x3) x4) (fEnc (fSign (fMax x1 x2) x3) x5)) = (1 : Int32) then (1 : Int32) else (0 : Int32)) else (if ((x0 &&& (2147483647 : Int32)) % (6 : Int32)) = (3 : Int32) then (if (fAdm3 (fEnc (fSign (fMin x1 x2) x3) x4) (fEnc (fSign (fMax x1 x2) x3) x5)) = (1 : Int32) then (1 : Int32) else (0 : Int32)) else (if ((x0 &&& (2147483647 : Int32)) % (6 : Int32)) = (4 : Int32) then (if (fAdm4 (fEnc (fSign (fMin x1 x2) x3) x4) (fEnc (fSign (fMax x1 x2) x3) x5)) = (1 : Int32) then (1 : Int32) else (0 : Int32)) else (if ((x0 &&& (2147483647 : Int32)) % (6 : Int32)) = (5 : Int32) then (if (fAdm5 (fEnc (fSign (fMin x1 x2) x3) x4) (fEnc (fSign (fMax x1 x2) x3) x5)) = (1 : Int32) then (1 : Int32) else (0 : Int32)) else (0 : Int32)))))))))) else (if ((x0 &&& (2147483647 : Int32)) % (6 : Int32)) = (0 : Int32) then (if (fAdm0 (fEnc (fSign (fMin x1 x2) x3) x4) (fEnc (fSign (fMax x1 x2) x3) x5)) = (1 : Int32) then (1 : Int32) else (0 : Int32)) else (if ((x0 &&& (2147483647 : Int32)) % (6 : Int32)) = (1 : Int32) then (if (fAdm1 (fEnc (fSign (fMin x1 x2) x3) x4) (fEnc (fSign (fMax x1 x2) x3) x5)) = (1 : Int32) then (1 : Int32) else (0 : Int32)) else (if ((x0 &&& (2147483647 : Int32)) % (6 : Int32)) = (2 : Int32) then (if (fAdm2 (fEnc (fSign (fMin x1 x2) x3) x4) (fEnc (fSign (fMax x1 x2) x3) x5)) = (1 : Int32) then (1 : Int32) else (0 : Int32)) else (if ((x0 &&& (2147483647 : Int32)) % (6 : Int32)) = (3 : Int32) then (if (fAdm3 (fEnc (fSign (fMin x1 x2) x3) x4) (fEnc (fSign (fMax x1 x2) x3) x5)) = (1 : Int32) then (1 : Int32) else (0 : Int32)) else (if ((x0 &&& (2147483647 : Int32)) % (6 : Int32)) = (4 : Int32) then (if (fAdm4 (fEnc (fSign (fMin x1 x2) x3) x4) (fEnc (fSign (fMax x1 x2) x3) x5)) = (1 : Int32) then (1 : Int32) else (0 : Int32)) else (if ((x0 &&& (2147483647 : Int32)) % (6 : Int32)) = (5 : Int32) then (if (fAdm5 (fEnc (fSign (fMin x1 x2) x3) x4) (fEnc (fSign (fMax x1 x2) x3) x5)) = (1 : Int32) then (1 : Int32) else (0 : Int32)) else (0 : Int32)))))))) else (if ((x0 &&& (2147483647 : Int32)) % (6 : Int32)) = (0 : Int32) then (if (fAdm0 (fEnc (fSign (fMin x1 x2) x3) x4) (fEnc (fSign (fMax x1 x2) x3) x5)) = (1 : Int32) then (1 : Int32) else (0 : Int32)) else (if ((x0 &&& (2147483647 : Int32)) % (6 : Int32)) = (1 : Int32) then (if (fAdm1 (fEnc (fSign (fMin x1 x2) x3) x4) (fEnc (fSign (fMax x1 x2) x3) x5)) = (1 : Int32) then (1 : Int32) else (0 : Int32)) else (if ((x0 &&& (2147483647 : Int32)) % (6 : Int32)) = (2 : Int32) then (if (fAdm2 (fEnc (fSign (fMin x1 x2) x3) x4) (fEnc (fSign (fMax x1 x2) x3) x5)) = (1 : Int32) then (1 : Int32) else (0 : Int32)) else (if ((x0 &&& (2147483647 : Int32)) % (6 : Int32)) = (3 : Int32) then (if (fAdm3 (fEnc (fSign (fMin x1 x2) x3) x4) (fEnc (fSign (fMax x1 x2) x3) x5)) = (1 : Int32) then (1 : Int32) else (0 : Int32)) else (if ((x0 &&& (2147483647 : Int32)) % (6 : Int32)) = (4 : Int32) then (if (fAdm4 (fEnc (fSign (fMin x1 x2) x3) x4) (fEnc (fSign (fMax x1 x2) x3) x5)) = (1 : Int32) then (1 : Int32) else (0 : Int32)) else (if ((x0 &&& (2147483647 : Int32)) % (6 : Int32)) = (5 : Int32) then (if (fAdm5 (fEnc (fSign (fMin x1 x2) x3) x4) (fEnc (fSign (fMax x1 x2) x3) x5)) = (1 : Int32) then (1 : Int32) else (0 : Int32)) else (0 : Int32))))))))
theorem ef_law (m : MethodId) (x0 : Int32) (x1 : Int32) (x2 : Int32) (x3 : Int32) (x4 : Int32) (x5 : Int32) : entryFrame m #[(.int x0), (.int x1), (.int x2), (.int x3), (.int x4), (.int x5)] maxLocals = mkF m 0 #[.val (.int x0), .val (.int x1), .val (.int x2), .val (.int x3), .val (.int x4), .val (.int x5), .unset, .unset, .unset, .unset, .unset, .unset, .unset, .unset] [] := by first | (simp [entryFrame, mkF, argsToLocals, Value.category, maxLocals]; done) | rfl
set_option maxRecDepth 65536 in
set_option maxHeartbeats 4000000 in
theorem met_law (l : Launch) (Z : State) (a0 : Array Value) (hw : ∀ d ∈ tables_1, d.before a0 Z = true) (x0 : Int32) (x1 : Int32) (x2 : Int32) (x3 : Int32) (x4 : Int32) (x5 : Int32) (h0 : Heap) (n0 : Nat) (Z0 : n0 ≤ h0.size) (o0 o1 o2 o3 o4 o5 : Addr) (S0 : Sta Z h0 "com/example/skipstone/skipstone/prune/Operator" "EQUAL" "Lcom/example/skipstone/skipstone/prune/Operator;" (.ref o0)) (S1 : Sta Z h0 "com/example/skipstone/skipstone/prune/Operator" "NOT_EQUAL" "Lcom/example/skipstone/skipstone/prune/Operator;" (.ref o1)) (S2 : Sta Z h0 "com/example/skipstone/skipstone/prune/Operator" "LESS" "Lcom/example/skipstone/skipstone/prune/Operator;" (.ref o2)) (S3 : Sta Z h0 "com/example/skipstone/skipstone/prune/Operator" "LESS_OR_EQUAL" "Lcom/example/skipstone/skipstone/prune/Operator;" (.ref o3)) (S4 : Sta Z h0 "com/example/skipstone/skipstone/prune/Operator" "GREATER" "Lcom/example/skipstone/skipstone/prune/Operator;" (.ref o4)) (S5 : Sta Z h0 "com/example/skipstone/skipstone/prune/Operator" "GREATER_OR_EQUAL" "Lcom/example/skipstone/skipstone/prune/Operator;" (.ref o5)) (E0 : Exa Z h0 o0 "com/example/skipstone/skipstone/prune/Operator") (E1 : Exa Z h0 o1 "com/example/skipstone/skipstone/prune/Operator") (E2 : Exa Z h0 o2 "com/example/skipstone/skipstone/prune/Operator") (E3 : Exa Z h0 o3 "com/example/skipstone/skipstone/prune/Operator") (E4 : Exa Z h0 o4 "com/example/skipstone/skipstone/prune/Operator") (E5 : Exa Z h0 o5 "com/example/skipstone/skipstone/prune/Operator") (F0 : Fld Z h0 o0 "java/lang/Enum" "ordinal" "I" (.int (0 : Int32))) (F1 : Fld Z h0 o1 "java/lang/Enum" "ordinal" "I" (.int (1 : Int32))) (F2 : Fld Z h0 o2 "java/lang/Enum" "ordinal" "I" (.int (2 : Int32))) (F3 : Fld Z h0 o3 "java/lang/Enum" "ordinal" "I" (.int (3 : Int32))) (F4 : Fld Z h0 o4 "java/lang/Enum" "ordinal" "I" (.int (4 : Int32))) (F5 : Fld Z h0 o5 "java/lang/Enum" "ordinal" "I" (.int (5 : Int32))) :
    Met l x code maxLocals ret tables_1 room_1 Z #[(.int x0), (.int x1), (.int x2), (.int x3), (.int x4), (.int x5)] h0 (QF (some (.int (fLaw x0 x1 x2 x3 x4 x5))) n0) 16 128 := by
  refine own_body pn7 ?_
  intro p e s m below meth c s₁ ct X0 e0
  have ct0 := ct
  obtain ⟨hx, hZ, hown, hby, hml, hret, hlk, hnm⟩ := ct
  have lt_o0 := E0.lt
  have lt_o1 := E1.lt
  have ne_1_0 : o1 ≠ o0 := Fld.ne F1 F0 (by decide)
  have lt_o2 := E2.lt
  have ne_2_0 : o2 ≠ o0 := Fld.ne F2 F0 (by decide)
  have ne_2_1 : o2 ≠ o1 := Fld.ne F2 F1 (by decide)
  have lt_o3 := E3.lt
  have ne_3_0 : o3 ≠ o0 := Fld.ne F3 F0 (by decide)
  have ne_3_1 : o3 ≠ o1 := Fld.ne F3 F1 (by decide)
  have ne_3_2 : o3 ≠ o2 := Fld.ne F3 F2 (by decide)
  have lt_o4 := E4.lt
  have ne_4_0 : o4 ≠ o0 := Fld.ne F4 F0 (by decide)
  have ne_4_1 : o4 ≠ o1 := Fld.ne F4 F1 (by decide)
  have ne_4_2 : o4 ≠ o2 := Fld.ne F4 F2 (by decide)
  have ne_4_3 : o4 ≠ o3 := Fld.ne F4 F3 (by decide)
  have lt_o5 := E5.lt
  have ne_5_0 : o5 ≠ o0 := Fld.ne F5 F0 (by decide)
  have ne_5_1 : o5 ≠ o1 := Fld.ne F5 F1 (by decide)
  have ne_5_2 : o5 ≠ o2 := Fld.ne F5 F2 (by decide)
  have ne_5_3 : o5 ≠ o3 := Fld.ne F5 F3 (by decide)
  have ne_5_4 : o5 ≠ o4 := Fld.ne F5 F4 (by decide)
  have N0 := Fr.nil n0
  refine castGo (ef_law m x0 x1 x2 x3 x4 x5) ?_
  unfold fLaw
  show Go p e below s _ _ _ s₁ (mkF m 0 #[.val (.int x0), .val (.int x1), .val (.int x2), .val (.int x3), .val (.int x4), .val (.int x5), .unset, .unset, .unset, .unset, .unset, .unset, .unset, .unset] [])
  refine go_st (fun _ k => XT.bipushV X0.here hx rfl (6 : Int32) (hb hby at_0) (by decide) k) ?_
  show Go p e below s _ _ _ s₁ (mkF m 2 #[.val (.int x0), .val (.int x1), .val (.int x2), .val (.int x3), .val (.int x4), .val (.int x5), .unset, .unset, .unset, .unset, .unset, .unset, .unset, .unset] [(.int (6 : Int32))])
  refine go_newR X0 hx hZ hown (hw _ (List.mem_of_getElem? (i := 0) rfl)) (hw _ (List.mem_of_getElem? (i := 1) rfl)) e0 (hb hby at_2) rfl rfl 6 (by decide) 6 (Nat.le_refl _) (by decide) (by decide) (by decide) ?_
  intro T34 h34 a34 g34 X34 e34 E34 G34 O34
  have ne35 : o0 ≠ a34 := fun q => Nat.lt_irrefl _ (Nat.lt_of_lt_of_le lt_o0 (Nat.le_of_eq (g34.symm.trans q.symm)))
  have ne36 : o1 ≠ a34 := fun q => Nat.lt_irrefl _ (Nat.lt_of_lt_of_le lt_o1 (Nat.le_of_eq (g34.symm.trans q.symm)))
  have ne37 : o2 ≠ a34 := fun q => Nat.lt_irrefl _ (Nat.lt_of_lt_of_le lt_o2 (Nat.le_of_eq (g34.symm.trans q.symm)))
  have ne38 : o3 ≠ a34 := fun q => Nat.lt_irrefl _ (Nat.lt_of_lt_of_le lt_o3 (Nat.le_of_eq (g34.symm.trans q.symm)))
  have ne39 : o4 ≠ a34 := fun q => Nat.lt_irrefl _ (Nat.lt_of_lt_of_le lt_o4 (Nat.le_of_eq (g34.symm.trans q.symm)))
  have ne40 : o5 ≠ a34 := fun q => Nat.lt_irrefl _ (Nat.lt_of_lt_of_le lt_o5 (Nat.le_of_eq (g34.symm.trans q.symm)))
  have nw_a34 : n0 ≤ a34 := Nat.le_trans Z0 (Nat.le_of_eq g34.symm)
  have lt_a34 : a34 < h34.size := G34.lt
  show Go p e below s _ _ _ T34 (mkF m 5 #[.val (.int x0), .val (.int x1), .val (.int x2), .val (.int x3), .val (.int x4), .val (.int x5), .unset, .unset, .unset, .unset, .unset, .unset, .unset, .unset] [(.ref a34)])
  refine go_st (fun _ k => XS.dup X34.here hx rfl (hb hby at_5) rfl rfl k) ?_
  show Go p e below s _ _ _ T34 (mkF m 6 #[.val (.int x0), .val (.int x1), .val (.int x2), .val (.int x3), .val (.int x4), .val (.int x5), .unset, .unset, .unset, .unset, .unset, .unset, .unset, .unset] [(.ref a34), (.ref a34)])
  refine go_st (fun _ k => XT.iconstV X34.here hx rfl (0 : Int32) (hb hby at_6) (by decide) k) ?_
  show Go p e below s _ _ _ T34 (mkF m 7 #[.val (.int x0), .val (.int x1), .val (.int x2), .val (.int x3), .val (.int x4), .val (.int x5), .unset, .unset, .unset, .unset, .unset, .unset, .unset, .unset] [(.int (0 : Int32)), (.ref a34), (.ref a34)])
  have c41 := Sta.ext E34 S0
  refine go_getS X34 hx hZ hown (host := "") (Or.inl (hw _ (List.mem_of_getElem? (i := 2) rfl))) Via.refl e34 c41 (hb hby at_7) rfl ?_
  intro T42 X42 e42
  show Go p e below s _ _ _ T42 (mkF m 10 #[.val (.int x0), .val (.int x1), .val (.int x2), .val (.int x3), .val (.int x4), .val (.int x5), .unset, .unset, .unset, .unset, .unset, .unset, .unset, .unset] [(.ref o0), (.int (0 : Int32)), (.ref a34), (.ref a34)])
  have c44 := Exa.ext E34 E0
  refine go_aast X42 hx hZ e42 G34 rfl (O34.sto (Ins.self c44)) (hb hby at_10) rfl rfl (by decide) ?_
  intro T43 h43 X43 e43 W43 G43
  have N43 := Fr.snoc X43 N0 nw_a34
  have A43 : GA Z h43 a34 (.object "com/example/skipstone/skipstone/prune/Operator") 6 (fun i => if i = 0 then (.ref o0) else (fun _ => .null) i) := G43
  show Go p e below s _ _ _ T43 (mkF m 11 #[.val (.int x0), .val (.int x1), .val (.int x2), .val (.int x3), .val (.int x4), .val (.int x5), .unset, .unset, .unset, .unset, .unset, .unset, .unset, .unset] [(.ref a34)])
  refine go_st (fun _ k => XS.dup X43.here hx rfl (hb hby at_11) rfl rfl k) ?_
  show Go p e below s _ _ _ T43 (mkF m 12 #[.val (.int x0), .val (.int x1), .val (.int x2), .val (.int x3), .val (.int x4), .val (.int x5), .unset, .unset, .unset, .unset, .unset, .unset, .unset, .unset] [(.ref a34), (.ref a34)])
  refine go_st (fun _ k => XT.iconstV X43.here hx rfl (1 : Int32) (hb hby at_12) (by decide) k) ?_
  show Go p e below s _ _ _ T43 (mkF m 13 #[.val (.int x0), .val (.int x1), .val (.int x2), .val (.int x3), .val (.int x4), .val (.int x5), .unset, .unset, .unset, .unset, .unset, .unset, .unset, .unset] [(.int (1 : Int32)), (.ref a34), (.ref a34)])
  have c45 := Sta.ext E34 S1
  have c46 := Sta.wr W43 c45
  refine go_getS X43 hx hZ hown (host := "") (Or.inl (hw _ (List.mem_of_getElem? (i := 6) rfl))) Via.refl e43 c46 (hb hby at_13) rfl ?_
  intro T47 X47 e47
  show Go p e below s _ _ _ T47 (mkF m 16 #[.val (.int x0), .val (.int x1), .val (.int x2), .val (.int x3), .val (.int x4), .val (.int x5), .unset, .unset, .unset, .unset, .unset, .unset, .unset, .unset] [(.ref o1), (.int (1 : Int32)), (.ref a34), (.ref a34)])
  have c49 := O34.wr W43
  have c50 := Exa.ext E34 E1
  have c51 := Exa.wr W43 c50
  refine go_aast X47 hx hZ e47 A43 rfl (c49.sto (Ins.self c51)) (hb hby at_16) rfl rfl (by decide) ?_
  intro T48 h48 X48 e48 W48 G48
  have N48 := Fr.snoc X48 N43 nw_a34
  have A48 : GA Z h48 a34 (.object "com/example/skipstone/skipstone/prune/Operator") 6 (fun i => if i = 1 then (.ref o1) else (fun i => if i = 0 then (.ref o0) else (fun _ => .null) i) i) := G48
  show Go p e below s _ _ _ T48 (mkF m 17 #[.val (.int x0), .val (.int x1), .val (.int x2), .val (.int x3), .val (.int x4), .val (.int x5), .unset, .unset, .unset, .unset, .unset, .unset, .unset, .unset] [(.ref a34)])
  refine go_st (fun _ k => XS.dup X48.here hx rfl (hb hby at_17) rfl rfl k) ?_
  show Go p e below s _ _ _ T48 (mkF m 18 #[.val (.int x0), .val (.int x1), .val (.int x2), .val (.int x3), .val (.int x4), .val (.int x5), .unset, .unset, .unset, .unset, .unset, .unset, .unset, .unset] [(.ref a34), (.ref a34)])
  refine go_st (fun _ k => XT.iconstV X48.here hx rfl (2 : Int32) (hb hby at_18) (by decide) k) ?_
  show Go p e below s _ _ _ T48 (mkF m 19 #[.val (.int x0), .val (.int x1), .val (.int x2), .val (.int x3), .val (.int x4), .val (.int x5), .unset, .unset, .unset, .unset, .unset, .unset, .unset, .unset] [(.int (2 : Int32)), (.ref a34), (.ref a34)])
  have c52 := Sta.ext E34 S2
  have c53 := Sta.wr W43 c52
  have c54 := Sta.wr W48 c53
  refine go_getS X48 hx hZ hown (host := "") (Or.inl (hw _ (List.mem_of_getElem? (i := 8) rfl))) Via.refl e48 c54 (hb hby at_19) rfl ?_
  intro T55 X55 e55
  show Go p e below s _ _ _ T55 (mkF m 22 #[.val (.int x0), .val (.int x1), .val (.int x2), .val (.int x3), .val (.int x4), .val (.int x5), .unset, .unset, .unset, .unset, .unset, .unset, .unset, .unset] [(.ref o2), (.int (2 : Int32)), (.ref a34), (.ref a34)])
  have c57 := c49.wr W48
  have c58 := Exa.ext E34 E2
  have c59 := Exa.wr W43 c58
  have c60 := Exa.wr W48 c59
  refine go_aast X55 hx hZ e55 A48 rfl (c57.sto (Ins.self c60)) (hb hby at_22) rfl rfl (by decide) ?_
  intro T56 h56 X56 e56 W56 G56
  have N56 := Fr.snoc X56 N48 nw_a34
  have A56 : GA Z h56 a34 (.object "com/example/skipstone/skipstone/prune/Operator") 6 (fun i => if i = 2 then (.ref o2) else (fun i => if i = 1 then (.ref o1) else (fun i => if i = 0 then (.ref o0) else (fun _ => .null) i) i) i) := G56
  show Go p e below s _ _ _ T56 (mkF m 23 #[.val (.int x0), .val (.int x1), .val (.int x2), .val (.int x3), .val (.int x4), .val (.int x5), .unset, .unset, .unset, .unset, .unset, .unset, .unset, .unset] [(.ref a34)])
  refine go_st (fun _ k => XS.dup X56.here hx rfl (hb hby at_23) rfl rfl k) ?_
  show Go p e below s _ _ _ T56 (mkF m 24 #[.val (.int x0), .val (.int x1), .val (.int x2), .val (.int x3), .val (.int x4), .val (.int x5), .unset, .unset, .unset, .unset, .unset, .unset, .unset, .unset] [(.ref a34), (.ref a34)])
  refine go_st (fun _ k => XT.iconstV X56.here hx rfl (3 : Int32) (hb hby at_24) (by decide) k) ?_
  show Go p e below s _ _ _ T56 (mkF m 25 #[.val (.int x0), .val (.int x1), .val (.int x2), .val (.int x3), .val (.int x4), .val (.int x5), .unset, .unset, .unset, .unset, .unset, .unset, .unset, .unset] [(.int (3 : Int32)), (.ref a34), (.ref a34)])
  have c61 := Sta.ext E34 S3
  have c62 := Sta.wr W43 c61
  have c63 := Sta.wr W48 c62
  have c64 := Sta.wr W56 c63
  refine go_getS X56 hx hZ hown (host := "") (Or.inl (hw _ (List.mem_of_getElem? (i := 10) rfl))) Via.refl e56 c64 (hb hby at_25) rfl ?_
  intro T65 X65 e65
  show Go p e below s _ _ _ T65 (mkF m 28 #[.val (.int x0), .val (.int x1), .val (.int x2), .val (.int x3), .val (.int x4), .val (.int x5), .unset, .unset, .unset, .unset, .unset, .unset, .unset, .unset] [(.ref o3), (.int (3 : Int32)), (.ref a34), (.ref a34)])
  have c67 := c57.wr W56
  have c68 := Exa.ext E34 E3
  have c69 := Exa.wr W43 c68
  have c70 := Exa.wr W48 c69
  have c71 := Exa.wr W56 c70
  refine go_aast X65 hx hZ e65 A56 rfl (c67.sto (Ins.self c71)) (hb hby at_28) rfl rfl (by decide) ?_
  intro T66 h66 X66 e66 W66 G66
  have N66 := Fr.snoc X66 N56 nw_a34
  have A66 : GA Z h66 a34 (.object "com/example/skipstone/skipstone/prune/Operator") 6 (fun i => if i = 3 then (.ref o3) else (fun i => if i = 2 then (.ref o2) else (fun i => if i = 1 then (.ref o1) else (fun i => if i = 0 then (.ref o0) else (fun _ => .null) i) i) i) i) := G66
  show Go p e below s _ _ _ T66 (mkF m 29 #[.val (.int x0), .val (.int x1), .val (.int x2), .val (.int x3), .val (.int x4), .val (.int x5), .unset, .unset, .unset, .unset, .unset, .unset, .unset, .unset] [(.ref a34)])
  refine go_st (fun _ k => XS.dup X66.here hx rfl (hb hby at_29) rfl rfl k) ?_
  show Go p e below s _ _ _ T66 (mkF m 30 #[.val (.int x0), .val (.int x1), .val (.int x2), .val (.int x3), .val (.int x4), .val (.int x5), .unset, .unset, .unset, .unset, .unset, .unset, .unset, .unset] [(.ref a34), (.ref a34)])
  refine go_st (fun _ k => XT.iconstV X66.here hx rfl (4 : Int32) (hb hby at_30) (by decide) k) ?_
  show Go p e below s _ _ _ T66 (mkF m 31 #[.val (.int x0), .val (.int x1), .val (.int x2), .val (.int x3), .val (.int x4), .val (.int x5), .unset, .unset, .unset, .unset, .unset, .unset, .unset, .unset] [(.int (4 : Int32)), (.ref a34), (.ref a34)])
  have c72 := Sta.ext E34 S4
  have c73 := Sta.wr W43 c72
  have c74 := Sta.wr W48 c73
  have c75 := Sta.wr W56 c74
  have c76 := Sta.wr W66 c75
  refine go_getS X66 hx hZ hown (host := "") (Or.inl (hw _ (List.mem_of_getElem? (i := 12) rfl))) Via.refl e66 c76 (hb hby at_31) rfl ?_
  intro T77 X77 e77
  show Go p e below s _ _ _ T77 (mkF m 34 #[.val (.int x0), .val (.int x1), .val (.int x2), .val (.int x3), .val (.int x4), .val (.int x5), .unset, .unset, .unset, .unset, .unset, .unset, .unset, .unset] [(.ref o4), (.int (4 : Int32)), (.ref a34), (.ref a34)])
  have c79 := c67.wr W66
  have c80 := Exa.ext E34 E4
  have c81 := Exa.wr W43 c80
  have c82 := Exa.wr W48 c81
  have c83 := Exa.wr W56 c82
  have c84 := Exa.wr W66 c83
  refine go_aast X77 hx hZ e77 A66 rfl (c79.sto (Ins.self c84)) (hb hby at_34) rfl rfl (by decide) ?_
  intro T78 h78 X78 e78 W78 G78
  have N78 := Fr.snoc X78 N66 nw_a34
  have A78 : GA Z h78 a34 (.object "com/example/skipstone/skipstone/prune/Operator") 6 (fun i => if i = 4 then (.ref o4) else (fun i => if i = 3 then (.ref o3) else (fun i => if i = 2 then (.ref o2) else (fun i => if i = 1 then (.ref o1) else (fun i => if i = 0 then (.ref o0) else (fun _ => .null) i) i) i) i) i) := G78
  show Go p e below s _ _ _ T78 (mkF m 35 #[.val (.int x0), .val (.int x1), .val (.int x2), .val (.int x3), .val (.int x4), .val (.int x5), .unset, .unset, .unset, .unset, .unset, .unset, .unset, .unset] [(.ref a34)])
  refine go_st (fun _ k => XS.dup X78.here hx rfl (hb hby at_35) rfl rfl k) ?_
  show Go p e below s _ _ _ T78 (mkF m 36 #[.val (.int x0), .val (.int x1), .val (.int x2), .val (.int x3), .val (.int x4), .val (.int x5), .unset, .unset, .unset, .unset, .unset, .unset, .unset, .unset] [(.ref a34), (.ref a34)])
  refine go_st (fun _ k => XT.iconstV X78.here hx rfl (5 : Int32) (hb hby at_36) (by decide) k) ?_
  show Go p e below s _ _ _ T78 (mkF m 37 #[.val (.int x0), .val (.int x1), .val (.int x2), .val (.int x3), .val (.int x4), .val (.int x5), .unset, .unset, .unset, .unset, .unset, .unset, .unset, .unset] [(.int (5 : Int32)), (.ref a34), (.ref a34)])
  have c85 := Sta.ext E34 S5
  have c86 := Sta.wr W43 c85
  have c87 := Sta.wr W48 c86
  have c88 := Sta.wr W56 c87
  have c89 := Sta.wr W66 c88
  have c90 := Sta.wr W78 c89
  refine go_getS X78 hx hZ hown (host := "") (Or.inl (hw _ (List.mem_of_getElem? (i := 14) rfl))) Via.refl e78 c90 (hb hby at_37) rfl ?_
  intro T91 X91 e91
  show Go p e below s _ _ _ T91 (mkF m 40 #[.val (.int x0), .val (.int x1), .val (.int x2), .val (.int x3), .val (.int x4), .val (.int x5), .unset, .unset, .unset, .unset, .unset, .unset, .unset, .unset] [(.ref o5), (.int (5 : Int32)), (.ref a34), (.ref a34)])
  have c93 := c79.wr W78
  have c94 := Exa.ext E34 E5
  have c95 := Exa.wr W43 c94
  have c96 := Exa.wr W48 c95
  have c97 := Exa.wr W56 c96
  have c98 := Exa.wr W66 c97
  have c99 := Exa.wr W78 c98
  refine go_aast X91 hx hZ e91 A78 rfl (c93.sto (Ins.self c99)) (hb hby at_40) rfl rfl (by decide) ?_
  intro T92 h92 X92 e92 W92 G92
  have N92 := Fr.snoc X92 N78 nw_a34
  have A92 : GA Z h92 a34 (.object "com/example/skipstone/skipstone/prune/Operator") 6 (fun i => if i = 5 then (.ref o5) else (fun i => if i = 4 then (.ref o4) else (fun i => if i = 3 then (.ref o3) else (fun i => if i = 2 then (.ref o2) else (fun i => if i = 1 then (.ref o1) else (fun i => if i = 0 then (.ref o0) else (fun _ => .null) i) i) i) i) i) i) := G92
  show Go p e below s _ _ _ T92 (mkF m 41 #[.val (.int x0), .val (.int x1), .val (.int x2), .val (.int x3), .val (.int x4), .val (.int x5), .unset, .unset, .unset, .unset, .unset, .unset, .unset, .unset] [(.ref a34)])
  refine go_st (fun _ k => XS.astore X92.here hx rfl (hb hby at_41) rfl rfl (l' := #[.val (.int x0), .val (.int x1), .val (.int x2), .val (.int x3), .val (.int x4), .val (.int x5), .val (.ref a34), .unset, .unset, .unset, .unset, .unset, .unset, .unset]) rfl k) ?_
  show Go p e below s _ _ _ T92 (mkF m 43 #[.val (.int x0), .val (.int x1), .val (.int x2), .val (.int x3), .val (.int x4), .val (.int x5), .val (.ref a34), .unset, .unset, .unset, .unset, .unset, .unset, .unset] [])
  refine go_st (fun _ k => XS.iloadN X92.here hx rfl (hb hby at_43) rfl k) ?_
  show Go p e below s _ _ _ T92 (mkF m 44 #[.val (.int x0), .val (.int x1), .val (.int x2), .val (.int x3), .val (.int x4), .val (.int x5), .val (.ref a34), .unset, .unset, .unset, .unset, .unset, .unset, .unset] [(.int x0)])
  refine go_st (fun _ k => Jvm.Stand.ldcI X92 hx hown (mvT hZ (hw _ (List.mem_of_getElem? (i := 16) rfl))) rfl (hb hby at_44) k) ?_
  show Go p e below s _ _ _ T92 (mkF m 46 #[.val (.int x0), .val (.int x1), .val (.int x2), .val (.int x3), .val (.int x4), .val (.int x5), .val (.ref a34), .unset, .unset, .unset, .unset, .unset, .unset, .unset] [(.int (2147483647 : Int32)), (.int x0)])
  refine go_st (fun _ k => XS.iand X92.here hx rfl (hb hby at_46) rfl k) ?_
  show Go p e below s _ _ _ T92 (mkF m 47 #[.val (.int x0), .val (.int x1), .val (.int x2), .val (.int x3), .val (.int x4), .val (.int x5), .val (.ref a34), .unset, .unset, .unset, .unset, .unset, .unset, .unset] [(.int (x0 &&& (2147483647 : Int32)))])
  refine go_st (fun _ k => XT.bipushV X92.here hx rfl (6 : Int32) (hb hby at_47) (by decide) k) ?_
  show Go p e below s _ _ _ T92 (mkF m 49 #[.val (.int x0), .val (.int x1), .val (.int x2), .val (.int x3), .val (.int x4), .val (.int x5), .val (.ref a34), .unset, .unset, .unset, .unset, .unset, .unset, .unset] [(.int (6 : Int32)), (.int (x0 &&& (2147483647 : Int32)))])
  refine go_st (fun _ k => iremM X92 hx rfl (hb hby at_49) rfl (by decide) k) ?_
  show Go p e below s _ _ _ T92 (mkF m 50 #[.val (.int x0), .val (.int x1), .val (.int x2), .val (.int x3), .val (.int x4), .val (.int x5), .val (.ref a34), .unset, .unset, .unset, .unset, .unset, .unset, .unset] [(.int ((x0 &&& (2147483647 : Int32)) % (6 : Int32)))])
  refine go_st (fun _ k => XS.istore X92.here hx rfl (hb hby at_50) rfl (l' := #[.val (.int x0), .val (.int x1), .val (.int x2), .val (.int x3), .val (.int x4), .val (.int x5), .val (.ref a34), .val (.int ((x0 &&& (2147483647 : Int32)) % (6 : Int32))), .unset, .unset, .unset, .unset, .unset, .unset]) rfl k) ?_
  show Go p e below s _ _ _ T92 (mkF m 52 #[.val (.int x0), .val (.int x1), .val (.int x2), .val (.int x3), .val (.int x4), .val (.int x5), .val (.ref a34), .val (.int ((x0 &&& (2147483647 : Int32)) % (6 : Int32))), .unset, .unset, .unset, .unset, .unset, .unset] [])
  refine go_st (fun _ k => XS.iloadN X92.here hx rfl (hb hby at_52) rfl k) ?_
  show Go p e below s _ _ _ T92 (mkF m 53 #[.val (.int x0), .val (.int x1), .val (.int x2), .val (.int x3), .val (.int x4), .val (.int x5), .val (.ref a34), .val (.int ((x0 &&& (2147483647 : Int32)) % (6 : Int32))), .unset, .unset, .unset, .unset, .unset, .unset] [(.int x1)])
  refine go_st (fun _ k => XS.iloadN X92.here hx rfl (hb hby at_53) rfl k) ?_
  show Go p e below s _ _ _ T92 (mkF m 54 #[.val (.int x0), .val (.int x1), .val (.int x2), .val (.int x3), .val (.int x4), .val (.int x5), .val (.ref a34), .val (.int ((x0 &&& (2147483647 : Int32)) % (6 : Int32))), .unset, .unset, .unset, .unset, .unset, .unset] [(.int x2), (.int x1)])
  refine go_callS X92 hx hZ hml hown (hw _ (List.mem_of_getElem? (i := 17) rfl)) (hw _ (List.mem_of_getElem? (i := 18) rfl)) (hw _ (List.mem_of_getElem? (i := 19) rfl)) (hw _ (List.mem_of_getElem? (i := 20) rfl)) e92 (argsL := [(.int x1), (.int x2)]) (rest := []) (W := 0) (met_1 l Z a0 hw x1 x2 h92 n0) (hb hby at_54) rfl rfl rfl (lenOf pd0 rfl) (by show 2 * 0 + _ ≤ _; exact Nat.le_of_eq rfl) (by decide) (by decide) (by decide) (by decide) (by decide) ?_
  intro T100 v100 L100 X100 q100
  obtain ⟨rfl, M100, e100⟩ := q100
  have N100 := Fr.app N92 M100
  show Go p e below s _ _ _ T100 (mkF m 57 #[.val (.int x0), .val (.int x1), .val (.int x2), .val (.int x3), .val (.int x4), .val (.int x5), .val (.ref a34), .val (.int ((x0 &&& (2147483647 : Int32)) % (6 : Int32))), .unset, .unset, .unset, .unset, .unset, .unset] [(.int (fMin x1 x2))])
  refine go_st (fun _ k => XS.istore X100.here hx rfl (hb hby at_57) rfl (l' := #[.val (.int x0), .val (.int x1), .val (.int x2), .val (.int x3), .val (.int x4), .val (.int x5), .val (.ref a34), .val (.int ((x0 &&& (2147483647 : Int32)) % (6 : Int32))), .val (.int (fMin x1 x2)), .unset, .unset, .unset, .unset, .unset]) rfl k) ?_
  show Go p e below s _ _ _ T100 (mkF m 59 #[.val (.int x0), .val (.int x1), .val (.int x2), .val (.int x3), .val (.int x4), .val (.int x5), .val (.ref a34), .val (.int ((x0 &&& (2147483647 : Int32)) % (6 : Int32))), .val (.int (fMin x1 x2)), .unset, .unset, .unset, .unset, .unset] [])
  refine go_st (fun _ k => XS.iloadN X100.here hx rfl (hb hby at_59) rfl k) ?_
  show Go p e below s _ _ _ T100 (mkF m 60 #[.val (.int x0), .val (.int x1), .val (.int x2), .val (.int x3), .val (.int x4), .val (.int x5), .val (.ref a34), .val (.int ((x0 &&& (2147483647 : Int32)) % (6 : Int32))), .val (.int (fMin x1 x2)), .unset, .unset, .unset, .unset, .unset] [(.int x1)])
  refine go_st (fun _ k => XS.iloadN X100.here hx rfl (hb hby at_60) rfl k) ?_
  show Go p e below s _ _ _ T100 (mkF m 61 #[.val (.int x0), .val (.int x1), .val (.int x2), .val (.int x3), .val (.int x4), .val (.int x5), .val (.ref a34), .val (.int ((x0 &&& (2147483647 : Int32)) % (6 : Int32))), .val (.int (fMin x1 x2)), .unset, .unset, .unset, .unset, .unset] [(.int x2), (.int x1)])
  refine go_callS X100 hx hZ hml hown (hw _ (List.mem_of_getElem? (i := 21) rfl)) (hw _ (List.mem_of_getElem? (i := 22) rfl)) (hw _ (List.mem_of_getElem? (i := 19) rfl)) (hw _ (List.mem_of_getElem? (i := 23) rfl)) e100 (argsL := [(.int x1), (.int x2)]) (rest := []) (W := 0) (met_2 l Z a0 hw x1 x2 h92 n0) (hb hby at_61) rfl rfl rfl (lenOf pd0 rfl) (by show 2 * 0 + _ ≤ _; exact Nat.le_of_eq rfl) (by decide) (by decide) (by decide) (by decide) (by decide) ?_
  intro T101 v101 L101 X101 q101
  obtain ⟨rfl, M101, e101⟩ := q101
  have N101 := Fr.app N100 M101
  show Go p e below s _ _ _ T101 (mkF m 64 #[.val (.int x0), .val (.int x1), .val (.int x2), .val (.int x3), .val (.int x4), .val (.int x5), .val (.ref a34), .val (.int ((x0 &&& (2147483647 : Int32)) % (6 : Int32))), .val (.int (fMin x1 x2)), .unset, .unset, .unset, .unset, .unset] [(.int (fMax x1 x2))])
  refine go_st (fun _ k => XS.istore X101.here hx rfl (hb hby at_64) rfl (l' := #[.val (.int x0), .val (.int x1), .val (.int x2), .val (.int x3), .val (.int x4), .val (.int x5), .val (.ref a34), .val (.int ((x0 &&& (2147483647 : Int32)) % (6 : Int32))), .val (.int (fMin x1 x2)), .val (.int (fMax x1 x2)), .unset, .unset, .unset, .unset]) rfl k) ?_
  show Go p e below s _ _ _ T101 (mkF m 66 #[.val (.int x0), .val (.int x1), .val (.int x2), .val (.int x3), .val (.int x4), .val (.int x5), .val (.ref a34), .val (.int ((x0 &&& (2147483647 : Int32)) % (6 : Int32))), .val (.int (fMin x1 x2)), .val (.int (fMax x1 x2)), .unset, .unset, .unset, .unset] [])
  refine go_st (fun _ k => XS.iload X101.here hx rfl (hb hby at_66) rfl k) ?_
  show Go p e below s _ _ _ T101 (mkF m 68 #[.val (.int x0), .val (.int x1), .val (.int x2), .val (.int x3), .val (.int x4), .val (.int x5), .val (.ref a34), .val (.int ((x0 &&& (2147483647 : Int32)) % (6 : Int32))), .val (.int (fMin x1 x2)), .val (.int (fMax x1 x2)), .unset, .unset, .unset, .unset] [(.int (fMin x1 x2))])
  refine go_st (fun _ k => XS.iloadN X101.here hx rfl (hb hby at_68) rfl k) ?_
  show Go p e below s _ _ _ T101 (mkF m 69 #[.val (.int x0), .val (.int x1), .val (.int x2), .val (.int x3), .val (.int x4), .val (.int x5), .val (.ref a34), .val (.int ((x0 &&& (2147483647 : Int32)) % (6 : Int32))), .val (.int (fMin x1 x2)), .val (.int (fMax x1 x2)), .unset, .unset, .unset, .unset] [(.int x3), (.int (fMin x1 x2))])
  refine go_callS X101 hx hZ hml hown (hw _ (List.mem_of_getElem? (i := 24) rfl)) (hw _ (List.mem_of_getElem? (i := 25) rfl)) (hw _ (List.mem_of_getElem? (i := 26) rfl)) (hw _ (List.mem_of_getElem? (i := 27) rfl)) e101 (argsL := [(.int (fMin x1 x2)), (.int x3)]) (rest := []) (W := 0) (met_3 l Z a0 hw (fMin x1 x2) x3 h92 n0) (hb hby at_69) rfl rfl rfl (lenOf pd0 rfl) (by show 2 * 0 + _ ≤ _; exact Nat.le_of_eq rfl) (by decide) (by decide) (by decide) (by decide) (by decide) ?_
  intro T102 v102 L102 X102 q102
  obtain ⟨rfl, M102, e102⟩ := q102
  have N102 := Fr.app N101 M102
  show Go p e below s _ _ _ T102 (mkF m 72 #[.val (.int x0), .val (.int x1), .val (.int x2), .val (.int x3), .val (.int x4), .val (.int x5), .val (.ref a34), .val (.int ((x0 &&& (2147483647 : Int32)) % (6 : Int32))), .val (.int (fMin x1 x2)), .val (.int (fMax x1 x2)), .unset, .unset, .unset, .unset] [(.int (fSign (fMin x1 x2) x3))])
  refine go_st (fun _ k => XS.iload X102.here hx rfl (hb hby at_72) rfl k) ?_
  show Go p e below s _ _ _ T102 (mkF m 74 #[.val (.int x0), .val (.int x1), .val (.int x2), .val (.int x3), .val (.int x4), .val (.int x5), .val (.ref a34), .val (.int ((x0 &&& (2147483647 : Int32)) % (6 : Int32))), .val (.int (fMin x1 x2)), .val (.int (fMax x1 x2)), .unset, .unset, .unset, .unset] [(.int x4), (.int (fSign (fMin x1 x2) x3))])
  refine go_callS X102 hx hZ hml hown (hw _ (List.mem_of_getElem? (i := 28) rfl)) (hw _ (List.mem_of_getElem? (i := 29) rfl)) (hw _ (List.mem_of_getElem? (i := 26) rfl)) (hw _ (List.mem_of_getElem? (i := 30) rfl)) e102 (argsL := [(.int (fSign (fMin x1 x2) x3)), (.int x4)]) (rest := []) (W := 0) (met_4 l Z a0 hw (fSign (fMin x1 x2) x3) x4 h92 n0) (hb hby at_74) rfl rfl rfl (lenOf pd0 rfl) (by show 2 * 0 + _ ≤ _; exact Nat.le_of_eq rfl) (by decide) (by decide) (by decide) (by decide) (by decide) ?_
  intro T103 v103 L103 X103 q103
  obtain ⟨rfl, M103, e103⟩ := q103
  have N103 := Fr.app N102 M103
  show Go p e below s _ _ _ T103 (mkF m 77 #[.val (.int x0), .val (.int x1), .val (.int x2), .val (.int x3), .val (.int x4), .val (.int x5), .val (.ref a34), .val (.int ((x0 &&& (2147483647 : Int32)) % (6 : Int32))), .val (.int (fMin x1 x2)), .val (.int (fMax x1 x2)), .unset, .unset, .unset, .unset] [(.int (fEnc (fSign (fMin x1 x2) x3) x4))])
  refine go_st (fun _ k => XS.istore X103.here hx rfl (hb hby at_77) rfl (l' := #[.val (.int x0), .val (.int x1), .val (.int x2), .val (.int x3), .val (.int x4), .val (.int x5), .val (.ref a34), .val (.int ((x0 &&& (2147483647 : Int32)) % (6 : Int32))), .val (.int (fMin x1 x2)), .val (.int (fMax x1 x2)), .val (.int (fEnc (fSign (fMin x1 x2) x3) x4)), .unset, .unset, .unset]) rfl k) ?_
  show Go p e below s _ _ _ T103 (mkF m 79 #[.val (.int x0), .val (.int x1), .val (.int x2), .val (.int x3), .val (.int x4), .val (.int x5), .val (.ref a34), .val (.int ((x0 &&& (2147483647 : Int32)) % (6 : Int32))), .val (.int (fMin x1 x2)), .val (.int (fMax x1 x2)), .val (.int (fEnc (fSign (fMin x1 x2) x3) x4)), .unset, .unset, .unset] [])
  refine go_st (fun _ k => XS.iload X103.here hx rfl (hb hby at_79) rfl k) ?_
  show Go p e below s _ _ _ T103 (mkF m 81 #[.val (.int x0), .val (.int x1), .val (.int x2), .val (.int x3), .val (.int x4), .val (.int x5), .val (.ref a34), .val (.int ((x0 &&& (2147483647 : Int32)) % (6 : Int32))), .val (.int (fMin x1 x2)), .val (.int (fMax x1 x2)), .val (.int (fEnc (fSign (fMin x1 x2) x3) x4)), .unset, .unset, .unset] [(.int (fMax x1 x2))])
  refine go_st (fun _ k => XS.iloadN X103.here hx rfl (hb hby at_81) rfl k) ?_
  show Go p e below s _ _ _ T103 (mkF m 82 #[.val (.int x0), .val (.int x1), .val (.int x2), .val (.int x3), .val (.int x4), .val (.int x5), .val (.ref a34), .val (.int ((x0 &&& (2147483647 : Int32)) % (6 : Int32))), .val (.int (fMin x1 x2)), .val (.int (fMax x1 x2)), .val (.int (fEnc (fSign (fMin x1 x2) x3) x4)), .unset, .unset, .unset] [(.int x3), (.int (fMax x1 x2))])
  refine go_callS X103 hx hZ hml hown (hw _ (List.mem_of_getElem? (i := 24) rfl)) (hw _ (List.mem_of_getElem? (i := 25) rfl)) (hw _ (List.mem_of_getElem? (i := 26) rfl)) (hw _ (List.mem_of_getElem? (i := 27) rfl)) e103 (argsL := [(.int (fMax x1 x2)), (.int x3)]) (rest := []) (W := 0) (met_3 l Z a0 hw (fMax x1 x2) x3 h92 n0) (hb hby at_82) rfl rfl rfl (lenOf pd0 rfl) (by show 2 * 0 + _ ≤ _; exact Nat.le_of_eq rfl) (by decide) (by decide) (by decide) (by decide) (by decide) ?_
  intro T104 v104 L104 X104 q104
  obtain ⟨rfl, M104, e104⟩ := q104
  have N104 := Fr.app N103 M104
  show Go p e below s _ _ _ T104 (mkF m 85 #[.val (.int x0), .val (.int x1), .val (.int x2), .val (.int x3), .val (.int x4), .val (.int x5), .val (.ref a34), .val (.int ((x0 &&& (2147483647 : Int32)) % (6 : Int32))), .val (.int (fMin x1 x2)), .val (.int (fMax x1 x2)), .val (.int (fEnc (fSign (fMin x1 x2) x3) x4)), .unset, .unset, .unset] [(.int (fSign (fMax x1 x2) x3))])
  refine go_st (fun _ k => XS.iload X104.here hx rfl (hb hby at_85) rfl k) ?_
  show Go p e below s _ _ _ T104 (mkF m 87 #[.val (.int x0), .val (.int x1), .val (.int x2), .val (.int x3), .val (.int x4), .val (.int x5), .val (.ref a34), .val (.int ((x0 &&& (2147483647 : Int32)) % (6 : Int32))), .val (.int (fMin x1 x2)), .val (.int (fMax x1 x2)), .val (.int (fEnc (fSign (fMin x1 x2) x3) x4)), .unset, .unset, .unset] [(.int x5), (.int (fSign (fMax x1 x2) x3))])
  refine go_callS X104 hx hZ hml hown (hw _ (List.mem_of_getElem? (i := 28) rfl)) (hw _ (List.mem_of_getElem? (i := 29) rfl)) (hw _ (List.mem_of_getElem? (i := 26) rfl)) (hw _ (List.mem_of_getElem? (i := 30) rfl)) e104 (argsL := [(.int (fSign (fMax x1 x2) x3)), (.int x5)]) (rest := []) (W := 0) (met_4 l Z a0 hw (fSign (fMax x1 x2) x3) x5 h92 n0) (hb hby at_87) rfl rfl rfl (lenOf pd0 rfl) (by show 2 * 0 + _ ≤ _; exact Nat.le_of_eq rfl) (by decide) (by decide) (by decide) (by decide) (by decide) ?_
  intro T105 v105 L105 X105 q105
  obtain ⟨rfl, M105, e105⟩ := q105
  have N105 := Fr.app N104 M105
  show Go p e below s _ _ _ T105 (mkF m 90 #[.val (.int x0), .val (.int x1), .val (.int x2), .val (.int x3), .val (.int x4), .val (.int x5), .val (.ref a34), .val (.int ((x0 &&& (2147483647 : Int32)) % (6 : Int32))), .val (.int (fMin x1 x2)), .val (.int (fMax x1 x2)), .val (.int (fEnc (fSign (fMin x1 x2) x3) x4)), .unset, .unset, .unset] [(.int (fEnc (fSign (fMax x1 x2) x3) x5))])
  refine go_st (fun _ k => XS.istore X105.here hx rfl (hb hby at_90) rfl (l' := #[.val (.int x0), .val (.int x1), .val (.int x2), .val (.int x3), .val (.int x4), .val (.int x5), .val (.ref a34), .val (.int ((x0 &&& (2147483647 : Int32)) % (6 : Int32))), .val (.int (fMin x1 x2)), .val (.int (fMax x1 x2)), .val (.int (fEnc (fSign (fMin x1 x2) x3) x4)), .val (.int (fEnc (fSign (fMax x1 x2) x3) x5)), .unset, .unset]) rfl k) ?_
  show Go p e below s _ _ _ T105 (mkF m 92 #[.val (.int x0), .val (.int x1), .val (.int x2), .val (.int x3), .val (.int x4), .val (.int x5), .val (.ref a34), .val (.int ((x0 &&& (2147483647 : Int32)) % (6 : Int32))), .val (.int (fMin x1 x2)), .val (.int (fMax x1 x2)), .val (.int (fEnc (fSign (fMin x1 x2) x3) x4)), .val (.int (fEnc (fSign (fMax x1 x2) x3) x5)), .unset, .unset] [])
  refine go_st (fun _ k => XS.iload X105.here hx rfl (hb hby at_92) rfl k) ?_
  show Go p e below s _ _ _ T105 (mkF m 94 #[.val (.int x0), .val (.int x1), .val (.int x2), .val (.int x3), .val (.int x4), .val (.int x5), .val (.ref a34), .val (.int ((x0 &&& (2147483647 : Int32)) % (6 : Int32))), .val (.int (fMin x1 x2)), .val (.int (fMax x1 x2)), .val (.int (fEnc (fSign (fMin x1 x2) x3) x4)), .val (.int (fEnc (fSign (fMax x1 x2) x3) x5)), .unset, .unset] [(.int ((x0 &&& (2147483647 : Int32)) % (6 : Int32)))])
  refine go_st (fun _ k => XS.iload X105.here hx rfl (hb hby at_94) rfl k) ?_
  show Go p e below s _ _ _ T105 (mkF m 96 #[.val (.int x0), .val (.int x1), .val (.int x2), .val (.int x3), .val (.int x4), .val (.int x5), .val (.ref a34), .val (.int ((x0 &&& (2147483647 : Int32)) % (6 : Int32))), .val (.int (fMin x1 x2)), .val (.int (fMax x1 x2)), .val (.int (fEnc (fSign (fMin x1 x2) x3) x4)), .val (.int (fEnc (fSign (fMax x1 x2) x3) x5)), .unset, .unset] [(.int (fMin x1 x2)), (.int ((x0 &&& (2147483647 : Int32)) % (6 : Int32)))])
  refine go_st (fun _ k => XS.iloadN X105.here hx rfl (hb hby at_96) rfl k) ?_
  show Go p e below s _ _ _ T105 (mkF m 97 #[.val (.int x0), .val (.int x1), .val (.int x2), .val (.int x3), .val (.int x4), .val (.int x5), .val (.ref a34), .val (.int ((x0 &&& (2147483647 : Int32)) % (6 : Int32))), .val (.int (fMin x1 x2)), .val (.int (fMax x1 x2)), .val (.int (fEnc (fSign (fMin x1 x2) x3) x4)), .val (.int (fEnc (fSign (fMax x1 x2) x3) x5)), .unset, .unset] [(.int x3), (.int (fMin x1 x2)), (.int ((x0 &&& (2147483647 : Int32)) % (6 : Int32)))])
  refine go_callS X105 hx hZ hml hown (hw _ (List.mem_of_getElem? (i := 31) rfl)) (hw _ (List.mem_of_getElem? (i := 32) rfl)) (hw _ (List.mem_of_getElem? (i := 26) rfl)) (hw _ (List.mem_of_getElem? (i := 33) rfl)) e105 (argsL := [(.int ((x0 &&& (2147483647 : Int32)) % (6 : Int32))), (.int (fMin x1 x2)), (.int x3)]) (rest := []) (W := 0) (met_5 l Z a0 hw ((x0 &&& (2147483647 : Int32)) % (6 : Int32)) (fMin x1 x2) x3 h92 n0) (hb hby at_97) rfl rfl rfl (lenOf pd2 rfl) (by show 2 * 0 + _ ≤ _; exact Nat.le_of_eq rfl) (by decide) (by decide) (by decide) (by decide) (by decide) ?_
  intro T106 v106 L106 X106 q106
  obtain ⟨rfl, M106, e106⟩ := q106
  have N106 := Fr.app N105 M106
  show Go p e below s _ _ _ T106 (mkF m 100 #[.val (.int x0), .val (.int x1), .val (.int x2), .val (.int x3), .val (.int x4), .val (.int x5), .val (.ref a34), .val (.int ((x0 &&& (2147483647 : Int32)) % (6 : Int32))), .val (.int (fMin x1 x2)), .val (.int (fMax x1 x2)), .val (.int (fEnc (fSign (fMin x1 x2) x3) x4)), .val (.int (fEnc (fSign (fMax x1 x2) x3) x5)), .unset, .unset] [(.int (fSat ((x0 &&& (2147483647 : Int32)) % (6 : Int32)) (fMin x1 x2) x3))])
  by_cases hc107 : (fSat ((x0 &&& (2147483647 : Int32)) % (6 : Int32)) (fMin x1 x2) x3) = (0 : Int32)
  · rw [if_pos hc107]
    refine go_st (fun _ k => XS.ifNo X106.here hx rfl (hb hby at_100) rfl (XT.i0_ne_f hc107) k) ?_
    show Go p e below s _ _ _ T106 (mkF m 103 #[.val (.int x0), .val (.int x1), .val (.int x2), .val (.int x3), .val (.int x4), .val (.int x5), .val (.ref a34), .val (.int ((x0 &&& (2147483647 : Int32)) % (6 : Int32))), .val (.int (fMin x1 x2)), .val (.int (fMax x1 x2)), .val (.int (fEnc (fSign (fMin x1 x2) x3) x4)), .val (.int (fEnc (fSign (fMax x1 x2) x3) x5)), .unset, .unset] [])
    refine go_st (fun _ k => XS.iload X106.here hx rfl (hb hby at_103) rfl k) ?_
    show Go p e below s _ _ _ T106 (mkF m 105 #[.val (.int x0), .val (.int x1), .val (.int x2), .val (.int x3), .val (.int x4), .val (.int x5), .val (.ref a34), .val (.int ((x0 &&& (2147483647 : Int32)) % (6 : Int32))), .val (.int (fMin x1 x2)), .val (.int (fMax x1 x2)), .val (.int (fEnc (fSign (fMin x1 x2) x3) x4)), .val (.int (fEnc (fSign (fMax x1 x2) x3) x5)), .unset, .unset] [(.int ((x0 &&& (2147483647 : Int32)) % (6 : Int32)))])
    refine go_st (fun _ k => XS.iload X106.here hx rfl (hb hby at_105) rfl k) ?_
    show Go p e below s _ _ _ T106 (mkF m 107 #[.val (.int x0), .val (.int x1), .val (.int x2), .val (.int x3), .val (.int x4), .val (.int x5), .val (.ref a34), .val (.int ((x0 &&& (2147483647 : Int32)) % (6 : Int32))), .val (.int (fMin x1 x2)), .val (.int (fMax x1 x2)), .val (.int (fEnc (fSign (fMin x1 x2) x3) x4)), .val (.int (fEnc (fSign (fMax x1 x2) x3) x5)), .unset, .unset] [(.int (fMax x1 x2)), (.int ((x0 &&& (2147483647 : Int32)) % (6 : Int32)))])
    refine go_st (fun _ k => XS.iloadN X106.here hx rfl (hb hby at_107) rfl k) ?_
    show Go p e below s _ _ _ T106 (mkF m 108 #[.val (.int x0), .val (.int x1), .val (.int x2), .val (.int x3), .val (.int x4), .val (.int x5), .val (.ref a34), .val (.int ((x0 &&& (2147483647 : Int32)) % (6 : Int32))), .val (.int (fMin x1 x2)), .val (.int (fMax x1 x2)), .val (.int (fEnc (fSign (fMin x1 x2) x3) x4)), .val (.int (fEnc (fSign (fMax x1 x2) x3) x5)), .unset, .unset] [(.int x3), (.int (fMax x1 x2)), (.int ((x0 &&& (2147483647 : Int32)) % (6 : Int32)))])
    refine go_callS X106 hx hZ hml hown (hw _ (List.mem_of_getElem? (i := 31) rfl)) (hw _ (List.mem_of_getElem? (i := 32) rfl)) (hw _ (List.mem_of_getElem? (i := 26) rfl)) (hw _ (List.mem_of_getElem? (i := 33) rfl)) e106 (argsL := [(.int ((x0 &&& (2147483647 : Int32)) % (6 : Int32))), (.int (fMax x1 x2)), (.int x3)]) (rest := []) (W := 0) (met_5 l Z a0 hw ((x0 &&& (2147483647 : Int32)) % (6 : Int32)) (fMax x1 x2) x3 h92 n0) (hb hby at_108) rfl rfl rfl (lenOf pd2 rfl) (by show 2 * 0 + _ ≤ _; exact Nat.le_of_eq rfl) (by decide) (by decide) (by decide) (by decide) (by decide) ?_
    intro T108 v108 L108 X108 q108
    obtain ⟨rfl, M108, e108⟩ := q108
    have N108 := Fr.app N106 M108
    show Go p e below s _ _ _ T108 (mkF m 111 #[.val (.int x0), .val (.int x1), .val (.int x2), .val (.int x3), .val (.int x4), .val (.int x5), .val (.ref a34), .val (.int ((x0 &&& (2147483647 : Int32)) % (6 : Int32))), .val (.int (fMin x1 x2)), .val (.int (fMax x1 x2)), .val (.int (fEnc (fSign (fMin x1 x2) x3) x4)), .val (.int (fEnc (fSign (fMax x1 x2) x3) x5)), .unset, .unset] [(.int (fSat ((x0 &&& (2147483647 : Int32)) % (6 : Int32)) (fMax x1 x2) x3))])
    by_cases hc109 : (fSat ((x0 &&& (2147483647 : Int32)) % (6 : Int32)) (fMax x1 x2) x3) = (0 : Int32)
    · rw [if_pos hc109]
      refine go_st (fun _ k => XS.ifNo X108.here hx rfl (hb hby at_111) rfl (XT.i0_ne_f hc109) k) ?_
      show Go p e below s _ _ _ T108 (mkF m 114 #[.val (.int x0), .val (.int x1), .val (.int x2), .val (.int x3), .val (.int x4), .val (.int x5), .val (.ref a34), .val (.int ((x0 &&& (2147483647 : Int32)) % (6 : Int32))), .val (.int (fMin x1 x2)), .val (.int (fMax x1 x2)), .val (.int (fEnc (fSign (fMin x1 x2) x3) x4)), .val (.int (fEnc (fSign (fMax x1 x2) x3) x5)), .unset, .unset] [])
      refine go_st (fun _ k => XS.iload X108.here hx rfl (hb hby at_114) rfl k) ?_
      show Go p e below s _ _ _ T108 (mkF m 116 #[.val (.int x0), .val (.int x1), .val (.int x2), .val (.int x3), .val (.int x4), .val (.int x5), .val (.ref a34), .val (.int ((x0 &&& (2147483647 : Int32)) % (6 : Int32))), .val (.int (fMin x1 x2)), .val (.int (fMax x1 x2)), .val (.int (fEnc (fSign (fMin x1 x2) x3) x4)), .val (.int (fEnc (fSign (fMax x1 x2) x3) x5)), .unset, .unset] [(.int (fMin x1 x2))])
      refine go_st (fun _ k => XS.iloadN X108.here hx rfl (hb hby at_116) rfl k) ?_
      show Go p e below s _ _ _ T108 (mkF m 117 #[.val (.int x0), .val (.int x1), .val (.int x2), .val (.int x3), .val (.int x4), .val (.int x5), .val (.ref a34), .val (.int ((x0 &&& (2147483647 : Int32)) % (6 : Int32))), .val (.int (fMin x1 x2)), .val (.int (fMax x1 x2)), .val (.int (fEnc (fSign (fMin x1 x2) x3) x4)), .val (.int (fEnc (fSign (fMax x1 x2) x3) x5)), .unset, .unset] [(.int x3), (.int (fMin x1 x2))])
      by_cases hc110 : x3 < (fMin x1 x2)
      · rw [if_pos hc110]
        refine go_st (fun _ k => XS.icmpYes X108.here hx rfl (pc0 := 117) (pc' := 140) rfl (hb hby at_117) rfl (XT.ii_gt_t hc110) (by decide) (by decide) k) ?_
        show Go p e below s _ _ _ T108 (mkF m 140 #[.val (.int x0), .val (.int x1), .val (.int x2), .val (.int x3), .val (.int x4), .val (.int x5), .val (.ref a34), .val (.int ((x0 &&& (2147483647 : Int32)) % (6 : Int32))), .val (.int (fMin x1 x2)), .val (.int (fMax x1 x2)), .val (.int (fEnc (fSign (fMin x1 x2) x3) x4)), .val (.int (fEnc (fSign (fMax x1 x2) x3) x5)), .unset, .unset] [])
        refine go_st (fun _ k => XT.iconstV X108.here hx rfl (0 : Int32) (hb hby at_140) (by decide) k) ?_
        show Go p e below s _ _ _ T108 (mkF m 141 #[.val (.int x0), .val (.int x1), .val (.int x2), .val (.int x3), .val (.int x4), .val (.int x5), .val (.ref a34), .val (.int ((x0 &&& (2147483647 : Int32)) % (6 : Int32))), .val (.int (fMin x1 x2)), .val (.int (fMax x1 x2)), .val (.int (fEnc (fSign (fMin x1 x2) x3) x4)), .val (.int (fEnc (fSign (fMax x1 x2) x3) x5)), .unset, .unset] [(.int (0 : Int32))])
        refine go_st (fun _ k => XS.istore X108.here hx rfl (hb hby at_141) rfl (l' := #[.val (.int x0), .val (.int x1), .val (.int x2), .val (.int x3), .val (.int x4), .val (.int x5), .val (.ref a34), .val (.int ((x0 &&& (2147483647 : Int32)) % (6 : Int32))), .val (.int (fMin x1 x2)), .val (.int (fMax x1 x2)), .val (.int (fEnc (fSign (fMin x1 x2) x3) x4)), .val (.int (fEnc (fSign (fMax x1 x2) x3) x5)), .val (.int (0 : Int32)), .unset]) rfl k) ?_
        show Go p e below s _ _ _ T108 (mkF m 143 #[.val (.int x0), .val (.int x1), .val (.int x2), .val (.int x3), .val (.int x4), .val (.int x5), .val (.ref a34), .val (.int ((x0 &&& (2147483647 : Int32)) % (6 : Int32))), .val (.int (fMin x1 x2)), .val (.int (fMax x1 x2)), .val (.int (fEnc (fSign (fMin x1 x2) x3) x4)), .val (.int (fEnc (fSign (fMax x1 x2) x3) x5)), .val (.int (0 : Int32)), .unset] [])
        refine go_st (fun _ k => XS.aload X108.here hx rfl (hb hby at_143) rfl rfl k) ?_
        show Go p e below s _ _ _ T108 (mkF m 145 #[.val (.int x0), .val (.int x1), .val (.int x2), .val (.int x3), .val (.int x4), .val (.int x5), .val (.ref a34), .val (.int ((x0 &&& (2147483647 : Int32)) % (6 : Int32))), .val (.int (fMin x1 x2)), .val (.int (fMax x1 x2)), .val (.int (fEnc (fSign (fMin x1 x2) x3) x4)), .val (.int (fEnc (fSign (fMax x1 x2) x3) x5)), .val (.int (0 : Int32)), .unset] [(.ref a34)])
        refine go_st (fun _ k => XS.iload X108.here hx rfl (hb hby at_145) rfl k) ?_
        show Go p e below s _ _ _ T108 (mkF m 147 #[.val (.int x0), .val (.int x1), .val (.int x2), .val (.int x3), .val (.int x4), .val (.int x5), .val (.ref a34), .val (.int ((x0 &&& (2147483647 : Int32)) % (6 : Int32))), .val (.int (fMin x1 x2)), .val (.int (fMax x1 x2)), .val (.int (fEnc (fSign (fMin x1 x2) x3) x4)), .val (.int (fEnc (fSign (fMax x1 x2) x3) x5)), .val (.int (0 : Int32)), .unset] [(.int ((x0 &&& (2147483647 : Int32)) % (6 : Int32))), (.ref a34)])
        by_cases hk111 : ((x0 &&& (2147483647 : Int32)) % (6 : Int32)) = (0 : Int32)
        · rw [if_pos hk111]
          rw [hk111]
          show Go p e below s _ _ _ T108 (mkF m 147 #[.val (.int x0), .val (.int x1), .val (.int x2), .val (.int x3), .val (.int x4), .val (.int x5), .val (.ref a34), .val (.int (0 : Int32)), .val (.int (fMin x1 x2)), .val (.int (fMax x1 x2)), .val (.int (fEnc (fSign (fMin x1 x2) x3) x4)), .val (.int (fEnc (fSign (fMax x1 x2) x3) x5)), .val (.int (0 : Int32)), .unset] [(.int (0 : Int32)), (.ref a34)])
          refine go_aald X108 hx hZ e108 A92 rfl (hb hby at_147) rfl rfl (by decide) (.ref o0) rfl ?_
          show Go p e below s _ _ _ T108 (mkF m 148 #[.val (.int x0), .val (.int x1), .val (.int x2), .val (.int x3), .val (.int x4), .val (.int x5), .val (.ref a34), .val (.int (0 : Int32)), .val (.int (fMin x1 x2)), .val (.int (fMax x1 x2)), .val (.int (fEnc (fSign (fMin x1 x2) x3) x4)), .val (.int (fEnc (fSign (fMax x1 x2) x3) x5)), .val (.int (0 : Int32)), .unset] [(.ref o0)])
          refine go_st (fun _ k => XS.iload X108.here hx rfl (hb hby at_148) rfl k) ?_
          show Go p e below s _ _ _ T108 (mkF m 150 #[.val (.int x0), .val (.int x1), .val (.int x2), .val (.int x3), .val (.int x4), .val (.int x5), .val (.ref a34), .val (.int (0 : Int32)), .val (.int (fMin x1 x2)), .val (.int (fMax x1 x2)), .val (.int (fEnc (fSign (fMin x1 x2) x3) x4)), .val (.int (fEnc (fSign (fMax x1 x2) x3) x5)), .val (.int (0 : Int32)), .unset] [(.int (fEnc (fSign (fMin x1 x2) x3) x4)), (.ref o0)])
          refine go_st (fun _ k => XS.iload X108.here hx rfl (hb hby at_150) rfl k) ?_
          show Go p e below s _ _ _ T108 (mkF m 152 #[.val (.int x0), .val (.int x1), .val (.int x2), .val (.int x3), .val (.int x4), .val (.int x5), .val (.ref a34), .val (.int (0 : Int32)), .val (.int (fMin x1 x2)), .val (.int (fMax x1 x2)), .val (.int (fEnc (fSign (fMin x1 x2) x3) x4)), .val (.int (fEnc (fSign (fMax x1 x2) x3) x5)), .val (.int (0 : Int32)), .unset] [(.int (fEnc (fSign (fMax x1 x2) x3) x5)), (.int (fEnc (fSign (fMin x1 x2) x3) x4)), (.ref o0)])
          have c113 := Exa.wr W43 c44
          have c114 := Exa.wr W48 c113
          have c115 := Exa.wr W56 c114
          have c116 := Exa.wr W66 c115
          have c117 := Exa.wr W78 c116
          have c118 := Exa.wr W92 c117
          have c119 := Fld.ext E34 F0
          have c120 := Fld.other W43 c119 (Or.inl ne35)
          have c121 := Fld.other W48 c120 (Or.inl ne35)
          have c122 := Fld.other W56 c121 (Or.inl ne35)
          have c123 := Fld.other W66 c122 (Or.inl ne35)
          have c124 := Fld.other W78 c123 (Or.inl ne35)
          have c125 := Fld.other W92 c124 (Or.inl ne35)
          have z126 : n0 ≤ h34.size := Nat.le_trans Z0 E34.1
          have z127 : n0 ≤ h43.size := (Wr.size W43).symm ▸ z126
          have z128 : n0 ≤ h48.size := (Wr.size W48).symm ▸ z127
          have z129 : n0 ≤ h56.size := (Wr.size W56).symm ▸ z128
          have z130 : n0 ≤ h66.size := (Wr.size W66).symm ▸ z129
          have z131 : n0 ≤ h78.size := (Wr.size W78).symm ▸ z130
          have z132 : n0 ≤ h92.size := (Wr.size W92).symm ▸ z131
          refine go_callV X108 hx hZ hml hown (hw _ (List.mem_of_getElem? (i := 34) rfl)) (hw _ (List.mem_of_getElem? (i := 35) rfl)) (notFace_of_selects (args := #[]) (mvT hZ (hw _ (List.mem_of_getElem? (i := 37) rfl)))) (hw _ (List.mem_of_getElem? (i := 37) rfl)) (hw _ (List.mem_of_getElem? (i := 36) rfl)) (hw _ (List.mem_of_getElem? (i := 38) rfl)) (hw _ (List.mem_of_getElem? (i := 3) rfl)) e108 c118 (argsL := [(.int (fEnc (fSign (fMin x1 x2) x3) x4)), (.int (fEnc (fSign (fMax x1 x2) x3) x5))]) (rest := []) (W := 0) (met_adm0 l Z a0 hw o0 (fEnc (fSign (fMin x1 x2) x3) x4) (fEnc (fSign (fMax x1 x2) x3) x5) h92 n0 z132 c118 c125) (hb hby at_152) rfl rfl rfl (lenOf pd3 rfl) (by show 2 * 0 + _ ≤ _; exact Nat.le_of_eq rfl) (by decide) (by decide) (by decide) (by decide) (by decide) ?_
          intro T112 v112 L112 X112 q112
          obtain ⟨rfl, M112, e112⟩ := q112
          have N112 := Fr.app N108 M112
          show Go p e below s _ _ _ T112 (mkF m 155 #[.val (.int x0), .val (.int x1), .val (.int x2), .val (.int x3), .val (.int x4), .val (.int x5), .val (.ref a34), .val (.int (0 : Int32)), .val (.int (fMin x1 x2)), .val (.int (fMax x1 x2)), .val (.int (fEnc (fSign (fMin x1 x2) x3) x4)), .val (.int (fEnc (fSign (fMax x1 x2) x3) x5)), .val (.int (0 : Int32)), .unset] [(.int (fAdm0 (fEnc (fSign (fMin x1 x2) x3) x4) (fEnc (fSign (fMax x1 x2) x3) x5)))])
          refine go_st (fun _ k => XS.istore X112.here hx rfl (hb hby at_155) rfl (l' := #[.val (.int x0), .val (.int x1), .val (.int x2), .val (.int x3), .val (.int x4), .val (.int x5), .val (.ref a34), .val (.int (0 : Int32)), .val (.int (fMin x1 x2)), .val (.int (fMax x1 x2)), .val (.int (fEnc (fSign (fMin x1 x2) x3) x4)), .val (.int (fEnc (fSign (fMax x1 x2) x3) x5)), .val (.int (0 : Int32)), .val (.int (fAdm0 (fEnc (fSign (fMin x1 x2) x3) x4) (fEnc (fSign (fMax x1 x2) x3) x5)))]) rfl k) ?_
          show Go p e below s _ _ _ T112 (mkF m 157 #[.val (.int x0), .val (.int x1), .val (.int x2), .val (.int x3), .val (.int x4), .val (.int x5), .val (.ref a34), .val (.int (0 : Int32)), .val (.int (fMin x1 x2)), .val (.int (fMax x1 x2)), .val (.int (fEnc (fSign (fMin x1 x2) x3) x4)), .val (.int (fEnc (fSign (fMax x1 x2) x3) x5)), .val (.int (0 : Int32)), .val (.int (fAdm0 (fEnc (fSign (fMin x1 x2) x3) x4) (fEnc (fSign (fMax x1 x2) x3) x5)))] [])
          refine go_st (fun _ k => XS.iload X112.here hx rfl (hb hby at_157) rfl k) ?_
          show Go p e below s _ _ _ T112 (mkF m 159 #[.val (.int x0), .val (.int x1), .val (.int x2), .val (.int x3), .val (.int x4), .val (.int x5), .val (.ref a34), .val (.int (0 : Int32)), .val (.int (fMin x1 x2)), .val (.int (fMax x1 x2)), .val (.int (fEnc (fSign (fMin x1 x2) x3) x4)), .val (.int (fEnc (fSign (fMax x1 x2) x3) x5)), .val (.int (0 : Int32)), .val (.int (fAdm0 (fEnc (fSign (fMin x1 x2) x3) x4) (fEnc (fSign (fMax x1 x2) x3) x5)))] [(.int (fAdm0 (fEnc (fSign (fMin x1 x2) x3) x4) (fEnc (fSign (fMax x1 x2) x3) x5)))])
          refine go_st (fun _ k => XS.iload X112.here hx rfl (hb hby at_159) rfl k) ?_
          show Go p e below s _ _ _ T112 (mkF m 161 #[.val (.int x0), .val (.int x1), .val (.int x2), .val (.int x3), .val (.int x4), .val (.int x5), .val (.ref a34), .val (.int (0 : Int32)), .val (.int (fMin x1 x2)), .val (.int (fMax x1 x2)), .val (.int (fEnc (fSign (fMin x1 x2) x3) x4)), .val (.int (fEnc (fSign (fMax x1 x2) x3) x5)), .val (.int (0 : Int32)), .val (.int (fAdm0 (fEnc (fSign (fMin x1 x2) x3) x4) (fEnc (fSign (fMax x1 x2) x3) x5)))] [(.int (0 : Int32)), (.int (fAdm0 (fEnc (fSign (fMin x1 x2) x3) x4) (fEnc (fSign (fMax x1 x2) x3) x5)))])
          by_cases hc133 : (fAdm0 (fEnc (fSign (fMin x1 x2) x3) x4) (fEnc (fSign (fMax x1 x2) x3) x5)) = (0 : Int32)
          · rw [if_pos hc133]
            refine go_st (fun _ k => XS.icmpNo X112.here hx rfl (hb hby at_161) rfl (XT.ii_ne_f hc133) k) ?_
            show Go p e below s _ _ _ T112 (mkF m 164 #[.val (.int x0), .val (.int x1), .val (.int x2), .val (.int x3), .val (.int x4), .val (.int x5), .val (.ref a34), .val (.int (0 : Int32)), .val (.int (fMin x1 x2)), .val (.int (fMax x1 x2)), .val (.int (fEnc (fSign (fMin x1 x2) x3) x4)), .val (.int (fEnc (fSign (fMax x1 x2) x3) x5)), .val (.int (0 : Int32)), .val (.int (fAdm0 (fEnc (fSign (fMin x1 x2) x3) x4) (fEnc (fSign (fMax x1 x2) x3) x5)))] [])
            refine go_st (fun _ k => XT.iconstV X112.here hx rfl (1 : Int32) (hb hby at_164) (by decide) k) ?_
            show Go p e below s _ _ _ T112 (mkF m 165 #[.val (.int x0), .val (.int x1), .val (.int x2), .val (.int x3), .val (.int x4), .val (.int x5), .val (.ref a34), .val (.int (0 : Int32)), .val (.int (fMin x1 x2)), .val (.int (fMax x1 x2)), .val (.int (fEnc (fSign (fMin x1 x2) x3) x4)), .val (.int (fEnc (fSign (fMax x1 x2) x3) x5)), .val (.int (0 : Int32)), .val (.int (fAdm0 (fEnc (fSign (fMin x1 x2) x3) x4) (fEnc (fSign (fMax x1 x2) x3) x5)))] [(.int (1 : Int32))])
            refine go_st (fun _ k => XS.goto X112.here hx rfl (pc0 := 165) (pc' := 169) rfl (hb hby at_165) (by decide) (by decide) k) ?_
            show Go p e below s _ _ _ T112 (mkF m 169 #[.val (.int x0), .val (.int x1), .val (.int x2), .val (.int x3), .val (.int x4), .val (.int x5), .val (.ref a34), .val (.int (0 : Int32)), .val (.int (fMin x1 x2)), .val (.int (fMax x1 x2)), .val (.int (fEnc (fSign (fMin x1 x2) x3) x4)), .val (.int (fEnc (fSign (fMax x1 x2) x3) x5)), .val (.int (0 : Int32)), .val (.int (fAdm0 (fEnc (fSign (fMin x1 x2) x3) x4) (fEnc (fSign (fMax x1 x2) x3) x5)))] [(.int (1 : Int32))])
            exact go_retB (w := (1 : Int32)) X112 hx hlk hret (hb hby at_169) (by decide) (by decide) (by decide) ⟨rfl, N112⟩
          · rw [if_neg hc133]
            refine go_st (fun _ k => XS.icmpYes X112.here hx rfl (pc0 := 161) (pc' := 168) rfl (hb hby at_161) rfl (XT.ii_ne_t hc133) (by decide) (by decide) k) ?_
            show Go p e below s _ _ _ T112 (mkF m 168 #[.val (.int x0), .val (.int x1), .val (.int x2), .val (.int x3), .val (.int x4), .val (.int x5), .val (.ref a34), .val (.int (0 : Int32)), .val (.int (fMin x1 x2)), .val (.int (fMax x1 x2)), .val (.int (fEnc (fSign (fMin x1 x2) x3) x4)), .val (.int (fEnc (fSign (fMax x1 x2) x3) x5)), .val (.int (0 : Int32)), .val (.int (fAdm0 (fEnc (fSign (fMin x1 x2) x3) x4) (fEnc (fSign (fMax x1 x2) x3) x5)))] [])
            refine go_st (fun _ k => XT.iconstV X112.here hx rfl (0 : Int32) (hb hby at_168) (by decide) k) ?_
            show Go p e below s _ _ _ T112 (mkF m 169 #[.val (.int x0), .val (.int x1), .val (.int x2), .val (.int x3), .val (.int x4), .val (.int x5), .val (.ref a34), .val (.int (0 : Int32)), .val (.int (fMin x1 x2)), .val (.int (fMax x1 x2)), .val (.int (fEnc (fSign (fMin x1 x2) x3) x4)), .val (.int (fEnc (fSign (fMax x1 x2) x3) x5)), .val (.int (0 : Int32)), .val (.int (fAdm0 (fEnc (fSign (fMin x1 x2) x3) x4) (fEnc (fSign (fMax x1 x2) x3) x5)))] [(.int (0 : Int32))])
            exact go_retB (w := (0 : Int32)) X112 hx hlk hret (hb hby at_169) (by decide) (by decide) (by decide) ⟨rfl, N112⟩
        · rw [if_neg hk111]
          by_cases hk134 : ((x0 &&& (2147483647 : Int32)) % (6 : Int32)) = (1 : Int32)
          · rw [if_pos hk134]
            rw [hk134]
            show Go p e below s _ _ _ T108 (mkF m 147 #[.val (.int x0), .val (.int x1), .val (.int x2), .val (.int x3), .val (.int x4), .val (.int x5), .val (.ref a34), .val (.int (1 : Int32)), .val (.int (fMin x1 x2)), .val (.int (fMax x1 x2)), .val (.int (fEnc (fSign (fMin x1 x2) x3) x4)), .val (.int (fEnc (fSign (fMax x1 x2) x3) x5)), .val (.int (0 : Int32)), .unset] [(.int (1 : Int32)), (.ref a34)])
            refine go_aald X108 hx hZ e108 A92 rfl (hb hby at_147) rfl rfl (by decide) (.ref o1) rfl ?_
            show Go p e below s _ _ _ T108 (mkF m 148 #[.val (.int x0), .val (.int x1), .val (.int x2), .val (.int x3), .val (.int x4), .val (.int x5), .val (.ref a34), .val (.int (1 : Int32)), .val (.int (fMin x1 x2)), .val (.int (fMax x1 x2)), .val (.int (fEnc (fSign (fMin x1 x2) x3) x4)), .val (.int (fEnc (fSign (fMax x1 x2) x3) x5)), .val (.int (0 : Int32)), .unset] [(.ref o1)])
            refine go_st (fun _ k => XS.iload X108.here hx rfl (hb hby at_148) rfl k) ?_
            show Go p e below s _ _ _ T108 (mkF m 150 #[.val (.int x0), .val (.int x1), .val (.int x2), .val (.int x3), .val (.int x4), .val (.int x5), .val (.ref a34), .val (.int (1 : Int32)), .val (.int (fMin x1 x2)), .val (.int (fMax x1 x2)), .val (.int (fEnc (fSign (fMin x1 x2) x3) x4)), .val (.int (fEnc (fSign (fMax x1 x2) x3) x5)), .val (.int (0 : Int32)), .unset] [(.int (fEnc (fSign (fMin x1 x2) x3) x4)), (.ref o1)])
            refine go_st (fun _ k => XS.iload X108.here hx rfl (hb hby at_150) rfl k) ?_
            show Go p e below s _ _ _ T108 (mkF m 152 #[.val (.int x0), .val (.int x1), .val (.int x2), .val (.int x3), .val (.int x4), .val (.int x5), .val (.ref a34), .val (.int (1 : Int32)), .val (.int (fMin x1 x2)), .val (.int (fMax x1 x2)), .val (.int (fEnc (fSign (fMin x1 x2) x3) x4)), .val (.int (fEnc (fSign (fMax x1 x2) x3) x5)), .val (.int (0 : Int32)), .unset] [(.int (fEnc (fSign (fMax x1 x2) x3) x5)), (.int (fEnc (fSign (fMin x1 x2) x3) x4)), (.ref o1)])
            have c136 := Exa.wr W48 c51
            have c137 := Exa.wr W56 c136
            have c138 := Exa.wr W66 c137
            have c139 := Exa.wr W78 c138
            have c140 := Exa.wr W92 c139
            have c141 := Fld.ext E34 F1
            have c142 := Fld.other W43 c141 (Or.inl ne36)
            have c143 := Fld.other W48 c142 (Or.inl ne36)
            have c144 := Fld.other W56 c143 (Or.inl ne36)
            have c145 := Fld.other W66 c144 (Or.inl ne36)
            have c146 := Fld.other W78 c145 (Or.inl ne36)
            have c147 := Fld.other W92 c146 (Or.inl ne36)
            have z148 : n0 ≤ h34.size := Nat.le_trans Z0 E34.1
            have z149 : n0 ≤ h43.size := (Wr.size W43).symm ▸ z148
            have z150 : n0 ≤ h48.size := (Wr.size W48).symm ▸ z149
            have z151 : n0 ≤ h56.size := (Wr.size W56).symm ▸ z150
            have z152 : n0 ≤ h66.size := (Wr.size W66).symm ▸ z151
            have z153 : n0 ≤ h78.size := (Wr.size W78).symm ▸ z152
            have z154 : n0 ≤ h92.size := (Wr.size W92).symm ▸ z153
            refine go_callV X108 hx hZ hml hown (hw _ (List.mem_of_getElem? (i := 34) rfl)) (hw _ (List.mem_of_getElem? (i := 35) rfl)) (notFace_of_selects (args := #[]) (mvT hZ (hw _ (List.mem_of_getElem? (i := 37) rfl)))) (hw _ (List.mem_of_getElem? (i := 37) rfl)) (hw _ (List.mem_of_getElem? (i := 36) rfl)) (hw _ (List.mem_of_getElem? (i := 38) rfl)) (hw _ (List.mem_of_getElem? (i := 3) rfl)) e108 c140 (argsL := [(.int (fEnc (fSign (fMin x1 x2) x3) x4)), (.int (fEnc (fSign (fMax x1 x2) x3) x5))]) (rest := []) (W := 0) (met_adm1 l Z a0 hw o1 (fEnc (fSign (fMin x1 x2) x3) x4) (fEnc (fSign (fMax x1 x2) x3) x5) h92 n0 z154 c140 c147) (hb hby at_152) rfl rfl rfl (lenOf pd3 rfl) (by show 2 * 0 + _ ≤ _; exact Nat.le_of_eq rfl) (by decide) (by decide) (by decide) (by decide) (by decide) ?_
            intro T135 v135 L135 X135 q135
            obtain ⟨rfl, M135, e135⟩ := q135
            have N135 := Fr.app N108 M135
            show Go p e below s _ _ _ T135 (mkF m 155 #[.val (.int x0), .val (.int x1), .val (.int x2), .val (.int x3), .val (.int x4), .val (.int x5), .val (.ref a34), .val (.int (1 : Int32)), .val (.int (fMin x1 x2)), .val (.int (fMax x1 x2)), .val (.int (fEnc (fSign (fMin x1 x2) x3) x4)), .val (.int (fEnc (fSign (fMax x1 x2) x3) x5)), .val (.int (0 : Int32)), .unset] [(.int (fAdm1 (fEnc (fSign (fMin x1 x2) x3) x4) (fEnc (fSign (fMax x1 x2) x3) x5)))])
            refine go_st (fun _ k => XS.istore X135.here hx rfl (hb hby at_155) rfl (l' := #[.val (.int x0), .val (.int x1), .val (.int x2), .val (.int x3), .val (.int x4), .val (.int x5), .val (.ref a34), .val (.int (1 : Int32)), .val (.int (fMin x1 x2)), .val (.int (fMax x1 x2)), .val (.int (fEnc (fSign (fMin x1 x2) x3) x4)), .val (.int (fEnc (fSign (fMax x1 x2) x3) x5)), .val (.int (0 : Int32)), .val (.int (fAdm1 (fEnc (fSign (fMin x1 x2) x3) x4) (fEnc (fSign (fMax x1 x2) x3) x5)))]) rfl k) ?_
            show Go p e below s _ _ _ T135 (mkF m 157 #[.val (.int x0), .val (.int x1), .val (.int x2), .val (.int x3), .val (.int x4), .val (.int x5), .val (.ref a34), .val (.int (1 : Int32)), .val (.int (fMin x1 x2)), .val (.int (fMax x1 x2)), .val (.int (fEnc (fSign (fMin x1 x2) x3) x4)), .val (.int (fEnc (fSign (fMax x1 x2) x3) x5)), .val (.int (0 : Int32)), .val (.int (fAdm1 (fEnc (fSign (fMin x1 x2) x3) x4) (fEnc (fSign (fMax x1 x2) x3) x5)))] [])
            refine go_st (fun _ k => XS.iload X135.here hx rfl (hb hby at_157) rfl k) ?_
            show Go p e below s _ _ _ T135 (mkF m 159 #[.val (.int x0), .val (.int x1), .val (.int x2), .val (.int x3), .val (.int x4), .val (.int x5), .val (.ref a34), .val (.int (1 : Int32)), .val (.int (fMin x1 x2)), .val (.int (fMax x1 x2)), .val (.int (fEnc (fSign (fMin x1 x2) x3) x4)), .val (.int (fEnc (fSign (fMax x1 x2) x3) x5)), .val (.int (0 : Int32)), .val (.int (fAdm1 (fEnc (fSign (fMin x1 x2) x3) x4) (fEnc (fSign (fMax x1 x2) x3) x5)))] [(.int (fAdm1 (fEnc (fSign (fMin x1 x2) x3) x4) (fEnc (fSign (fMax x1 x2) x3) x5)))])
            refine go_st (fun _ k => XS.iload X135.here hx rfl (hb hby at_159) rfl k) ?_
            show Go p e below s _ _ _ T135 (mkF m 161 #[.val (.int x0), .val (.int x1), .val (.int x2), .val (.int x3), .val (.int x4), .val (.int x5), .val (.ref a34), .val (.int (1 : Int32)), .val (.int (fMin x1 x2)), .val (.int (fMax x1 x2)), .val (.int (fEnc (fSign (fMin x1 x2) x3) x4)), .val (.int (fEnc (fSign (fMax x1 x2) x3) x5)), .val (.int (0 : Int32)), .val (.int (fAdm1 (fEnc (fSign (fMin x1 x2) x3) x4) (fEnc (fSign (fMax x1 x2) x3) x5)))] [(.int (0 : Int32)), (.int (fAdm1 (fEnc (fSign (fMin x1 x2) x3) x4) (fEnc (fSign (fMax x1 x2) x3) x5)))])
            by_cases hc155 : (fAdm1 (fEnc (fSign (fMin x1 x2) x3) x4) (fEnc (fSign (fMax x1 x2) x3) x5)) = (0 : Int32)
            · rw [if_pos hc155]
              refine go_st (fun _ k => XS.icmpNo X135.here hx rfl (hb hby at_161) rfl (XT.ii_ne_f hc155) k) ?_
              show Go p e below s _ _ _ T135 (mkF m 164 #[.val (.int x0), .val (.int x1), .val (.int x2), .val (.int x3), .val (.int x4), .val (.int x5), .val (.ref a34), .val (.int (1 : Int32)), .val (.int (fMin x1 x2)), .val (.int (fMax x1 x2)), .val (.int (fEnc (fSign (fMin x1 x2) x3) x4)), .val (.int (fEnc (fSign (fMax x1 x2) x3) x5)), .val (.int (0 : Int32)), .val (.int (fAdm1 (fEnc (fSign (fMin x1 x2) x3) x4) (fEnc (fSign (fMax x1 x2) x3) x5)))] [])
              refine go_st (fun _ k => XT.iconstV X135.here hx rfl (1 : Int32) (hb hby at_164) (by decide) k) ?_
              show Go p e below s _ _ _ T135 (mkF m 165 #[.val (.int x0), .val (.int x1), .val (.int x2), .val (.int x3), .val (.int x4), .val (.int x5), .val (.ref a34), .val (.int (1 : Int32)), .val (.int (fMin x1 x2)), .val (.int (fMax x1 x2)), .val (.int (fEnc (fSign (fMin x1 x2) x3) x4)), .val (.int (fEnc (fSign (fMax x1 x2) x3) x5)), .val (.int (0 : Int32)), .val (.int (fAdm1 (fEnc (fSign (fMin x1 x2) x3) x4) (fEnc (fSign (fMax x1 x2) x3) x5)))] [(.int (1 : Int32))])
              refine go_st (fun _ k => XS.goto X135.here hx rfl (pc0 := 165) (pc' := 169) rfl (hb hby at_165) (by decide) (by decide) k) ?_
              show Go p e below s _ _ _ T135 (mkF m 169 #[.val (.int x0), .val (.int x1), .val (.int x2), .val (.int x3), .val (.int x4), .val (.int x5), .val (.ref a34), .val (.int (1 : Int32)), .val (.int (fMin x1 x2)), .val (.int (fMax x1 x2)), .val (.int (fEnc (fSign (fMin x1 x2) x3) x4)), .val (.int (fEnc (fSign (fMax x1 x2) x3) x5)), .val (.int (0 : Int32)), .val (.int (fAdm1 (fEnc (fSign (fMin x1 x2) x3) x4) (fEnc (fSign (fMax x1 x2) x3) x5)))] [(.int (1 : Int32))])
              exact go_retB (w := (1 : Int32)) X135 hx hlk hret (hb hby at_169) (by decide) (by decide) (by decide) ⟨rfl, N135⟩
            · rw [if_neg hc155]
              refine go_st (fun _ k => XS.icmpYes X135.here hx rfl (pc0 := 161) (pc' := 168) rfl (hb hby at_161) rfl (XT.ii_ne_t hc155) (by decide) (by decide) k) ?_
              show Go p e below s _ _ _ T135 (mkF m 168 #[.val (.int x0), .val (.int x1), .val (.int x2), .val (.int x3), .val (.int x4), .val (.int x5), .val (.ref a34), .val (.int (1 : Int32)), .val (.int (fMin x1 x2)), .val (.int (fMax x1 x2)), .val (.int (fEnc (fSign (fMin x1 x2) x3) x4)), .val (.int (fEnc (fSign (fMax x1 x2) x3) x5)), .val (.int (0 : Int32)), .val (.int (fAdm1 (fEnc (fSign (fMin x1 x2) x3) x4) (fEnc (fSign (fMax x1 x2) x3) x5)))] [])
              refine go_st (fun _ k => XT.iconstV X135.here hx rfl (0 : Int32) (hb hby at_168) (by decide) k) ?_
              show Go p e below s _ _ _ T135 (mkF m 169 #[.val (.int x0), .val (.int x1), .val (.int x2), .val (.int x3), .val (.int x4), .val (.int x5), .val (.ref a34), .val (.int (1 : Int32)), .val (.int (fMin x1 x2)), .val (.int (fMax x1 x2)), .val (.int (fEnc (fSign (fMin x1 x2) x3) x4)), .val (.int (fEnc (fSign (fMax x1 x2) x3) x5)), .val (.int (0 : Int32)), .val (.int (fAdm1 (fEnc (fSign (fMin x1 x2) x3) x4) (fEnc (fSign (fMax x1 x2) x3) x5)))] [(.int (0 : Int32))])
              exact go_retB (w := (0 : Int32)) X135 hx hlk hret (hb hby at_169) (by decide) (by decide) (by decide) ⟨rfl, N135⟩
          · rw [if_neg hk134]
            by_cases hk156 : ((x0 &&& (2147483647 : Int32)) % (6 : Int32)) = (2 : Int32)
            · rw [if_pos hk156]
              rw [hk156]
              show Go p e below s _ _ _ T108 (mkF m 147 #[.val (.int x0), .val (.int x1), .val (.int x2), .val (.int x3), .val (.int x4), .val (.int x5), .val (.ref a34), .val (.int (2 : Int32)), .val (.int (fMin x1 x2)), .val (.int (fMax x1 x2)), .val (.int (fEnc (fSign (fMin x1 x2) x3) x4)), .val (.int (fEnc (fSign (fMax x1 x2) x3) x5)), .val (.int (0 : Int32)), .unset] [(.int (2 : Int32)), (.ref a34)])
              refine go_aald X108 hx hZ e108 A92 rfl (hb hby at_147) rfl rfl (by decide) (.ref o2) rfl ?_
              show Go p e below s _ _ _ T108 (mkF m 148 #[.val (.int x0), .val (.int x1), .val (.int x2), .val (.int x3), .val (.int x4), .val (.int x5), .val (.ref a34), .val (.int (2 : Int32)), .val (.int (fMin x1 x2)), .val (.int (fMax x1 x2)), .val (.int (fEnc (fSign (fMin x1 x2) x3) x4)), .val (.int (fEnc (fSign (fMax x1 x2) x3) x5)), .val (.int (0 : Int32)), .unset] [(.ref o2)])
              refine go_st (fun _ k => XS.iload X108.here hx rfl (hb hby at_148) rfl k) ?_
              show Go p e below s _ _ _ T108 (mkF m 150 #[.val (.int x0), .val (.int x1), .val (.int x2), .val (.int x3), .val (.int x4), .val (.int x5), .val (.ref a34), .val (.int (2 : Int32)), .val (.int (fMin x1 x2)), .val (.int (fMax x1 x2)), .val (.int (fEnc (fSign (fMin x1 x2) x3) x4)), .val (.int (fEnc (fSign (fMax x1 x2) x3) x5)), .val (.int (0 : Int32)), .unset] [(.int (fEnc (fSign (fMin x1 x2) x3) x4)), (.ref o2)])
              refine go_st (fun _ k => XS.iload X108.here hx rfl (hb hby at_150) rfl k) ?_
              show Go p e below s _ _ _ T108 (mkF m 152 #[.val (.int x0), .val (.int x1), .val (.int x2), .val (.int x3), .val (.int x4), .val (.int x5), .val (.ref a34), .val (.int (2 : Int32)), .val (.int (fMin x1 x2)), .val (.int (fMax x1 x2)), .val (.int (fEnc (fSign (fMin x1 x2) x3) x4)), .val (.int (fEnc (fSign (fMax x1 x2) x3) x5)), .val (.int (0 : Int32)), .unset] [(.int (fEnc (fSign (fMax x1 x2) x3) x5)), (.int (fEnc (fSign (fMin x1 x2) x3) x4)), (.ref o2)])
              have c158 := Exa.wr W56 c60
              have c159 := Exa.wr W66 c158
              have c160 := Exa.wr W78 c159
              have c161 := Exa.wr W92 c160
              have c162 := Fld.ext E34 F2
              have c163 := Fld.other W43 c162 (Or.inl ne37)
              have c164 := Fld.other W48 c163 (Or.inl ne37)
              have c165 := Fld.other W56 c164 (Or.inl ne37)
              have c166 := Fld.other W66 c165 (Or.inl ne37)
              have c167 := Fld.other W78 c166 (Or.inl ne37)
              have c168 := Fld.other W92 c167 (Or.inl ne37)
              have z169 : n0 ≤ h34.size := Nat.le_trans Z0 E34.1
              have z170 : n0 ≤ h43.size := (Wr.size W43).symm ▸ z169
              have z171 : n0 ≤ h48.size := (Wr.size W48).symm ▸ z170
              have z172 : n0 ≤ h56.size := (Wr.size W56).symm ▸ z171
              have z173 : n0 ≤ h66.size := (Wr.size W66).symm ▸ z172
              have z174 : n0 ≤ h78.size := (Wr.size W78).symm ▸ z173
              have z175 : n0 ≤ h92.size := (Wr.size W92).symm ▸ z174
              refine go_callV X108 hx hZ hml hown (hw _ (List.mem_of_getElem? (i := 34) rfl)) (hw _ (List.mem_of_getElem? (i := 35) rfl)) (notFace_of_selects (args := #[]) (mvT hZ (hw _ (List.mem_of_getElem? (i := 37) rfl)))) (hw _ (List.mem_of_getElem? (i := 37) rfl)) (hw _ (List.mem_of_getElem? (i := 36) rfl)) (hw _ (List.mem_of_getElem? (i := 38) rfl)) (hw _ (List.mem_of_getElem? (i := 3) rfl)) e108 c161 (argsL := [(.int (fEnc (fSign (fMin x1 x2) x3) x4)), (.int (fEnc (fSign (fMax x1 x2) x3) x5))]) (rest := []) (W := 0) (met_adm2 l Z a0 hw o2 (fEnc (fSign (fMin x1 x2) x3) x4) (fEnc (fSign (fMax x1 x2) x3) x5) h92 n0 z175 c161 c168) (hb hby at_152) rfl rfl rfl (lenOf pd3 rfl) (by show 2 * 0 + _ ≤ _; exact Nat.le_of_eq rfl) (by decide) (by decide) (by decide) (by decide) (by decide) ?_
              intro T157 v157 L157 X157 q157
              obtain ⟨rfl, M157, e157⟩ := q157
              have N157 := Fr.app N108 M157
              show Go p e below s _ _ _ T157 (mkF m 155 #[.val (.int x0), .val (.int x1), .val (.int x2), .val (.int x3), .val (.int x4), .val (.int x5), .val (.ref a34), .val (.int (2 : Int32)), .val (.int (fMin x1 x2)), .val (.int (fMax x1 x2)), .val (.int (fEnc (fSign (fMin x1 x2) x3) x4)), .val (.int (fEnc (fSign (fMax x1 x2) x3) x5)), .val (.int (0 : Int32)), .unset] [(.int (fAdm2 (fEnc (fSign (fMin x1 x2) x3) x4) (fEnc (fSign (fMax x1 x2) x3) x5)))])
              refine go_st (fun _ k => XS.istore X157.here hx rfl (hb hby at_155) rfl (l' := #[.val (.int x0), .val (.int x1), .val (.int x2), .val (.int x3), .val (.int x4), .val (.int x5), .val (.ref a34), .val (.int (2 : Int32)), .val (.int (fMin x1 x2)), .val (.int (fMax x1 x2)), .val (.int (fEnc (fSign (fMin x1 x2) x3) x4)), .val (.int (fEnc (fSign (fMax x1 x2) x3) x5)), .val (.int (0 : Int32)), .val (.int (fAdm2 (fEnc (fSign (fMin x1 x2) x3) x4) (fEnc (fSign (fMax x1 x2) x3) x5)))]) rfl k) ?_
              show Go p e below s _ _ _ T157 (mkF m 157 #[.val (.int x0), .val (.int x1), .val (.int x2), .val (.int x3), .val (.int x4), .val (.int x5), .val (.ref a34), .val (.int (2 : Int32)), .val (.int (fMin x1 x2)), .val (.int (fMax x1 x2)), .val (.int (fEnc (fSign (fMin x1 x2) x3) x4)), .val (.int (fEnc (fSign (fMax x1 x2) x3) x5)), .val (.int (0 : Int32)), .val (.int (fAdm2 (fEnc (fSign (fMin x1 x2) x3) x4) (fEnc (fSign (fMax x1 x2) x3) x5)))] [])
              refine go_st (fun _ k => XS.iload X157.here hx rfl (hb hby at_157) rfl k) ?_
              show Go p e below s _ _ _ T157 (mkF m 159 #[.val (.int x0), .val (.int x1), .val (.int x2), .val (.int x3), .val (.int x4), .val (.int x5), .val (.ref a34), .val (.int (2 : Int32)), .val (.int (fMin x1 x2)), .val (.int (fMax x1 x2)), .val (.int (fEnc (fSign (fMin x1 x2) x3) x4)), .val (.int (fEnc (fSign (fMax x1 x2) x3) x5)), .val (.int (0 : Int32)), .val (.int (fAdm2 (fEnc (fSign (fMin x1 x2) x3) x4) (fEnc (fSign (fMax x1 x2) x3) x5)))] [(.int (fAdm2 (fEnc (fSign (fMin x1 x2) x3) x4) (fEnc (fSign (fMax x1 x2) x3) x5)))])
              refine go_st (fun _ k => XS.iload X157.here hx rfl (hb hby at_159) rfl k) ?_
              show Go p e below s _ _ _ T157 (mkF m 161 #[.val (.int x0), .val (.int x1), .val (.int x2), .val (.int x3), .val (.int x4), .val (.int x5), .val (.ref a34), .val (.int (2 : Int32)), .val (.int (fMin x1 x2)), .val (.int (fMax x1 x2)), .val (.int (fEnc (fSign (fMin x1 x2) x3) x4)), .val (.int (fEnc (fSign (fMax x1 x2) x3) x5)), .val (.int (0 : Int32)), .val (.int (fAdm2 (fEnc (fSign (fMin x1 x2) x3) x4) (fEnc (fSign (fMax x1 x2) x3) x5)))] [(.int (0 : Int32)), (.int (fAdm2 (fEnc (fSign (fMin x1 x2) x3) x4) (fEnc (fSign (fMax x1 x2) x3) x5)))])
              by_cases hc176 : (fAdm2 (fEnc (fSign (fMin x1 x2) x3) x4) (fEnc (fSign (fMax x1 x2) x3) x5)) = (0 : Int32)
              · rw [if_pos hc176]
                refine go_st (fun _ k => XS.icmpNo X157.here hx rfl (hb hby at_161) rfl (XT.ii_ne_f hc176) k) ?_
                show Go p e below s _ _ _ T157 (mkF m 164 #[.val (.int x0), .val (.int x1), .val (.int x2), .val (.int x3), .val (.int x4), .val (.int x5), .val (.ref a34), .val (.int (2 : Int32)), .val (.int (fMin x1 x2)), .val (.int (fMax x1 x2)), .val (.int (fEnc (fSign (fMin x1 x2) x3) x4)), .val (.int (fEnc (fSign (fMax x1 x2) x3) x5)), .val (.int (0 : Int32)), .val (.int (fAdm2 (fEnc (fSign (fMin x1 x2) x3) x4) (fEnc (fSign (fMax x1 x2) x3) x5)))] [])
                refine go_st (fun _ k => XT.iconstV X157.here hx rfl (1 : Int32) (hb hby at_164) (by decide) k) ?_
                show Go p e below s _ _ _ T157 (mkF m 165 #[.val (.int x0), .val (.int x1), .val (.int x2), .val (.int x3), .val (.int x4), .val (.int x5), .val (.ref a34), .val (.int (2 : Int32)), .val (.int (fMin x1 x2)), .val (.int (fMax x1 x2)), .val (.int (fEnc (fSign (fMin x1 x2) x3) x4)), .val (.int (fEnc (fSign (fMax x1 x2) x3) x5)), .val (.int (0 : Int32)), .val (.int (fAdm2 (fEnc (fSign (fMin x1 x2) x3) x4) (fEnc (fSign (fMax x1 x2) x3) x5)))] [(.int (1 : Int32))])
                refine go_st (fun _ k => XS.goto X157.here hx rfl (pc0 := 165) (pc' := 169) rfl (hb hby at_165) (by decide) (by decide) k) ?_
                show Go p e below s _ _ _ T157 (mkF m 169 #[.val (.int x0), .val (.int x1), .val (.int x2), .val (.int x3), .val (.int x4), .val (.int x5), .val (.ref a34), .val (.int (2 : Int32)), .val (.int (fMin x1 x2)), .val (.int (fMax x1 x2)), .val (.int (fEnc (fSign (fMin x1 x2) x3) x4)), .val (.int (fEnc (fSign (fMax x1 x2) x3) x5)), .val (.int (0 : Int32)), .val (.int (fAdm2 (fEnc (fSign (fMin x1 x2) x3) x4) (fEnc (fSign (fMax x1 x2) x3) x5)))] [(.int (1 : Int32))])
                exact go_retB (w := (1 : Int32)) X157 hx hlk hret (hb hby at_169) (by decide) (by decide) (by decide) ⟨rfl, N157⟩
              · rw [if_neg hc176]
                refine go_st (fun _ k => XS.icmpYes X157.here hx rfl (pc0 := 161) (pc' := 168) rfl (hb hby at_161) rfl (XT.ii_ne_t hc176) (by decide) (by decide) k) ?_
                show Go p e below s _ _ _ T157 (mkF m 168 #[.val (.int x0), .val (.int x1), .val (.int x2), .val (.int x3), .val (.int x4), .val (.int x5), .val (.ref a34), .val (.int (2 : Int32)), .val (.int (fMin x1 x2)), .val (.int (fMax x1 x2)), .val (.int (fEnc (fSign (fMin x1 x2) x3) x4)), .val (.int (fEnc (fSign (fMax x1 x2) x3) x5)), .val (.int (0 : Int32)), .val (.int (fAdm2 (fEnc (fSign (fMin x1 x2) x3) x4) (fEnc (fSign (fMax x1 x2) x3) x5)))] [])
                refine go_st (fun _ k => XT.iconstV X157.here hx rfl (0 : Int32) (hb hby at_168) (by decide) k) ?_
                show Go p e below s _ _ _ T157 (mkF m 169 #[.val (.int x0), .val (.int x1), .val (.int x2), .val (.int x3), .val (.int x4), .val (.int x5), .val (.ref a34), .val (.int (2 : Int32)), .val (.int (fMin x1 x2)), .val (.int (fMax x1 x2)), .val (.int (fEnc (fSign (fMin x1 x2) x3) x4)), .val (.int (fEnc (fSign (fMax x1 x2) x3) x5)), .val (.int (0 : Int32)), .val (.int (fAdm2 (fEnc (fSign (fMin x1 x2) x3) x4) (fEnc (fSign (fMax x1 x2) x3) x5)))] [(.int (0 : Int32))])
                exact go_retB (w := (0 : Int32)) X157 hx hlk hret (hb hby at_169) (by decide) (by decide) (by decide) ⟨rfl, N157⟩
            · rw [if_neg hk156]
              by_cases hk177 : ((x0 &&& (2147483647 : Int32)) % (6 : Int32)) = (3 : Int32)
              · rw [if_pos hk177]
                rw [hk177]
                show Go p e below s _ _ _ T108 (mkF m 147 #[.val (.int x0), .val (.int x1), .val (.int x2), .val (.int x3), .val (.int x4), .val (.int x5), .val (.ref a34), .val (.int (3 : Int32)), .val (.int (fMin x1 x2)), .val (.int (fMax x1 x2)), .val (.int (fEnc (fSign (fMin x1 x2) x3) x4)), .val (.int (fEnc (fSign (fMax x1 x2) x3) x5)), .val (.int (0 : Int32)), .unset] [(.int (3 : Int32)), (.ref a34)])
                refine go_aald X108 hx hZ e108 A92 rfl (hb hby at_147) rfl rfl (by decide) (.ref o3) rfl ?_
                show Go p e below s _ _ _ T108 (mkF m 148 #[.val (.int x0), .val (.int x1), .val (.int x2), .val (.int x3), .val (.int x4), .val (.int x5), .val (.ref a34), .val (.int (3 : Int32)), .val (.int (fMin x1 x2)), .val (.int (fMax x1 x2)), .val (.int (fEnc (fSign (fMin x1 x2) x3) x4)), .val (.int (fEnc (fSign (fMax x1 x2) x3) x5)), .val (.int (0 : Int32)), .unset] [(.ref o3)])
                refine go_st (fun _ k => XS.iload X108.here hx rfl (hb hby at_148) rfl k) ?_
                show Go p e below s _ _ _ T108 (mkF m 150 #[.val (.int x0), .val (.int x1), .val (.int x2), .val (.int x3), .val (.int x4), .val (.int x5), .val (.ref a34), .val (.int (3 : Int32)), .val (.int (fMin x1 x2)), .val (.int (fMax x1 x2)), .val (.int (fEnc (fSign (fMin x1 x2) x3) x4)), .val (.int (fEnc (fSign (fMax x1 x2) x3) x5)), .val (.int (0 : Int32)), .unset] [(.int (fEnc (fSign (fMin x1 x2) x3) x4)), (.ref o3)])
                refine go_st (fun _ k => XS.iload X108.here hx rfl (hb hby at_150) rfl k) ?_
                show Go p e below s _ _ _ T108 (mkF m 152 #[.val (.int x0), .val (.int x1), .val (.int x2), .val (.int x3), .val (.int x4), .val (.int x5), .val (.ref a34), .val (.int (3 : Int32)), .val (.int (fMin x1 x2)), .val (.int (fMax x1 x2)), .val (.int (fEnc (fSign (fMin x1 x2) x3) x4)), .val (.int (fEnc (fSign (fMax x1 x2) x3) x5)), .val (.int (0 : Int32)), .unset] [(.int (fEnc (fSign (fMax x1 x2) x3) x5)), (.int (fEnc (fSign (fMin x1 x2) x3) x4)), (.ref o3)])
                have c179 := Exa.wr W66 c71
                have c180 := Exa.wr W78 c179
                have c181 := Exa.wr W92 c180
                have c182 := Fld.ext E34 F3
                have c183 := Fld.other W43 c182 (Or.inl ne38)
                have c184 := Fld.other W48 c183 (Or.inl ne38)
                have c185 := Fld.other W56 c184 (Or.inl ne38)
                have c186 := Fld.other W66 c185 (Or.inl ne38)
                have c187 := Fld.other W78 c186 (Or.inl ne38)
                have c188 := Fld.other W92 c187 (Or.inl ne38)
                have z189 : n0 ≤ h34.size := Nat.le_trans Z0 E34.1
                have z190 : n0 ≤ h43.size := (Wr.size W43).symm ▸ z189
                have z191 : n0 ≤ h48.size := (Wr.size W48).symm ▸ z190
                have z192 : n0 ≤ h56.size := (Wr.size W56).symm ▸ z191
                have z193 : n0 ≤ h66.size := (Wr.size W66).symm ▸ z192
                have z194 : n0 ≤ h78.size := (Wr.size W78).symm ▸ z193
                have z195 : n0 ≤ h92.size := (Wr.size W92).symm ▸ z194
                refine go_callV X108 hx hZ hml hown (hw _ (List.mem_of_getElem? (i := 34) rfl)) (hw _ (List.mem_of_getElem? (i := 35) rfl)) (notFace_of_selects (args := #[]) (mvT hZ (hw _ (List.mem_of_getElem? (i := 37) rfl)))) (hw _ (List.mem_of_getElem? (i := 37) rfl)) (hw _ (List.mem_of_getElem? (i := 36) rfl)) (hw _ (List.mem_of_getElem? (i := 38) rfl)) (hw _ (List.mem_of_getElem? (i := 3) rfl)) e108 c181 (argsL := [(.int (fEnc (fSign (fMin x1 x2) x3) x4)), (.int (fEnc (fSign (fMax x1 x2) x3) x5))]) (rest := []) (W := 0) (met_adm3 l Z a0 hw o3 (fEnc (fSign (fMin x1 x2) x3) x4) (fEnc (fSign (fMax x1 x2) x3) x5) h92 n0 z195 c181 c188) (hb hby at_152) rfl rfl rfl (lenOf pd3 rfl) (by show 2 * 0 + _ ≤ _; exact Nat.le_of_eq rfl) (by decide) (by decide) (by decide) (by decide) (by decide) ?_
                intro T178 v178 L178 X178 q178
                obtain ⟨rfl, M178, e178⟩ := q178
                have N178 := Fr.app N108 M178
                show Go p e below s _ _ _ T178 (mkF m 155 #[.val (.int x0), .val (.int x1), .val (.int x2), .val (.int x3), .val (.int x4), .val (.int x5), .val (.ref a34), .val (.int (3 : Int32)), .val (.int (fMin x1 x2)), .val (.int (fMax x1 x2)), .val (.int (fEnc (fSign (fMin x1 x2) x3) x4)), .val (.int (fEnc (fSign (fMax x1 x2) x3) x5)), .val (.int (0 : Int32)), .unset] [(.int (fAdm3 (fEnc (fSign (fMin x1 x2) x3) x4) (fEnc (fSign (fMax x1 x2) x3) x5)))])
                refine go_st (fun _ k => XS.istore X178.here hx rfl (hb hby at_155) rfl (l' := #[.val (.int x0), .val (.int x1), .val (.int x2), .val (.int x3), .val (.int x4), .val (.int x5), .val (.ref a34), .val (.int (3 : Int32)), .val (.int (fMin x1 x2)), .val (.int (fMax x1 x2)), .val (.int (fEnc (fSign (fMin x1 x2) x3) x4)), .val (.int (fEnc (fSign (fMax x1 x2) x3) x5)), .val (.int (0 : Int32)), .val (.int (fAdm3 (fEnc (fSign (fMin x1 x2) x3) x4) (fEnc (fSign (fMax x1 x2) x3) x5)))]) rfl k) ?_
                show Go p e below s _ _ _ T178 (mkF m 157 #[.val (.int x0), .val (.int x1), .val (.int x2), .val (.int x3), .val (.int x4), .val (.int x5), .val (.ref a34), .val (.int (3 : Int32)), .val (.int (fMin x1 x2)), .val (.int (fMax x1 x2)), .val (.int (fEnc (fSign (fMin x1 x2) x3) x4)), .val (.int (fEnc (fSign (fMax x1 x2) x3) x5)), .val (.int (0 : Int32)), .val (.int (fAdm3 (fEnc (fSign (fMin x1 x2) x3) x4) (fEnc (fSign (fMax x1 x2) x3) x5)))] [])
                refine go_st (fun _ k => XS.iload X178.here hx rfl (hb hby at_157) rfl k) ?_
                show Go p e below s _ _ _ T178 (mkF m 159 #[.val (.int x0), .val (.int x1), .val (.int x2), .val (.int x3), .val (.int x4), .val (.int x5), .val (.ref a34), .val (.int (3 : Int32)), .val (.int (fMin x1 x2)), .val (.int (fMax x1 x2)), .val (.int (fEnc (fSign (fMin x1 x2) x3) x4)), .val (.int (fEnc (fSign (fMax x1 x2) x3) x5)), .val (.int (0 : Int32)), .val (.int (fAdm3 (fEnc (fSign (fMin x1 x2) x3) x4) (fEnc (fSign (fMax x1 x2) x3) x5)))] [(.int (fAdm3 (fEnc (fSign (fMin x1 x2) x3) x4) (fEnc (fSign (fMax x1 x2) x3) x5)))])
                refine go_st (fun _ k => XS.iload X178.here hx rfl (hb hby at_159) rfl k) ?_
                show Go p e below s _ _ _ T178 (mkF m 161 #[.val (.int x0), .val (.int x1), .val (.int x2), .val (.int x3), .val (.int x4), .val (.int x5), .val (.ref a34), .val (.int (3 : Int32)), .val (.int (fMin x1 x2)), .val (.int (fMax x1 x2)), .val (.int (fEnc (fSign (fMin x1 x2) x3) x4)), .val (.int (fEnc (fSign (fMax x1 x2) x3) x5)), .val (.int (0 : Int32)), .val (.int (fAdm3 (fEnc (fSign (fMin x1 x2) x3) x4) (fEnc (fSign (fMax x1 x2) x3) x5)))] [(.int (0 : Int32)), (.int (fAdm3 (fEnc (fSign (fMin x1 x2) x3) x4) (fEnc (fSign (fMax x1 x2) x3) x5)))])
                by_cases hc196 : (fAdm3 (fEnc (fSign (fMin x1 x2) x3) x4) (fEnc (fSign (fMax x1 x2) x3) x5)) = (0 : Int32)
                · rw [if_pos hc196]
                  refine go_st (fun _ k => XS.icmpNo X178.here hx rfl (hb hby at_161) rfl (XT.ii_ne_f hc196) k) ?_
                  show Go p e below s _ _ _ T178 (mkF m 164 #[.val (.int x0), .val (.int x1), .val (.int x2), .val (.int x3), .val (.int x4), .val (.int x5), .val (.ref a34), .val (.int (3 : Int32)), .val (.int (fMin x1 x2)), .val (.int (fMax x1 x2)), .val (.int (fEnc (fSign (fMin x1 x2) x3) x4)), .val (.int (fEnc (fSign (fMax x1 x2) x3) x5)), .val (.int (0 : Int32)), .val (.int (fAdm3 (fEnc (fSign (fMin x1 x2) x3) x4) (fEnc (fSign (fMax x1 x2) x3) x5)))] [])
                  refine go_st (fun _ k => XT.iconstV X178.here hx rfl (1 : Int32) (hb hby at_164) (by decide) k) ?_
                  show Go p e below s _ _ _ T178 (mkF m 165 #[.val (.int x0), .val (.int x1), .val (.int x2), .val (.int x3), .val (.int x4), .val (.int x5), .val (.ref a34), .val (.int (3 : Int32)), .val (.int (fMin x1 x2)), .val (.int (fMax x1 x2)), .val (.int (fEnc (fSign (fMin x1 x2) x3) x4)), .val (.int (fEnc (fSign (fMax x1 x2) x3) x5)), .val (.int (0 : Int32)), .val (.int (fAdm3 (fEnc (fSign (fMin x1 x2) x3) x4) (fEnc (fSign (fMax x1 x2) x3) x5)))] [(.int (1 : Int32))])
                  refine go_st (fun _ k => XS.goto X178.here hx rfl (pc0 := 165) (pc' := 169) rfl (hb hby at_165) (by decide) (by decide) k) ?_
                  show Go p e below s _ _ _ T178 (mkF m 169 #[.val (.int x0), .val (.int x1), .val (.int x2), .val (.int x3), .val (.int x4), .val (.int x5), .val (.ref a34), .val (.int (3 : Int32)), .val (.int (fMin x1 x2)), .val (.int (fMax x1 x2)), .val (.int (fEnc (fSign (fMin x1 x2) x3) x4)), .val (.int (fEnc (fSign (fMax x1 x2) x3) x5)), .val (.int (0 : Int32)), .val (.int (fAdm3 (fEnc (fSign (fMin x1 x2) x3) x4) (fEnc (fSign (fMax x1 x2) x3) x5)))] [(.int (1 : Int32))])
                  exact go_retB (w := (1 : Int32)) X178 hx hlk hret (hb hby at_169) (by decide) (by decide) (by decide) ⟨rfl, N178⟩
                · rw [if_neg hc196]
                  refine go_st (fun _ k => XS.icmpYes X178.here hx rfl (pc0 := 161) (pc' := 168) rfl (hb hby at_161) rfl (XT.ii_ne_t hc196) (by decide) (by decide) k) ?_
                  show Go p e below s _ _ _ T178 (mkF m 168 #[.val (.int x0), .val (.int x1), .val (.int x2), .val (.int x3), .val (.int x4), .val (.int x5), .val (.ref a34), .val (.int (3 : Int32)), .val (.int (fMin x1 x2)), .val (.int (fMax x1 x2)), .val (.int (fEnc (fSign (fMin x1 x2) x3) x4)), .val (.int (fEnc (fSign (fMax x1 x2) x3) x5)), .val (.int (0 : Int32)), .val (.int (fAdm3 (fEnc (fSign (fMin x1 x2) x3) x4) (fEnc (fSign (fMax x1 x2) x3) x5)))] [])
                  refine go_st (fun _ k => XT.iconstV X178.here hx rfl (0 : Int32) (hb hby at_168) (by decide) k) ?_
                  show Go p e below s _ _ _ T178 (mkF m 169 #[.val (.int x0), .val (.int x1), .val (.int x2), .val (.int x3), .val (.int x4), .val (.int x5), .val (.ref a34), .val (.int (3 : Int32)), .val (.int (fMin x1 x2)), .val (.int (fMax x1 x2)), .val (.int (fEnc (fSign (fMin x1 x2) x3) x4)), .val (.int (fEnc (fSign (fMax x1 x2) x3) x5)), .val (.int (0 : Int32)), .val (.int (fAdm3 (fEnc (fSign (fMin x1 x2) x3) x4) (fEnc (fSign (fMax x1 x2) x3) x5)))] [(.int (0 : Int32))])
                  exact go_retB (w := (0 : Int32)) X178 hx hlk hret (hb hby at_169) (by decide) (by decide) (by decide) ⟨rfl, N178⟩
              · rw [if_neg hk177]
                by_cases hk197 : ((x0 &&& (2147483647 : Int32)) % (6 : Int32)) = (4 : Int32)
                · rw [if_pos hk197]
                  rw [hk197]
                  show Go p e below s _ _ _ T108 (mkF m 147 #[.val (.int x0), .val (.int x1), .val (.int x2), .val (.int x3), .val (.int x4), .val (.int x5), .val (.ref a34), .val (.int (4 : Int32)), .val (.int (fMin x1 x2)), .val (.int (fMax x1 x2)), .val (.int (fEnc (fSign (fMin x1 x2) x3) x4)), .val (.int (fEnc (fSign (fMax x1 x2) x3) x5)), .val (.int (0 : Int32)), .unset] [(.int (4 : Int32)), (.ref a34)])
                  refine go_aald X108 hx hZ e108 A92 rfl (hb hby at_147) rfl rfl (by decide) (.ref o4) rfl ?_
                  show Go p e below s _ _ _ T108 (mkF m 148 #[.val (.int x0), .val (.int x1), .val (.int x2), .val (.int x3), .val (.int x4), .val (.int x5), .val (.ref a34), .val (.int (4 : Int32)), .val (.int (fMin x1 x2)), .val (.int (fMax x1 x2)), .val (.int (fEnc (fSign (fMin x1 x2) x3) x4)), .val (.int (fEnc (fSign (fMax x1 x2) x3) x5)), .val (.int (0 : Int32)), .unset] [(.ref o4)])
                  refine go_st (fun _ k => XS.iload X108.here hx rfl (hb hby at_148) rfl k) ?_
                  show Go p e below s _ _ _ T108 (mkF m 150 #[.val (.int x0), .val (.int x1), .val (.int x2), .val (.int x3), .val (.int x4), .val (.int x5), .val (.ref a34), .val (.int (4 : Int32)), .val (.int (fMin x1 x2)), .val (.int (fMax x1 x2)), .val (.int (fEnc (fSign (fMin x1 x2) x3) x4)), .val (.int (fEnc (fSign (fMax x1 x2) x3) x5)), .val (.int (0 : Int32)), .unset] [(.int (fEnc (fSign (fMin x1 x2) x3) x4)), (.ref o4)])
                  refine go_st (fun _ k => XS.iload X108.here hx rfl (hb hby at_150) rfl k) ?_
                  show Go p e below s _ _ _ T108 (mkF m 152 #[.val (.int x0), .val (.int x1), .val (.int x2), .val (.int x3), .val (.int x4), .val (.int x5), .val (.ref a34), .val (.int (4 : Int32)), .val (.int (fMin x1 x2)), .val (.int (fMax x1 x2)), .val (.int (fEnc (fSign (fMin x1 x2) x3) x4)), .val (.int (fEnc (fSign (fMax x1 x2) x3) x5)), .val (.int (0 : Int32)), .unset] [(.int (fEnc (fSign (fMax x1 x2) x3) x5)), (.int (fEnc (fSign (fMin x1 x2) x3) x4)), (.ref o4)])
                  have c199 := Exa.wr W78 c84
                  have c200 := Exa.wr W92 c199
                  have c201 := Fld.ext E34 F4
                  have c202 := Fld.other W43 c201 (Or.inl ne39)
                  have c203 := Fld.other W48 c202 (Or.inl ne39)
                  have c204 := Fld.other W56 c203 (Or.inl ne39)
                  have c205 := Fld.other W66 c204 (Or.inl ne39)
                  have c206 := Fld.other W78 c205 (Or.inl ne39)
                  have c207 := Fld.other W92 c206 (Or.inl ne39)
                  have z208 : n0 ≤ h34.size := Nat.le_trans Z0 E34.1
                  have z209 : n0 ≤ h43.size := (Wr.size W43).symm ▸ z208
                  have z210 : n0 ≤ h48.size := (Wr.size W48).symm ▸ z209
                  have z211 : n0 ≤ h56.size := (Wr.size W56).symm ▸ z210
                  have z212 : n0 ≤ h66.size := (Wr.size W66).symm ▸ z211
                  have z213 : n0 ≤ h78.size := (Wr.size W78).symm ▸ z212
                  have z214 : n0 ≤ h92.size := (Wr.size W92).symm ▸ z213
                  refine go_callV X108 hx hZ hml hown (hw _ (List.mem_of_getElem? (i := 34) rfl)) (hw _ (List.mem_of_getElem? (i := 35) rfl)) (notFace_of_selects (args := #[]) (mvT hZ (hw _ (List.mem_of_getElem? (i := 37) rfl)))) (hw _ (List.mem_of_getElem? (i := 37) rfl)) (hw _ (List.mem_of_getElem? (i := 36) rfl)) (hw _ (List.mem_of_getElem? (i := 38) rfl)) (hw _ (List.mem_of_getElem? (i := 3) rfl)) e108 c200 (argsL := [(.int (fEnc (fSign (fMin x1 x2) x3) x4)), (.int (fEnc (fSign (fMax x1 x2) x3) x5))]) (rest := []) (W := 0) (met_adm4 l Z a0 hw o4 (fEnc (fSign (fMin x1 x2) x3) x4) (fEnc (fSign (fMax x1 x2) x3) x5) h92 n0 z214 c200 c207) (hb hby at_152) rfl rfl rfl (lenOf pd3 rfl) (by show 2 * 0 + _ ≤ _; exact Nat.le_of_eq rfl) (by decide) (by decide) (by decide) (by decide) (by decide) ?_
                  intro T198 v198 L198 X198 q198
                  obtain ⟨rfl, M198, e198⟩ := q198
                  have N198 := Fr.app N108 M198
                  show Go p e below s _ _ _ T198 (mkF m 155 #[.val (.int x0), .val (.int x1), .val (.int x2), .val (.int x3), .val (.int x4), .val (.int x5), .val (.ref a34), .val (.int (4 : Int32)), .val (.int (fMin x1 x2)), .val (.int (fMax x1 x2)), .val (.int (fEnc (fSign (fMin x1 x2) x3) x4)), .val (.int (fEnc (fSign (fMax x1 x2) x3) x5)), .val (.int (0 : Int32)), .unset] [(.int (fAdm4 (fEnc (fSign (fMin x1 x2) x3) x4) (fEnc (fSign (fMax x1 x2) x3) x5)))])
                  refine go_st (fun _ k => XS.istore X198.here hx rfl (hb hby at_155) rfl (l' := #[.val (.int x0), .val (.int x1), .val (.int x2), .val (.int x3), .val (.int x4), .val (.int x5), .val (.ref a34), .val (.int (4 : Int32)), .val (.int (fMin x1 x2)), .val (.int (fMax x1 x2)), .val (.int (fEnc (fSign (fMin x1 x2) x3) x4)), .val (.int (fEnc (fSign (fMax x1 x2) x3) x5)), .val (.int (0 : Int32)), .val (.int (fAdm4 (fEnc (fSign (fMin x1 x2) x3) x4) (fEnc (fSign (fMax x1 x2) x3) x5)))]) rfl k) ?_
                  show Go p e below s _ _ _ T198 (mkF m 157 #[.val (.int x0), .val (.int x1), .val (.int x2), .val (.int x3), .val (.int x4), .val (.int x5), .val (.ref a34), .val (.int (4 : Int32)), .val (.int (fMin x1 x2)), .val (.int (fMax x1 x2)), .val (.int (fEnc (fSign (fMin x1 x2) x3) x4)), .val (.int (fEnc (fSign (fMax x1 x2) x3) x5)), .val (.int (0 : Int32)), .val (.int (fAdm4 (fEnc (fSign (fMin x1 x2) x3) x4) (fEnc (fSign (fMax x1 x2) x3) x5)))] [])
                  refine go_st (fun _ k => XS.iload X198.here hx rfl (hb hby at_157) rfl k) ?_
                  show Go p e below s _ _ _ T198 (mkF m 159 #[.val (.int x0), .val (.int x1), .val (.int x2), .val (.int x3), .val (.int x4), .val (.int x5), .val (.ref a34), .val (.int (4 : Int32)), .val (.int (fMin x1 x2)), .val (.int (fMax x1 x2)), .val (.int (fEnc (fSign (fMin x1 x2) x3) x4)), .val (.int (fEnc (fSign (fMax x1 x2) x3) x5)), .val (.int (0 : Int32)), .val (.int (fAdm4 (fEnc (fSign (fMin x1 x2) x3) x4) (fEnc (fSign (fMax x1 x2) x3) x5)))] [(.int (fAdm4 (fEnc (fSign (fMin x1 x2) x3) x4) (fEnc (fSign (fMax x1 x2) x3) x5)))])
                  refine go_st (fun _ k => XS.iload X198.here hx rfl (hb hby at_159) rfl k) ?_
                  show Go p e below s _ _ _ T198 (mkF m 161 #[.val (.int x0), .val (.int x1), .val (.int x2), .val (.int x3), .val (.int x4), .val (.int x5), .val (.ref a34), .val (.int (4 : Int32)), .val (.int (fMin x1 x2)), .val (.int (fMax x1 x2)), .val (.int (fEnc (fSign (fMin x1 x2) x3) x4)), .val (.int (fEnc (fSign (fMax x1 x2) x3) x5)), .val (.int (0 : Int32)), .val (.int (fAdm4 (fEnc (fSign (fMin x1 x2) x3) x4) (fEnc (fSign (fMax x1 x2) x3) x5)))] [(.int (0 : Int32)), (.int (fAdm4 (fEnc (fSign (fMin x1 x2) x3) x4) (fEnc (fSign (fMax x1 x2) x3) x5)))])
                  by_cases hc215 : (fAdm4 (fEnc (fSign (fMin x1 x2) x3) x4) (fEnc (fSign (fMax x1 x2) x3) x5)) = (0 : Int32)
                  · rw [if_pos hc215]
                    refine go_st (fun _ k => XS.icmpNo X198.here hx rfl (hb hby at_161) rfl (XT.ii_ne_f hc215) k) ?_
                    show Go p e below s _ _ _ T198 (mkF m 164 #[.val (.int x0), .val (.int x1), .val (.int x2), .val (.int x3), .val (.int x4), .val (.int x5), .val (.ref a34), .val (.int (4 : Int32)), .val (.int (fMin x1 x2)), .val (.int (fMax x1 x2)), .val (.int (fEnc (fSign (fMin x1 x2) x3) x4)), .val (.int (fEnc (fSign (fMax x1 x2) x3) x5)), .val (.int (0 : Int32)), .val (.int (fAdm4 (fEnc (fSign (fMin x1 x2) x3) x4) (fEnc (fSign (fMax x1 x2) x3) x5)))] [])
                    refine go_st (fun _ k => XT.iconstV X198.here hx rfl (1 : Int32) (hb hby at_164) (by decide) k) ?_
                    show Go p e below s _ _ _ T198 (mkF m 165 #[.val (.int x0), .val (.int x1), .val (.int x2), .val (.int x3), .val (.int x4), .val (.int x5), .val (.ref a34), .val (.int (4 : Int32)), .val (.int (fMin x1 x2)), .val (.int (fMax x1 x2)), .val (.int (fEnc (fSign (fMin x1 x2) x3) x4)), .val (.int (fEnc (fSign (fMax x1 x2) x3) x5)), .val (.int (0 : Int32)), .val (.int (fAdm4 (fEnc (fSign (fMin x1 x2) x3) x4) (fEnc (fSign (fMax x1 x2) x3) x5)))] [(.int (1 : Int32))])
                    refine go_st (fun _ k => XS.goto X198.here hx rfl (pc0 := 165) (pc' := 169) rfl (hb hby at_165) (by decide) (by decide) k) ?_
                    show Go p e below s _ _ _ T198 (mkF m 169 #[.val (.int x0), .val (.int x1), .val (.int x2), .val (.int x3), .val (.int x4), .val (.int x5), .val (.ref a34), .val (.int (4 : Int32)), .val (.int (fMin x1 x2)), .val (.int (fMax x1 x2)), .val (.int (fEnc (fSign (fMin x1 x2) x3) x4)), .val (.int (fEnc (fSign (fMax x1 x2) x3) x5)), .val (.int (0 : Int32)), .val (.int (fAdm4 (fEnc (fSign (fMin x1 x2) x3) x4) (fEnc (fSign (fMax x1 x2) x3) x5)))] [(.int (1 : Int32))])
                    exact go_retB (w := (1 : Int32)) X198 hx hlk hret (hb hby at_169) (by decide) (by decide) (by decide) ⟨rfl, N198⟩
                  · rw [if_neg hc215]
                    refine go_st (fun _ k => XS.icmpYes X198.here hx rfl (pc0 := 161) (pc' := 168) rfl (hb hby at_161) rfl (XT.ii_ne_t hc215) (by decide) (by decide) k) ?_
                    show Go p e below s _ _ _ T198 (mkF m 168 #[.val (.int x0), .val (.int x1), .val (.int x2), .val (.int x3), .val (.int x4), .val (.int x5), .val (.ref a34), .val (.int (4 : Int32)), .val (.int (fMin x1 x2)), .val (.int (fMax x1 x2)), .val (.int (fEnc (fSign (fMin x1 x2) x3) x4)), .val (.int (fEnc (fSign (fMax x1 x2) x3) x5)), .val (.int (0 : Int32)), .val (.int (fAdm4 (fEnc (fSign (fMin x1 x2) x3) x4) (fEnc (fSign (fMax x1 x2) x3) x5)))] [])
                    refine go_st (fun _ k => XT.iconstV X198.here hx rfl (0 : Int32) (hb hby at_168) (by decide) k) ?_
                    show Go p e below s _ _ _ T198 (mkF m 169 #[.val (.int x0), .val (.int x1), .val (.int x2), .val (.int x3), .val (.int x4), .val (.int x5), .val (.ref a34), .val (.int (4 : Int32)), .val (.int (fMin x1 x2)), .val (.int (fMax x1 x2)), .val (.int (fEnc (fSign (fMin x1 x2) x3) x4)), .val (.int (fEnc (fSign (fMax x1 x2) x3) x5)), .val (.int (0 : Int32)), .val (.int (fAdm4 (fEnc (fSign (fMin x1 x2) x3) x4) (fEnc (fSign (fMax x1 x2) x3) x5)))] [(.int (0 : Int32))])
                    exact go_retB (w := (0 : Int32)) X198 hx hlk hret (hb hby at_169) (by decide) (by decide) (by decide) ⟨rfl, N198⟩
                · rw [if_neg hk197]
                  by_cases hk216 : ((x0 &&& (2147483647 : Int32)) % (6 : Int32)) = (5 : Int32)
                  · rw [if_pos hk216]
                    rw [hk216]
                    show Go p e below s _ _ _ T108 (mkF m 147 #[.val (.int x0), .val (.int x1), .val (.int x2), .val (.int x3), .val (.int x4), .val (.int x5), .val (.ref a34), .val (.int (5 : Int32)), .val (.int (fMin x1 x2)), .val (.int (fMax x1 x2)), .val (.int (fEnc (fSign (fMin x1 x2) x3) x4)), .val (.int (fEnc (fSign (fMax x1 x2) x3) x5)), .val (.int (0 : Int32)), .unset] [(.int (5 : Int32)), (.ref a34)])
                    refine go_aald X108 hx hZ e108 A92 rfl (hb hby at_147) rfl rfl (by decide) (.ref o5) rfl ?_
                    show Go p e below s _ _ _ T108 (mkF m 148 #[.val (.int x0), .val (.int x1), .val (.int x2), .val (.int x3), .val (.int x4), .val (.int x5), .val (.ref a34), .val (.int (5 : Int32)), .val (.int (fMin x1 x2)), .val (.int (fMax x1 x2)), .val (.int (fEnc (fSign (fMin x1 x2) x3) x4)), .val (.int (fEnc (fSign (fMax x1 x2) x3) x5)), .val (.int (0 : Int32)), .unset] [(.ref o5)])
                    refine go_st (fun _ k => XS.iload X108.here hx rfl (hb hby at_148) rfl k) ?_
                    show Go p e below s _ _ _ T108 (mkF m 150 #[.val (.int x0), .val (.int x1), .val (.int x2), .val (.int x3), .val (.int x4), .val (.int x5), .val (.ref a34), .val (.int (5 : Int32)), .val (.int (fMin x1 x2)), .val (.int (fMax x1 x2)), .val (.int (fEnc (fSign (fMin x1 x2) x3) x4)), .val (.int (fEnc (fSign (fMax x1 x2) x3) x5)), .val (.int (0 : Int32)), .unset] [(.int (fEnc (fSign (fMin x1 x2) x3) x4)), (.ref o5)])
                    refine go_st (fun _ k => XS.iload X108.here hx rfl (hb hby at_150) rfl k) ?_
                    show Go p e below s _ _ _ T108 (mkF m 152 #[.val (.int x0), .val (.int x1), .val (.int x2), .val (.int x3), .val (.int x4), .val (.int x5), .val (.ref a34), .val (.int (5 : Int32)), .val (.int (fMin x1 x2)), .val (.int (fMax x1 x2)), .val (.int (fEnc (fSign (fMin x1 x2) x3) x4)), .val (.int (fEnc (fSign (fMax x1 x2) x3) x5)), .val (.int (0 : Int32)), .unset] [(.int (fEnc (fSign (fMax x1 x2) x3) x5)), (.int (fEnc (fSign (fMin x1 x2) x3) x4)), (.ref o5)])
                    have c218 := Exa.wr W92 c99
                    have c219 := Fld.ext E34 F5
                    have c220 := Fld.other W43 c219 (Or.inl ne40)
                    have c221 := Fld.other W48 c220 (Or.inl ne40)
                    have c222 := Fld.other W56 c221 (Or.inl ne40)
                    have c223 := Fld.other W66 c222 (Or.inl ne40)
                    have c224 := Fld.other W78 c223 (Or.inl ne40)
                    have c225 := Fld.other W92 c224 (Or.inl ne40)
                    have z226 : n0 ≤ h34.size := Nat.le_trans Z0 E34.1
                    have z227 : n0 ≤ h43.size := (Wr.size W43).symm ▸ z226
                    have z228 : n0 ≤ h48.size := (Wr.size W48).symm ▸ z227
                    have z229 : n0 ≤ h56.size := (Wr.size W56).symm ▸ z228
                    have z230 : n0 ≤ h66.size := (Wr.size W66).symm ▸ z229
                    have z231 : n0 ≤ h78.size := (Wr.size W78).symm ▸ z230
                    have z232 : n0 ≤ h92.size := (Wr.size W92).symm ▸ z231
                    refine go_callV X108 hx hZ hml hown (hw _ (List.mem_of_getElem? (i := 34) rfl)) (hw _ (List.mem_of_getElem? (i := 35) rfl)) (notFace_of_selects (args := #[]) (mvT hZ (hw _ (List.mem_of_getElem? (i := 37) rfl)))) (hw _ (List.mem_of_getElem? (i := 37) rfl)) (hw _ (List.mem_of_getElem? (i := 36) rfl)) (hw _ (List.mem_of_getElem? (i := 38) rfl)) (hw _ (List.mem_of_getElem? (i := 3) rfl)) e108 c218 (argsL := [(.int (fEnc (fSign (fMin x1 x2) x3) x4)), (.int (fEnc (fSign (fMax x1 x2) x3) x5))]) (rest := []) (W := 0) (met_adm5 l Z a0 hw o5 (fEnc (fSign (fMin x1 x2) x3) x4) (fEnc (fSign (fMax x1 x2) x3) x5) h92 n0 z232 c218 c225) (hb hby at_152) rfl rfl rfl (lenOf pd3 rfl) (by show 2 * 0 + _ ≤ _; exact Nat.le_of_eq rfl) (by decide) (by decide) (by decide) (by decide) (by decide) ?_
                    intro T217 v217 L217 X217 q217
                    obtain ⟨rfl, M217, e217⟩ := q217
                    have N217 := Fr.app N108 M217
                    show Go p e below s _ _ _ T217 (mkF m 155 #[.val (.int x0), .val (.int x1), .val (.int x2), .val (.int x3), .val (.int x4), .val (.int x5), .val (.ref a34), .val (.int (5 : Int32)), .val (.int (fMin x1 x2)), .val (.int (fMax x1 x2)), .val (.int (fEnc (fSign (fMin x1 x2) x3) x4)), .val (.int (fEnc (fSign (fMax x1 x2) x3) x5)), .val (.int (0 : Int32)), .unset] [(.int (fAdm5 (fEnc (fSign (fMin x1 x2) x3) x4) (fEnc (fSign (fMax x1 x2) x3) x5)))])
                    refine go_st (fun _ k => XS.istore X217.here hx rfl (hb hby at_155) rfl (l' := #[.val (.int x0), .val (.int x1), .val (.int x2), .val (.int x3), .val (.int x4), .val (.int x5), .val (.ref a34), .val (.int (5 : Int32)), .val (.int (fMin x1 x2)), .val (.int (fMax x1 x2)), .val (.int (fEnc (fSign (fMin x1 x2) x3) x4)), .val (.int (fEnc (fSign (fMax x1 x2) x3) x5)), .val (.int (0 : Int32)), .val (.int (fAdm5 (fEnc (fSign (fMin x1 x2) x3) x4) (fEnc (fSign (fMax x1 x2) x3) x5)))]) rfl k) ?_
                    show Go p e below s _ _ _ T217 (mkF m 157 #[.val (.int x0), .val (.int x1), .val (.int x2), .val (.int x3), .val (.int x4), .val (.int x5), .val (.ref a34), .val (.int (5 : Int32)), .val (.int (fMin x1 x2)), .val (.int (fMax x1 x2)), .val (.int (fEnc (fSign (fMin x1 x2) x3) x4)), .val (.int (fEnc (fSign (fMax x1 x2) x3) x5)), .val (.int (0 : Int32)), .val (.int (fAdm5 (fEnc (fSign (fMin x1 x2) x3) x4) (fEnc (fSign (fMax x1 x2) x3) x5)))] [])
                    refine go_st (fun _ k => XS.iload X217.here hx rfl (hb hby at_157) rfl k) ?_
                    show Go p e below s _ _ _ T217 (mkF m 159 #[.val (.int x0), .val (.int x1), .val (.int x2), .val (.int x3), .val (.int x4), .val (.int x5), .val (.ref a34), .val (.int (5 : Int32)), .val (.int (fMin x1 x2)), .val (.int (fMax x1 x2)), .val (.int (fEnc (fSign (fMin x1 x2) x3) x4)), .val (.int (fEnc (fSign (fMax x1 x2) x3) x5)), .val (.int (0 : Int32)), .val (.int (fAdm5 (fEnc (fSign (fMin x1 x2) x3) x4) (fEnc (fSign (fMax x1 x2) x3) x5)))] [(.int (fAdm5 (fEnc (fSign (fMin x1 x2) x3) x4) (fEnc (fSign (fMax x1 x2) x3) x5)))])
                    refine go_st (fun _ k => XS.iload X217.here hx rfl (hb hby at_159) rfl k) ?_
                    show Go p e below s _ _ _ T217 (mkF m 161 #[.val (.int x0), .val (.int x1), .val (.int x2), .val (.int x3), .val (.int x4), .val (.int x5), .val (.ref a34), .val (.int (5 : Int32)), .val (.int (fMin x1 x2)), .val (.int (fMax x1 x2)), .val (.int (fEnc (fSign (fMin x1 x2) x3) x4)), .val (.int (fEnc (fSign (fMax x1 x2) x3) x5)), .val (.int (0 : Int32)), .val (.int (fAdm5 (fEnc (fSign (fMin x1 x2) x3) x4) (fEnc (fSign (fMax x1 x2) x3) x5)))] [(.int (0 : Int32)), (.int (fAdm5 (fEnc (fSign (fMin x1 x2) x3) x4) (fEnc (fSign (fMax x1 x2) x3) x5)))])
                    by_cases hc233 : (fAdm5 (fEnc (fSign (fMin x1 x2) x3) x4) (fEnc (fSign (fMax x1 x2) x3) x5)) = (0 : Int32)
                    · rw [if_pos hc233]
                      refine go_st (fun _ k => XS.icmpNo X217.here hx rfl (hb hby at_161) rfl (XT.ii_ne_f hc233) k) ?_
                      show Go p e below s _ _ _ T217 (mkF m 164 #[.val (.int x0), .val (.int x1), .val (.int x2), .val (.int x3), .val (.int x4), .val (.int x5), .val (.ref a34), .val (.int (5 : Int32)), .val (.int (fMin x1 x2)), .val (.int (fMax x1 x2)), .val (.int (fEnc (fSign (fMin x1 x2) x3) x4)), .val (.int (fEnc (fSign (fMax x1 x2) x3) x5)), .val (.int (0 : Int32)), .val (.int (fAdm5 (fEnc (fSign (fMin x1 x2) x3) x4) (fEnc (fSign (fMax x1 x2) x3) x5)))] [])
                      refine go_st (fun _ k => XT.iconstV X217.here hx rfl (1 : Int32) (hb hby at_164) (by decide) k) ?_
                      show Go p e below s _ _ _ T217 (mkF m 165 #[.val (.int x0), .val (.int x1), .val (.int x2), .val (.int x3), .val (.int x4), .val (.int x5), .val (.ref a34), .val (.int (5 : Int32)), .val (.int (fMin x1 x2)), .val (.int (fMax x1 x2)), .val (.int (fEnc (fSign (fMin x1 x2) x3) x4)), .val (.int (fEnc (fSign (fMax x1 x2) x3) x5)), .val (.int (0 : Int32)), .val (.int (fAdm5 (fEnc (fSign (fMin x1 x2) x3) x4) (fEnc (fSign (fMax x1 x2) x3) x5)))] [(.int (1 : Int32))])
                      refine go_st (fun _ k => XS.goto X217.here hx rfl (pc0 := 165) (pc' := 169) rfl (hb hby at_165) (by decide) (by decide) k) ?_
                      show Go p e below s _ _ _ T217 (mkF m 169 #[.val (.int x0), .val (.int x1), .val (.int x2), .val (.int x3), .val (.int x4), .val (.int x5), .val (.ref a34), .val (.int (5 : Int32)), .val (.int (fMin x1 x2)), .val (.int (fMax x1 x2)), .val (.int (fEnc (fSign (fMin x1 x2) x3) x4)), .val (.int (fEnc (fSign (fMax x1 x2) x3) x5)), .val (.int (0 : Int32)), .val (.int (fAdm5 (fEnc (fSign (fMin x1 x2) x3) x4) (fEnc (fSign (fMax x1 x2) x3) x5)))] [(.int (1 : Int32))])
                      exact go_retB (w := (1 : Int32)) X217 hx hlk hret (hb hby at_169) (by decide) (by decide) (by decide) ⟨rfl, N217⟩
                    · rw [if_neg hc233]
                      refine go_st (fun _ k => XS.icmpYes X217.here hx rfl (pc0 := 161) (pc' := 168) rfl (hb hby at_161) rfl (XT.ii_ne_t hc233) (by decide) (by decide) k) ?_
                      show Go p e below s _ _ _ T217 (mkF m 168 #[.val (.int x0), .val (.int x1), .val (.int x2), .val (.int x3), .val (.int x4), .val (.int x5), .val (.ref a34), .val (.int (5 : Int32)), .val (.int (fMin x1 x2)), .val (.int (fMax x1 x2)), .val (.int (fEnc (fSign (fMin x1 x2) x3) x4)), .val (.int (fEnc (fSign (fMax x1 x2) x3) x5)), .val (.int (0 : Int32)), .val (.int (fAdm5 (fEnc (fSign (fMin x1 x2) x3) x4) (fEnc (fSign (fMax x1 x2) x3) x5)))] [])
                      refine go_st (fun _ k => XT.iconstV X217.here hx rfl (0 : Int32) (hb hby at_168) (by decide) k) ?_
                      show Go p e below s _ _ _ T217 (mkF m 169 #[.val (.int x0), .val (.int x1), .val (.int x2), .val (.int x3), .val (.int x4), .val (.int x5), .val (.ref a34), .val (.int (5 : Int32)), .val (.int (fMin x1 x2)), .val (.int (fMax x1 x2)), .val (.int (fEnc (fSign (fMin x1 x2) x3) x4)), .val (.int (fEnc (fSign (fMax x1 x2) x3) x5)), .val (.int (0 : Int32)), .val (.int (fAdm5 (fEnc (fSign (fMin x1 x2) x3) x4) (fEnc (fSign (fMax x1 x2) x3) x5)))] [(.int (0 : Int32))])
                      exact go_retB (w := (0 : Int32)) X217 hx hlk hret (hb hby at_169) (by decide) (by decide) (by decide) ⟨rfl, N217⟩
                  · rw [if_neg hk216]
                    exact (own_six x0 hk111 hk134 hk156 hk177 hk197 hk216).elim
      · rw [if_neg hc110]
        refine go_st (fun _ k => XS.icmpNo X108.here hx rfl (hb hby at_117) rfl (XT.ii_gt_f hc110) k) ?_
        show Go p e below s _ _ _ T108 (mkF m 120 #[.val (.int x0), .val (.int x1), .val (.int x2), .val (.int x3), .val (.int x4), .val (.int x5), .val (.ref a34), .val (.int ((x0 &&& (2147483647 : Int32)) % (6 : Int32))), .val (.int (fMin x1 x2)), .val (.int (fMax x1 x2)), .val (.int (fEnc (fSign (fMin x1 x2) x3) x4)), .val (.int (fEnc (fSign (fMax x1 x2) x3) x5)), .unset, .unset] [])
        refine go_st (fun _ k => XS.iloadN X108.here hx rfl (hb hby at_120) rfl k) ?_
        show Go p e below s _ _ _ T108 (mkF m 121 #[.val (.int x0), .val (.int x1), .val (.int x2), .val (.int x3), .val (.int x4), .val (.int x5), .val (.ref a34), .val (.int ((x0 &&& (2147483647 : Int32)) % (6 : Int32))), .val (.int (fMin x1 x2)), .val (.int (fMax x1 x2)), .val (.int (fEnc (fSign (fMin x1 x2) x3) x4)), .val (.int (fEnc (fSign (fMax x1 x2) x3) x5)), .unset, .unset] [(.int x3)])
        refine go_st (fun _ k => XS.iload X108.here hx rfl (hb hby at_121) rfl k) ?_
        show Go p e below s _ _ _ T108 (mkF m 123 #[.val (.int x0), .val (.int x1), .val (.int x2), .val (.int x3), .val (.int x4), .val (.int x5), .val (.ref a34), .val (.int ((x0 &&& (2147483647 : Int32)) % (6 : Int32))), .val (.int (fMin x1 x2)), .val (.int (fMax x1 x2)), .val (.int (fEnc (fSign (fMin x1 x2) x3) x4)), .val (.int (fEnc (fSign (fMax x1 x2) x3) x5)), .unset, .unset] [(.int (fMax x1 x2)), (.int x3)])
        by_cases hc234 : (fMax x1 x2) < x3
        · rw [if_pos hc234]
          refine go_st (fun _ k => XS.icmpYes X108.here hx rfl (pc0 := 123) (pc' := 140) rfl (hb hby at_123) rfl (XT.ii_gt_t hc234) (by decide) (by decide) k) ?_
          show Go p e below s _ _ _ T108 (mkF m 140 #[.val (.int x0), .val (.int x1), .val (.int x2), .val (.int x3), .val (.int x4), .val (.int x5), .val (.ref a34), .val (.int ((x0 &&& (2147483647 : Int32)) % (6 : Int32))), .val (.int (fMin x1 x2)), .val (.int (fMax x1 x2)), .val (.int (fEnc (fSign (fMin x1 x2) x3) x4)), .val (.int (fEnc (fSign (fMax x1 x2) x3) x5)), .unset, .unset] [])
          refine go_st (fun _ k => XT.iconstV X108.here hx rfl (0 : Int32) (hb hby at_140) (by decide) k) ?_
          show Go p e below s _ _ _ T108 (mkF m 141 #[.val (.int x0), .val (.int x1), .val (.int x2), .val (.int x3), .val (.int x4), .val (.int x5), .val (.ref a34), .val (.int ((x0 &&& (2147483647 : Int32)) % (6 : Int32))), .val (.int (fMin x1 x2)), .val (.int (fMax x1 x2)), .val (.int (fEnc (fSign (fMin x1 x2) x3) x4)), .val (.int (fEnc (fSign (fMax x1 x2) x3) x5)), .unset, .unset] [(.int (0 : Int32))])
          refine go_st (fun _ k => XS.istore X108.here hx rfl (hb hby at_141) rfl (l' := #[.val (.int x0), .val (.int x1), .val (.int x2), .val (.int x3), .val (.int x4), .val (.int x5), .val (.ref a34), .val (.int ((x0 &&& (2147483647 : Int32)) % (6 : Int32))), .val (.int (fMin x1 x2)), .val (.int (fMax x1 x2)), .val (.int (fEnc (fSign (fMin x1 x2) x3) x4)), .val (.int (fEnc (fSign (fMax x1 x2) x3) x5)), .val (.int (0 : Int32)), .unset]) rfl k) ?_
          show Go p e below s _ _ _ T108 (mkF m 143 #[.val (.int x0), .val (.int x1), .val (.int x2), .val (.int x3), .val (.int x4), .val (.int x5), .val (.ref a34), .val (.int ((x0 &&& (2147483647 : Int32)) % (6 : Int32))), .val (.int (fMin x1 x2)), .val (.int (fMax x1 x2)), .val (.int (fEnc (fSign (fMin x1 x2) x3) x4)), .val (.int (fEnc (fSign (fMax x1 x2) x3) x5)), .val (.int (0 : Int32)), .unset] [])
          refine go_st (fun _ k => XS.aload X108.here hx rfl (hb hby at_143) rfl rfl k) ?_
          show Go p e below s _ _ _ T108 (mkF m 145 #[.val (.int x0), .val (.int x1), .val (.int x2), .val (.int x3), .val (.int x4), .val (.int x5), .val (.ref a34), .val (.int ((x0 &&& (2147483647 : Int32)) % (6 : Int32))), .val (.int (fMin x1 x2)), .val (.int (fMax x1 x2)), .val (.int (fEnc (fSign (fMin x1 x2) x3) x4)), .val (.int (fEnc (fSign (fMax x1 x2) x3) x5)), .val (.int (0 : Int32)), .unset] [(.ref a34)])
          refine go_st (fun _ k => XS.iload X108.here hx rfl (hb hby at_145) rfl k) ?_
          show Go p e below s _ _ _ T108 (mkF m 147 #[.val (.int x0), .val (.int x1), .val (.int x2), .val (.int x3), .val (.int x4), .val (.int x5), .val (.ref a34), .val (.int ((x0 &&& (2147483647 : Int32)) % (6 : Int32))), .val (.int (fMin x1 x2)), .val (.int (fMax x1 x2)), .val (.int (fEnc (fSign (fMin x1 x2) x3) x4)), .val (.int (fEnc (fSign (fMax x1 x2) x3) x5)), .val (.int (0 : Int32)), .unset] [(.int ((x0 &&& (2147483647 : Int32)) % (6 : Int32))), (.ref a34)])
          by_cases hk235 : ((x0 &&& (2147483647 : Int32)) % (6 : Int32)) = (0 : Int32)
          · rw [if_pos hk235]
            rw [hk235]
            show Go p e below s _ _ _ T108 (mkF m 147 #[.val (.int x0), .val (.int x1), .val (.int x2), .val (.int x3), .val (.int x4), .val (.int x5), .val (.ref a34), .val (.int (0 : Int32)), .val (.int (fMin x1 x2)), .val (.int (fMax x1 x2)), .val (.int (fEnc (fSign (fMin x1 x2) x3) x4)), .val (.int (fEnc (fSign (fMax x1 x2) x3) x5)), .val (.int (0 : Int32)), .unset] [(.int (0 : Int32)), (.ref a34)])
            refine go_aald X108 hx hZ e108 A92 rfl (hb hby at_147) rfl rfl (by decide) (.ref o0) rfl ?_
            show Go p e below s _ _ _ T108 (mkF m 148 #[.val (.int x0), .val (.int x1), .val (.int x2), .val (.int x3), .val (.int x4), .val (.int x5), .val (.ref a34), .val (.int (0 : Int32)), .val (.int (fMin x1 x2)), .val (.int (fMax x1 x2)), .val (.int (fEnc (fSign (fMin x1 x2) x3) x4)), .val (.int (fEnc (fSign (fMax x1 x2) x3) x5)), .val (.int (0 : Int32)), .unset] [(.ref o0)])
            refine go_st (fun _ k => XS.iload X108.here hx rfl (hb hby at_148) rfl k) ?_
            show Go p e below s _ _ _ T108 (mkF m 150 #[.val (.int x0), .val (.int x1), .val (.int x2), .val (.int x3), .val (.int x4), .val (.int x5), .val (.ref a34), .val (.int (0 : Int32)), .val (.int (fMin x1 x2)), .val (.int (fMax x1 x2)), .val (.int (fEnc (fSign (fMin x1 x2) x3) x4)), .val (.int (fEnc (fSign (fMax x1 x2) x3) x5)), .val (.int (0 : Int32)), .unset] [(.int (fEnc (fSign (fMin x1 x2) x3) x4)), (.ref o0)])
            refine go_st (fun _ k => XS.iload X108.here hx rfl (hb hby at_150) rfl k) ?_
            show Go p e below s _ _ _ T108 (mkF m 152 #[.val (.int x0), .val (.int x1), .val (.int x2), .val (.int x3), .val (.int x4), .val (.int x5), .val (.ref a34), .val (.int (0 : Int32)), .val (.int (fMin x1 x2)), .val (.int (fMax x1 x2)), .val (.int (fEnc (fSign (fMin x1 x2) x3) x4)), .val (.int (fEnc (fSign (fMax x1 x2) x3) x5)), .val (.int (0 : Int32)), .unset] [(.int (fEnc (fSign (fMax x1 x2) x3) x5)), (.int (fEnc (fSign (fMin x1 x2) x3) x4)), (.ref o0)])
            have c237 := Exa.wr W43 c44
            have c238 := Exa.wr W48 c237
            have c239 := Exa.wr W56 c238
            have c240 := Exa.wr W66 c239
            have c241 := Exa.wr W78 c240
            have c242 := Exa.wr W92 c241
            have c243 := Fld.ext E34 F0
            have c244 := Fld.other W43 c243 (Or.inl ne35)
            have c245 := Fld.other W48 c244 (Or.inl ne35)
            have c246 := Fld.other W56 c245 (Or.inl ne35)
            have c247 := Fld.other W66 c246 (Or.inl ne35)
            have c248 := Fld.other W78 c247 (Or.inl ne35)
            have c249 := Fld.other W92 c248 (Or.inl ne35)
            have z250 : n0 ≤ h34.size := Nat.le_trans Z0 E34.1
            have z251 : n0 ≤ h43.size := (Wr.size W43).symm ▸ z250
            have z252 : n0 ≤ h48.size := (Wr.size W48).symm ▸ z251
            have z253 : n0 ≤ h56.size := (Wr.size W56).symm ▸ z252
            have z254 : n0 ≤ h66.size := (Wr.size W66).symm ▸ z253
            have z255 : n0 ≤ h78.size := (Wr.size W78).symm ▸ z254
            have z256 : n0 ≤ h92.size := (Wr.size W92).symm ▸ z255
            refine go_callV X108 hx hZ hml hown (hw _ (List.mem_of_getElem? (i := 34) rfl)) (hw _ (List.mem_of_getElem? (i := 35) rfl)) (notFace_of_selects (args := #[]) (mvT hZ (hw _ (List.mem_of_getElem? (i := 37) rfl)))) (hw _ (List.mem_of_getElem? (i := 37) rfl)) (hw _ (List.mem_of_getElem? (i := 36) rfl)) (hw _ (List.mem_of_getElem? (i := 38) rfl)) (hw _ (List.mem_of_getElem? (i := 3) rfl)) e108 c242 (argsL := [(.int (fEnc (fSign (fMin x1 x2) x3) x4)), (.int (fEnc (fSign (fMax x1 x2) x3) x5))]) (rest := []) (W := 0) (met_adm0 l Z a0 hw o0 (fEnc (fSign (fMin x1 x2) x3) x4) (fEnc (fSign (fMax x1 x2) x3) x5) h92 n0 z256 c242 c249) (hb hby at_152) rfl rfl rfl (lenOf pd3 rfl) (by show 2 * 0 + _ ≤ _; exact Nat.le_of_eq rfl) (by decide) (by decide) (by decide) (by decide) (by decide) ?_
            intro T236 v236 L236 X236 q236
            obtain ⟨rfl, M236, e236⟩ := q236
            have N236 := Fr.app N108 M236
            show Go p e below s _ _ _ T236 (mkF m 155 #[.val (.int x0), .val (.int x1), .val (.int x2), .val (.int x3), .val (.int x4), .val (.int x5), .val (.ref a34), .val (.int (0 : Int32)), .val (.int (fMin x1 x2)), .val (.int (fMax x1 x2)), .val (.int (fEnc (fSign (fMin x1 x2) x3) x4)), .val (.int (fEnc (fSign (fMax x1 x2) x3) x5)), .val (.int (0 : Int32)), .unset] [(.int (fAdm0 (fEnc (fSign (fMin x1 x2) x3) x4) (fEnc (fSign (fMax x1 x2) x3) x5)))])
            refine go_st (fun _ k => XS.istore X236.here hx rfl (hb hby at_155) rfl (l' := #[.val (.int x0), .val (.int x1), .val (.int x2), .val (.int x3), .val (.int x4), .val (.int x5), .val (.ref a34), .val (.int (0 : Int32)), .val (.int (fMin x1 x2)), .val (.int (fMax x1 x2)), .val (.int (fEnc (fSign (fMin x1 x2) x3) x4)), .val (.int (fEnc (fSign (fMax x1 x2) x3) x5)), .val (.int (0 : Int32)), .val (.int (fAdm0 (fEnc (fSign (fMin x1 x2) x3) x4) (fEnc (fSign (fMax x1 x2) x3) x5)))]) rfl k) ?_
            show Go p e below s _ _ _ T236 (mkF m 157 #[.val (.int x0), .val (.int x1), .val (.int x2), .val (.int x3), .val (.int x4), .val (.int x5), .val (.ref a34), .val (.int (0 : Int32)), .val (.int (fMin x1 x2)), .val (.int (fMax x1 x2)), .val (.int (fEnc (fSign (fMin x1 x2) x3) x4)), .val (.int (fEnc (fSign (fMax x1 x2) x3) x5)), .val (.int (0 : Int32)), .val (.int (fAdm0 (fEnc (fSign (fMin x1 x2) x3) x4) (fEnc (fSign (fMax x1 x2) x3) x5)))] [])
            refine go_st (fun _ k => XS.iload X236.here hx rfl (hb hby at_157) rfl k) ?_
            show Go p e below s _ _ _ T236 (mkF m 159 #[.val (.int x0), .val (.int x1), .val (.int x2), .val (.int x3), .val (.int x4), .val (.int x5), .val (.ref a34), .val (.int (0 : Int32)), .val (.int (fMin x1 x2)), .val (.int (fMax x1 x2)), .val (.int (fEnc (fSign (fMin x1 x2) x3) x4)), .val (.int (fEnc (fSign (fMax x1 x2) x3) x5)), .val (.int (0 : Int32)), .val (.int (fAdm0 (fEnc (fSign (fMin x1 x2) x3) x4) (fEnc (fSign (fMax x1 x2) x3) x5)))] [(.int (fAdm0 (fEnc (fSign (fMin x1 x2) x3) x4) (fEnc (fSign (fMax x1 x2) x3) x5)))])
            refine go_st (fun _ k => XS.iload X236.here hx rfl (hb hby at_159) rfl k) ?_
            show Go p e below s _ _ _ T236 (mkF m 161 #[.val (.int x0), .val (.int x1), .val (.int x2), .val (.int x3), .val (.int x4), .val (.int x5), .val (.ref a34), .val (.int (0 : Int32)), .val (.int (fMin x1 x2)), .val (.int (fMax x1 x2)), .val (.int (fEnc (fSign (fMin x1 x2) x3) x4)), .val (.int (fEnc (fSign (fMax x1 x2) x3) x5)), .val (.int (0 : Int32)), .val (.int (fAdm0 (fEnc (fSign (fMin x1 x2) x3) x4) (fEnc (fSign (fMax x1 x2) x3) x5)))] [(.int (0 : Int32)), (.int (fAdm0 (fEnc (fSign (fMin x1 x2) x3) x4) (fEnc (fSign (fMax x1 x2) x3) x5)))])
            by_cases hc257 : (fAdm0 (fEnc (fSign (fMin x1 x2) x3) x4) (fEnc (fSign (fMax x1 x2) x3) x5)) = (0 : Int32)
            · rw [if_pos hc257]
              refine go_st (fun _ k => XS.icmpNo X236.here hx rfl (hb hby at_161) rfl (XT.ii_ne_f hc257) k) ?_
              show Go p e below s _ _ _ T236 (mkF m 164 #[.val (.int x0), .val (.int x1), .val (.int x2), .val (.int x3), .val (.int x4), .val (.int x5), .val (.ref a34), .val (.int (0 : Int32)), .val (.int (fMin x1 x2)), .val (.int (fMax x1 x2)), .val (.int (fEnc (fSign (fMin x1 x2) x3) x4)), .val (.int (fEnc (fSign (fMax x1 x2) x3) x5)), .val (.int (0 : Int32)), .val (.int (fAdm0 (fEnc (fSign (fMin x1 x2) x3) x4) (fEnc (fSign (fMax x1 x2) x3) x5)))] [])
              refine go_st (fun _ k => XT.iconstV X236.here hx rfl (1 : Int32) (hb hby at_164) (by decide) k) ?_
              show Go p e below s _ _ _ T236 (mkF m 165 #[.val (.int x0), .val (.int x1), .val (.int x2), .val (.int x3), .val (.int x4), .val (.int x5), .val (.ref a34), .val (.int (0 : Int32)), .val (.int (fMin x1 x2)), .val (.int (fMax x1 x2)), .val (.int (fEnc (fSign (fMin x1 x2) x3) x4)), .val (.int (fEnc (fSign (fMax x1 x2) x3) x5)), .val (.int (0 : Int32)), .val (.int (fAdm0 (fEnc (fSign (fMin x1 x2) x3) x4) (fEnc (fSign (fMax x1 x2) x3) x5)))] [(.int (1 : Int32))])
              refine go_st (fun _ k => XS.goto X236.here hx rfl (pc0 := 165) (pc' := 169) rfl (hb hby at_165) (by decide) (by decide) k) ?_
              show Go p e below s _ _ _ T236 (mkF m 169 #[.val (.int x0), .val (.int x1), .val (.int x2), .val (.int x3), .val (.int x4), .val (.int x5), .val (.ref a34), .val (.int (0 : Int32)), .val (.int (fMin x1 x2)), .val (.int (fMax x1 x2)), .val (.int (fEnc (fSign (fMin x1 x2) x3) x4)), .val (.int (fEnc (fSign (fMax x1 x2) x3) x5)), .val (.int (0 : Int32)), .val (.int (fAdm0 (fEnc (fSign (fMin x1 x2) x3) x4) (fEnc (fSign (fMax x1 x2) x3) x5)))] [(.int (1 : Int32))])
              exact go_retB (w := (1 : Int32)) X236 hx hlk hret (hb hby at_169) (by decide) (by decide) (by decide) ⟨rfl, N236⟩
            · rw [if_neg hc257]
              refine go_st (fun _ k => XS.icmpYes X236.here hx rfl (pc0 := 161) (pc' := 168) rfl (hb hby at_161) rfl (XT.ii_ne_t hc257) (by decide) (by decide) k) ?_
              show Go p e below s _ _ _ T236 (mkF m 168 #[.val (.int x0), .val (.int x1), .val (.int x2), .val (.int x3), .val (.int x4), .val (.int x5), .val (.ref a34), .val (.int (0 : Int32)), .val (.int (fMin x1 x2)), .val (.int (fMax x1 x2)), .val (.int (fEnc (fSign (fMin x1 x2) x3) x4)), .val (.int (fEnc (fSign (fMax x1 x2) x3) x5)), .val (.int (0 : Int32)), .val (.int (fAdm0 (fEnc (fSign (fMin x1 x2) x3) x4) (fEnc (fSign (fMax x1 x2) x3) x5)))] [])
              refine go_st (fun _ k => XT.iconstV X236.here hx rfl (0 : Int32) (hb hby at_168) (by decide) k) ?_
              show Go p e below s _ _ _ T236 (mkF m 169 #[.val (.int x0), .val (.int x1), .val (.int x2), .val (.int x3), .val (.int x4), .val (.int x5), .val (.ref a34), .val (.int (0 : Int32)), .val (.int (fMin x1 x2)), .val (.int (fMax x1 x2)), .val (.int (fEnc (fSign (fMin x1 x2) x3) x4)), .val (.int (fEnc (fSign (fMax x1 x2) x3) x5)), .val (.int (0 : Int32)), .val (.int (fAdm0 (fEnc (fSign (fMin x1 x2) x3) x4) (fEnc (fSign (fMax x1 x2) x3) x5)))] [(.int (0 : Int32))])
              exact go_retB (w := (0 : Int32)) X236 hx hlk hret (hb hby at_169) (by decide) (by decide) (by decide) ⟨rfl, N236⟩
          · rw [if_neg hk235]
            by_cases hk258 : ((x0 &&& (2147483647 : Int32)) % (6 : Int32)) = (1 : Int32)
            · rw [if_pos hk258]
              rw [hk258]
              show Go p e below s _ _ _ T108 (mkF m 147 #[.val (.int x0), .val (.int x1), .val (.int x2), .val (.int x3), .val (.int x4), .val (.int x5), .val (.ref a34), .val (.int (1 : Int32)), .val (.int (fMin x1 x2)), .val (.int (fMax x1 x2)), .val (.int (fEnc (fSign (fMin x1 x2) x3) x4)), .val (.int (fEnc (fSign (fMax x1 x2) x3) x5)), .val (.int (0 : Int32)), .unset] [(.int (1 : Int32)), (.ref a34)])
              refine go_aald X108 hx hZ e108 A92 rfl (hb hby at_147) rfl rfl (by decide) (.ref o1) rfl ?_
              show Go p e below s _ _ _ T108 (mkF m 148 #[.val (.int x0), .val (.int x1), .val (.int x2), .val (.int x3), .val (.int x4), .val (.int x5), .val (.ref a34), .val (.int (1 : Int32)), .val (.int (fMin x1 x2)), .val (.int (fMax x1 x2)), .val (.int (fEnc (fSign (fMin x1 x2) x3) x4)), .val (.int (fEnc (fSign (fMax x1 x2) x3) x5)), .val (.int (0 : Int32)), .unset] [(.ref o1)])
              refine go_st (fun _ k => XS.iload X108.here hx rfl (hb hby at_148) rfl k) ?_
              show Go p e below s _ _ _ T108 (mkF m 150 #[.val (.int x0), .val (.int x1), .val (.int x2), .val (.int x3), .val (.int x4), .val (.int x5), .val (.ref a34), .val (.int (1 : Int32)), .val (.int (fMin x1 x2)), .val (.int (fMax x1 x2)), .val (.int (fEnc (fSign (fMin x1 x2) x3) x4)), .val (.int (fEnc (fSign (fMax x1 x2) x3) x5)), .val (.int (0 : Int32)), .unset] [(.int (fEnc (fSign (fMin x1 x2) x3) x4)), (.ref o1)])
              refine go_st (fun _ k => XS.iload X108.here hx rfl (hb hby at_150) rfl k) ?_
              show Go p e below s _ _ _ T108 (mkF m 152 #[.val (.int x0), .val (.int x1), .val (.int x2), .val (.int x3), .val (.int x4), .val (.int x5), .val (.ref a34), .val (.int (1 : Int32)), .val (.int (fMin x1 x2)), .val (.int (fMax x1 x2)), .val (.int (fEnc (fSign (fMin x1 x2) x3) x4)), .val (.int (fEnc (fSign (fMax x1 x2) x3) x5)), .val (.int (0 : Int32)), .unset] [(.int (fEnc (fSign (fMax x1 x2) x3) x5)), (.int (fEnc (fSign (fMin x1 x2) x3) x4)), (.ref o1)])
              have c260 := Exa.wr W48 c51
              have c261 := Exa.wr W56 c260
              have c262 := Exa.wr W66 c261
              have c263 := Exa.wr W78 c262
              have c264 := Exa.wr W92 c263
              have c265 := Fld.ext E34 F1
              have c266 := Fld.other W43 c265 (Or.inl ne36)
              have c267 := Fld.other W48 c266 (Or.inl ne36)
              have c268 := Fld.other W56 c267 (Or.inl ne36)
              have c269 := Fld.other W66 c268 (Or.inl ne36)
              have c270 := Fld.other W78 c269 (Or.inl ne36)
              have c271 := Fld.other W92 c270 (Or.inl ne36)
              have z272 : n0 ≤ h34.size := Nat.le_trans Z0 E34.1
              have z273 : n0 ≤ h43.size := (Wr.size W43).symm ▸ z272
              have z274 : n0 ≤ h48.size := (Wr.size W48).symm ▸ z273
              have z275 : n0 ≤ h56.size := (Wr.size W56).symm ▸ z274
              have z276 : n0 ≤ h66.size := (Wr.size W66).symm ▸ z275
              have z277 : n0 ≤ h78.size := (Wr.size W78).symm ▸ z276
              have z278 : n0 ≤ h92.size := (Wr.size W92).symm ▸ z277
              refine go_callV X108 hx hZ hml hown (hw _ (List.mem_of_getElem? (i := 34) rfl)) (hw _ (List.mem_of_getElem? (i := 35) rfl)) (notFace_of_selects (args := #[]) (mvT hZ (hw _ (List.mem_of_getElem? (i := 37) rfl)))) (hw _ (List.mem_of_getElem? (i := 37) rfl)) (hw _ (List.mem_of_getElem? (i := 36) rfl)) (hw _ (List.mem_of_getElem? (i := 38) rfl)) (hw _ (List.mem_of_getElem? (i := 3) rfl)) e108 c264 (argsL := [(.int (fEnc (fSign (fMin x1 x2) x3) x4)), (.int (fEnc (fSign (fMax x1 x2) x3) x5))]) (rest := []) (W := 0) (met_adm1 l Z a0 hw o1 (fEnc (fSign (fMin x1 x2) x3) x4) (fEnc (fSign (fMax x1 x2) x3) x5) h92 n0 z278 c264 c271) (hb hby at_152) rfl rfl rfl (lenOf pd3 rfl) (by show 2 * 0 + _ ≤ _; exact Nat.le_of_eq rfl) (by decide) (by decide) (by decide) (by decide) (by decide) ?_
              intro T259 v259 L259 X259 q259
              obtain ⟨rfl, M259, e259⟩ := q259
              have N259 := Fr.app N108 M259
              show Go p e below s _ _ _ T259 (mkF m 155 #[.val (.int x0), .val (.int x1), .val (.int x2), .val (.int x3), .val (.int x4), .val (.int x5), .val (.ref a34), .val (.int (1 : Int32)), .val (.int (fMin x1 x2)), .val (.int (fMax x1 x2)), .val (.int (fEnc (fSign (fMin x1 x2) x3) x4)), .val (.int (fEnc (fSign (fMax x1 x2) x3) x5)), .val (.int (0 : Int32)), .unset] [(.int (fAdm1 (fEnc (fSign (fMin x1 x2) x3) x4) (fEnc (fSign (fMax x1 x2) x3) x5)))])
              refine go_st (fun _ k => XS.istore X259.here hx rfl (hb hby at_155) rfl (l' := #[.val (.int x0), .val (.int x1), .val (.int x2), .val (.int x3), .val (.int x4), .val (.int x5), .val (.ref a34), .val (.int (1 : Int32)), .val (.int (fMin x1 x2)), .val (.int (fMax x1 x2)), .val (.int (fEnc (fSign (fMin x1 x2) x3) x4)), .val (.int (fEnc (fSign (fMax x1 x2) x3) x5)), .val (.int (0 : Int32)), .val (.int (fAdm1 (fEnc (fSign (fMin x1 x2) x3) x4) (fEnc (fSign (fMax x1 x2) x3) x5)))]) rfl k) ?_
              show Go p e below s _ _ _ T259 (mkF m 157 #[.val (.int x0), .val (.int x1), .val (.int x2), .val (.int x3), .val (.int x4), .val (.int x5), .val (.ref a34), .val (.int (1 : Int32)), .val (.int (fMin x1 x2)), .val (.int (fMax x1 x2)), .val (.int (fEnc (fSign (fMin x1 x2) x3) x4)), .val (.int (fEnc (fSign (fMax x1 x2) x3) x5)), .val (.int (0 : Int32)), .val (.int (fAdm1 (fEnc (fSign (fMin x1 x2) x3) x4) (fEnc (fSign (fMax x1 x2) x3) x5)))] [])
              refine go_st (fun _ k => XS.iload X259.here hx rfl (hb hby at_157) rfl k) ?_
              show Go p e below s _ _ _ T259 (mkF m 159 #[.val (.int x0), .val (.int x1), .val (.int x2), .val (.int x3), .val (.int x4), .val (.int x5), .val (.ref a34), .val (.int (1 : Int32)), .val (.int (fMin x1 x2)), .val (.int (fMax x1 x2)), .val (.int (fEnc (fSign (fMin x1 x2) x3) x4)), .val (.int (fEnc (fSign (fMax x1 x2) x3) x5)), .val (.int (0 : Int32)), .val (.int (fAdm1 (fEnc (fSign (fMin x1 x2) x3) x4) (fEnc (fSign (fMax x1 x2) x3) x5)))] [(.int (fAdm1 (fEnc (fSign (fMin x1 x2) x3) x4) (fEnc (fSign (fMax x1 x2) x3) x5)))])
              refine go_st (fun _ k => XS.iload X259.here hx rfl (hb hby at_159) rfl k) ?_
              show Go p e below s _ _ _ T259 (mkF m 161 #[.val (.int x0), .val (.int x1), .val (.int x2), .val (.int x3), .val (.int x4), .val (.int x5), .val (.ref a34), .val (.int (1 : Int32)), .val (.int (fMin x1 x2)), .val (.int (fMax x1 x2)), .val (.int (fEnc (fSign (fMin x1 x2) x3) x4)), .val (.int (fEnc (fSign (fMax x1 x2) x3) x5)), .val (.int (0 : Int32)), .val (.int (fAdm1 (fEnc (fSign (fMin x1 x2) x3) x4) (fEnc (fSign (fMax x1 x2) x3) x5)))] [(.int (0 : Int32)), (.int (fAdm1 (fEnc (fSign (fMin x1 x2) x3) x4) (fEnc (fSign (fMax x1 x2) x3) x5)))])
              by_cases hc279 : (fAdm1 (fEnc (fSign (fMin x1 x2) x3) x4) (fEnc (fSign (fMax x1 x2) x3) x5)) = (0 : Int32)
              · rw [if_pos hc279]
                refine go_st (fun _ k => XS.icmpNo X259.here hx rfl (hb hby at_161) rfl (XT.ii_ne_f hc279) k) ?_
                show Go p e below s _ _ _ T259 (mkF m 164 #[.val (.int x0), .val (.int x1), .val (.int x2), .val (.int x3), .val (.int x4), .val (.int x5), .val (.ref a34), .val (.int (1 : Int32)), .val (.int (fMin x1 x2)), .val (.int (fMax x1 x2)), .val (.int (fEnc (fSign (fMin x1 x2) x3) x4)), .val (.int (fEnc (fSign (fMax x1 x2) x3) x5)), .val (.int (0 : Int32)), .val (.int (fAdm1 (fEnc (fSign (fMin x1 x2) x3) x4) (fEnc (fSign (fMax x1 x2) x3) x5)))] [])
                refine go_st (fun _ k => XT.iconstV X259.here hx rfl (1 : Int32) (hb hby at_164) (by decide) k) ?_
                show Go p e below s _ _ _ T259 (mkF m 165 #[.val (.int x0), .val (.int x1), .val (.int x2), .val (.int x3), .val (.int x4), .val (.int x5), .val (.ref a34), .val (.int (1 : Int32)), .val (.int (fMin x1 x2)), .val (.int (fMax x1 x2)), .val (.int (fEnc (fSign (fMin x1 x2) x3) x4)), .val (.int (fEnc (fSign (fMax x1 x2) x3) x5)), .val (.int (0 : Int32)), .val (.int (fAdm1 (fEnc (fSign (fMin x1 x2) x3) x4) (fEnc (fSign (fMax x1 x2) x3) x5)))] [(.int (1 : Int32))])
                refine go_st (fun _ k => XS.goto X259.here hx rfl (pc0 := 165) (pc' := 169) rfl (hb hby at_165) (by decide) (by decide) k) ?_
                show Go p e below s _ _ _ T259 (mkF m 169 #[.val (.int x0), .val (.int x1), .val (.int x2), .val (.int x3), .val (.int x4), .val (.int x5), .val (.ref a34), .val (.int (1 : Int32)), .val (.int (fMin x1 x2)), .val (.int (fMax x1 x2)), .val (.int (fEnc (fSign (fMin x1 x2) x3) x4)), .val (.int (fEnc (fSign (fMax x1 x2) x3) x5)), .val (.int (0 : Int32)), .val (.int (fAdm1 (fEnc (fSign (fMin x1 x2) x3) x4) (fEnc (fSign (fMax x1 x2) x3) x5)))] [(.int (1 : Int32))])
                exact go_retB (w := (1 : Int32)) X259 hx hlk hret (hb hby at_169) (by decide) (by decide) (by decide) ⟨rfl, N259⟩
              · rw [if_neg hc279]
                refine go_st (fun _ k => XS.icmpYes X259.here hx rfl (pc0 := 161) (pc' := 168) rfl (hb hby at_161) rfl (XT.ii_ne_t hc279) (by decide) (by decide) k) ?_
                show Go p e below s _ _ _ T259 (mkF m 168 #[.val (.int x0), .val (.int x1), .val (.int x2), .val (.int x3), .val (.int x4), .val (.int x5), .val (.ref a34), .val (.int (1 : Int32)), .val (.int (fMin x1 x2)), .val (.int (fMax x1 x2)), .val (.int (fEnc (fSign (fMin x1 x2) x3) x4)), .val (.int (fEnc (fSign (fMax x1 x2) x3) x5)), .val (.int (0 : Int32)), .val (.int (fAdm1 (fEnc (fSign (fMin x1 x2) x3) x4) (fEnc (fSign (fMax x1 x2) x3) x5)))] [])
                refine go_st (fun _ k => XT.iconstV X259.here hx rfl (0 : Int32) (hb hby at_168) (by decide) k) ?_
                show Go p e below s _ _ _ T259 (mkF m 169 #[.val (.int x0), .val (.int x1), .val (.int x2), .val (.int x3), .val (.int x4), .val (.int x5), .val (.ref a34), .val (.int (1 : Int32)), .val (.int (fMin x1 x2)), .val (.int (fMax x1 x2)), .val (.int (fEnc (fSign (fMin x1 x2) x3) x4)), .val (.int (fEnc (fSign (fMax x1 x2) x3) x5)), .val (.int (0 : Int32)), .val (.int (fAdm1 (fEnc (fSign (fMin x1 x2) x3) x4) (fEnc (fSign (fMax x1 x2) x3) x5)))] [(.int (0 : Int32))])
                exact go_retB (w := (0 : Int32)) X259 hx hlk hret (hb hby at_169) (by decide) (by decide) (by decide) ⟨rfl, N259⟩
            · rw [if_neg hk258]
              by_cases hk280 : ((x0 &&& (2147483647 : Int32)) % (6 : Int32)) = (2 : Int32)
              · rw [if_pos hk280]
                rw [hk280]
                show Go p e below s _ _ _ T108 (mkF m 147 #[.val (.int x0), .val (.int x1), .val (.int x2), .val (.int x3), .val (.int x4), .val (.int x5), .val (.ref a34), .val (.int (2 : Int32)), .val (.int (fMin x1 x2)), .val (.int (fMax x1 x2)), .val (.int (fEnc (fSign (fMin x1 x2) x3) x4)), .val (.int (fEnc (fSign (fMax x1 x2) x3) x5)), .val (.int (0 : Int32)), .unset] [(.int (2 : Int32)), (.ref a34)])
                refine go_aald X108 hx hZ e108 A92 rfl (hb hby at_147) rfl rfl (by decide) (.ref o2) rfl ?_
                show Go p e below s _ _ _ T108 (mkF m 148 #[.val (.int x0), .val (.int x1), .val (.int x2), .val (.int x3), .val (.int x4), .val (.int x5), .val (.ref a34), .val (.int (2 : Int32)), .val (.int (fMin x1 x2)), .val (.int (fMax x1 x2)), .val (.int (fEnc (fSign (fMin x1 x2) x3) x4)), .val (.int (fEnc (fSign (fMax x1 x2) x3) x5)), .val (.int (0 : Int32)), .unset] [(.ref o2)])
                refine go_st (fun _ k => XS.iload X108.here hx rfl (hb hby at_148) rfl k) ?_
                show Go p e below s _ _ _ T108 (mkF m 150 #[.val (.int x0), .val (.int x1), .val (.int x2), .val (.int x3), .val (.int x4), .val (.int x5), .val (.ref a34), .val (.int (2 : Int32)), .val (.int (fMin x1 x2)), .val (.int (fMax x1 x2)), .val (.int (fEnc (fSign (fMin x1 x2) x3) x4)), .val (.int (fEnc (fSign (fMax x1 x2) x3) x5)), .val (.int (0 : Int32)), .unset] [(.int (fEnc (fSign (fMin x1 x2) x3) x4)), (.ref o2)])
                refine go_st (fun _ k => XS.iload X108.here hx rfl (hb hby at_150) rfl k) ?_
                show Go p e below s _ _ _ T108 (mkF m 152 #[.val (.int x0), .val (.int x1), .val (.int x2), .val (.int x3), .val (.int x4), .val (.int x5), .val (.ref a34), .val (.int (2 : Int32)), .val (.int (fMin x1 x2)), .val (.int (fMax x1 x2)), .val (.int (fEnc (fSign (fMin x1 x2) x3) x4)), .val (.int (fEnc (fSign (fMax x1 x2) x3) x5)), .val (.int (0 : Int32)), .unset] [(.int (fEnc (fSign (fMax x1 x2) x3) x5)), (.int (fEnc (fSign (fMin x1 x2) x3) x4)), (.ref o2)])
                have c282 := Exa.wr W56 c60
                have c283 := Exa.wr W66 c282
                have c284 := Exa.wr W78 c283
                have c285 := Exa.wr W92 c284
                have c286 := Fld.ext E34 F2
                have c287 := Fld.other W43 c286 (Or.inl ne37)
                have c288 := Fld.other W48 c287 (Or.inl ne37)
                have c289 := Fld.other W56 c288 (Or.inl ne37)
                have c290 := Fld.other W66 c289 (Or.inl ne37)
                have c291 := Fld.other W78 c290 (Or.inl ne37)
                have c292 := Fld.other W92 c291 (Or.inl ne37)
                have z293 : n0 ≤ h34.size := Nat.le_trans Z0 E34.1
                have z294 : n0 ≤ h43.size := (Wr.size W43).symm ▸ z293
                have z295 : n0 ≤ h48.size := (Wr.size W48).symm ▸ z294
                have z296 : n0 ≤ h56.size := (Wr.size W56).symm ▸ z295
                have z297 : n0 ≤ h66.size := (Wr.size W66).symm ▸ z296
                have z298 : n0 ≤ h78.size := (Wr.size W78).symm ▸ z297
                have z299 : n0 ≤ h92.size := (Wr.size W92).symm ▸ z298
                refine go_callV X108 hx hZ hml hown (hw _ (List.mem_of_getElem? (i := 34) rfl)) (hw _ (List.mem_of_getElem? (i := 35) rfl)) (notFace_of_selects (args := #[]) (mvT hZ (hw _ (List.mem_of_getElem? (i := 37) rfl)))) (hw _ (List.mem_of_getElem? (i := 37) rfl)) (hw _ (List.mem_of_getElem? (i := 36) rfl)) (hw _ (List.mem_of_getElem? (i := 38) rfl)) (hw _ (List.mem_of_getElem? (i := 3) rfl)) e108 c285 (argsL := [(.int (fEnc (fSign (fMin x1 x2) x3) x4)), (.int (fEnc (fSign (fMax x1 x2) x3) x5))]) (rest := []) (W := 0) (met_adm2 l Z a0 hw o2 (fEnc (fSign (fMin x1 x2) x3) x4) (fEnc (fSign (fMax x1 x2) x3) x5) h92 n0 z299 c285 c292) (hb hby at_152) rfl rfl rfl (lenOf pd3 rfl) (by show 2 * 0 + _ ≤ _; exact Nat.le_of_eq rfl) (by decide) (by decide) (by decide) (by decide) (by decide) ?_
                intro T281 v281 L281 X281 q281
                obtain ⟨rfl, M281, e281⟩ := q281
                have N281 := Fr.app N108 M281
                show Go p e below s _ _ _ T281 (mkF m 155 #[.val (.int x0), .val (.int x1), .val (.int x2), .val (.int x3), .val (.int x4), .val (.int x5), .val (.ref a34), .val (.int (2 : Int32)), .val (.int (fMin x1 x2)), .val (.int (fMax x1 x2)), .val (.int (fEnc (fSign (fMin x1 x2) x3) x4)), .val (.int (fEnc (fSign (fMax x1 x2) x3) x5)), .val (.int (0 : Int32)), .unset] [(.int (fAdm2 (fEnc (fSign (fMin x1 x2) x3) x4) (fEnc (fSign (fMax x1 x2) x3) x5)))])
                refine go_st (fun _ k => XS.istore X281.here hx rfl (hb hby at_155) rfl (l' := #[.val (.int x0), .val (.int x1), .val (.int x2), .val (.int x3), .val (.int x4), .val (.int x5), .val (.ref a34), .val (.int (2 : Int32)), .val (.int (fMin x1 x2)), .val (.int (fMax x1 x2)), .val (.int (fEnc (fSign (fMin x1 x2) x3) x4)), .val (.int (fEnc (fSign (fMax x1 x2) x3) x5)), .val (.int (0 : Int32)), .val (.int (fAdm2 (fEnc (fSign (fMin x1 x2) x3) x4) (fEnc (fSign (fMax x1 x2) x3) x5)))]) rfl k) ?_
                show Go p e below s _ _ _ T281 (mkF m 157 #[.val (.int x0), .val (.int x1), .val (.int x2), .val (.int x3), .val (.int x4), .val (.int x5), .val (.ref a34), .val (.int (2 : Int32)), .val (.int (fMin x1 x2)), .val (.int (fMax x1 x2)), .val (.int (fEnc (fSign (fMin x1 x2) x3) x4)), .val (.int (fEnc (fSign (fMax x1 x2) x3) x5)), .val (.int (0 : Int32)), .val (.int (fAdm2 (fEnc (fSign (fMin x1 x2) x3) x4) (fEnc (fSign (fMax x1 x2) x3) x5)))] [])
                refine go_st (fun _ k => XS.iload X281.here hx rfl (hb hby at_157) rfl k) ?_
                show Go p e below s _ _ _ T281 (mkF m 159 #[.val (.int x0), .val (.int x1), .val (.int x2), .val (.int x3), .val (.int x4), .val (.int x5), .val (.ref a34), .val (.int (2 : Int32)), .val (.int (fMin x1 x2)), .val (.int (fMax x1 x2)), .val (.int (fEnc (fSign (fMin x1 x2) x3) x4)), .val (.int (fEnc (fSign (fMax x1 x2) x3) x5)), .val (.int (0 : Int32)), .val (.int (fAdm2 (fEnc (fSign (fMin x1 x2) x3) x4) (fEnc (fSign (fMax x1 x2) x3) x5)))] [(.int (fAdm2 (fEnc (fSign (fMin x1 x2) x3) x4) (fEnc (fSign (fMax x1 x2) x3) x5)))])
                refine go_st (fun _ k => XS.iload X281.here hx rfl (hb hby at_159) rfl k) ?_
                show Go p e below s _ _ _ T281 (mkF m 161 #[.val (.int x0), .val (.int x1), .val (.int x2), .val (.int x3), .val (.int x4), .val (.int x5), .val (.ref a34), .val (.int (2 : Int32)), .val (.int (fMin x1 x2)), .val (.int (fMax x1 x2)), .val (.int (fEnc (fSign (fMin x1 x2) x3) x4)), .val (.int (fEnc (fSign (fMax x1 x2) x3) x5)), .val (.int (0 : Int32)), .val (.int (fAdm2 (fEnc (fSign (fMin x1 x2) x3) x4) (fEnc (fSign (fMax x1 x2) x3) x5)))] [(.int (0 : Int32)), (.int (fAdm2 (fEnc (fSign (fMin x1 x2) x3) x4) (fEnc (fSign (fMax x1 x2) x3) x5)))])
                by_cases hc300 : (fAdm2 (fEnc (fSign (fMin x1 x2) x3) x4) (fEnc (fSign (fMax x1 x2) x3) x5)) = (0 : Int32)
                · rw [if_pos hc300]
                  refine go_st (fun _ k => XS.icmpNo X281.here hx rfl (hb hby at_161) rfl (XT.ii_ne_f hc300) k) ?_
                  show Go p e below s _ _ _ T281 (mkF m 164 #[.val (.int x0), .val (.int x1), .val (.int x2), .val (.int x3), .val (.int x4), .val (.int x5), .val (.ref a34), .val (.int (2 : Int32)), .val (.int (fMin x1 x2)), .val (.int (fMax x1 x2)), .val (.int (fEnc (fSign (fMin x1 x2) x3) x4)), .val (.int (fEnc (fSign (fMax x1 x2) x3) x5)), .val (.int (0 : Int32)), .val (.int (fAdm2 (fEnc (fSign (fMin x1 x2) x3) x4) (fEnc (fSign (fMax x1 x2) x3) x5)))] [])
                  refine go_st (fun _ k => XT.iconstV X281.here hx rfl (1 : Int32) (hb hby at_164) (by decide) k) ?_
                  show Go p e below s _ _ _ T281 (mkF m 165 #[.val (.int x0), .val (.int x1), .val (.int x2), .val (.int x3), .val (.int x4), .val (.int x5), .val (.ref a34), .val (.int (2 : Int32)), .val (.int (fMin x1 x2)), .val (.int (fMax x1 x2)), .val (.int (fEnc (fSign (fMin x1 x2) x3) x4)), .val (.int (fEnc (fSign (fMax x1 x2) x3) x5)), .val (.int (0 : Int32)), .val (.int (fAdm2 (fEnc (fSign (fMin x1 x2) x3) x4) (fEnc (fSign (fMax x1 x2) x3) x5)))] [(.int (1 : Int32))])
                  refine go_st (fun _ k => XS.goto X281.here hx rfl (pc0 := 165) (pc' := 169) rfl (hb hby at_165) (by decide) (by decide) k) ?_
                  show Go p e below s _ _ _ T281 (mkF m 169 #[.val (.int x0), .val (.int x1), .val (.int x2), .val (.int x3), .val (.int x4), .val (.int x5), .val (.ref a34), .val (.int (2 : Int32)), .val (.int (fMin x1 x2)), .val (.int (fMax x1 x2)), .val (.int (fEnc (fSign (fMin x1 x2) x3) x4)), .val (.int (fEnc (fSign (fMax x1 x2) x3) x5)), .val (.int (0 : Int32)), .val (.int (fAdm2 (fEnc (fSign (fMin x1 x2) x3) x4) (fEnc (fSign (fMax x1 x2) x3) x5)))] [(.int (1 : Int32))])
                  exact go_retB (w := (1 : Int32)) X281 hx hlk hret (hb hby at_169) (by decide) (by decide) (by decide) ⟨rfl, N281⟩
                · rw [if_neg hc300]
                  refine go_st (fun _ k => XS.icmpYes X281.here hx rfl (pc0 := 161) (pc' := 168) rfl (hb hby at_161) rfl (XT.ii_ne_t hc300) (by decide) (by decide) k) ?_
                  show Go p e below s _ _ _ T281 (mkF m 168 #[.val (.int x0), .val (.int x1), .val (.int x2), .val (.int x3), .val (.int x4), .val (.int x5), .val (.ref a34), .val (.int (2 : Int32)), .val (.int (fMin x1 x2)), .val (.int (fMax x1 x2)), .val (.int (fEnc (fSign (fMin x1 x2) x3) x4)), .val (.int (fEnc (fSign (fMax x1 x2) x3) x5)), .val (.int (0 : Int32)), .val (.int (fAdm2 (fEnc (fSign (fMin x1 x2) x3) x4) (fEnc (fSign (fMax x1 x2) x3) x5)))] [])
                  refine go_st (fun _ k => XT.iconstV X281.here hx rfl (0 : Int32) (hb hby at_168) (by decide) k) ?_
                  show Go p e below s _ _ _ T281 (mkF m 169 #[.val (.int x0), .val (.int x1), .val (.int x2), .val (.int x3), .val (.int x4), .val (.int x5), .val (.ref a34), .val (.int (2 : Int32)), .val (.int (fMin x1 x2)), .val (.int (fMax x1 x2)), .val (.int (fEnc (fSign (fMin x1 x2) x3) x4)), .val (.int (fEnc (fSign (fMax x1 x2) x3) x5)), .val (.int (0 : Int32)), .val (.int (fAdm2 (fEnc (fSign (fMin x1 x2) x3) x4) (fEnc (fSign (fMax x1 x2) x3) x5)))] [(.int (0 : Int32))])
                  exact go_retB (w := (0 : Int32)) X281 hx hlk hret (hb hby at_169) (by decide) (by decide) (by decide) ⟨rfl, N281⟩
              · rw [if_neg hk280]
                by_cases hk301 : ((x0 &&& (2147483647 : Int32)) % (6 : Int32)) = (3 : Int32)
                · rw [if_pos hk301]
                  rw [hk301]
                  show Go p e below s _ _ _ T108 (mkF m 147 #[.val (.int x0), .val (.int x1), .val (.int x2), .val (.int x3), .val (.int x4), .val (.int x5), .val (.ref a34), .val (.int (3 : Int32)), .val (.int (fMin x1 x2)), .val (.int (fMax x1 x2)), .val (.int (fEnc (fSign (fMin x1 x2) x3) x4)), .val (.int (fEnc (fSign (fMax x1 x2) x3) x5)), .val (.int (0 : Int32)), .unset] [(.int (3 : Int32)), (.ref a34)])
                  refine go_aald X108 hx hZ e108 A92 rfl (hb hby at_147) rfl rfl (by decide) (.ref o3) rfl ?_
                  show Go p e below s _ _ _ T108 (mkF m 148 #[.val (.int x0), .val (.int x1), .val (.int x2), .val (.int x3), .val (.int x4), .val (.int x5), .val (.ref a34), .val (.int (3 : Int32)), .val (.int (fMin x1 x2)), .val (.int (fMax x1 x2)), .val (.int (fEnc (fSign (fMin x1 x2) x3) x4)), .val (.int (fEnc (fSign (fMax x1 x2) x3) x5)), .val (.int (0 : Int32)), .unset] [(.ref o3)])
                  refine go_st (fun _ k => XS.iload X108.here hx rfl (hb hby at_148) rfl k) ?_
                  show Go p e below s _ _ _ T108 (mkF m 150 #[.val (.int x0), .val (.int x1), .val (.int x2), .val (.int x3), .val (.int x4), .val (.int x5), .val (.ref a34), .val (.int (3 : Int32)), .val (.int (fMin x1 x2)), .val (.int (fMax x1 x2)), .val (.int (fEnc (fSign (fMin x1 x2) x3) x4)), .val (.int (fEnc (fSign (fMax x1 x2) x3) x5)), .val (.int (0 : Int32)), .unset] [(.int (fEnc (fSign (fMin x1 x2) x3) x4)), (.ref o3)])
                  refine go_st (fun _ k => XS.iload X108.here hx rfl (hb hby at_150) rfl k) ?_
                  show Go p e below s _ _ _ T108 (mkF m 152 #[.val (.int x0), .val (.int x1), .val (.int x2), .val (.int x3), .val (.int x4), .val (.int x5), .val (.ref a34), .val (.int (3 : Int32)), .val (.int (fMin x1 x2)), .val (.int (fMax x1 x2)), .val (.int (fEnc (fSign (fMin x1 x2) x3) x4)), .val (.int (fEnc (fSign (fMax x1 x2) x3) x5)), .val (.int (0 : Int32)), .unset] [(.int (fEnc (fSign (fMax x1 x2) x3) x5)), (.int (fEnc (fSign (fMin x1 x2) x3) x4)), (.ref o3)])
                  have c303 := Exa.wr W66 c71
                  have c304 := Exa.wr W78 c303
                  have c305 := Exa.wr W92 c304
                  have c306 := Fld.ext E34 F3
                  have c307 := Fld.other W43 c306 (Or.inl ne38)
                  have c308 := Fld.other W48 c307 (Or.inl ne38)
                  have c309 := Fld.other W56 c308 (Or.inl ne38)
                  have c310 := Fld.other W66 c309 (Or.inl ne38)
                  have c311 := Fld.other W78 c310 (Or.inl ne38)
                  have c312 := Fld.other W92 c311 (Or.inl ne38)
                  have z313 : n0 ≤ h34.size := Nat.le_trans Z0 E34.1
                  have z314 : n0 ≤ h43.size := (Wr.size W43).symm ▸ z313
                  have z315 : n0 ≤ h48.size := (Wr.size W48).symm ▸ z314
                  have z316 : n0 ≤ h56.size := (Wr.size W56).symm ▸ z315
                  have z317 : n0 ≤ h66.size := (Wr.size W66).symm ▸ z316
                  have z318 : n0 ≤ h78.size := (Wr.size W78).symm ▸ z317
                  have z319 : n0 ≤ h92.size := (Wr.size W92).symm ▸ z318
                  refine go_callV X108 hx hZ hml hown (hw _ (List.mem_of_getElem? (i := 34) rfl)) (hw _ (List.mem_of_getElem? (i := 35) rfl)) (notFace_of_selects (args := #[]) (mvT hZ (hw _ (List.mem_of_getElem? (i := 37) rfl)))) (hw _ (List.mem_of_getElem? (i := 37) rfl)) (hw _ (List.mem_of_getElem? (i := 36) rfl)) (hw _ (List.mem_of_getElem? (i := 38) rfl)) (hw _ (List.mem_of_getElem? (i := 3) rfl)) e108 c305 (argsL := [(.int (fEnc (fSign (fMin x1 x2) x3) x4)), (.int (fEnc (fSign (fMax x1 x2) x3) x5))]) (rest := []) (W := 0) (met_adm3 l Z a0 hw o3 (fEnc (fSign (fMin x1 x2) x3) x4) (fEnc (fSign (fMax x1 x2) x3) x5) h92 n0 z319 c305 c312) (hb hby at_152) rfl rfl rfl (lenOf pd3 rfl) (by show 2 * 0 + _ ≤ _; exact Nat.le_of_eq rfl) (by decide) (by decide) (by decide) (by decide) (by decide) ?_
                  intro T302 v302 L302 X302 q302
                  obtain ⟨rfl, M302, e302⟩ := q302
                  have N302 := Fr.app N108 M302
                  show Go p e below s _ _ _ T302 (mkF m 155 #[.val (.int x0), .val (.int x1), .val (.int x2), .val (.int x3), .val (.int x4), .val (.int x5), .val (.ref a34), .val (.int (3 : Int32)), .val (.int (fMin x1 x2)), .val (.int (fMax x1 x2)), .val (.int (fEnc (fSign (fMin x1 x2) x3) x4)), .val (.int (fEnc (fSign (fMax x1 x2) x3) x5)), .val (.int (0 : Int32)), .unset] [(.int (fAdm3 (fEnc (fSign (fMin x1 x2) x3) x4) (fEnc (fSign (fMax x1 x2) x3) x5)))])
                  refine go_st (fun _ k => XS.istore X302.here hx rfl (hb hby at_155) rfl (l' := #[.val (.int x0), .val (.int x1), .val (.int x2), .val (.int x3), .val (.int x4), .val (.int x5), .val (.ref a34), .val (.int (3 : Int32)), .val (.int (fMin x1 x2)), .val (.int (fMax x1 x2)), .val (.int (fEnc (fSign (fMin x1 x2) x3) x4)), .val (.int (fEnc (fSign (fMax x1 x2) x3) x5)), .val (.int (0 : Int32)), .val (.int (fAdm3 (fEnc (fSign (fMin x1 x2) x3) x4) (fEnc (fSign (fMax x1 x2) x3) x5)))]) rfl k) ?_
                  show Go p e below s _ _ _ T302 (mkF m 157 #[.val (.int x0), .val (.int x1), .val (.int x2), .val (.int x3), .val (.int x4), .val (.int x5), .val (.ref a34), .val (.int (3 : Int32)), .val (.int (fMin x1 x2)), .val (.int (fMax x1 x2)), .val (.int (fEnc (fSign (fMin x1 x2) x3) x4)), .val (.int (fEnc (fSign (fMax x1 x2) x3) x5)), .val (.int (0 : Int32)), .val (.int (fAdm3 (fEnc (fSign (fMin x1 x2) x3) x4) (fEnc (fSign (fMax x1 x2) x3) x5)))] [])
                  refine go_st (fun _ k => XS.iload X302.here hx rfl (hb hby at_157) rfl k) ?_
                  show Go p e below s _ _ _ T302 (mkF m 159 #[.val (.int x0), .val (.int x1), .val (.int x2), .val (.int x3), .val (.int x4), .val (.int x5), .val (.ref a34), .val (.int (3 : Int32)), .val (.int (fMin x1 x2)), .val (.int (fMax x1 x2)), .val (.int (fEnc (fSign (fMin x1 x2) x3) x4)), .val (.int (fEnc (fSign (fMax x1 x2) x3) x5)), .val (.int (0 : Int32)), .val (.int (fAdm3 (fEnc (fSign (fMin x1 x2) x3) x4) (fEnc (fSign (fMax x1 x2) x3) x5)))] [(.int (fAdm3 (fEnc (fSign (fMin x1 x2) x3) x4) (fEnc (fSign (fMax x1 x2) x3) x5)))])
                  refine go_st (fun _ k => XS.iload X302.here hx rfl (hb hby at_159) rfl k) ?_
                  show Go p e below s _ _ _ T302 (mkF m 161 #[.val (.int x0), .val (.int x1), .val (.int x2), .val (.int x3), .val (.int x4), .val (.int x5), .val (.ref a34), .val (.int (3 : Int32)), .val (.int (fMin x1 x2)), .val (.int (fMax x1 x2)), .val (.int (fEnc (fSign (fMin x1 x2) x3) x4)), .val (.int (fEnc (fSign (fMax x1 x2) x3) x5)), .val (.int (0 : Int32)), .val (.int (fAdm3 (fEnc (fSign (fMin x1 x2) x3) x4) (fEnc (fSign (fMax x1 x2) x3) x5)))] [(.int (0 : Int32)), (.int (fAdm3 (fEnc (fSign (fMin x1 x2) x3) x4) (fEnc (fSign (fMax x1 x2) x3) x5)))])
                  by_cases hc320 : (fAdm3 (fEnc (fSign (fMin x1 x2) x3) x4) (fEnc (fSign (fMax x1 x2) x3) x5)) = (0 : Int32)
                  · rw [if_pos hc320]
                    refine go_st (fun _ k => XS.icmpNo X302.here hx rfl (hb hby at_161) rfl (XT.ii_ne_f hc320) k) ?_
                    show Go p e below s _ _ _ T302 (mkF m 164 #[.val (.int x0), .val (.int x1), .val (.int x2), .val (.int x3), .val (.int x4), .val (.int x5), .val (.ref a34), .val (.int (3 : Int32)), .val (.int (fMin x1 x2)), .val (.int (fMax x1 x2)), .val (.int (fEnc (fSign (fMin x1 x2) x3) x4)), .val (.int (fEnc (fSign (fMax x1 x2) x3) x5)), .val (.int (0 : Int32)), .val (.int (fAdm3 (fEnc (fSign (fMin x1 x2) x3) x4) (fEnc (fSign (fMax x1 x2) x3) x5)))] [])
                    refine go_st (fun _ k => XT.iconstV X302.here hx rfl (1 : Int32) (hb hby at_164) (by decide) k) ?_
                    show Go p e below s _ _ _ T302 (mkF m 165 #[.val (.int x0), .val (.int x1), .val (.int x2), .val (.int x3), .val (.int x4), .val (.int x5), .val (.ref a34), .val (.int (3 : Int32)), .val (.int (fMin x1 x2)), .val (.int (fMax x1 x2)), .val (.int (fEnc (fSign (fMin x1 x2) x3) x4)), .val (.int (fEnc (fSign (fMax x1 x2) x3) x5)), .val (.int (0 : Int32)), .val (.int (fAdm3 (fEnc (fSign (fMin x1 x2) x3) x4) (fEnc (fSign (fMax x1 x2) x3) x5)))] [(.int (1 : Int32))])
                    refine go_st (fun _ k => XS.goto X302.here hx rfl (pc0 := 165) (pc' := 169) rfl (hb hby at_165) (by decide) (by decide) k) ?_
                    show Go p e below s _ _ _ T302 (mkF m 169 #[.val (.int x0), .val (.int x1), .val (.int x2), .val (.int x3), .val (.int x4), .val (.int x5), .val (.ref a34), .val (.int (3 : Int32)), .val (.int (fMin x1 x2)), .val (.int (fMax x1 x2)), .val (.int (fEnc (fSign (fMin x1 x2) x3) x4)), .val (.int (fEnc (fSign (fMax x1 x2) x3) x5)), .val (.int (0 : Int32)), .val (.int (fAdm3 (fEnc (fSign (fMin x1 x2) x3) x4) (fEnc (fSign (fMax x1 x2) x3) x5)))] [(.int (1 : Int32))])
                    exact go_retB (w := (1 : Int32)) X302 hx hlk hret (hb hby at_169) (by decide) (by decide) (by decide) ⟨rfl, N302⟩
                  · rw [if_neg hc320]
                    refine go_st (fun _ k => XS.icmpYes X302.here hx rfl (pc0 := 161) (pc' := 168) rfl (hb hby at_161) rfl (XT.ii_ne_t hc320) (by decide) (by decide) k) ?_
                    show Go p e below s _ _ _ T302 (mkF m 168 #[.val (.int x0), .val (.int x1), .val (.int x2), .val (.int x3), .val (.int x4), .val (.int x5), .val (.ref a34), .val (.int (3 : Int32)), .val (.int (fMin x1 x2)), .val (.int (fMax x1 x2)), .val (.int (fEnc (fSign (fMin x1 x2) x3) x4)), .val (.int (fEnc (fSign (fMax x1 x2) x3) x5)), .val (.int (0 : Int32)), .val (.int (fAdm3 (fEnc (fSign (fMin x1 x2) x3) x4) (fEnc (fSign (fMax x1 x2) x3) x5)))] [])
                    refine go_st (fun _ k => XT.iconstV X302.here hx rfl (0 : Int32) (hb hby at_168) (by decide) k) ?_
                    show Go p e below s _ _ _ T302 (mkF m 169 #[.val (.int x0), .val (.int x1), .val (.int x2), .val (.int x3), .val (.int x4), .val (.int x5), .val (.ref a34), .val (.int (3 : Int32)), .val (.int (fMin x1 x2)), .val (.int (fMax x1 x2)), .val (.int (fEnc (fSign (fMin x1 x2) x3) x4)), .val (.int (fEnc (fSign (fMax x1 x2) x3) x5)), .val (.int (0 : Int32)), .val (.int (fAdm3 (fEnc (fSign (fMin x1 x2) x3) x4) (fEnc (fSign (fMax x1 x2) x3) x5)))] [(.int (0 : Int32))])
                    exact go_retB (w := (0 : Int32)) X302 hx hlk hret (hb hby at_169) (by decide) (by decide) (by decide) ⟨rfl, N302⟩
                · rw [if_neg hk301]
                  by_cases hk321 : ((x0 &&& (2147483647 : Int32)) % (6 : Int32)) = (4 : Int32)
                  · rw [if_pos hk321]
                    rw [hk321]
                    show Go p e below s _ _ _ T108 (mkF m 147 #[.val (.int x0), .val (.int x1), .val (.int x2), .val (.int x3), .val (.int x4), .val (.int x5), .val (.ref a34), .val (.int (4 : Int32)), .val (.int (fMin x1 x2)), .val (.int (fMax x1 x2)), .val (.int (fEnc (fSign (fMin x1 x2) x3) x4)), .val (.int (fEnc (fSign (fMax x1 x2) x3) x5)), .val (.int (0 : Int32)), .unset] [(.int (4 : Int32)), (.ref a34)])
                    refine go_aald X108 hx hZ e108 A92 rfl (hb hby at_147) rfl rfl (by decide) (.ref o4) rfl ?_
                    show Go p e below s _ _ _ T108 (mkF m 148 #[.val (.int x0), .val (.int x1), .val (.int x2), .val (.int x3), .val (.int x4), .val (.int x5), .val (.ref a34), .val (.int (4 : Int32)), .val (.int (fMin x1 x2)), .val (.int (fMax x1 x2)), .val (.int (fEnc (fSign (fMin x1 x2) x3) x4)), .val (.int (fEnc (fSign (fMax x1 x2) x3) x5)), .val (.int (0 : Int32)), .unset] [(.ref o4)])
                    refine go_st (fun _ k => XS.iload X108.here hx rfl (hb hby at_148) rfl k) ?_
                    show Go p e below s _ _ _ T108 (mkF m 150 #[.val (.int x0), .val (.int x1), .val (.int x2), .val (.int x3), .val (.int x4), .val (.int x5), .val (.ref a34), .val (.int (4 : Int32)), .val (.int (fMin x1 x2)), .val (.int (fMax x1 x2)), .val (.int (fEnc (fSign (fMin x1 x2) x3) x4)), .val (.int (fEnc (fSign (fMax x1 x2) x3) x5)), .val (.int (0 : Int32)), .unset] [(.int (fEnc (fSign (fMin x1 x2) x3) x4)), (.ref o4)])
                    refine go_st (fun _ k => XS.iload X108.here hx rfl (hb hby at_150) rfl k) ?_
                    show Go p e below s _ _ _ T108 (mkF m 152 #[.val (.int x0), .val (.int x1), .val (.int x2), .val (.int x3), .val (.int x4), .val (.int x5), .val (.ref a34), .val (.int (4 : Int32)), .val (.int (fMin x1 x2)), .val (.int (fMax x1 x2)), .val (.int (fEnc (fSign (fMin x1 x2) x3) x4)), .val (.int (fEnc (fSign (fMax x1 x2) x3) x5)), .val (.int (0 : Int32)), .unset] [(.int (fEnc (fSign (fMax x1 x2) x3) x5)), (.int (fEnc (fSign (fMin x1 x2) x3) x4)), (.ref o4)])
                    have c323 := Exa.wr W78 c84
                    have c324 := Exa.wr W92 c323
                    have c325 := Fld.ext E34 F4
                    have c326 := Fld.other W43 c325 (Or.inl ne39)
                    have c327 := Fld.other W48 c326 (Or.inl ne39)
                    have c328 := Fld.other W56 c327 (Or.inl ne39)
                    have c329 := Fld.other W66 c328 (Or.inl ne39)
                    have c330 := Fld.other W78 c329 (Or.inl ne39)
                    have c331 := Fld.other W92 c330 (Or.inl ne39)
                    have z332 : n0 ≤ h34.size := Nat.le_trans Z0 E34.1
                    have z333 : n0 ≤ h43.size := (Wr.size W43).symm ▸ z332
                    have z334 : n0 ≤ h48.size := (Wr.size W48).symm ▸ z333
                    have z335 : n0 ≤ h56.size := (Wr.size W56).symm ▸ z334
                    have z336 : n0 ≤ h66.size := (Wr.size W66).symm ▸ z335
                    have z337 : n0 ≤ h78.size := (Wr.size W78).symm ▸ z336
                    have z338 : n0 ≤ h92.size := (Wr.size W92).symm ▸ z337
                    refine go_callV X108 hx hZ hml hown (hw _ (List.mem_of_getElem? (i := 34) rfl)) (hw _ (List.mem_of_getElem? (i := 35) rfl)) (notFace_of_selects (args := #[]) (mvT hZ (hw _ (List.mem_of_getElem? (i := 37) rfl)))) (hw _ (List.mem_of_getElem? (i := 37) rfl)) (hw _ (List.mem_of_getElem? (i := 36) rfl)) (hw _ (List.mem_of_getElem? (i := 38) rfl)) (hw _ (List.mem_of_getElem? (i := 3) rfl)) e108 c324 (argsL := [(.int (fEnc (fSign (fMin x1 x2) x3) x4)), (.int (fEnc (fSign (fMax x1 x2) x3) x5))]) (rest := []) (W := 0) (met_adm4 l Z a0 hw o4 (fEnc (fSign (fMin x1 x2) x3) x4) (fEnc (fSign (fMax x1 x2) x3) x5) h92 n0 z338 c324 c331) (hb hby at_152) rfl rfl rfl (lenOf pd3 rfl) (by show 2 * 0 + _ ≤ _; exact Nat.le_of_eq rfl) (by decide) (by decide) (by decide) (by decide) (by decide) ?_
                    intro T322 v322 L322 X322 q322
                    obtain ⟨rfl, M322, e322⟩ := q322
                    have N322 := Fr.app N108 M322
                    show Go p e below s _ _ _ T322 (mkF m 155 #[.val (.int x0), .val (.int x1), .val (.int x2), .val (.int x3), .val (.int x4), .val (.int x5), .val (.ref a34), .val (.int (4 : Int32)), .val (.int (fMin x1 x2)), .val (.int (fMax x1 x2)), .val (.int (fEnc (fSign (fMin x1 x2) x3) x4)), .val (.int (fEnc (fSign (fMax x1 x2) x3) x5)), .val (.int (0 : Int32)), .unset] [(.int (fAdm4 (fEnc (fSign (fMin x1 x2) x3) x4) (fEnc (fSign (fMax x1 x2) x3) x5)))])
                    refine go_st (fun _ k => XS.istore X322.here hx rfl (hb hby at_155) rfl (l' := #[.val (.int x0), .val (.int x1), .val (.int x2), .val (.int x3), .val (.int x4), .val (.int x5), .val (.ref a34), .val (.int (4 : Int32)), .val (.int (fMin x1 x2)), .val (.int (fMax x1 x2)), .val (.int (fEnc (fSign (fMin x1 x2) x3) x4)), .val (.int (fEnc (fSign (fMax x1 x2) x3) x5)), .val (.int (0 : Int32)), .val (.int (fAdm4 (fEnc (fSign (fMin x1 x2) x3) x4) (fEnc (fSign (fMax x1 x2) x3) x5)))]) rfl k) ?_
                    show Go p e below s _ _ _ T322 (mkF m 157 #[.val (.int x0), .val (.int x1), .val (.int x2), .val (.int x3), .val (.int x4), .val (.int x5), .val (.ref a34), .val (.int (4 : Int32)), .val (.int (fMin x1 x2)), .val (.int (fMax x1 x2)), .val (.int (fEnc (fSign (fMin x1 x2) x3) x4)), .val (.int (fEnc (fSign (fMax x1 x2) x3) x5)), .val (.int (0 : Int32)), .val (.int (fAdm4 (fEnc (fSign (fMin x1 x2) x3) x4) (fEnc (fSign (fMax x1 x2) x3) x5)))] [])
                    refine go_st (fun _ k => XS.iload X322.here hx rfl (hb hby at_157) rfl k) ?_
                    show Go p e below s _ _ _ T322 (mkF m 159 #[.val (.int x0), .val (.int x1), .val (.int x2), .val (.int x3), .val (.int x4), .val (.int x5), .val (.ref a34), .val (.int (4 : Int32)), .val (.int (fMin x1 x2)), .val (.int (fMax x1 x2)), .val (.int (fEnc (fSign (fMin x1 x2) x3) x4)), .val (.int (fEnc (fSign (fMax x1 x2) x3) x5)), .val (.int (0 : Int32)), .val (.int (fAdm4 (fEnc (fSign (fMin x1 x2) x3) x4) (fEnc (fSign (fMax x1 x2) x3) x5)))] [(.int (fAdm4 (fEnc (fSign (fMin x1 x2) x3) x4) (fEnc (fSign (fMax x1 x2) x3) x5)))])
                    refine go_st (fun _ k => XS.iload X322.here hx rfl (hb hby at_159) rfl k) ?_
                    show Go p e below s _ _ _ T322 (mkF m 161 #[.val (.int x0), .val (.int x1), .val (.int x2), .val (.int x3), .val (.int x4), .val (.int x5), .val (.ref a34), .val (.int (4 : Int32)), .val (.int (fMin x1 x2)), .val (.int (fMax x1 x2)), .val (.int (fEnc (fSign (fMin x1 x2) x3) x4)), .val (.int (fEnc (fSign (fMax x1 x2) x3) x5)), .val (.int (0 : Int32)), .val (.int (fAdm4 (fEnc (fSign (fMin x1 x2) x3) x4) (fEnc (fSign (fMax x1 x2) x3) x5)))] [(.int (0 : Int32)), (.int (fAdm4 (fEnc (fSign (fMin x1 x2) x3) x4) (fEnc (fSign (fMax x1 x2) x3) x5)))])
                    by_cases hc339 : (fAdm4 (fEnc (fSign (fMin x1 x2) x3) x4) (fEnc (fSign (fMax x1 x2) x3) x5)) = (0 : Int32)
                    · rw [if_pos hc339]
                      refine go_st (fun _ k => XS.icmpNo X322.here hx rfl (hb hby at_161) rfl (XT.ii_ne_f hc339) k) ?_
                      show Go p e below s _ _ _ T322 (mkF m 164 #[.val (.int x0), .val (.int x1), .val (.int x2), .val (.int x3), .val (.int x4), .val (.int x5), .val (.ref a34), .val (.int (4 : Int32)), .val (.int (fMin x1 x2)), .val (.int (fMax x1 x2)), .val (.int (fEnc (fSign (fMin x1 x2) x3) x4)), .val (.int (fEnc (fSign (fMax x1 x2) x3) x5)), .val (.int (0 : Int32)), .val (.int (fAdm4 (fEnc (fSign (fMin x1 x2) x3) x4) (fEnc (fSign (fMax x1 x2) x3) x5)))] [])
                      refine go_st (fun _ k => XT.iconstV X322.here hx rfl (1 : Int32) (hb hby at_164) (by decide) k) ?_
                      show Go p e below s _ _ _ T322 (mkF m 165 #[.val (.int x0), .val (.int x1), .val (.int x2), .val (.int x3), .val (.int x4), .val (.int x5), .val (.ref a34), .val (.int (4 : Int32)), .val (.int (fMin x1 x2)), .val (.int (fMax x1 x2)), .val (.int (fEnc (fSign (fMin x1 x2) x3) x4)), .val (.int (fEnc (fSign (fMax x1 x2) x3) x5)), .val (.int (0 : Int32)), .val (.int (fAdm4 (fEnc (fSign (fMin x1 x2) x3) x4) (fEnc (fSign (fMax x1 x2) x3) x5)))] [(.int (1 : Int32))])
                      refine go_st (fun _ k => XS.goto X322.here hx rfl (pc0 := 165) (pc' := 169) rfl (hb hby at_165) (by decide) (by decide) k) ?_
                      show Go p e below s _ _ _ T322 (mkF m 169 #[.val (.int x0), .val (.int x1), .val (.int x2), .val (.int x3), .val (.int x4), .val (.int x5), .val (.ref a34), .val (.int (4 : Int32)), .val (.int (fMin x1 x2)), .val (.int (fMax x1 x2)), .val (.int (fEnc (fSign (fMin x1 x2) x3) x4)), .val (.int (fEnc (fSign (fMax x1 x2) x3) x5)), .val (.int (0 : Int32)), .val (.int (fAdm4 (fEnc (fSign (fMin x1 x2) x3) x4) (fEnc (fSign (fMax x1 x2) x3) x5)))] [(.int (1 : Int32))])
                      exact go_retB (w := (1 : Int32)) X322 hx hlk hret (hb hby at_169) (by decide) (by decide) (by decide) ⟨rfl, N322⟩
                    · rw [if_neg hc339]
                      refine go_st (fun _ k => XS.icmpYes X322.here hx rfl (pc0 := 161) (pc' := 168) rfl (hb hby at_161) rfl (XT.ii_ne_t hc339) (by decide) (by decide) k) ?_
                      show Go p e below s _ _ _ T322 (mkF m 168 #[.val (.int x0), .val (.int x1), .val (.int x2), .val (.int x3), .val (.int x4), .val (.int x5), .val (.ref a34), .val (.int (4 : Int32)), .val (.int (fMin x1 x2)), .val (.int (fMax x1 x2)), .val (.int (fEnc (fSign (fMin x1 x2) x3) x4)), .val (.int (fEnc (fSign (fMax x1 x2) x3) x5)), .val (.int (0 : Int32)), .val (.int (fAdm4 (fEnc (fSign (fMin x1 x2) x3) x4) (fEnc (fSign (fMax x1 x2) x3) x5)))] [])
                      refine go_st (fun _ k => XT.iconstV X322.here hx rfl (0 : Int32) (hb hby at_168) (by decide) k) ?_
                      show Go p e below s _ _ _ T322 (mkF m 169 #[.val (.int x0), .val (.int x1), .val (.int x2), .val (.int x3), .val (.int x4), .val (.int x5), .val (.ref a34), .val (.int (4 : Int32)), .val (.int (fMin x1 x2)), .val (.int (fMax x1 x2)), .val (.int (fEnc (fSign (fMin x1 x2) x3) x4)), .val (.int (fEnc (fSign (fMax x1 x2) x3) x5)), .val (.int (0 : Int32)), .val (.int (fAdm4 (fEnc (fSign (fMin x1 x2) x3) x4) (fEnc (fSign (fMax x1 x2) x3) x5)))] [(.int (0 : Int32))])
                      exact go_retB (w := (0 : Int32)) X322 hx hlk hret (hb hby at_169) (by decide) (by decide) (by decide) ⟨rfl, N322⟩
                  · rw [if_neg hk321]
                    by_cases hk340 : ((x0 &&& (2147483647 : Int32)) % (6 : Int32)) = (5 : Int32)
                    · rw [if_pos hk340]
                      rw [hk340]
                      show Go p e below s _ _ _ T108 (mkF m 147 #[.val (.int x0), .val (.int x1), .val (.int x2), .val (.int x3), .val (.int x4), .val (.int x5), .val (.ref a34), .val (.int (5 : Int32)), .val (.int (fMin x1 x2)), .val (.int (fMax x1 x2)), .val (.int (fEnc (fSign (fMin x1 x2) x3) x4)), .val (.int (fEnc (fSign (fMax x1 x2) x3) x5)), .val (.int (0 : Int32)), .unset] [(.int (5 : Int32)), (.ref a34)])
                      refine go_aald X108 hx hZ e108 A92 rfl (hb hby at_147) rfl rfl (by decide) (.ref o5) rfl ?_
                      show Go p e below s _ _ _ T108 (mkF m 148 #[.val (.int x0), .val (.int x1), .val (.int x2), .val (.int x3), .val (.int x4), .val (.int x5), .val (.ref a34), .val (.int (5 : Int32)), .val (.int (fMin x1 x2)), .val (.int (fMax x1 x2)), .val (.int (fEnc (fSign (fMin x1 x2) x3) x4)), .val (.int (fEnc (fSign (fMax x1 x2) x3) x5)), .val (.int (0 : Int32)), .unset] [(.ref o5)])
                      refine go_st (fun _ k => XS.iload X108.here hx rfl (hb hby at_148) rfl k) ?_
                      show Go p e below s _ _ _ T108 (mkF m 150 #[.val (.int x0), .val (.int x1), .val (.int x2), .val (.int x3), .val (.int x4), .val (.int x5), .val (.ref a34), .val (.int (5 : Int32)), .val (.int (fMin x1 x2)), .val (.int (fMax x1 x2)), .val (.int (fEnc (fSign (fMin x1 x2) x3) x4)), .val (.int (fEnc (fSign (fMax x1 x2) x3) x5)), .val (.int (0 : Int32)), .unset] [(.int (fEnc (fSign (fMin x1 x2) x3) x4)), (.ref o5)])
                      refine go_st (fun _ k => XS.iload X108.here hx rfl (hb hby at_150) rfl k) ?_
                      show Go p e below s _ _ _ T108 (mkF m 152 #[.val (.int x0), .val (.int x1), .val (.int x2), .val (.int x3), .val (.int x4), .val (.int x5), .val (.ref a34), .val (.int (5 : Int32)), .val (.int (fMin x1 x2)), .val (.int (fMax x1 x2)), .val (.int (fEnc (fSign (fMin x1 x2) x3) x4)), .val (.int (fEnc (fSign (fMax x1 x2) x3) x5)), .val (.int (0 : Int32)), .unset] [(.int (fEnc (fSign (fMax x1 x2) x3) x5)), (.int (fEnc (fSign (fMin x1 x2) x3) x4)), (.ref o5)])
                      have c342 := Exa.wr W92 c99
                      have c343 := Fld.ext E34 F5
                      have c344 := Fld.other W43 c343 (Or.inl ne40)
                      have c345 := Fld.other W48 c344 (Or.inl ne40)
                      have c346 := Fld.other W56 c345 (Or.inl ne40)
                      have c347 := Fld.other W66 c346 (Or.inl ne40)
                      have c348 := Fld.other W78 c347 (Or.inl ne40)
                      have c349 := Fld.other W92 c348 (Or.inl ne40)
                      have z350 : n0 ≤ h34.size := Nat.le_trans Z0 E34.1
                      have z351 : n0 ≤ h43.size := (Wr.size W43).symm ▸ z350
                      have z352 : n0 ≤ h48.size := (Wr.size W48).symm ▸ z351
                      have z353 : n0 ≤ h56.size := (Wr.size W56).symm ▸ z352
                      have z354 : n0 ≤ h66.size := (Wr.size W66).symm ▸ z353
                      have z355 : n0 ≤ h78.size := (Wr.size W78).symm ▸ z354
                      have z356 : n0 ≤ h92.size := (Wr.size W92).symm ▸ z355
                      refine go_callV X108 hx hZ hml hown (hw _ (List.mem_of_getElem? (i := 34) rfl)) (hw _ (List.mem_of_getElem? (i := 35) rfl)) (notFace_of_selects (args := #[]) (mvT hZ (hw _ (List.mem_of_getElem? (i := 37) rfl)))) (hw _ (List.mem_of_getElem? (i := 37) rfl)) (hw _ (List.mem_of_getElem? (i := 36) rfl)) (hw _ (List.mem_of_getElem? (i := 38) rfl)) (hw _ (List.mem_of_getElem? (i := 3) rfl)) e108 c342 (argsL := [(.int (fEnc (fSign (fMin x1 x2) x3) x4)), (.int (fEnc (fSign (fMax x1 x2) x3) x5))]) (rest := []) (W := 0) (met_adm5 l Z a0 hw o5 (fEnc (fSign (fMin x1 x2) x3) x4) (fEnc (fSign (fMax x1 x2) x3) x5) h92 n0 z356 c342 c349) (hb hby at_152) rfl rfl rfl (lenOf pd3 rfl) (by show 2 * 0 + _ ≤ _; exact Nat.le_of_eq rfl) (by decide) (by decide) (by decide) (by decide) (by decide) ?_
                      intro T341 v341 L341 X341 q341
                      obtain ⟨rfl, M341, e341⟩ := q341
                      have N341 := Fr.app N108 M341
                      show Go p e below s _ _ _ T341 (mkF m 155 #[.val (.int x0), .val (.int x1), .val (.int x2), .val (.int x3), .val (.int x4), .val (.int x5), .val (.ref a34), .val (.int (5 : Int32)), .val (.int (fMin x1 x2)), .val (.int (fMax x1 x2)), .val (.int (fEnc (fSign (fMin x1 x2) x3) x4)), .val (.int (fEnc (fSign (fMax x1 x2) x3) x5)), .val (.int (0 : Int32)), .unset] [(.int (fAdm5 (fEnc (fSign (fMin x1 x2) x3) x4) (fEnc (fSign (fMax x1 x2) x3) x5)))])
                      refine go_st (fun _ k => XS.istore X341.here hx rfl (hb hby at_155) rfl (l' := #[.val (.int x0), .val (.int x1), .val (.int x2), .val (.int x3), .val (.int x4), .val (.int x5), .val (.ref a34), .val (.int (5 : Int32)), .val (.int (fMin x1 x2)), .val (.int (fMax x1 x2)), .val (.int (fEnc (fSign (fMin x1 x2) x3) x4)), .val (.int (fEnc (fSign (fMax x1 x2) x3) x5)), .val (.int (0 : Int32)), .val (.int (fAdm5 (fEnc (fSign (fMin x1 x2) x3) x4) (fEnc (fSign (fMax x1 x2) x3) x5)))]) rfl k) ?_
                      show Go p e below s _ _ _ T341 (mkF m 157 #[.val (.int x0), .val (.int x1), .val (.int x2), .val (.int x3), .val (.int x4), .val (.int x5), .val (.ref a34), .val (.int (5 : Int32)), .val (.int (fMin x1 x2)), .val (.int (fMax x1 x2)), .val (.int (fEnc (fSign (fMin x1 x2) x3) x4)), .val (.int (fEnc (fSign (fMax x1 x2) x3) x5)), .val (.int (0 : Int32)), .val (.int (fAdm5 (fEnc (fSign (fMin x1 x2) x3) x4) (fEnc (fSign (fMax x1 x2) x3) x5)))] [])
                      refine go_st (fun _ k => XS.iload X341.here hx rfl (hb hby at_157) rfl k) ?_
                      show Go p e below s _ _ _ T341 (mkF m 159 #[.val (.int x0), .val (.int x1), .val (.int x2), .val (.int x3), .val (.int x4), .val (.int x5), .val (.ref a34), .val (.int (5 : Int32)), .val (.int (fMin x1 x2)), .val (.int (fMax x1 x2)), .val (.int (fEnc (fSign (fMin x1 x2) x3) x4)), .val (.int (fEnc (fSign (fMax x1 x2) x3) x5)), .val (.int (0 : Int32)), .val (.int (fAdm5 (fEnc (fSign (fMin x1 x2) x3) x4) (fEnc (fSign (fMax x1 x2) x3) x5)))] [(.int (fAdm5 (fEnc (fSign (fMin x1 x2) x3) x4) (fEnc (fSign (fMax x1 x2) x3) x5)))])
                      refine go_st (fun _ k => XS.iload X341.here hx rfl (hb hby at_159) rfl k) ?_
                      show Go p e below s _ _ _ T341 (mkF m 161 #[.val (.int x0), .val (.int x1), .val (.int x2), .val (.int x3), .val (.int x4), .val (.int x5), .val (.ref a34), .val (.int (5 : Int32)), .val (.int (fMin x1 x2)), .val (.int (fMax x1 x2)), .val (.int (fEnc (fSign (fMin x1 x2) x3) x4)), .val (.int (fEnc (fSign (fMax x1 x2) x3) x5)), .val (.int (0 : Int32)), .val (.int (fAdm5 (fEnc (fSign (fMin x1 x2) x3) x4) (fEnc (fSign (fMax x1 x2) x3) x5)))] [(.int (0 : Int32)), (.int (fAdm5 (fEnc (fSign (fMin x1 x2) x3) x4) (fEnc (fSign (fMax x1 x2) x3) x5)))])
                      by_cases hc357 : (fAdm5 (fEnc (fSign (fMin x1 x2) x3) x4) (fEnc (fSign (fMax x1 x2) x3) x5)) = (0 : Int32)
                      · rw [if_pos hc357]
                        refine go_st (fun _ k => XS.icmpNo X341.here hx rfl (hb hby at_161) rfl (XT.ii_ne_f hc357) k) ?_
                        show Go p e below s _ _ _ T341 (mkF m 164 #[.val (.int x0), .val (.int x1), .val (.int x2), .val (.int x3), .val (.int x4), .val (.int x5), .val (.ref a34), .val (.int (5 : Int32)), .val (.int (fMin x1 x2)), .val (.int (fMax x1 x2)), .val (.int (fEnc (fSign (fMin x1 x2) x3) x4)), .val (.int (fEnc (fSign (fMax x1 x2) x3) x5)), .val (.int (0 : Int32)), .val (.int (fAdm5 (fEnc (fSign (fMin x1 x2) x3) x4) (fEnc (fSign (fMax x1 x2) x3) x5)))] [])
                        refine go_st (fun _ k => XT.iconstV X341.here hx rfl (1 : Int32) (hb hby at_164) (by decide) k) ?_
                        show Go p e below s _ _ _ T341 (mkF m 165 #[.val (.int x0), .val (.int x1), .val (.int x2), .val (.int x3), .val (.int x4), .val (.int x5), .val (.ref a34), .val (.int (5 : Int32)), .val (.int (fMin x1 x2)), .val (.int (fMax x1 x2)), .val (.int (fEnc (fSign (fMin x1 x2) x3) x4)), .val (.int (fEnc (fSign (fMax x1 x2) x3) x5)), .val (.int (0 : Int32)), .val (.int (fAdm5 (fEnc (fSign (fMin x1 x2) x3) x4) (fEnc (fSign (fMax x1 x2) x3) x5)))] [(.int (1 : Int32))])
                        refine go_st (fun _ k => XS.goto X341.here hx rfl (pc0 := 165) (pc' := 169) rfl (hb hby at_165) (by decide) (by decide) k) ?_
                        show Go p e below s _ _ _ T341 (mkF m 169 #[.val (.int x0), .val (.int x1), .val (.int x2), .val (.int x3), .val (.int x4), .val (.int x5), .val (.ref a34), .val (.int (5 : Int32)), .val (.int (fMin x1 x2)), .val (.int (fMax x1 x2)), .val (.int (fEnc (fSign (fMin x1 x2) x3) x4)), .val (.int (fEnc (fSign (fMax x1 x2) x3) x5)), .val (.int (0 : Int32)), .val (.int (fAdm5 (fEnc (fSign (fMin x1 x2) x3) x4) (fEnc (fSign (fMax x1 x2) x3) x5)))] [(.int (1 : Int32))])
                        exact go_retB (w := (1 : Int32)) X341 hx hlk hret (hb hby at_169) (by decide) (by decide) (by decide) ⟨rfl, N341⟩
                      · rw [if_neg hc357]
                        refine go_st (fun _ k => XS.icmpYes X341.here hx rfl (pc0 := 161) (pc' := 168) rfl (hb hby at_161) rfl (XT.ii_ne_t hc357) (by decide) (by decide) k) ?_
                        show Go p e below s _ _ _ T341 (mkF m 168 #[.val (.int x0), .val (.int x1), .val (.int x2), .val (.int x3), .val (.int x4), .val (.int x5), .val (.ref a34), .val (.int (5 : Int32)), .val (.int (fMin x1 x2)), .val (.int (fMax x1 x2)), .val (.int (fEnc (fSign (fMin x1 x2) x3) x4)), .val (.int (fEnc (fSign (fMax x1 x2) x3) x5)), .val (.int (0 : Int32)), .val (.int (fAdm5 (fEnc (fSign (fMin x1 x2) x3) x4) (fEnc (fSign (fMax x1 x2) x3) x5)))] [])
                        refine go_st (fun _ k => XT.iconstV X341.here hx rfl (0 : Int32) (hb hby at_168) (by decide) k) ?_
                        show Go p e below s _ _ _ T341 (mkF m 169 #[.val (.int x0), .val (.int x1), .val (.int x2), .val (.int x3), .val (.int x4), .val (.int x5), .val (.ref a34), .val (.int (5 : Int32)), .val (.int (fMin x1 x2)), .val (.int (fMax x1 x2)), .val (.int (fEnc (fSign (fMin x1 x2) x3) x4)), .val (.int (fEnc (fSign (fMax x1 x2) x3) x5)), .val (.int (0 : Int32)), .val (.int (fAdm5 (fEnc (fSign (fMin x1 x2) x3) x4) (fEnc (fSign (fMax x1 x2) x3) x5)))] [(.int (0 : Int32))])
                        exact go_retB (w := (0 : Int32)) X341 hx hlk hret (hb hby at_169) (by decide) (by decide) (by decide) ⟨rfl, N341⟩
                    · rw [if_neg hk340]
                      exact (own_six x0 hk235 hk258 hk280 hk301 hk321 hk340).elim
        · rw [if_neg hc234]
          refine go_st (fun _ k => XS.icmpNo X108.here hx rfl (hb hby at_123) rfl (XT.ii_gt_f hc234) k) ?_
          show Go p e below s _ _ _ T108 (mkF m 126 #[.val (.int x0), .val (.int x1), .val (.int x2), .val (.int x3), .val (.int x4), .val (.int x5), .val (.ref a34), .val (.int ((x0 &&& (2147483647 : Int32)) % (6 : Int32))), .val (.int (fMin x1 x2)), .val (.int (fMax x1 x2)), .val (.int (fEnc (fSign (fMin x1 x2) x3) x4)), .val (.int (fEnc (fSign (fMax x1 x2) x3) x5)), .unset, .unset] [])
          refine go_st (fun _ k => XS.iload X108.here hx rfl (hb hby at_126) rfl k) ?_
          show Go p e below s _ _ _ T108 (mkF m 128 #[.val (.int x0), .val (.int x1), .val (.int x2), .val (.int x3), .val (.int x4), .val (.int x5), .val (.ref a34), .val (.int ((x0 &&& (2147483647 : Int32)) % (6 : Int32))), .val (.int (fMin x1 x2)), .val (.int (fMax x1 x2)), .val (.int (fEnc (fSign (fMin x1 x2) x3) x4)), .val (.int (fEnc (fSign (fMax x1 x2) x3) x5)), .unset, .unset] [(.int ((x0 &&& (2147483647 : Int32)) % (6 : Int32)))])
          refine go_st (fun _ k => XS.iloadN X108.here hx rfl (hb hby at_128) rfl k) ?_
          show Go p e below s _ _ _ T108 (mkF m 129 #[.val (.int x0), .val (.int x1), .val (.int x2), .val (.int x3), .val (.int x4), .val (.int x5), .val (.ref a34), .val (.int ((x0 &&& (2147483647 : Int32)) % (6 : Int32))), .val (.int (fMin x1 x2)), .val (.int (fMax x1 x2)), .val (.int (fEnc (fSign (fMin x1 x2) x3) x4)), .val (.int (fEnc (fSign (fMax x1 x2) x3) x5)), .unset, .unset] [(.int x3), (.int ((x0 &&& (2147483647 : Int32)) % (6 : Int32)))])
          refine go_st (fun _ k => XS.iloadN X108.here hx rfl (hb hby at_129) rfl k) ?_
          show Go p e below s _ _ _ T108 (mkF m 130 #[.val (.int x0), .val (.int x1), .val (.int x2), .val (.int x3), .val (.int x4), .val (.int x5), .val (.ref a34), .val (.int ((x0 &&& (2147483647 : Int32)) % (6 : Int32))), .val (.int (fMin x1 x2)), .val (.int (fMax x1 x2)), .val (.int (fEnc (fSign (fMin x1 x2) x3) x4)), .val (.int (fEnc (fSign (fMax x1 x2) x3) x5)), .unset, .unset] [(.int x3), (.int x3), (.int ((x0 &&& (2147483647 : Int32)) % (6 : Int32)))])
          refine go_callS X108 hx hZ hml hown (hw _ (List.mem_of_getElem? (i := 31) rfl)) (hw _ (List.mem_of_getElem? (i := 32) rfl)) (hw _ (List.mem_of_getElem? (i := 26) rfl)) (hw _ (List.mem_of_getElem? (i := 33) rfl)) e108 (argsL := [(.int ((x0 &&& (2147483647 : Int32)) % (6 : Int32))), (.int x3), (.int x3)]) (rest := []) (W := 0) (met_5 l Z a0 hw ((x0 &&& (2147483647 : Int32)) % (6 : Int32)) x3 x3 h92 n0) (hb hby at_130) rfl rfl rfl (lenOf pd2 rfl) (by show 2 * 0 + _ ≤ _; exact Nat.le_of_eq rfl) (by decide) (by decide) (by decide) (by decide) (by decide) ?_
          intro T358 v358 L358 X358 q358
          obtain ⟨rfl, M358, e358⟩ := q358
          have N358 := Fr.app N108 M358
          show Go p e below s _ _ _ T358 (mkF m 133 #[.val (.int x0), .val (.int x1), .val (.int x2), .val (.int x3), .val (.int x4), .val (.int x5), .val (.ref a34), .val (.int ((x0 &&& (2147483647 : Int32)) % (6 : Int32))), .val (.int (fMin x1 x2)), .val (.int (fMax x1 x2)), .val (.int (fEnc (fSign (fMin x1 x2) x3) x4)), .val (.int (fEnc (fSign (fMax x1 x2) x3) x5)), .unset, .unset] [(.int (fSat ((x0 &&& (2147483647 : Int32)) % (6 : Int32)) x3 x3))])
          by_cases hc359 : (fSat ((x0 &&& (2147483647 : Int32)) % (6 : Int32)) x3 x3) = (0 : Int32)
          · rw [if_pos hc359]
            refine go_st (fun _ k => XS.ifYes X358.here hx rfl (pc0 := 133) (pc' := 140) rfl (hb hby at_133) rfl (XT.i0_eq_t hc359) (by decide) (by decide) k) ?_
            show Go p e below s _ _ _ T358 (mkF m 140 #[.val (.int x0), .val (.int x1), .val (.int x2), .val (.int x3), .val (.int x4), .val (.int x5), .val (.ref a34), .val (.int ((x0 &&& (2147483647 : Int32)) % (6 : Int32))), .val (.int (fMin x1 x2)), .val (.int (fMax x1 x2)), .val (.int (fEnc (fSign (fMin x1 x2) x3) x4)), .val (.int (fEnc (fSign (fMax x1 x2) x3) x5)), .unset, .unset] [])
            refine go_st (fun _ k => XT.iconstV X358.here hx rfl (0 : Int32) (hb hby at_140) (by decide) k) ?_
            show Go p e below s _ _ _ T358 (mkF m 141 #[.val (.int x0), .val (.int x1), .val (.int x2), .val (.int x3), .val (.int x4), .val (.int x5), .val (.ref a34), .val (.int ((x0 &&& (2147483647 : Int32)) % (6 : Int32))), .val (.int (fMin x1 x2)), .val (.int (fMax x1 x2)), .val (.int (fEnc (fSign (fMin x1 x2) x3) x4)), .val (.int (fEnc (fSign (fMax x1 x2) x3) x5)), .unset, .unset] [(.int (0 : Int32))])
            refine go_st (fun _ k => XS.istore X358.here hx rfl (hb hby at_141) rfl (l' := #[.val (.int x0), .val (.int x1), .val (.int x2), .val (.int x3), .val (.int x4), .val (.int x5), .val (.ref a34), .val (.int ((x0 &&& (2147483647 : Int32)) % (6 : Int32))), .val (.int (fMin x1 x2)), .val (.int (fMax x1 x2)), .val (.int (fEnc (fSign (fMin x1 x2) x3) x4)), .val (.int (fEnc (fSign (fMax x1 x2) x3) x5)), .val (.int (0 : Int32)), .unset]) rfl k) ?_
            show Go p e below s _ _ _ T358 (mkF m 143 #[.val (.int x0), .val (.int x1), .val (.int x2), .val (.int x3), .val (.int x4), .val (.int x5), .val (.ref a34), .val (.int ((x0 &&& (2147483647 : Int32)) % (6 : Int32))), .val (.int (fMin x1 x2)), .val (.int (fMax x1 x2)), .val (.int (fEnc (fSign (fMin x1 x2) x3) x4)), .val (.int (fEnc (fSign (fMax x1 x2) x3) x5)), .val (.int (0 : Int32)), .unset] [])
            refine go_st (fun _ k => XS.aload X358.here hx rfl (hb hby at_143) rfl rfl k) ?_
            show Go p e below s _ _ _ T358 (mkF m 145 #[.val (.int x0), .val (.int x1), .val (.int x2), .val (.int x3), .val (.int x4), .val (.int x5), .val (.ref a34), .val (.int ((x0 &&& (2147483647 : Int32)) % (6 : Int32))), .val (.int (fMin x1 x2)), .val (.int (fMax x1 x2)), .val (.int (fEnc (fSign (fMin x1 x2) x3) x4)), .val (.int (fEnc (fSign (fMax x1 x2) x3) x5)), .val (.int (0 : Int32)), .unset] [(.ref a34)])
            refine go_st (fun _ k => XS.iload X358.here hx rfl (hb hby at_145) rfl k) ?_
            show Go p e below s _ _ _ T358 (mkF m 147 #[.val (.int x0), .val (.int x1), .val (.int x2), .val (.int x3), .val (.int x4), .val (.int x5), .val (.ref a34), .val (.int ((x0 &&& (2147483647 : Int32)) % (6 : Int32))), .val (.int (fMin x1 x2)), .val (.int (fMax x1 x2)), .val (.int (fEnc (fSign (fMin x1 x2) x3) x4)), .val (.int (fEnc (fSign (fMax x1 x2) x3) x5)), .val (.int (0 : Int32)), .unset] [(.int ((x0 &&& (2147483647 : Int32)) % (6 : Int32))), (.ref a34)])
            by_cases hk360 : ((x0 &&& (2147483647 : Int32)) % (6 : Int32)) = (0 : Int32)
            · rw [if_pos hk360]
              rw [hk360]
              show Go p e below s _ _ _ T358 (mkF m 147 #[.val (.int x0), .val (.int x1), .val (.int x2), .val (.int x3), .val (.int x4), .val (.int x5), .val (.ref a34), .val (.int (0 : Int32)), .val (.int (fMin x1 x2)), .val (.int (fMax x1 x2)), .val (.int (fEnc (fSign (fMin x1 x2) x3) x4)), .val (.int (fEnc (fSign (fMax x1 x2) x3) x5)), .val (.int (0 : Int32)), .unset] [(.int (0 : Int32)), (.ref a34)])
              refine go_aald X358 hx hZ e358 A92 rfl (hb hby at_147) rfl rfl (by decide) (.ref o0) rfl ?_
              show Go p e below s _ _ _ T358 (mkF m 148 #[.val (.int x0), .val (.int x1), .val (.int x2), .val (.int x3), .val (.int x4), .val (.int x5), .val (.ref a34), .val (.int (0 : Int32)), .val (.int (fMin x1 x2)), .val (.int (fMax x1 x2)), .val (.int (fEnc (fSign (fMin x1 x2) x3) x4)), .val (.int (fEnc (fSign (fMax x1 x2) x3) x5)), .val (.int (0 : Int32)), .unset] [(.ref o0)])
              refine go_st (fun _ k => XS.iload X358.here hx rfl (hb hby at_148) rfl k) ?_
              show Go p e below s _ _ _ T358 (mkF m 150 #[.val (.int x0), .val (.int x1), .val (.int x2), .val (.int x3), .val (.int x4), .val (.int x5), .val (.ref a34), .val (.int (0 : Int32)), .val (.int (fMin x1 x2)), .val (.int (fMax x1 x2)), .val (.int (fEnc (fSign (fMin x1 x2) x3) x4)), .val (.int (fEnc (fSign (fMax x1 x2) x3) x5)), .val (.int (0 : Int32)), .unset] [(.int (fEnc (fSign (fMin x1 x2) x3) x4)), (.ref o0)])
              refine go_st (fun _ k => XS.iload X358.here hx rfl (hb hby at_150) rfl k) ?_
              show Go p e below s _ _ _ T358 (mkF m 152 #[.val (.int x0), .val (.int x1), .val (.int x2), .val (.int x3), .val (.int x4), .val (.int x5), .val (.ref a34), .val (.int (0 : Int32)), .val (.int (fMin x1 x2)), .val (.int (fMax x1 x2)), .val (.int (fEnc (fSign (fMin x1 x2) x3) x4)), .val (.int (fEnc (fSign (fMax x1 x2) x3) x5)), .val (.int (0 : Int32)), .unset] [(.int (fEnc (fSign (fMax x1 x2) x3) x5)), (.int (fEnc (fSign (fMin x1 x2) x3) x4)), (.ref o0)])
              have c362 := Exa.wr W43 c44
              have c363 := Exa.wr W48 c362
              have c364 := Exa.wr W56 c363
              have c365 := Exa.wr W66 c364
              have c366 := Exa.wr W78 c365
              have c367 := Exa.wr W92 c366
              have c368 := Fld.ext E34 F0
              have c369 := Fld.other W43 c368 (Or.inl ne35)
              have c370 := Fld.other W48 c369 (Or.inl ne35)
              have c371 := Fld.other W56 c370 (Or.inl ne35)
              have c372 := Fld.other W66 c371 (Or.inl ne35)
              have c373 := Fld.other W78 c372 (Or.inl ne35)
              have c374 := Fld.other W92 c373 (Or.inl ne35)
              have z375 : n0 ≤ h34.size := Nat.le_trans Z0 E34.1
              have z376 : n0 ≤ h43.size := (Wr.size W43).symm ▸ z375
              have z377 : n0 ≤ h48.size := (Wr.size W48).symm ▸ z376
              have z378 : n0 ≤ h56.size := (Wr.size W56).symm ▸ z377
              have z379 : n0 ≤ h66.size := (Wr.size W66).symm ▸ z378
              have z380 : n0 ≤ h78.size := (Wr.size W78).symm ▸ z379
              have z381 : n0 ≤ h92.size := (Wr.size W92).symm ▸ z380
              refine go_callV X358 hx hZ hml hown (hw _ (List.mem_of_getElem? (i := 34) rfl)) (hw _ (List.mem_of_getElem? (i := 35) rfl)) (notFace_of_selects (args := #[]) (mvT hZ (hw _ (List.mem_of_getElem? (i := 37) rfl)))) (hw _ (List.mem_of_getElem? (i := 37) rfl)) (hw _ (List.mem_of_getElem? (i := 36) rfl)) (hw _ (List.mem_of_getElem? (i := 38) rfl)) (hw _ (List.mem_of_getElem? (i := 3) rfl)) e358 c367 (argsL := [(.int (fEnc (fSign (fMin x1 x2) x3) x4)), (.int (fEnc (fSign (fMax x1 x2) x3) x5))]) (rest := []) (W := 0) (met_adm0 l Z a0 hw o0 (fEnc (fSign (fMin x1 x2) x3) x4) (fEnc (fSign (fMax x1 x2) x3) x5) h92 n0 z381 c367 c374) (hb hby at_152) rfl rfl rfl (lenOf pd3 rfl) (by show 2 * 0 + _ ≤ _; exact Nat.le_of_eq rfl) (by decide) (by decide) (by decide) (by decide) (by decide) ?_
              intro T361 v361 L361 X361 q361
              obtain ⟨rfl, M361, e361⟩ := q361
              have N361 := Fr.app N358 M361
              show Go p e below s _ _ _ T361 (mkF m 155 #[.val (.int x0), .val (.int x1), .val (.int x2), .val (.int x3), .val (.int x4), .val (.int x5), .val (.ref a34), .val (.int (0 : Int32)), .val (.int (fMin x1 x2)), .val (.int (fMax x1 x2)), .val (.int (fEnc (fSign (fMin x1 x2) x3) x4)), .val (.int (fEnc (fSign (fMax x1 x2) x3) x5)), .val (.int (0 : Int32)), .unset] [(.int (fAdm0 (fEnc (fSign (fMin x1 x2) x3) x4) (fEnc (fSign (fMax x1 x2) x3) x5)))])
              refine go_st (fun _ k => XS.istore X361.here hx rfl (hb hby at_155) rfl (l' := #[.val (.int x0), .val (.int x1), .val (.int x2), .val (.int x3), .val (.int x4), .val (.int x5), .val (.ref a34), .val (.int (0 : Int32)), .val (.int (fMin x1 x2)), .val (.int (fMax x1 x2)), .val (.int (fEnc (fSign (fMin x1 x2) x3) x4)), .val (.int (fEnc (fSign (fMax x1 x2) x3) x5)), .val (.int (0 : Int32)), .val (.int (fAdm0 (fEnc (fSign (fMin x1 x2) x3) x4) (fEnc (fSign (fMax x1 x2) x3) x5)))]) rfl k) ?_
              show Go p e below s _ _ _ T361 (mkF m 157 #[.val (.int x0), .val (.int x1), .val (.int x2), .val (.int x3), .val (.int x4), .val (.int x5), .val (.ref a34), .val (.int (0 : Int32)), .val (.int (fMin x1 x2)), .val (.int (fMax x1 x2)), .val (.int (fEnc (fSign (fMin x1 x2) x3) x4)), .val (.int (fEnc (fSign (fMax x1 x2) x3) x5)), .val (.int (0 : Int32)), .val (.int (fAdm0 (fEnc (fSign (fMin x1 x2) x3) x4) (fEnc (fSign (fMax x1 x2) x3) x5)))] [])
              refine go_st (fun _ k => XS.iload X361.here hx rfl (hb hby at_157) rfl k) ?_
              show Go p e below s _ _ _ T361 (mkF m 159 #[.val (.int x0), .val (.int x1), .val (.int x2), .val (.int x3), .val (.int x4), .val (.int x5), .val (.ref a34), .val (.int (0 : Int32)), .val (.int (fMin x1 x2)), .val (.int (fMax x1 x2)), .val (.int (fEnc (fSign (fMin x1 x2) x3) x4)), .val (.int (fEnc (fSign (fMax x1 x2) x3) x5)), .val (.int (0 : Int32)), .val (.int (fAdm0 (fEnc (fSign (fMin x1 x2) x3) x4) (fEnc (fSign (fMax x1 x2) x3) x5)))] [(.int (fAdm0 (fEnc (fSign (fMin x1 x2) x3) x4) (fEnc (fSign (fMax x1 x2) x3) x5)))])
              refine go_st (fun _ k => XS.iload X361.here hx rfl (hb hby at_159) rfl k) ?_
              show Go p e below s _ _ _ T361 (mkF m 161 #[.val (.int x0), .val (.int x1), .val (.int x2), .val (.int x3), .val (.int x4), .val (.int x5), .val (.ref a34), .val (.int (0 : Int32)), .val (.int (fMin x1 x2)), .val (.int (fMax x1 x2)), .val (.int (fEnc (fSign (fMin x1 x2) x3) x4)), .val (.int (fEnc (fSign (fMax x1 x2) x3) x5)), .val (.int (0 : Int32)), .val (.int (fAdm0 (fEnc (fSign (fMin x1 x2) x3) x4) (fEnc (fSign (fMax x1 x2) x3) x5)))] [(.int (0 : Int32)), (.int (fAdm0 (fEnc (fSign (fMin x1 x2) x3) x4) (fEnc (fSign (fMax x1 x2) x3) x5)))])
              by_cases hc382 : (fAdm0 (fEnc (fSign (fMin x1 x2) x3) x4) (fEnc (fSign (fMax x1 x2) x3) x5)) = (0 : Int32)
              · rw [if_pos hc382]
                refine go_st (fun _ k => XS.icmpNo X361.here hx rfl (hb hby at_161) rfl (XT.ii_ne_f hc382) k) ?_
                show Go p e below s _ _ _ T361 (mkF m 164 #[.val (.int x0), .val (.int x1), .val (.int x2), .val (.int x3), .val (.int x4), .val (.int x5), .val (.ref a34), .val (.int (0 : Int32)), .val (.int (fMin x1 x2)), .val (.int (fMax x1 x2)), .val (.int (fEnc (fSign (fMin x1 x2) x3) x4)), .val (.int (fEnc (fSign (fMax x1 x2) x3) x5)), .val (.int (0 : Int32)), .val (.int (fAdm0 (fEnc (fSign (fMin x1 x2) x3) x4) (fEnc (fSign (fMax x1 x2) x3) x5)))] [])
                refine go_st (fun _ k => XT.iconstV X361.here hx rfl (1 : Int32) (hb hby at_164) (by decide) k) ?_
                show Go p e below s _ _ _ T361 (mkF m 165 #[.val (.int x0), .val (.int x1), .val (.int x2), .val (.int x3), .val (.int x4), .val (.int x5), .val (.ref a34), .val (.int (0 : Int32)), .val (.int (fMin x1 x2)), .val (.int (fMax x1 x2)), .val (.int (fEnc (fSign (fMin x1 x2) x3) x4)), .val (.int (fEnc (fSign (fMax x1 x2) x3) x5)), .val (.int (0 : Int32)), .val (.int (fAdm0 (fEnc (fSign (fMin x1 x2) x3) x4) (fEnc (fSign (fMax x1 x2) x3) x5)))] [(.int (1 : Int32))])
                refine go_st (fun _ k => XS.goto X361.here hx rfl (pc0 := 165) (pc' := 169) rfl (hb hby at_165) (by decide) (by decide) k) ?_
                show Go p e below s _ _ _ T361 (mkF m 169 #[.val (.int x0), .val (.int x1), .val (.int x2), .val (.int x3), .val (.int x4), .val (.int x5), .val (.ref a34), .val (.int (0 : Int32)), .val (.int (fMin x1 x2)), .val (.int (fMax x1 x2)), .val (.int (fEnc (fSign (fMin x1 x2) x3) x4)), .val (.int (fEnc (fSign (fMax x1 x2) x3) x5)), .val (.int (0 : Int32)), .val (.int (fAdm0 (fEnc (fSign (fMin x1 x2) x3) x4) (fEnc (fSign (fMax x1 x2) x3) x5)))] [(.int (1 : Int32))])
                exact go_retB (w := (1 : Int32)) X361 hx hlk hret (hb hby at_169) (by decide) (by decide) (by decide) ⟨rfl, N361⟩
              · rw [if_neg hc382]
                refine go_st (fun _ k => XS.icmpYes X361.here hx rfl (pc0 := 161) (pc' := 168) rfl (hb hby at_161) rfl (XT.ii_ne_t hc382) (by decide) (by decide) k) ?_
                show Go p e below s _ _ _ T361 (mkF m 168 #[.val (.int x0), .val (.int x1), .val (.int x2), .val (.int x3), .val (.int x4), .val (.int x5), .val (.ref a34), .val (.int (0 : Int32)), .val (.int (fMin x1 x2)), .val (.int (fMax x1 x2)), .val (.int (fEnc (fSign (fMin x1 x2) x3) x4)), .val (.int (fEnc (fSign (fMax x1 x2) x3) x5)), .val (.int (0 : Int32)), .val (.int (fAdm0 (fEnc (fSign (fMin x1 x2) x3) x4) (fEnc (fSign (fMax x1 x2) x3) x5)))] [])
                refine go_st (fun _ k => XT.iconstV X361.here hx rfl (0 : Int32) (hb hby at_168) (by decide) k) ?_
                show Go p e below s _ _ _ T361 (mkF m 169 #[.val (.int x0), .val (.int x1), .val (.int x2), .val (.int x3), .val (.int x4), .val (.int x5), .val (.ref a34), .val (.int (0 : Int32)), .val (.int (fMin x1 x2)), .val (.int (fMax x1 x2)), .val (.int (fEnc (fSign (fMin x1 x2) x3) x4)), .val (.int (fEnc (fSign (fMax x1 x2) x3) x5)), .val (.int (0 : Int32)), .val (.int (fAdm0 (fEnc (fSign (fMin x1 x2) x3) x4) (fEnc (fSign (fMax x1 x2) x3) x5)))] [(.int (0 : Int32))])
                exact go_retB (w := (0 : Int32)) X361 hx hlk hret (hb hby at_169) (by decide) (by decide) (by decide) ⟨rfl, N361⟩
            · rw [if_neg hk360]
              by_cases hk383 : ((x0 &&& (2147483647 : Int32)) % (6 : Int32)) = (1 : Int32)
              · rw [if_pos hk383]
                rw [hk383]
                show Go p e below s _ _ _ T358 (mkF m 147 #[.val (.int x0), .val (.int x1), .val (.int x2), .val (.int x3), .val (.int x4), .val (.int x5), .val (.ref a34), .val (.int (1 : Int32)), .val (.int (fMin x1 x2)), .val (.int (fMax x1 x2)), .val (.int (fEnc (fSign (fMin x1 x2) x3) x4)), .val (.int (fEnc (fSign (fMax x1 x2) x3) x5)), .val (.int (0 : Int32)), .unset] [(.int (1 : Int32)), (.ref a34)])
                refine go_aald X358 hx hZ e358 A92 rfl (hb hby at_147) rfl rfl (by decide) (.ref o1) rfl ?_
                show Go p e below s _ _ _ T358 (mkF m 148 #[.val (.int x0), .val (.int x1), .val (.int x2), .val (.int x3), .val (.int x4), .val (.int x5), .val (.ref a34), .val (.int (1 : Int32)), .val (.int (fMin x1 x2)), .val (.int (fMax x1 x2)), .val (.int (fEnc (fSign (fMin x1 x2) x3) x4)), .val (.int (fEnc (fSign (fMax x1 x2) x3) x5)), .val (.int (0 : Int32)), .unset] [(.ref o1)])
                refine go_st (fun _ k => XS.iload X358.here hx rfl (hb hby at_148) rfl k) ?_
                show Go p e below s _ _ _ T358 (mkF m 150 #[.val (.int x0), .val (.int x1), .val (.int x2), .val (.int x3), .val (.int x4), .val (.int x5), .val (.ref a34), .val (.int (1 : Int32)), .val (.int (fMin x1 x2)), .val (.int (fMax x1 x2)), .val (.int (fEnc (fSign (fMin x1 x2) x3) x4)), .val (.int (fEnc (fSign (fMax x1 x2) x3) x5)), .val (.int (0 : Int32)), .unset] [(.int (fEnc (fSign (fMin x1 x2) x3) x4)), (.ref o1)])
                refine go_st (fun _ k => XS.iload X358.here hx rfl (hb hby at_150) rfl k) ?_
                show Go p e below s _ _ _ T358 (mkF m 152 #[.val (.int x0), .val (.int x1), .val (.int x2), .val (.int x3), .val (.int x4), .val (.int x5), .val (.ref a34), .val (.int (1 : Int32)), .val (.int (fMin x1 x2)), .val (.int (fMax x1 x2)), .val (.int (fEnc (fSign (fMin x1 x2) x3) x4)), .val (.int (fEnc (fSign (fMax x1 x2) x3) x5)), .val (.int (0 : Int32)), .unset] [(.int (fEnc (fSign (fMax x1 x2) x3) x5)), (.int (fEnc (fSign (fMin x1 x2) x3) x4)), (.ref o1)])
                have c385 := Exa.wr W48 c51
                have c386 := Exa.wr W56 c385
                have c387 := Exa.wr W66 c386
                have c388 := Exa.wr W78 c387
                have c389 := Exa.wr W92 c388
                have c390 := Fld.ext E34 F1
                have c391 := Fld.other W43 c390 (Or.inl ne36)
                have c392 := Fld.other W48 c391 (Or.inl ne36)
                have c393 := Fld.other W56 c392 (Or.inl ne36)
                have c394 := Fld.other W66 c393 (Or.inl ne36)
                have c395 := Fld.other W78 c394 (Or.inl ne36)
                have c396 := Fld.other W92 c395 (Or.inl ne36)
                have z397 : n0 ≤ h34.size := Nat.le_trans Z0 E34.1
                have z398 : n0 ≤ h43.size := (Wr.size W43).symm ▸ z397
                have z399 : n0 ≤ h48.size := (Wr.size W48).symm ▸ z398
                have z400 : n0 ≤ h56.size := (Wr.size W56).symm ▸ z399
                have z401 : n0 ≤ h66.size := (Wr.size W66).symm ▸ z400
                have z402 : n0 ≤ h78.size := (Wr.size W78).symm ▸ z401
                have z403 : n0 ≤ h92.size := (Wr.size W92).symm ▸ z402
                refine go_callV X358 hx hZ hml hown (hw _ (List.mem_of_getElem? (i := 34) rfl)) (hw _ (List.mem_of_getElem? (i := 35) rfl)) (notFace_of_selects (args := #[]) (mvT hZ (hw _ (List.mem_of_getElem? (i := 37) rfl)))) (hw _ (List.mem_of_getElem? (i := 37) rfl)) (hw _ (List.mem_of_getElem? (i := 36) rfl)) (hw _ (List.mem_of_getElem? (i := 38) rfl)) (hw _ (List.mem_of_getElem? (i := 3) rfl)) e358 c389 (argsL := [(.int (fEnc (fSign (fMin x1 x2) x3) x4)), (.int (fEnc (fSign (fMax x1 x2) x3) x5))]) (rest := []) (W := 0) (met_adm1 l Z a0 hw o1 (fEnc (fSign (fMin x1 x2) x3) x4) (fEnc (fSign (fMax x1 x2) x3) x5) h92 n0 z403 c389 c396) (hb hby at_152) rfl rfl rfl (lenOf pd3 rfl) (by show 2 * 0 + _ ≤ _; exact Nat.le_of_eq rfl) (by decide) (by decide) (by decide) (by decide) (by decide) ?_
                intro T384 v384 L384 X384 q384
                obtain ⟨rfl, M384, e384⟩ := q384
                have N384 := Fr.app N358 M384
                show Go p e below s _ _ _ T384 (mkF m 155 #[.val (.int x0), .val (.int x1), .val (.int x2), .val (.int x3), .val (.int x4), .val (.int x5), .val (.ref a34), .val (.int (1 : Int32)), .val (.int (fMin x1 x2)), .val (.int (fMax x1 x2)), .val (.int (fEnc (fSign (fMin x1 x2) x3) x4)), .val (.int (fEnc (fSign (fMax x1 x2) x3) x5)), .val (.int (0 : Int32)), .unset] [(.int (fAdm1 (fEnc (fSign (fMin x1 x2) x3) x4) (fEnc (fSign (fMax x1 x2) x3) x5)))])
                refine go_st (fun _ k => XS.istore X384.here hx rfl (hb hby at_155) rfl (l' := #[.val (.int x0), .val (.int x1), .val (.int x2), .val (.int x3), .val (.int x4), .val (.int x5), .val (.ref a34), .val (.int (1 : Int32)), .val (.int (fMin x1 x2)), .val (.int (fMax x1 x2)), .val (.int (fEnc (fSign (fMin x1 x2) x3) x4)), .val (.int (fEnc (fSign (fMax x1 x2) x3) x5)), .val (.int (0 : Int32)), .val (.int (fAdm1 (fEnc (fSign (fMin x1 x2) x3) x4) (fEnc (fSign (fMax x1 x2) x3) x5)))]) rfl k) ?_
                show Go p e below s _ _ _ T384 (mkF m 157 #[.val (.int x0), .val (.int x1), .val (.int x2), .val (.int x3), .val (.int x4), .val (.int x5), .val (.ref a34), .val (.int (1 : Int32)), .val (.int (fMin x1 x2)), .val (.int (fMax x1 x2)), .val (.int (fEnc (fSign (fMin x1 x2) x3) x4)), .val (.int (fEnc (fSign (fMax x1 x2) x3) x5)), .val (.int (0 : Int32)), .val (.int (fAdm1 (fEnc (fSign (fMin x1 x2) x3) x4) (fEnc (fSign (fMax x1 x2) x3) x5)))] [])
                refine go_st (fun _ k => XS.iload X384.here hx rfl (hb hby at_157) rfl k) ?_
                show Go p e below s _ _ _ T384 (mkF m 159 #[.val (.int x0), .val (.int x1), .val (.int x2), .val (.int x3), .val (.int x4), .val (.int x5), .val (.ref a34), .val (.int (1 : Int32)), .val (.int (fMin x1 x2)), .val (.int (fMax x1 x2)), .val (.int (fEnc (fSign (fMin x1 x2) x3) x4)), .val (.int (fEnc (fSign (fMax x1 x2) x3) x5)), .val (.int (0 : Int32)), .val (.int (fAdm1 (fEnc (fSign (fMin x1 x2) x3) x4) (fEnc (fSign (fMax x1 x2) x3) x5)))] [(.int (fAdm1 (fEnc (fSign (fMin x1 x2) x3) x4) (fEnc (fSign (fMax x1 x2) x3) x5)))])
                refine go_st (fun _ k => XS.iload X384.here hx rfl (hb hby at_159) rfl k) ?_
                show Go p e below s _ _ _ T384 (mkF m 161 #[.val (.int x0), .val (.int x1), .val (.int x2), .val (.int x3), .val (.int x4), .val (.int x5), .val (.ref a34), .val (.int (1 : Int32)), .val (.int (fMin x1 x2)), .val (.int (fMax x1 x2)), .val (.int (fEnc (fSign (fMin x1 x2) x3) x4)), .val (.int (fEnc (fSign (fMax x1 x2) x3) x5)), .val (.int (0 : Int32)), .val (.int (fAdm1 (fEnc (fSign (fMin x1 x2) x3) x4) (fEnc (fSign (fMax x1 x2) x3) x5)))] [(.int (0 : Int32)), (.int (fAdm1 (fEnc (fSign (fMin x1 x2) x3) x4) (fEnc (fSign (fMax x1 x2) x3) x5)))])
                by_cases hc404 : (fAdm1 (fEnc (fSign (fMin x1 x2) x3) x4) (fEnc (fSign (fMax x1 x2) x3) x5)) = (0 : Int32)
                · rw [if_pos hc404]
                  refine go_st (fun _ k => XS.icmpNo X384.here hx rfl (hb hby at_161) rfl (XT.ii_ne_f hc404) k) ?_
                  show Go p e below s _ _ _ T384 (mkF m 164 #[.val (.int x0), .val (.int x1), .val (.int x2), .val (.int x3), .val (.int x4), .val (.int x5), .val (.ref a34), .val (.int (1 : Int32)), .val (.int (fMin x1 x2)), .val (.int (fMax x1 x2)), .val (.int (fEnc (fSign (fMin x1 x2) x3) x4)), .val (.int (fEnc (fSign (fMax x1 x2) x3) x5)), .val (.int (0 : Int32)), .val (.int (fAdm1 (fEnc (fSign (fMin x1 x2) x3) x4) (fEnc (fSign (fMax x1 x2) x3) x5)))] [])
                  refine go_st (fun _ k => XT.iconstV X384.here hx rfl (1 : Int32) (hb hby at_164) (by decide) k) ?_
                  show Go p e below s _ _ _ T384 (mkF m 165 #[.val (.int x0), .val (.int x1), .val (.int x2), .val (.int x3), .val (.int x4), .val (.int x5), .val (.ref a34), .val (.int (1 : Int32)), .val (.int (fMin x1 x2)), .val (.int (fMax x1 x2)), .val (.int (fEnc (fSign (fMin x1 x2) x3) x4)), .val (.int (fEnc (fSign (fMax x1 x2) x3) x5)), .val (.int (0 : Int32)), .val (.int (fAdm1 (fEnc (fSign (fMin x1 x2) x3) x4) (fEnc (fSign (fMax x1 x2) x3) x5)))] [(.int (1 : Int32))])
                  refine go_st (fun _ k => XS.goto X384.here hx rfl (pc0 := 165) (pc' := 169) rfl (hb hby at_165) (by decide) (by decide) k) ?_
                  show Go p e below s _ _ _ T384 (mkF m 169 #[.val (.int x0), .val (.int x1), .val (.int x2), .val (.int x3), .val (.int x4), .val (.int x5), .val (.ref a34), .val (.int (1 : Int32)), .val (.int (fMin x1 x2)), .val (.int (fMax x1 x2)), .val (.int (fEnc (fSign (fMin x1 x2) x3) x4)), .val (.int (fEnc (fSign (fMax x1 x2) x3) x5)), .val (.int (0 : Int32)), .val (.int (fAdm1 (fEnc (fSign (fMin x1 x2) x3) x4) (fEnc (fSign (fMax x1 x2) x3) x5)))] [(.int (1 : Int32))])
                  exact go_retB (w := (1 : Int32)) X384 hx hlk hret (hb hby at_169) (by decide) (by decide) (by decide) ⟨rfl, N384⟩
                · rw [if_neg hc404]
                  refine go_st (fun _ k => XS.icmpYes X384.here hx rfl (pc0 := 161) (pc' := 168) rfl (hb hby at_161) rfl (XT.ii_ne_t hc404) (by decide) (by decide) k) ?_
                  show Go p e below s _ _ _ T384 (mkF m 168 #[.val (.int x0), .val (.int x1), .val (.int x2), .val (.int x3), .val (.int x4), .val (.int x5), .val (.ref a34), .val (.int (1 : Int32)), .val (.int (fMin x1 x2)), .val (.int (fMax x1 x2)), .val (.int (fEnc (fSign (fMin x1 x2) x3) x4)), .val (.int (fEnc (fSign (fMax x1 x2) x3) x5)), .val (.int (0 : Int32)), .val (.int (fAdm1 (fEnc (fSign (fMin x1 x2) x3) x4) (fEnc (fSign (fMax x1 x2) x3) x5)))] [])
                  refine go_st (fun _ k => XT.iconstV X384.here hx rfl (0 : Int32) (hb hby at_168) (by decide) k) ?_
                  show Go p e below s _ _ _ T384 (mkF m 169 #[.val (.int x0), .val (.int x1), .val (.int x2), .val (.int x3), .val (.int x4), .val (.int x5), .val (.ref a34), .val (.int (1 : Int32)), .val (.int (fMin x1 x2)), .val (.int (fMax x1 x2)), .val (.int (fEnc (fSign (fMin x1 x2) x3) x4)), .val (.int (fEnc (fSign (fMax x1 x2) x3) x5)), .val (.int (0 : Int32)), .val (.int (fAdm1 (fEnc (fSign (fMin x1 x2) x3) x4) (fEnc (fSign (fMax x1 x2) x3) x5)))] [(.int (0 : Int32))])
                  exact go_retB (w := (0 : Int32)) X384 hx hlk hret (hb hby at_169) (by decide) (by decide) (by decide) ⟨rfl, N384⟩
              · rw [if_neg hk383]
                by_cases hk405 : ((x0 &&& (2147483647 : Int32)) % (6 : Int32)) = (2 : Int32)
                · rw [if_pos hk405]
                  rw [hk405]
                  show Go p e below s _ _ _ T358 (mkF m 147 #[.val (.int x0), .val (.int x1), .val (.int x2), .val (.int x3), .val (.int x4), .val (.int x5), .val (.ref a34), .val (.int (2 : Int32)), .val (.int (fMin x1 x2)), .val (.int (fMax x1 x2)), .val (.int (fEnc (fSign (fMin x1 x2) x3) x4)), .val (.int (fEnc (fSign (fMax x1 x2) x3) x5)), .val (.int (0 : Int32)), .unset] [(.int (2 : Int32)), (.ref a34)])
                  refine go_aald X358 hx hZ e358 A92 rfl (hb hby at_147) rfl rfl (by decide) (.ref o2) rfl ?_
                  show Go p e below s _ _ _ T358 (mkF m 148 #[.val (.int x0), .val (.int x1), .val (.int x2), .val (.int x3), .val (.int x4), .val (.int x5), .val (.ref a34), .val (.int (2 : Int32)), .val (.int (fMin x1 x2)), .val (.int (fMax x1 x2)), .val (.int (fEnc (fSign (fMin x1 x2) x3) x4)), .val (.int (fEnc (fSign (fMax x1 x2) x3) x5)), .val (.int (0 : Int32)), .unset] [(.ref o2)])
                  refine go_st (fun _ k => XS.iload X358.here hx rfl (hb hby at_148) rfl k) ?_
                  show Go p e below s _ _ _ T358 (mkF m 150 #[.val (.int x0), .val (.int x1), .val (.int x2), .val (.int x3), .val (.int x4), .val (.int x5), .val (.ref a34), .val (.int (2 : Int32)), .val (.int (fMin x1 x2)), .val (.int (fMax x1 x2)), .val (.int (fEnc (fSign (fMin x1 x2) x3) x4)), .val (.int (fEnc (fSign (fMax x1 x2) x3) x5)), .val (.int (0 : Int32)), .unset] [(.int (fEnc (fSign (fMin x1 x2) x3) x4)), (.ref o2)])
                  refine go_st (fun _ k => XS.iload X358.here hx rfl (hb hby at_150) rfl k) ?_
                  show Go p e below s _ _ _ T358 (mkF m 152 #[.val (.int x0), .val (.int x1), .val (.int x2), .val (.int x3), .val (.int x4), .val (.int x5), .val (.ref a34), .val (.int (2 : Int32)), .val (.int (fMin x1 x2)), .val (.int (fMax x1 x2)), .val (.int (fEnc (fSign (fMin x1 x2) x3) x4)), .val (.int (fEnc (fSign (fMax x1 x2) x3) x5)), .val (.int (0 : Int32)), .unset] [(.int (fEnc (fSign (fMax x1 x2) x3) x5)), (.int (fEnc (fSign (fMin x1 x2) x3) x4)), (.ref o2)])
                  have c407 := Exa.wr W56 c60
                  have c408 := Exa.wr W66 c407
                  have c409 := Exa.wr W78 c408
                  have c410 := Exa.wr W92 c409
                  have c411 := Fld.ext E34 F2
                  have c412 := Fld.other W43 c411 (Or.inl ne37)
                  have c413 := Fld.other W48 c412 (Or.inl ne37)
                  have c414 := Fld.other W56 c413 (Or.inl ne37)
                  have c415 := Fld.other W66 c414 (Or.inl ne37)
                  have c416 := Fld.other W78 c415 (Or.inl ne37)
                  have c417 := Fld.other W92 c416 (Or.inl ne37)
                  have z418 : n0 ≤ h34.size := Nat.le_trans Z0 E34.1
                  have z419 : n0 ≤ h43.size := (Wr.size W43).symm ▸ z418
                  have z420 : n0 ≤ h48.size := (Wr.size W48).symm ▸ z419
                  have z421 : n0 ≤ h56.size := (Wr.size W56).symm ▸ z420
                  have z422 : n0 ≤ h66.size := (Wr.size W66).symm ▸ z421
                  have z423 : n0 ≤ h78.size := (Wr.size W78).symm ▸ z422
                  have z424 : n0 ≤ h92.size := (Wr.size W92).symm ▸ z423
                  refine go_callV X358 hx hZ hml hown (hw _ (List.mem_of_getElem? (i := 34) rfl)) (hw _ (List.mem_of_getElem? (i := 35) rfl)) (notFace_of_selects (args := #[]) (mvT hZ (hw _ (List.mem_of_getElem? (i := 37) rfl)))) (hw _ (List.mem_of_getElem? (i := 37) rfl)) (hw _ (List.mem_of_getElem? (i := 36) rfl)) (hw _ (List.mem_of_getElem? (i := 38) rfl)) (hw _ (List.mem_of_getElem? (i := 3) rfl)) e358 c410 (argsL := [(.int (fEnc (fSign (fMin x1 x2) x3) x4)), (.int (fEnc (fSign (fMax x1 x2) x3) x5))]) (rest := []) (W := 0) (met_adm2 l Z a0 hw o2 (fEnc (fSign (fMin x1 x2) x3) x4) (fEnc (fSign (fMax x1 x2) x3) x5) h92 n0 z424 c410 c417) (hb hby at_152) rfl rfl rfl (lenOf pd3 rfl) (by show 2 * 0 + _ ≤ _; exact Nat.le_of_eq rfl) (by decide) (by decide) (by decide) (by decide) (by decide) ?_
                  intro T406 v406 L406 X406 q406
                  obtain ⟨rfl, M406, e406⟩ := q406
                  have N406 := Fr.app N358 M406
                  show Go p e below s _ _ _ T406 (mkF m 155 #[.val (.int x0), .val (.int x1), .val (.int x2), .val (.int x3), .val (.int x4), .val (.int x5), .val (.ref a34), .val (.int (2 : Int32)), .val (.int (fMin x1 x2)), .val (.int (fMax x1 x2)), .val (.int (fEnc (fSign (fMin x1 x2) x3) x4)), .val (.int (fEnc (fSign (fMax x1 x2) x3) x5)), .val (.int (0 : Int32)), .unset] [(.int (fAdm2 (fEnc (fSign (fMin x1 x2) x3) x4) (fEnc (fSign (fMax x1 x2) x3) x5)))])
                  refine go_st (fun _ k => XS.istore X406.here hx rfl (hb hby at_155) rfl (l' := #[.val (.int x0), .val (.int x1), .val (.int x2), .val (.int x3), .val (.int x4), .val (.int x5), .val (.ref a34), .val (.int (2 : Int32)), .val (.int (fMin x1 x2)), .val (.int (fMax x1 x2)), .val (.int (fEnc (fSign (fMin x1 x2) x3) x4)), .val (.int (fEnc (fSign (fMax x1 x2) x3) x5)), .val (.int (0 : Int32)), .val (.int (fAdm2 (fEnc (fSign (fMin x1 x2) x3) x4) (fEnc (fSign (fMax x1 x2) x3) x5)))]) rfl k) ?_
                  show Go p e below s _ _ _ T406 (mkF m 157 #[.val (.int x0), .val (.int x1), .val (.int x2), .val (.int x3), .val (.int x4), .val (.int x5), .val (.ref a34), .val (.int (2 : Int32)), .val (.int (fMin x1 x2)), .val (.int (fMax x1 x2)), .val (.int (fEnc (fSign (fMin x1 x2) x3) x4)), .val (.int (fEnc (fSign (fMax x1 x2) x3) x5)), .val (.int (0 : Int32)), .val (.int (fAdm2 (fEnc (fSign (fMin x1 x2) x3) x4) (fEnc (fSign (fMax x1 x2) x3) x5)))] [])
                  refine go_st (fun _ k => XS.iload X406.here hx rfl (hb hby at_157) rfl k) ?_
                  show Go p e below s _ _ _ T406 (mkF m 159 #[.val (.int x0), .val (.int x1), .val (.int x2), .val (.int x3), .val (.int x4), .val (.int x5), .val (.ref a34), .val (.int (2 : Int32)), .val (.int (fMin x1 x2)), .val (.int (fMax x1 x2)), .val (.int (fEnc (fSign (fMin x1 x2) x3) x4)), .val (.int (fEnc (fSign (fMax x1 x2) x3) x5)), .val (.int (0 : Int32)), .val (.int (fAdm2 (fEnc (fSign (fMin x1 x2) x3) x4) (fEnc (fSign (fMax x1 x2) x3) x5)))] [(.int (fAdm2 (fEnc (fSign (fMin x1 x2) x3) x4) (fEnc (fSign (fMax x1 x2) x3) x5)))])
                  refine go_st (fun _ k => XS.iload X406.here hx rfl (hb hby at_159) rfl k) ?_
                  show Go p e below s _ _ _ T406 (mkF m 161 #[.val (.int x0), .val (.int x1), .val (.int x2), .val (.int x3), .val (.int x4), .val (.int x5), .val (.ref a34), .val (.int (2 : Int32)), .val (.int (fMin x1 x2)), .val (.int (fMax x1 x2)), .val (.int (fEnc (fSign (fMin x1 x2) x3) x4)), .val (.int (fEnc (fSign (fMax x1 x2) x3) x5)), .val (.int (0 : Int32)), .val (.int (fAdm2 (fEnc (fSign (fMin x1 x2) x3) x4) (fEnc (fSign (fMax x1 x2) x3) x5)))] [(.int (0 : Int32)), (.int (fAdm2 (fEnc (fSign (fMin x1 x2) x3) x4) (fEnc (fSign (fMax x1 x2) x3) x5)))])
                  by_cases hc425 : (fAdm2 (fEnc (fSign (fMin x1 x2) x3) x4) (fEnc (fSign (fMax x1 x2) x3) x5)) = (0 : Int32)
                  · rw [if_pos hc425]
                    refine go_st (fun _ k => XS.icmpNo X406.here hx rfl (hb hby at_161) rfl (XT.ii_ne_f hc425) k) ?_
                    show Go p e below s _ _ _ T406 (mkF m 164 #[.val (.int x0), .val (.int x1), .val (.int x2), .val (.int x3), .val (.int x4), .val (.int x5), .val (.ref a34), .val (.int (2 : Int32)), .val (.int (fMin x1 x2)), .val (.int (fMax x1 x2)), .val (.int (fEnc (fSign (fMin x1 x2) x3) x4)), .val (.int (fEnc (fSign (fMax x1 x2) x3) x5)), .val (.int (0 : Int32)), .val (.int (fAdm2 (fEnc (fSign (fMin x1 x2) x3) x4) (fEnc (fSign (fMax x1 x2) x3) x5)))] [])
                    refine go_st (fun _ k => XT.iconstV X406.here hx rfl (1 : Int32) (hb hby at_164) (by decide) k) ?_
                    show Go p e below s _ _ _ T406 (mkF m 165 #[.val (.int x0), .val (.int x1), .val (.int x2), .val (.int x3), .val (.int x4), .val (.int x5), .val (.ref a34), .val (.int (2 : Int32)), .val (.int (fMin x1 x2)), .val (.int (fMax x1 x2)), .val (.int (fEnc (fSign (fMin x1 x2) x3) x4)), .val (.int (fEnc (fSign (fMax x1 x2) x3) x5)), .val (.int (0 : Int32)), .val (.int (fAdm2 (fEnc (fSign (fMin x1 x2) x3) x4) (fEnc (fSign (fMax x1 x2) x3) x5)))] [(.int (1 : Int32))])
                    refine go_st (fun _ k => XS.goto X406.here hx rfl (pc0 := 165) (pc' := 169) rfl (hb hby at_165) (by decide) (by decide) k) ?_
                    show Go p e below s _ _ _ T406 (mkF m 169 #[.val (.int x0), .val (.int x1), .val (.int x2), .val (.int x3), .val (.int x4), .val (.int x5), .val (.ref a34), .val (.int (2 : Int32)), .val (.int (fMin x1 x2)), .val (.int (fMax x1 x2)), .val (.int (fEnc (fSign (fMin x1 x2) x3) x4)), .val (.int (fEnc (fSign (fMax x1 x2) x3) x5)), .val (.int (0 : Int32)), .val (.int (fAdm2 (fEnc (fSign (fMin x1 x2) x3) x4) (fEnc (fSign (fMax x1 x2) x3) x5)))] [(.int (1 : Int32))])
                    exact go_retB (w := (1 : Int32)) X406 hx hlk hret (hb hby at_169) (by decide) (by decide) (by decide) ⟨rfl, N406⟩
                  · rw [if_neg hc425]
                    refine go_st (fun _ k => XS.icmpYes X406.here hx rfl (pc0 := 161) (pc' := 168) rfl (hb hby at_161) rfl (XT.ii_ne_t hc425) (by decide) (by decide) k) ?_
                    show Go p e below s _ _ _ T406 (mkF m 168 #[.val (.int x0), .val (.int x1), .val (.int x2), .val (.int x3), .val (.int x4), .val (.int x5), .val (.ref a34), .val (.int (2 : Int32)), .val (.int (fMin x1 x2)), .val (.int (fMax x1 x2)), .val (.int (fEnc (fSign (fMin x1 x2) x3) x4)), .val (.int (fEnc (fSign (fMax x1 x2) x3) x5)), .val (.int (0 : Int32)), .val (.int (fAdm2 (fEnc (fSign (fMin x1 x2) x3) x4) (fEnc (fSign (fMax x1 x2) x3) x5)))] [])
                    refine go_st (fun _ k => XT.iconstV X406.here hx rfl (0 : Int32) (hb hby at_168) (by decide) k) ?_
                    show Go p e below s _ _ _ T406 (mkF m 169 #[.val (.int x0), .val (.int x1), .val (.int x2), .val (.int x3), .val (.int x4), .val (.int x5), .val (.ref a34), .val (.int (2 : Int32)), .val (.int (fMin x1 x2)), .val (.int (fMax x1 x2)), .val (.int (fEnc (fSign (fMin x1 x2) x3) x4)), .val (.int (fEnc (fSign (fMax x1 x2) x3) x5)), .val (.int (0 : Int32)), .val (.int (fAdm2 (fEnc (fSign (fMin x1 x2) x3) x4) (fEnc (fSign (fMax x1 x2) x3) x5)))] [(.int (0 : Int32))])
                    exact go_retB (w := (0 : Int32)) X406 hx hlk hret (hb hby at_169) (by decide) (by decide) (by decide) ⟨rfl, N406⟩
                · rw [if_neg hk405]
                  by_cases hk426 : ((x0 &&& (2147483647 : Int32)) % (6 : Int32)) = (3 : Int32)
                  · rw [if_pos hk426]
                    rw [hk426]
                    show Go p e below s _ _ _ T358 (mkF m 147 #[.val (.int x0), .val (.int x1), .val (.int x2), .val (.int x3), .val (.int x4), .val (.int x5), .val (.ref a34), .val (.int (3 : Int32)), .val (.int (fMin x1 x2)), .val (.int (fMax x1 x2)), .val (.int (fEnc (fSign (fMin x1 x2) x3) x4)), .val (.int (fEnc (fSign (fMax x1 x2) x3) x5)), .val (.int (0 : Int32)), .unset] [(.int (3 : Int32)), (.ref a34)])
                    refine go_aald X358 hx hZ e358 A92 rfl (hb hby at_147) rfl rfl (by decide) (.ref o3) rfl ?_
                    show Go p e below s _ _ _ T358 (mkF m 148 #[.val (.int x0), .val (.int x1), .val (.int x2), .val (.int x3), .val (.int x4), .val (.int x5), .val (.ref a34), .val (.int (3 : Int32)), .val (.int (fMin x1 x2)), .val (.int (fMax x1 x2)), .val (.int (fEnc (fSign (fMin x1 x2) x3) x4)), .val (.int (fEnc (fSign (fMax x1 x2) x3) x5)), .val (.int (0 : Int32)), .unset] [(.ref o3)])
                    refine go_st (fun _ k => XS.iload X358.here hx rfl (hb hby at_148) rfl k) ?_
                    show Go p e below s _ _ _ T358 (mkF m 150 #[.val (.int x0), .val (.int x1), .val (.int x2), .val (.int x3), .val (.int x4), .val (.int x5), .val (.ref a34), .val (.int (3 : Int32)), .val (.int (fMin x1 x2)), .val (.int (fMax x1 x2)), .val (.int (fEnc (fSign (fMin x1 x2) x3) x4)), .val (.int (fEnc (fSign (fMax x1 x2) x3) x5)), .val (.int (0 : Int32)), .unset] [(.int (fEnc (fSign (fMin x1 x2) x3) x4)), (.ref o3)])
                    refine go_st (fun _ k => XS.iload X358.here hx rfl (hb hby at_150) rfl k) ?_
                    show Go p e below s _ _ _ T358 (mkF m 152 #[.val (.int x0), .val (.int x1), .val (.int x2), .val (.int x3), .val (.int x4), .val (.int x5), .val (.ref a34), .val (.int (3 : Int32)), .val (.int (fMin x1 x2)), .val (.int (fMax x1 x2)), .val (.int (fEnc (fSign (fMin x1 x2) x3) x4)), .val (.int (fEnc (fSign (fMax x1 x2) x3) x5)), .val (.int (0 : Int32)), .unset] [(.int (fEnc (fSign (fMax x1 x2) x3) x5)), (.int (fEnc (fSign (fMin x1 x2) x3) x4)), (.ref o3)])
                    have c428 := Exa.wr W66 c71
                    have c429 := Exa.wr W78 c428
                    have c430 := Exa.wr W92 c429
                    have c431 := Fld.ext E34 F3
                    have c432 := Fld.other W43 c431 (Or.inl ne38)
                    have c433 := Fld.other W48 c432 (Or.inl ne38)
                    have c434 := Fld.other W56 c433 (Or.inl ne38)
                    have c435 := Fld.other W66 c434 (Or.inl ne38)
                    have c436 := Fld.other W78 c435 (Or.inl ne38)
                    have c437 := Fld.other W92 c436 (Or.inl ne38)
                    have z438 : n0 ≤ h34.size := Nat.le_trans Z0 E34.1
                    have z439 : n0 ≤ h43.size := (Wr.size W43).symm ▸ z438
                    have z440 : n0 ≤ h48.size := (Wr.size W48).symm ▸ z439
                    have z441 : n0 ≤ h56.size := (Wr.size W56).symm ▸ z440
                    have z442 : n0 ≤ h66.size := (Wr.size W66).symm ▸ z441
                    have z443 : n0 ≤ h78.size := (Wr.size W78).symm ▸ z442
                    have z444 : n0 ≤ h92.size := (Wr.size W92).symm ▸ z443
                    refine go_callV X358 hx hZ hml hown (hw _ (List.mem_of_getElem? (i := 34) rfl)) (hw _ (List.mem_of_getElem? (i := 35) rfl)) (notFace_of_selects (args := #[]) (mvT hZ (hw _ (List.mem_of_getElem? (i := 37) rfl)))) (hw _ (List.mem_of_getElem? (i := 37) rfl)) (hw _ (List.mem_of_getElem? (i := 36) rfl)) (hw _ (List.mem_of_getElem? (i := 38) rfl)) (hw _ (List.mem_of_getElem? (i := 3) rfl)) e358 c430 (argsL := [(.int (fEnc (fSign (fMin x1 x2) x3) x4)), (.int (fEnc (fSign (fMax x1 x2) x3) x5))]) (rest := []) (W := 0) (met_adm3 l Z a0 hw o3 (fEnc (fSign (fMin x1 x2) x3) x4) (fEnc (fSign (fMax x1 x2) x3) x5) h92 n0 z444 c430 c437) (hb hby at_152) rfl rfl rfl (lenOf pd3 rfl) (by show 2 * 0 + _ ≤ _; exact Nat.le_of_eq rfl) (by decide) (by decide) (by decide) (by decide) (by decide) ?_
                    intro T427 v427 L427 X427 q427
                    obtain ⟨rfl, M427, e427⟩ := q427
                    have N427 := Fr.app N358 M427
                    show Go p e below s _ _ _ T427 (mkF m 155 #[.val (.int x0), .val (.int x1), .val (.int x2), .val (.int x3), .val (.int x4), .val (.int x5), .val (.ref a34), .val (.int (3 : Int32)), .val (.int (fMin x1 x2)), .val (.int (fMax x1 x2)), .val (.int (fEnc (fSign (fMin x1 x2) x3) x4)), .val (.int (fEnc (fSign (fMax x1 x2) x3) x5)), .val (.int (0 : Int32)), .unset] [(.int (fAdm3 (fEnc (fSign (fMin x1 x2) x3) x4) (fEnc (fSign (fMax x1 x2) x3) x5)))])
                    refine go_st (fun _ k => XS.istore X427.here hx rfl (hb hby at_155) rfl (l' := #[.val (.int x0), .val (.int x1), .val (.int x2), .val (.int x3), .val (.int x4), .val (.int x5), .val (.ref a34), .val (.int (3 : Int32)), .val (.int (fMin x1 x2)), .val (.int (fMax x1 x2)), .val (.int (fEnc (fSign (fMin x1 x2) x3) x4)), .val (.int (fEnc (fSign (fMax x1 x2) x3) x5)), .val (.int (0 : Int32)), .val (.int (fAdm3 (fEnc (fSign (fMin x1 x2) x3) x4) (fEnc (fSign (fMax x1 x2) x3) x5)))]) rfl k) ?_
                    show Go p e below s _ _ _ T427 (mkF m 157 #[.val (.int x0), .val (.int x1), .val (.int x2), .val (.int x3), .val (.int x4), .val (.int x5), .val (.ref a34), .val (.int (3 : Int32)), .val (.int (fMin x1 x2)), .val (.int (fMax x1 x2)), .val (.int (fEnc (fSign (fMin x1 x2) x3) x4)), .val (.int (fEnc (fSign (fMax x1 x2) x3) x5)), .val (.int (0 : Int32)), .val (.int (fAdm3 (fEnc (fSign (fMin x1 x2) x3) x4) (fEnc (fSign (fMax x1 x2) x3) x5)))] [])
                    refine go_st (fun _ k => XS.iload X427.here hx rfl (hb hby at_157) rfl k) ?_
                    show Go p e below s _ _ _ T427 (mkF m 159 #[.val (.int x0), .val (.int x1), .val (.int x2), .val (.int x3), .val (.int x4), .val (.int x5), .val (.ref a34), .val (.int (3 : Int32)), .val (.int (fMin x1 x2)), .val (.int (fMax x1 x2)), .val (.int (fEnc (fSign (fMin x1 x2) x3) x4)), .val (.int (fEnc (fSign (fMax x1 x2) x3) x5)), .val (.int (0 : Int32)), .val (.int (fAdm3 (fEnc (fSign (fMin x1 x2) x3) x4) (fEnc (fSign (fMax x1 x2) x3) x5)))] [(.int (fAdm3 (fEnc (fSign (fMin x1 x2) x3) x4) (fEnc (fSign (fMax x1 x2) x3) x5)))])
                    refine go_st (fun _ k => XS.iload X427.here hx rfl (hb hby at_159) rfl k) ?_
                    show Go p e below s _ _ _ T427 (mkF m 161 #[.val (.int x0), .val (.int x1), .val (.int x2), .val (.int x3), .val (.int x4), .val (.int x5), .val (.ref a34), .val (.int (3 : Int32)), .val (.int (fMin x1 x2)), .val (.int (fMax x1 x2)), .val (.int (fEnc (fSign (fMin x1 x2) x3) x4)), .val (.int (fEnc (fSign (fMax x1 x2) x3) x5)), .val (.int (0 : Int32)), .val (.int (fAdm3 (fEnc (fSign (fMin x1 x2) x3) x4) (fEnc (fSign (fMax x1 x2) x3) x5)))] [(.int (0 : Int32)), (.int (fAdm3 (fEnc (fSign (fMin x1 x2) x3) x4) (fEnc (fSign (fMax x1 x2) x3) x5)))])
                    by_cases hc445 : (fAdm3 (fEnc (fSign (fMin x1 x2) x3) x4) (fEnc (fSign (fMax x1 x2) x3) x5)) = (0 : Int32)
                    · rw [if_pos hc445]
                      refine go_st (fun _ k => XS.icmpNo X427.here hx rfl (hb hby at_161) rfl (XT.ii_ne_f hc445) k) ?_
                      show Go p e below s _ _ _ T427 (mkF m 164 #[.val (.int x0), .val (.int x1), .val (.int x2), .val (.int x3), .val (.int x4), .val (.int x5), .val (.ref a34), .val (.int (3 : Int32)), .val (.int (fMin x1 x2)), .val (.int (fMax x1 x2)), .val (.int (fEnc (fSign (fMin x1 x2) x3) x4)), .val (.int (fEnc (fSign (fMax x1 x2) x3) x5)), .val (.int (0 : Int32)), .val (.int (fAdm3 (fEnc (fSign (fMin x1 x2) x3) x4) (fEnc (fSign (fMax x1 x2) x3) x5)))] [])
                      refine go_st (fun _ k => XT.iconstV X427.here hx rfl (1 : Int32) (hb hby at_164) (by decide) k) ?_
                      show Go p e below s _ _ _ T427 (mkF m 165 #[.val (.int x0), .val (.int x1), .val (.int x2), .val (.int x3), .val (.int x4), .val (.int x5), .val (.ref a34), .val (.int (3 : Int32)), .val (.int (fMin x1 x2)), .val (.int (fMax x1 x2)), .val (.int (fEnc (fSign (fMin x1 x2) x3) x4)), .val (.int (fEnc (fSign (fMax x1 x2) x3) x5)), .val (.int (0 : Int32)), .val (.int (fAdm3 (fEnc (fSign (fMin x1 x2) x3) x4) (fEnc (fSign (fMax x1 x2) x3) x5)))] [(.int (1 : Int32))])
                      refine go_st (fun _ k => XS.goto X427.here hx rfl (pc0 := 165) (pc' := 169) rfl (hb hby at_165) (by decide) (by decide) k) ?_
                      show Go p e below s _ _ _ T427 (mkF m 169 #[.val (.int x0), .val (.int x1), .val (.int x2), .val (.int x3), .val (.int x4), .val (.int x5), .val (.ref a34), .val (.int (3 : Int32)), .val (.int (fMin x1 x2)), .val (.int (fMax x1 x2)), .val (.int (fEnc (fSign (fMin x1 x2) x3) x4)), .val (.int (fEnc (fSign (fMax x1 x2) x3) x5)), .val (.int (0 : Int32)), .val (.int (fAdm3 (fEnc (fSign (fMin x1 x2) x3) x4) (fEnc (fSign (fMax x1 x2) x3) x5)))] [(.int (1 : Int32))])
                      exact go_retB (w := (1 : Int32)) X427 hx hlk hret (hb hby at_169) (by decide) (by decide) (by decide) ⟨rfl, N427⟩
                    · rw [if_neg hc445]
                      refine go_st (fun _ k => XS.icmpYes X427.here hx rfl (pc0 := 161) (pc' := 168) rfl (hb hby at_161) rfl (XT.ii_ne_t hc445) (by decide) (by decide) k) ?_
                      show Go p e below s _ _ _ T427 (mkF m 168 #[.val (.int x0), .val (.int x1), .val (.int x2), .val (.int x3), .val (.int x4), .val (.int x5), .val (.ref a34), .val (.int (3 : Int32)), .val (.int (fMin x1 x2)), .val (.int (fMax x1 x2)), .val (.int (fEnc (fSign (fMin x1 x2) x3) x4)), .val (.int (fEnc (fSign (fMax x1 x2) x3) x5)), .val (.int (0 : Int32)), .val (.int (fAdm3 (fEnc (fSign (fMin x1 x2) x3) x4) (fEnc (fSign (fMax x1 x2) x3) x5)))] [])
                      refine go_st (fun _ k => XT.iconstV X427.here hx rfl (0 : Int32) (hb hby at_168) (by decide) k) ?_
                      show Go p e below s _ _ _ T427 (mkF m 169 #[.val (.int x0), .val (.int x1), .val (.int x2), .val (.int x3), .val (.int x4), .val (.int x5), .val (.ref a34), .val (.int (3 : Int32)), .val (.int (fMin x1 x2)), .val (.int (fMax x1 x2)), .val (.int (fEnc (fSign (fMin x1 x2) x3) x4)), .val (.int (fEnc (fSign (fMax x1 x2) x3) x5)), .val (.int (0 : Int32)), .val (.int (fAdm3 (fEnc (fSign (fMin x1 x2) x3) x4) (fEnc (fSign (fMax x1 x2) x3) x5)))] [(.int (0 : Int32))])
                      exact go_retB (w := (0 : Int32)) X427 hx hlk hret (hb hby at_169) (by decide) (by decide) (by decide) ⟨rfl, N427⟩
                  · rw [if_neg hk426]
                    by_cases hk446 : ((x0 &&& (2147483647 : Int32)) % (6 : Int32)) = (4 : Int32)
                    · rw [if_pos hk446]
                      rw [hk446]
                      show Go p e below s _ _ _ T358 (mkF m 147 #[.val (.int x0), .val (.int x1), .val (.int x2), .val (.int x3), .val (.int x4), .val (.int x5), .val (.ref a34), .val (.int (4 : Int32)), .val (.int (fMin x1 x2)), .val (.int (fMax x1 x2)), .val (.int (fEnc (fSign (fMin x1 x2) x3) x4)), .val (.int (fEnc (fSign (fMax x1 x2) x3) x5)), .val (.int (0 : Int32)), .unset] [(.int (4 : Int32)), (.ref a34)])
                      refine go_aald X358 hx hZ e358 A92 rfl (hb hby at_147) rfl rfl (by decide) (.ref o4) rfl ?_
                      show Go p e below s _ _ _ T358 (mkF m 148 #[.val (.int x0), .val (.int x1), .val (.int x2), .val (.int x3), .val (.int x4), .val (.int x5), .val (.ref a34), .val (.int (4 : Int32)), .val (.int (fMin x1 x2)), .val (.int (fMax x1 x2)), .val (.int (fEnc (fSign (fMin x1 x2) x3) x4)), .val (.int (fEnc (fSign (fMax x1 x2) x3) x5)), .val (.int (0 : Int32)), .unset] [(.ref o4)])
                      refine go_st (fun _ k => XS.iload X358.here hx rfl (hb hby at_148) rfl k) ?_
                      show Go p e below s _ _ _ T358 (mkF m 150 #[.val (.int x0), .val (.int x1), .val (.int x2), .val (.int x3), .val (.int x4), .val (.int x5), .val (.ref a34), .val (.int (4 : Int32)), .val (.int (fMin x1 x2)), .val (.int (fMax x1 x2)), .val (.int (fEnc (fSign (fMin x1 x2) x3) x4)), .val (.int (fEnc (fSign (fMax x1 x2) x3) x5)), .val (.int (0 : Int32)), .unset] [(.int (fEnc (fSign (fMin x1 x2) x3) x4)), (.ref o4)])
                      refine go_st (fun _ k => XS.iload X358.here hx rfl (hb hby at_150) rfl k) ?_
                      show Go p e below s _ _ _ T358 (mkF m 152 #[.val (.int x0), .val (.int x1), .val (.int x2), .val (.int x3), .val (.int x4), .val (.int x5), .val (.ref a34), .val (.int (4 : Int32)), .val (.int (fMin x1 x2)), .val (.int (fMax x1 x2)), .val (.int (fEnc (fSign (fMin x1 x2) x3) x4)), .val (.int (fEnc (fSign (fMax x1 x2) x3) x5)), .val (.int (0 : Int32)), .unset] [(.int (fEnc (fSign (fMax x1 x2) x3) x5)), (.int (fEnc (fSign (fMin x1 x2) x3) x4)), (.ref o4)])
                      have c448 := Exa.wr W78 c84
                      have c449 := Exa.wr W92 c448
                      have c450 := Fld.ext E34 F4
                      have c451 := Fld.other W43 c450 (Or.inl ne39)
                      have c452 := Fld.other W48 c451 (Or.inl ne39)
                      have c453 := Fld.other W56 c452 (Or.inl ne39)
                      have c454 := Fld.other W66 c453 (Or.inl ne39)
                      have c455 := Fld.other W78 c454 (Or.inl ne39)
                      have c456 := Fld.other W92 c455 (Or.inl ne39)
                      have z457 : n0 ≤ h34.size := Nat.le_trans Z0 E34.1
                      have z458 : n0 ≤ h43.size := (Wr.size W43).symm ▸ z457
                      have z459 : n0 ≤ h48.size := (Wr.size W48).symm ▸ z458
                      have z460 : n0 ≤ h56.size := (Wr.size W56).symm ▸ z459
                      have z461 : n0 ≤ h66.size := (Wr.size W66).symm ▸ z460
                      have z462 : n0 ≤ h78.size := (Wr.size W78).symm ▸ z461
                      have z463 : n0 ≤ h92.size := (Wr.size W92).symm ▸ z462
                      refine go_callV X358 hx hZ hml hown (hw _ (List.mem_of_getElem? (i := 34) rfl)) (hw _ (List.mem_of_getElem? (i := 35) rfl)) (notFace_of_selects (args := #[]) (mvT hZ (hw _ (List.mem_of_getElem? (i := 37) rfl)))) (hw _ (List.mem_of_getElem? (i := 37) rfl)) (hw _ (List.mem_of_getElem? (i := 36) rfl)) (hw _ (List.mem_of_getElem? (i := 38) rfl)) (hw _ (List.mem_of_getElem? (i := 3) rfl)) e358 c449 (argsL := [(.int (fEnc (fSign (fMin x1 x2) x3) x4)), (.int (fEnc (fSign (fMax x1 x2) x3) x5))]) (rest := []) (W := 0) (met_adm4 l Z a0 hw o4 (fEnc (fSign (fMin x1 x2) x3) x4) (fEnc (fSign (fMax x1 x2) x3) x5) h92 n0 z463 c449 c456) (hb hby at_152) rfl rfl rfl (lenOf pd3 rfl) (by show 2 * 0 + _ ≤ _; exact Nat.le_of_eq rfl) (by decide) (by decide) (by decide) (by decide) (by decide) ?_
                      intro T447 v447 L447 X447 q447
                      obtain ⟨rfl, M447, e447⟩ := q447
                      have N447 := Fr.app N358 M447
                      show Go p e below s _ _ _ T447 (mkF m 155 #[.val (.int x0), .val (.int x1), .val (.int x2), .val (.int x3), .val (.int x4), .val (.int x5), .val (.ref a34), .val (.int (4 : Int32)), .val (.int (fMin x1 x2)), .val (.int (fMax x1 x2)), .val (.int (fEnc (fSign (fMin x1 x2) x3) x4)), .val (.int (fEnc (fSign (fMax x1 x2) x3) x5)), .val (.int (0 : Int32)), .unset] [(.int (fAdm4 (fEnc (fSign (fMin x1 x2) x3) x4) (fEnc (fSign (fMax x1 x2) x3) x5)))])
                      refine go_st (fun _ k => XS.istore X447.here hx rfl (hb hby at_155) rfl (l' := #[.val (.int x0), .val (.int x1), .val (.int x2), .val (.int x3), .val (.int x4), .val (.int x5), .val (.ref a34), .val (.int (4 : Int32)), .val (.int (fMin x1 x2)), .val (.int (fMax x1 x2)), .val (.int (fEnc (fSign (fMin x1 x2) x3) x4)), .val (.int (fEnc (fSign (fMax x1 x2) x3) x5)), .val (.int (0 : Int32)), .val (.int (fAdm4 (fEnc (fSign (fMin x1 x2) x3) x4) (fEnc (fSign (fMax x1 x2) x3) x5)))]) rfl k) ?_
                      show Go p e below s _ _ _ T447 (mkF m 157 #[.val (.int x0), .val (.int x1), .val (.int x2), .val (.int x3), .val (.int x4), .val (.int x5), .val (.ref a34), .val (.int (4 : Int32)), .val (.int (fMin x1 x2)), .val (.int (fMax x1 x2)), .val (.int (fEnc (fSign (fMin x1 x2) x3) x4)), .val (.int (fEnc (fSign (fMax x1 x2) x3) x5)), .val (.int (0 : Int32)), .val (.int (fAdm4 (fEnc (fSign (fMin x1 x2) x3) x4) (fEnc (fSign (fMax x1 x2) x3) x5)))] [])
                      refine go_st (fun _ k => XS.iload X447.here hx rfl (hb hby at_157) rfl k) ?_
                      show Go p e below s _ _ _ T447 (mkF m 159 #[.val (.int x0), .val (.int x1), .val (.int x2), .val (.int x3), .val (.int x4), .val (.int x5), .val (.ref a34), .val (.int (4 : Int32)), .val (.int (fMin x1 x2)), .val (.int (fMax x1 x2)), .val (.int (fEnc (fSign (fMin x1 x2) x3) x4)), .val (.int (fEnc (fSign (fMax x1 x2) x3) x5)), .val (.int (0 : Int32)), .val (.int (fAdm4 (fEnc (fSign (fMin x1 x2) x3) x4) (fEnc (fSign (fMax x1 x2) x3) x5)))] [(.int (fAdm4 (fEnc (fSign (fMin x1 x2) x3) x4) (fEnc (fSign (fMax x1 x2) x3) x5)))])
                      refine go_st (fun _ k => XS.iload X447.here hx rfl (hb hby at_159) rfl k) ?_
                      show Go p e below s _ _ _ T447 (mkF m 161 #[.val (.int x0), .val (.int x1), .val (.int x2), .val (.int x3), .val (.int x4), .val (.int x5), .val (.ref a34), .val (.int (4 : Int32)), .val (.int (fMin x1 x2)), .val (.int (fMax x1 x2)), .val (.int (fEnc (fSign (fMin x1 x2) x3) x4)), .val (.int (fEnc (fSign (fMax x1 x2) x3) x5)), .val (.int (0 : Int32)), .val (.int (fAdm4 (fEnc (fSign (fMin x1 x2) x3) x4) (fEnc (fSign (fMax x1 x2) x3) x5)))] [(.int (0 : Int32)), (.int (fAdm4 (fEnc (fSign (fMin x1 x2) x3) x4) (fEnc (fSign (fMax x1 x2) x3) x5)))])
                      by_cases hc464 : (fAdm4 (fEnc (fSign (fMin x1 x2) x3) x4) (fEnc (fSign (fMax x1 x2) x3) x5)) = (0 : Int32)
                      · rw [if_pos hc464]
                        refine go_st (fun _ k => XS.icmpNo X447.here hx rfl (hb hby at_161) rfl (XT.ii_ne_f hc464) k) ?_
                        show Go p e below s _ _ _ T447 (mkF m 164 #[.val (.int x0), .val (.int x1), .val (.int x2), .val (.int x3), .val (.int x4), .val (.int x5), .val (.ref a34), .val (.int (4 : Int32)), .val (.int (fMin x1 x2)), .val (.int (fMax x1 x2)), .val (.int (fEnc (fSign (fMin x1 x2) x3) x4)), .val (.int (fEnc (fSign (fMax x1 x2) x3) x5)), .val (.int (0 : Int32)), .val (.int (fAdm4 (fEnc (fSign (fMin x1 x2) x3) x4) (fEnc (fSign (fMax x1 x2) x3) x5)))] [])
                        refine go_st (fun _ k => XT.iconstV X447.here hx rfl (1 : Int32) (hb hby at_164) (by decide) k) ?_
                        show Go p e below s _ _ _ T447 (mkF m 165 #[.val (.int x0), .val (.int x1), .val (.int x2), .val (.int x3), .val (.int x4), .val (.int x5), .val (.ref a34), .val (.int (4 : Int32)), .val (.int (fMin x1 x2)), .val (.int (fMax x1 x2)), .val (.int (fEnc (fSign (fMin x1 x2) x3) x4)), .val (.int (fEnc (fSign (fMax x1 x2) x3) x5)), .val (.int (0 : Int32)), .val (.int (fAdm4 (fEnc (fSign (fMin x1 x2) x3) x4) (fEnc (fSign (fMax x1 x2) x3) x5)))] [(.int (1 : Int32))])
                        refine go_st (fun _ k => XS.goto X447.here hx rfl (pc0 := 165) (pc' := 169) rfl (hb hby at_165) (by decide) (by decide) k) ?_
                        show Go p e below s _ _ _ T447 (mkF m 169 #[.val (.int x0), .val (.int x1), .val (.int x2), .val (.int x3), .val (.int x4), .val (.int x5), .val (.ref a34), .val (.int (4 : Int32)), .val (.int (fMin x1 x2)), .val (.int (fMax x1 x2)), .val (.int (fEnc (fSign (fMin x1 x2) x3) x4)), .val (.int (fEnc (fSign (fMax x1 x2) x3) x5)), .val (.int (0 : Int32)), .val (.int (fAdm4 (fEnc (fSign (fMin x1 x2) x3) x4) (fEnc (fSign (fMax x1 x2) x3) x5)))] [(.int (1 : Int32))])
                        exact go_retB (w := (1 : Int32)) X447 hx hlk hret (hb hby at_169) (by decide) (by decide) (by decide) ⟨rfl, N447⟩
                      · rw [if_neg hc464]
                        refine go_st (fun _ k => XS.icmpYes X447.here hx rfl (pc0 := 161) (pc' := 168) rfl (hb hby at_161) rfl (XT.ii_ne_t hc464) (by decide) (by decide) k) ?_
                        show Go p e below s _ _ _ T447 (mkF m 168 #[.val (.int x0), .val (.int x1), .val (.int x2), .val (.int x3), .val (.int x4), .val (.int x5), .val (.ref a34), .val (.int (4 : Int32)), .val (.int (fMin x1 x2)), .val (.int (fMax x1 x2)), .val (.int (fEnc (fSign (fMin x1 x2) x3) x4)), .val (.int (fEnc (fSign (fMax x1 x2) x3) x5)), .val (.int (0 : Int32)), .val (.int (fAdm4 (fEnc (fSign (fMin x1 x2) x3) x4) (fEnc (fSign (fMax x1 x2) x3) x5)))] [])
                        refine go_st (fun _ k => XT.iconstV X447.here hx rfl (0 : Int32) (hb hby at_168) (by decide) k) ?_
                        show Go p e below s _ _ _ T447 (mkF m 169 #[.val (.int x0), .val (.int x1), .val (.int x2), .val (.int x3), .val (.int x4), .val (.int x5), .val (.ref a34), .val (.int (4 : Int32)), .val (.int (fMin x1 x2)), .val (.int (fMax x1 x2)), .val (.int (fEnc (fSign (fMin x1 x2) x3) x4)), .val (.int (fEnc (fSign (fMax x1 x2) x3) x5)), .val (.int (0 : Int32)), .val (.int (fAdm4 (fEnc (fSign (fMin x1 x2) x3) x4) (fEnc (fSign (fMax x1 x2) x3) x5)))] [(.int (0 : Int32))])
                        exact go_retB (w := (0 : Int32)) X447 hx hlk hret (hb hby at_169) (by decide) (by decide) (by decide) ⟨rfl, N447⟩
                    · rw [if_neg hk446]
                      by_cases hk465 : ((x0 &&& (2147483647 : Int32)) % (6 : Int32)) = (5 : Int32)
                      · rw [if_pos hk465]
                        rw [hk465]
                        show Go p e below s _ _ _ T358 (mkF m 147 #[.val (.int x0), .val (.int x1), .val (.int x2), .val (.int x3), .val (.int x4), .val (.int x5), .val (.ref a34), .val (.int (5 : Int32)), .val (.int (fMin x1 x2)), .val (.int (fMax x1 x2)), .val (.int (fEnc (fSign (fMin x1 x2) x3) x4)), .val (.int (fEnc (fSign (fMax x1 x2) x3) x5)), .val (.int (0 : Int32)), .unset] [(.int (5 : Int32)), (.ref a34)])
                        refine go_aald X358 hx hZ e358 A92 rfl (hb hby at_147) rfl rfl (by decide) (.ref o5) rfl ?_
                        show Go p e below s _ _ _ T358 (mkF m 148 #[.val (.int x0), .val (.int x1), .val (.int x2), .val (.int x3), .val (.int x4), .val (.int x5), .val (.ref a34), .val (.int (5 : Int32)), .val (.int (fMin x1 x2)), .val (.int (fMax x1 x2)), .val (.int (fEnc (fSign (fMin x1 x2) x3) x4)), .val (.int (fEnc (fSign (fMax x1 x2) x3) x5)), .val (.int (0 : Int32)), .unset] [(.ref o5)])
                        refine go_st (fun _ k => XS.iload X358.here hx rfl (hb hby at_148) rfl k) ?_
                        show Go p e below s _ _ _ T358 (mkF m 150 #[.val (.int x0), .val (.int x1), .val (.int x2), .val (.int x3), .val (.int x4), .val (.int x5), .val (.ref a34), .val (.int (5 : Int32)), .val (.int (fMin x1 x2)), .val (.int (fMax x1 x2)), .val (.int (fEnc (fSign (fMin x1 x2) x3) x4)), .val (.int (fEnc (fSign (fMax x1 x2) x3) x5)), .val (.int (0 : Int32)), .unset] [(.int (fEnc (fSign (fMin x1 x2) x3) x4)), (.ref o5)])
                        refine go_st (fun _ k => XS.iload X358.here hx rfl (hb hby at_150) rfl k) ?_
                        show Go p e below s _ _ _ T358 (mkF m 152 #[.val (.int x0), .val (.int x1), .val (.int x2), .val (.int x3), .val (.int x4), .val (.int x5), .val (.ref a34), .val (.int (5 : Int32)), .val (.int (fMin x1 x2)), .val (.int (fMax x1 x2)), .val (.int (fEnc (fSign (fMin x1 x2) x3) x4)), .val (.int (fEnc (fSign (fMax x1 x2) x3) x5)), .val (.int (0 : Int32)), .unset] [(.int (fEnc (fSign (fMax x1 x2) x3) x5)), (.int (fEnc (fSign (fMin x1 x2) x3) x4)), (.ref o5)])
                        have c467 := Exa.wr W92 c99
                        have c468 := Fld.ext E34 F5
                        have c469 := Fld.other W43 c468 (Or.inl ne40)
                        have c470 := Fld.other W48 c469 (Or.inl ne40)
                        have c471 := Fld.other W56 c470 (Or.inl ne40)
                        have c472 := Fld.other W66 c471 (Or.inl ne40)
                        have c473 := Fld.other W78 c472 (Or.inl ne40)
                        have c474 := Fld.other W92 c473 (Or.inl ne40)
                        have z475 : n0 ≤ h34.size := Nat.le_trans Z0 E34.1
                        have z476 : n0 ≤ h43.size := (Wr.size W43).symm ▸ z475
                        have z477 : n0 ≤ h48.size := (Wr.size W48).symm ▸ z476
                        have z478 : n0 ≤ h56.size := (Wr.size W56).symm ▸ z477
                        have z479 : n0 ≤ h66.size := (Wr.size W66).symm ▸ z478
                        have z480 : n0 ≤ h78.size := (Wr.size W78).symm ▸ z479
                        have z481 : n0 ≤ h92.size := (Wr.size W92).symm ▸ z480
                        refine go_callV X358 hx hZ hml hown (hw _ (List.mem_of_getElem? (i := 34) rfl)) (hw _ (List.mem_of_getElem? (i := 35) rfl)) (notFace_of_selects (args := #[]) (mvT hZ (hw _ (List.mem_of_getElem? (i := 37) rfl)))) (hw _ (List.mem_of_getElem? (i := 37) rfl)) (hw _ (List.mem_of_getElem? (i := 36) rfl)) (hw _ (List.mem_of_getElem? (i := 38) rfl)) (hw _ (List.mem_of_getElem? (i := 3) rfl)) e358 c467 (argsL := [(.int (fEnc (fSign (fMin x1 x2) x3) x4)), (.int (fEnc (fSign (fMax x1 x2) x3) x5))]) (rest := []) (W := 0) (met_adm5 l Z a0 hw o5 (fEnc (fSign (fMin x1 x2) x3) x4) (fEnc (fSign (fMax x1 x2) x3) x5) h92 n0 z481 c467 c474) (hb hby at_152) rfl rfl rfl (lenOf pd3 rfl) (by show 2 * 0 + _ ≤ _; exact Nat.le_of_eq rfl) (by decide) (by decide) (by decide) (by decide) (by decide) ?_
                        intro T466 v466 L466 X466 q466
                        obtain ⟨rfl, M466, e466⟩ := q466
                        have N466 := Fr.app N358 M466
                        show Go p e below s _ _ _ T466 (mkF m 155 #[.val (.int x0), .val (.int x1), .val (.int x2), .val (.int x3), .val (.int x4), .val (.int x5), .val (.ref a34), .val (.int (5 : Int32)), .val (.int (fMin x1 x2)), .val (.int (fMax x1 x2)), .val (.int (fEnc (fSign (fMin x1 x2) x3) x4)), .val (.int (fEnc (fSign (fMax x1 x2) x3) x5)), .val (.int (0 : Int32)), .unset] [(.int (fAdm5 (fEnc (fSign (fMin x1 x2) x3) x4) (fEnc (fSign (fMax x1 x2) x3) x5)))])
                        refine go_st (fun _ k => XS.istore X466.here hx rfl (hb hby at_155) rfl (l' := #[.val (.int x0), .val (.int x1), .val (.int x2), .val (.int x3), .val (.int x4), .val (.int x5), .val (.ref a34), .val (.int (5 : Int32)), .val (.int (fMin x1 x2)), .val (.int (fMax x1 x2)), .val (.int (fEnc (fSign (fMin x1 x2) x3) x4)), .val (.int (fEnc (fSign (fMax x1 x2) x3) x5)), .val (.int (0 : Int32)), .val (.int (fAdm5 (fEnc (fSign (fMin x1 x2) x3) x4) (fEnc (fSign (fMax x1 x2) x3) x5)))]) rfl k) ?_
                        show Go p e below s _ _ _ T466 (mkF m 157 #[.val (.int x0), .val (.int x1), .val (.int x2), .val (.int x3), .val (.int x4), .val (.int x5), .val (.ref a34), .val (.int (5 : Int32)), .val (.int (fMin x1 x2)), .val (.int (fMax x1 x2)), .val (.int (fEnc (fSign (fMin x1 x2) x3) x4)), .val (.int (fEnc (fSign (fMax x1 x2) x3) x5)), .val (.int (0 : Int32)), .val (.int (fAdm5 (fEnc (fSign (fMin x1 x2) x3) x4) (fEnc (fSign (fMax x1 x2) x3) x5)))] [])
                        refine go_st (fun _ k => XS.iload X466.here hx rfl (hb hby at_157) rfl k) ?_
                        show Go p e below s _ _ _ T466 (mkF m 159 #[.val (.int x0), .val (.int x1), .val (.int x2), .val (.int x3), .val (.int x4), .val (.int x5), .val (.ref a34), .val (.int (5 : Int32)), .val (.int (fMin x1 x2)), .val (.int (fMax x1 x2)), .val (.int (fEnc (fSign (fMin x1 x2) x3) x4)), .val (.int (fEnc (fSign (fMax x1 x2) x3) x5)), .val (.int (0 : Int32)), .val (.int (fAdm5 (fEnc (fSign (fMin x1 x2) x3) x4) (fEnc (fSign (fMax x1 x2) x3) x5)))] [(.int (fAdm5 (fEnc (fSign (fMin x1 x2) x3) x4) (fEnc (fSign (fMax x1 x2) x3) x5)))])
                        refine go_st (fun _ k => XS.iload X466.here hx rfl (hb hby at_159) rfl k) ?_
                        show Go p e below s _ _ _ T466 (mkF m 161 #[.val (.int x0), .val (.int x1), .val (.int x2), .val (.int x3), .val (.int x4), .val (.int x5), .val (.ref a34), .val (.int (5 : Int32)), .val (.int (fMin x1 x2)), .val (.int (fMax x1 x2)), .val (.int (fEnc (fSign (fMin x1 x2) x3) x4)), .val (.int (fEnc (fSign (fMax x1 x2) x3) x5)), .val (.int (0 : Int32)), .val (.int (fAdm5 (fEnc (fSign (fMin x1 x2) x3) x4) (fEnc (fSign (fMax x1 x2) x3) x5)))] [(.int (0 : Int32)), (.int (fAdm5 (fEnc (fSign (fMin x1 x2) x3) x4) (fEnc (fSign (fMax x1 x2) x3) x5)))])
                        by_cases hc482 : (fAdm5 (fEnc (fSign (fMin x1 x2) x3) x4) (fEnc (fSign (fMax x1 x2) x3) x5)) = (0 : Int32)
                        · rw [if_pos hc482]
                          refine go_st (fun _ k => XS.icmpNo X466.here hx rfl (hb hby at_161) rfl (XT.ii_ne_f hc482) k) ?_
                          show Go p e below s _ _ _ T466 (mkF m 164 #[.val (.int x0), .val (.int x1), .val (.int x2), .val (.int x3), .val (.int x4), .val (.int x5), .val (.ref a34), .val (.int (5 : Int32)), .val (.int (fMin x1 x2)), .val (.int (fMax x1 x2)), .val (.int (fEnc (fSign (fMin x1 x2) x3) x4)), .val (.int (fEnc (fSign (fMax x1 x2) x3) x5)), .val (.int (0 : Int32)), .val (.int (fAdm5 (fEnc (fSign (fMin x1 x2) x3) x4) (fEnc (fSign (fMax x1 x2) x3) x5)))] [])
                          refine go_st (fun _ k => XT.iconstV X466.here hx rfl (1 : Int32) (hb hby at_164) (by decide) k) ?_
                          show Go p e below s _ _ _ T466 (mkF m 165 #[.val (.int x0), .val (.int x1), .val (.int x2), .val (.int x3), .val (.int x4), .val (.int x5), .val (.ref a34), .val (.int (5 : Int32)), .val (.int (fMin x1 x2)), .val (.int (fMax x1 x2)), .val (.int (fEnc (fSign (fMin x1 x2) x3) x4)), .val (.int (fEnc (fSign (fMax x1 x2) x3) x5)), .val (.int (0 : Int32)), .val (.int (fAdm5 (fEnc (fSign (fMin x1 x2) x3) x4) (fEnc (fSign (fMax x1 x2) x3) x5)))] [(.int (1 : Int32))])
                          refine go_st (fun _ k => XS.goto X466.here hx rfl (pc0 := 165) (pc' := 169) rfl (hb hby at_165) (by decide) (by decide) k) ?_
                          show Go p e below s _ _ _ T466 (mkF m 169 #[.val (.int x0), .val (.int x1), .val (.int x2), .val (.int x3), .val (.int x4), .val (.int x5), .val (.ref a34), .val (.int (5 : Int32)), .val (.int (fMin x1 x2)), .val (.int (fMax x1 x2)), .val (.int (fEnc (fSign (fMin x1 x2) x3) x4)), .val (.int (fEnc (fSign (fMax x1 x2) x3) x5)), .val (.int (0 : Int32)), .val (.int (fAdm5 (fEnc (fSign (fMin x1 x2) x3) x4) (fEnc (fSign (fMax x1 x2) x3) x5)))] [(.int (1 : Int32))])
                          exact go_retB (w := (1 : Int32)) X466 hx hlk hret (hb hby at_169) (by decide) (by decide) (by decide) ⟨rfl, N466⟩
                        · rw [if_neg hc482]
                          refine go_st (fun _ k => XS.icmpYes X466.here hx rfl (pc0 := 161) (pc' := 168) rfl (hb hby at_161) rfl (XT.ii_ne_t hc482) (by decide) (by decide) k) ?_
                          show Go p e below s _ _ _ T466 (mkF m 168 #[.val (.int x0), .val (.int x1), .val (.int x2), .val (.int x3), .val (.int x4), .val (.int x5), .val (.ref a34), .val (.int (5 : Int32)), .val (.int (fMin x1 x2)), .val (.int (fMax x1 x2)), .val (.int (fEnc (fSign (fMin x1 x2) x3) x4)), .val (.int (fEnc (fSign (fMax x1 x2) x3) x5)), .val (.int (0 : Int32)), .val (.int (fAdm5 (fEnc (fSign (fMin x1 x2) x3) x4) (fEnc (fSign (fMax x1 x2) x3) x5)))] [])
                          refine go_st (fun _ k => XT.iconstV X466.here hx rfl (0 : Int32) (hb hby at_168) (by decide) k) ?_
                          show Go p e below s _ _ _ T466 (mkF m 169 #[.val (.int x0), .val (.int x1), .val (.int x2), .val (.int x3), .val (.int x4), .val (.int x5), .val (.ref a34), .val (.int (5 : Int32)), .val (.int (fMin x1 x2)), .val (.int (fMax x1 x2)), .val (.int (fEnc (fSign (fMin x1 x2) x3) x4)), .val (.int (fEnc (fSign (fMax x1 x2) x3) x5)), .val (.int (0 : Int32)), .val (.int (fAdm5 (fEnc (fSign (fMin x1 x2) x3) x4) (fEnc (fSign (fMax x1 x2) x3) x5)))] [(.int (0 : Int32))])
                          exact go_retB (w := (0 : Int32)) X466 hx hlk hret (hb hby at_169) (by decide) (by decide) (by decide) ⟨rfl, N466⟩
                      · rw [if_neg hk465]
                        exact (own_six x0 hk360 hk383 hk405 hk426 hk446 hk465).elim
          · rw [if_neg hc359]
            refine go_st (fun _ k => XS.ifNo X358.here hx rfl (hb hby at_133) rfl (XT.i0_eq_f hc359) k) ?_
            show Go p e below s _ _ _ T358 (mkF m 136 #[.val (.int x0), .val (.int x1), .val (.int x2), .val (.int x3), .val (.int x4), .val (.int x5), .val (.ref a34), .val (.int ((x0 &&& (2147483647 : Int32)) % (6 : Int32))), .val (.int (fMin x1 x2)), .val (.int (fMax x1 x2)), .val (.int (fEnc (fSign (fMin x1 x2) x3) x4)), .val (.int (fEnc (fSign (fMax x1 x2) x3) x5)), .unset, .unset] [])
            refine go_st (fun _ k => XT.iconstV X358.here hx rfl (1 : Int32) (hb hby at_136) (by decide) k) ?_
            show Go p e below s _ _ _ T358 (mkF m 137 #[.val (.int x0), .val (.int x1), .val (.int x2), .val (.int x3), .val (.int x4), .val (.int x5), .val (.ref a34), .val (.int ((x0 &&& (2147483647 : Int32)) % (6 : Int32))), .val (.int (fMin x1 x2)), .val (.int (fMax x1 x2)), .val (.int (fEnc (fSign (fMin x1 x2) x3) x4)), .val (.int (fEnc (fSign (fMax x1 x2) x3) x5)), .unset, .unset] [(.int (1 : Int32))])
            refine go_st (fun _ k => XS.goto X358.here hx rfl (pc0 := 137) (pc' := 141) rfl (hb hby at_137) (by decide) (by decide) k) ?_
            show Go p e below s _ _ _ T358 (mkF m 141 #[.val (.int x0), .val (.int x1), .val (.int x2), .val (.int x3), .val (.int x4), .val (.int x5), .val (.ref a34), .val (.int ((x0 &&& (2147483647 : Int32)) % (6 : Int32))), .val (.int (fMin x1 x2)), .val (.int (fMax x1 x2)), .val (.int (fEnc (fSign (fMin x1 x2) x3) x4)), .val (.int (fEnc (fSign (fMax x1 x2) x3) x5)), .unset, .unset] [(.int (1 : Int32))])
            refine go_st (fun _ k => XS.istore X358.here hx rfl (hb hby at_141) rfl (l' := #[.val (.int x0), .val (.int x1), .val (.int x2), .val (.int x3), .val (.int x4), .val (.int x5), .val (.ref a34), .val (.int ((x0 &&& (2147483647 : Int32)) % (6 : Int32))), .val (.int (fMin x1 x2)), .val (.int (fMax x1 x2)), .val (.int (fEnc (fSign (fMin x1 x2) x3) x4)), .val (.int (fEnc (fSign (fMax x1 x2) x3) x5)), .val (.int (1 : Int32)), .unset]) rfl k) ?_
            show Go p e below s _ _ _ T358 (mkF m 143 #[.val (.int x0), .val (.int x1), .val (.int x2), .val (.int x3), .val (.int x4), .val (.int x5), .val (.ref a34), .val (.int ((x0 &&& (2147483647 : Int32)) % (6 : Int32))), .val (.int (fMin x1 x2)), .val (.int (fMax x1 x2)), .val (.int (fEnc (fSign (fMin x1 x2) x3) x4)), .val (.int (fEnc (fSign (fMax x1 x2) x3) x5)), .val (.int (1 : Int32)), .unset] [])
            refine go_st (fun _ k => XS.aload X358.here hx rfl (hb hby at_143) rfl rfl k) ?_
            show Go p e below s _ _ _ T358 (mkF m 145 #[.val (.int x0), .val (.int x1), .val (.int x2), .val (.int x3), .val (.int x4), .val (.int x5), .val (.ref a34), .val (.int ((x0 &&& (2147483647 : Int32)) % (6 : Int32))), .val (.int (fMin x1 x2)), .val (.int (fMax x1 x2)), .val (.int (fEnc (fSign (fMin x1 x2) x3) x4)), .val (.int (fEnc (fSign (fMax x1 x2) x3) x5)), .val (.int (1 : Int32)), .unset] [(.ref a34)])
            refine go_st (fun _ k => XS.iload X358.here hx rfl (hb hby at_145) rfl k) ?_
            show Go p e below s _ _ _ T358 (mkF m 147 #[.val (.int x0), .val (.int x1), .val (.int x2), .val (.int x3), .val (.int x4), .val (.int x5), .val (.ref a34), .val (.int ((x0 &&& (2147483647 : Int32)) % (6 : Int32))), .val (.int (fMin x1 x2)), .val (.int (fMax x1 x2)), .val (.int (fEnc (fSign (fMin x1 x2) x3) x4)), .val (.int (fEnc (fSign (fMax x1 x2) x3) x5)), .val (.int (1 : Int32)), .unset] [(.int ((x0 &&& (2147483647 : Int32)) % (6 : Int32))), (.ref a34)])
            by_cases hk483 : ((x0 &&& (2147483647 : Int32)) % (6 : Int32)) = (0 : Int32)
            · rw [if_pos hk483]
              rw [hk483]
              show Go p e below s _ _ _ T358 (mkF m 147 #[.val (.int x0), .val (.int x1), .val (.int x2), .val (.int x3), .val (.int x4), .val (.int x5), .val (.ref a34), .val (.int (0 : Int32)), .val (.int (fMin x1 x2)), .val (.int (fMax x1 x2)), .val (.int (fEnc (fSign (fMin x1 x2) x3) x4)), .val (.int (fEnc (fSign (fMax x1 x2) x3) x5)), .val (.int (1 : Int32)), .unset] [(.int (0 : Int32)), (.ref a34)])
              refine go_aald X358 hx hZ e358 A92 rfl (hb hby at_147) rfl rfl (by decide) (.ref o0) rfl ?_
              show Go p e below s _ _ _ T358 (mkF m 148 #[.val (.int x0), .val (.int x1), .val (.int x2), .val (.int x3), .val (.int x4), .val (.int x5), .val (.ref a34), .val (.int (0 : Int32)), .val (.int (fMin x1 x2)), .val (.int (fMax x1 x2)), .val (.int (fEnc (fSign (fMin x1 x2) x3) x4)), .val (.int (fEnc (fSign (fMax x1 x2) x3) x5)), .val (.int (1 : Int32)), .unset] [(.ref o0)])
              refine go_st (fun _ k => XS.iload X358.here hx rfl (hb hby at_148) rfl k) ?_
              show Go p e below s _ _ _ T358 (mkF m 150 #[.val (.int x0), .val (.int x1), .val (.int x2), .val (.int x3), .val (.int x4), .val (.int x5), .val (.ref a34), .val (.int (0 : Int32)), .val (.int (fMin x1 x2)), .val (.int (fMax x1 x2)), .val (.int (fEnc (fSign (fMin x1 x2) x3) x4)), .val (.int (fEnc (fSign (fMax x1 x2) x3) x5)), .val (.int (1 : Int32)), .unset] [(.int (fEnc (fSign (fMin x1 x2) x3) x4)), (.ref o0)])
              refine go_st (fun _ k => XS.iload X358.here hx rfl (hb hby at_150) rfl k) ?_
              show Go p e below s _ _ _ T358 (mkF m 152 #[.val (.int x0), .val (.int x1), .val (.int x2), .val (.int x3), .val (.int x4), .val (.int x5), .val (.ref a34), .val (.int (0 : Int32)), .val (.int (fMin x1 x2)), .val (.int (fMax x1 x2)), .val (.int (fEnc (fSign (fMin x1 x2) x3) x4)), .val (.int (fEnc (fSign (fMax x1 x2) x3) x5)), .val (.int (1 : Int32)), .unset] [(.int (fEnc (fSign (fMax x1 x2) x3) x5)), (.int (fEnc (fSign (fMin x1 x2) x3) x4)), (.ref o0)])
              have c485 := Exa.wr W43 c44
              have c486 := Exa.wr W48 c485
              have c487 := Exa.wr W56 c486
              have c488 := Exa.wr W66 c487
              have c489 := Exa.wr W78 c488
              have c490 := Exa.wr W92 c489
              have c491 := Fld.ext E34 F0
              have c492 := Fld.other W43 c491 (Or.inl ne35)
              have c493 := Fld.other W48 c492 (Or.inl ne35)
              have c494 := Fld.other W56 c493 (Or.inl ne35)
              have c495 := Fld.other W66 c494 (Or.inl ne35)
              have c496 := Fld.other W78 c495 (Or.inl ne35)
              have c497 := Fld.other W92 c496 (Or.inl ne35)
              have z498 : n0 ≤ h34.size := Nat.le_trans Z0 E34.1
              have z499 : n0 ≤ h43.size := (Wr.size W43).symm ▸ z498
              have z500 : n0 ≤ h48.size := (Wr.size W48).symm ▸ z499
              have z501 : n0 ≤ h56.size := (Wr.size W56).symm ▸ z500
              have z502 : n0 ≤ h66.size := (Wr.size W66).symm ▸ z501
              have z503 : n0 ≤ h78.size := (Wr.size W78).symm ▸ z502
              have z504 : n0 ≤ h92.size := (Wr.size W92).symm ▸ z503
              refine go_callV X358 hx hZ hml hown (hw _ (List.mem_of_getElem? (i := 34) rfl)) (hw _ (List.mem_of_getElem? (i := 35) rfl)) (notFace_of_selects (args := #[]) (mvT hZ (hw _ (List.mem_of_getElem? (i := 37) rfl)))) (hw _ (List.mem_of_getElem? (i := 37) rfl)) (hw _ (List.mem_of_getElem? (i := 36) rfl)) (hw _ (List.mem_of_getElem? (i := 38) rfl)) (hw _ (List.mem_of_getElem? (i := 3) rfl)) e358 c490 (argsL := [(.int (fEnc (fSign (fMin x1 x2) x3) x4)), (.int (fEnc (fSign (fMax x1 x2) x3) x5))]) (rest := []) (W := 0) (met_adm0 l Z a0 hw o0 (fEnc (fSign (fMin x1 x2) x3) x4) (fEnc (fSign (fMax x1 x2) x3) x5) h92 n0 z504 c490 c497) (hb hby at_152) rfl rfl rfl (lenOf pd3 rfl) (by show 2 * 0 + _ ≤ _; exact Nat.le_of_eq rfl) (by decide) (by decide) (by decide) (by decide) (by decide) ?_
              intro T484 v484 L484 X484 q484
              obtain ⟨rfl, M484, e484⟩ := q484
              have N484 := Fr.app N358 M484
              show Go p e below s _ _ _ T484 (mkF m 155 #[.val (.int x0), .val (.int x1), .val (.int x2), .val (.int x3), .val (.int x4), .val (.int x5), .val (.ref a34), .val (.int (0 : Int32)), .val (.int (fMin x1 x2)), .val (.int (fMax x1 x2)), .val (.int (fEnc (fSign (fMin x1 x2) x3) x4)), .val (.int (fEnc (fSign (fMax x1 x2) x3) x5)), .val (.int (1 : Int32)), .unset] [(.int (fAdm0 (fEnc (fSign (fMin x1 x2) x3) x4) (fEnc (fSign (fMax x1 x2) x3) x5)))])
              refine go_st (fun _ k => XS.istore X484.here hx rfl (hb hby at_155) rfl (l' := #[.val (.int x0), .val (.int x1), .val (.int x2), .val (.int x3), .val (.int x4), .val (.int x5), .val (.ref a34), .val (.int (0 : Int32)), .val (.int (fMin x1 x2)), .val (.int (fMax x1 x2)), .val (.int (fEnc (fSign (fMin x1 x2) x3) x4)), .val (.int (fEnc (fSign (fMax x1 x2) x3) x5)), .val (.int (1 : Int32)), .val (.int (fAdm0 (fEnc (fSign (fMin x1 x2) x3) x4) (fEnc (fSign (fMax x1 x2) x3) x5)))]) rfl k) ?_
              show Go p e below s _ _ _ T484 (mkF m 157 #[.val (.int x0), .val (.int x1), .val (.int x2), .val (.int x3), .val (.int x4), .val (.int x5), .val (.ref a34), .val (.int (0 : Int32)), .val (.int (fMin x1 x2)), .val (.int (fMax x1 x2)), .val (.int (fEnc (fSign (fMin x1 x2) x3) x4)), .val (.int (fEnc (fSign (fMax x1 x2) x3) x5)), .val (.int (1 : Int32)), .val (.int (fAdm0 (fEnc (fSign (fMin x1 x2) x3) x4) (fEnc (fSign (fMax x1 x2) x3) x5)))] [])
              refine go_st (fun _ k => XS.iload X484.here hx rfl (hb hby at_157) rfl k) ?_
              show Go p e below s _ _ _ T484 (mkF m 159 #[.val (.int x0), .val (.int x1), .val (.int x2), .val (.int x3), .val (.int x4), .val (.int x5), .val (.ref a34), .val (.int (0 : Int32)), .val (.int (fMin x1 x2)), .val (.int (fMax x1 x2)), .val (.int (fEnc (fSign (fMin x1 x2) x3) x4)), .val (.int (fEnc (fSign (fMax x1 x2) x3) x5)), .val (.int (1 : Int32)), .val (.int (fAdm0 (fEnc (fSign (fMin x1 x2) x3) x4) (fEnc (fSign (fMax x1 x2) x3) x5)))] [(.int (fAdm0 (fEnc (fSign (fMin x1 x2) x3) x4) (fEnc (fSign (fMax x1 x2) x3) x5)))])
              refine go_st (fun _ k => XS.iload X484.here hx rfl (hb hby at_159) rfl k) ?_
              show Go p e below s _ _ _ T484 (mkF m 161 #[.val (.int x0), .val (.int x1), .val (.int x2), .val (.int x3), .val (.int x4), .val (.int x5), .val (.ref a34), .val (.int (0 : Int32)), .val (.int (fMin x1 x2)), .val (.int (fMax x1 x2)), .val (.int (fEnc (fSign (fMin x1 x2) x3) x4)), .val (.int (fEnc (fSign (fMax x1 x2) x3) x5)), .val (.int (1 : Int32)), .val (.int (fAdm0 (fEnc (fSign (fMin x1 x2) x3) x4) (fEnc (fSign (fMax x1 x2) x3) x5)))] [(.int (1 : Int32)), (.int (fAdm0 (fEnc (fSign (fMin x1 x2) x3) x4) (fEnc (fSign (fMax x1 x2) x3) x5)))])
              by_cases hc505 : (fAdm0 (fEnc (fSign (fMin x1 x2) x3) x4) (fEnc (fSign (fMax x1 x2) x3) x5)) = (1 : Int32)
              · rw [if_pos hc505]
                refine go_st (fun _ k => XS.icmpNo X484.here hx rfl (hb hby at_161) rfl (XT.ii_ne_f hc505) k) ?_
                show Go p e below s _ _ _ T484 (mkF m 164 #[.val (.int x0), .val (.int x1), .val (.int x2), .val (.int x3), .val (.int x4), .val (.int x5), .val (.ref a34), .val (.int (0 : Int32)), .val (.int (fMin x1 x2)), .val (.int (fMax x1 x2)), .val (.int (fEnc (fSign (fMin x1 x2) x3) x4)), .val (.int (fEnc (fSign (fMax x1 x2) x3) x5)), .val (.int (1 : Int32)), .val (.int (fAdm0 (fEnc (fSign (fMin x1 x2) x3) x4) (fEnc (fSign (fMax x1 x2) x3) x5)))] [])
                refine go_st (fun _ k => XT.iconstV X484.here hx rfl (1 : Int32) (hb hby at_164) (by decide) k) ?_
                show Go p e below s _ _ _ T484 (mkF m 165 #[.val (.int x0), .val (.int x1), .val (.int x2), .val (.int x3), .val (.int x4), .val (.int x5), .val (.ref a34), .val (.int (0 : Int32)), .val (.int (fMin x1 x2)), .val (.int (fMax x1 x2)), .val (.int (fEnc (fSign (fMin x1 x2) x3) x4)), .val (.int (fEnc (fSign (fMax x1 x2) x3) x5)), .val (.int (1 : Int32)), .val (.int (fAdm0 (fEnc (fSign (fMin x1 x2) x3) x4) (fEnc (fSign (fMax x1 x2) x3) x5)))] [(.int (1 : Int32))])
                refine go_st (fun _ k => XS.goto X484.here hx rfl (pc0 := 165) (pc' := 169) rfl (hb hby at_165) (by decide) (by decide) k) ?_
                show Go p e below s _ _ _ T484 (mkF m 169 #[.val (.int x0), .val (.int x1), .val (.int x2), .val (.int x3), .val (.int x4), .val (.int x5), .val (.ref a34), .val (.int (0 : Int32)), .val (.int (fMin x1 x2)), .val (.int (fMax x1 x2)), .val (.int (fEnc (fSign (fMin x1 x2) x3) x4)), .val (.int (fEnc (fSign (fMax x1 x2) x3) x5)), .val (.int (1 : Int32)), .val (.int (fAdm0 (fEnc (fSign (fMin x1 x2) x3) x4) (fEnc (fSign (fMax x1 x2) x3) x5)))] [(.int (1 : Int32))])
                exact go_retB (w := (1 : Int32)) X484 hx hlk hret (hb hby at_169) (by decide) (by decide) (by decide) ⟨rfl, N484⟩
              · rw [if_neg hc505]
                refine go_st (fun _ k => XS.icmpYes X484.here hx rfl (pc0 := 161) (pc' := 168) rfl (hb hby at_161) rfl (XT.ii_ne_t hc505) (by decide) (by decide) k) ?_
                show Go p e below s _ _ _ T484 (mkF m 168 #[.val (.int x0), .val (.int x1), .val (.int x2), .val (.int x3), .val (.int x4), .val (.int x5), .val (.ref a34), .val (.int (0 : Int32)), .val (.int (fMin x1 x2)), .val (.int (fMax x1 x2)), .val (.int (fEnc (fSign (fMin x1 x2) x3) x4)), .val (.int (fEnc (fSign (fMax x1 x2) x3) x5)), .val (.int (1 : Int32)), .val (.int (fAdm0 (fEnc (fSign (fMin x1 x2) x3) x4) (fEnc (fSign (fMax x1 x2) x3) x5)))] [])
                refine go_st (fun _ k => XT.iconstV X484.here hx rfl (0 : Int32) (hb hby at_168) (by decide) k) ?_
                show Go p e below s _ _ _ T484 (mkF m 169 #[.val (.int x0), .val (.int x1), .val (.int x2), .val (.int x3), .val (.int x4), .val (.int x5), .val (.ref a34), .val (.int (0 : Int32)), .val (.int (fMin x1 x2)), .val (.int (fMax x1 x2)), .val (.int (fEnc (fSign (fMin x1 x2) x3) x4)), .val (.int (fEnc (fSign (fMax x1 x2) x3) x5)), .val (.int (1 : Int32)), .val (.int (fAdm0 (fEnc (fSign (fMin x1 x2) x3) x4) (fEnc (fSign (fMax x1 x2) x3) x5)))] [(.int (0 : Int32))])
                exact go_retB (w := (0 : Int32)) X484 hx hlk hret (hb hby at_169) (by decide) (by decide) (by decide) ⟨rfl, N484⟩
            · rw [if_neg hk483]
              by_cases hk506 : ((x0 &&& (2147483647 : Int32)) % (6 : Int32)) = (1 : Int32)
              · rw [if_pos hk506]
                rw [hk506]
                show Go p e below s _ _ _ T358 (mkF m 147 #[.val (.int x0), .val (.int x1), .val (.int x2), .val (.int x3), .val (.int x4), .val (.int x5), .val (.ref a34), .val (.int (1 : Int32)), .val (.int (fMin x1 x2)), .val (.int (fMax x1 x2)), .val (.int (fEnc (fSign (fMin x1 x2) x3) x4)), .val (.int (fEnc (fSign (fMax x1 x2) x3) x5)), .val (.int (1 : Int32)), .unset] [(.int (1 : Int32)), (.ref a34)])
                refine go_aald X358 hx hZ e358 A92 rfl (hb hby at_147) rfl rfl (by decide) (.ref o1) rfl ?_
                show Go p e below s _ _ _ T358 (mkF m 148 #[.val (.int x0), .val (.int x1), .val (.int x2), .val (.int x3), .val (.int x4), .val (.int x5), .val (.ref a34), .val (.int (1 : Int32)), .val (.int (fMin x1 x2)), .val (.int (fMax x1 x2)), .val (.int (fEnc (fSign (fMin x1 x2) x3) x4)), .val (.int (fEnc (fSign (fMax x1 x2) x3) x5)), .val (.int (1 : Int32)), .unset] [(.ref o1)])
                refine go_st (fun _ k => XS.iload X358.here hx rfl (hb hby at_148) rfl k) ?_
                show Go p e below s _ _ _ T358 (mkF m 150 #[.val (.int x0), .val (.int x1), .val (.int x2), .val (.int x3), .val (.int x4), .val (.int x5), .val (.ref a34), .val (.int (1 : Int32)), .val (.int (fMin x1 x2)), .val (.int (fMax x1 x2)), .val (.int (fEnc (fSign (fMin x1 x2) x3) x4)), .val (.int (fEnc (fSign (fMax x1 x2) x3) x5)), .val (.int (1 : Int32)), .unset] [(.int (fEnc (fSign (fMin x1 x2) x3) x4)), (.ref o1)])
                refine go_st (fun _ k => XS.iload X358.here hx rfl (hb hby at_150) rfl k) ?_
                show Go p e below s _ _ _ T358 (mkF m 152 #[.val (.int x0), .val (.int x1), .val (.int x2), .val (.int x3), .val (.int x4), .val (.int x5), .val (.ref a34), .val (.int (1 : Int32)), .val (.int (fMin x1 x2)), .val (.int (fMax x1 x2)), .val (.int (fEnc (fSign (fMin x1 x2) x3) x4)), .val (.int (fEnc (fSign (fMax x1 x2) x3) x5)), .val (.int (1 : Int32)), .unset] [(.int (fEnc (fSign (fMax x1 x2) x3) x5)), (.int (fEnc (fSign (fMin x1 x2) x3) x4)), (.ref o1)])
                have c508 := Exa.wr W48 c51
                have c509 := Exa.wr W56 c508
                have c510 := Exa.wr W66 c509
                have c511 := Exa.wr W78 c510
                have c512 := Exa.wr W92 c511
                have c513 := Fld.ext E34 F1
                have c514 := Fld.other W43 c513 (Or.inl ne36)
                have c515 := Fld.other W48 c514 (Or.inl ne36)
                have c516 := Fld.other W56 c515 (Or.inl ne36)
                have c517 := Fld.other W66 c516 (Or.inl ne36)
                have c518 := Fld.other W78 c517 (Or.inl ne36)
                have c519 := Fld.other W92 c518 (Or.inl ne36)
                have z520 : n0 ≤ h34.size := Nat.le_trans Z0 E34.1
                have z521 : n0 ≤ h43.size := (Wr.size W43).symm ▸ z520
                have z522 : n0 ≤ h48.size := (Wr.size W48).symm ▸ z521
                have z523 : n0 ≤ h56.size := (Wr.size W56).symm ▸ z522
                have z524 : n0 ≤ h66.size := (Wr.size W66).symm ▸ z523
                have z525 : n0 ≤ h78.size := (Wr.size W78).symm ▸ z524
                have z526 : n0 ≤ h92.size := (Wr.size W92).symm ▸ z525
                refine go_callV X358 hx hZ hml hown (hw _ (List.mem_of_getElem? (i := 34) rfl)) (hw _ (List.mem_of_getElem? (i := 35) rfl)) (notFace_of_selects (args := #[]) (mvT hZ (hw _ (List.mem_of_getElem? (i := 37) rfl)))) (hw _ (List.mem_of_getElem? (i := 37) rfl)) (hw _ (List.mem_of_getElem? (i := 36) rfl)) (hw _ (List.mem_of_getElem? (i := 38) rfl)) (hw _ (List.mem_of_getElem? (i := 3) rfl)) e358 c512 (argsL := [(.int (fEnc (fSign (fMin x1 x2) x3) x4)), (.int (fEnc (fSign (fMax x1 x2) x3) x5))]) (rest := []) (W := 0) (met_adm1 l Z a0 hw o1 (fEnc (fSign (fMin x1 x2) x3) x4) (fEnc (fSign (fMax x1 x2) x3) x5) h92 n0 z526 c512 c519) (hb hby at_152) rfl rfl rfl (lenOf pd3 rfl) (by show 2 * 0 + _ ≤ _; exact Nat.le_of_eq rfl) (by decide) (by decide) (by decide) (by decide) (by decide) ?_
                intro T507 v507 L507 X507 q507
                obtain ⟨rfl, M507, e507⟩ := q507
                have N507 := Fr.app N358 M507
                show Go p e below s _ _ _ T507 (mkF m 155 #[.val (.int x0), .val (.int x1), .val (.int x2), .val (.int x3), .val (.int x4), .val (.int x5), .val (.ref a34), .val (.int (1 : Int32)), .val (.int (fMin x1 x2)), .val (.int (fMax x1 x2)), .val (.int (fEnc (fSign (fMin x1 x2) x3) x4)), .val (.int (fEnc (fSign (fMax x1 x2) x3) x5)), .val (.int (1 : Int32)), .unset] [(.int (fAdm1 (fEnc (fSign (fMin x1 x2) x3) x4) (fEnc (fSign (fMax x1 x2) x3) x5)))])
                refine go_st (fun _ k => XS.istore X507.here hx rfl (hb hby at_155) rfl (l' := #[.val (.int x0), .val (.int x1), .val (.int x2), .val (.int x3), .val (.int x4), .val (.int x5), .val (.ref a34), .val (.int (1 : Int32)), .val (.int (fMin x1 x2)), .val (.int (fMax x1 x2)), .val (.int (fEnc (fSign (fMin x1 x2) x3) x4)), .val (.int (fEnc (fSign (fMax x1 x2) x3) x5)), .val (.int (1 : Int32)), .val (.int (fAdm1 (fEnc (fSign (fMin x1 x2) x3) x4) (fEnc (fSign (fMax x1 x2) x3) x5)))]) rfl k) ?_
                show Go p e below s _ _ _ T507 (mkF m 157 #[.val (.int x0), .val (.int x1), .val (.int x2), .val (.int x3), .val (.int x4), .val (.int x5), .val (.ref a34), .val (.int (1 : Int32)), .val (.int (fMin x1 x2)), .val (.int (fMax x1 x2)), .val (.int (fEnc (fSign (fMin x1 x2) x3) x4)), .val (.int (fEnc (fSign (fMax x1 x2) x3) x5)), .val (.int (1 : Int32)), .val (.int (fAdm1 (fEnc (fSign (fMin x1 x2) x3) x4) (fEnc (fSign (fMax x1 x2) x3) x5)))] [])
                refine go_st (fun _ k => XS.iload X507.here hx rfl (hb hby at_157) rfl k) ?_
                show Go p e below s _ _ _ T507 (mkF m 159 #[.val (.int x0), .val (.int x1), .val (.int x2), .val (.int x3), .val (.int x4), .val (.int x5), .val (.ref a34), .val (.int (1 : Int32)), .val (.int (fMin x1 x2)), .val (.int (fMax x1 x2)), .val (.int (fEnc (fSign (fMin x1 x2) x3) x4)), .val (.int (fEnc (fSign (fMax x1 x2) x3) x5)), .val (.int (1 : Int32)), .val (.int (fAdm1 (fEnc (fSign (fMin x1 x2) x3) x4) (fEnc (fSign (fMax x1 x2) x3) x5)))] [(.int (fAdm1 (fEnc (fSign (fMin x1 x2) x3) x4) (fEnc (fSign (fMax x1 x2) x3) x5)))])
                refine go_st (fun _ k => XS.iload X507.here hx rfl (hb hby at_159) rfl k) ?_
                show Go p e below s _ _ _ T507 (mkF m 161 #[.val (.int x0), .val (.int x1), .val (.int x2), .val (.int x3), .val (.int x4), .val (.int x5), .val (.ref a34), .val (.int (1 : Int32)), .val (.int (fMin x1 x2)), .val (.int (fMax x1 x2)), .val (.int (fEnc (fSign (fMin x1 x2) x3) x4)), .val (.int (fEnc (fSign (fMax x1 x2) x3) x5)), .val (.int (1 : Int32)), .val (.int (fAdm1 (fEnc (fSign (fMin x1 x2) x3) x4) (fEnc (fSign (fMax x1 x2) x3) x5)))] [(.int (1 : Int32)), (.int (fAdm1 (fEnc (fSign (fMin x1 x2) x3) x4) (fEnc (fSign (fMax x1 x2) x3) x5)))])
                by_cases hc527 : (fAdm1 (fEnc (fSign (fMin x1 x2) x3) x4) (fEnc (fSign (fMax x1 x2) x3) x5)) = (1 : Int32)
                · rw [if_pos hc527]
                  refine go_st (fun _ k => XS.icmpNo X507.here hx rfl (hb hby at_161) rfl (XT.ii_ne_f hc527) k) ?_
                  show Go p e below s _ _ _ T507 (mkF m 164 #[.val (.int x0), .val (.int x1), .val (.int x2), .val (.int x3), .val (.int x4), .val (.int x5), .val (.ref a34), .val (.int (1 : Int32)), .val (.int (fMin x1 x2)), .val (.int (fMax x1 x2)), .val (.int (fEnc (fSign (fMin x1 x2) x3) x4)), .val (.int (fEnc (fSign (fMax x1 x2) x3) x5)), .val (.int (1 : Int32)), .val (.int (fAdm1 (fEnc (fSign (fMin x1 x2) x3) x4) (fEnc (fSign (fMax x1 x2) x3) x5)))] [])
                  refine go_st (fun _ k => XT.iconstV X507.here hx rfl (1 : Int32) (hb hby at_164) (by decide) k) ?_
                  show Go p e below s _ _ _ T507 (mkF m 165 #[.val (.int x0), .val (.int x1), .val (.int x2), .val (.int x3), .val (.int x4), .val (.int x5), .val (.ref a34), .val (.int (1 : Int32)), .val (.int (fMin x1 x2)), .val (.int (fMax x1 x2)), .val (.int (fEnc (fSign (fMin x1 x2) x3) x4)), .val (.int (fEnc (fSign (fMax x1 x2) x3) x5)), .val (.int (1 : Int32)), .val (.int (fAdm1 (fEnc (fSign (fMin x1 x2) x3) x4) (fEnc (fSign (fMax x1 x2) x3) x5)))] [(.int (1 : Int32))])
                  refine go_st (fun _ k => XS.goto X507.here hx rfl (pc0 := 165) (pc' := 169) rfl (hb hby at_165) (by decide) (by decide) k) ?_
                  show Go p e below s _ _ _ T507 (mkF m 169 #[.val (.int x0), .val (.int x1), .val (.int x2), .val (.int x3), .val (.int x4), .val (.int x5), .val (.ref a34), .val (.int (1 : Int32)), .val (.int (fMin x1 x2)), .val (.int (fMax x1 x2)), .val (.int (fEnc (fSign (fMin x1 x2) x3) x4)), .val (.int (fEnc (fSign (fMax x1 x2) x3) x5)), .val (.int (1 : Int32)), .val (.int (fAdm1 (fEnc (fSign (fMin x1 x2) x3) x4) (fEnc (fSign (fMax x1 x2) x3) x5)))] [(.int (1 : Int32))])
                  exact go_retB (w := (1 : Int32)) X507 hx hlk hret (hb hby at_169) (by decide) (by decide) (by decide) ⟨rfl, N507⟩
                · rw [if_neg hc527]
                  refine go_st (fun _ k => XS.icmpYes X507.here hx rfl (pc0 := 161) (pc' := 168) rfl (hb hby at_161) rfl (XT.ii_ne_t hc527) (by decide) (by decide) k) ?_
                  show Go p e below s _ _ _ T507 (mkF m 168 #[.val (.int x0), .val (.int x1), .val (.int x2), .val (.int x3), .val (.int x4), .val (.int x5), .val (.ref a34), .val (.int (1 : Int32)), .val (.int (fMin x1 x2)), .val (.int (fMax x1 x2)), .val (.int (fEnc (fSign (fMin x1 x2) x3) x4)), .val (.int (fEnc (fSign (fMax x1 x2) x3) x5)), .val (.int (1 : Int32)), .val (.int (fAdm1 (fEnc (fSign (fMin x1 x2) x3) x4) (fEnc (fSign (fMax x1 x2) x3) x5)))] [])
                  refine go_st (fun _ k => XT.iconstV X507.here hx rfl (0 : Int32) (hb hby at_168) (by decide) k) ?_
                  show Go p e below s _ _ _ T507 (mkF m 169 #[.val (.int x0), .val (.int x1), .val (.int x2), .val (.int x3), .val (.int x4), .val (.int x5), .val (.ref a34), .val (.int (1 : Int32)), .val (.int (fMin x1 x2)), .val (.int (fMax x1 x2)), .val (.int (fEnc (fSign (fMin x1 x2) x3) x4)), .val (.int (fEnc (fSign (fMax x1 x2) x3) x5)), .val (.int (1 : Int32)), .val (.int (fAdm1 (fEnc (fSign (fMin x1 x2) x3) x4) (fEnc (fSign (fMax x1 x2) x3) x5)))] [(.int (0 : Int32))])
                  exact go_retB (w := (0 : Int32)) X507 hx hlk hret (hb hby at_169) (by decide) (by decide) (by decide) ⟨rfl, N507⟩
              · rw [if_neg hk506]
                by_cases hk528 : ((x0 &&& (2147483647 : Int32)) % (6 : Int32)) = (2 : Int32)
                · rw [if_pos hk528]
                  rw [hk528]
                  show Go p e below s _ _ _ T358 (mkF m 147 #[.val (.int x0), .val (.int x1), .val (.int x2), .val (.int x3), .val (.int x4), .val (.int x5), .val (.ref a34), .val (.int (2 : Int32)), .val (.int (fMin x1 x2)), .val (.int (fMax x1 x2)), .val (.int (fEnc (fSign (fMin x1 x2) x3) x4)), .val (.int (fEnc (fSign (fMax x1 x2) x3) x5)), .val (.int (1 : Int32)), .unset] [(.int (2 : Int32)), (.ref a34)])
                  refine go_aald X358 hx hZ e358 A92 rfl (hb hby at_147) rfl rfl (by decide) (.ref o2) rfl ?_
                  show Go p e below s _ _ _ T358 (mkF m 148 #[.val (.int x0), .val (.int x1), .val (.int x2), .val (.int x3), .val (.int x4), .val (.int x5), .val (.ref a34), .val (.int (2 : Int32)), .val (.int (fMin x1 x2)), .val (.int (fMax x1 x2)), .val (.int (fEnc (fSign (fMin x1 x2) x3) x4)), .val (.int (fEnc (fSign (fMax x1 x2) x3) x5)), .val (.int (1 : Int32)), .unset] [(.ref o2)])
                  refine go_st (fun _ k => XS.iload X358.here hx rfl (hb hby at_148) rfl k) ?_
                  show Go p e below s _ _ _ T358 (mkF m 150 #[.val (.int x0), .val (.int x1), .val (.int x2), .val (.int x3), .val (.int x4), .val (.int x5), .val (.ref a34), .val (.int (2 : Int32)), .val (.int (fMin x1 x2)), .val (.int (fMax x1 x2)), .val (.int (fEnc (fSign (fMin x1 x2) x3) x4)), .val (.int (fEnc (fSign (fMax x1 x2) x3) x5)), .val (.int (1 : Int32)), .unset] [(.int (fEnc (fSign (fMin x1 x2) x3) x4)), (.ref o2)])
                  refine go_st (fun _ k => XS.iload X358.here hx rfl (hb hby at_150) rfl k) ?_
                  show Go p e below s _ _ _ T358 (mkF m 152 #[.val (.int x0), .val (.int x1), .val (.int x2), .val (.int x3), .val (.int x4), .val (.int x5), .val (.ref a34), .val (.int (2 : Int32)), .val (.int (fMin x1 x2)), .val (.int (fMax x1 x2)), .val (.int (fEnc (fSign (fMin x1 x2) x3) x4)), .val (.int (fEnc (fSign (fMax x1 x2) x3) x5)), .val (.int (1 : Int32)), .unset] [(.int (fEnc (fSign (fMax x1 x2) x3) x5)), (.int (fEnc (fSign (fMin x1 x2) x3) x4)), (.ref o2)])
                  have c530 := Exa.wr W56 c60
                  have c531 := Exa.wr W66 c530
                  have c532 := Exa.wr W78 c531
                  have c533 := Exa.wr W92 c532
                  have c534 := Fld.ext E34 F2
                  have c535 := Fld.other W43 c534 (Or.inl ne37)
                  have c536 := Fld.other W48 c535 (Or.inl ne37)
                  have c537 := Fld.other W56 c536 (Or.inl ne37)
                  have c538 := Fld.other W66 c537 (Or.inl ne37)
                  have c539 := Fld.other W78 c538 (Or.inl ne37)
                  have c540 := Fld.other W92 c539 (Or.inl ne37)
                  have z541 : n0 ≤ h34.size := Nat.le_trans Z0 E34.1
                  have z542 : n0 ≤ h43.size := (Wr.size W43).symm ▸ z541
                  have z543 : n0 ≤ h48.size := (Wr.size W48).symm ▸ z542
                  have z544 : n0 ≤ h56.size := (Wr.size W56).symm ▸ z543
                  have z545 : n0 ≤ h66.size := (Wr.size W66).symm ▸ z544
                  have z546 : n0 ≤ h78.size := (Wr.size W78).symm ▸ z545
                  have z547 : n0 ≤ h92.size := (Wr.size W92).symm ▸ z546
                  refine go_callV X358 hx hZ hml hown (hw _ (List.mem_of_getElem? (i := 34) rfl)) (hw _ (List.mem_of_getElem? (i := 35) rfl)) (notFace_of_selects (args := #[]) (mvT hZ (hw _ (List.mem_of_getElem? (i := 37) rfl)))) (hw _ (List.mem_of_getElem? (i := 37) rfl)) (hw _ (List.mem_of_getElem? (i := 36) rfl)) (hw _ (List.mem_of_getElem? (i := 38) rfl)) (hw _ (List.mem_of_getElem? (i := 3) rfl)) e358 c533 (argsL := [(.int (fEnc (fSign (fMin x1 x2) x3) x4)), (.int (fEnc (fSign (fMax x1 x2) x3) x5))]) (rest := []) (W := 0) (met_adm2 l Z a0 hw o2 (fEnc (fSign (fMin x1 x2) x3) x4) (fEnc (fSign (fMax x1 x2) x3) x5) h92 n0 z547 c533 c540) (hb hby at_152) rfl rfl rfl (lenOf pd3 rfl) (by show 2 * 0 + _ ≤ _; exact Nat.le_of_eq rfl) (by decide) (by decide) (by decide) (by decide) (by decide) ?_
                  intro T529 v529 L529 X529 q529
                  obtain ⟨rfl, M529, e529⟩ := q529
                  have N529 := Fr.app N358 M529
                  show Go p e below s _ _ _ T529 (mkF m 155 #[.val (.int x0), .val (.int x1), .val (.int x2), .val (.int x3), .val (.int x4), .val (.int x5), .val (.ref a34), .val (.int (2 : Int32)), .val (.int (fMin x1 x2)), .val (.int (fMax x1 x2)), .val (.int (fEnc (fSign (fMin x1 x2) x3) x4)), .val (.int (fEnc (fSign (fMax x1 x2) x3) x5)), .val (.int (1 : Int32)), .unset] [(.int (fAdm2 (fEnc (fSign (fMin x1 x2) x3) x4) (fEnc (fSign (fMax x1 x2) x3) x5)))])
                  refine go_st (fun _ k => XS.istore X529.here hx rfl (hb hby at_155) rfl (l' := #[.val (.int x0), .val (.int x1), .val (.int x2), .val (.int x3), .val (.int x4), .val (.int x5), .val (.ref a34), .val (.int (2 : Int32)), .val (.int (fMin x1 x2)), .val (.int (fMax x1 x2)), .val (.int (fEnc (fSign (fMin x1 x2) x3) x4)), .val (.int (fEnc (fSign (fMax x1 x2) x3) x5)), .val (.int (1 : Int32)), .val (.int (fAdm2 (fEnc (fSign (fMin x1 x2) x3) x4) (fEnc (fSign (fMax x1 x2) x3) x5)))]) rfl k) ?_
                  show Go p e below s _ _ _ T529 (mkF m 157 #[.val (.int x0), .val (.int x1), .val (.int x2), .val (.int x3), .val (.int x4), .val (.int x5), .val (.ref a34), .val (.int (2 : Int32)), .val (.int (fMin x1 x2)), .val (.int (fMax x1 x2)), .val (.int (fEnc (fSign (fMin x1 x2) x3) x4)), .val (.int (fEnc (fSign (fMax x1 x2) x3) x5)), .val (.int (1 : Int32)), .val (.int (fAdm2 (fEnc (fSign (fMin x1 x2) x3) x4) (fEnc (fSign (fMax x1 x2) x3) x5)))] [])
                  refine go_st (fun _ k => XS.iload X529.here hx rfl (hb hby at_157) rfl k) ?_
                  show Go p e below s _ _ _ T529 (mkF m 159 #[.val (.int x0), .val (.int x1), .val (.int x2), .val (.int x3), .val (.int x4), .val (.int x5), .val (.ref a34), .val (.int (2 : Int32)), .val (.int (fMin x1 x2)), .val (.int (fMax x1 x2)), .val (.int (fEnc (fSign (fMin x1 x2) x3) x4)), .val (.int (fEnc (fSign (fMax x1 x2) x3) x5)), .val (.int (1 : Int32)), .val (.int (fAdm2 (fEnc (fSign (fMin x1 x2) x3) x4) (fEnc (fSign (fMax x1 x2) x3) x5)))] [(.int (fAdm2 (fEnc (fSign (fMin x1 x2) x3) x4) (fEnc (fSign (fMax x1 x2) x3) x5)))])
                  refine go_st (fun _ k => XS.iload X529.here hx rfl (hb hby at_159) rfl k) ?_
                  show Go p e below s _ _ _ T529 (mkF m 161 #[.val (.int x0), .val (.int x1), .val (.int x2), .val (.int x3), .val (.int x4), .val (.int x5), .val (.ref a34), .val (.int (2 : Int32)), .val (.int (fMin x1 x2)), .val (.int (fMax x1 x2)), .val (.int (fEnc (fSign (fMin x1 x2) x3) x4)), .val (.int (fEnc (fSign (fMax x1 x2) x3) x5)), .val (.int (1 : Int32)), .val (.int (fAdm2 (fEnc (fSign (fMin x1 x2) x3) x4) (fEnc (fSign (fMax x1 x2) x3) x5)))] [(.int (1 : Int32)), (.int (fAdm2 (fEnc (fSign (fMin x1 x2) x3) x4) (fEnc (fSign (fMax x1 x2) x3) x5)))])
                  by_cases hc548 : (fAdm2 (fEnc (fSign (fMin x1 x2) x3) x4) (fEnc (fSign (fMax x1 x2) x3) x5)) = (1 : Int32)
                  · rw [if_pos hc548]
                    refine go_st (fun _ k => XS.icmpNo X529.here hx rfl (hb hby at_161) rfl (XT.ii_ne_f hc548) k) ?_
                    show Go p e below s _ _ _ T529 (mkF m 164 #[.val (.int x0), .val (.int x1), .val (.int x2), .val (.int x3), .val (.int x4), .val (.int x5), .val (.ref a34), .val (.int (2 : Int32)), .val (.int (fMin x1 x2)), .val (.int (fMax x1 x2)), .val (.int (fEnc (fSign (fMin x1 x2) x3) x4)), .val (.int (fEnc (fSign (fMax x1 x2) x3) x5)), .val (.int (1 : Int32)), .val (.int (fAdm2 (fEnc (fSign (fMin x1 x2) x3) x4) (fEnc (fSign (fMax x1 x2) x3) x5)))] [])
                    refine go_st (fun _ k => XT.iconstV X529.here hx rfl (1 : Int32) (hb hby at_164) (by decide) k) ?_
                    show Go p e below s _ _ _ T529 (mkF m 165 #[.val (.int x0), .val (.int x1), .val (.int x2), .val (.int x3), .val (.int x4), .val (.int x5), .val (.ref a34), .val (.int (2 : Int32)), .val (.int (fMin x1 x2)), .val (.int (fMax x1 x2)), .val (.int (fEnc (fSign (fMin x1 x2) x3) x4)), .val (.int (fEnc (fSign (fMax x1 x2) x3) x5)), .val (.int (1 : Int32)), .val (.int (fAdm2 (fEnc (fSign (fMin x1 x2) x3) x4) (fEnc (fSign (fMax x1 x2) x3) x5)))] [(.int (1 : Int32))])
                    refine go_st (fun _ k => XS.goto X529.here hx rfl (pc0 := 165) (pc' := 169) rfl (hb hby at_165) (by decide) (by decide) k) ?_
                    show Go p e below s _ _ _ T529 (mkF m 169 #[.val (.int x0), .val (.int x1), .val (.int x2), .val (.int x3), .val (.int x4), .val (.int x5), .val (.ref a34), .val (.int (2 : Int32)), .val (.int (fMin x1 x2)), .val (.int (fMax x1 x2)), .val (.int (fEnc (fSign (fMin x1 x2) x3) x4)), .val (.int (fEnc (fSign (fMax x1 x2) x3) x5)), .val (.int (1 : Int32)), .val (.int (fAdm2 (fEnc (fSign (fMin x1 x2) x3) x4) (fEnc (fSign (fMax x1 x2) x3) x5)))] [(.int (1 : Int32))])
                    exact go_retB (w := (1 : Int32)) X529 hx hlk hret (hb hby at_169) (by decide) (by decide) (by decide) ⟨rfl, N529⟩
                  · rw [if_neg hc548]
                    refine go_st (fun _ k => XS.icmpYes X529.here hx rfl (pc0 := 161) (pc' := 168) rfl (hb hby at_161) rfl (XT.ii_ne_t hc548) (by decide) (by decide) k) ?_
                    show Go p e below s _ _ _ T529 (mkF m 168 #[.val (.int x0), .val (.int x1), .val (.int x2), .val (.int x3), .val (.int x4), .val (.int x5), .val (.ref a34), .val (.int (2 : Int32)), .val (.int (fMin x1 x2)), .val (.int (fMax x1 x2)), .val (.int (fEnc (fSign (fMin x1 x2) x3) x4)), .val (.int (fEnc (fSign (fMax x1 x2) x3) x5)), .val (.int (1 : Int32)), .val (.int (fAdm2 (fEnc (fSign (fMin x1 x2) x3) x4) (fEnc (fSign (fMax x1 x2) x3) x5)))] [])
                    refine go_st (fun _ k => XT.iconstV X529.here hx rfl (0 : Int32) (hb hby at_168) (by decide) k) ?_
                    show Go p e below s _ _ _ T529 (mkF m 169 #[.val (.int x0), .val (.int x1), .val (.int x2), .val (.int x3), .val (.int x4), .val (.int x5), .val (.ref a34), .val (.int (2 : Int32)), .val (.int (fMin x1 x2)), .val (.int (fMax x1 x2)), .val (.int (fEnc (fSign (fMin x1 x2) x3) x4)), .val (.int (fEnc (fSign (fMax x1 x2) x3) x5)), .val (.int (1 : Int32)), .val (.int (fAdm2 (fEnc (fSign (fMin x1 x2) x3) x4) (fEnc (fSign (fMax x1 x2) x3) x5)))] [(.int (0 : Int32))])
                    exact go_retB (w := (0 : Int32)) X529 hx hlk hret (hb hby at_169) (by decide) (by decide) (by decide) ⟨rfl, N529⟩
                · rw [if_neg hk528]
                  by_cases hk549 : ((x0 &&& (2147483647 : Int32)) % (6 : Int32)) = (3 : Int32)
                  · rw [if_pos hk549]
                    rw [hk549]
                    show Go p e below s _ _ _ T358 (mkF m 147 #[.val (.int x0), .val (.int x1), .val (.int x2), .val (.int x3), .val (.int x4), .val (.int x5), .val (.ref a34), .val (.int (3 : Int32)), .val (.int (fMin x1 x2)), .val (.int (fMax x1 x2)), .val (.int (fEnc (fSign (fMin x1 x2) x3) x4)), .val (.int (fEnc (fSign (fMax x1 x2) x3) x5)), .val (.int (1 : Int32)), .unset] [(.int (3 : Int32)), (.ref a34)])
                    refine go_aald X358 hx hZ e358 A92 rfl (hb hby at_147) rfl rfl (by decide) (.ref o3) rfl ?_
                    show Go p e below s _ _ _ T358 (mkF m 148 #[.val (.int x0), .val (.int x1), .val (.int x2), .val (.int x3), .val (.int x4), .val (.int x5), .val (.ref a34), .val (.int (3 : Int32)), .val (.int (fMin x1 x2)), .val (.int (fMax x1 x2)), .val (.int (fEnc (fSign (fMin x1 x2) x3) x4)), .val (.int (fEnc (fSign (fMax x1 x2) x3) x5)), .val (.int (1 : Int32)), .unset] [(.ref o3)])
                    refine go_st (fun _ k => XS.iload X358.here hx rfl (hb hby at_148) rfl k) ?_
                    show Go p e below s _ _ _ T358 (mkF m 150 #[.val (.int x0), .val (.int x1), .val (.int x2), .val (.int x3), .val (.int x4), .val (.int x5), .val (.ref a34), .val (.int (3 : Int32)), .val (.int (fMin x1 x2)), .val (.int (fMax x1 x2)), .val (.int (fEnc (fSign (fMin x1 x2) x3) x4)), .val (.int (fEnc (fSign (fMax x1 x2) x3) x5)), .val (.int (1 : Int32)), .unset] [(.int (fEnc (fSign (fMin x1 x2) x3) x4)), (.ref o3)])
                    refine go_st (fun _ k => XS.iload X358.here hx rfl (hb hby at_150) rfl k) ?_
                    show Go p e below s _ _ _ T358 (mkF m 152 #[.val (.int x0), .val (.int x1), .val (.int x2), .val (.int x3), .val (.int x4), .val (.int x5), .val (.ref a34), .val (.int (3 : Int32)), .val (.int (fMin x1 x2)), .val (.int (fMax x1 x2)), .val (.int (fEnc (fSign (fMin x1 x2) x3) x4)), .val (.int (fEnc (fSign (fMax x1 x2) x3) x5)), .val (.int (1 : Int32)), .unset] [(.int (fEnc (fSign (fMax x1 x2) x3) x5)), (.int (fEnc (fSign (fMin x1 x2) x3) x4)), (.ref o3)])
                    have c551 := Exa.wr W66 c71
                    have c552 := Exa.wr W78 c551
                    have c553 := Exa.wr W92 c552
                    have c554 := Fld.ext E34 F3
                    have c555 := Fld.other W43 c554 (Or.inl ne38)
                    have c556 := Fld.other W48 c555 (Or.inl ne38)
                    have c557 := Fld.other W56 c556 (Or.inl ne38)
                    have c558 := Fld.other W66 c557 (Or.inl ne38)
                    have c559 := Fld.other W78 c558 (Or.inl ne38)
                    have c560 := Fld.other W92 c559 (Or.inl ne38)
                    have z561 : n0 ≤ h34.size := Nat.le_trans Z0 E34.1
                    have z562 : n0 ≤ h43.size := (Wr.size W43).symm ▸ z561
                    have z563 : n0 ≤ h48.size := (Wr.size W48).symm ▸ z562
                    have z564 : n0 ≤ h56.size := (Wr.size W56).symm ▸ z563
                    have z565 : n0 ≤ h66.size := (Wr.size W66).symm ▸ z564
                    have z566 : n0 ≤ h78.size := (Wr.size W78).symm ▸ z565
                    have z567 : n0 ≤ h92.size := (Wr.size W92).symm ▸ z566
                    refine go_callV X358 hx hZ hml hown (hw _ (List.mem_of_getElem? (i := 34) rfl)) (hw _ (List.mem_of_getElem? (i := 35) rfl)) (notFace_of_selects (args := #[]) (mvT hZ (hw _ (List.mem_of_getElem? (i := 37) rfl)))) (hw _ (List.mem_of_getElem? (i := 37) rfl)) (hw _ (List.mem_of_getElem? (i := 36) rfl)) (hw _ (List.mem_of_getElem? (i := 38) rfl)) (hw _ (List.mem_of_getElem? (i := 3) rfl)) e358 c553 (argsL := [(.int (fEnc (fSign (fMin x1 x2) x3) x4)), (.int (fEnc (fSign (fMax x1 x2) x3) x5))]) (rest := []) (W := 0) (met_adm3 l Z a0 hw o3 (fEnc (fSign (fMin x1 x2) x3) x4) (fEnc (fSign (fMax x1 x2) x3) x5) h92 n0 z567 c553 c560) (hb hby at_152) rfl rfl rfl (lenOf pd3 rfl) (by show 2 * 0 + _ ≤ _; exact Nat.le_of_eq rfl) (by decide) (by decide) (by decide) (by decide) (by decide) ?_
                    intro T550 v550 L550 X550 q550
                    obtain ⟨rfl, M550, e550⟩ := q550
                    have N550 := Fr.app N358 M550
                    show Go p e below s _ _ _ T550 (mkF m 155 #[.val (.int x0), .val (.int x1), .val (.int x2), .val (.int x3), .val (.int x4), .val (.int x5), .val (.ref a34), .val (.int (3 : Int32)), .val (.int (fMin x1 x2)), .val (.int (fMax x1 x2)), .val (.int (fEnc (fSign (fMin x1 x2) x3) x4)), .val (.int (fEnc (fSign (fMax x1 x2) x3) x5)), .val (.int (1 : Int32)), .unset] [(.int (fAdm3 (fEnc (fSign (fMin x1 x2) x3) x4) (fEnc (fSign (fMax x1 x2) x3) x5)))])
                    refine go_st (fun _ k => XS.istore X550.here hx rfl (hb hby at_155) rfl (l' := #[.val (.int x0), .val (.int x1), .val (.int x2), .val (.int x3), .val (.int x4), .val (.int x5), .val (.ref a34), .val (.int (3 : Int32)), .val (.int (fMin x1 x2)), .val (.int (fMax x1 x2)), .val (.int (fEnc (fSign (fMin x1 x2) x3) x4)), .val (.int (fEnc (fSign (fMax x1 x2) x3) x5)), .val (.int (1 : Int32)), .val (.int (fAdm3 (fEnc (fSign (fMin x1 x2) x3) x4) (fEnc (fSign (fMax x1 x2) x3) x5)))]) rfl k) ?_
                    show Go p e below s _ _ _ T550 (mkF m 157 #[.val (.int x0), .val (.int x1), .val (.int x2), .val (.int x3), .val (.int x4), .val (.int x5), .val (.ref a34), .val (.int (3 : Int32)), .val (.int (fMin x1 x2)), .val (.int (fMax x1 x2)), .val (.int (fEnc (fSign (fMin x1 x2) x3) x4)), .val (.int (fEnc (fSign (fMax x1 x2) x3) x5)), .val (.int (1 : Int32)), .val (.int (fAdm3 (fEnc (fSign (fMin x1 x2) x3) x4) (fEnc (fSign (fMax x1 x2) x3) x5)))] [])
                    refine go_st (fun _ k => XS.iload X550.here hx rfl (hb hby at_157) rfl k) ?_
                    show Go p e below s _ _ _ T550 (mkF m 159 #[.val (.int x0), .val (.int x1), .val (.int x2), .val (.int x3), .val (.int x4), .val (.int x5), .val (.ref a34), .val (.int (3 : Int32)), .val (.int (fMin x1 x2)), .val (.int (fMax x1 x2)), .val (.int (fEnc (fSign (fMin x1 x2) x3) x4)), .val (.int (fEnc (fSign (fMax x1 x2) x3) x5)), .val (.int (1 : Int32)), .val (.int (fAdm3 (fEnc (fSign (fMin x1 x2) x3) x4) (fEnc (fSign (fMax x1 x2) x3) x5)))] [(.int (fAdm3 (fEnc (fSign (fMin x1 x2) x3) x4) (fEnc (fSign (fMax x1 x2) x3) x5)))])
                    refine go_st (fun _ k => XS.iload X550.here hx rfl (hb hby at_159) rfl k) ?_
                    show Go p e below s _ _ _ T550 (mkF m 161 #[.val (.int x0), .val (.int x1), .val (.int x2), .val (.int x3), .val (.int x4), .val (.int x5), .val (.ref a34), .val (.int (3 : Int32)), .val (.int (fMin x1 x2)), .val (.int (fMax x1 x2)), .val (.int (fEnc (fSign (fMin x1 x2) x3) x4)), .val (.int (fEnc (fSign (fMax x1 x2) x3) x5)), .val (.int (1 : Int32)), .val (.int (fAdm3 (fEnc (fSign (fMin x1 x2) x3) x4) (fEnc (fSign (fMax x1 x2) x3) x5)))] [(.int (1 : Int32)), (.int (fAdm3 (fEnc (fSign (fMin x1 x2) x3) x4) (fEnc (fSign (fMax x1 x2) x3) x5)))])
                    by_cases hc568 : (fAdm3 (fEnc (fSign (fMin x1 x2) x3) x4) (fEnc (fSign (fMax x1 x2) x3) x5)) = (1 : Int32)
                    · rw [if_pos hc568]
                      refine go_st (fun _ k => XS.icmpNo X550.here hx rfl (hb hby at_161) rfl (XT.ii_ne_f hc568) k) ?_
                      show Go p e below s _ _ _ T550 (mkF m 164 #[.val (.int x0), .val (.int x1), .val (.int x2), .val (.int x3), .val (.int x4), .val (.int x5), .val (.ref a34), .val (.int (3 : Int32)), .val (.int (fMin x1 x2)), .val (.int (fMax x1 x2)), .val (.int (fEnc (fSign (fMin x1 x2) x3) x4)), .val (.int (fEnc (fSign (fMax x1 x2) x3) x5)), .val (.int (1 : Int32)), .val (.int (fAdm3 (fEnc (fSign (fMin x1 x2) x3) x4) (fEnc (fSign (fMax x1 x2) x3) x5)))] [])
                      refine go_st (fun _ k => XT.iconstV X550.here hx rfl (1 : Int32) (hb hby at_164) (by decide) k) ?_
                      show Go p e below s _ _ _ T550 (mkF m 165 #[.val (.int x0), .val (.int x1), .val (.int x2), .val (.int x3), .val (.int x4), .val (.int x5), .val (.ref a34), .val (.int (3 : Int32)), .val (.int (fMin x1 x2)), .val (.int (fMax x1 x2)), .val (.int (fEnc (fSign (fMin x1 x2) x3) x4)), .val (.int (fEnc (fSign (fMax x1 x2) x3) x5)), .val (.int (1 : Int32)), .val (.int (fAdm3 (fEnc (fSign (fMin x1 x2) x3) x4) (fEnc (fSign (fMax x1 x2) x3) x5)))] [(.int (1 : Int32))])
                      refine go_st (fun _ k => XS.goto X550.here hx rfl (pc0 := 165) (pc' := 169) rfl (hb hby at_165) (by decide) (by decide) k) ?_
                      show Go p e below s _ _ _ T550 (mkF m 169 #[.val (.int x0), .val (.int x1), .val (.int x2), .val (.int x3), .val (.int x4), .val (.int x5), .val (.ref a34), .val (.int (3 : Int32)), .val (.int (fMin x1 x2)), .val (.int (fMax x1 x2)), .val (.int (fEnc (fSign (fMin x1 x2) x3) x4)), .val (.int (fEnc (fSign (fMax x1 x2) x3) x5)), .val (.int (1 : Int32)), .val (.int (fAdm3 (fEnc (fSign (fMin x1 x2) x3) x4) (fEnc (fSign (fMax x1 x2) x3) x5)))] [(.int (1 : Int32))])
                      exact go_retB (w := (1 : Int32)) X550 hx hlk hret (hb hby at_169) (by decide) (by decide) (by decide) ⟨rfl, N550⟩
                    · rw [if_neg hc568]
                      refine go_st (fun _ k => XS.icmpYes X550.here hx rfl (pc0 := 161) (pc' := 168) rfl (hb hby at_161) rfl (XT.ii_ne_t hc568) (by decide) (by decide) k) ?_
                      show Go p e below s _ _ _ T550 (mkF m 168 #[.val (.int x0), .val (.int x1), .val (.int x2), .val (.int x3), .val (.int x4), .val (.int x5), .val (.ref a34), .val (.int (3 : Int32)), .val (.int (fMin x1 x2)), .val (.int (fMax x1 x2)), .val (.int (fEnc (fSign (fMin x1 x2) x3) x4)), .val (.int (fEnc (fSign (fMax x1 x2) x3) x5)), .val (.int (1 : Int32)), .val (.int (fAdm3 (fEnc (fSign (fMin x1 x2) x3) x4) (fEnc (fSign (fMax x1 x2) x3) x5)))] [])
                      refine go_st (fun _ k => XT.iconstV X550.here hx rfl (0 : Int32) (hb hby at_168) (by decide) k) ?_
                      show Go p e below s _ _ _ T550 (mkF m 169 #[.val (.int x0), .val (.int x1), .val (.int x2), .val (.int x3), .val (.int x4), .val (.int x5), .val (.ref a34), .val (.int (3 : Int32)), .val (.int (fMin x1 x2)), .val (.int (fMax x1 x2)), .val (.int (fEnc (fSign (fMin x1 x2) x3) x4)), .val (.int (fEnc (fSign (fMax x1 x2) x3) x5)), .val (.int (1 : Int32)), .val (.int (fAdm3 (fEnc (fSign (fMin x1 x2) x3) x4) (fEnc (fSign (fMax x1 x2) x3) x5)))] [(.int (0 : Int32))])
                      exact go_retB (w := (0 : Int32)) X550 hx hlk hret (hb hby at_169) (by decide) (by decide) (by decide) ⟨rfl, N550⟩
                  · rw [if_neg hk549]
                    by_cases hk569 : ((x0 &&& (2147483647 : Int32)) % (6 : Int32)) = (4 : Int32)
                    · rw [if_pos hk569]
                      rw [hk569]
                      show Go p e below s _ _ _ T358 (mkF m 147 #[.val (.int x0), .val (.int x1), .val (.int x2), .val (.int x3), .val (.int x4), .val (.int x5), .val (.ref a34), .val (.int (4 : Int32)), .val (.int (fMin x1 x2)), .val (.int (fMax x1 x2)), .val (.int (fEnc (fSign (fMin x1 x2) x3) x4)), .val (.int (fEnc (fSign (fMax x1 x2) x3) x5)), .val (.int (1 : Int32)), .unset] [(.int (4 : Int32)), (.ref a34)])
                      refine go_aald X358 hx hZ e358 A92 rfl (hb hby at_147) rfl rfl (by decide) (.ref o4) rfl ?_
                      show Go p e below s _ _ _ T358 (mkF m 148 #[.val (.int x0), .val (.int x1), .val (.int x2), .val (.int x3), .val (.int x4), .val (.int x5), .val (.ref a34), .val (.int (4 : Int32)), .val (.int (fMin x1 x2)), .val (.int (fMax x1 x2)), .val (.int (fEnc (fSign (fMin x1 x2) x3) x4)), .val (.int (fEnc (fSign (fMax x1 x2) x3) x5)), .val (.int (1 : Int32)), .unset] [(.ref o4)])
                      refine go_st (fun _ k => XS.iload X358.here hx rfl (hb hby at_148) rfl k) ?_
                      show Go p e below s _ _ _ T358 (mkF m 150 #[.val (.int x0), .val (.int x1), .val (.int x2), .val (.int x3), .val (.int x4), .val (.int x5), .val (.ref a34), .val (.int (4 : Int32)), .val (.int (fMin x1 x2)), .val (.int (fMax x1 x2)), .val (.int (fEnc (fSign (fMin x1 x2) x3) x4)), .val (.int (fEnc (fSign (fMax x1 x2) x3) x5)), .val (.int (1 : Int32)), .unset] [(.int (fEnc (fSign (fMin x1 x2) x3) x4)), (.ref o4)])
                      refine go_st (fun _ k => XS.iload X358.here hx rfl (hb hby at_150) rfl k) ?_
                      show Go p e below s _ _ _ T358 (mkF m 152 #[.val (.int x0), .val (.int x1), .val (.int x2), .val (.int x3), .val (.int x4), .val (.int x5), .val (.ref a34), .val (.int (4 : Int32)), .val (.int (fMin x1 x2)), .val (.int (fMax x1 x2)), .val (.int (fEnc (fSign (fMin x1 x2) x3) x4)), .val (.int (fEnc (fSign (fMax x1 x2) x3) x5)), .val (.int (1 : Int32)), .unset] [(.int (fEnc (fSign (fMax x1 x2) x3) x5)), (.int (fEnc (fSign (fMin x1 x2) x3) x4)), (.ref o4)])
                      have c571 := Exa.wr W78 c84
                      have c572 := Exa.wr W92 c571
                      have c573 := Fld.ext E34 F4
                      have c574 := Fld.other W43 c573 (Or.inl ne39)
                      have c575 := Fld.other W48 c574 (Or.inl ne39)
                      have c576 := Fld.other W56 c575 (Or.inl ne39)
                      have c577 := Fld.other W66 c576 (Or.inl ne39)
                      have c578 := Fld.other W78 c577 (Or.inl ne39)
                      have c579 := Fld.other W92 c578 (Or.inl ne39)
                      have z580 : n0 ≤ h34.size := Nat.le_trans Z0 E34.1
                      have z581 : n0 ≤ h43.size := (Wr.size W43).symm ▸ z580
                      have z582 : n0 ≤ h48.size := (Wr.size W48).symm ▸ z581
                      have z583 : n0 ≤ h56.size := (Wr.size W56).symm ▸ z582
                      have z584 : n0 ≤ h66.size := (Wr.size W66).symm ▸ z583
                      have z585 : n0 ≤ h78.size := (Wr.size W78).symm ▸ z584
                      have z586 : n0 ≤ h92.size := (Wr.size W92).symm ▸ z585
                      refine go_callV X358 hx hZ hml hown (hw _ (List.mem_of_getElem? (i := 34) rfl)) (hw _ (List.mem_of_getElem? (i := 35) rfl)) (notFace_of_selects (args := #[]) (mvT hZ (hw _ (List.mem_of_getElem? (i := 37) rfl)))) (hw _ (List.mem_of_getElem? (i := 37) rfl)) (hw _ (List.mem_of_getElem? (i := 36) rfl)) (hw _ (List.mem_of_getElem? (i := 38) rfl)) (hw _ (List.mem_of_getElem? (i := 3) rfl)) e358 c572 (argsL := [(.int (fEnc (fSign (fMin x1 x2) x3) x4)), (.int (fEnc (fSign (fMax x1 x2) x3) x5))]) (rest := []) (W := 0) (met_adm4 l Z a0 hw o4 (fEnc (fSign (fMin x1 x2) x3) x4) (fEnc (fSign (fMax x1 x2) x3) x5) h92 n0 z586 c572 c579) (hb hby at_152) rfl rfl rfl (lenOf pd3 rfl) (by show 2 * 0 + _ ≤ _; exact Nat.le_of_eq rfl) (by decide) (by decide) (by decide) (by decide) (by decide) ?_
                      intro T570 v570 L570 X570 q570
                      obtain ⟨rfl, M570, e570⟩ := q570
                      have N570 := Fr.app N358 M570
                      show Go p e below s _ _ _ T570 (mkF m 155 #[.val (.int x0), .val (.int x1), .val (.int x2), .val (.int x3), .val (.int x4), .val (.int x5), .val (.ref a34), .val (.int (4 : Int32)), .val (.int (fMin x1 x2)), .val (.int (fMax x1 x2)), .val (.int (fEnc (fSign (fMin x1 x2) x3) x4)), .val (.int (fEnc (fSign (fMax x1 x2) x3) x5)), .val (.int (1 : Int32)), .unset] [(.int (fAdm4 (fEnc (fSign (fMin x1 x2) x3) x4) (fEnc (fSign (fMax x1 x2) x3) x5)))])
                      refine go_st (fun _ k => XS.istore X570.here hx rfl (hb hby at_155) rfl (l' := #[.val (.int x0), .val (.int x1), .val (.int x2), .val (.int x3), .val (.int x4), .val (.int x5), .val (.ref a34), .val (.int (4 : Int32)), .val (.int (fMin x1 x2)), .val (.int (fMax x1 x2)), .val (.int (fEnc (fSign (fMin x1 x2) x3) x4)), .val (.int (fEnc (fSign (fMax x1 x2) x3) x5)), .val (.int (1 : Int32)), .val (.int (fAdm4 (fEnc (fSign (fMin x1 x2) x3) x4) (fEnc (fSign (fMax x1 x2) x3) x5)))]) rfl k) ?_
                      show Go p e below s _ _ _ T570 (mkF m 157 #[.val (.int x0), .val (.int x1), .val (.int x2), .val (.int x3), .val (.int x4), .val (.int x5), .val (.ref a34), .val (.int (4 : Int32)), .val (.int (fMin x1 x2)), .val (.int (fMax x1 x2)), .val (.int (fEnc (fSign (fMin x1 x2) x3) x4)), .val (.int (fEnc (fSign (fMax x1 x2) x3) x5)), .val (.int (1 : Int32)), .val (.int (fAdm4 (fEnc (fSign (fMin x1 x2) x3) x4) (fEnc (fSign (fMax x1 x2) x3) x5)))] [])
                      refine go_st (fun _ k => XS.iload X570.here hx rfl (hb hby at_157) rfl k) ?_
                      show Go p e below s _ _ _ T570 (mkF m 159 #[.val (.int x0), .val (.int x1), .val (.int x2), .val (.int x3), .val (.int x4), .val (.int x5), .val (.ref a34), .val (.int (4 : Int32)), .val (.int (fMin x1 x2)), .val (.int (fMax x1 x2)), .val (.int (fEnc (fSign (fMin x1 x2) x3) x4)), .val (.int (fEnc (fSign (fMax x1 x2) x3) x5)), .val (.int (1 : Int32)), .val (.int (fAdm4 (fEnc (fSign (fMin x1 x2) x3) x4) (fEnc (fSign (fMax x1 x2) x3) x5)))] [(.int (fAdm4 (fEnc (fSign (fMin x1 x2) x3) x4) (fEnc (fSign (fMax x1 x2) x3) x5)))])
                      refine go_st (fun _ k => XS.iload X570.here hx rfl (hb hby at_159) rfl k) ?_
                      show Go p e below s _ _ _ T570 (mkF m 161 #[.val (.int x0), .val (.int x1), .val (.int x2), .val (.int x3), .val (.int x4), .val (.int x5), .val (.ref a34), .val (.int (4 : Int32)), .val (.int (fMin x1 x2)), .val (.int (fMax x1 x2)), .val (.int (fEnc (fSign (fMin x1 x2) x3) x4)), .val (.int (fEnc (fSign (fMax x1 x2) x3) x5)), .val (.int (1 : Int32)), .val (.int (fAdm4 (fEnc (fSign (fMin x1 x2) x3) x4) (fEnc (fSign (fMax x1 x2) x3) x5)))] [(.int (1 : Int32)), (.int (fAdm4 (fEnc (fSign (fMin x1 x2) x3) x4) (fEnc (fSign (fMax x1 x2) x3) x5)))])
                      by_cases hc587 : (fAdm4 (fEnc (fSign (fMin x1 x2) x3) x4) (fEnc (fSign (fMax x1 x2) x3) x5)) = (1 : Int32)
                      · rw [if_pos hc587]
                        refine go_st (fun _ k => XS.icmpNo X570.here hx rfl (hb hby at_161) rfl (XT.ii_ne_f hc587) k) ?_
                        show Go p e below s _ _ _ T570 (mkF m 164 #[.val (.int x0), .val (.int x1), .val (.int x2), .val (.int x3), .val (.int x4), .val (.int x5), .val (.ref a34), .val (.int (4 : Int32)), .val (.int (fMin x1 x2)), .val (.int (fMax x1 x2)), .val (.int (fEnc (fSign (fMin x1 x2) x3) x4)), .val (.int (fEnc (fSign (fMax x1 x2) x3) x5)), .val (.int (1 : Int32)), .val (.int (fAdm4 (fEnc (fSign (fMin x1 x2) x3) x4) (fEnc (fSign (fMax x1 x2) x3) x5)))] [])
                        refine go_st (fun _ k => XT.iconstV X570.here hx rfl (1 : Int32) (hb hby at_164) (by decide) k) ?_
                        show Go p e below s _ _ _ T570 (mkF m 165 #[.val (.int x0), .val (.int x1), .val (.int x2), .val (.int x3), .val (.int x4), .val (.int x5), .val (.ref a34), .val (.int (4 : Int32)), .val (.int (fMin x1 x2)), .val (.int (fMax x1 x2)), .val (.int (fEnc (fSign (fMin x1 x2) x3) x4)), .val (.int (fEnc (fSign (fMax x1 x2) x3) x5)), .val (.int (1 : Int32)), .val (.int (fAdm4 (fEnc (fSign (fMin x1 x2) x3) x4) (fEnc (fSign (fMax x1 x2) x3) x5)))] [(.int (1 : Int32))])
                        refine go_st (fun _ k => XS.goto X570.here hx rfl (pc0 := 165) (pc' := 169) rfl (hb hby at_165) (by decide) (by decide) k) ?_
                        show Go p e below s _ _ _ T570 (mkF m 169 #[.val (.int x0), .val (.int x1), .val (.int x2), .val (.int x3), .val (.int x4), .val (.int x5), .val (.ref a34), .val (.int (4 : Int32)), .val (.int (fMin x1 x2)), .val (.int (fMax x1 x2)), .val (.int (fEnc (fSign (fMin x1 x2) x3) x4)), .val (.int (fEnc (fSign (fMax x1 x2) x3) x5)), .val (.int (1 : Int32)), .val (.int (fAdm4 (fEnc (fSign (fMin x1 x2) x3) x4) (fEnc (fSign (fMax x1 x2) x3) x5)))] [(.int (1 : Int32))])
                        exact go_retB (w := (1 : Int32)) X570 hx hlk hret (hb hby at_169) (by decide) (by decide) (by decide) ⟨rfl, N570⟩
                      · rw [if_neg hc587]
                        refine go_st (fun _ k => XS.icmpYes X570.here hx rfl (pc0 := 161) (pc' := 168) rfl (hb hby at_161) rfl (XT.ii_ne_t hc587) (by decide) (by decide) k) ?_
                        show Go p e below s _ _ _ T570 (mkF m 168 #[.val (.int x0), .val (.int x1), .val (.int x2), .val (.int x3), .val (.int x4), .val (.int x5), .val (.ref a34), .val (.int (4 : Int32)), .val (.int (fMin x1 x2)), .val (.int (fMax x1 x2)), .val (.int (fEnc (fSign (fMin x1 x2) x3) x4)), .val (.int (fEnc (fSign (fMax x1 x2) x3) x5)), .val (.int (1 : Int32)), .val (.int (fAdm4 (fEnc (fSign (fMin x1 x2) x3) x4) (fEnc (fSign (fMax x1 x2) x3) x5)))] [])
                        refine go_st (fun _ k => XT.iconstV X570.here hx rfl (0 : Int32) (hb hby at_168) (by decide) k) ?_
                        show Go p e below s _ _ _ T570 (mkF m 169 #[.val (.int x0), .val (.int x1), .val (.int x2), .val (.int x3), .val (.int x4), .val (.int x5), .val (.ref a34), .val (.int (4 : Int32)), .val (.int (fMin x1 x2)), .val (.int (fMax x1 x2)), .val (.int (fEnc (fSign (fMin x1 x2) x3) x4)), .val (.int (fEnc (fSign (fMax x1 x2) x3) x5)), .val (.int (1 : Int32)), .val (.int (fAdm4 (fEnc (fSign (fMin x1 x2) x3) x4) (fEnc (fSign (fMax x1 x2) x3) x5)))] [(.int (0 : Int32))])
                        exact go_retB (w := (0 : Int32)) X570 hx hlk hret (hb hby at_169) (by decide) (by decide) (by decide) ⟨rfl, N570⟩
                    · rw [if_neg hk569]
                      by_cases hk588 : ((x0 &&& (2147483647 : Int32)) % (6 : Int32)) = (5 : Int32)
                      · rw [if_pos hk588]
                        rw [hk588]
                        show Go p e below s _ _ _ T358 (mkF m 147 #[.val (.int x0), .val (.int x1), .val (.int x2), .val (.int x3), .val (.int x4), .val (.int x5), .val (.ref a34), .val (.int (5 : Int32)), .val (.int (fMin x1 x2)), .val (.int (fMax x1 x2)), .val (.int (fEnc (fSign (fMin x1 x2) x3) x4)), .val (.int (fEnc (fSign (fMax x1 x2) x3) x5)), .val (.int (1 : Int32)), .unset] [(.int (5 : Int32)), (.ref a34)])
                        refine go_aald X358 hx hZ e358 A92 rfl (hb hby at_147) rfl rfl (by decide) (.ref o5) rfl ?_
                        show Go p e below s _ _ _ T358 (mkF m 148 #[.val (.int x0), .val (.int x1), .val (.int x2), .val (.int x3), .val (.int x4), .val (.int x5), .val (.ref a34), .val (.int (5 : Int32)), .val (.int (fMin x1 x2)), .val (.int (fMax x1 x2)), .val (.int (fEnc (fSign (fMin x1 x2) x3) x4)), .val (.int (fEnc (fSign (fMax x1 x2) x3) x5)), .val (.int (1 : Int32)), .unset] [(.ref o5)])
                        refine go_st (fun _ k => XS.iload X358.here hx rfl (hb hby at_148) rfl k) ?_
                        show Go p e below s _ _ _ T358 (mkF m 150 #[.val (.int x0), .val (.int x1), .val (.int x2), .val (.int x3), .val (.int x4), .val (.int x5), .val (.ref a34), .val (.int (5 : Int32)), .val (.int (fMin x1 x2)), .val (.int (fMax x1 x2)), .val (.int (fEnc (fSign (fMin x1 x2) x3) x4)), .val (.int (fEnc (fSign (fMax x1 x2) x3) x5)), .val (.int (1 : Int32)), .unset] [(.int (fEnc (fSign (fMin x1 x2) x3) x4)), (.ref o5)])
                        refine go_st (fun _ k => XS.iload X358.here hx rfl (hb hby at_150) rfl k) ?_
                        show Go p e below s _ _ _ T358 (mkF m 152 #[.val (.int x0), .val (.int x1), .val (.int x2), .val (.int x3), .val (.int x4), .val (.int x5), .val (.ref a34), .val (.int (5 : Int32)), .val (.int (fMin x1 x2)), .val (.int (fMax x1 x2)), .val (.int (fEnc (fSign (fMin x1 x2) x3) x4)), .val (.int (fEnc (fSign (fMax x1 x2) x3) x5)), .val (.int (1 : Int32)), .unset] [(.int (fEnc (fSign (fMax x1 x2) x3) x5)), (.int (fEnc (fSign (fMin x1 x2) x3) x4)), (.ref o5)])
                        have c590 := Exa.wr W92 c99
                        have c591 := Fld.ext E34 F5
                        have c592 := Fld.other W43 c591 (Or.inl ne40)
                        have c593 := Fld.other W48 c592 (Or.inl ne40)
                        have c594 := Fld.other W56 c593 (Or.inl ne40)
                        have c595 := Fld.other W66 c594 (Or.inl ne40)
                        have c596 := Fld.other W78 c595 (Or.inl ne40)
                        have c597 := Fld.other W92 c596 (Or.inl ne40)
                        have z598 : n0 ≤ h34.size := Nat.le_trans Z0 E34.1
                        have z599 : n0 ≤ h43.size := (Wr.size W43).symm ▸ z598
                        have z600 : n0 ≤ h48.size := (Wr.size W48).symm ▸ z599
                        have z601 : n0 ≤ h56.size := (Wr.size W56).symm ▸ z600
                        have z602 : n0 ≤ h66.size := (Wr.size W66).symm ▸ z601
                        have z603 : n0 ≤ h78.size := (Wr.size W78).symm ▸ z602
                        have z604 : n0 ≤ h92.size := (Wr.size W92).symm ▸ z603
                        refine go_callV X358 hx hZ hml hown (hw _ (List.mem_of_getElem? (i := 34) rfl)) (hw _ (List.mem_of_getElem? (i := 35) rfl)) (notFace_of_selects (args := #[]) (mvT hZ (hw _ (List.mem_of_getElem? (i := 37) rfl)))) (hw _ (List.mem_of_getElem? (i := 37) rfl)) (hw _ (List.mem_of_getElem? (i := 36) rfl)) (hw _ (List.mem_of_getElem? (i := 38) rfl)) (hw _ (List.mem_of_getElem? (i := 3) rfl)) e358 c590 (argsL := [(.int (fEnc (fSign (fMin x1 x2) x3) x4)), (.int (fEnc (fSign (fMax x1 x2) x3) x5))]) (rest := []) (W := 0) (met_adm5 l Z a0 hw o5 (fEnc (fSign (fMin x1 x2) x3) x4) (fEnc (fSign (fMax x1 x2) x3) x5) h92 n0 z604 c590 c597) (hb hby at_152) rfl rfl rfl (lenOf pd3 rfl) (by show 2 * 0 + _ ≤ _; exact Nat.le_of_eq rfl) (by decide) (by decide) (by decide) (by decide) (by decide) ?_
                        intro T589 v589 L589 X589 q589
                        obtain ⟨rfl, M589, e589⟩ := q589
                        have N589 := Fr.app N358 M589
                        show Go p e below s _ _ _ T589 (mkF m 155 #[.val (.int x0), .val (.int x1), .val (.int x2), .val (.int x3), .val (.int x4), .val (.int x5), .val (.ref a34), .val (.int (5 : Int32)), .val (.int (fMin x1 x2)), .val (.int (fMax x1 x2)), .val (.int (fEnc (fSign (fMin x1 x2) x3) x4)), .val (.int (fEnc (fSign (fMax x1 x2) x3) x5)), .val (.int (1 : Int32)), .unset] [(.int (fAdm5 (fEnc (fSign (fMin x1 x2) x3) x4) (fEnc (fSign (fMax x1 x2) x3) x5)))])
                        refine go_st (fun _ k => XS.istore X589.here hx rfl (hb hby at_155) rfl (l' := #[.val (.int x0), .val (.int x1), .val (.int x2), .val (.int x3), .val (.int x4), .val (.int x5), .val (.ref a34), .val (.int (5 : Int32)), .val (.int (fMin x1 x2)), .val (.int (fMax x1 x2)), .val (.int (fEnc (fSign (fMin x1 x2) x3) x4)), .val (.int (fEnc (fSign (fMax x1 x2) x3) x5)), .val (.int (1 : Int32)), .val (.int (fAdm5 (fEnc (fSign (fMin x1 x2) x3) x4) (fEnc (fSign (fMax x1 x2) x3) x5)))]) rfl k) ?_
                        show Go p e below s _ _ _ T589 (mkF m 157 #[.val (.int x0), .val (.int x1), .val (.int x2), .val (.int x3), .val (.int x4), .val (.int x5), .val (.ref a34), .val (.int (5 : Int32)), .val (.int (fMin x1 x2)), .val (.int (fMax x1 x2)), .val (.int (fEnc (fSign (fMin x1 x2) x3) x4)), .val (.int (fEnc (fSign (fMax x1 x2) x3) x5)), .val (.int (1 : Int32)), .val (.int (fAdm5 (fEnc (fSign (fMin x1 x2) x3) x4) (fEnc (fSign (fMax x1 x2) x3) x5)))] [])
                        refine go_st (fun _ k => XS.iload X589.here hx rfl (hb hby at_157) rfl k) ?_
                        show Go p e below s _ _ _ T589 (mkF m 159 #[.val (.int x0), .val (.int x1), .val (.int x2), .val (.int x3), .val (.int x4), .val (.int x5), .val (.ref a34), .val (.int (5 : Int32)), .val (.int (fMin x1 x2)), .val (.int (fMax x1 x2)), .val (.int (fEnc (fSign (fMin x1 x2) x3) x4)), .val (.int (fEnc (fSign (fMax x1 x2) x3) x5)), .val (.int (1 : Int32)), .val (.int (fAdm5 (fEnc (fSign (fMin x1 x2) x3) x4) (fEnc (fSign (fMax x1 x2) x3) x5)))] [(.int (fAdm5 (fEnc (fSign (fMin x1 x2) x3) x4) (fEnc (fSign (fMax x1 x2) x3) x5)))])
                        refine go_st (fun _ k => XS.iload X589.here hx rfl (hb hby at_159) rfl k) ?_
                        show Go p e below s _ _ _ T589 (mkF m 161 #[.val (.int x0), .val (.int x1), .val (.int x2), .val (.int x3), .val (.int x4), .val (.int x5), .val (.ref a34), .val (.int (5 : Int32)), .val (.int (fMin x1 x2)), .val (.int (fMax x1 x2)), .val (.int (fEnc (fSign (fMin x1 x2) x3) x4)), .val (.int (fEnc (fSign (fMax x1 x2) x3) x5)), .val (.int (1 : Int32)), .val (.int (fAdm5 (fEnc (fSign (fMin x1 x2) x3) x4) (fEnc (fSign (fMax x1 x2) x3) x5)))] [(.int (1 : Int32)), (.int (fAdm5 (fEnc (fSign (fMin x1 x2) x3) x4) (fEnc (fSign (fMax x1 x2) x3) x5)))])
                        by_cases hc605 : (fAdm5 (fEnc (fSign (fMin x1 x2) x3) x4) (fEnc (fSign (fMax x1 x2) x3) x5)) = (1 : Int32)
                        · rw [if_pos hc605]
                          refine go_st (fun _ k => XS.icmpNo X589.here hx rfl (hb hby at_161) rfl (XT.ii_ne_f hc605) k) ?_
                          show Go p e below s _ _ _ T589 (mkF m 164 #[.val (.int x0), .val (.int x1), .val (.int x2), .val (.int x3), .val (.int x4), .val (.int x5), .val (.ref a34), .val (.int (5 : Int32)), .val (.int (fMin x1 x2)), .val (.int (fMax x1 x2)), .val (.int (fEnc (fSign (fMin x1 x2) x3) x4)), .val (.int (fEnc (fSign (fMax x1 x2) x3) x5)), .val (.int (1 : Int32)), .val (.int (fAdm5 (fEnc (fSign (fMin x1 x2) x3) x4) (fEnc (fSign (fMax x1 x2) x3) x5)))] [])
                          refine go_st (fun _ k => XT.iconstV X589.here hx rfl (1 : Int32) (hb hby at_164) (by decide) k) ?_
                          show Go p e below s _ _ _ T589 (mkF m 165 #[.val (.int x0), .val (.int x1), .val (.int x2), .val (.int x3), .val (.int x4), .val (.int x5), .val (.ref a34), .val (.int (5 : Int32)), .val (.int (fMin x1 x2)), .val (.int (fMax x1 x2)), .val (.int (fEnc (fSign (fMin x1 x2) x3) x4)), .val (.int (fEnc (fSign (fMax x1 x2) x3) x5)), .val (.int (1 : Int32)), .val (.int (fAdm5 (fEnc (fSign (fMin x1 x2) x3) x4) (fEnc (fSign (fMax x1 x2) x3) x5)))] [(.int (1 : Int32))])
                          refine go_st (fun _ k => XS.goto X589.here hx rfl (pc0 := 165) (pc' := 169) rfl (hb hby at_165) (by decide) (by decide) k) ?_
                          show Go p e below s _ _ _ T589 (mkF m 169 #[.val (.int x0), .val (.int x1), .val (.int x2), .val (.int x3), .val (.int x4), .val (.int x5), .val (.ref a34), .val (.int (5 : Int32)), .val (.int (fMin x1 x2)), .val (.int (fMax x1 x2)), .val (.int (fEnc (fSign (fMin x1 x2) x3) x4)), .val (.int (fEnc (fSign (fMax x1 x2) x3) x5)), .val (.int (1 : Int32)), .val (.int (fAdm5 (fEnc (fSign (fMin x1 x2) x3) x4) (fEnc (fSign (fMax x1 x2) x3) x5)))] [(.int (1 : Int32))])
                          exact go_retB (w := (1 : Int32)) X589 hx hlk hret (hb hby at_169) (by decide) (by decide) (by decide) ⟨rfl, N589⟩
                        · rw [if_neg hc605]
                          refine go_st (fun _ k => XS.icmpYes X589.here hx rfl (pc0 := 161) (pc' := 168) rfl (hb hby at_161) rfl (XT.ii_ne_t hc605) (by decide) (by decide) k) ?_
                          show Go p e below s _ _ _ T589 (mkF m 168 #[.val (.int x0), .val (.int x1), .val (.int x2), .val (.int x3), .val (.int x4), .val (.int x5), .val (.ref a34), .val (.int (5 : Int32)), .val (.int (fMin x1 x2)), .val (.int (fMax x1 x2)), .val (.int (fEnc (fSign (fMin x1 x2) x3) x4)), .val (.int (fEnc (fSign (fMax x1 x2) x3) x5)), .val (.int (1 : Int32)), .val (.int (fAdm5 (fEnc (fSign (fMin x1 x2) x3) x4) (fEnc (fSign (fMax x1 x2) x3) x5)))] [])
                          refine go_st (fun _ k => XT.iconstV X589.here hx rfl (0 : Int32) (hb hby at_168) (by decide) k) ?_
                          show Go p e below s _ _ _ T589 (mkF m 169 #[.val (.int x0), .val (.int x1), .val (.int x2), .val (.int x3), .val (.int x4), .val (.int x5), .val (.ref a34), .val (.int (5 : Int32)), .val (.int (fMin x1 x2)), .val (.int (fMax x1 x2)), .val (.int (fEnc (fSign (fMin x1 x2) x3) x4)), .val (.int (fEnc (fSign (fMax x1 x2) x3) x5)), .val (.int (1 : Int32)), .val (.int (fAdm5 (fEnc (fSign (fMin x1 x2) x3) x4) (fEnc (fSign (fMax x1 x2) x3) x5)))] [(.int (0 : Int32))])
                          exact go_retB (w := (0 : Int32)) X589 hx hlk hret (hb hby at_169) (by decide) (by decide) (by decide) ⟨rfl, N589⟩
                      · rw [if_neg hk588]
                        exact (own_six x0 hk483 hk506 hk528 hk549 hk569 hk588).elim
    · rw [if_neg hc109]
      refine go_st (fun _ k => XS.ifYes X108.here hx rfl (pc0 := 111) (pc' := 136) rfl (hb hby at_111) rfl (XT.i0_ne_t hc109) (by decide) (by decide) k) ?_
      show Go p e below s _ _ _ T108 (mkF m 136 #[.val (.int x0), .val (.int x1), .val (.int x2), .val (.int x3), .val (.int x4), .val (.int x5), .val (.ref a34), .val (.int ((x0 &&& (2147483647 : Int32)) % (6 : Int32))), .val (.int (fMin x1 x2)), .val (.int (fMax x1 x2)), .val (.int (fEnc (fSign (fMin x1 x2) x3) x4)), .val (.int (fEnc (fSign (fMax x1 x2) x3) x5)), .unset, .unset] [])
      refine go_st (fun _ k => XT.iconstV X108.here hx rfl (1 : Int32) (hb hby at_136) (by decide) k) ?_
      show Go p e below s _ _ _ T108 (mkF m 137 #[.val (.int x0), .val (.int x1), .val (.int x2), .val (.int x3), .val (.int x4), .val (.int x5), .val (.ref a34), .val (.int ((x0 &&& (2147483647 : Int32)) % (6 : Int32))), .val (.int (fMin x1 x2)), .val (.int (fMax x1 x2)), .val (.int (fEnc (fSign (fMin x1 x2) x3) x4)), .val (.int (fEnc (fSign (fMax x1 x2) x3) x5)), .unset, .unset] [(.int (1 : Int32))])
      refine go_st (fun _ k => XS.goto X108.here hx rfl (pc0 := 137) (pc' := 141) rfl (hb hby at_137) (by decide) (by decide) k) ?_
      show Go p e below s _ _ _ T108 (mkF m 141 #[.val (.int x0), .val (.int x1), .val (.int x2), .val (.int x3), .val (.int x4), .val (.int x5), .val (.ref a34), .val (.int ((x0 &&& (2147483647 : Int32)) % (6 : Int32))), .val (.int (fMin x1 x2)), .val (.int (fMax x1 x2)), .val (.int (fEnc (fSign (fMin x1 x2) x3) x4)), .val (.int (fEnc (fSign (fMax x1 x2) x3) x5)), .unset, .unset] [(.int (1 : Int32))])
      refine go_st (fun _ k => XS.istore X108.here hx rfl (hb hby at_141) rfl (l' := #[.val (.int x0), .val (.int x1), .val (.int x2), .val (.int x3), .val (.int x4), .val (.int x5), .val (.ref a34), .val (.int ((x0 &&& (2147483647 : Int32)) % (6 : Int32))), .val (.int (fMin x1 x2)), .val (.int (fMax x1 x2)), .val (.int (fEnc (fSign (fMin x1 x2) x3) x4)), .val (.int (fEnc (fSign (fMax x1 x2) x3) x5)), .val (.int (1 : Int32)), .unset]) rfl k) ?_
      show Go p e below s _ _ _ T108 (mkF m 143 #[.val (.int x0), .val (.int x1), .val (.int x2), .val (.int x3), .val (.int x4), .val (.int x5), .val (.ref a34), .val (.int ((x0 &&& (2147483647 : Int32)) % (6 : Int32))), .val (.int (fMin x1 x2)), .val (.int (fMax x1 x2)), .val (.int (fEnc (fSign (fMin x1 x2) x3) x4)), .val (.int (fEnc (fSign (fMax x1 x2) x3) x5)), .val (.int (1 : Int32)), .unset] [])
      refine go_st (fun _ k => XS.aload X108.here hx rfl (hb hby at_143) rfl rfl k) ?_
      show Go p e below s _ _ _ T108 (mkF m 145 #[.val (.int x0), .val (.int x1), .val (.int x2), .val (.int x3), .val (.int x4), .val (.int x5), .val (.ref a34), .val (.int ((x0 &&& (2147483647 : Int32)) % (6 : Int32))), .val (.int (fMin x1 x2)), .val (.int (fMax x1 x2)), .val (.int (fEnc (fSign (fMin x1 x2) x3) x4)), .val (.int (fEnc (fSign (fMax x1 x2) x3) x5)), .val (.int (1 : Int32)), .unset] [(.ref a34)])
      refine go_st (fun _ k => XS.iload X108.here hx rfl (hb hby at_145) rfl k) ?_
      show Go p e below s _ _ _ T108 (mkF m 147 #[.val (.int x0), .val (.int x1), .val (.int x2), .val (.int x3), .val (.int x4), .val (.int x5), .val (.ref a34), .val (.int ((x0 &&& (2147483647 : Int32)) % (6 : Int32))), .val (.int (fMin x1 x2)), .val (.int (fMax x1 x2)), .val (.int (fEnc (fSign (fMin x1 x2) x3) x4)), .val (.int (fEnc (fSign (fMax x1 x2) x3) x5)), .val (.int (1 : Int32)), .unset] [(.int ((x0 &&& (2147483647 : Int32)) % (6 : Int32))), (.ref a34)])
      by_cases hk606 : ((x0 &&& (2147483647 : Int32)) % (6 : Int32)) = (0 : Int32)
      · rw [if_pos hk606]
        rw [hk606]
        show Go p e below s _ _ _ T108 (mkF m 147 #[.val (.int x0), .val (.int x1), .val (.int x2), .val (.int x3), .val (.int x4), .val (.int x5), .val (.ref a34), .val (.int (0 : Int32)), .val (.int (fMin x1 x2)), .val (.int (fMax x1 x2)), .val (.int (fEnc (fSign (fMin x1 x2) x3) x4)), .val (.int (fEnc (fSign (fMax x1 x2) x3) x5)), .val (.int (1 : Int32)), .unset] [(.int (0 : Int32)), (.ref a34)])
        refine go_aald X108 hx hZ e108 A92 rfl (hb hby at_147) rfl rfl (by decide) (.ref o0) rfl ?_
        show Go p e below s _ _ _ T108 (mkF m 148 #[.val (.int x0), .val (.int x1), .val (.int x2), .val (.int x3), .val (.int x4), .val (.int x5), .val (.ref a34), .val (.int (0 : Int32)), .val (.int (fMin x1 x2)), .val (.int (fMax x1 x2)), .val (.int (fEnc (fSign (fMin x1 x2) x3) x4)), .val (.int (fEnc (fSign (fMax x1 x2) x3) x5)), .val (.int (1 : Int32)), .unset] [(.ref o0)])
        refine go_st (fun _ k => XS.iload X108.here hx rfl (hb hby at_148) rfl k) ?_
        show Go p e below s _ _ _ T108 (mkF m 150 #[.val (.int x0), .val (.int x1), .val (.int x2), .val (.int x3), .val (.int x4), .val (.int x5), .val (.ref a34), .val (.int (0 : Int32)), .val (.int (fMin x1 x2)), .val (.int (fMax x1 x2)), .val (.int (fEnc (fSign (fMin x1 x2) x3) x4)), .val (.int (fEnc (fSign (fMax x1 x2) x3) x5)), .val (.int (1 : Int32)), .unset] [(.int (fEnc (fSign (fMin x1 x2) x3) x4)), (.ref o0)])
        refine go_st (fun _ k => XS.iload X108.here hx rfl (hb hby at_150) rfl k) ?_
        show Go p e below s _ _ _ T108 (mkF m 152 #[.val (.int x0), .val (.int x1), .val (.int x2), .val (.int x3), .val (.int x4), .val (.int x5), .val (.ref a34), .val (.int (0 : Int32)), .val (.int (fMin x1 x2)), .val (.int (fMax x1 x2)), .val (.int (fEnc (fSign (fMin x1 x2) x3) x4)), .val (.int (fEnc (fSign (fMax x1 x2) x3) x5)), .val (.int (1 : Int32)), .unset] [(.int (fEnc (fSign (fMax x1 x2) x3) x5)), (.int (fEnc (fSign (fMin x1 x2) x3) x4)), (.ref o0)])
        have c608 := Exa.wr W43 c44
        have c609 := Exa.wr W48 c608
        have c610 := Exa.wr W56 c609
        have c611 := Exa.wr W66 c610
        have c612 := Exa.wr W78 c611
        have c613 := Exa.wr W92 c612
        have c614 := Fld.ext E34 F0
        have c615 := Fld.other W43 c614 (Or.inl ne35)
        have c616 := Fld.other W48 c615 (Or.inl ne35)
        have c617 := Fld.other W56 c616 (Or.inl ne35)
        have c618 := Fld.other W66 c617 (Or.inl ne35)
        have c619 := Fld.other W78 c618 (Or.inl ne35)
        have c620 := Fld.other W92 c619 (Or.inl ne35)
        have z621 : n0 ≤ h34.size := Nat.le_trans Z0 E34.1
        have z622 : n0 ≤ h43.size := (Wr.size W43).symm ▸ z621
        have z623 : n0 ≤ h48.size := (Wr.size W48).symm ▸ z622
        have z624 : n0 ≤ h56.size := (Wr.size W56).symm ▸ z623
        have z625 : n0 ≤ h66.size := (Wr.size W66).symm ▸ z624
        have z626 : n0 ≤ h78.size := (Wr.size W78).symm ▸ z625
        have z627 : n0 ≤ h92.size := (Wr.size W92).symm ▸ z626
        refine go_callV X108 hx hZ hml hown (hw _ (List.mem_of_getElem? (i := 34) rfl)) (hw _ (List.mem_of_getElem? (i := 35) rfl)) (notFace_of_selects (args := #[]) (mvT hZ (hw _ (List.mem_of_getElem? (i := 37) rfl)))) (hw _ (List.mem_of_getElem? (i := 37) rfl)) (hw _ (List.mem_of_getElem? (i := 36) rfl)) (hw _ (List.mem_of_getElem? (i := 38) rfl)) (hw _ (List.mem_of_getElem? (i := 3) rfl)) e108 c613 (argsL := [(.int (fEnc (fSign (fMin x1 x2) x3) x4)), (.int (fEnc (fSign (fMax x1 x2) x3) x5))]) (rest := []) (W := 0) (met_adm0 l Z a0 hw o0 (fEnc (fSign (fMin x1 x2) x3) x4) (fEnc (fSign (fMax x1 x2) x3) x5) h92 n0 z627 c613 c620) (hb hby at_152) rfl rfl rfl (lenOf pd3 rfl) (by show 2 * 0 + _ ≤ _; exact Nat.le_of_eq rfl) (by decide) (by decide) (by decide) (by decide) (by decide) ?_
        intro T607 v607 L607 X607 q607
        obtain ⟨rfl, M607, e607⟩ := q607
        have N607 := Fr.app N108 M607
        show Go p e below s _ _ _ T607 (mkF m 155 #[.val (.int x0), .val (.int x1), .val (.int x2), .val (.int x3), .val (.int x4), .val (.int x5), .val (.ref a34), .val (.int (0 : Int32)), .val (.int (fMin x1 x2)), .val (.int (fMax x1 x2)), .val (.int (fEnc (fSign (fMin x1 x2) x3) x4)), .val (.int (fEnc (fSign (fMax x1 x2) x3) x5)), .val (.int (1 : Int32)), .unset] [(.int (fAdm0 (fEnc (fSign (fMin x1 x2) x3) x4) (fEnc (fSign (fMax x1 x2) x3) x5)))])
        refine go_st (fun _ k => XS.istore X607.here hx rfl (hb hby at_155) rfl (l' := #[.val (.int x0), .val (.int x1), .val (.int x2), .val (.int x3), .val (.int x4), .val (.int x5), .val (.ref a34), .val (.int (0 : Int32)), .val (.int (fMin x1 x2)), .val (.int (fMax x1 x2)), .val (.int (fEnc (fSign (fMin x1 x2) x3) x4)), .val (.int (fEnc (fSign (fMax x1 x2) x3) x5)), .val (.int (1 : Int32)), .val (.int (fAdm0 (fEnc (fSign (fMin x1 x2) x3) x4) (fEnc (fSign (fMax x1 x2) x3) x5)))]) rfl k) ?_
        show Go p e below s _ _ _ T607 (mkF m 157 #[.val (.int x0), .val (.int x1), .val (.int x2), .val (.int x3), .val (.int x4), .val (.int x5), .val (.ref a34), .val (.int (0 : Int32)), .val (.int (fMin x1 x2)), .val (.int (fMax x1 x2)), .val (.int (fEnc (fSign (fMin x1 x2) x3) x4)), .val (.int (fEnc (fSign (fMax x1 x2) x3) x5)), .val (.int (1 : Int32)), .val (.int (fAdm0 (fEnc (fSign (fMin x1 x2) x3) x4) (fEnc (fSign (fMax x1 x2) x3) x5)))] [])
        refine go_st (fun _ k => XS.iload X607.here hx rfl (hb hby at_157) rfl k) ?_
        show Go p e below s _ _ _ T607 (mkF m 159 #[.val (.int x0), .val (.int x1), .val (.int x2), .val (.int x3), .val (.int x4), .val (.int x5), .val (.ref a34), .val (.int (0 : Int32)), .val (.int (fMin x1 x2)), .val (.int (fMax x1 x2)), .val (.int (fEnc (fSign (fMin x1 x2) x3) x4)), .val (.int (fEnc (fSign (fMax x1 x2) x3) x5)), .val (.int (1 : Int32)), .val (.int (fAdm0 (fEnc (fSign (fMin x1 x2) x3) x4) (fEnc (fSign (fMax x1 x2) x3) x5)))] [(.int (fAdm0 (fEnc (fSign (fMin x1 x2) x3) x4) (fEnc (fSign (fMax x1 x2) x3) x5)))])
        refine go_st (fun _ k => XS.iload X607.here hx rfl (hb hby at_159) rfl k) ?_
        show Go p e below s _ _ _ T607 (mkF m 161 #[.val (.int x0), .val (.int x1), .val (.int x2), .val (.int x3), .val (.int x4), .val (.int x5), .val (.ref a34), .val (.int (0 : Int32)), .val (.int (fMin x1 x2)), .val (.int (fMax x1 x2)), .val (.int (fEnc (fSign (fMin x1 x2) x3) x4)), .val (.int (fEnc (fSign (fMax x1 x2) x3) x5)), .val (.int (1 : Int32)), .val (.int (fAdm0 (fEnc (fSign (fMin x1 x2) x3) x4) (fEnc (fSign (fMax x1 x2) x3) x5)))] [(.int (1 : Int32)), (.int (fAdm0 (fEnc (fSign (fMin x1 x2) x3) x4) (fEnc (fSign (fMax x1 x2) x3) x5)))])
        by_cases hc628 : (fAdm0 (fEnc (fSign (fMin x1 x2) x3) x4) (fEnc (fSign (fMax x1 x2) x3) x5)) = (1 : Int32)
        · rw [if_pos hc628]
          refine go_st (fun _ k => XS.icmpNo X607.here hx rfl (hb hby at_161) rfl (XT.ii_ne_f hc628) k) ?_
          show Go p e below s _ _ _ T607 (mkF m 164 #[.val (.int x0), .val (.int x1), .val (.int x2), .val (.int x3), .val (.int x4), .val (.int x5), .val (.ref a34), .val (.int (0 : Int32)), .val (.int (fMin x1 x2)), .val (.int (fMax x1 x2)), .val (.int (fEnc (fSign (fMin x1 x2) x3) x4)), .val (.int (fEnc (fSign (fMax x1 x2) x3) x5)), .val (.int (1 : Int32)), .val (.int (fAdm0 (fEnc (fSign (fMin x1 x2) x3) x4) (fEnc (fSign (fMax x1 x2) x3) x5)))] [])
          refine go_st (fun _ k => XT.iconstV X607.here hx rfl (1 : Int32) (hb hby at_164) (by decide) k) ?_
          show Go p e below s _ _ _ T607 (mkF m 165 #[.val (.int x0), .val (.int x1), .val (.int x2), .val (.int x3), .val (.int x4), .val (.int x5), .val (.ref a34), .val (.int (0 : Int32)), .val (.int (fMin x1 x2)), .val (.int (fMax x1 x2)), .val (.int (fEnc (fSign (fMin x1 x2) x3) x4)), .val (.int (fEnc (fSign (fMax x1 x2) x3) x5)), .val (.int (1 : Int32)), .val (.int (fAdm0 (fEnc (fSign (fMin x1 x2) x3) x4) (fEnc (fSign (fMax x1 x2) x3) x5)))] [(.int (1 : Int32))])
          refine go_st (fun _ k => XS.goto X607.here hx rfl (pc0 := 165) (pc' := 169) rfl (hb hby at_165) (by decide) (by decide) k) ?_
          show Go p e below s _ _ _ T607 (mkF m 169 #[.val (.int x0), .val (.int x1), .val (.int x2), .val (.int x3), .val (.int x4), .val (.int x5), .val (.ref a34), .val (.int (0 : Int32)), .val (.int (fMin x1 x2)), .val (.int (fMax x1 x2)), .val (.int (fEnc (fSign (fMin x1 x2) x3) x4)), .val (.int (fEnc (fSign (fMax x1 x2) x3) x5)), .val (.int (1 : Int32)), .val (.int (fAdm0 (fEnc (fSign (fMin x1 x2) x3) x4) (fEnc (fSign (fMax x1 x2) x3) x5)))] [(.int (1 : Int32))])
          exact go_retB (w := (1 : Int32)) X607 hx hlk hret (hb hby at_169) (by decide) (by decide) (by decide) ⟨rfl, N607⟩
        · rw [if_neg hc628]
          refine go_st (fun _ k => XS.icmpYes X607.here hx rfl (pc0 := 161) (pc' := 168) rfl (hb hby at_161) rfl (XT.ii_ne_t hc628) (by decide) (by decide) k) ?_
          show Go p e below s _ _ _ T607 (mkF m 168 #[.val (.int x0), .val (.int x1), .val (.int x2), .val (.int x3), .val (.int x4), .val (.int x5), .val (.ref a34), .val (.int (0 : Int32)), .val (.int (fMin x1 x2)), .val (.int (fMax x1 x2)), .val (.int (fEnc (fSign (fMin x1 x2) x3) x4)), .val (.int (fEnc (fSign (fMax x1 x2) x3) x5)), .val (.int (1 : Int32)), .val (.int (fAdm0 (fEnc (fSign (fMin x1 x2) x3) x4) (fEnc (fSign (fMax x1 x2) x3) x5)))] [])
          refine go_st (fun _ k => XT.iconstV X607.here hx rfl (0 : Int32) (hb hby at_168) (by decide) k) ?_
          show Go p e below s _ _ _ T607 (mkF m 169 #[.val (.int x0), .val (.int x1), .val (.int x2), .val (.int x3), .val (.int x4), .val (.int x5), .val (.ref a34), .val (.int (0 : Int32)), .val (.int (fMin x1 x2)), .val (.int (fMax x1 x2)), .val (.int (fEnc (fSign (fMin x1 x2) x3) x4)), .val (.int (fEnc (fSign (fMax x1 x2) x3) x5)), .val (.int (1 : Int32)), .val (.int (fAdm0 (fEnc (fSign (fMin x1 x2) x3) x4) (fEnc (fSign (fMax x1 x2) x3) x5)))] [(.int (0 : Int32))])
          exact go_retB (w := (0 : Int32)) X607 hx hlk hret (hb hby at_169) (by decide) (by decide) (by decide) ⟨rfl, N607⟩
      · rw [if_neg hk606]
        by_cases hk629 : ((x0 &&& (2147483647 : Int32)) % (6 : Int32)) = (1 : Int32)
        · rw [if_pos hk629]
          rw [hk629]
          show Go p e below s _ _ _ T108 (mkF m 147 #[.val (.int x0), .val (.int x1), .val (.int x2), .val (.int x3), .val (.int x4), .val (.int x5), .val (.ref a34), .val (.int (1 : Int32)), .val (.int (fMin x1 x2)), .val (.int (fMax x1 x2)), .val (.int (fEnc (fSign (fMin x1 x2) x3) x4)), .val (.int (fEnc (fSign (fMax x1 x2) x3) x5)), .val (.int (1 : Int32)), .unset] [(.int (1 : Int32)), (.ref a34)])
          refine go_aald X108 hx hZ e108 A92 rfl (hb hby at_147) rfl rfl (by decide) (.ref o1) rfl ?_
          show Go p e below s _ _ _ T108 (mkF m 148 #[.val (.int x0), .val (.int x1), .val (.int x2), .val (.int x3), .val (.int x4), .val (.int x5), .val (.ref a34), .val (.int (1 : Int32)), .val (.int (fMin x1 x2)), .val (.int (fMax x1 x2)), .val (.int (fEnc (fSign (fMin x1 x2) x3) x4)), .val (.int (fEnc (fSign (fMax x1 x2) x3) x5)), .val (.int (1 : Int32)), .unset] [(.ref o1)])
          refine go_st (fun _ k => XS.iload X108.here hx rfl (hb hby at_148) rfl k) ?_
          show Go p e below s _ _ _ T108 (mkF m 150 #[.val (.int x0), .val (.int x1), .val (.int x2), .val (.int x3), .val (.int x4), .val (.int x5), .val (.ref a34), .val (.int (1 : Int32)), .val (.int (fMin x1 x2)), .val (.int (fMax x1 x2)), .val (.int (fEnc (fSign (fMin x1 x2) x3) x4)), .val (.int (fEnc (fSign (fMax x1 x2) x3) x5)), .val (.int (1 : Int32)), .unset] [(.int (fEnc (fSign (fMin x1 x2) x3) x4)), (.ref o1)])
          refine go_st (fun _ k => XS.iload X108.here hx rfl (hb hby at_150) rfl k) ?_
          show Go p e below s _ _ _ T108 (mkF m 152 #[.val (.int x0), .val (.int x1), .val (.int x2), .val (.int x3), .val (.int x4), .val (.int x5), .val (.ref a34), .val (.int (1 : Int32)), .val (.int (fMin x1 x2)), .val (.int (fMax x1 x2)), .val (.int (fEnc (fSign (fMin x1 x2) x3) x4)), .val (.int (fEnc (fSign (fMax x1 x2) x3) x5)), .val (.int (1 : Int32)), .unset] [(.int (fEnc (fSign (fMax x1 x2) x3) x5)), (.int (fEnc (fSign (fMin x1 x2) x3) x4)), (.ref o1)])
          have c631 := Exa.wr W48 c51
          have c632 := Exa.wr W56 c631
          have c633 := Exa.wr W66 c632
          have c634 := Exa.wr W78 c633
          have c635 := Exa.wr W92 c634
          have c636 := Fld.ext E34 F1
          have c637 := Fld.other W43 c636 (Or.inl ne36)
          have c638 := Fld.other W48 c637 (Or.inl ne36)
          have c639 := Fld.other W56 c638 (Or.inl ne36)
          have c640 := Fld.other W66 c639 (Or.inl ne36)
          have c641 := Fld.other W78 c640 (Or.inl ne36)
          have c642 := Fld.other W92 c641 (Or.inl ne36)
          have z643 : n0 ≤ h34.size := Nat.le_trans Z0 E34.1
          have z644 : n0 ≤ h43.size := (Wr.size W43).symm ▸ z643
          have z645 : n0 ≤ h48.size := (Wr.size W48).symm ▸ z644
          have z646 : n0 ≤ h56.size := (Wr.size W56).symm ▸ z645
          have z647 : n0 ≤ h66.size := (Wr.size W66).symm ▸ z646
          have z648 : n0 ≤ h78.size := (Wr.size W78).symm ▸ z647
          have z649 : n0 ≤ h92.size := (Wr.size W92).symm ▸ z648
          refine go_callV X108 hx hZ hml hown (hw _ (List.mem_of_getElem? (i := 34) rfl)) (hw _ (List.mem_of_getElem? (i := 35) rfl)) (notFace_of_selects (args := #[]) (mvT hZ (hw _ (List.mem_of_getElem? (i := 37) rfl)))) (hw _ (List.mem_of_getElem? (i := 37) rfl)) (hw _ (List.mem_of_getElem? (i := 36) rfl)) (hw _ (List.mem_of_getElem? (i := 38) rfl)) (hw _ (List.mem_of_getElem? (i := 3) rfl)) e108 c635 (argsL := [(.int (fEnc (fSign (fMin x1 x2) x3) x4)), (.int (fEnc (fSign (fMax x1 x2) x3) x5))]) (rest := []) (W := 0) (met_adm1 l Z a0 hw o1 (fEnc (fSign (fMin x1 x2) x3) x4) (fEnc (fSign (fMax x1 x2) x3) x5) h92 n0 z649 c635 c642) (hb hby at_152) rfl rfl rfl (lenOf pd3 rfl) (by show 2 * 0 + _ ≤ _; exact Nat.le_of_eq rfl) (by decide) (by decide) (by decide) (by decide) (by decide) ?_
          intro T630 v630 L630 X630 q630
          obtain ⟨rfl, M630, e630⟩ := q630
          have N630 := Fr.app N108 M630
          show Go p e below s _ _ _ T630 (mkF m 155 #[.val (.int x0), .val (.int x1), .val (.int x2), .val (.int x3), .val (.int x4), .val (.int x5), .val (.ref a34), .val (.int (1 : Int32)), .val (.int (fMin x1 x2)), .val (.int (fMax x1 x2)), .val (.int (fEnc (fSign (fMin x1 x2) x3) x4)), .val (.int (fEnc (fSign (fMax x1 x2) x3) x5)), .val (.int (1 : Int32)), .unset] [(.int (fAdm1 (fEnc (fSign (fMin x1 x2) x3) x4) (fEnc (fSign (fMax x1 x2) x3) x5)))])
          refine go_st (fun _ k => XS.istore X630.here hx rfl (hb hby at_155) rfl (l' := #[.val (.int x0), .val (.int x1), .val (.int x2), .val (.int x3), .val (.int x4), .val (.int x5), .val (.ref a34), .val (.int (1 : Int32)), .val (.int (fMin x1 x2)), .val (.int (fMax x1 x2)), .val (.int (fEnc (fSign (fMin x1 x2) x3) x4)), .val (.int (fEnc (fSign (fMax x1 x2) x3) x5)), .val (.int (1 : Int32)), .val (.int (fAdm1 (fEnc (fSign (fMin x1 x2) x3) x4) (fEnc (fSign (fMax x1 x2) x3) x5)))]) rfl k) ?_
          show Go p e below s _ _ _ T630 (mkF m 157 #[.val (.int x0), .val (.int x1), .val (.int x2), .val (.int x3), .val (.int x4), .val (.int x5), .val (.ref a34), .val (.int (1 : Int32)), .val (.int (fMin x1 x2)), .val (.int (fMax x1 x2)), .val (.int (fEnc (fSign (fMin x1 x2) x3) x4)), .val (.int (fEnc (fSign (fMax x1 x2) x3) x5)), .val (.int (1 : Int32)), .val (.int (fAdm1 (fEnc (fSign (fMin x1 x2) x3) x4) (fEnc (fSign (fMax x1 x2) x3) x5)))] [])
          refine go_st (fun _ k => XS.iload X630.here hx rfl (hb hby at_157) rfl k) ?_
          show Go p e below s _ _ _ T630 (mkF m 159 #[.val (.int x0), .val (.int x1), .val (.int x2), .val (.int x3), .val (.int x4), .val (.int x5), .val (.ref a34), .val (.int (1 : Int32)), .val (.int (fMin x1 x2)), .val (.int (fMax x1 x2)), .val (.int (fEnc (fSign (fMin x1 x2) x3) x4)), .val (.int (fEnc (fSign (fMax x1 x2) x3) x5)), .val (.int (1 : Int32)), .val (.int (fAdm1 (fEnc (fSign (fMin x1 x2) x3) x4) (fEnc (fSign (fMax x1 x2) x3) x5)))] [(.int (fAdm1 (fEnc (fSign (fMin x1 x2) x3) x4) (fEnc (fSign (fMax x1 x2) x3) x5)))])
          refine go_st (fun _ k => XS.iload X630.here hx rfl (hb hby at_159) rfl k) ?_
          show Go p e below s _ _ _ T630 (mkF m 161 #[.val (.int x0), .val (.int x1), .val (.int x2), .val (.int x3), .val (.int x4), .val (.int x5), .val (.ref a34), .val (.int (1 : Int32)), .val (.int (fMin x1 x2)), .val (.int (fMax x1 x2)), .val (.int (fEnc (fSign (fMin x1 x2) x3) x4)), .val (.int (fEnc (fSign (fMax x1 x2) x3) x5)), .val (.int (1 : Int32)), .val (.int (fAdm1 (fEnc (fSign (fMin x1 x2) x3) x4) (fEnc (fSign (fMax x1 x2) x3) x5)))] [(.int (1 : Int32)), (.int (fAdm1 (fEnc (fSign (fMin x1 x2) x3) x4) (fEnc (fSign (fMax x1 x2) x3) x5)))])
          by_cases hc650 : (fAdm1 (fEnc (fSign (fMin x1 x2) x3) x4) (fEnc (fSign (fMax x1 x2) x3) x5)) = (1 : Int32)
          · rw [if_pos hc650]
            refine go_st (fun _ k => XS.icmpNo X630.here hx rfl (hb hby at_161) rfl (XT.ii_ne_f hc650) k) ?_
            show Go p e below s _ _ _ T630 (mkF m 164 #[.val (.int x0), .val (.int x1), .val (.int x2), .val (.int x3), .val (.int x4), .val (.int x5), .val (.ref a34), .val (.int (1 : Int32)), .val (.int (fMin x1 x2)), .val (.int (fMax x1 x2)), .val (.int (fEnc (fSign (fMin x1 x2) x3) x4)), .val (.int (fEnc (fSign (fMax x1 x2) x3) x5)), .val (.int (1 : Int32)), .val (.int (fAdm1 (fEnc (fSign (fMin x1 x2) x3) x4) (fEnc (fSign (fMax x1 x2) x3) x5)))] [])
            refine go_st (fun _ k => XT.iconstV X630.here hx rfl (1 : Int32) (hb hby at_164) (by decide) k) ?_
            show Go p e below s _ _ _ T630 (mkF m 165 #[.val (.int x0), .val (.int x1), .val (.int x2), .val (.int x3), .val (.int x4), .val (.int x5), .val (.ref a34), .val (.int (1 : Int32)), .val (.int (fMin x1 x2)), .val (.int (fMax x1 x2)), .val (.int (fEnc (fSign (fMin x1 x2) x3) x4)), .val (.int (fEnc (fSign (fMax x1 x2) x3) x5)), .val (.int (1 : Int32)), .val (.int (fAdm1 (fEnc (fSign (fMin x1 x2) x3) x4) (fEnc (fSign (fMax x1 x2) x3) x5)))] [(.int (1 : Int32))])
            refine go_st (fun _ k => XS.goto X630.here hx rfl (pc0 := 165) (pc' := 169) rfl (hb hby at_165) (by decide) (by decide) k) ?_
            show Go p e below s _ _ _ T630 (mkF m 169 #[.val (.int x0), .val (.int x1), .val (.int x2), .val (.int x3), .val (.int x4), .val (.int x5), .val (.ref a34), .val (.int (1 : Int32)), .val (.int (fMin x1 x2)), .val (.int (fMax x1 x2)), .val (.int (fEnc (fSign (fMin x1 x2) x3) x4)), .val (.int (fEnc (fSign (fMax x1 x2) x3) x5)), .val (.int (1 : Int32)), .val (.int (fAdm1 (fEnc (fSign (fMin x1 x2) x3) x4) (fEnc (fSign (fMax x1 x2) x3) x5)))] [(.int (1 : Int32))])
            exact go_retB (w := (1 : Int32)) X630 hx hlk hret (hb hby at_169) (by decide) (by decide) (by decide) ⟨rfl, N630⟩
          · rw [if_neg hc650]
            refine go_st (fun _ k => XS.icmpYes X630.here hx rfl (pc0 := 161) (pc' := 168) rfl (hb hby at_161) rfl (XT.ii_ne_t hc650) (by decide) (by decide) k) ?_
            show Go p e below s _ _ _ T630 (mkF m 168 #[.val (.int x0), .val (.int x1), .val (.int x2), .val (.int x3), .val (.int x4), .val (.int x5), .val (.ref a34), .val (.int (1 : Int32)), .val (.int (fMin x1 x2)), .val (.int (fMax x1 x2)), .val (.int (fEnc (fSign (fMin x1 x2) x3) x4)), .val (.int (fEnc (fSign (fMax x1 x2) x3) x5)), .val (.int (1 : Int32)), .val (.int (fAdm1 (fEnc (fSign (fMin x1 x2) x3) x4) (fEnc (fSign (fMax x1 x2) x3) x5)))] [])
            refine go_st (fun _ k => XT.iconstV X630.here hx rfl (0 : Int32) (hb hby at_168) (by decide) k) ?_
            show Go p e below s _ _ _ T630 (mkF m 169 #[.val (.int x0), .val (.int x1), .val (.int x2), .val (.int x3), .val (.int x4), .val (.int x5), .val (.ref a34), .val (.int (1 : Int32)), .val (.int (fMin x1 x2)), .val (.int (fMax x1 x2)), .val (.int (fEnc (fSign (fMin x1 x2) x3) x4)), .val (.int (fEnc (fSign (fMax x1 x2) x3) x5)), .val (.int (1 : Int32)), .val (.int (fAdm1 (fEnc (fSign (fMin x1 x2) x3) x4) (fEnc (fSign (fMax x1 x2) x3) x5)))] [(.int (0 : Int32))])
            exact go_retB (w := (0 : Int32)) X630 hx hlk hret (hb hby at_169) (by decide) (by decide) (by decide) ⟨rfl, N630⟩
        · rw [if_neg hk629]
          by_cases hk651 : ((x0 &&& (2147483647 : Int32)) % (6 : Int32)) = (2 : Int32)
          · rw [if_pos hk651]
            rw [hk651]
            show Go p e below s _ _ _ T108 (mkF m 147 #[.val (.int x0), .val (.int x1), .val (.int x2), .val (.int x3), .val (.int x4), .val (.int x5), .val (.ref a34), .val (.int (2 : Int32)), .val (.int (fMin x1 x2)), .val (.int (fMax x1 x2)), .val (.int (fEnc (fSign (fMin x1 x2) x3) x4)), .val (.int (fEnc (fSign (fMax x1 x2) x3) x5)), .val (.int (1 : Int32)), .unset] [(.int (2 : Int32)), (.ref a34)])
            refine go_aald X108 hx hZ e108 A92 rfl (hb hby at_147) rfl rfl (by decide) (.ref o2) rfl ?_
            show Go p e below s _ _ _ T108 (mkF m 148 #[.val (.int x0), .val (.int x1), .val (.int x2), .val (.int x3), .val (.int x4), .val (.int x5), .val (.ref a34), .val (.int (2 : Int32)), .val (.int (fMin x1 x2)), .val (.int (fMax x1 x2)), .val (.int (fEnc (fSign (fMin x1 x2) x3) x4)), .val (.int (fEnc (fSign (fMax x1 x2) x3) x5)), .val (.int (1 : Int32)), .unset] [(.ref o2)])
            refine go_st (fun _ k => XS.iload X108.here hx rfl (hb hby at_148) rfl k) ?_
            show Go p e below s _ _ _ T108 (mkF m 150 #[.val (.int x0), .val (.int x1), .val (.int x2), .val (.int x3), .val (.int x4), .val (.int x5), .val (.ref a34), .val (.int (2 : Int32)), .val (.int (fMin x1 x2)), .val (.int (fMax x1 x2)), .val (.int (fEnc (fSign (fMin x1 x2) x3) x4)), .val (.int (fEnc (fSign (fMax x1 x2) x3) x5)), .val (.int (1 : Int32)), .unset] [(.int (fEnc (fSign (fMin x1 x2) x3) x4)), (.ref o2)])
            refine go_st (fun _ k => XS.iload X108.here hx rfl (hb hby at_150) rfl k) ?_
            show Go p e below s _ _ _ T108 (mkF m 152 #[.val (.int x0), .val (.int x1), .val (.int x2), .val (.int x3), .val (.int x4), .val (.int x5), .val (.ref a34), .val (.int (2 : Int32)), .val (.int (fMin x1 x2)), .val (.int (fMax x1 x2)), .val (.int (fEnc (fSign (fMin x1 x2) x3) x4)), .val (.int (fEnc (fSign (fMax x1 x2) x3) x5)), .val (.int (1 : Int32)), .unset] [(.int (fEnc (fSign (fMax x1 x2) x3) x5)), (.int (fEnc (fSign (fMin x1 x2) x3) x4)), (.ref o2)])
            have c653 := Exa.wr W56 c60
            have c654 := Exa.wr W66 c653
            have c655 := Exa.wr W78 c654
            have c656 := Exa.wr W92 c655
            have c657 := Fld.ext E34 F2
            have c658 := Fld.other W43 c657 (Or.inl ne37)
            have c659 := Fld.other W48 c658 (Or.inl ne37)
            have c660 := Fld.other W56 c659 (Or.inl ne37)
            have c661 := Fld.other W66 c660 (Or.inl ne37)
            have c662 := Fld.other W78 c661 (Or.inl ne37)
            have c663 := Fld.other W92 c662 (Or.inl ne37)
            have z664 : n0 ≤ h34.size := Nat.le_trans Z0 E34.1
            have z665 : n0 ≤ h43.size := (Wr.size W43).symm ▸ z664
            have z666 : n0 ≤ h48.size := (Wr.size W48).symm ▸ z665
            have z667 : n0 ≤ h56.size := (Wr.size W56).symm ▸ z666
            have z668 : n0 ≤ h66.size := (Wr.size W66).symm ▸ z667
            have z669 : n0 ≤ h78.size := (Wr.size W78).symm ▸ z668
            have z670 : n0 ≤ h92.size := (Wr.size W92).symm ▸ z669
            refine go_callV X108 hx hZ hml hown (hw _ (List.mem_of_getElem? (i := 34) rfl)) (hw _ (List.mem_of_getElem? (i := 35) rfl)) (notFace_of_selects (args := #[]) (mvT hZ (hw _ (List.mem_of_getElem? (i := 37) rfl)))) (hw _ (List.mem_of_getElem? (i := 37) rfl)) (hw _ (List.mem_of_getElem? (i := 36) rfl)) (hw _ (List.mem_of_getElem? (i := 38) rfl)) (hw _ (List.mem_of_getElem? (i := 3) rfl)) e108 c656 (argsL := [(.int (fEnc (fSign (fMin x1 x2) x3) x4)), (.int (fEnc (fSign (fMax x1 x2) x3) x5))]) (rest := []) (W := 0) (met_adm2 l Z a0 hw o2 (fEnc (fSign (fMin x1 x2) x3) x4) (fEnc (fSign (fMax x1 x2) x3) x5) h92 n0 z670 c656 c663) (hb hby at_152) rfl rfl rfl (lenOf pd3 rfl) (by show 2 * 0 + _ ≤ _; exact Nat.le_of_eq rfl) (by decide) (by decide) (by decide) (by decide) (by decide) ?_
            intro T652 v652 L652 X652 q652
            obtain ⟨rfl, M652, e652⟩ := q652
            have N652 := Fr.app N108 M652
            show Go p e below s _ _ _ T652 (mkF m 155 #[.val (.int x0), .val (.int x1), .val (.int x2), .val (.int x3), .val (.int x4), .val (.int x5), .val (.ref a34), .val (.int (2 : Int32)), .val (.int (fMin x1 x2)), .val (.int (fMax x1 x2)), .val (.int (fEnc (fSign (fMin x1 x2) x3) x4)), .val (.int (fEnc (fSign (fMax x1 x2) x3) x5)), .val (.int (1 : Int32)), .unset] [(.int (fAdm2 (fEnc (fSign (fMin x1 x2) x3) x4) (fEnc (fSign (fMax x1 x2) x3) x5)))])
            refine go_st (fun _ k => XS.istore X652.here hx rfl (hb hby at_155) rfl (l' := #[.val (.int x0), .val (.int x1), .val (.int x2), .val (.int x3), .val (.int x4), .val (.int x5), .val (.ref a34), .val (.int (2 : Int32)), .val (.int (fMin x1 x2)), .val (.int (fMax x1 x2)), .val (.int (fEnc (fSign (fMin x1 x2) x3) x4)), .val (.int (fEnc (fSign (fMax x1 x2) x3) x5)), .val (.int (1 : Int32)), .val (.int (fAdm2 (fEnc (fSign (fMin x1 x2) x3) x4) (fEnc (fSign (fMax x1 x2) x3) x5)))]) rfl k) ?_
            show Go p e below s _ _ _ T652 (mkF m 157 #[.val (.int x0), .val (.int x1), .val (.int x2), .val (.int x3), .val (.int x4), .val (.int x5), .val (.ref a34), .val (.int (2 : Int32)), .val (.int (fMin x1 x2)), .val (.int (fMax x1 x2)), .val (.int (fEnc (fSign (fMin x1 x2) x3) x4)), .val (.int (fEnc (fSign (fMax x1 x2) x3) x5)), .val (.int (1 : Int32)), .val (.int (fAdm2 (fEnc (fSign (fMin x1 x2) x3) x4) (fEnc (fSign (fMax x1 x2) x3) x5)))] [])
            refine go_st (fun _ k => XS.iload X652.here hx rfl (hb hby at_157) rfl k) ?_
            show Go p e below s _ _ _ T652 (mkF m 159 #[.val (.int x0), .val (.int x1), .val (.int x2), .val (.int x3), .val (.int x4), .val (.int x5), .val (.ref a34), .val (.int (2 : Int32)), .val (.int (fMin x1 x2)), .val (.int (fMax x1 x2)), .val (.int (fEnc (fSign (fMin x1 x2) x3) x4)), .val (.int (fEnc (fSign (fMax x1 x2) x3) x5)), .val (.int (1 : Int32)), .val (.int (fAdm2 (fEnc (fSign (fMin x1 x2) x3) x4) (fEnc (fSign (fMax x1 x2) x3) x5)))] [(.int (fAdm2 (fEnc (fSign (fMin x1 x2) x3) x4) (fEnc (fSign (fMax x1 x2) x3) x5)))])
            refine go_st (fun _ k => XS.iload X652.here hx rfl (hb hby at_159) rfl k) ?_
            show Go p e below s _ _ _ T652 (mkF m 161 #[.val (.int x0), .val (.int x1), .val (.int x2), .val (.int x3), .val (.int x4), .val (.int x5), .val (.ref a34), .val (.int (2 : Int32)), .val (.int (fMin x1 x2)), .val (.int (fMax x1 x2)), .val (.int (fEnc (fSign (fMin x1 x2) x3) x4)), .val (.int (fEnc (fSign (fMax x1 x2) x3) x5)), .val (.int (1 : Int32)), .val (.int (fAdm2 (fEnc (fSign (fMin x1 x2) x3) x4) (fEnc (fSign (fMax x1 x2) x3) x5)))] [(.int (1 : Int32)), (.int (fAdm2 (fEnc (fSign (fMin x1 x2) x3) x4) (fEnc (fSign (fMax x1 x2) x3) x5)))])
            by_cases hc671 : (fAdm2 (fEnc (fSign (fMin x1 x2) x3) x4) (fEnc (fSign (fMax x1 x2) x3) x5)) = (1 : Int32)
            · rw [if_pos hc671]
              refine go_st (fun _ k => XS.icmpNo X652.here hx rfl (hb hby at_161) rfl (XT.ii_ne_f hc671) k) ?_
              show Go p e below s _ _ _ T652 (mkF m 164 #[.val (.int x0), .val (.int x1), .val (.int x2), .val (.int x3), .val (.int x4), .val (.int x5), .val (.ref a34), .val (.int (2 : Int32)), .val (.int (fMin x1 x2)), .val (.int (fMax x1 x2)), .val (.int (fEnc (fSign (fMin x1 x2) x3) x4)), .val (.int (fEnc (fSign (fMax x1 x2) x3) x5)), .val (.int (1 : Int32)), .val (.int (fAdm2 (fEnc (fSign (fMin x1 x2) x3) x4) (fEnc (fSign (fMax x1 x2) x3) x5)))] [])
              refine go_st (fun _ k => XT.iconstV X652.here hx rfl (1 : Int32) (hb hby at_164) (by decide) k) ?_
              show Go p e below s _ _ _ T652 (mkF m 165 #[.val (.int x0), .val (.int x1), .val (.int x2), .val (.int x3), .val (.int x4), .val (.int x5), .val (.ref a34), .val (.int (2 : Int32)), .val (.int (fMin x1 x2)), .val (.int (fMax x1 x2)), .val (.int (fEnc (fSign (fMin x1 x2) x3) x4)), .val (.int (fEnc (fSign (fMax x1 x2) x3) x5)), .val (.int (1 : Int32)), .val (.int (fAdm2 (fEnc (fSign (fMin x1 x2) x3) x4) (fEnc (fSign (fMax x1 x2) x3) x5)))] [(.int (1 : Int32))])
              refine go_st (fun _ k => XS.goto X652.here hx rfl (pc0 := 165) (pc' := 169) rfl (hb hby at_165) (by decide) (by decide) k) ?_
              show Go p e below s _ _ _ T652 (mkF m 169 #[.val (.int x0), .val (.int x1), .val (.int x2), .val (.int x3), .val (.int x4), .val (.int x5), .val (.ref a34), .val (.int (2 : Int32)), .val (.int (fMin x1 x2)), .val (.int (fMax x1 x2)), .val (.int (fEnc (fSign (fMin x1 x2) x3) x4)), .val (.int (fEnc (fSign (fMax x1 x2) x3) x5)), .val (.int (1 : Int32)), .val (.int (fAdm2 (fEnc (fSign (fMin x1 x2) x3) x4) (fEnc (fSign (fMax x1 x2) x3) x5)))] [(.int (1 : Int32))])
              exact go_retB (w := (1 : Int32)) X652 hx hlk hret (hb hby at_169) (by decide) (by decide) (by decide) ⟨rfl, N652⟩
            · rw [if_neg hc671]
              refine go_st (fun _ k => XS.icmpYes X652.here hx rfl (pc0 := 161) (pc' := 168) rfl (hb hby at_161) rfl (XT.ii_ne_t hc671) (by decide) (by decide) k) ?_
              show Go p e below s _ _ _ T652 (mkF m 168 #[.val (.int x0), .val (.int x1), .val (.int x2), .val (.int x3), .val (.int x4), .val (.int x5), .val (.ref a34), .val (.int (2 : Int32)), .val (.int (fMin x1 x2)), .val (.int (fMax x1 x2)), .val (.int (fEnc (fSign (fMin x1 x2) x3) x4)), .val (.int (fEnc (fSign (fMax x1 x2) x3) x5)), .val (.int (1 : Int32)), .val (.int (fAdm2 (fEnc (fSign (fMin x1 x2) x3) x4) (fEnc (fSign (fMax x1 x2) x3) x5)))] [])
              refine go_st (fun _ k => XT.iconstV X652.here hx rfl (0 : Int32) (hb hby at_168) (by decide) k) ?_
              show Go p e below s _ _ _ T652 (mkF m 169 #[.val (.int x0), .val (.int x1), .val (.int x2), .val (.int x3), .val (.int x4), .val (.int x5), .val (.ref a34), .val (.int (2 : Int32)), .val (.int (fMin x1 x2)), .val (.int (fMax x1 x2)), .val (.int (fEnc (fSign (fMin x1 x2) x3) x4)), .val (.int (fEnc (fSign (fMax x1 x2) x3) x5)), .val (.int (1 : Int32)), .val (.int (fAdm2 (fEnc (fSign (fMin x1 x2) x3) x4) (fEnc (fSign (fMax x1 x2) x3) x5)))] [(.int (0 : Int32))])
              exact go_retB (w := (0 : Int32)) X652 hx hlk hret (hb hby at_169) (by decide) (by decide) (by decide) ⟨rfl, N652⟩
          · rw [if_neg hk651]
            by_cases hk672 : ((x0 &&& (2147483647 : Int32)) % (6 : Int32)) = (3 : Int32)
            · rw [if_pos hk672]
              rw [hk672]
              show Go p e below s _ _ _ T108 (mkF m 147 #[.val (.int x0), .val (.int x1), .val (.int x2), .val (.int x3), .val (.int x4), .val (.int x5), .val (.ref a34), .val (.int (3 : Int32)), .val (.int (fMin x1 x2)), .val (.int (fMax x1 x2)), .val (.int (fEnc (fSign (fMin x1 x2) x3) x4)), .val (.int (fEnc (fSign (fMax x1 x2) x3) x5)), .val (.int (1 : Int32)), .unset] [(.int (3 : Int32)), (.ref a34)])
              refine go_aald X108 hx hZ e108 A92 rfl (hb hby at_147) rfl rfl (by decide) (.ref o3) rfl ?_
              show Go p e below s _ _ _ T108 (mkF m 148 #[.val (.int x0), .val (.int x1), .val (.int x2), .val (.int x3), .val (.int x4), .val (.int x5), .val (.ref a34), .val (.int (3 : Int32)), .val (.int (fMin x1 x2)), .val (.int (fMax x1 x2)), .val (.int (fEnc (fSign (fMin x1 x2) x3) x4)), .val (.int (fEnc (fSign (fMax x1 x2) x3) x5)), .val (.int (1 : Int32)), .unset] [(.ref o3)])
              refine go_st (fun _ k => XS.iload X108.here hx rfl (hb hby at_148) rfl k) ?_
              show Go p e below s _ _ _ T108 (mkF m 150 #[.val (.int x0), .val (.int x1), .val (.int x2), .val (.int x3), .val (.int x4), .val (.int x5), .val (.ref a34), .val (.int (3 : Int32)), .val (.int (fMin x1 x2)), .val (.int (fMax x1 x2)), .val (.int (fEnc (fSign (fMin x1 x2) x3) x4)), .val (.int (fEnc (fSign (fMax x1 x2) x3) x5)), .val (.int (1 : Int32)), .unset] [(.int (fEnc (fSign (fMin x1 x2) x3) x4)), (.ref o3)])
              refine go_st (fun _ k => XS.iload X108.here hx rfl (hb hby at_150) rfl k) ?_
              show Go p e below s _ _ _ T108 (mkF m 152 #[.val (.int x0), .val (.int x1), .val (.int x2), .val (.int x3), .val (.int x4), .val (.int x5), .val (.ref a34), .val (.int (3 : Int32)), .val (.int (fMin x1 x2)), .val (.int (fMax x1 x2)), .val (.int (fEnc (fSign (fMin x1 x2) x3) x4)), .val (.int (fEnc (fSign (fMax x1 x2) x3) x5)), .val (.int (1 : Int32)), .unset] [(.int (fEnc (fSign (fMax x1 x2) x3) x5)), (.int (fEnc (fSign (fMin x1 x2) x3) x4)), (.ref o3)])
              have c674 := Exa.wr W66 c71
              have c675 := Exa.wr W78 c674
              have c676 := Exa.wr W92 c675
              have c677 := Fld.ext E34 F3
              have c678 := Fld.other W43 c677 (Or.inl ne38)
              have c679 := Fld.other W48 c678 (Or.inl ne38)
              have c680 := Fld.other W56 c679 (Or.inl ne38)
              have c681 := Fld.other W66 c680 (Or.inl ne38)
              have c682 := Fld.other W78 c681 (Or.inl ne38)
              have c683 := Fld.other W92 c682 (Or.inl ne38)
              have z684 : n0 ≤ h34.size := Nat.le_trans Z0 E34.1
              have z685 : n0 ≤ h43.size := (Wr.size W43).symm ▸ z684
              have z686 : n0 ≤ h48.size := (Wr.size W48).symm ▸ z685
              have z687 : n0 ≤ h56.size := (Wr.size W56).symm ▸ z686
              have z688 : n0 ≤ h66.size := (Wr.size W66).symm ▸ z687
              have z689 : n0 ≤ h78.size := (Wr.size W78).symm ▸ z688
              have z690 : n0 ≤ h92.size := (Wr.size W92).symm ▸ z689
              refine go_callV X108 hx hZ hml hown (hw _ (List.mem_of_getElem? (i := 34) rfl)) (hw _ (List.mem_of_getElem? (i := 35) rfl)) (notFace_of_selects (args := #[]) (mvT hZ (hw _ (List.mem_of_getElem? (i := 37) rfl)))) (hw _ (List.mem_of_getElem? (i := 37) rfl)) (hw _ (List.mem_of_getElem? (i := 36) rfl)) (hw _ (List.mem_of_getElem? (i := 38) rfl)) (hw _ (List.mem_of_getElem? (i := 3) rfl)) e108 c676 (argsL := [(.int (fEnc (fSign (fMin x1 x2) x3) x4)), (.int (fEnc (fSign (fMax x1 x2) x3) x5))]) (rest := []) (W := 0) (met_adm3 l Z a0 hw o3 (fEnc (fSign (fMin x1 x2) x3) x4) (fEnc (fSign (fMax x1 x2) x3) x5) h92 n0 z690 c676 c683) (hb hby at_152) rfl rfl rfl (lenOf pd3 rfl) (by show 2 * 0 + _ ≤ _; exact Nat.le_of_eq rfl) (by decide) (by decide) (by decide) (by decide) (by decide) ?_
              intro T673 v673 L673 X673 q673
              obtain ⟨rfl, M673, e673⟩ := q673
              have N673 := Fr.app N108 M673
              show Go p e below s _ _ _ T673 (mkF m 155 #[.val (.int x0), .val (.int x1), .val (.int x2), .val (.int x3), .val (.int x4), .val (.int x5), .val (.ref a34), .val (.int (3 : Int32)), .val (.int (fMin x1 x2)), .val (.int (fMax x1 x2)), .val (.int (fEnc (fSign (fMin x1 x2) x3) x4)), .val (.int (fEnc (fSign (fMax x1 x2) x3) x5)), .val (.int (1 : Int32)), .unset] [(.int (fAdm3 (fEnc (fSign (fMin x1 x2) x3) x4) (fEnc (fSign (fMax x1 x2) x3) x5)))])
              refine go_st (fun _ k => XS.istore X673.here hx rfl (hb hby at_155) rfl (l' := #[.val (.int x0), .val (.int x1), .val (.int x2), .val (.int x3), .val (.int x4), .val (.int x5), .val (.ref a34), .val (.int (3 : Int32)), .val (.int (fMin x1 x2)), .val (.int (fMax x1 x2)), .val (.int (fEnc (fSign (fMin x1 x2) x3) x4)), .val (.int (fEnc (fSign (fMax x1 x2) x3) x5)), .val (.int (1 : Int32)), .val (.int (fAdm3 (fEnc (fSign (fMin x1 x2) x3) x4) (fEnc (fSign (fMax x1 x2) x3) x5)))]) rfl k) ?_
              show Go p e below s _ _ _ T673 (mkF m 157 #[.val (.int x0), .val (.int x1), .val (.int x2), .val (.int x3), .val (.int x4), .val (.int x5), .val (.ref a34), .val (.int (3 : Int32)), .val (.int (fMin x1 x2)), .val (.int (fMax x1 x2)), .val (.int (fEnc (fSign (fMin x1 x2) x3) x4)), .val (.int (fEnc (fSign (fMax x1 x2) x3) x5)), .val (.int (1 : Int32)), .val (.int (fAdm3 (fEnc (fSign (fMin x1 x2) x3) x4) (fEnc (fSign (fMax x1 x2) x3) x5)))] [])
              refine go_st (fun _ k => XS.iload X673.here hx rfl (hb hby at_157) rfl k) ?_
              show Go p e below s _ _ _ T673 (mkF m 159 #[.val (.int x0), .val (.int x1), .val (.int x2), .val (.int x3), .val (.int x4), .val (.int x5), .val (.ref a34), .val (.int (3 : Int32)), .val (.int (fMin x1 x2)), .val (.int (fMax x1 x2)), .val (.int (fEnc (fSign (fMin x1 x2) x3) x4)), .val (.int (fEnc (fSign (fMax x1 x2) x3) x5)), .val (.int (1 : Int32)), .val (.int (fAdm3 (fEnc (fSign (fMin x1 x2) x3) x4) (fEnc (fSign (fMax x1 x2) x3) x5)))] [(.int (fAdm3 (fEnc (fSign (fMin x1 x2) x3) x4) (fEnc (fSign (fMax x1 x2) x3) x5)))])
              refine go_st (fun _ k => XS.iload X673.here hx rfl (hb hby at_159) rfl k) ?_
              show Go p e below s _ _ _ T673 (mkF m 161 #[.val (.int x0), .val (.int x1), .val (.int x2), .val (.int x3), .val (.int x4), .val (.int x5), .val (.ref a34), .val (.int (3 : Int32)), .val (.int (fMin x1 x2)), .val (.int (fMax x1 x2)), .val (.int (fEnc (fSign (fMin x1 x2) x3) x4)), .val (.int (fEnc (fSign (fMax x1 x2) x3) x5)), .val (.int (1 : Int32)), .val (.int (fAdm3 (fEnc (fSign (fMin x1 x2) x3) x4) (fEnc (fSign (fMax x1 x2) x3) x5)))] [(.int (1 : Int32)), (.int (fAdm3 (fEnc (fSign (fMin x1 x2) x3) x4) (fEnc (fSign (fMax x1 x2) x3) x5)))])
              by_cases hc691 : (fAdm3 (fEnc (fSign (fMin x1 x2) x3) x4) (fEnc (fSign (fMax x1 x2) x3) x5)) = (1 : Int32)
              · rw [if_pos hc691]
                refine go_st (fun _ k => XS.icmpNo X673.here hx rfl (hb hby at_161) rfl (XT.ii_ne_f hc691) k) ?_
                show Go p e below s _ _ _ T673 (mkF m 164 #[.val (.int x0), .val (.int x1), .val (.int x2), .val (.int x3), .val (.int x4), .val (.int x5), .val (.ref a34), .val (.int (3 : Int32)), .val (.int (fMin x1 x2)), .val (.int (fMax x1 x2)), .val (.int (fEnc (fSign (fMin x1 x2) x3) x4)), .val (.int (fEnc (fSign (fMax x1 x2) x3) x5)), .val (.int (1 : Int32)), .val (.int (fAdm3 (fEnc (fSign (fMin x1 x2) x3) x4) (fEnc (fSign (fMax x1 x2) x3) x5)))] [])
                refine go_st (fun _ k => XT.iconstV X673.here hx rfl (1 : Int32) (hb hby at_164) (by decide) k) ?_
                show Go p e below s _ _ _ T673 (mkF m 165 #[.val (.int x0), .val (.int x1), .val (.int x2), .val (.int x3), .val (.int x4), .val (.int x5), .val (.ref a34), .val (.int (3 : Int32)), .val (.int (fMin x1 x2)), .val (.int (fMax x1 x2)), .val (.int (fEnc (fSign (fMin x1 x2) x3) x4)), .val (.int (fEnc (fSign (fMax x1 x2) x3) x5)), .val (.int (1 : Int32)), .val (.int (fAdm3 (fEnc (fSign (fMin x1 x2) x3) x4) (fEnc (fSign (fMax x1 x2) x3) x5)))] [(.int (1 : Int32))])
                refine go_st (fun _ k => XS.goto X673.here hx rfl (pc0 := 165) (pc' := 169) rfl (hb hby at_165) (by decide) (by decide) k) ?_
                show Go p e below s _ _ _ T673 (mkF m 169 #[.val (.int x0), .val (.int x1), .val (.int x2), .val (.int x3), .val (.int x4), .val (.int x5), .val (.ref a34), .val (.int (3 : Int32)), .val (.int (fMin x1 x2)), .val (.int (fMax x1 x2)), .val (.int (fEnc (fSign (fMin x1 x2) x3) x4)), .val (.int (fEnc (fSign (fMax x1 x2) x3) x5)), .val (.int (1 : Int32)), .val (.int (fAdm3 (fEnc (fSign (fMin x1 x2) x3) x4) (fEnc (fSign (fMax x1 x2) x3) x5)))] [(.int (1 : Int32))])
                exact go_retB (w := (1 : Int32)) X673 hx hlk hret (hb hby at_169) (by decide) (by decide) (by decide) ⟨rfl, N673⟩
              · rw [if_neg hc691]
                refine go_st (fun _ k => XS.icmpYes X673.here hx rfl (pc0 := 161) (pc' := 168) rfl (hb hby at_161) rfl (XT.ii_ne_t hc691) (by decide) (by decide) k) ?_
                show Go p e below s _ _ _ T673 (mkF m 168 #[.val (.int x0), .val (.int x1), .val (.int x2), .val (.int x3), .val (.int x4), .val (.int x5), .val (.ref a34), .val (.int (3 : Int32)), .val (.int (fMin x1 x2)), .val (.int (fMax x1 x2)), .val (.int (fEnc (fSign (fMin x1 x2) x3) x4)), .val (.int (fEnc (fSign (fMax x1 x2) x3) x5)), .val (.int (1 : Int32)), .val (.int (fAdm3 (fEnc (fSign (fMin x1 x2) x3) x4) (fEnc (fSign (fMax x1 x2) x3) x5)))] [])
                refine go_st (fun _ k => XT.iconstV X673.here hx rfl (0 : Int32) (hb hby at_168) (by decide) k) ?_
                show Go p e below s _ _ _ T673 (mkF m 169 #[.val (.int x0), .val (.int x1), .val (.int x2), .val (.int x3), .val (.int x4), .val (.int x5), .val (.ref a34), .val (.int (3 : Int32)), .val (.int (fMin x1 x2)), .val (.int (fMax x1 x2)), .val (.int (fEnc (fSign (fMin x1 x2) x3) x4)), .val (.int (fEnc (fSign (fMax x1 x2) x3) x5)), .val (.int (1 : Int32)), .val (.int (fAdm3 (fEnc (fSign (fMin x1 x2) x3) x4) (fEnc (fSign (fMax x1 x2) x3) x5)))] [(.int (0 : Int32))])
                exact go_retB (w := (0 : Int32)) X673 hx hlk hret (hb hby at_169) (by decide) (by decide) (by decide) ⟨rfl, N673⟩
            · rw [if_neg hk672]
              by_cases hk692 : ((x0 &&& (2147483647 : Int32)) % (6 : Int32)) = (4 : Int32)
              · rw [if_pos hk692]
                rw [hk692]
                show Go p e below s _ _ _ T108 (mkF m 147 #[.val (.int x0), .val (.int x1), .val (.int x2), .val (.int x3), .val (.int x4), .val (.int x5), .val (.ref a34), .val (.int (4 : Int32)), .val (.int (fMin x1 x2)), .val (.int (fMax x1 x2)), .val (.int (fEnc (fSign (fMin x1 x2) x3) x4)), .val (.int (fEnc (fSign (fMax x1 x2) x3) x5)), .val (.int (1 : Int32)), .unset] [(.int (4 : Int32)), (.ref a34)])
                refine go_aald X108 hx hZ e108 A92 rfl (hb hby at_147) rfl rfl (by decide) (.ref o4) rfl ?_
                show Go p e below s _ _ _ T108 (mkF m 148 #[.val (.int x0), .val (.int x1), .val (.int x2), .val (.int x3), .val (.int x4), .val (.int x5), .val (.ref a34), .val (.int (4 : Int32)), .val (.int (fMin x1 x2)), .val (.int (fMax x1 x2)), .val (.int (fEnc (fSign (fMin x1 x2) x3) x4)), .val (.int (fEnc (fSign (fMax x1 x2) x3) x5)), .val (.int (1 : Int32)), .unset] [(.ref o4)])
                refine go_st (fun _ k => XS.iload X108.here hx rfl (hb hby at_148) rfl k) ?_
                show Go p e below s _ _ _ T108 (mkF m 150 #[.val (.int x0), .val (.int x1), .val (.int x2), .val (.int x3), .val (.int x4), .val (.int x5), .val (.ref a34), .val (.int (4 : Int32)), .val (.int (fMin x1 x2)), .val (.int (fMax x1 x2)), .val (.int (fEnc (fSign (fMin x1 x2) x3) x4)), .val (.int (fEnc (fSign (fMax x1 x2) x3) x5)), .val (.int (1 : Int32)), .unset] [(.int (fEnc (fSign (fMin x1 x2) x3) x4)), (.ref o4)])
                refine go_st (fun _ k => XS.iload X108.here hx rfl (hb hby at_150) rfl k) ?_
                show Go p e below s _ _ _ T108 (mkF m 152 #[.val (.int x0), .val (.int x1), .val (.int x2), .val (.int x3), .val (.int x4), .val (.int x5), .val (.ref a34), .val (.int (4 : Int32)), .val (.int (fMin x1 x2)), .val (.int (fMax x1 x2)), .val (.int (fEnc (fSign (fMin x1 x2) x3) x4)), .val (.int (fEnc (fSign (fMax x1 x2) x3) x5)), .val (.int (1 : Int32)), .unset] [(.int (fEnc (fSign (fMax x1 x2) x3) x5)), (.int (fEnc (fSign (fMin x1 x2) x3) x4)), (.ref o4)])
                have c694 := Exa.wr W78 c84
                have c695 := Exa.wr W92 c694
                have c696 := Fld.ext E34 F4
                have c697 := Fld.other W43 c696 (Or.inl ne39)
                have c698 := Fld.other W48 c697 (Or.inl ne39)
                have c699 := Fld.other W56 c698 (Or.inl ne39)
                have c700 := Fld.other W66 c699 (Or.inl ne39)
                have c701 := Fld.other W78 c700 (Or.inl ne39)
                have c702 := Fld.other W92 c701 (Or.inl ne39)
                have z703 : n0 ≤ h34.size := Nat.le_trans Z0 E34.1
                have z704 : n0 ≤ h43.size := (Wr.size W43).symm ▸ z703
                have z705 : n0 ≤ h48.size := (Wr.size W48).symm ▸ z704
                have z706 : n0 ≤ h56.size := (Wr.size W56).symm ▸ z705
                have z707 : n0 ≤ h66.size := (Wr.size W66).symm ▸ z706
                have z708 : n0 ≤ h78.size := (Wr.size W78).symm ▸ z707
                have z709 : n0 ≤ h92.size := (Wr.size W92).symm ▸ z708
                refine go_callV X108 hx hZ hml hown (hw _ (List.mem_of_getElem? (i := 34) rfl)) (hw _ (List.mem_of_getElem? (i := 35) rfl)) (notFace_of_selects (args := #[]) (mvT hZ (hw _ (List.mem_of_getElem? (i := 37) rfl)))) (hw _ (List.mem_of_getElem? (i := 37) rfl)) (hw _ (List.mem_of_getElem? (i := 36) rfl)) (hw _ (List.mem_of_getElem? (i := 38) rfl)) (hw _ (List.mem_of_getElem? (i := 3) rfl)) e108 c695 (argsL := [(.int (fEnc (fSign (fMin x1 x2) x3) x4)), (.int (fEnc (fSign (fMax x1 x2) x3) x5))]) (rest := []) (W := 0) (met_adm4 l Z a0 hw o4 (fEnc (fSign (fMin x1 x2) x3) x4) (fEnc (fSign (fMax x1 x2) x3) x5) h92 n0 z709 c695 c702) (hb hby at_152) rfl rfl rfl (lenOf pd3 rfl) (by show 2 * 0 + _ ≤ _; exact Nat.le_of_eq rfl) (by decide) (by decide) (by decide) (by decide) (by decide) ?_
                intro T693 v693 L693 X693 q693
                obtain ⟨rfl, M693, e693⟩ := q693
                have N693 := Fr.app N108 M693
                show Go p e below s _ _ _ T693 (mkF m 155 #[.val (.int x0), .val (.int x1), .val (.int x2), .val (.int x3), .val (.int x4), .val (.int x5), .val (.ref a34), .val (.int (4 : Int32)), .val (.int (fMin x1 x2)), .val (.int (fMax x1 x2)), .val (.int (fEnc (fSign (fMin x1 x2) x3) x4)), .val (.int (fEnc (fSign (fMax x1 x2) x3) x5)), .val (.int (1 : Int32)), .unset] [(.int (fAdm4 (fEnc (fSign (fMin x1 x2) x3) x4) (fEnc (fSign (fMax x1 x2) x3) x5)))])
                refine go_st (fun _ k => XS.istore X693.here hx rfl (hb hby at_155) rfl (l' := #[.val (.int x0), .val (.int x1), .val (.int x2), .val (.int x3), .val (.int x4), .val (.int x5), .val (.ref a34), .val (.int (4 : Int32)), .val (.int (fMin x1 x2)), .val (.int (fMax x1 x2)), .val (.int (fEnc (fSign (fMin x1 x2) x3) x4)), .val (.int (fEnc (fSign (fMax x1 x2) x3) x5)), .val (.int (1 : Int32)), .val (.int (fAdm4 (fEnc (fSign (fMin x1 x2) x3) x4) (fEnc (fSign (fMax x1 x2) x3) x5)))]) rfl k) ?_
                show Go p e below s _ _ _ T693 (mkF m 157 #[.val (.int x0), .val (.int x1), .val (.int x2), .val (.int x3), .val (.int x4), .val (.int x5), .val (.ref a34), .val (.int (4 : Int32)), .val (.int (fMin x1 x2)), .val (.int (fMax x1 x2)), .val (.int (fEnc (fSign (fMin x1 x2) x3) x4)), .val (.int (fEnc (fSign (fMax x1 x2) x3) x5)), .val (.int (1 : Int32)), .val (.int (fAdm4 (fEnc (fSign (fMin x1 x2) x3) x4) (fEnc (fSign (fMax x1 x2) x3) x5)))] [])
                refine go_st (fun _ k => XS.iload X693.here hx rfl (hb hby at_157) rfl k) ?_
                show Go p e below s _ _ _ T693 (mkF m 159 #[.val (.int x0), .val (.int x1), .val (.int x2), .val (.int x3), .val (.int x4), .val (.int x5), .val (.ref a34), .val (.int (4 : Int32)), .val (.int (fMin x1 x2)), .val (.int (fMax x1 x2)), .val (.int (fEnc (fSign (fMin x1 x2) x3) x4)), .val (.int (fEnc (fSign (fMax x1 x2) x3) x5)), .val (.int (1 : Int32)), .val (.int (fAdm4 (fEnc (fSign (fMin x1 x2) x3) x4) (fEnc (fSign (fMax x1 x2) x3) x5)))] [(.int (fAdm4 (fEnc (fSign (fMin x1 x2) x3) x4) (fEnc (fSign (fMax x1 x2) x3) x5)))])
                refine go_st (fun _ k => XS.iload X693.here hx rfl (hb hby at_159) rfl k) ?_
                show Go p e below s _ _ _ T693 (mkF m 161 #[.val (.int x0), .val (.int x1), .val (.int x2), .val (.int x3), .val (.int x4), .val (.int x5), .val (.ref a34), .val (.int (4 : Int32)), .val (.int (fMin x1 x2)), .val (.int (fMax x1 x2)), .val (.int (fEnc (fSign (fMin x1 x2) x3) x4)), .val (.int (fEnc (fSign (fMax x1 x2) x3) x5)), .val (.int (1 : Int32)), .val (.int (fAdm4 (fEnc (fSign (fMin x1 x2) x3) x4) (fEnc (fSign (fMax x1 x2) x3) x5)))] [(.int (1 : Int32)), (.int (fAdm4 (fEnc (fSign (fMin x1 x2) x3) x4) (fEnc (fSign (fMax x1 x2) x3) x5)))])
                by_cases hc710 : (fAdm4 (fEnc (fSign (fMin x1 x2) x3) x4) (fEnc (fSign (fMax x1 x2) x3) x5)) = (1 : Int32)
                · rw [if_pos hc710]
                  refine go_st (fun _ k => XS.icmpNo X693.here hx rfl (hb hby at_161) rfl (XT.ii_ne_f hc710) k) ?_
                  show Go p e below s _ _ _ T693 (mkF m 164 #[.val (.int x0), .val (.int x1), .val (.int x2), .val (.int x3), .val (.int x4), .val (.int x5), .val (.ref a34), .val (.int (4 : Int32)), .val (.int (fMin x1 x2)), .val (.int (fMax x1 x2)), .val (.int (fEnc (fSign (fMin x1 x2) x3) x4)), .val (.int (fEnc (fSign (fMax x1 x2) x3) x5)), .val (.int (1 : Int32)), .val (.int (fAdm4 (fEnc (fSign (fMin x1 x2) x3) x4) (fEnc (fSign (fMax x1 x2) x3) x5)))] [])
                  refine go_st (fun _ k => XT.iconstV X693.here hx rfl (1 : Int32) (hb hby at_164) (by decide) k) ?_
                  show Go p e below s _ _ _ T693 (mkF m 165 #[.val (.int x0), .val (.int x1), .val (.int x2), .val (.int x3), .val (.int x4), .val (.int x5), .val (.ref a34), .val (.int (4 : Int32)), .val (.int (fMin x1 x2)), .val (.int (fMax x1 x2)), .val (.int (fEnc (fSign (fMin x1 x2) x3) x4)), .val (.int (fEnc (fSign (fMax x1 x2) x3) x5)), .val (.int (1 : Int32)), .val (.int (fAdm4 (fEnc (fSign (fMin x1 x2) x3) x4) (fEnc (fSign (fMax x1 x2) x3) x5)))] [(.int (1 : Int32))])
                  refine go_st (fun _ k => XS.goto X693.here hx rfl (pc0 := 165) (pc' := 169) rfl (hb hby at_165) (by decide) (by decide) k) ?_
                  show Go p e below s _ _ _ T693 (mkF m 169 #[.val (.int x0), .val (.int x1), .val (.int x2), .val (.int x3), .val (.int x4), .val (.int x5), .val (.ref a34), .val (.int (4 : Int32)), .val (.int (fMin x1 x2)), .val (.int (fMax x1 x2)), .val (.int (fEnc (fSign (fMin x1 x2) x3) x4)), .val (.int (fEnc (fSign (fMax x1 x2) x3) x5)), .val (.int (1 : Int32)), .val (.int (fAdm4 (fEnc (fSign (fMin x1 x2) x3) x4) (fEnc (fSign (fMax x1 x2) x3) x5)))] [(.int (1 : Int32))])
                  exact go_retB (w := (1 : Int32)) X693 hx hlk hret (hb hby at_169) (by decide) (by decide) (by decide) ⟨rfl, N693⟩
                · rw [if_neg hc710]
                  refine go_st (fun _ k => XS.icmpYes X693.here hx rfl (pc0 := 161) (pc' := 168) rfl (hb hby at_161) rfl (XT.ii_ne_t hc710) (by decide) (by decide) k) ?_
                  show Go p e below s _ _ _ T693 (mkF m 168 #[.val (.int x0), .val (.int x1), .val (.int x2), .val (.int x3), .val (.int x4), .val (.int x5), .val (.ref a34), .val (.int (4 : Int32)), .val (.int (fMin x1 x2)), .val (.int (fMax x1 x2)), .val (.int (fEnc (fSign (fMin x1 x2) x3) x4)), .val (.int (fEnc (fSign (fMax x1 x2) x3) x5)), .val (.int (1 : Int32)), .val (.int (fAdm4 (fEnc (fSign (fMin x1 x2) x3) x4) (fEnc (fSign (fMax x1 x2) x3) x5)))] [])
                  refine go_st (fun _ k => XT.iconstV X693.here hx rfl (0 : Int32) (hb hby at_168) (by decide) k) ?_
                  show Go p e below s _ _ _ T693 (mkF m 169 #[.val (.int x0), .val (.int x1), .val (.int x2), .val (.int x3), .val (.int x4), .val (.int x5), .val (.ref a34), .val (.int (4 : Int32)), .val (.int (fMin x1 x2)), .val (.int (fMax x1 x2)), .val (.int (fEnc (fSign (fMin x1 x2) x3) x4)), .val (.int (fEnc (fSign (fMax x1 x2) x3) x5)), .val (.int (1 : Int32)), .val (.int (fAdm4 (fEnc (fSign (fMin x1 x2) x3) x4) (fEnc (fSign (fMax x1 x2) x3) x5)))] [(.int (0 : Int32))])
                  exact go_retB (w := (0 : Int32)) X693 hx hlk hret (hb hby at_169) (by decide) (by decide) (by decide) ⟨rfl, N693⟩
              · rw [if_neg hk692]
                by_cases hk711 : ((x0 &&& (2147483647 : Int32)) % (6 : Int32)) = (5 : Int32)
                · rw [if_pos hk711]
                  rw [hk711]
                  show Go p e below s _ _ _ T108 (mkF m 147 #[.val (.int x0), .val (.int x1), .val (.int x2), .val (.int x3), .val (.int x4), .val (.int x5), .val (.ref a34), .val (.int (5 : Int32)), .val (.int (fMin x1 x2)), .val (.int (fMax x1 x2)), .val (.int (fEnc (fSign (fMin x1 x2) x3) x4)), .val (.int (fEnc (fSign (fMax x1 x2) x3) x5)), .val (.int (1 : Int32)), .unset] [(.int (5 : Int32)), (.ref a34)])
                  refine go_aald X108 hx hZ e108 A92 rfl (hb hby at_147) rfl rfl (by decide) (.ref o5) rfl ?_
                  show Go p e below s _ _ _ T108 (mkF m 148 #[.val (.int x0), .val (.int x1), .val (.int x2), .val (.int x3), .val (.int x4), .val (.int x5), .val (.ref a34), .val (.int (5 : Int32)), .val (.int (fMin x1 x2)), .val (.int (fMax x1 x2)), .val (.int (fEnc (fSign (fMin x1 x2) x3) x4)), .val (.int (fEnc (fSign (fMax x1 x2) x3) x5)), .val (.int (1 : Int32)), .unset] [(.ref o5)])
                  refine go_st (fun _ k => XS.iload X108.here hx rfl (hb hby at_148) rfl k) ?_
                  show Go p e below s _ _ _ T108 (mkF m 150 #[.val (.int x0), .val (.int x1), .val (.int x2), .val (.int x3), .val (.int x4), .val (.int x5), .val (.ref a34), .val (.int (5 : Int32)), .val (.int (fMin x1 x2)), .val (.int (fMax x1 x2)), .val (.int (fEnc (fSign (fMin x1 x2) x3) x4)), .val (.int (fEnc (fSign (fMax x1 x2) x3) x5)), .val (.int (1 : Int32)), .unset] [(.int (fEnc (fSign (fMin x1 x2) x3) x4)), (.ref o5)])
                  refine go_st (fun _ k => XS.iload X108.here hx rfl (hb hby at_150) rfl k) ?_
                  show Go p e below s _ _ _ T108 (mkF m 152 #[.val (.int x0), .val (.int x1), .val (.int x2), .val (.int x3), .val (.int x4), .val (.int x5), .val (.ref a34), .val (.int (5 : Int32)), .val (.int (fMin x1 x2)), .val (.int (fMax x1 x2)), .val (.int (fEnc (fSign (fMin x1 x2) x3) x4)), .val (.int (fEnc (fSign (fMax x1 x2) x3) x5)), .val (.int (1 : Int32)), .unset] [(.int (fEnc (fSign (fMax x1 x2) x3) x5)), (.int (fEnc (fSign (fMin x1 x2) x3) x4)), (.ref o5)])
                  have c713 := Exa.wr W92 c99
                  have c714 := Fld.ext E34 F5
                  have c715 := Fld.other W43 c714 (Or.inl ne40)
                  have c716 := Fld.other W48 c715 (Or.inl ne40)
                  have c717 := Fld.other W56 c716 (Or.inl ne40)
                  have c718 := Fld.other W66 c717 (Or.inl ne40)
                  have c719 := Fld.other W78 c718 (Or.inl ne40)
                  have c720 := Fld.other W92 c719 (Or.inl ne40)
                  have z721 : n0 ≤ h34.size := Nat.le_trans Z0 E34.1
                  have z722 : n0 ≤ h43.size := (Wr.size W43).symm ▸ z721
                  have z723 : n0 ≤ h48.size := (Wr.size W48).symm ▸ z722
                  have z724 : n0 ≤ h56.size := (Wr.size W56).symm ▸ z723
                  have z725 : n0 ≤ h66.size := (Wr.size W66).symm ▸ z724
                  have z726 : n0 ≤ h78.size := (Wr.size W78).symm ▸ z725
                  have z727 : n0 ≤ h92.size := (Wr.size W92).symm ▸ z726
                  refine go_callV X108 hx hZ hml hown (hw _ (List.mem_of_getElem? (i := 34) rfl)) (hw _ (List.mem_of_getElem? (i := 35) rfl)) (notFace_of_selects (args := #[]) (mvT hZ (hw _ (List.mem_of_getElem? (i := 37) rfl)))) (hw _ (List.mem_of_getElem? (i := 37) rfl)) (hw _ (List.mem_of_getElem? (i := 36) rfl)) (hw _ (List.mem_of_getElem? (i := 38) rfl)) (hw _ (List.mem_of_getElem? (i := 3) rfl)) e108 c713 (argsL := [(.int (fEnc (fSign (fMin x1 x2) x3) x4)), (.int (fEnc (fSign (fMax x1 x2) x3) x5))]) (rest := []) (W := 0) (met_adm5 l Z a0 hw o5 (fEnc (fSign (fMin x1 x2) x3) x4) (fEnc (fSign (fMax x1 x2) x3) x5) h92 n0 z727 c713 c720) (hb hby at_152) rfl rfl rfl (lenOf pd3 rfl) (by show 2 * 0 + _ ≤ _; exact Nat.le_of_eq rfl) (by decide) (by decide) (by decide) (by decide) (by decide) ?_
                  intro T712 v712 L712 X712 q712
                  obtain ⟨rfl, M712, e712⟩ := q712
                  have N712 := Fr.app N108 M712
                  show Go p e below s _ _ _ T712 (mkF m 155 #[.val (.int x0), .val (.int x1), .val (.int x2), .val (.int x3), .val (.int x4), .val (.int x5), .val (.ref a34), .val (.int (5 : Int32)), .val (.int (fMin x1 x2)), .val (.int (fMax x1 x2)), .val (.int (fEnc (fSign (fMin x1 x2) x3) x4)), .val (.int (fEnc (fSign (fMax x1 x2) x3) x5)), .val (.int (1 : Int32)), .unset] [(.int (fAdm5 (fEnc (fSign (fMin x1 x2) x3) x4) (fEnc (fSign (fMax x1 x2) x3) x5)))])
                  refine go_st (fun _ k => XS.istore X712.here hx rfl (hb hby at_155) rfl (l' := #[.val (.int x0), .val (.int x1), .val (.int x2), .val (.int x3), .val (.int x4), .val (.int x5), .val (.ref a34), .val (.int (5 : Int32)), .val (.int (fMin x1 x2)), .val (.int (fMax x1 x2)), .val (.int (fEnc (fSign (fMin x1 x2) x3) x4)), .val (.int (fEnc (fSign (fMax x1 x2) x3) x5)), .val (.int (1 : Int32)), .val (.int (fAdm5 (fEnc (fSign (fMin x1 x2) x3) x4) (fEnc (fSign (fMax x1 x2) x3) x5)))]) rfl k) ?_
                  show Go p e below s _ _ _ T712 (mkF m 157 #[.val (.int x0), .val (.int x1), .val (.int x2), .val (.int x3), .val (.int x4), .val (.int x5), .val (.ref a34), .val (.int (5 : Int32)), .val (.int (fMin x1 x2)), .val (.int (fMax x1 x2)), .val (.int (fEnc (fSign (fMin x1 x2) x3) x4)), .val (.int (fEnc (fSign (fMax x1 x2) x3) x5)), .val (.int (1 : Int32)), .val (.int (fAdm5 (fEnc (fSign (fMin x1 x2) x3) x4) (fEnc (fSign (fMax x1 x2) x3) x5)))] [])
                  refine go_st (fun _ k => XS.iload X712.here hx rfl (hb hby at_157) rfl k) ?_
                  show Go p e below s _ _ _ T712 (mkF m 159 #[.val (.int x0), .val (.int x1), .val (.int x2), .val (.int x3), .val (.int x4), .val (.int x5), .val (.ref a34), .val (.int (5 : Int32)), .val (.int (fMin x1 x2)), .val (.int (fMax x1 x2)), .val (.int (fEnc (fSign (fMin x1 x2) x3) x4)), .val (.int (fEnc (fSign (fMax x1 x2) x3) x5)), .val (.int (1 : Int32)), .val (.int (fAdm5 (fEnc (fSign (fMin x1 x2) x3) x4) (fEnc (fSign (fMax x1 x2) x3) x5)))] [(.int (fAdm5 (fEnc (fSign (fMin x1 x2) x3) x4) (fEnc (fSign (fMax x1 x2) x3) x5)))])
                  refine go_st (fun _ k => XS.iload X712.here hx rfl (hb hby at_159) rfl k) ?_
                  show Go p e below s _ _ _ T712 (mkF m 161 #[.val (.int x0), .val (.int x1), .val (.int x2), .val (.int x3), .val (.int x4), .val (.int x5), .val (.ref a34), .val (.int (5 : Int32)), .val (.int (fMin x1 x2)), .val (.int (fMax x1 x2)), .val (.int (fEnc (fSign (fMin x1 x2) x3) x4)), .val (.int (fEnc (fSign (fMax x1 x2) x3) x5)), .val (.int (1 : Int32)), .val (.int (fAdm5 (fEnc (fSign (fMin x1 x2) x3) x4) (fEnc (fSign (fMax x1 x2) x3) x5)))] [(.int (1 : Int32)), (.int (fAdm5 (fEnc (fSign (fMin x1 x2) x3) x4) (fEnc (fSign (fMax x1 x2) x3) x5)))])
                  by_cases hc728 : (fAdm5 (fEnc (fSign (fMin x1 x2) x3) x4) (fEnc (fSign (fMax x1 x2) x3) x5)) = (1 : Int32)
                  · rw [if_pos hc728]
                    refine go_st (fun _ k => XS.icmpNo X712.here hx rfl (hb hby at_161) rfl (XT.ii_ne_f hc728) k) ?_
                    show Go p e below s _ _ _ T712 (mkF m 164 #[.val (.int x0), .val (.int x1), .val (.int x2), .val (.int x3), .val (.int x4), .val (.int x5), .val (.ref a34), .val (.int (5 : Int32)), .val (.int (fMin x1 x2)), .val (.int (fMax x1 x2)), .val (.int (fEnc (fSign (fMin x1 x2) x3) x4)), .val (.int (fEnc (fSign (fMax x1 x2) x3) x5)), .val (.int (1 : Int32)), .val (.int (fAdm5 (fEnc (fSign (fMin x1 x2) x3) x4) (fEnc (fSign (fMax x1 x2) x3) x5)))] [])
                    refine go_st (fun _ k => XT.iconstV X712.here hx rfl (1 : Int32) (hb hby at_164) (by decide) k) ?_
                    show Go p e below s _ _ _ T712 (mkF m 165 #[.val (.int x0), .val (.int x1), .val (.int x2), .val (.int x3), .val (.int x4), .val (.int x5), .val (.ref a34), .val (.int (5 : Int32)), .val (.int (fMin x1 x2)), .val (.int (fMax x1 x2)), .val (.int (fEnc (fSign (fMin x1 x2) x3) x4)), .val (.int (fEnc (fSign (fMax x1 x2) x3) x5)), .val (.int (1 : Int32)), .val (.int (fAdm5 (fEnc (fSign (fMin x1 x2) x3) x4) (fEnc (fSign (fMax x1 x2) x3) x5)))] [(.int (1 : Int32))])
                    refine go_st (fun _ k => XS.goto X712.here hx rfl (pc0 := 165) (pc' := 169) rfl (hb hby at_165) (by decide) (by decide) k) ?_
                    show Go p e below s _ _ _ T712 (mkF m 169 #[.val (.int x0), .val (.int x1), .val (.int x2), .val (.int x3), .val (.int x4), .val (.int x5), .val (.ref a34), .val (.int (5 : Int32)), .val (.int (fMin x1 x2)), .val (.int (fMax x1 x2)), .val (.int (fEnc (fSign (fMin x1 x2) x3) x4)), .val (.int (fEnc (fSign (fMax x1 x2) x3) x5)), .val (.int (1 : Int32)), .val (.int (fAdm5 (fEnc (fSign (fMin x1 x2) x3) x4) (fEnc (fSign (fMax x1 x2) x3) x5)))] [(.int (1 : Int32))])
                    exact go_retB (w := (1 : Int32)) X712 hx hlk hret (hb hby at_169) (by decide) (by decide) (by decide) ⟨rfl, N712⟩
                  · rw [if_neg hc728]
                    refine go_st (fun _ k => XS.icmpYes X712.here hx rfl (pc0 := 161) (pc' := 168) rfl (hb hby at_161) rfl (XT.ii_ne_t hc728) (by decide) (by decide) k) ?_
                    show Go p e below s _ _ _ T712 (mkF m 168 #[.val (.int x0), .val (.int x1), .val (.int x2), .val (.int x3), .val (.int x4), .val (.int x5), .val (.ref a34), .val (.int (5 : Int32)), .val (.int (fMin x1 x2)), .val (.int (fMax x1 x2)), .val (.int (fEnc (fSign (fMin x1 x2) x3) x4)), .val (.int (fEnc (fSign (fMax x1 x2) x3) x5)), .val (.int (1 : Int32)), .val (.int (fAdm5 (fEnc (fSign (fMin x1 x2) x3) x4) (fEnc (fSign (fMax x1 x2) x3) x5)))] [])
                    refine go_st (fun _ k => XT.iconstV X712.here hx rfl (0 : Int32) (hb hby at_168) (by decide) k) ?_
                    show Go p e below s _ _ _ T712 (mkF m 169 #[.val (.int x0), .val (.int x1), .val (.int x2), .val (.int x3), .val (.int x4), .val (.int x5), .val (.ref a34), .val (.int (5 : Int32)), .val (.int (fMin x1 x2)), .val (.int (fMax x1 x2)), .val (.int (fEnc (fSign (fMin x1 x2) x3) x4)), .val (.int (fEnc (fSign (fMax x1 x2) x3) x5)), .val (.int (1 : Int32)), .val (.int (fAdm5 (fEnc (fSign (fMin x1 x2) x3) x4) (fEnc (fSign (fMax x1 x2) x3) x5)))] [(.int (0 : Int32))])
                    exact go_retB (w := (0 : Int32)) X712 hx hlk hret (hb hby at_169) (by decide) (by decide) (by decide) ⟨rfl, N712⟩
                · rw [if_neg hk711]
                  exact (own_six x0 hk606 hk629 hk651 hk672 hk692 hk711).elim
  · rw [if_neg hc107]
    refine go_st (fun _ k => XS.ifYes X106.here hx rfl (pc0 := 100) (pc' := 136) rfl (hb hby at_100) rfl (XT.i0_ne_t hc107) (by decide) (by decide) k) ?_
    show Go p e below s _ _ _ T106 (mkF m 136 #[.val (.int x0), .val (.int x1), .val (.int x2), .val (.int x3), .val (.int x4), .val (.int x5), .val (.ref a34), .val (.int ((x0 &&& (2147483647 : Int32)) % (6 : Int32))), .val (.int (fMin x1 x2)), .val (.int (fMax x1 x2)), .val (.int (fEnc (fSign (fMin x1 x2) x3) x4)), .val (.int (fEnc (fSign (fMax x1 x2) x3) x5)), .unset, .unset] [])
    refine go_st (fun _ k => XT.iconstV X106.here hx rfl (1 : Int32) (hb hby at_136) (by decide) k) ?_
    show Go p e below s _ _ _ T106 (mkF m 137 #[.val (.int x0), .val (.int x1), .val (.int x2), .val (.int x3), .val (.int x4), .val (.int x5), .val (.ref a34), .val (.int ((x0 &&& (2147483647 : Int32)) % (6 : Int32))), .val (.int (fMin x1 x2)), .val (.int (fMax x1 x2)), .val (.int (fEnc (fSign (fMin x1 x2) x3) x4)), .val (.int (fEnc (fSign (fMax x1 x2) x3) x5)), .unset, .unset] [(.int (1 : Int32))])
    refine go_st (fun _ k => XS.goto X106.here hx rfl (pc0 := 137) (pc' := 141) rfl (hb hby at_137) (by decide) (by decide) k) ?_
    show Go p e below s _ _ _ T106 (mkF m 141 #[.val (.int x0), .val (.int x1), .val (.int x2), .val (.int x3), .val (.int x4), .val (.int x5), .val (.ref a34), .val (.int ((x0 &&& (2147483647 : Int32)) % (6 : Int32))), .val (.int (fMin x1 x2)), .val (.int (fMax x1 x2)), .val (.int (fEnc (fSign (fMin x1 x2) x3) x4)), .val (.int (fEnc (fSign (fMax x1 x2) x3) x5)), .unset, .unset] [(.int (1 : Int32))])
    refine go_st (fun _ k => XS.istore X106.here hx rfl (hb hby at_141) rfl (l' := #[.val (.int x0), .val (.int x1), .val (.int x2), .val (.int x3), .val (.int x4), .val (.int x5), .val (.ref a34), .val (.int ((x0 &&& (2147483647 : Int32)) % (6 : Int32))), .val (.int (fMin x1 x2)), .val (.int (fMax x1 x2)), .val (.int (fEnc (fSign (fMin x1 x2) x3) x4)), .val (.int (fEnc (fSign (fMax x1 x2) x3) x5)), .val (.int (1 : Int32)), .unset]) rfl k) ?_
    show Go p e below s _ _ _ T106 (mkF m 143 #[.val (.int x0), .val (.int x1), .val (.int x2), .val (.int x3), .val (.int x4), .val (.int x5), .val (.ref a34), .val (.int ((x0 &&& (2147483647 : Int32)) % (6 : Int32))), .val (.int (fMin x1 x2)), .val (.int (fMax x1 x2)), .val (.int (fEnc (fSign (fMin x1 x2) x3) x4)), .val (.int (fEnc (fSign (fMax x1 x2) x3) x5)), .val (.int (1 : Int32)), .unset] [])
    refine go_st (fun _ k => XS.aload X106.here hx rfl (hb hby at_143) rfl rfl k) ?_
    show Go p e below s _ _ _ T106 (mkF m 145 #[.val (.int x0), .val (.int x1), .val (.int x2), .val (.int x3), .val (.int x4), .val (.int x5), .val (.ref a34), .val (.int ((x0 &&& (2147483647 : Int32)) % (6 : Int32))), .val (.int (fMin x1 x2)), .val (.int (fMax x1 x2)), .val (.int (fEnc (fSign (fMin x1 x2) x3) x4)), .val (.int (fEnc (fSign (fMax x1 x2) x3) x5)), .val (.int (1 : Int32)), .unset] [(.ref a34)])
    refine go_st (fun _ k => XS.iload X106.here hx rfl (hb hby at_145) rfl k) ?_
    show Go p e below s _ _ _ T106 (mkF m 147 #[.val (.int x0), .val (.int x1), .val (.int x2), .val (.int x3), .val (.int x4), .val (.int x5), .val (.ref a34), .val (.int ((x0 &&& (2147483647 : Int32)) % (6 : Int32))), .val (.int (fMin x1 x2)), .val (.int (fMax x1 x2)), .val (.int (fEnc (fSign (fMin x1 x2) x3) x4)), .val (.int (fEnc (fSign (fMax x1 x2) x3) x5)), .val (.int (1 : Int32)), .unset] [(.int ((x0 &&& (2147483647 : Int32)) % (6 : Int32))), (.ref a34)])
    by_cases hk729 : ((x0 &&& (2147483647 : Int32)) % (6 : Int32)) = (0 : Int32)
    · rw [if_pos hk729]
      rw [hk729]
      show Go p e below s _ _ _ T106 (mkF m 147 #[.val (.int x0), .val (.int x1), .val (.int x2), .val (.int x3), .val (.int x4), .val (.int x5), .val (.ref a34), .val (.int (0 : Int32)), .val (.int (fMin x1 x2)), .val (.int (fMax x1 x2)), .val (.int (fEnc (fSign (fMin x1 x2) x3) x4)), .val (.int (fEnc (fSign (fMax x1 x2) x3) x5)), .val (.int (1 : Int32)), .unset] [(.int (0 : Int32)), (.ref a34)])
      refine go_aald X106 hx hZ e106 A92 rfl (hb hby at_147) rfl rfl (by decide) (.ref o0) rfl ?_
      show Go p e below s _ _ _ T106 (mkF m 148 #[.val (.int x0), .val (.int x1), .val (.int x2), .val (.int x3), .val (.int x4), .val (.int x5), .val (.ref a34), .val (.int (0 : Int32)), .val (.int (fMin x1 x2)), .val (.int (fMax x1 x2)), .val (.int (fEnc (fSign (fMin x1 x2) x3) x4)), .val (.int (fEnc (fSign (fMax x1 x2) x3) x5)), .val (.int (1 : Int32)), .unset] [(.ref o0)])
      refine go_st (fun _ k => XS.iload X106.here hx rfl (hb hby at_148) rfl k) ?_
      show Go p e below s _ _ _ T106 (mkF m 150 #[.val (.int x0), .val (.int x1), .val (.int x2), .val (.int x3), .val (.int x4), .val (.int x5), .val (.ref a34), .val (.int (0 : Int32)), .val (.int (fMin x1 x2)), .val (.int (fMax x1 x2)), .val (.int (fEnc (fSign (fMin x1 x2) x3) x4)), .val (.int (fEnc (fSign (fMax x1 x2) x3) x5)), .val (.int (1 : Int32)), .unset] [(.int (fEnc (fSign (fMin x1 x2) x3) x4)), (.ref o0)])
      refine go_st (fun _ k => XS.iload X106.here hx rfl (hb hby at_150) rfl k) ?_
      show Go p e below s _ _ _ T106 (mkF m 152 #[.val (.int x0), .val (.int x1), .val (.int x2), .val (.int x3), .val (.int x4), .val (.int x5), .val (.ref a34), .val (.int (0 : Int32)), .val (.int (fMin x1 x2)), .val (.int (fMax x1 x2)), .val (.int (fEnc (fSign (fMin x1 x2) x3) x4)), .val (.int (fEnc (fSign (fMax x1 x2) x3) x5)), .val (.int (1 : Int32)), .unset] [(.int (fEnc (fSign (fMax x1 x2) x3) x5)), (.int (fEnc (fSign (fMin x1 x2) x3) x4)), (.ref o0)])
      have c731 := Exa.wr W43 c44
      have c732 := Exa.wr W48 c731
      have c733 := Exa.wr W56 c732
      have c734 := Exa.wr W66 c733
      have c735 := Exa.wr W78 c734
      have c736 := Exa.wr W92 c735
      have c737 := Fld.ext E34 F0
      have c738 := Fld.other W43 c737 (Or.inl ne35)
      have c739 := Fld.other W48 c738 (Or.inl ne35)
      have c740 := Fld.other W56 c739 (Or.inl ne35)
      have c741 := Fld.other W66 c740 (Or.inl ne35)
      have c742 := Fld.other W78 c741 (Or.inl ne35)
      have c743 := Fld.other W92 c742 (Or.inl ne35)
      have z744 : n0 ≤ h34.size := Nat.le_trans Z0 E34.1
      have z745 : n0 ≤ h43.size := (Wr.size W43).symm ▸ z744
      have z746 : n0 ≤ h48.size := (Wr.size W48).symm ▸ z745
      have z747 : n0 ≤ h56.size := (Wr.size W56).symm ▸ z746
      have z748 : n0 ≤ h66.size := (Wr.size W66).symm ▸ z747
      have z749 : n0 ≤ h78.size := (Wr.size W78).symm ▸ z748
      have z750 : n0 ≤ h92.size := (Wr.size W92).symm ▸ z749
      refine go_callV X106 hx hZ hml hown (hw _ (List.mem_of_getElem? (i := 34) rfl)) (hw _ (List.mem_of_getElem? (i := 35) rfl)) (notFace_of_selects (args := #[]) (mvT hZ (hw _ (List.mem_of_getElem? (i := 37) rfl)))) (hw _ (List.mem_of_getElem? (i := 37) rfl)) (hw _ (List.mem_of_getElem? (i := 36) rfl)) (hw _ (List.mem_of_getElem? (i := 38) rfl)) (hw _ (List.mem_of_getElem? (i := 3) rfl)) e106 c736 (argsL := [(.int (fEnc (fSign (fMin x1 x2) x3) x4)), (.int (fEnc (fSign (fMax x1 x2) x3) x5))]) (rest := []) (W := 0) (met_adm0 l Z a0 hw o0 (fEnc (fSign (fMin x1 x2) x3) x4) (fEnc (fSign (fMax x1 x2) x3) x5) h92 n0 z750 c736 c743) (hb hby at_152) rfl rfl rfl (lenOf pd3 rfl) (by show 2 * 0 + _ ≤ _; exact Nat.le_of_eq rfl) (by decide) (by decide) (by decide) (by decide) (by decide) ?_
      intro T730 v730 L730 X730 q730
      obtain ⟨rfl, M730, e730⟩ := q730
      have N730 := Fr.app N106 M730
      show Go p e below s _ _ _ T730 (mkF m 155 #[.val (.int x0), .val (.int x1), .val (.int x2), .val (.int x3), .val (.int x4), .val (.int x5), .val (.ref a34), .val (.int (0 : Int32)), .val (.int (fMin x1 x2)), .val (.int (fMax x1 x2)), .val (.int (fEnc (fSign (fMin x1 x2) x3) x4)), .val (.int (fEnc (fSign (fMax x1 x2) x3) x5)), .val (.int (1 : Int32)), .unset] [(.int (fAdm0 (fEnc (fSign (fMin x1 x2) x3) x4) (fEnc (fSign (fMax x1 x2) x3) x5)))])
      refine go_st (fun _ k => XS.istore X730.here hx rfl (hb hby at_155) rfl (l' := #[.val (.int x0), .val (.int x1), .val (.int x2), .val (.int x3), .val (.int x4), .val (.int x5), .val (.ref a34), .val (.int (0 : Int32)), .val (.int (fMin x1 x2)), .val (.int (fMax x1 x2)), .val (.int (fEnc (fSign (fMin x1 x2) x3) x4)), .val (.int (fEnc (fSign (fMax x1 x2) x3) x5)), .val (.int (1 : Int32)), .val (.int (fAdm0 (fEnc (fSign (fMin x1 x2) x3) x4) (fEnc (fSign (fMax x1 x2) x3) x5)))]) rfl k) ?_
      show Go p e below s _ _ _ T730 (mkF m 157 #[.val (.int x0), .val (.int x1), .val (.int x2), .val (.int x3), .val (.int x4), .val (.int x5), .val (.ref a34), .val (.int (0 : Int32)), .val (.int (fMin x1 x2)), .val (.int (fMax x1 x2)), .val (.int (fEnc (fSign (fMin x1 x2) x3) x4)), .val (.int (fEnc (fSign (fMax x1 x2) x3) x5)), .val (.int (1 : Int32)), .val (.int (fAdm0 (fEnc (fSign (fMin x1 x2) x3) x4) (fEnc (fSign (fMax x1 x2) x3) x5)))] [])
      refine go_st (fun _ k => XS.iload X730.here hx rfl (hb hby at_157) rfl k) ?_
      show Go p e below s _ _ _ T730 (mkF m 159 #[.val (.int x0), .val (.int x1), .val (.int x2), .val (.int x3), .val (.int x4), .val (.int x5), .val (.ref a34), .val (.int (0 : Int32)), .val (.int (fMin x1 x2)), .val (.int (fMax x1 x2)), .val (.int (fEnc (fSign (fMin x1 x2) x3) x4)), .val (.int (fEnc (fSign (fMax x1 x2) x3) x5)), .val (.int (1 : Int32)), .val (.int (fAdm0 (fEnc (fSign (fMin x1 x2) x3) x4) (fEnc (fSign (fMax x1 x2) x3) x5)))] [(.int (fAdm0 (fEnc (fSign (fMin x1 x2) x3) x4) (fEnc (fSign (fMax x1 x2) x3) x5)))])
      refine go_st (fun _ k => XS.iload X730.here hx rfl (hb hby at_159) rfl k) ?_
      show Go p e below s _ _ _ T730 (mkF m 161 #[.val (.int x0), .val (.int x1), .val (.int x2), .val (.int x3), .val (.int x4), .val (.int x5), .val (.ref a34), .val (.int (0 : Int32)), .val (.int (fMin x1 x2)), .val (.int (fMax x1 x2)), .val (.int (fEnc (fSign (fMin x1 x2) x3) x4)), .val (.int (fEnc (fSign (fMax x1 x2) x3) x5)), .val (.int (1 : Int32)), .val (.int (fAdm0 (fEnc (fSign (fMin x1 x2) x3) x4) (fEnc (fSign (fMax x1 x2) x3) x5)))] [(.int (1 : Int32)), (.int (fAdm0 (fEnc (fSign (fMin x1 x2) x3) x4) (fEnc (fSign (fMax x1 x2) x3) x5)))])
      by_cases hc751 : (fAdm0 (fEnc (fSign (fMin x1 x2) x3) x4) (fEnc (fSign (fMax x1 x2) x3) x5)) = (1 : Int32)
      · rw [if_pos hc751]
        refine go_st (fun _ k => XS.icmpNo X730.here hx rfl (hb hby at_161) rfl (XT.ii_ne_f hc751) k) ?_
        show Go p e below s _ _ _ T730 (mkF m 164 #[.val (.int x0), .val (.int x1), .val (.int x2), .val (.int x3), .val (.int x4), .val (.int x5), .val (.ref a34), .val (.int (0 : Int32)), .val (.int (fMin x1 x2)), .val (.int (fMax x1 x2)), .val (.int (fEnc (fSign (fMin x1 x2) x3) x4)), .val (.int (fEnc (fSign (fMax x1 x2) x3) x5)), .val (.int (1 : Int32)), .val (.int (fAdm0 (fEnc (fSign (fMin x1 x2) x3) x4) (fEnc (fSign (fMax x1 x2) x3) x5)))] [])
        refine go_st (fun _ k => XT.iconstV X730.here hx rfl (1 : Int32) (hb hby at_164) (by decide) k) ?_
        show Go p e below s _ _ _ T730 (mkF m 165 #[.val (.int x0), .val (.int x1), .val (.int x2), .val (.int x3), .val (.int x4), .val (.int x5), .val (.ref a34), .val (.int (0 : Int32)), .val (.int (fMin x1 x2)), .val (.int (fMax x1 x2)), .val (.int (fEnc (fSign (fMin x1 x2) x3) x4)), .val (.int (fEnc (fSign (fMax x1 x2) x3) x5)), .val (.int (1 : Int32)), .val (.int (fAdm0 (fEnc (fSign (fMin x1 x2) x3) x4) (fEnc (fSign (fMax x1 x2) x3) x5)))] [(.int (1 : Int32))])
        refine go_st (fun _ k => XS.goto X730.here hx rfl (pc0 := 165) (pc' := 169) rfl (hb hby at_165) (by decide) (by decide) k) ?_
        show Go p e below s _ _ _ T730 (mkF m 169 #[.val (.int x0), .val (.int x1), .val (.int x2), .val (.int x3), .val (.int x4), .val (.int x5), .val (.ref a34), .val (.int (0 : Int32)), .val (.int (fMin x1 x2)), .val (.int (fMax x1 x2)), .val (.int (fEnc (fSign (fMin x1 x2) x3) x4)), .val (.int (fEnc (fSign (fMax x1 x2) x3) x5)), .val (.int (1 : Int32)), .val (.int (fAdm0 (fEnc (fSign (fMin x1 x2) x3) x4) (fEnc (fSign (fMax x1 x2) x3) x5)))] [(.int (1 : Int32))])
        exact go_retB (w := (1 : Int32)) X730 hx hlk hret (hb hby at_169) (by decide) (by decide) (by decide) ⟨rfl, N730⟩
      · rw [if_neg hc751]
        refine go_st (fun _ k => XS.icmpYes X730.here hx rfl (pc0 := 161) (pc' := 168) rfl (hb hby at_161) rfl (XT.ii_ne_t hc751) (by decide) (by decide) k) ?_
        show Go p e below s _ _ _ T730 (mkF m 168 #[.val (.int x0), .val (.int x1), .val (.int x2), .val (.int x3), .val (.int x4), .val (.int x5), .val (.ref a34), .val (.int (0 : Int32)), .val (.int (fMin x1 x2)), .val (.int (fMax x1 x2)), .val (.int (fEnc (fSign (fMin x1 x2) x3) x4)), .val (.int (fEnc (fSign (fMax x1 x2) x3) x5)), .val (.int (1 : Int32)), .val (.int (fAdm0 (fEnc (fSign (fMin x1 x2) x3) x4) (fEnc (fSign (fMax x1 x2) x3) x5)))] [])
        refine go_st (fun _ k => XT.iconstV X730.here hx rfl (0 : Int32) (hb hby at_168) (by decide) k) ?_
        show Go p e below s _ _ _ T730 (mkF m 169 #[.val (.int x0), .val (.int x1), .val (.int x2), .val (.int x3), .val (.int x4), .val (.int x5), .val (.ref a34), .val (.int (0 : Int32)), .val (.int (fMin x1 x2)), .val (.int (fMax x1 x2)), .val (.int (fEnc (fSign (fMin x1 x2) x3) x4)), .val (.int (fEnc (fSign (fMax x1 x2) x3) x5)), .val (.int (1 : Int32)), .val (.int (fAdm0 (fEnc (fSign (fMin x1 x2) x3) x4) (fEnc (fSign (fMax x1 x2) x3) x5)))] [(.int (0 : Int32))])
        exact go_retB (w := (0 : Int32)) X730 hx hlk hret (hb hby at_169) (by decide) (by decide) (by decide) ⟨rfl, N730⟩
    · rw [if_neg hk729]
      by_cases hk752 : ((x0 &&& (2147483647 : Int32)) % (6 : Int32)) = (1 : Int32)
      · rw [if_pos hk752]
        rw [hk752]
        show Go p e below s _ _ _ T106 (mkF m 147 #[.val (.int x0), .val (.int x1), .val (.int x2), .val (.int x3), .val (.int x4), .val (.int x5), .val (.ref a34), .val (.int (1 : Int32)), .val (.int (fMin x1 x2)), .val (.int (fMax x1 x2)), .val (.int (fEnc (fSign (fMin x1 x2) x3) x4)), .val (.int (fEnc (fSign (fMax x1 x2) x3) x5)), .val (.int (1 : Int32)), .unset] [(.int (1 : Int32)), (.ref a34)])
        refine go_aald X106 hx hZ e106 A92 rfl (hb hby at_147) rfl rfl (by decide) (.ref o1) rfl ?_
        show Go p e below s _ _ _ T106 (mkF m 148 #[.val (.int x0), .val (.int x1), .val (.int x2), .val (.int x3), .val (.int x4), .val (.int x5), .val (.ref a34), .val (.int (1 : Int32)), .val (.int (fMin x1 x2)), .val (.int (fMax x1 x2)), .val (.int (fEnc (fSign (fMin x1 x2) x3) x4)), .val (.int (fEnc (fSign (fMax x1 x2) x3) x5)), .val (.int (1 : Int32)), .unset] [(.ref o1)])
        refine go_st (fun _ k => XS.iload X106.here hx rfl (hb hby at_148) rfl k) ?_
        show Go p e below s _ _ _ T106 (mkF m 150 #[.val (.int x0), .val (.int x1), .val (.int x2), .val (.int x3), .val (.int x4), .val (.int x5), .val (.ref a34), .val (.int (1 : Int32)), .val (.int (fMin x1 x2)), .val (.int (fMax x1 x2)), .val (.int (fEnc (fSign (fMin x1 x2) x3) x4)), .val (.int (fEnc (fSign (fMax x1 x2) x3) x5)), .val (.int (1 : Int32)), .unset] [(.int (fEnc (fSign (fMin x1 x2) x3) x4)), (.ref o1)])
        refine go_st (fun _ k => XS.iload X106.here hx rfl (hb hby at_150) rfl k) ?_
        show Go p e below s _ _ _ T106 (mkF m 152 #[.val (.int x0), .val (.int x1), .val (.int x2), .val (.int x3), .val (.int x4), .val (.int x5), .val (.ref a34), .val (.int (1 : Int32)), .val (.int (fMin x1 x2)), .val (.int (fMax x1 x2)), .val (.int (fEnc (fSign (fMin x1 x2) x3) x4)), .val (.int (fEnc (fSign (fMax x1 x2) x3) x5)), .val (.int (1 : Int32)), .unset] [(.int (fEnc (fSign (fMax x1 x2) x3) x5)), (.int (fEnc (fSign (fMin x1 x2) x3) x4)), (.ref o1)])
        have c754 := Exa.wr W48 c51
        have c755 := Exa.wr W56 c754
        have c756 := Exa.wr W66 c755
        have c757 := Exa.wr W78 c756
        have c758 := Exa.wr W92 c757
        have c759 := Fld.ext E34 F1
        have c760 := Fld.other W43 c759 (Or.inl ne36)
        have c761 := Fld.other W48 c760 (Or.inl ne36)
        have c762 := Fld.other W56 c761 (Or.inl ne36)
        have c763 := Fld.other W66 c762 (Or.inl ne36)
        have c764 := Fld.other W78 c763 (Or.inl ne36)
        have c765 := Fld.other W92 c764 (Or.inl ne36)
        have z766 : n0 ≤ h34.size := Nat.le_trans Z0 E34.1
        have z767 : n0 ≤ h43.size := (Wr.size W43).symm ▸ z766
        have z768 : n0 ≤ h48.size := (Wr.size W48).symm ▸ z767
        have z769 : n0 ≤ h56.size := (Wr.size W56).symm ▸ z768
        have z770 : n0 ≤ h66.size := (Wr.size W66).symm ▸ z769
        have z771 : n0 ≤ h78.size := (Wr.size W78).symm ▸ z770
        have z772 : n0 ≤ h92.size := (Wr.size W92).symm ▸ z771
        refine go_callV X106 hx hZ hml hown (hw _ (List.mem_of_getElem? (i := 34) rfl)) (hw _ (List.mem_of_getElem? (i := 35) rfl)) (notFace_of_selects (args := #[]) (mvT hZ (hw _ (List.mem_of_getElem? (i := 37) rfl)))) (hw _ (List.mem_of_getElem? (i := 37) rfl)) (hw _ (List.mem_of_getElem? (i := 36) rfl)) (hw _ (List.mem_of_getElem? (i := 38) rfl)) (hw _ (List.mem_of_getElem? (i := 3) rfl)) e106 c758 (argsL := [(.int (fEnc (fSign (fMin x1 x2) x3) x4)), (.int (fEnc (fSign (fMax x1 x2) x3) x5))]) (rest := []) (W := 0) (met_adm1 l Z a0 hw o1 (fEnc (fSign (fMin x1 x2) x3) x4) (fEnc (fSign (fMax x1 x2) x3) x5) h92 n0 z772 c758 c765) (hb hby at_152) rfl rfl rfl (lenOf pd3 rfl) (by show 2 * 0 + _ ≤ _; exact Nat.le_of_eq rfl) (by decide) (by decide) (by decide) (by decide) (by decide) ?_
        intro T753 v753 L753 X753 q753
        obtain ⟨rfl, M753, e753⟩ := q753
        have N753 := Fr.app N106 M753
        show Go p e below s _ _ _ T753 (mkF m 155 #[.val (.int x0), .val (.int x1), .val (.int x2), .val (.int x3), .val (.int x4), .val (.int x5), .val (.ref a34), .val (.int (1 : Int32)), .val (.int (fMin x1 x2)), .val (.int (fMax x1 x2)), .val (.int (fEnc (fSign (fMin x1 x2) x3) x4)), .val (.int (fEnc (fSign (fMax x1 x2) x3) x5)), .val (.int (1 : Int32)), .unset] [(.int (fAdm1 (fEnc (fSign (fMin x1 x2) x3) x4) (fEnc (fSign (fMax x1 x2) x3) x5)))])
        refine go_st (fun _ k => XS.istore X753.here hx rfl (hb hby at_155) rfl (l' := #[.val (.int x0), .val (.int x1), .val (.int x2), .val (.int x3), .val (.int x4), .val (.int x5), .val (.ref a34), .val (.int (1 : Int32)), .val (.int (fMin x1 x2)), .val (.int (fMax x1 x2)), .val (.int (fEnc (fSign (fMin x1 x2) x3) x4)), .val (.int (fEnc (fSign (fMax x1 x2) x3) x5)), .val (.int (1 : Int32)), .val (.int (fAdm1 (fEnc (fSign (fMin x1 x2) x3) x4) (fEnc (fSign (fMax x1 x2) x3) x5)))]) rfl k) ?_
        show Go p e below s _ _ _ T753 (mkF m 157 #[.val (.int x0), .val (.int x1), .val (.int x2), .val (.int x3), .val (.int x4), .val (.int x5), .val (.ref a34), .val (.int (1 : Int32)), .val (.int (fMin x1 x2)), .val (.int (fMax x1 x2)), .val (.int (fEnc (fSign (fMin x1 x2) x3) x4)), .val (.int (fEnc (fSign (fMax x1 x2) x3) x5)), .val (.int (1 : Int32)), .val (.int (fAdm1 (fEnc (fSign (fMin x1 x2) x3) x4) (fEnc (fSign (fMax x1 x2) x3) x5)))] [])
        refine go_st (fun _ k => XS.iload X753.here hx rfl (hb hby at_157) rfl k) ?_
        show Go p e below s _ _ _ T753 (mkF m 159 #[.val (.int x0), .val (.int x1), .val (.int x2), .val (.int x3), .val (.int x4), .val (.int x5), .val (.ref a34), .val (.int (1 : Int32)), .val (.int (fMin x1 x2)), .val (.int (fMax x1 x2)), .val (.int (fEnc (fSign (fMin x1 x2) x3) x4)), .val (.int (fEnc (fSign (fMax x1 x2) x3) x5)), .val (.int (1 : Int32)), .val (.int (fAdm1 (fEnc (fSign (fMin x1 x2) x3) x4) (fEnc (fSign (fMax x1 x2) x3) x5)))] [(.int (fAdm1 (fEnc (fSign (fMin x1 x2) x3) x4) (fEnc (fSign (fMax x1 x2) x3) x5)))])
        refine go_st (fun _ k => XS.iload X753.here hx rfl (hb hby at_159) rfl k) ?_
        show Go p e below s _ _ _ T753 (mkF m 161 #[.val (.int x0), .val (.int x1), .val (.int x2), .val (.int x3), .val (.int x4), .val (.int x5), .val (.ref a34), .val (.int (1 : Int32)), .val (.int (fMin x1 x2)), .val (.int (fMax x1 x2)), .val (.int (fEnc (fSign (fMin x1 x2) x3) x4)), .val (.int (fEnc (fSign (fMax x1 x2) x3) x5)), .val (.int (1 : Int32)), .val (.int (fAdm1 (fEnc (fSign (fMin x1 x2) x3) x4) (fEnc (fSign (fMax x1 x2) x3) x5)))] [(.int (1 : Int32)), (.int (fAdm1 (fEnc (fSign (fMin x1 x2) x3) x4) (fEnc (fSign (fMax x1 x2) x3) x5)))])
        by_cases hc773 : (fAdm1 (fEnc (fSign (fMin x1 x2) x3) x4) (fEnc (fSign (fMax x1 x2) x3) x5)) = (1 : Int32)
        · rw [if_pos hc773]
          refine go_st (fun _ k => XS.icmpNo X753.here hx rfl (hb hby at_161) rfl (XT.ii_ne_f hc773) k) ?_
          show Go p e below s _ _ _ T753 (mkF m 164 #[.val (.int x0), .val (.int x1), .val (.int x2), .val (.int x3), .val (.int x4), .val (.int x5), .val (.ref a34), .val (.int (1 : Int32)), .val (.int (fMin x1 x2)), .val (.int (fMax x1 x2)), .val (.int (fEnc (fSign (fMin x1 x2) x3) x4)), .val (.int (fEnc (fSign (fMax x1 x2) x3) x5)), .val (.int (1 : Int32)), .val (.int (fAdm1 (fEnc (fSign (fMin x1 x2) x3) x4) (fEnc (fSign (fMax x1 x2) x3) x5)))] [])
          refine go_st (fun _ k => XT.iconstV X753.here hx rfl (1 : Int32) (hb hby at_164) (by decide) k) ?_
          show Go p e below s _ _ _ T753 (mkF m 165 #[.val (.int x0), .val (.int x1), .val (.int x2), .val (.int x3), .val (.int x4), .val (.int x5), .val (.ref a34), .val (.int (1 : Int32)), .val (.int (fMin x1 x2)), .val (.int (fMax x1 x2)), .val (.int (fEnc (fSign (fMin x1 x2) x3) x4)), .val (.int (fEnc (fSign (fMax x1 x2) x3) x5)), .val (.int (1 : Int32)), .val (.int (fAdm1 (fEnc (fSign (fMin x1 x2) x3) x4) (fEnc (fSign (fMax x1 x2) x3) x5)))] [(.int (1 : Int32))])
          refine go_st (fun _ k => XS.goto X753.here hx rfl (pc0 := 165) (pc' := 169) rfl (hb hby at_165) (by decide) (by decide) k) ?_
          show Go p e below s _ _ _ T753 (mkF m 169 #[.val (.int x0), .val (.int x1), .val (.int x2), .val (.int x3), .val (.int x4), .val (.int x5), .val (.ref a34), .val (.int (1 : Int32)), .val (.int (fMin x1 x2)), .val (.int (fMax x1 x2)), .val (.int (fEnc (fSign (fMin x1 x2) x3) x4)), .val (.int (fEnc (fSign (fMax x1 x2) x3) x5)), .val (.int (1 : Int32)), .val (.int (fAdm1 (fEnc (fSign (fMin x1 x2) x3) x4) (fEnc (fSign (fMax x1 x2) x3) x5)))] [(.int (1 : Int32))])
          exact go_retB (w := (1 : Int32)) X753 hx hlk hret (hb hby at_169) (by decide) (by decide) (by decide) ⟨rfl, N753⟩
        · rw [if_neg hc773]
          refine go_st (fun _ k => XS.icmpYes X753.here hx rfl (pc0 := 161) (pc' := 168) rfl (hb hby at_161) rfl (XT.ii_ne_t hc773) (by decide) (by decide) k) ?_
          show Go p e below s _ _ _ T753 (mkF m 168 #[.val (.int x0), .val (.int x1), .val (.int x2), .val (.int x3), .val (.int x4), .val (.int x5), .val (.ref a34), .val (.int (1 : Int32)), .val (.int (fMin x1 x2)), .val (.int (fMax x1 x2)), .val (.int (fEnc (fSign (fMin x1 x2) x3) x4)), .val (.int (fEnc (fSign (fMax x1 x2) x3) x5)), .val (.int (1 : Int32)), .val (.int (fAdm1 (fEnc (fSign (fMin x1 x2) x3) x4) (fEnc (fSign (fMax x1 x2) x3) x5)))] [])
          refine go_st (fun _ k => XT.iconstV X753.here hx rfl (0 : Int32) (hb hby at_168) (by decide) k) ?_
          show Go p e below s _ _ _ T753 (mkF m 169 #[.val (.int x0), .val (.int x1), .val (.int x2), .val (.int x3), .val (.int x4), .val (.int x5), .val (.ref a34), .val (.int (1 : Int32)), .val (.int (fMin x1 x2)), .val (.int (fMax x1 x2)), .val (.int (fEnc (fSign (fMin x1 x2) x3) x4)), .val (.int (fEnc (fSign (fMax x1 x2) x3) x5)), .val (.int (1 : Int32)), .val (.int (fAdm1 (fEnc (fSign (fMin x1 x2) x3) x4) (fEnc (fSign (fMax x1 x2) x3) x5)))] [(.int (0 : Int32))])
          exact go_retB (w := (0 : Int32)) X753 hx hlk hret (hb hby at_169) (by decide) (by decide) (by decide) ⟨rfl, N753⟩
      · rw [if_neg hk752]
        by_cases hk774 : ((x0 &&& (2147483647 : Int32)) % (6 : Int32)) = (2 : Int32)
        · rw [if_pos hk774]
          rw [hk774]
          show Go p e below s _ _ _ T106 (mkF m 147 #[.val (.int x0), .val (.int x1), .val (.int x2), .val (.int x3), .val (.int x4), .val (.int x5), .val (.ref a34), .val (.int (2 : Int32)), .val (.int (fMin x1 x2)), .val (.int (fMax x1 x2)), .val (.int (fEnc (fSign (fMin x1 x2) x3) x4)), .val (.int (fEnc (fSign (fMax x1 x2) x3) x5)), .val (.int (1 : Int32)), .unset] [(.int (2 : Int32)), (.ref a34)])
          refine go_aald X106 hx hZ e106 A92 rfl (hb hby at_147) rfl rfl (by decide) (.ref o2) rfl ?_
          show Go p e below s _ _ _ T106 (mkF m 148 #[.val (.int x0), .val (.int x1), .val (.int x2), .val (.int x3), .val (.int x4), .val (.int x5), .val (.ref a34), .val (.int (2 : Int32)), .val (.int (fMin x1 x2)), .val (.int (fMax x1 x2)), .val (.int (fEnc (fSign (fMin x1 x2) x3) x4)), .val (.int (fEnc (fSign (fMax x1 x2) x3) x5)), .val (.int (1 : Int32)), .unset] [(.ref o2)])
          refine go_st (fun _ k => XS.iload X106.here hx rfl (hb hby at_148) rfl k) ?_
          show Go p e below s _ _ _ T106 (mkF m 150 #[.val (.int x0), .val (.int x1), .val (.int x2), .val (.int x3), .val (.int x4), .val (.int x5), .val (.ref a34), .val (.int (2 : Int32)), .val (.int (fMin x1 x2)), .val (.int (fMax x1 x2)), .val (.int (fEnc (fSign (fMin x1 x2) x3) x4)), .val (.int (fEnc (fSign (fMax x1 x2) x3) x5)), .val (.int (1 : Int32)), .unset] [(.int (fEnc (fSign (fMin x1 x2) x3) x4)), (.ref o2)])
          refine go_st (fun _ k => XS.iload X106.here hx rfl (hb hby at_150) rfl k) ?_
          show Go p e below s _ _ _ T106 (mkF m 152 #[.val (.int x0), .val (.int x1), .val (.int x2), .val (.int x3), .val (.int x4), .val (.int x5), .val (.ref a34), .val (.int (2 : Int32)), .val (.int (fMin x1 x2)), .val (.int (fMax x1 x2)), .val (.int (fEnc (fSign (fMin x1 x2) x3) x4)), .val (.int (fEnc (fSign (fMax x1 x2) x3) x5)), .val (.int (1 : Int32)), .unset] [(.int (fEnc (fSign (fMax x1 x2) x3) x5)), (.int (fEnc (fSign (fMin x1 x2) x3) x4)), (.ref o2)])
          have c776 := Exa.wr W56 c60
          have c777 := Exa.wr W66 c776
          have c778 := Exa.wr W78 c777
          have c779 := Exa.wr W92 c778
          have c780 := Fld.ext E34 F2
          have c781 := Fld.other W43 c780 (Or.inl ne37)
          have c782 := Fld.other W48 c781 (Or.inl ne37)
          have c783 := Fld.other W56 c782 (Or.inl ne37)
          have c784 := Fld.other W66 c783 (Or.inl ne37)
          have c785 := Fld.other W78 c784 (Or.inl ne37)
          have c786 := Fld.other W92 c785 (Or.inl ne37)
          have z787 : n0 ≤ h34.size := Nat.le_trans Z0 E34.1
          have z788 : n0 ≤ h43.size := (Wr.size W43).symm ▸ z787
          have z789 : n0 ≤ h48.size := (Wr.size W48).symm ▸ z788
          have z790 : n0 ≤ h56.size := (Wr.size W56).symm ▸ z789
          have z791 : n0 ≤ h66.size := (Wr.size W66).symm ▸ z790
          have z792 : n0 ≤ h78.size := (Wr.size W78).symm ▸ z791
          have z793 : n0 ≤ h92.size := (Wr.size W92).symm ▸ z792
          refine go_callV X106 hx hZ hml hown (hw _ (List.mem_of_getElem? (i := 34) rfl)) (hw _ (List.mem_of_getElem? (i := 35) rfl)) (notFace_of_selects (args := #[]) (mvT hZ (hw _ (List.mem_of_getElem? (i := 37) rfl)))) (hw _ (List.mem_of_getElem? (i := 37) rfl)) (hw _ (List.mem_of_getElem? (i := 36) rfl)) (hw _ (List.mem_of_getElem? (i := 38) rfl)) (hw _ (List.mem_of_getElem? (i := 3) rfl)) e106 c779 (argsL := [(.int (fEnc (fSign (fMin x1 x2) x3) x4)), (.int (fEnc (fSign (fMax x1 x2) x3) x5))]) (rest := []) (W := 0) (met_adm2 l Z a0 hw o2 (fEnc (fSign (fMin x1 x2) x3) x4) (fEnc (fSign (fMax x1 x2) x3) x5) h92 n0 z793 c779 c786) (hb hby at_152) rfl rfl rfl (lenOf pd3 rfl) (by show 2 * 0 + _ ≤ _; exact Nat.le_of_eq rfl) (by decide) (by decide) (by decide) (by decide) (by decide) ?_
          intro T775 v775 L775 X775 q775
          obtain ⟨rfl, M775, e775⟩ := q775
          have N775 := Fr.app N106 M775
          show Go p e below s _ _ _ T775 (mkF m 155 #[.val (.int x0), .val (.int x1), .val (.int x2), .val (.int x3), .val (.int x4), .val (.int x5), .val (.ref a34), .val (.int (2 : Int32)), .val (.int (fMin x1 x2)), .val (.int (fMax x1 x2)), .val (.int (fEnc (fSign (fMin x1 x2) x3) x4)), .val (.int (fEnc (fSign (fMax x1 x2) x3) x5)), .val (.int (1 : Int32)), .unset] [(.int (fAdm2 (fEnc (fSign (fMin x1 x2) x3) x4) (fEnc (fSign (fMax x1 x2) x3) x5)))])
          refine go_st (fun _ k => XS.istore X775.here hx rfl (hb hby at_155) rfl (l' := #[.val (.int x0), .val (.int x1), .val (.int x2), .val (.int x3), .val (.int x4), .val (.int x5), .val (.ref a34), .val (.int (2 : Int32)), .val (.int (fMin x1 x2)), .val (.int (fMax x1 x2)), .val (.int (fEnc (fSign (fMin x1 x2) x3) x4)), .val (.int (fEnc (fSign (fMax x1 x2) x3) x5)), .val (.int (1 : Int32)), .val (.int (fAdm2 (fEnc (fSign (fMin x1 x2) x3) x4) (fEnc (fSign (fMax x1 x2) x3) x5)))]) rfl k) ?_
          show Go p e below s _ _ _ T775 (mkF m 157 #[.val (.int x0), .val (.int x1), .val (.int x2), .val (.int x3), .val (.int x4), .val (.int x5), .val (.ref a34), .val (.int (2 : Int32)), .val (.int (fMin x1 x2)), .val (.int (fMax x1 x2)), .val (.int (fEnc (fSign (fMin x1 x2) x3) x4)), .val (.int (fEnc (fSign (fMax x1 x2) x3) x5)), .val (.int (1 : Int32)), .val (.int (fAdm2 (fEnc (fSign (fMin x1 x2) x3) x4) (fEnc (fSign (fMax x1 x2) x3) x5)))] [])
          refine go_st (fun _ k => XS.iload X775.here hx rfl (hb hby at_157) rfl k) ?_
          show Go p e below s _ _ _ T775 (mkF m 159 #[.val (.int x0), .val (.int x1), .val (.int x2), .val (.int x3), .val (.int x4), .val (.int x5), .val (.ref a34), .val (.int (2 : Int32)), .val (.int (fMin x1 x2)), .val (.int (fMax x1 x2)), .val (.int (fEnc (fSign (fMin x1 x2) x3) x4)), .val (.int (fEnc (fSign (fMax x1 x2) x3) x5)), .val (.int (1 : Int32)), .val (.int (fAdm2 (fEnc (fSign (fMin x1 x2) x3) x4) (fEnc (fSign (fMax x1 x2) x3) x5)))] [(.int (fAdm2 (fEnc (fSign (fMin x1 x2) x3) x4) (fEnc (fSign (fMax x1 x2) x3) x5)))])
          refine go_st (fun _ k => XS.iload X775.here hx rfl (hb hby at_159) rfl k) ?_
          show Go p e below s _ _ _ T775 (mkF m 161 #[.val (.int x0), .val (.int x1), .val (.int x2), .val (.int x3), .val (.int x4), .val (.int x5), .val (.ref a34), .val (.int (2 : Int32)), .val (.int (fMin x1 x2)), .val (.int (fMax x1 x2)), .val (.int (fEnc (fSign (fMin x1 x2) x3) x4)), .val (.int (fEnc (fSign (fMax x1 x2) x3) x5)), .val (.int (1 : Int32)), .val (.int (fAdm2 (fEnc (fSign (fMin x1 x2) x3) x4) (fEnc (fSign (fMax x1 x2) x3) x5)))] [(.int (1 : Int32)), (.int (fAdm2 (fEnc (fSign (fMin x1 x2) x3) x4) (fEnc (fSign (fMax x1 x2) x3) x5)))])
          by_cases hc794 : (fAdm2 (fEnc (fSign (fMin x1 x2) x3) x4) (fEnc (fSign (fMax x1 x2) x3) x5)) = (1 : Int32)
          · rw [if_pos hc794]
            refine go_st (fun _ k => XS.icmpNo X775.here hx rfl (hb hby at_161) rfl (XT.ii_ne_f hc794) k) ?_
            show Go p e below s _ _ _ T775 (mkF m 164 #[.val (.int x0), .val (.int x1), .val (.int x2), .val (.int x3), .val (.int x4), .val (.int x5), .val (.ref a34), .val (.int (2 : Int32)), .val (.int (fMin x1 x2)), .val (.int (fMax x1 x2)), .val (.int (fEnc (fSign (fMin x1 x2) x3) x4)), .val (.int (fEnc (fSign (fMax x1 x2) x3) x5)), .val (.int (1 : Int32)), .val (.int (fAdm2 (fEnc (fSign (fMin x1 x2) x3) x4) (fEnc (fSign (fMax x1 x2) x3) x5)))] [])
            refine go_st (fun _ k => XT.iconstV X775.here hx rfl (1 : Int32) (hb hby at_164) (by decide) k) ?_
            show Go p e below s _ _ _ T775 (mkF m 165 #[.val (.int x0), .val (.int x1), .val (.int x2), .val (.int x3), .val (.int x4), .val (.int x5), .val (.ref a34), .val (.int (2 : Int32)), .val (.int (fMin x1 x2)), .val (.int (fMax x1 x2)), .val (.int (fEnc (fSign (fMin x1 x2) x3) x4)), .val (.int (fEnc (fSign (fMax x1 x2) x3) x5)), .val (.int (1 : Int32)), .val (.int (fAdm2 (fEnc (fSign (fMin x1 x2) x3) x4) (fEnc (fSign (fMax x1 x2) x3) x5)))] [(.int (1 : Int32))])
            refine go_st (fun _ k => XS.goto X775.here hx rfl (pc0 := 165) (pc' := 169) rfl (hb hby at_165) (by decide) (by decide) k) ?_
            show Go p e below s _ _ _ T775 (mkF m 169 #[.val (.int x0), .val (.int x1), .val (.int x2), .val (.int x3), .val (.int x4), .val (.int x5), .val (.ref a34), .val (.int (2 : Int32)), .val (.int (fMin x1 x2)), .val (.int (fMax x1 x2)), .val (.int (fEnc (fSign (fMin x1 x2) x3) x4)), .val (.int (fEnc (fSign (fMax x1 x2) x3) x5)), .val (.int (1 : Int32)), .val (.int (fAdm2 (fEnc (fSign (fMin x1 x2) x3) x4) (fEnc (fSign (fMax x1 x2) x3) x5)))] [(.int (1 : Int32))])
            exact go_retB (w := (1 : Int32)) X775 hx hlk hret (hb hby at_169) (by decide) (by decide) (by decide) ⟨rfl, N775⟩
          · rw [if_neg hc794]
            refine go_st (fun _ k => XS.icmpYes X775.here hx rfl (pc0 := 161) (pc' := 168) rfl (hb hby at_161) rfl (XT.ii_ne_t hc794) (by decide) (by decide) k) ?_
            show Go p e below s _ _ _ T775 (mkF m 168 #[.val (.int x0), .val (.int x1), .val (.int x2), .val (.int x3), .val (.int x4), .val (.int x5), .val (.ref a34), .val (.int (2 : Int32)), .val (.int (fMin x1 x2)), .val (.int (fMax x1 x2)), .val (.int (fEnc (fSign (fMin x1 x2) x3) x4)), .val (.int (fEnc (fSign (fMax x1 x2) x3) x5)), .val (.int (1 : Int32)), .val (.int (fAdm2 (fEnc (fSign (fMin x1 x2) x3) x4) (fEnc (fSign (fMax x1 x2) x3) x5)))] [])
            refine go_st (fun _ k => XT.iconstV X775.here hx rfl (0 : Int32) (hb hby at_168) (by decide) k) ?_
            show Go p e below s _ _ _ T775 (mkF m 169 #[.val (.int x0), .val (.int x1), .val (.int x2), .val (.int x3), .val (.int x4), .val (.int x5), .val (.ref a34), .val (.int (2 : Int32)), .val (.int (fMin x1 x2)), .val (.int (fMax x1 x2)), .val (.int (fEnc (fSign (fMin x1 x2) x3) x4)), .val (.int (fEnc (fSign (fMax x1 x2) x3) x5)), .val (.int (1 : Int32)), .val (.int (fAdm2 (fEnc (fSign (fMin x1 x2) x3) x4) (fEnc (fSign (fMax x1 x2) x3) x5)))] [(.int (0 : Int32))])
            exact go_retB (w := (0 : Int32)) X775 hx hlk hret (hb hby at_169) (by decide) (by decide) (by decide) ⟨rfl, N775⟩
        · rw [if_neg hk774]
          by_cases hk795 : ((x0 &&& (2147483647 : Int32)) % (6 : Int32)) = (3 : Int32)
          · rw [if_pos hk795]
            rw [hk795]
            show Go p e below s _ _ _ T106 (mkF m 147 #[.val (.int x0), .val (.int x1), .val (.int x2), .val (.int x3), .val (.int x4), .val (.int x5), .val (.ref a34), .val (.int (3 : Int32)), .val (.int (fMin x1 x2)), .val (.int (fMax x1 x2)), .val (.int (fEnc (fSign (fMin x1 x2) x3) x4)), .val (.int (fEnc (fSign (fMax x1 x2) x3) x5)), .val (.int (1 : Int32)), .unset] [(.int (3 : Int32)), (.ref a34)])
            refine go_aald X106 hx hZ e106 A92 rfl (hb hby at_147) rfl rfl (by decide) (.ref o3) rfl ?_
            show Go p e below s _ _ _ T106 (mkF m 148 #[.val (.int x0), .val (.int x1), .val (.int x2), .val (.int x3), .val (.int x4), .val (.int x5), .val (.ref a34), .val (.int (3 : Int32)), .val (.int (fMin x1 x2)), .val (.int (fMax x1 x2)), .val (.int (fEnc (fSign (fMin x1 x2) x3) x4)), .val (.int (fEnc (fSign (fMax x1 x2) x3) x5)), .val (.int (1 : Int32)), .unset] [(.ref o3)])
            refine go_st (fun _ k => XS.iload X106.here hx rfl (hb hby at_148) rfl k) ?_
            show Go p e below s _ _ _ T106 (mkF m 150 #[.val (.int x0), .val (.int x1), .val (.int x2), .val (.int x3), .val (.int x4), .val (.int x5), .val (.ref a34), .val (.int (3 : Int32)), .val (.int (fMin x1 x2)), .val (.int (fMax x1 x2)), .val (.int (fEnc (fSign (fMin x1 x2) x3) x4)), .val (.int (fEnc (fSign (fMax x1 x2) x3) x5)), .val (.int (1 : Int32)), .unset] [(.int (fEnc (fSign (fMin x1 x2) x3) x4)), (.ref o3)])
            refine go_st (fun _ k => XS.iload X106.here hx rfl (hb hby at_150) rfl k) ?_
            show Go p e below s _ _ _ T106 (mkF m 152 #[.val (.int x0), .val (.int x1), .val (.int x2), .val (.int x3), .val (.int x4), .val (.int x5), .val (.ref a34), .val (.int (3 : Int32)), .val (.int (fMin x1 x2)), .val (.int (fMax x1 x2)), .val (.int (fEnc (fSign (fMin x1 x2) x3) x4)), .val (.int (fEnc (fSign (fMax x1 x2) x3) x5)), .val (.int (1 : Int32)), .unset] [(.int (fEnc (fSign (fMax x1 x2) x3) x5)), (.int (fEnc (fSign (fMin x1 x2) x3) x4)), (.ref o3)])
            have c797 := Exa.wr W66 c71
            have c798 := Exa.wr W78 c797
            have c799 := Exa.wr W92 c798
            have c800 := Fld.ext E34 F3
            have c801 := Fld.other W43 c800 (Or.inl ne38)
            have c802 := Fld.other W48 c801 (Or.inl ne38)
            have c803 := Fld.other W56 c802 (Or.inl ne38)
            have c804 := Fld.other W66 c803 (Or.inl ne38)
            have c805 := Fld.other W78 c804 (Or.inl ne38)
            have c806 := Fld.other W92 c805 (Or.inl ne38)
            have z807 : n0 ≤ h34.size := Nat.le_trans Z0 E34.1
            have z808 : n0 ≤ h43.size := (Wr.size W43).symm ▸ z807
            have z809 : n0 ≤ h48.size := (Wr.size W48).symm ▸ z808
            have z810 : n0 ≤ h56.size := (Wr.size W56).symm ▸ z809
            have z811 : n0 ≤ h66.size := (Wr.size W66).symm ▸ z810
            have z812 : n0 ≤ h78.size := (Wr.size W78).symm ▸ z811
            have z813 : n0 ≤ h92.size := (Wr.size W92).symm ▸ z812
            refine go_callV X106 hx hZ hml hown (hw _ (List.mem_of_getElem? (i := 34) rfl)) (hw _ (List.mem_of_getElem? (i := 35) rfl)) (notFace_of_selects (args := #[]) (mvT hZ (hw _ (List.mem_of_getElem? (i := 37) rfl)))) (hw _ (List.mem_of_getElem? (i := 37) rfl)) (hw _ (List.mem_of_getElem? (i := 36) rfl)) (hw _ (List.mem_of_getElem? (i := 38) rfl)) (hw _ (List.mem_of_getElem? (i := 3) rfl)) e106 c799 (argsL := [(.int (fEnc (fSign (fMin x1 x2) x3) x4)), (.int (fEnc (fSign (fMax x1 x2) x3) x5))]) (rest := []) (W := 0) (met_adm3 l Z a0 hw o3 (fEnc (fSign (fMin x1 x2) x3) x4) (fEnc (fSign (fMax x1 x2) x3) x5) h92 n0 z813 c799 c806) (hb hby at_152) rfl rfl rfl (lenOf pd3 rfl) (by show 2 * 0 + _ ≤ _; exact Nat.le_of_eq rfl) (by decide) (by decide) (by decide) (by decide) (by decide) ?_
            intro T796 v796 L796 X796 q796
            obtain ⟨rfl, M796, e796⟩ := q796
            have N796 := Fr.app N106 M796
            show Go p e below s _ _ _ T796 (mkF m 155 #[.val (.int x0), .val (.int x1), .val (.int x2), .val (.int x3), .val (.int x4), .val (.int x5), .val (.ref a34), .val (.int (3 : Int32)), .val (.int (fMin x1 x2)), .val (.int (fMax x1 x2)), .val (.int (fEnc (fSign (fMin x1 x2) x3) x4)), .val (.int (fEnc (fSign (fMax x1 x2) x3) x5)), .val (.int (1 : Int32)), .unset] [(.int (fAdm3 (fEnc (fSign (fMin x1 x2) x3) x4) (fEnc (fSign (fMax x1 x2) x3) x5)))])
            refine go_st (fun _ k => XS.istore X796.here hx rfl (hb hby at_155) rfl (l' := #[.val (.int x0), .val (.int x1), .val (.int x2), .val (.int x3), .val (.int x4), .val (.int x5), .val (.ref a34), .val (.int (3 : Int32)), .val (.int (fMin x1 x2)), .val (.int (fMax x1 x2)), .val (.int (fEnc (fSign (fMin x1 x2) x3) x4)), .val (.int (fEnc (fSign (fMax x1 x2) x3) x5)), .val (.int (1 : Int32)), .val (.int (fAdm3 (fEnc (fSign (fMin x1 x2) x3) x4) (fEnc (fSign (fMax x1 x2) x3) x5)))]) rfl k) ?_
            show Go p e below s _ _ _ T796 (mkF m 157 #[.val (.int x0), .val (.int x1), .val (.int x2), .val (.int x3), .val (.int x4), .val (.int x5), .val (.ref a34), .val (.int (3 : Int32)), .val (.int (fMin x1 x2)), .val (.int (fMax x1 x2)), .val (.int (fEnc (fSign (fMin x1 x2) x3) x4)), .val (.int (fEnc (fSign (fMax x1 x2) x3) x5)), .val (.int (1 : Int32)), .val (.int (fAdm3 (fEnc (fSign (fMin x1 x2) x3) x4) (fEnc (fSign (fMax x1 x2) x3) x5)))] [])
            refine go_st (fun _ k => XS.iload X796.here hx rfl (hb hby at_157) rfl k) ?_
            show Go p e below s _ _ _ T796 (mkF m 159 #[.val (.int x0), .val (.int x1), .val (.int x2), .val (.int x3), .val (.int x4), .val (.int x5), .val (.ref a34), .val (.int (3 : Int32)), .val (.int (fMin x1 x2)), .val (.int (fMax x1 x2)), .val (.int (fEnc (fSign (fMin x1 x2) x3) x4)), .val (.int (fEnc (fSign (fMax x1 x2) x3) x5)), .val (.int (1 : Int32)), .val (.int (fAdm3 (fEnc (fSign (fMin x1 x2) x3) x4) (fEnc (fSign (fMax x1 x2) x3) x5)))] [(.int (fAdm3 (fEnc (fSign (fMin x1 x2) x3) x4) (fEnc (fSign (fMax x1 x2) x3) x5)))])
            refine go_st (fun _ k => XS.iload X796.here hx rfl (hb hby at_159) rfl k) ?_
            show Go p e below s _ _ _ T796 (mkF m 161 #[.val (.int x0), .val (.int x1), .val (.int x2), .val (.int x3), .val (.int x4), .val (.int x5), .val (.ref a34), .val (.int (3 : Int32)), .val (.int (fMin x1 x2)), .val (.int (fMax x1 x2)), .val (.int (fEnc (fSign (fMin x1 x2) x3) x4)), .val (.int (fEnc (fSign (fMax x1 x2) x3) x5)), .val (.int (1 : Int32)), .val (.int (fAdm3 (fEnc (fSign (fMin x1 x2) x3) x4) (fEnc (fSign (fMax x1 x2) x3) x5)))] [(.int (1 : Int32)), (.int (fAdm3 (fEnc (fSign (fMin x1 x2) x3) x4) (fEnc (fSign (fMax x1 x2) x3) x5)))])
            by_cases hc814 : (fAdm3 (fEnc (fSign (fMin x1 x2) x3) x4) (fEnc (fSign (fMax x1 x2) x3) x5)) = (1 : Int32)
            · rw [if_pos hc814]
              refine go_st (fun _ k => XS.icmpNo X796.here hx rfl (hb hby at_161) rfl (XT.ii_ne_f hc814) k) ?_
              show Go p e below s _ _ _ T796 (mkF m 164 #[.val (.int x0), .val (.int x1), .val (.int x2), .val (.int x3), .val (.int x4), .val (.int x5), .val (.ref a34), .val (.int (3 : Int32)), .val (.int (fMin x1 x2)), .val (.int (fMax x1 x2)), .val (.int (fEnc (fSign (fMin x1 x2) x3) x4)), .val (.int (fEnc (fSign (fMax x1 x2) x3) x5)), .val (.int (1 : Int32)), .val (.int (fAdm3 (fEnc (fSign (fMin x1 x2) x3) x4) (fEnc (fSign (fMax x1 x2) x3) x5)))] [])
              refine go_st (fun _ k => XT.iconstV X796.here hx rfl (1 : Int32) (hb hby at_164) (by decide) k) ?_
              show Go p e below s _ _ _ T796 (mkF m 165 #[.val (.int x0), .val (.int x1), .val (.int x2), .val (.int x3), .val (.int x4), .val (.int x5), .val (.ref a34), .val (.int (3 : Int32)), .val (.int (fMin x1 x2)), .val (.int (fMax x1 x2)), .val (.int (fEnc (fSign (fMin x1 x2) x3) x4)), .val (.int (fEnc (fSign (fMax x1 x2) x3) x5)), .val (.int (1 : Int32)), .val (.int (fAdm3 (fEnc (fSign (fMin x1 x2) x3) x4) (fEnc (fSign (fMax x1 x2) x3) x5)))] [(.int (1 : Int32))])
              refine go_st (fun _ k => XS.goto X796.here hx rfl (pc0 := 165) (pc' := 169) rfl (hb hby at_165) (by decide) (by decide) k) ?_
              show Go p e below s _ _ _ T796 (mkF m 169 #[.val (.int x0), .val (.int x1), .val (.int x2), .val (.int x3), .val (.int x4), .val (.int x5), .val (.ref a34), .val (.int (3 : Int32)), .val (.int (fMin x1 x2)), .val (.int (fMax x1 x2)), .val (.int (fEnc (fSign (fMin x1 x2) x3) x4)), .val (.int (fEnc (fSign (fMax x1 x2) x3) x5)), .val (.int (1 : Int32)), .val (.int (fAdm3 (fEnc (fSign (fMin x1 x2) x3) x4) (fEnc (fSign (fMax x1 x2) x3) x5)))] [(.int (1 : Int32))])
              exact go_retB (w := (1 : Int32)) X796 hx hlk hret (hb hby at_169) (by decide) (by decide) (by decide) ⟨rfl, N796⟩
            · rw [if_neg hc814]
              refine go_st (fun _ k => XS.icmpYes X796.here hx rfl (pc0 := 161) (pc' := 168) rfl (hb hby at_161) rfl (XT.ii_ne_t hc814) (by decide) (by decide) k) ?_
              show Go p e below s _ _ _ T796 (mkF m 168 #[.val (.int x0), .val (.int x1), .val (.int x2), .val (.int x3), .val (.int x4), .val (.int x5), .val (.ref a34), .val (.int (3 : Int32)), .val (.int (fMin x1 x2)), .val (.int (fMax x1 x2)), .val (.int (fEnc (fSign (fMin x1 x2) x3) x4)), .val (.int (fEnc (fSign (fMax x1 x2) x3) x5)), .val (.int (1 : Int32)), .val (.int (fAdm3 (fEnc (fSign (fMin x1 x2) x3) x4) (fEnc (fSign (fMax x1 x2) x3) x5)))] [])
              refine go_st (fun _ k => XT.iconstV X796.here hx rfl (0 : Int32) (hb hby at_168) (by decide) k) ?_
              show Go p e below s _ _ _ T796 (mkF m 169 #[.val (.int x0), .val (.int x1), .val (.int x2), .val (.int x3), .val (.int x4), .val (.int x5), .val (.ref a34), .val (.int (3 : Int32)), .val (.int (fMin x1 x2)), .val (.int (fMax x1 x2)), .val (.int (fEnc (fSign (fMin x1 x2) x3) x4)), .val (.int (fEnc (fSign (fMax x1 x2) x3) x5)), .val (.int (1 : Int32)), .val (.int (fAdm3 (fEnc (fSign (fMin x1 x2) x3) x4) (fEnc (fSign (fMax x1 x2) x3) x5)))] [(.int (0 : Int32))])
              exact go_retB (w := (0 : Int32)) X796 hx hlk hret (hb hby at_169) (by decide) (by decide) (by decide) ⟨rfl, N796⟩
          · rw [if_neg hk795]
            by_cases hk815 : ((x0 &&& (2147483647 : Int32)) % (6 : Int32)) = (4 : Int32)
            · rw [if_pos hk815]
              rw [hk815]
              show Go p e below s _ _ _ T106 (mkF m 147 #[.val (.int x0), .val (.int x1), .val (.int x2), .val (.int x3), .val (.int x4), .val (.int x5), .val (.ref a34), .val (.int (4 : Int32)), .val (.int (fMin x1 x2)), .val (.int (fMax x1 x2)), .val (.int (fEnc (fSign (fMin x1 x2) x3) x4)), .val (.int (fEnc (fSign (fMax x1 x2) x3) x5)), .val (.int (1 : Int32)), .unset] [(.int (4 : Int32)), (.ref a34)])
              refine go_aald X106 hx hZ e106 A92 rfl (hb hby at_147) rfl rfl (by decide) (.ref o4) rfl ?_
              show Go p e below s _ _ _ T106 (mkF m 148 #[.val (.int x0), .val (.int x1), .val (.int x2), .val (.int x3), .val (.int x4), .val (.int x5), .val (.ref a34), .val (.int (4 : Int32)), .val (.int (fMin x1 x2)), .val (.int (fMax x1 x2)), .val (.int (fEnc (fSign (fMin x1 x2) x3) x4)), .val (.int (fEnc (fSign (fMax x1 x2) x3) x5)), .val (.int (1 : Int32)), .unset] [(.ref o4)])
              refine go_st (fun _ k => XS.iload X106.here hx rfl (hb hby at_148) rfl k) ?_
              show Go p e below s _ _ _ T106 (mkF m 150 #[.val (.int x0), .val (.int x1), .val (.int x2), .val (.int x3), .val (.int x4), .val (.int x5), .val (.ref a34), .val (.int (4 : Int32)), .val (.int (fMin x1 x2)), .val (.int (fMax x1 x2)), .val (.int (fEnc (fSign (fMin x1 x2) x3) x4)), .val (.int (fEnc (fSign (fMax x1 x2) x3) x5)), .val (.int (1 : Int32)), .unset] [(.int (fEnc (fSign (fMin x1 x2) x3) x4)), (.ref o4)])
              refine go_st (fun _ k => XS.iload X106.here hx rfl (hb hby at_150) rfl k) ?_
              show Go p e below s _ _ _ T106 (mkF m 152 #[.val (.int x0), .val (.int x1), .val (.int x2), .val (.int x3), .val (.int x4), .val (.int x5), .val (.ref a34), .val (.int (4 : Int32)), .val (.int (fMin x1 x2)), .val (.int (fMax x1 x2)), .val (.int (fEnc (fSign (fMin x1 x2) x3) x4)), .val (.int (fEnc (fSign (fMax x1 x2) x3) x5)), .val (.int (1 : Int32)), .unset] [(.int (fEnc (fSign (fMax x1 x2) x3) x5)), (.int (fEnc (fSign (fMin x1 x2) x3) x4)), (.ref o4)])
              have c817 := Exa.wr W78 c84
              have c818 := Exa.wr W92 c817
              have c819 := Fld.ext E34 F4
              have c820 := Fld.other W43 c819 (Or.inl ne39)
              have c821 := Fld.other W48 c820 (Or.inl ne39)
              have c822 := Fld.other W56 c821 (Or.inl ne39)
              have c823 := Fld.other W66 c822 (Or.inl ne39)
              have c824 := Fld.other W78 c823 (Or.inl ne39)
              have c825 := Fld.other W92 c824 (Or.inl ne39)
              have z826 : n0 ≤ h34.size := Nat.le_trans Z0 E34.1
              have z827 : n0 ≤ h43.size := (Wr.size W43).symm ▸ z826
              have z828 : n0 ≤ h48.size := (Wr.size W48).symm ▸ z827
              have z829 : n0 ≤ h56.size := (Wr.size W56).symm ▸ z828
              have z830 : n0 ≤ h66.size := (Wr.size W66).symm ▸ z829
              have z831 : n0 ≤ h78.size := (Wr.size W78).symm ▸ z830
              have z832 : n0 ≤ h92.size := (Wr.size W92).symm ▸ z831
              refine go_callV X106 hx hZ hml hown (hw _ (List.mem_of_getElem? (i := 34) rfl)) (hw _ (List.mem_of_getElem? (i := 35) rfl)) (notFace_of_selects (args := #[]) (mvT hZ (hw _ (List.mem_of_getElem? (i := 37) rfl)))) (hw _ (List.mem_of_getElem? (i := 37) rfl)) (hw _ (List.mem_of_getElem? (i := 36) rfl)) (hw _ (List.mem_of_getElem? (i := 38) rfl)) (hw _ (List.mem_of_getElem? (i := 3) rfl)) e106 c818 (argsL := [(.int (fEnc (fSign (fMin x1 x2) x3) x4)), (.int (fEnc (fSign (fMax x1 x2) x3) x5))]) (rest := []) (W := 0) (met_adm4 l Z a0 hw o4 (fEnc (fSign (fMin x1 x2) x3) x4) (fEnc (fSign (fMax x1 x2) x3) x5) h92 n0 z832 c818 c825) (hb hby at_152) rfl rfl rfl (lenOf pd3 rfl) (by show 2 * 0 + _ ≤ _; exact Nat.le_of_eq rfl) (by decide) (by decide) (by decide) (by decide) (by decide) ?_
              intro T816 v816 L816 X816 q816
              obtain ⟨rfl, M816, e816⟩ := q816
              have N816 := Fr.app N106 M816
              show Go p e below s _ _ _ T816 (mkF m 155 #[.val (.int x0), .val (.int x1), .val (.int x2), .val (.int x3), .val (.int x4), .val (.int x5), .val (.ref a34), .val (.int (4 : Int32)), .val (.int (fMin x1 x2)), .val (.int (fMax x1 x2)), .val (.int (fEnc (fSign (fMin x1 x2) x3) x4)), .val (.int (fEnc (fSign (fMax x1 x2) x3) x5)), .val (.int (1 : Int32)), .unset] [(.int (fAdm4 (fEnc (fSign (fMin x1 x2) x3) x4) (fEnc (fSign (fMax x1 x2) x3) x5)))])
              refine go_st (fun _ k => XS.istore X816.here hx rfl (hb hby at_155) rfl (l' := #[.val (.int x0), .val (.int x1), .val (.int x2), .val (.int x3), .val (.int x4), .val (.int x5), .val (.ref a34), .val (.int (4 : Int32)), .val (.int (fMin x1 x2)), .val (.int (fMax x1 x2)), .val (.int (fEnc (fSign (fMin x1 x2) x3) x4)), .val (.int (fEnc (fSign (fMax x1 x2) x3) x5)), .val (.int (1 : Int32)), .val (.int (fAdm4 (fEnc (fSign (fMin x1 x2) x3) x4) (fEnc (fSign (fMax x1 x2) x3) x5)))]) rfl k) ?_
              show Go p e below s _ _ _ T816 (mkF m 157 #[.val (.int x0), .val (.int x1), .val (.int x2), .val (.int x3), .val (.int x4), .val (.int x5), .val (.ref a34), .val (.int (4 : Int32)), .val (.int (fMin x1 x2)), .val (.int (fMax x1 x2)), .val (.int (fEnc (fSign (fMin x1 x2) x3) x4)), .val (.int (fEnc (fSign (fMax x1 x2) x3) x5)), .val (.int (1 : Int32)), .val (.int (fAdm4 (fEnc (fSign (fMin x1 x2) x3) x4) (fEnc (fSign (fMax x1 x2) x3) x5)))] [])
              refine go_st (fun _ k => XS.iload X816.here hx rfl (hb hby at_157) rfl k) ?_
              show Go p e below s _ _ _ T816 (mkF m 159 #[.val (.int x0), .val (.int x1), .val (.int x2), .val (.int x3), .val (.int x4), .val (.int x5), .val (.ref a34), .val (.int (4 : Int32)), .val (.int (fMin x1 x2)), .val (.int (fMax x1 x2)), .val (.int (fEnc (fSign (fMin x1 x2) x3) x4)), .val (.int (fEnc (fSign (fMax x1 x2) x3) x5)), .val (.int (1 : Int32)), .val (.int (fAdm4 (fEnc (fSign (fMin x1 x2) x3) x4) (fEnc (fSign (fMax x1 x2) x3) x5)))] [(.int (fAdm4 (fEnc (fSign (fMin x1 x2) x3) x4) (fEnc (fSign (fMax x1 x2) x3) x5)))])
              refine go_st (fun _ k => XS.iload X816.here hx rfl (hb hby at_159) rfl k) ?_
              show Go p e below s _ _ _ T816 (mkF m 161 #[.val (.int x0), .val (.int x1), .val (.int x2), .val (.int x3), .val (.int x4), .val (.int x5), .val (.ref a34), .val (.int (4 : Int32)), .val (.int (fMin x1 x2)), .val (.int (fMax x1 x2)), .val (.int (fEnc (fSign (fMin x1 x2) x3) x4)), .val (.int (fEnc (fSign (fMax x1 x2) x3) x5)), .val (.int (1 : Int32)), .val (.int (fAdm4 (fEnc (fSign (fMin x1 x2) x3) x4) (fEnc (fSign (fMax x1 x2) x3) x5)))] [(.int (1 : Int32)), (.int (fAdm4 (fEnc (fSign (fMin x1 x2) x3) x4) (fEnc (fSign (fMax x1 x2) x3) x5)))])
              by_cases hc833 : (fAdm4 (fEnc (fSign (fMin x1 x2) x3) x4) (fEnc (fSign (fMax x1 x2) x3) x5)) = (1 : Int32)
              · rw [if_pos hc833]
                refine go_st (fun _ k => XS.icmpNo X816.here hx rfl (hb hby at_161) rfl (XT.ii_ne_f hc833) k) ?_
                show Go p e below s _ _ _ T816 (mkF m 164 #[.val (.int x0), .val (.int x1), .val (.int x2), .val (.int x3), .val (.int x4), .val (.int x5), .val (.ref a34), .val (.int (4 : Int32)), .val (.int (fMin x1 x2)), .val (.int (fMax x1 x2)), .val (.int (fEnc (fSign (fMin x1 x2) x3) x4)), .val (.int (fEnc (fSign (fMax x1 x2) x3) x5)), .val (.int (1 : Int32)), .val (.int (fAdm4 (fEnc (fSign (fMin x1 x2) x3) x4) (fEnc (fSign (fMax x1 x2) x3) x5)))] [])
                refine go_st (fun _ k => XT.iconstV X816.here hx rfl (1 : Int32) (hb hby at_164) (by decide) k) ?_
                show Go p e below s _ _ _ T816 (mkF m 165 #[.val (.int x0), .val (.int x1), .val (.int x2), .val (.int x3), .val (.int x4), .val (.int x5), .val (.ref a34), .val (.int (4 : Int32)), .val (.int (fMin x1 x2)), .val (.int (fMax x1 x2)), .val (.int (fEnc (fSign (fMin x1 x2) x3) x4)), .val (.int (fEnc (fSign (fMax x1 x2) x3) x5)), .val (.int (1 : Int32)), .val (.int (fAdm4 (fEnc (fSign (fMin x1 x2) x3) x4) (fEnc (fSign (fMax x1 x2) x3) x5)))] [(.int (1 : Int32))])
                refine go_st (fun _ k => XS.goto X816.here hx rfl (pc0 := 165) (pc' := 169) rfl (hb hby at_165) (by decide) (by decide) k) ?_
                show Go p e below s _ _ _ T816 (mkF m 169 #[.val (.int x0), .val (.int x1), .val (.int x2), .val (.int x3), .val (.int x4), .val (.int x5), .val (.ref a34), .val (.int (4 : Int32)), .val (.int (fMin x1 x2)), .val (.int (fMax x1 x2)), .val (.int (fEnc (fSign (fMin x1 x2) x3) x4)), .val (.int (fEnc (fSign (fMax x1 x2) x3) x5)), .val (.int (1 : Int32)), .val (.int (fAdm4 (fEnc (fSign (fMin x1 x2) x3) x4) (fEnc (fSign (fMax x1 x2) x3) x5)))] [(.int (1 : Int32))])
                exact go_retB (w := (1 : Int32)) X816 hx hlk hret (hb hby at_169) (by decide) (by decide) (by decide) ⟨rfl, N816⟩
              · rw [if_neg hc833]
                refine go_st (fun _ k => XS.icmpYes X816.here hx rfl (pc0 := 161) (pc' := 168) rfl (hb hby at_161) rfl (XT.ii_ne_t hc833) (by decide) (by decide) k) ?_
                show Go p e below s _ _ _ T816 (mkF m 168 #[.val (.int x0), .val (.int x1), .val (.int x2), .val (.int x3), .val (.int x4), .val (.int x5), .val (.ref a34), .val (.int (4 : Int32)), .val (.int (fMin x1 x2)), .val (.int (fMax x1 x2)), .val (.int (fEnc (fSign (fMin x1 x2) x3) x4)), .val (.int (fEnc (fSign (fMax x1 x2) x3) x5)), .val (.int (1 : Int32)), .val (.int (fAdm4 (fEnc (fSign (fMin x1 x2) x3) x4) (fEnc (fSign (fMax x1 x2) x3) x5)))] [])
                refine go_st (fun _ k => XT.iconstV X816.here hx rfl (0 : Int32) (hb hby at_168) (by decide) k) ?_
                show Go p e below s _ _ _ T816 (mkF m 169 #[.val (.int x0), .val (.int x1), .val (.int x2), .val (.int x3), .val (.int x4), .val (.int x5), .val (.ref a34), .val (.int (4 : Int32)), .val (.int (fMin x1 x2)), .val (.int (fMax x1 x2)), .val (.int (fEnc (fSign (fMin x1 x2) x3) x4)), .val (.int (fEnc (fSign (fMax x1 x2) x3) x5)), .val (.int (1 : Int32)), .val (.int (fAdm4 (fEnc (fSign (fMin x1 x2) x3) x4) (fEnc (fSign (fMax x1 x2) x3) x5)))] [(.int (0 : Int32))])
                exact go_retB (w := (0 : Int32)) X816 hx hlk hret (hb hby at_169) (by decide) (by decide) (by decide) ⟨rfl, N816⟩
            · rw [if_neg hk815]
              by_cases hk834 : ((x0 &&& (2147483647 : Int32)) % (6 : Int32)) = (5 : Int32)
              · rw [if_pos hk834]
                rw [hk834]
                show Go p e below s _ _ _ T106 (mkF m 147 #[.val (.int x0), .val (.int x1), .val (.int x2), .val (.int x3), .val (.int x4), .val (.int x5), .val (.ref a34), .val (.int (5 : Int32)), .val (.int (fMin x1 x2)), .val (.int (fMax x1 x2)), .val (.int (fEnc (fSign (fMin x1 x2) x3) x4)), .val (.int (fEnc (fSign (fMax x1 x2) x3) x5)), .val (.int (1 : Int32)), .unset] [(.int (5 : Int32)), (.ref a34)])
                refine go_aald X106 hx hZ e106 A92 rfl (hb hby at_147) rfl rfl (by decide) (.ref o5) rfl ?_
                show Go p e below s _ _ _ T106 (mkF m 148 #[.val (.int x0), .val (.int x1), .val (.int x2), .val (.int x3), .val (.int x4), .val (.int x5), .val (.ref a34), .val (.int (5 : Int32)), .val (.int (fMin x1 x2)), .val (.int (fMax x1 x2)), .val (.int (fEnc (fSign (fMin x1 x2) x3) x4)), .val (.int (fEnc (fSign (fMax x1 x2) x3) x5)), .val (.int (1 : Int32)), .unset] [(.ref o5)])
                refine go_st (fun _ k => XS.iload X106.here hx rfl (hb hby at_148) rfl k) ?_
                show Go p e below s _ _ _ T106 (mkF m 150 #[.val (.int x0), .val (.int x1), .val (.int x2), .val (.int x3), .val (.int x4), .val (.int x5), .val (.ref a34), .val (.int (5 : Int32)), .val (.int (fMin x1 x2)), .val (.int (fMax x1 x2)), .val (.int (fEnc (fSign (fMin x1 x2) x3) x4)), .val (.int (fEnc (fSign (fMax x1 x2) x3) x5)), .val (.int (1 : Int32)), .unset] [(.int (fEnc (fSign (fMin x1 x2) x3) x4)), (.ref o5)])
                refine go_st (fun _ k => XS.iload X106.here hx rfl (hb hby at_150) rfl k) ?_
                show Go p e below s _ _ _ T106 (mkF m 152 #[.val (.int x0), .val (.int x1), .val (.int x2), .val (.int x3), .val (.int x4), .val (.int x5), .val (.ref a34), .val (.int (5 : Int32)), .val (.int (fMin x1 x2)), .val (.int (fMax x1 x2)), .val (.int (fEnc (fSign (fMin x1 x2) x3) x4)), .val (.int (fEnc (fSign (fMax x1 x2) x3) x5)), .val (.int (1 : Int32)), .unset] [(.int (fEnc (fSign (fMax x1 x2) x3) x5)), (.int (fEnc (fSign (fMin x1 x2) x3) x4)), (.ref o5)])
                have c836 := Exa.wr W92 c99
                have c837 := Fld.ext E34 F5
                have c838 := Fld.other W43 c837 (Or.inl ne40)
                have c839 := Fld.other W48 c838 (Or.inl ne40)
                have c840 := Fld.other W56 c839 (Or.inl ne40)
                have c841 := Fld.other W66 c840 (Or.inl ne40)
                have c842 := Fld.other W78 c841 (Or.inl ne40)
                have c843 := Fld.other W92 c842 (Or.inl ne40)
                have z844 : n0 ≤ h34.size := Nat.le_trans Z0 E34.1
                have z845 : n0 ≤ h43.size := (Wr.size W43).symm ▸ z844
                have z846 : n0 ≤ h48.size := (Wr.size W48).symm ▸ z845
                have z847 : n0 ≤ h56.size := (Wr.size W56).symm ▸ z846
                have z848 : n0 ≤ h66.size := (Wr.size W66).symm ▸ z847
                have z849 : n0 ≤ h78.size := (Wr.size W78).symm ▸ z848
                have z850 : n0 ≤ h92.size := (Wr.size W92).symm ▸ z849
                refine go_callV X106 hx hZ hml hown (hw _ (List.mem_of_getElem? (i := 34) rfl)) (hw _ (List.mem_of_getElem? (i := 35) rfl)) (notFace_of_selects (args := #[]) (mvT hZ (hw _ (List.mem_of_getElem? (i := 37) rfl)))) (hw _ (List.mem_of_getElem? (i := 37) rfl)) (hw _ (List.mem_of_getElem? (i := 36) rfl)) (hw _ (List.mem_of_getElem? (i := 38) rfl)) (hw _ (List.mem_of_getElem? (i := 3) rfl)) e106 c836 (argsL := [(.int (fEnc (fSign (fMin x1 x2) x3) x4)), (.int (fEnc (fSign (fMax x1 x2) x3) x5))]) (rest := []) (W := 0) (met_adm5 l Z a0 hw o5 (fEnc (fSign (fMin x1 x2) x3) x4) (fEnc (fSign (fMax x1 x2) x3) x5) h92 n0 z850 c836 c843) (hb hby at_152) rfl rfl rfl (lenOf pd3 rfl) (by show 2 * 0 + _ ≤ _; exact Nat.le_of_eq rfl) (by decide) (by decide) (by decide) (by decide) (by decide) ?_
                intro T835 v835 L835 X835 q835
                obtain ⟨rfl, M835, e835⟩ := q835
                have N835 := Fr.app N106 M835
                show Go p e below s _ _ _ T835 (mkF m 155 #[.val (.int x0), .val (.int x1), .val (.int x2), .val (.int x3), .val (.int x4), .val (.int x5), .val (.ref a34), .val (.int (5 : Int32)), .val (.int (fMin x1 x2)), .val (.int (fMax x1 x2)), .val (.int (fEnc (fSign (fMin x1 x2) x3) x4)), .val (.int (fEnc (fSign (fMax x1 x2) x3) x5)), .val (.int (1 : Int32)), .unset] [(.int (fAdm5 (fEnc (fSign (fMin x1 x2) x3) x4) (fEnc (fSign (fMax x1 x2) x3) x5)))])
                refine go_st (fun _ k => XS.istore X835.here hx rfl (hb hby at_155) rfl (l' := #[.val (.int x0), .val (.int x1), .val (.int x2), .val (.int x3), .val (.int x4), .val (.int x5), .val (.ref a34), .val (.int (5 : Int32)), .val (.int (fMin x1 x2)), .val (.int (fMax x1 x2)), .val (.int (fEnc (fSign (fMin x1 x2) x3) x4)), .val (.int (fEnc (fSign (fMax x1 x2) x3) x5)), .val (.int (1 : Int32)), .val (.int (fAdm5 (fEnc (fSign (fMin x1 x2) x3) x4) (fEnc (fSign (fMax x1 x2) x3) x5)))]) rfl k) ?_
                show Go p e below s _ _ _ T835 (mkF m 157 #[.val (.int x0), .val (.int x1), .val (.int x2), .val (.int x3), .val (.int x4), .val (.int x5), .val (.ref a34), .val (.int (5 : Int32)), .val (.int (fMin x1 x2)), .val (.int (fMax x1 x2)), .val (.int (fEnc (fSign (fMin x1 x2) x3) x4)), .val (.int (fEnc (fSign (fMax x1 x2) x3) x5)), .val (.int (1 : Int32)), .val (.int (fAdm5 (fEnc (fSign (fMin x1 x2) x3) x4) (fEnc (fSign (fMax x1 x2) x3) x5)))] [])
                refine go_st (fun _ k => XS.iload X835.here hx rfl (hb hby at_157) rfl k) ?_
                show Go p e below s _ _ _ T835 (mkF m 159 #[.val (.int x0), .val (.int x1), .val (.int x2), .val (.int x3), .val (.int x4), .val (.int x5), .val (.ref a34), .val (.int (5 : Int32)), .val (.int (fMin x1 x2)), .val (.int (fMax x1 x2)), .val (.int (fEnc (fSign (fMin x1 x2) x3) x4)), .val (.int (fEnc (fSign (fMax x1 x2) x3) x5)), .val (.int (1 : Int32)), .val (.int (fAdm5 (fEnc (fSign (fMin x1 x2) x3) x4) (fEnc (fSign (fMax x1 x2) x3) x5)))] [(.int (fAdm5 (fEnc (fSign (fMin x1 x2) x3) x4) (fEnc (fSign (fMax x1 x2) x3) x5)))])
                refine go_st (fun _ k => XS.iload X835.here hx rfl (hb hby at_159) rfl k) ?_
                show Go p e below s _ _ _ T835 (mkF m 161 #[.val (.int x0), .val (.int x1), .val (.int x2), .val (.int x3), .val (.int x4), .val (.int x5), .val (.ref a34), .val (.int (5 : Int32)), .val (.int (fMin x1 x2)), .val (.int (fMax x1 x2)), .val (.int (fEnc (fSign (fMin x1 x2) x3) x4)), .val (.int (fEnc (fSign (fMax x1 x2) x3) x5)), .val (.int (1 : Int32)), .val (.int (fAdm5 (fEnc (fSign (fMin x1 x2) x3) x4) (fEnc (fSign (fMax x1 x2) x3) x5)))] [(.int (1 : Int32)), (.int (fAdm5 (fEnc (fSign (fMin x1 x2) x3) x4) (fEnc (fSign (fMax x1 x2) x3) x5)))])
                by_cases hc851 : (fAdm5 (fEnc (fSign (fMin x1 x2) x3) x4) (fEnc (fSign (fMax x1 x2) x3) x5)) = (1 : Int32)
                · rw [if_pos hc851]
                  refine go_st (fun _ k => XS.icmpNo X835.here hx rfl (hb hby at_161) rfl (XT.ii_ne_f hc851) k) ?_
                  show Go p e below s _ _ _ T835 (mkF m 164 #[.val (.int x0), .val (.int x1), .val (.int x2), .val (.int x3), .val (.int x4), .val (.int x5), .val (.ref a34), .val (.int (5 : Int32)), .val (.int (fMin x1 x2)), .val (.int (fMax x1 x2)), .val (.int (fEnc (fSign (fMin x1 x2) x3) x4)), .val (.int (fEnc (fSign (fMax x1 x2) x3) x5)), .val (.int (1 : Int32)), .val (.int (fAdm5 (fEnc (fSign (fMin x1 x2) x3) x4) (fEnc (fSign (fMax x1 x2) x3) x5)))] [])
                  refine go_st (fun _ k => XT.iconstV X835.here hx rfl (1 : Int32) (hb hby at_164) (by decide) k) ?_
                  show Go p e below s _ _ _ T835 (mkF m 165 #[.val (.int x0), .val (.int x1), .val (.int x2), .val (.int x3), .val (.int x4), .val (.int x5), .val (.ref a34), .val (.int (5 : Int32)), .val (.int (fMin x1 x2)), .val (.int (fMax x1 x2)), .val (.int (fEnc (fSign (fMin x1 x2) x3) x4)), .val (.int (fEnc (fSign (fMax x1 x2) x3) x5)), .val (.int (1 : Int32)), .val (.int (fAdm5 (fEnc (fSign (fMin x1 x2) x3) x4) (fEnc (fSign (fMax x1 x2) x3) x5)))] [(.int (1 : Int32))])
                  refine go_st (fun _ k => XS.goto X835.here hx rfl (pc0 := 165) (pc' := 169) rfl (hb hby at_165) (by decide) (by decide) k) ?_
                  show Go p e below s _ _ _ T835 (mkF m 169 #[.val (.int x0), .val (.int x1), .val (.int x2), .val (.int x3), .val (.int x4), .val (.int x5), .val (.ref a34), .val (.int (5 : Int32)), .val (.int (fMin x1 x2)), .val (.int (fMax x1 x2)), .val (.int (fEnc (fSign (fMin x1 x2) x3) x4)), .val (.int (fEnc (fSign (fMax x1 x2) x3) x5)), .val (.int (1 : Int32)), .val (.int (fAdm5 (fEnc (fSign (fMin x1 x2) x3) x4) (fEnc (fSign (fMax x1 x2) x3) x5)))] [(.int (1 : Int32))])
                  exact go_retB (w := (1 : Int32)) X835 hx hlk hret (hb hby at_169) (by decide) (by decide) (by decide) ⟨rfl, N835⟩
                · rw [if_neg hc851]
                  refine go_st (fun _ k => XS.icmpYes X835.here hx rfl (pc0 := 161) (pc' := 168) rfl (hb hby at_161) rfl (XT.ii_ne_t hc851) (by decide) (by decide) k) ?_
                  show Go p e below s _ _ _ T835 (mkF m 168 #[.val (.int x0), .val (.int x1), .val (.int x2), .val (.int x3), .val (.int x4), .val (.int x5), .val (.ref a34), .val (.int (5 : Int32)), .val (.int (fMin x1 x2)), .val (.int (fMax x1 x2)), .val (.int (fEnc (fSign (fMin x1 x2) x3) x4)), .val (.int (fEnc (fSign (fMax x1 x2) x3) x5)), .val (.int (1 : Int32)), .val (.int (fAdm5 (fEnc (fSign (fMin x1 x2) x3) x4) (fEnc (fSign (fMax x1 x2) x3) x5)))] [])
                  refine go_st (fun _ k => XT.iconstV X835.here hx rfl (0 : Int32) (hb hby at_168) (by decide) k) ?_
                  show Go p e below s _ _ _ T835 (mkF m 169 #[.val (.int x0), .val (.int x1), .val (.int x2), .val (.int x3), .val (.int x4), .val (.int x5), .val (.ref a34), .val (.int (5 : Int32)), .val (.int (fMin x1 x2)), .val (.int (fMax x1 x2)), .val (.int (fEnc (fSign (fMin x1 x2) x3) x4)), .val (.int (fEnc (fSign (fMax x1 x2) x3) x5)), .val (.int (1 : Int32)), .val (.int (fAdm5 (fEnc (fSign (fMin x1 x2) x3) x4) (fEnc (fSign (fMax x1 x2) x3) x5)))] [(.int (0 : Int32))])
                  exact go_retB (w := (0 : Int32)) X835 hx hlk hret (hb hby at_169) (by decide) (by decide) (by decide) ⟨rfl, N835⟩
              · rw [if_neg hk834]
                exact (own_six x0 hk729 hk752 hk774 hk795 hk815 hk834).elim
theorem own_enc (a c m : Int32) : (fEnc (fSign a c) m < 0 ↔ a < c) ∧ (fEnc (fSign a c) m = 0 ↔ a = c) := by
  have e0 : (0 : Int32).toInt = 0 := rfl
  have e1 : (1 : Int32).toInt = 1 := rfl
  unfold fSign
  by_cases h1 : a < c
  · rw [if_pos h1]
    unfold fEnc
    rw [if_pos (by decide : (-1 : Int32) < 0)]
    have hneg : m ||| (-2147483648 : Int32) < 0 := by
      rw [XT.neg32, Int32.toBitVec_or, BitVec.msb_or]
      have : (-2147483648 : Int32).toBitVec.msb = true := by decide
      rw [this, Bool.or_true]
    have hne : ¬ m ||| (-2147483648 : Int32) = 0 := by
      intro q
      rw [q] at hneg
      exact absurd hneg (by decide)
    have hac : ¬ a = c := by
      intro q
      subst q
      rw [Int32.lt_iff_toInt_lt] at h1
      omega
    exact ⟨⟨fun _ => h1, fun _ => hneg⟩, ⟨fun q => absurd q hne, fun q => absurd q hac⟩⟩
  · rw [if_neg h1]
    by_cases h2 : a = c
    · rw [if_pos h2]
      unfold fEnc
      rw [if_neg (by decide : ¬ (0 : Int32) < 0), if_pos rfl]
      exact ⟨⟨fun q => absurd q (by decide), fun q => absurd q h1⟩, ⟨fun _ => h2, fun _ => rfl⟩⟩
    · rw [if_neg h2]
      unfold fEnc
      rw [if_neg (by decide : ¬ (1 : Int32) < 0), if_neg (by decide : ¬ (1 : Int32) = 0)]
      unfold fMax
      have hm := c_mask m 2147483647 31 (by decide) (by decide)
      generalize m &&& 2147483647 = w at *
      have hr := rng32 w
      have key : ∀ z : Int32, 1 ≤ z.toInt → ((z < 0 ↔ a < c) ∧ (z = 0 ↔ a = c)) := by
        intro z hz
        have n1 : ¬ z < 0 := by rw [Int32.lt_iff_toInt_lt]; omega
        have n2 : ¬ z = 0 := by rw [← Int32.toInt_inj]; omega
        exact ⟨⟨fun q => absurd q n1, fun q => absurd q h1⟩, ⟨fun q => absurd q n2, fun q => absurd q h2⟩⟩
      by_cases h3 : (1 : Int32) < w
      · rw [if_pos h3]
        rw [Int32.lt_iff_toInt_lt] at h3
        exact key _ (by omega)
      · rw [if_neg h3]
        exact key _ (by omega)
theorem own_mm (a b : Int32) : (fMin a b).toInt ≤ (fMax a b).toInt := by
  unfold fMin fMax
  simp only [Int32.lt_iff_toInt_lt]
  repeat' split
  all_goals omega
theorem own_tri {a c u : Int32} (h : (u < 0 ↔ a < c) ∧ (u = 0 ↔ a = c)) : (a < c ∧ ¬ a = c ∧ ¬ c < a ∧ u < 0 ∧ ¬ u = 0 ∧ ¬ 0 < u) ∨ (¬ a < c ∧ a = c ∧ ¬ c < a ∧ ¬ u < 0 ∧ u = 0 ∧ ¬ 0 < u) ∨ (¬ a < c ∧ ¬ a = c ∧ c < a ∧ ¬ u < 0 ∧ ¬ u = 0 ∧ 0 < u) := by
  obtain ⟨p3, p4⟩ := h
  have e0 : (0 : Int32).toInt = 0 := rfl
  simp only [Int32.lt_iff_toInt_lt, ← Int32.toInt_inj] at *
  omega
theorem own_case (lo hi c u v k : Int32) (hm : lo.toInt ≤ hi.toInt) (p1 : (u < 0 ↔ lo < c) ∧ (u = 0 ↔ lo = c)) (p2 : (v < 0 ↔ hi < c) ∧ (v = 0 ↔ hi = c)) (P : Int32 → Prop)
    (H : (lo < c ∧ ¬ lo = c ∧ ¬ c < lo ∧ u < 0 ∧ ¬ u = 0 ∧ ¬ 0 < u) → (hi < c ∧ ¬ hi = c ∧ ¬ c < hi ∧ v < 0 ∧ ¬ v = 0 ∧ ¬ 0 < v) → P k)
    (H2 : (lo < c ∧ ¬ lo = c ∧ ¬ c < lo ∧ u < 0 ∧ ¬ u = 0 ∧ ¬ 0 < u) → (¬ hi < c ∧ hi = c ∧ ¬ c < hi ∧ ¬ v < 0 ∧ v = 0 ∧ ¬ 0 < v) → P k)
    (H3 : (lo < c ∧ ¬ lo = c ∧ ¬ c < lo ∧ u < 0 ∧ ¬ u = 0 ∧ ¬ 0 < u) → (¬ hi < c ∧ ¬ hi = c ∧ c < hi ∧ ¬ v < 0 ∧ ¬ v = 0 ∧ 0 < v) → P k)
    (H4 : (¬ lo < c ∧ lo = c ∧ ¬ c < lo ∧ ¬ u < 0 ∧ u = 0 ∧ ¬ 0 < u) → (¬ hi < c ∧ hi = c ∧ ¬ c < hi ∧ ¬ v < 0 ∧ v = 0 ∧ ¬ 0 < v) → P k)
    (H5 : (¬ lo < c ∧ lo = c ∧ ¬ c < lo ∧ ¬ u < 0 ∧ u = 0 ∧ ¬ 0 < u) → (¬ hi < c ∧ ¬ hi = c ∧ c < hi ∧ ¬ v < 0 ∧ ¬ v = 0 ∧ 0 < v) → P k)
    (H6 : (¬ lo < c ∧ ¬ lo = c ∧ c < lo ∧ ¬ u < 0 ∧ ¬ u = 0 ∧ 0 < u) → (¬ hi < c ∧ ¬ hi = c ∧ c < hi ∧ ¬ v < 0 ∧ ¬ v = 0 ∧ 0 < v) → P k) : P k := by
  have t1 := own_tri p1
  have t2 := own_tri p2
  rcases t1 with t1 | t1 | t1 <;> rcases t2 with t2 | t2 | t2
  · exact H t1 t2
  · exact H2 t1 t2
  · exact H3 t1 t2
  · exfalso
    simp only [Int32.lt_iff_toInt_lt, ← Int32.toInt_inj] at t1 t2
    omega
  · exact H4 t1 t2
  · exact H5 t1 t2
  · exfalso
    simp only [Int32.lt_iff_toInt_lt, ← Int32.toInt_inj] at t1 t2
    omega
  · exfalso
    simp only [Int32.lt_iff_toInt_lt, ← Int32.toInt_inj] at t1 t2
    omega
  · exact H6 t1 t2
theorem own_law (x0 x1 x2 x3 x4 x5 : Int32) : fLaw x0 x1 x2 x3 x4 x5 = 1 := by
  unfold fLaw
  have h6 := own_six x0
  generalize (x0 &&& (2147483647 : Int32)) % (6 : Int32) = k at *
  have hm := own_mm x1 x2
  generalize fMin x1 x2 = lo at *
  generalize fMax x1 x2 = hi at *
  have p1 := own_enc lo x3 x4
  have p2 := own_enc hi x3 x5
  generalize fEnc (fSign lo x3) x4 = u at *
  generalize fEnc (fSign hi x3) x5 = v at *
  have hk : k = 0 ∨ k = 1 ∨ k = 2 ∨ k = 3 ∨ k = 4 ∨ k = 5 := by
    by_cases k0 : k = 0
    · exact Or.inl k0
    by_cases k1 : k = 1
    · exact Or.inr (Or.inl k1)
    by_cases k2 : k = 2
    · exact Or.inr (Or.inr (Or.inl k2))
    by_cases k3 : k = 3
    · exact Or.inr (Or.inr (Or.inr (Or.inl k3)))
    by_cases k4 : k = 4
    · exact Or.inr (Or.inr (Or.inr (Or.inr (Or.inl k4))))
    by_cases k5 : k = 5
    · exact Or.inr (Or.inr (Or.inr (Or.inr (Or.inr k5))))
    exact (h6 k0 k1 k2 k3 k4 k5).elim
  clear h6
  have irr : ¬ x3 < x3 := by rw [Int32.lt_iff_toInt_lt]; omega
  rcases hk with rfl | rfl | rfl | rfl | rfl | rfl
  all_goals
    refine own_case lo hi x3 u v 0 hm p1 p2 (fun _ => _) ?_ ?_ ?_ ?_ ?_ ?_
    all_goals
      rintro ⟨a1, a2, a3, a4, a5, a6⟩ ⟨b1, b2, b3, b4, b5, b6⟩
      simp +decide [fSat, fAdm0, fAdm1, fAdm2, fAdm3, fAdm4, fAdm5, a1, a2, a3, a4, a5, a6, b1, b2, b3, b4, b5, b6, irr]

set_option maxRecDepth 65536 in
set_option maxHeartbeats 4000000 in
theorem comes_1 {Post : Tables → Env → Array Value → State → Outcome → State → Prop} (hpost : ∀ tb e args s v u, (limb_1_1.after args s (.returned v) u = true ∧ limb_1_2.after args s (.returned v) u = true ∧ True) → FrameEnd s (.returned v) u (Jvm.fieldLocs frame_1_writes args s ++ Jvm.arrayLocs frame_1_arrays args s ++ Jvm.staticLocs frame_1_statics s) 16 128 → Post tb e args s (.returned v) u) :
    ArmFor flags0 classFile x code maxLocals ret World_1 tables_1 room_1 Calls_1 rest_1 Pre_1 Post := by
  intro l hfl _ _ p e ha hc hk s m args below hf hA hF happ hP
  obtain ⟨hcalls, hrest, hpre⟩ := hP
  obtain ⟨-, -, -, hnamed, -, -, -, hat⟩ := (Spec.applies_iff hf).mp happ
  obtain ⟨hg, hn⟩ := and_e (Cond.before_iff.mp (show (Jvm.Cond.and given_1 narrow_1).before args s = true from hpre))
  obtain ⟨k1, r1⟩ := and_e hg
  obtain ⟨g0, r2⟩ := and_e r1
  obtain ⟨g1, r3⟩ := and_e r2
  obtain ⟨g2, r4⟩ := and_e r3
  obtain ⟨g3, r5⟩ := and_e r4
  obtain ⟨g4, r6⟩ := and_e r5
  have g5 := r6
  obtain ⟨w0, w1, w2, w3, w4, w5, rfl⟩ : ∃ w0 w1 w2 w3 w4 w5 : Value, args = #[w0, w1, w2, w3, w4, w5] := by
    have hs : args.size = 6 := by simpa [Cond.value, given_1] using k1
    obtain ⟨L⟩ := args
    match L, hs with
    | [w0, w1, w2, w3, w4, w5], _ => exact ⟨w0, w1, w2, w3, w4, w5, rfl⟩
  have hw := fun d (hd : d ∈ tables_1) => atoms_spec (ws := Jvm.Cond.code x code maxLocals ret :: tables_1) hat d (List.mem_cons_of_mem _ hd)
  have hfit : Fit s := fun {y c} hc i hi => by
    obtain ⟨ha, rfl⟩ := Array.getElem?_eq_some_iff.mp hc
    have q := List.all_eq_true.mp ((Array.all_eq_true_iff_forall_mem.mp hF) _ (Array.getElem_mem ha)) i (List.mem_range.mpr hi)
    simpa [Array.getElem?_eq_getElem hi] using q
  obtain ⟨i0, f0⟩ := is_v g0
  obtain rfl : w0 = (.int i0) := Option.some.inj f0
  obtain ⟨i1, f1⟩ := is_v g1
  obtain rfl : w1 = (.int i1) := Option.some.inj f1
  obtain ⟨i2, f2⟩ := is_v g2
  obtain rfl : w2 = (.int i2) := Option.some.inj f2
  obtain ⟨i3, f3⟩ := is_v g3
  obtain rfl : w3 = (.int i3) := Option.some.inj f3
  obtain ⟨i4, f4⟩ := is_v g4
  obtain rfl : w4 = (.int i4) := Option.some.inj f4
  obtain ⟨i5, f5⟩ := is_v g5
  obtain rfl : w5 = (.int i5) := Option.some.inj f5
  have q0 := hn
  obtain ⟨c0, q1⟩ := and_e q0
  obtain ⟨c1, q2⟩ := and_e q1
  obtain ⟨c2, q3⟩ := and_e q2
  obtain ⟨c3, q4⟩ := and_e q3
  obtain ⟨c4, q5⟩ := and_e q4
  obtain ⟨c5, q6⟩ := and_e q5
  obtain ⟨c6, q7⟩ := and_e q6
  obtain ⟨c7, q8⟩ := and_e q7
  obtain ⟨c8, q9⟩ := and_e q8
  obtain ⟨c9, q10⟩ := and_e q9
  obtain ⟨c10, q11⟩ := and_e q10
  have c11 := q11
  obtain ⟨o0, v0⟩ := exa_v c0
  have S0 : Sta s s.heap "com/example/skipstone/skipstone/prune/Operator" "EQUAL" "Lcom/example/skipstone/skipstone/prune/Operator;" (.ref o0) := Sta.start v0 (Or.inr ⟨(hw _ (List.mem_of_getElem? (i := 3) rfl)), (hw _ (List.mem_of_getElem? (i := 4) rfl))⟩)
  have E0 : Exa s s.heap o0 "com/example/skipstone/skipstone/prune/Operator" := Exa.start v0 c0
  obtain ⟨o1, v1⟩ := exa_v c1
  have S1 : Sta s s.heap "com/example/skipstone/skipstone/prune/Operator" "NOT_EQUAL" "Lcom/example/skipstone/skipstone/prune/Operator;" (.ref o1) := Sta.start v1 (Or.inr ⟨(hw _ (List.mem_of_getElem? (i := 3) rfl)), (hw _ (List.mem_of_getElem? (i := 7) rfl))⟩)
  have E1 : Exa s s.heap o1 "com/example/skipstone/skipstone/prune/Operator" := Exa.start v1 c1
  obtain ⟨o2, v2⟩ := exa_v c2
  have S2 : Sta s s.heap "com/example/skipstone/skipstone/prune/Operator" "LESS" "Lcom/example/skipstone/skipstone/prune/Operator;" (.ref o2) := Sta.start v2 (Or.inr ⟨(hw _ (List.mem_of_getElem? (i := 3) rfl)), (hw _ (List.mem_of_getElem? (i := 9) rfl))⟩)
  have E2 : Exa s s.heap o2 "com/example/skipstone/skipstone/prune/Operator" := Exa.start v2 c2
  obtain ⟨o3, v3⟩ := exa_v c3
  have S3 : Sta s s.heap "com/example/skipstone/skipstone/prune/Operator" "LESS_OR_EQUAL" "Lcom/example/skipstone/skipstone/prune/Operator;" (.ref o3) := Sta.start v3 (Or.inr ⟨(hw _ (List.mem_of_getElem? (i := 3) rfl)), (hw _ (List.mem_of_getElem? (i := 11) rfl))⟩)
  have E3 : Exa s s.heap o3 "com/example/skipstone/skipstone/prune/Operator" := Exa.start v3 c3
  obtain ⟨o4, v4⟩ := exa_v c4
  have S4 : Sta s s.heap "com/example/skipstone/skipstone/prune/Operator" "GREATER" "Lcom/example/skipstone/skipstone/prune/Operator;" (.ref o4) := Sta.start v4 (Or.inr ⟨(hw _ (List.mem_of_getElem? (i := 3) rfl)), (hw _ (List.mem_of_getElem? (i := 13) rfl))⟩)
  have E4 : Exa s s.heap o4 "com/example/skipstone/skipstone/prune/Operator" := Exa.start v4 c4
  obtain ⟨o5, v5⟩ := exa_v c5
  have S5 : Sta s s.heap "com/example/skipstone/skipstone/prune/Operator" "GREATER_OR_EQUAL" "Lcom/example/skipstone/skipstone/prune/Operator;" (.ref o5) := Sta.start v5 (Or.inr ⟨(hw _ (List.mem_of_getElem? (i := 3) rfl)), (hw _ (List.mem_of_getElem? (i := 15) rfl))⟩)
  have E5 : Exa s s.heap o5 "com/example/skipstone/skipstone/prune/Operator" := Exa.start v5 c5
  have F0 : Fld s s.heap o0 "java/lang/Enum" "ordinal" "I" (.int (0 : Int32)) := own_ordf v0 c6
  have F1 : Fld s s.heap o1 "java/lang/Enum" "ordinal" "I" (.int (1 : Int32)) := own_ordf v1 c9
  have F2 : Fld s s.heap o2 "java/lang/Enum" "ordinal" "I" (.int (2 : Int32)) := own_ordf v2 c10
  have F3 : Fld s s.heap o3 "java/lang/Enum" "ordinal" "I" (.int (3 : Int32)) := own_ordf v3 c8
  have F4 : Fld s s.heap o4 "java/lang/Enum" "ordinal" "I" (.int (4 : Int32)) := own_ordf v4 c7
  have F5 : Fld s s.heap o5 "java/lang/Enum" "ordinal" "I" (.int (5 : Int32)) := own_ordf v5 c11
  have hm := met_law l s _ hw i0 i1 i2 i3 i4 i5 s.heap s.heap.size (Nat.le_refl _) o0 o1 o2 o3 o4 o5 S0 S1 S2 S3 S4 S5 E0 E1 E2 E3 E4 E5 F0 F1 F2 F3 F4 F5
  rw [own_law] at hm
  obtain ⟨n, o, h1, h2, h3, _, L, rfl, ⟨rfl, N⟩, hq⟩ := hm p e ha hc hk s m _ below hf ((Spec.applies_iff_loose hf).mp happ).1 ⟨rfl, State.Warmed39.refl s, rfl⟩ trivial
  refine ⟨n, _, h1, h2, h3, hpost _ _ _ _ _ _ ⟨Cond.after_iff.mpr rfl, Cond.after_iff.mpr (eq_i res_at (Term.int_eval (1)) rfl), trivial⟩ ⟨hq.1, hq.2.1, (hq.2.2.sift fun y hy => Or.inr (N y hy)).mono (by decide) (by decide)⟩⟩
theorem main_1_1 : Claimed_1_1 := comes_1 fun _ _ _ _ _ _ h hF => ⟨h.1, hF⟩
theorem main_1_2 : Claimed_1_2 := comes_1 fun _ _ _ _ _ _ h hF => ⟨h.2.1, hF⟩
end Jvm.Pilot.@@N@@
namespace Jvm.Pilot.@@N@@
open Jvm Jvm.ClassFile Sem Op Lib Jvm.Free Jvm.Stand Jvm.Pilot.@@N@@.Jvm.D
/-! MADE BY PROGRAM (witnessworld.py) out of the Statement's table words and the real class files: 14 classes; the members and pool entries that the words name. The judged class is class 1, her method 4. -/
namespace start1
open Jvm.ClassFile
def u (s : String) : CpInfo := .utf8 (stringToUtf16 s)
/-- a pool by its gaps: so many unusable entries, then the entry; so many at the end -/
def gap : Nat → List CpInfo → List CpInfo
  | 0, r => r
  | n + 1, r => .unusable :: gap n r
def poolList (es : List (Nat × CpInfo)) (last : Nat) : List CpInfo := es.foldr (fun e r => gap e.1 (e.2 :: r)) (gap last [])
def pool (es : List (Nat × CpInfo)) (last : Nat) : Array CpInfo := ⟨poolList es last⟩
def fileOf (pool : Array CpInfo) (this : Nat) (attrs : Array Attribute := #[]) (ms : Array MethodInfo := #[]) (fl : Nat := 33) (sup : Nat := 0) (ifs : Array Nat := #[]) (fds : Array FieldInfo := #[]) : ClassFile where
  minorVersion := 0
  majorVersion := 65
  constantPool := pool
  accessFlags := fl
  thisClass := this
  superClass := sup
  interfaces := ifs
  fields := fds
  methods := ms
  attributes := attrs
def plain (name : String) (sup : Option ClassId) : Class where
  name := name
  kind := .ordinary
  loader := none
  accessFlags := 33
  super := sup
  interfaces := #[]
  cf := none
  fields := #[]
  methods := #[]
  instanceTypes := #[]
  staticTypes := #[]
  resolved := #[]
  callSites := []
  init := .initialized
  statics := none
  mirror := none

def pool0 : Array CpInfo := pool [(5, u "<init>"), (0, u "()V"), (1, .class_ 10), (1, u "java/lang/Object")] 113

def k0m0 : Method := { name := "<init>", desc := "()V", sig := { parameters := [], returnType := none }, accessFlags := 1, code := none }
/-- java/lang/Object -/
def k0 : Class := { plain "java/lang/Object" none with
  accessFlags := 33
  interfaces := #[]
  cf := some (fileOf pool0 8 #[] #[{ accessFlags := 1, nameIndex := 5, descriptorIndex := 6, attributes := #[] }] 33 0 #[] #[])
  fields := #[]
  methods := #[k0m0]
  instanceTypes := #[]
  staticTypes := #[]
  resolved := Array.replicate 124 none
  statics := none }

def pool1 : Array CpInfo := pool [(2, .class_ 4), (1, u "java/lang/Object"), (0, u "<init>"), (0, u "()V"), (0, .integer 2147483648), (0, .integer 2147483647), (0, .methodref 10 11), (0, .class_ 12), (0, .nameAndType 13 14), (0, u "java/lang/Math"), (0, u "max"), (0, u "(II)I"), (0, .class_ 16), (0, u "com/example/skipstone/skipstone/prune/Operator"), (0, .fieldref 15 18), (0, .nameAndType 19 20), (0, u "EQUAL"), (0, u "Lcom/example/skipstone/skipstone/prune/Operator;"), (0, .fieldref 15 22), (0, .nameAndType 23 20), (0, u "NOT_EQUAL"), (0, .fieldref 15 25), (0, .nameAndType 26 20), (0, u "LESS"), (0, .fieldref 15 28), (0, .nameAndType 29 20), (0, u "LESS_OR_EQUAL"), (0, .fieldref 15 31), (0, .nameAndType 32 20), (0, u "GREATER"), (0, .fieldref 15 34), (0, .nameAndType 35 20), (0, u "GREATER_OR_EQUAL"), (0, .methodref 10 37), (0, .nameAndType 38 14), (0, u "min"), (0, .methodref 40 41), (0, .class_ 42), (0, .nameAndType 43 14), (0, u "com/example/skipstone/skipstone/prune/OperatorAdmitsPinLaw"), (0, u "sign"), (0, .methodref 40 45), (0, .nameAndType 46 14), (0, u "enc"), (0, .methodref 40 48), (0, .nameAndType 49 50), (0, u "sat"), (0, u "(III)Z"), (0, .methodref 15 52), (0, .nameAndType 53 54), (0, u "admits"), (0, u "(II)Z"), (3, u "law"), (0, u "(IIIIII)Z")] 4

def k1m0 : Method := { name := "<init>", desc := "()V", sig := { parameters := [], returnType := none }, accessFlags := 2, code := none }
def k1c1 : Code := { maxStack := 2, maxLocals := 3, code := method_2_code, exceptionTable := #[], attributes := #[] }
def k1m1 : Method := { name := "sat", desc := "(III)Z", sig := { parameters := [.int, .int, .int], returnType := some .boolean }, accessFlags := 10, code := some k1c1 }
def k1c2 : Code := { maxStack := 2, maxLocals := 2, code := method_3_code, exceptionTable := #[], attributes := #[] }
def k1m2 : Method := { name := "sign", desc := "(II)I", sig := { parameters := [.int, .int], returnType := some .int }, accessFlags := 10, code := some k1c2 }
def k1c3 : Code := { maxStack := 3, maxLocals := 2, code := method_4_code, exceptionTable := #[], attributes := #[] }
def k1m3 : Method := { name := "enc", desc := "(II)I", sig := { parameters := [.int, .int], returnType := some .int }, accessFlags := 10, code := some k1c3 }
def k1c4 : Code := { maxStack := 4, maxLocals := 14, code := code, exceptionTable := #[], attributes := #[] }
def k1m4 : Method := { name := "law", desc := "(IIIIII)Z", sig := { parameters := [.int, .int, .int, .int, .int, .int], returnType := some .boolean }, accessFlags := 9, code := some k1c4 }
/-- com/example/skipstone/skipstone/prune/OperatorAdmitsPinLaw -/
def k1 : Class := { plain "com/example/skipstone/skipstone/prune/OperatorAdmitsPinLaw" (some 0) with
  accessFlags := 49
  interfaces := #[]
  cf := some (fileOf pool1 40 #[] #[{ accessFlags := 2, nameIndex := 5, descriptorIndex := 6, attributes := #[] }, { accessFlags := 10, nameIndex := 49, descriptorIndex := 50, attributes := #[] }, { accessFlags := 10, nameIndex := 43, descriptorIndex := 14, attributes := #[] }, { accessFlags := 10, nameIndex := 46, descriptorIndex := 14, attributes := #[] }, { accessFlags := 9, nameIndex := 58, descriptorIndex := 59, attributes := #[] }] 49 2 #[] #[])
  fields := #[]
  methods := #[k1m0, k1m1, k1m2, k1m3, k1m4]
  instanceTypes := #[]
  staticTypes := #[]
  resolved := Array.replicate 64 none
  statics := none }

def pool2 : Array CpInfo := pool [(1, .class_ 2), (0, u "java/lang/constant/Constable"), (0, .class_ 4), (0, u "java/lang/Object")] 6

/-- java/lang/constant/Constable -/
def k2 : Class := { plain "java/lang/constant/Constable" (some 0) with
  accessFlags := 1537
  interfaces := #[]
  cf := some (fileOf pool2 1 #[] #[] 1537 3 #[] #[])
  fields := #[]
  methods := #[]
  instanceTypes := #[]
  staticTypes := #[]
  resolved := Array.replicate 11 none
  statics := none }

def pool3 : Array CpInfo := pool [(1, .class_ 2), (0, u "java/lang/Comparable"), (0, .class_ 4), (0, u "java/lang/Object")] 7

/-- java/lang/Comparable -/
def k3 : Class := { plain "java/lang/Comparable" (some 0) with
  accessFlags := 1537
  interfaces := #[]
  cf := some (fileOf pool3 1 #[] #[] 1537 3 #[] #[])
  fields := #[]
  methods := #[]
  instanceTypes := #[]
  staticTypes := #[]
  resolved := Array.replicate 12 none
  statics := none }

def pool4 : Array CpInfo := pool [(1, .class_ 2), (0, u "java/io/Serializable"), (0, .class_ 4), (0, u "java/lang/Object")] 2

/-- java/io/Serializable -/
def k4 : Class := { plain "java/io/Serializable" (some 0) with
  accessFlags := 1537
  interfaces := #[]
  cf := some (fileOf pool4 1 #[] #[] 1537 3 #[] #[])
  fields := #[]
  methods := #[]
  instanceTypes := #[]
  staticTypes := #[]
  resolved := Array.replicate 7 none
  statics := none }

def pool5 : Array CpInfo := pool [(2, .class_ 4), (1, u "java/lang/Enum"), (0, u "name"), (0, u "Ljava/lang/String;"), (0, .fieldref 2 8), (0, .nameAndType 9 10), (0, u "ordinal"), (0, u "I"), (1, .class_ 14), (1, u "java/lang/Object"), (4, u "hash"), (86, .class_ 108), (1, u "java/lang/Enum$EnumDesc"), (2, .class_ 112), (0, u "java/lang/constant/Constable"), (0, .class_ 114), (0, u "java/lang/Comparable"), (0, .class_ 116), (0, u "java/io/Serializable"), (9, u "()I")] 77

def k5c0 : Code := { maxStack := 1, maxLocals := 1, code := jdk_37_method_2_code, exceptionTable := #[], attributes := #[] }
def k5m0 : Method := { name := "ordinal", desc := "()I", sig := { parameters := [], returnType := some .int }, accessFlags := 17, code := some k5c0 }
/-- java/lang/Enum -/
def k5 : Class := { plain "java/lang/Enum" (some 0) with
  accessFlags := 1057
  interfaces := #[2, 3, 4]
  cf := some (fileOf pool5 2 #[.nestMembers #[106]] #[{ accessFlags := 17, nameIndex := 9, descriptorIndex := 126, attributes := #[] }] 1057 12 #[111, 113, 115] #[{ accessFlags := 18, nameIndex := 5, descriptorIndex := 6, attributes := #[] }, { accessFlags := 18, nameIndex := 9, descriptorIndex := 10, attributes := #[] }, { accessFlags := 2, nameIndex := 19, descriptorIndex := 10, attributes := #[] }])
  fields := #[{ name := "name", type := (.object "java/lang/String"), accessFlags := 18, slot := 0, constantValue := 0 }, { name := "ordinal", type := .int, accessFlags := 18, slot := 1, constantValue := 0 }, { name := "hash", type := .int, accessFlags := 2, slot := 2, constantValue := 0 }]
  methods := #[k5m0]
  instanceTypes := #[(.object "java/lang/String"), .int, .int]
  staticTypes := #[]
  resolved := Array.replicate 204 none
  statics := none }

def pool6 : Array CpInfo := pool [(1, .class_ 2), (0, u "com/example/skipstone/skipstone/prune/Operator"), (2, u "EQUAL"), (0, u "Lcom/example/skipstone/skipstone/prune/Operator;"), (2, u "NOT_EQUAL"), (2, u "LESS"), (2, u "LESS_OR_EQUAL"), (2, u "GREATER"), (2, u "GREATER_OR_EQUAL"), (2, u "$VALUES"), (0, u "[Lcom/example/skipstone/skipstone/prune/Operator;"), (6, .class_ 34), (1, u "java/lang/Enum"), (14, u "spellings"), (0, u "Ljava/util/List;"), (6, .methodref 1 58), (0, .nameAndType 59 60), (0, u "ordinal"), (0, u "()I"), (47, u "admits"), (0, u "(II)Z")] 5

def k6c0 : Code := { maxStack := 4, maxLocals := 3, code := prog_26_method_7_code, exceptionTable := #[], attributes := #[] }
def k6m0 : Method := { name := "admits", desc := "(II)Z", sig := { parameters := [.int, .int], returnType := some .boolean }, accessFlags := 0, code := some k6c0 }
/-- com/example/skipstone/skipstone/prune/Operator -/
def k6 : Class := { plain "com/example/skipstone/skipstone/prune/Operator" (some 5) with
  accessFlags := 16433
  interfaces := #[]
  cf := some (fileOf pool6 1 #[] #[{ accessFlags := 0, nameIndex := 108, descriptorIndex := 109, attributes := #[] }] 16433 32 #[] #[{ accessFlags := 16409, nameIndex := 5, descriptorIndex := 6, attributes := #[] }, { accessFlags := 16409, nameIndex := 9, descriptorIndex := 6, attributes := #[] }, { accessFlags := 16409, nameIndex := 12, descriptorIndex := 6, attributes := #[] }, { accessFlags := 16409, nameIndex := 15, descriptorIndex := 6, attributes := #[] }, { accessFlags := 16409, nameIndex := 18, descriptorIndex := 6, attributes := #[] }, { accessFlags := 16409, nameIndex := 21, descriptorIndex := 6, attributes := #[] }, { accessFlags := 18, nameIndex := 49, descriptorIndex := 50, attributes := #[] }, { accessFlags := 4122, nameIndex := 24, descriptorIndex := 25, attributes := #[] }])
  fields := #[{ name := "EQUAL", type := (.object "com/example/skipstone/skipstone/prune/Operator"), accessFlags := 16409, slot := 0, constantValue := 0 }, { name := "NOT_EQUAL", type := (.object "com/example/skipstone/skipstone/prune/Operator"), accessFlags := 16409, slot := 1, constantValue := 0 }, { name := "LESS", type := (.object "com/example/skipstone/skipstone/prune/Operator"), accessFlags := 16409, slot := 2, constantValue := 0 }, { name := "LESS_OR_EQUAL", type := (.object "com/example/skipstone/skipstone/prune/Operator"), accessFlags := 16409, slot := 3, constantValue := 0 }, { name := "GREATER", type := (.object "com/example/skipstone/skipstone/prune/Operator"), accessFlags := 16409, slot := 4, constantValue := 0 }, { name := "GREATER_OR_EQUAL", type := (.object "com/example/skipstone/skipstone/prune/Operator"), accessFlags := 16409, slot := 5, constantValue := 0 }, { name := "spellings", type := (.object "java/util/List"), accessFlags := 18, slot := 3, constantValue := 0 }, { name := "$VALUES", type := (.array (.object "com/example/skipstone/skipstone/prune/Operator")), accessFlags := 4122, slot := 6, constantValue := 0 }]
  methods := #[k6m0]
  instanceTypes := #[(.object "java/lang/String"), .int, .int, (.object "java/util/List")]
  staticTypes := #[(.object "com/example/skipstone/skipstone/prune/Operator"), (.object "com/example/skipstone/skipstone/prune/Operator"), (.object "com/example/skipstone/skipstone/prune/Operator"), (.object "com/example/skipstone/skipstone/prune/Operator"), (.object "com/example/skipstone/skipstone/prune/Operator"), (.object "com/example/skipstone/skipstone/prune/Operator"), (.array (.object "com/example/skipstone/skipstone/prune/Operator"))]
  resolved := Array.replicate 115 none
  statics := some 0 }

def pool7 : Array CpInfo := pool [(1, .class_ 2), (0, u "java/lang/Math"), (1, .class_ 6), (1, u "java/lang/Object"), (0, u "<init>"), (0, u "()V"), (89, .class_ 100), (1, u "java/lang/Math$RandomNumberGeneratorHolder"), (71, u "negativeZeroFloatBits"), (0, u "J"), (2, u "negativeZeroDoubleBits"), (21, u "max"), (2, u "min"), (43, u "$assertionsDisabled"), (0, u "Z"), (88, u "(II)I"), (2, u "twoToTheDoubleScaleDown"), (0, u "D"), (4, u "twoToTheDoubleScaleUp"), (9, u "E"), (3, u "PI"), (2, u "TAU"), (2, u "DEGREES_TO_RADIANS"), (0, u "RADIANS_TO_DEGREES")] 94

def k7m0 : Method := { name := "<init>", desc := "()V", sig := { parameters := [], returnType := none }, accessFlags := 2, code := none }
def k7c1 : Code := { maxStack := 2, maxLocals := 2, code := jdk_29_method_65_code, exceptionTable := #[], attributes := #[] }
def k7m1 : Method := { name := "max", desc := "(II)I", sig := { parameters := [.int, .int], returnType := some .int }, accessFlags := 9, code := some k7c1 }
def k7c2 : Code := { maxStack := 2, maxLocals := 2, code := jdk_29_method_69_code, exceptionTable := #[], attributes := #[] }
def k7m2 : Method := { name := "min", desc := "(II)I", sig := { parameters := [.int, .int], returnType := some .int }, accessFlags := 9, code := some k7c2 }
/-- java/lang/Math -/
def k7 : Class := { plain "java/lang/Math" (some 0) with
  accessFlags := 49
  interfaces := #[]
  cf := some (fileOf pool7 1 #[.nestMembers #[98]] #[{ accessFlags := 2, nameIndex := 7, descriptorIndex := 8, attributes := #[] }, { accessFlags := 9, nameIndex := 198, descriptorIndex := 335, attributes := #[] }, { accessFlags := 9, nameIndex := 201, descriptorIndex := 335, attributes := #[] }] 49 4 #[] #[{ accessFlags := 25, nameIndex := 354, descriptorIndex := 339, attributes := #[] }, { accessFlags := 25, nameIndex := 358, descriptorIndex := 339, attributes := #[] }, { accessFlags := 25, nameIndex := 361, descriptorIndex := 339, attributes := #[] }, { accessFlags := 26, nameIndex := 364, descriptorIndex := 339, attributes := #[] }, { accessFlags := 26, nameIndex := 365, descriptorIndex := 339, attributes := #[] }, { accessFlags := 26, nameIndex := 172, descriptorIndex := 173, attributes := #[] }, { accessFlags := 26, nameIndex := 176, descriptorIndex := 173, attributes := #[] }, { accessFlags := 8, nameIndex := 344, descriptorIndex := 339, attributes := #[] }, { accessFlags := 8, nameIndex := 338, descriptorIndex := 339, attributes := #[] }, { accessFlags := 4120, nameIndex := 245, descriptorIndex := 246, attributes := #[] }])
  fields := #[{ name := "E", type := .double, accessFlags := 25, slot := 0, constantValue := 0 }, { name := "PI", type := .double, accessFlags := 25, slot := 1, constantValue := 0 }, { name := "TAU", type := .double, accessFlags := 25, slot := 2, constantValue := 0 }, { name := "DEGREES_TO_RADIANS", type := .double, accessFlags := 26, slot := 3, constantValue := 0 }, { name := "RADIANS_TO_DEGREES", type := .double, accessFlags := 26, slot := 4, constantValue := 0 }, { name := "negativeZeroFloatBits", type := .long, accessFlags := 26, slot := 5, constantValue := 0 }, { name := "negativeZeroDoubleBits", type := .long, accessFlags := 26, slot := 6, constantValue := 0 }, { name := "twoToTheDoubleScaleUp", type := .double, accessFlags := 8, slot := 7, constantValue := 0 }, { name := "twoToTheDoubleScaleDown", type := .double, accessFlags := 8, slot := 8, constantValue := 0 }, { name := "$assertionsDisabled", type := .boolean, accessFlags := 4120, slot := 9, constantValue := 0 }]
  methods := #[k7m0, k7m1, k7m2]
  instanceTypes := #[]
  staticTypes := #[.double, .double, .double, .double, .double, .long, .long, .double, .double, .boolean]
  resolved := Array.replicate 460 none
  statics := none }

def pool8 : Array CpInfo := pool [(1, u "java/lang/Cloneable"), (0, .class_ 1), (0, u "java/lang/Object"), (0, .class_ 3)] 3

/-- java/lang/Cloneable -/
def k8 : Class := { plain "java/lang/Cloneable" (some 0) with
  accessFlags := 1537
  interfaces := #[]
  cf := some (fileOf pool8 2 #[] #[] 1537 4 #[] #[])
  fields := #[]
  methods := #[]
  instanceTypes := #[]
  staticTypes := #[]
  resolved := Array.replicate 8 none
  statics := none }

/-- the primitive byte -/
def k9 : Class := { plain "byte" none with kind := .primitive 'B', accessFlags := 0x411 }
/-- [B -/
def k10 : Class := { plain "[B" (some 0) with kind := .array 9 .byte, interfaces := #[8, 4], accessFlags := 1041 }

/-- the primitive int -/
def k11 : Class := { plain "int" none with kind := .primitive 'I', accessFlags := 0x411 }
/-- [I -/
def k12 : Class := { plain "[I" (some 0) with kind := .array 11 .int, interfaces := #[8, 4], accessFlags := 1041 }

/-- [Lcom/example/skipstone/skipstone/prune/Operator; -/
def k13 : Class := { plain "[Lcom/example/skipstone/skipstone/prune/Operator;" (some 0) with kind := .array 6 (.object "com/example/skipstone/skipstone/prune/Operator"), interfaces := #[8, 4], accessFlags := 1041 }

def heap : Heap := #[{ cls := 6, slots := #[.ref 1, .ref 2, .ref 3, .ref 4, .ref 5, .ref 6, .null], vm := .statics 6 },
  { cls := 6, slots := #[.null, .int 0, .int 0, .null], vm := .none },
  { cls := 6, slots := #[.null, .int 1, .int 0, .null], vm := .none },
  { cls := 6, slots := #[.null, .int 2, .int 0, .null], vm := .none },
  { cls := 6, slots := #[.null, .int 3, .int 0, .null], vm := .none },
  { cls := 6, slots := #[.null, .int 4, .int 0, .null], vm := .none },
  { cls := 6, slots := #[.null, .int 5, .int 0, .null], vm := .none }]
def classes : Array Class := #[k0, k1, k2, k3, k4, k5, k6, k7, k8, k9, k10, k11, k12, k13]
def interned : List (Array UInt16 × Addr) := []
def slotsUsed : Nat := 31
def theMethod : MethodId := ⟨1, 4⟩
def args0 : Array Value := #[.int 5, .int 1, .int 2, .int 3, .int 4, .int 5]
def aboutOver (below : List Frame) : State where
  vm := { classes := classes, interned := interned.toArray }
  heap := heap
  slotsUsed := slotsUsed
  threads := #[{ frames := .invoking theMethod args0 :: below }]
def below0 : List Frame := [.native { method := ⟨0, 0⟩, args := #[] }]
def about1 : State := aboutOver below0
def p0 : Program := .bare "" "" ""
def e0 : Env := launch0.env 0 0 0
theorem w_frames : about1.frames = Frame.invoking theMethod args0 :: below0 := rfl
set_option maxRecDepth 65536 in
theorem w_args : argsFit about1.vm theMethod args0 = true := by decide +kernel
set_option maxRecDepth 65536 in
theorem w_heap : heapFits about1 = true := by decide +kernel
set_option maxRecDepth 65536 in
theorem w_runnable : about1.curStatus? = some .runnable := by decide +kernel
set_option maxRecDepth 65536 in
theorem w_alone : about1.alone = true := by decide +kernel
set_option maxRecDepth 65536 in
theorem w_named : about1.methodNamed? x = some theMethod := by decide +kernel
set_option maxRecDepth 65536 in
theorem w_hears : about1.hears theMethod below0 = true := by decide +kernel
set_option maxRecDepth 65536 in
theorem w_ripe : about1.ripe theMethod args0 below0 = true := by decide +kernel
theorem w_running : about1.status = .running := rfl
set_option maxRecDepth 65536 in
theorem w_room : about1.hasRoom e0.platform room_1 = true :=
  launch0.hasRoom_least _ room_1 (by decide +kernel) (by decide +kernel) (by decide +kernel) (by decide +kernel) (by decide +kernel) (by decide +kernel)
theorem allAtoms_all (ts : List Jvm.Cond) (a : Array Jvm.Value) (st : Jvm.State) : (allAtoms ts).before a st = ts.all (fun c => c.before a st) := by
  induction ts with
  | nil => rfl
  | cons c t ih =>
    show (Jvm.Cond.and c (allAtoms t)).before a st = _
    rw [Jvm.Cond.before_and, ih, List.all_cons]
def words1 : List Jvm.Cond := Jvm.Cond.code x code maxLocals ret :: tables_1
/-- a 'code' word, met by the world's own term for the bytes: nothing is compared byte by byte -/
theorem code_word {y : MethodName} {bytes : ByteArray} {mx : Nat} {rt : Option FieldType} {a : Array Value} {s : State} {m : MethodId} {meth : Method} {c : Code} (h1 : s.methodNamed? y = some m) (h2 : s.vm.method? m = some meth) (h3 : meth.code = some c) (h4 : c.code = bytes)
    (h5 : (c.maxLocals == mx && c.exceptionTable.isEmpty && decide (c.maxStack ≤ mostOperands) && decide (meth.sig.returnType = rt) && !meth.locks && decide (parseMethodDescriptor y.desc = some meth.sig)) = true) : (Jvm.Cond.code y bytes mx rt).before a s = true := by
  simp only [Bool.and_eq_true, beq_iff_eq, Bool.not_eq_true', decide_eq_true_eq] at h5
  obtain ⟨⟨⟨⟨⟨g1, g2⟩, g3⟩, g4⟩, g5⟩, g6⟩ := h5
  simp [Cond.before, Cond.holds, Cond.value, h1, h2, h3, h4, g1, g2, g3, g4, g5, g6]
def isCode : Jvm.Cond → Bool
  | .code _ _ _ _ => true
  | _ => false
theorem all_split {L : List Jvm.Cond} {P : Jvm.Cond → Bool} (h1 : L.all (fun c => isCode c || P c) = true) (h2 : ∀ c ∈ L.filter isCode, P c = true) : L.all P = true := by
  refine List.all_eq_true.mpr fun c hc => ?_
  have h := List.all_eq_true.mp h1 c hc
  rcases Bool.eq_false_or_eq_true (isCode c) with hi | hi
  · exact h2 c (List.mem_filter.mpr ⟨hc, hi⟩)
  · simpa [hi] using h
set_option maxRecDepth 65536 in
theorem w_c0 : (Jvm.Cond.code x code maxLocals ret).before args0 about1 = true := code_word (m := ⟨1, 4⟩) (meth := k1m4) (c := k1c4) (by decide +kernel) rfl rfl rfl (by decide +kernel)
set_option maxRecDepth 65536 in
theorem w_c1 : (Jvm.Cond.code ({ cls := "java/lang/Math", name := "min", desc := "(II)I" } : Jvm.MethodName) jdk_29_method_69_code (2 : Nat) (Option.some Jvm.ClassFile.FieldType.int)).before args0 about1 = true := code_word (m := ⟨7, 2⟩) (meth := k7m2) (c := k7c2) (by decide +kernel) rfl rfl rfl (by decide +kernel)
set_option maxRecDepth 65536 in
theorem w_c2 : (Jvm.Cond.code ({ cls := "java/lang/Math", name := "max", desc := "(II)I" } : Jvm.MethodName) jdk_29_method_65_code (2 : Nat) (Option.some Jvm.ClassFile.FieldType.int)).before args0 about1 = true := code_word (m := ⟨7, 1⟩) (meth := k7m1) (c := k7c1) (by decide +kernel) rfl rfl rfl (by decide +kernel)
set_option maxRecDepth 65536 in
theorem w_c3 : (Jvm.Cond.code ({ cls := "com/example/skipstone/skipstone/prune/OperatorAdmitsPinLaw", name := "sign", desc := "(II)I" } : Jvm.MethodName) method_3_code (2 : Nat) (Option.some Jvm.ClassFile.FieldType.int)).before args0 about1 = true := code_word (m := ⟨1, 2⟩) (meth := k1m2) (c := k1c2) (by decide +kernel) rfl rfl rfl (by decide +kernel)
set_option maxRecDepth 65536 in
theorem w_c4 : (Jvm.Cond.code ({ cls := "com/example/skipstone/skipstone/prune/OperatorAdmitsPinLaw", name := "enc", desc := "(II)I" } : Jvm.MethodName) method_4_code (2 : Nat) (Option.some Jvm.ClassFile.FieldType.int)).before args0 about1 = true := code_word (m := ⟨1, 3⟩) (meth := k1m3) (c := k1c3) (by decide +kernel) rfl rfl rfl (by decide +kernel)
set_option maxRecDepth 65536 in
theorem w_c5 : (Jvm.Cond.code ({ cls := "com/example/skipstone/skipstone/prune/OperatorAdmitsPinLaw", name := "sat", desc := "(III)Z" } : Jvm.MethodName) method_2_code (3 : Nat) (Option.some Jvm.ClassFile.FieldType.boolean)).before args0 about1 = true := code_word (m := ⟨1, 1⟩) (meth := k1m1) (c := k1c1) (by decide +kernel) rfl rfl rfl (by decide +kernel)
set_option maxRecDepth 65536 in
theorem w_c6 : (Jvm.Cond.code ({ cls := "com/example/skipstone/skipstone/prune/Operator", name := "admits", desc := "(II)Z" } : Jvm.MethodName) prog_26_method_7_code (3 : Nat) (Option.some Jvm.ClassFile.FieldType.boolean)).before args0 about1 = true := code_word (m := ⟨6, 0⟩) (meth := k6m0) (c := k6c0) (by decide +kernel) rfl rfl rfl (by decide +kernel)
set_option maxRecDepth 65536 in
theorem w_c7 : (Jvm.Cond.code ({ cls := "java/lang/Enum", name := "ordinal", desc := "()I" } : Jvm.MethodName) jdk_37_method_2_code (1 : Nat) (Option.some Jvm.ClassFile.FieldType.int)).before args0 about1 = true := code_word (m := ⟨5, 0⟩) (meth := k5m0) (c := k5c0) (by decide +kernel) rfl rfl rfl (by decide +kernel)
def codes1 : List Jvm.Cond := [Jvm.Cond.code x code maxLocals ret, Jvm.Cond.code ({ cls := "java/lang/Math", name := "min", desc := "(II)I" } : Jvm.MethodName) jdk_29_method_69_code (2 : Nat) (Option.some Jvm.ClassFile.FieldType.int), Jvm.Cond.code ({ cls := "java/lang/Math", name := "max", desc := "(II)I" } : Jvm.MethodName) jdk_29_method_65_code (2 : Nat) (Option.some Jvm.ClassFile.FieldType.int), Jvm.Cond.code ({ cls := "com/example/skipstone/skipstone/prune/OperatorAdmitsPinLaw", name := "sign", desc := "(II)I" } : Jvm.MethodName) method_3_code (2 : Nat) (Option.some Jvm.ClassFile.FieldType.int), Jvm.Cond.code ({ cls := "com/example/skipstone/skipstone/prune/OperatorAdmitsPinLaw", name := "enc", desc := "(II)I" } : Jvm.MethodName) method_4_code (2 : Nat) (Option.some Jvm.ClassFile.FieldType.int), Jvm.Cond.code ({ cls := "com/example/skipstone/skipstone/prune/OperatorAdmitsPinLaw", name := "sat", desc := "(III)Z" } : Jvm.MethodName) method_2_code (3 : Nat) (Option.some Jvm.ClassFile.FieldType.boolean), Jvm.Cond.code ({ cls := "com/example/skipstone/skipstone/prune/Operator", name := "admits", desc := "(II)Z" } : Jvm.MethodName) prog_26_method_7_code (3 : Nat) (Option.some Jvm.ClassFile.FieldType.boolean), Jvm.Cond.code ({ cls := "java/lang/Enum", name := "ordinal", desc := "()I" } : Jvm.MethodName) jdk_37_method_2_code (1 : Nat) (Option.some Jvm.ClassFile.FieldType.int)]
set_option maxRecDepth 65536 in
theorem codes_eq : words1.filter isCode = codes1 := rfl
theorem w_codes : ∀ c ∈ words1.filter isCode, c.before args0 about1 = true := by
  rw [codes_eq]
  intro c hc
  simp only [codes1, List.mem_cons, List.not_mem_nil, or_false] at hc
  rcases hc with rfl | rfl | rfl | rfl | rfl | rfl | rfl | rfl
  · exact w_c0
  · exact w_c1
  · exact w_c2
  · exact w_c3
  · exact w_c4
  · exact w_c5
  · exact w_c6
  · exact w_c7
set_option maxRecDepth 65536 in
theorem w_t1 : (words1.take 24).all (fun c => isCode c || c.before args0 about1) = true := by decide +kernel
set_option maxRecDepth 65536 in
theorem w_t2 : ((words1.drop 24).take 24).all (fun c => isCode c || c.before args0 about1) = true := by decide +kernel
set_option maxRecDepth 65536 in
theorem w_t3 : ((words1.drop 24).drop 24).all (fun c => isCode c || c.before args0 about1) = true := by decide +kernel
theorem w_tables : (allAtoms (Jvm.Cond.code x code maxLocals ret :: tables_1)).before args0 about1 = true := by
  rw [allAtoms_all]
  show words1.all (fun c => c.before args0 about1) = true
  refine all_split ?_ w_codes
  rw [← List.take_append_drop 24 words1, List.all_append, w_t1, ← List.take_append_drop 24 (words1.drop 24), List.all_append, w_t2, w_t3]
  rfl
set_option maxRecDepth 65536 in
theorem w_case : (Jvm.Cond.and given_1 narrow_1).before args0 about1 = true := by decide +kernel
theorem w_applies : (headSpec (Jvm.Cond.code x code maxLocals ret :: tables_1) room_1).applies x e0.platform about1 = true :=
  (Spec.applies_iff w_frames).mpr ⟨w_running, w_runnable, w_alone, w_named, w_hears, w_ripe, w_room, w_tables⟩
theorem atStart : AtStart classFile x code maxLocals ret World_1 tables_1 room_1 Calls_1 rest_1 Pre_1 launch0 p0 e0 about1 theMethod args0 below0 :=
  ⟨lists_1, trivial, launch0.admits_env _ _ _, launch0.least_env, fairChoices_fair.cas, fairChoices_fair.clock, w_frames, w_args, w_heap, w_applies, trivial, trivial, w_case⟩
end start1
theorem witness_1 : WitnessClaimed_1 := ⟨start1.p0, start1.e0, start1.about1, start1.theMethod, start1.args0, start1.below0, start1.atStart⟩
end Jvm.Pilot.@@N@@
