import JvmDerived
import JvmDerived.Pilot.@@N@@Statement
import JvmDerived.Pilot.@@N@@Code
set_option linter.unusedVariables false
set_option linter.unusedSimpArgs false
namespace Jvm.Pilot.@@N@@
open Jvm Jvm.ClassFile Sem Op Lib Jvm.Free Jvm.Stand Jvm.LawKit Jvm.RoadKit Bundle Jvm.Pilot.@@N@@.Jvm.D
/-! own layer: a run that ends well, said backwards -/
section OwnGo
variable {p : Program} {l : Launch} {e : Env} {R : Room} {s : State} {m : MethodId} {args : Array Value} {below : List Frame} {meth : Method} {c : Code} {T T' : State} {locs : List Loc} {cells slots : Nat} {Z : State} {a0 : Array Value} {h : Heap} {Q : Option Value → Heap → List Loc → Prop} {C S maxL0 : Nat} {g g' : JFrame}
def Go (p : Program) (e : Env) (below : List Frame) (s : State) (Q : Option Value → Heap → List Loc → Prop) (C S : Nat) (T : State) (g : JFrame) : Prop :=
  ∃ s₂ o, Steps p.tables e below (T.setTop g) s₂ ∧ s₂.status = .running ∧ Ended s₂ below o ∧ ∃ v L, o = .returned v ∧ Q v s₂.heap L ∧ FrameEnd s o s₂ L C S
def Ct (p : Program) (s : State) (m : MethodId) (meth : Method) (c : Code) (Z : State) (own nm : String) (bytes : ByteArray) (maxL : Nat) (ret : Option FieldType) : Prop :=
  p.tables.exec = Jvm.exec ∧ Z.Warmed39 s.vm ∧ s.vm.findClass own = some m.cls ∧ c.code = bytes ∧ c.maxLocals = maxL ∧ meth.sig.returnType = ret ∧ meth.locks = false ∧ meth.name = nm
theorem go_st (k : ∀ t, Steps p.tables e below (T'.setTop g') t → Steps p.tables e below (T.setTop g) t) (q : Go p e below s Q C S T' g') : Go p e below s Q C S T g := by
  obtain ⟨s2, o, q1, q2⟩ := q
  exact ⟨s2, o, k _ q1, q2⟩
theorem castGo (q : g = g') (k : Go p e below s Q C S T g') : Go p e below s Q C S T g := by rw [q]; exact k
theorem go_tr (k : Steps p.tables e below (T.setTop g) (T'.setTop g')) (q : Go p e below s Q C S T' g') : Go p e below s Q C S T g := by
  obtain ⟨s2, o, q1, q2⟩ := q
  exact ⟨s2, o, k.trans q1, q2⟩
theorem go_end (X : Stand p l e R s m args below meth c T locs cells slots) (hlk : meth.locks = false) {v : Option Value} (hv : meth.sig.returnType = none → v = none)
    (hr : ∀ fs, (∀ (f : JFrame) (acts : List Action), f.method = m → f.locked = none → f.entered = [] → (doReturn e (T.setTop f) acts v).1 = T.setFrames fs) → Steps p.tables e below (T.setTop g) (T.setFrames fs))
    (hC : cells ≤ C) (hS : slots ≤ S) (hQ : Q v T.heap locs) : Go p e below s Q C S T g := by
  obtain ⟨fs, h1, hrun, hended, hW, hsame⟩ := X.leave (v := v) hv hlk
  exact ⟨_, _, hr fs h1, hrun, hended, _, _, rfl, hQ, ⟨_, rfl⟩, hW, hsame.mono hC hS⟩
theorem go_retI (X : Stand p l e R s m args below meth c T locs cells slots) (hx : p.tables.exec = Jvm.exec) (hlk : meth.locks = false) (hret : meth.sig.returnType = some .int) {pc : Nat} {Ls : Array Slot} {z : Int32} {rest : List Value} (hd : decode c.code pc = .ok (.ireturn, 1))
    (hC : cells ≤ C) (hS : slots ≤ S) (hQ : Q (some (.int z)) T.heap locs) : Go p e below s Q C S T (mkF m pc Ls (.int z :: rest)) :=
  go_end X hlk (fun h => by rw [hret] at h; cases h) (fun fs h1 => retOut X hx hret rfl (Or.inl ⟨rfl, Or.inl rfl, _, rfl⟩) hd h1) hC hS hQ
theorem go_retL (X : Stand p l e R s m args below meth c T locs cells slots) (hx : p.tables.exec = Jvm.exec) (hlk : meth.locks = false) (hret : meth.sig.returnType = some .long) {pc : Nat} {Ls : Array Slot} {z : Int64} {rest : List Value} (hd : decode c.code pc = .ok (.lreturn, 1))
    (hC : cells ≤ C) (hS : slots ≤ S) (hQ : Q (some (.long z)) T.heap locs) : Go p e below s Q C S T (mkF m pc Ls (.long z :: rest)) :=
  go_end X hlk (fun h => by rw [hret] at h; cases h) (fun fs h1 => retOut X hx hret rfl (Or.inr (Or.inl ⟨rfl, rfl, _, rfl⟩)) hd h1) hC hS hQ
theorem go_retD (X : Stand p l e R s m args below meth c T locs cells slots) (hx : p.tables.exec = Jvm.exec) (hlk : meth.locks = false) (hret : meth.sig.returnType = some .double) {pc : Nat} {Ls : Array Slot} {z : UInt64} {rest : List Value} (hd : decode c.code pc = .ok (.dreturn, 1))
    (hC : cells ≤ C) (hS : slots ≤ S) (hQ : Q (some (.double z)) T.heap locs) : Go p e below s Q C S T (mkF m pc Ls (.double z :: rest)) :=
  go_end X hlk (fun h => by rw [hret] at h; cases h) (fun fs h1 => retOut X hx hret rfl (Or.inr (Or.inr (Or.inl ⟨rfl, rfl, _, rfl⟩))) hd h1) hC hS hQ
theorem go_retA (X : Stand p l e R s m args below meth c T locs cells slots) (hx : p.tables.exec = Jvm.exec) (hlk : meth.locks = false) {t : FieldType} (hret : meth.sig.returnType = some t) (ht : t.isReference = true) {w : Value} (hw : w.isRef = true) {pc : Nat} {Ls : Array Slot} {rest : List Value} (hd : decode c.code pc = .ok (.areturn, 1))
    (hC : cells ≤ C) (hS : slots ≤ S) (hQ : Q (some w) T.heap locs) : Go p e below s Q C S T (mkF m pc Ls (w :: rest)) :=
  go_end X hlk (fun h => by rw [hret] at h; cases h) (fun fs h1 => retOut X hx hret (by cases t <;> simp_all [FieldType.isReference, narrow] <;> cases w <;> simp_all [Value.isRef, narrow]) (Or.inr (Or.inr (Or.inr (Or.inr ⟨rfl, ht, hw⟩)))) hd h1) hC hS hQ
theorem go_retB (X : Stand p l e R s m args below meth c T locs cells slots) (hx : p.tables.exec = Jvm.exec) (hlk : meth.locks = false) (hret : meth.sig.returnType = some .boolean) {pc : Nat} {Ls : Array Slot} {z w : Int32} {rest : List Value} (hd : decode c.code pc = .ok (.ireturn, 1)) (hw : z &&& 1 = w)
    (hC : cells ≤ C) (hS : slots ≤ S) (hQ : Q (some (.int w)) T.heap locs) : Go p e below s Q C S T (mkF m pc Ls (.int z :: rest)) := by
  subst hw
  exact go_end X hlk (fun h => by rw [hret] at h; cases h) (fun fs h1 => retN X hx (t := .boolean) hret (by simp) hd h1) hC hS hQ
theorem go_ret0 (X : Stand p l e R s m args below meth c T locs cells slots) (hx : p.tables.exec = Jvm.exec) (hlk : meth.locks = false) (hret : meth.sig.returnType = none) {pc : Nat} {Ls : Array Slot} (hd : decode c.code pc = .ok (.return_, 1))
    (hC : cells ≤ C) (hS : slots ≤ S) (hQ : Q none T.heap locs) : Go p e below s Q C S T (mkF m pc Ls []) :=
  go_end X hlk (fun _ => rfl) (fun fs h1 => X.returnOut hx hret hd h1) hC hS hQ
def Met (l : Launch) (y : MethodName) (bytes : ByteArray) (maxL : Nat) (ret : Option FieldType) (ws : List Cond) (rm : Room) (Z : State) (as' : Array Value) (h0 : Heap) (Q : Option Value → Heap → List Loc → Prop) (C S : Nat) : Prop :=
  MetFree l y (head1 (Jvm.Cond.code y bytes maxL ret :: ws) rm) (fun a U => a = as' ∧ Z.Warmed39 U.vm ∧ U.heap = h0) (fun _ _ _ _ _ => True) (fun _ U o U' => ∃ v L, o = .returned v ∧ Q v U'.heap L ∧ FrameEnd U o U' L C S)
def QV (w : Option Value) (h0 : Heap) (n0 : Nat) (v : Option Value) (h : Heap) (L : List Loc) : Prop := v = w ∧ Fr n0 L ∧ h = h0
def QF (w : Option Value) (n0 : Nat) (v : Option Value) (h : Heap) (L : List Loc) : Prop := v = w ∧ Fr n0 L
theorem own_body {y : MethodName} {bytes : ByteArray} {maxL : Nat} {ret : Option FieldType} {rm : Room} {as' : Array Value} {h0 : Heap} {ws : List Cond} (hn : plainFor y = true) {C S : Nat}
    (H : ∀ p e s m below meth c s₁, Ct p s m meth c Z y.cls y.name bytes maxL ret → Stand p l e rm s m as' below meth c s₁ [] 0 0 → s₁.heap = h0 → Go p e below s Q C S s₁ (entryFrame m as' maxL)) :
    Met l y bytes maxL ret ws rm Z as' h0 Q C S := by
  refine MetFree.of_bodySF hn hisR ?_
  intro p e s m args below meth c s₁ Bd hml0 hP hK
  obtain ⟨rfl, hZ, hh⟩ := hP
  have hown : s.vm.findClass y.cls = some m.cls := findClass_of_methodNamed Bd.named
  have hnm := (name_of_methodNamed Bd.named Bd.method).1
  have X0 : Stand p l e rm s m args below meth c s₁ [] 0 0 := Stand.of_body Bd
  have e0 : s₁.heap = h0 := by rw [← hh, Bd.state]; rfl
  exact H p e s m below meth c s₁ ⟨Bd.exec, hZ, hown, Bd.bytes, hml0, Bd.returns, Bd.notSynchronized, hnm⟩ X0 e0
theorem go_callS (X : Stand p l e R s m args below meth c T locs cells slots) (hx : p.tables.exec = Jvm.exec) (hZ : Z.Warmed39 s.vm) (hml : c.maxLocals = maxL0) {own : String} {index : Nat} {y : MethodName} {bytes : ByteArray} {maxL : Nat} {ret : Option FieldType} (hown : s.vm.findClass own = some m.cls)
    (w1 : (Cond.methodLink own index y).before a0 Z = true) (w2 : (Cond.static y).before a0 Z = true) (w3 : (Cond.initialized y.cls).before a0 Z = true) (w4 : (Cond.code y bytes maxL ret).before a0 Z = true) (eT : T.heap = h) {argsL rest : List Value} {rm : Room} {Q' : Option Value → Heap → List Loc → Prop} {W : Nat}
    (hM : Met l y bytes maxL ret [] rm Z argsL.toArray h Q' rm.cells rm.slots)
    (hd : decode c.code g.pc = .ok (.invokestatic index, 3)) (hs : g.stack = argsL.reverse ++ rest) (hg : g.method = m) (hsz : g.locals.size = maxL0) (hlen : ∀ sig, parseMethodDescriptor y.desc = some sig → argsL.length = sig.parameters.length) (hW : 2 * g.monitorRoom + (rest.map fun v => v.category).sum ≤ W)
    (hy : y.cls ≠ "java/lang/invoke/MethodHandle" ∧ y.cls ≠ "java/lang/invoke/VarHandle") (hf : rm.frames + 1 ≤ R.frames) (hl : W + (maxL + 11) + rm.locals ≤ R.locals) (hc : cells + rm.cells ≤ R.cells) (hsl : slots + rm.slots ≤ R.slots)
    (k : ∀ T' v L, Stand p l e R s m args below meth c T' (locs ++ L) (cells + rm.cells) (slots + rm.slots) → Q' v T'.heap L → Go p e below s Q C S T' { g with pc := g.pc + 3, stack := v.toList ++ rest }) : Go p e below s Q C S T g := by
  obtain ⟨v, _, ⟨T1, L1, k1, n1⟩, -, X1, ⟨Lc, hQ, l1, y1, z1⟩, st⟩ := Jvm.LawKit.callS X hx (y := y) hown (mvT hZ w1) (mvT hZ w2) (mvT hZ w3) (mvT hZ w4) hy (backOf (W := W) hM hZ w4 w3 hf hl) (g := g) hg (hsz.trans hml.symm) (argsL := argsL) (rest := rest) hlen hs hW hd (fun _ _ => ⟨rfl, eT, hc, hsl⟩)
  dsimp only [Pt.U, Pt.locs, Pt.cells, Pt.slots] at X1 l1 y1 z1 st hQ
  subst l1 y1 z1
  exact go_st st (k _ _ _ X1 hQ)
theorem go_callV (X : Stand p l e R s m args below meth c T locs cells slots) (hx : p.tables.exec = Jvm.exec) (hZ : Z.Warmed39 s.vm) (hml : c.maxLocals = maxL0) {own K : String} {index : Nat} {y z : MethodName} {bytes : ByteArray} {maxL : Nat} {ret : Option FieldType} (hown : s.vm.findClass own = some m.cls)
    (w1 : (Cond.methodLink own index y).before a0 Z = true) (w2 : (Cond.declares y).before a0 Z = true) (w2' : NotFace s y) (w3 : (Cond.selects K y z).before a0 Z = true) (w3' : (Cond.instanceMethod z).before a0 Z = true) (w4 : (Cond.code z bytes maxL ret).before a0 Z = true) (w5 : (Cond.initialized z.cls).before a0 Z = true) (eT : T.heap = h) {a : Addr} (E : Exa Z h a K) {argsL rest : List Value} {rm : Room} {Q' : Option Value → Heap → List Loc → Prop} {W : Nat}
    (hM : Met l z bytes maxL ret [] rm Z (.ref a :: argsL).toArray h Q' rm.cells rm.slots)
    (hd : decode c.code g.pc = .ok (.invokevirtual index, 3)) (hs : g.stack = argsL.reverse ++ .ref a :: rest) (hg : g.method = m) (hsz : g.locals.size = maxL0) (hlen : ∀ sig, parseMethodDescriptor y.desc = some sig → argsL.length = sig.parameters.length) (hW : 2 * g.monitorRoom + (rest.map fun v => v.category).sum ≤ W)
    (hy : y.cls ≠ "java/lang/invoke/MethodHandle" ∧ y.cls ≠ "java/lang/invoke/VarHandle") (hf : rm.frames + 1 ≤ R.frames) (hl : W + (maxL + 11) + rm.locals ≤ R.locals) (hc : cells + rm.cells ≤ R.cells) (hsl : slots + rm.slots ≤ R.slots)
    (k : ∀ T' v L, Stand p l e R s m args below meth c T' (locs ++ L) (cells + rm.cells) (slots + rm.slots) → Q' v T'.heap L → Go p e below s Q C S T' { g with pc := g.pc + 3, stack := v.toList ++ rest }) : Go p e below s Q C S T g := by
  obtain ⟨cB, kB, q1, q2, q3⟩ := isOf hZ eT E
  obtain ⟨v, _, ⟨T1, L1, k1, n1⟩, -, X1, ⟨Lc, hQ, l1, y1, z1⟩, st⟩ := X.virtualBack hx (y := y) (z := z) hown (mvT hZ w1) (mvT hZ w2) w2' (mvT hZ w3) (mvT hZ w3') hy (backOf (W := W) hM hZ w4 w5 hf hl) q1 q3 (g := g) hg (hsz.trans hml.symm) (Steps.refl _) (argsL := argsL) (rest := rest) hlen hs hW hd (fun _ _ => ⟨rfl, eT, hc, hsl⟩)
  dsimp only [Pt.U, Pt.locs, Pt.cells, Pt.slots] at X1 l1 y1 z1 st hQ
  subst l1 y1 z1
  exact go_tr st (k _ _ _ X1 hQ)
theorem go_callU (X : Stand p l e R s m args below meth c T locs cells slots) (hx : p.tables.exec = Jvm.exec) (hZ : Z.Warmed39 s.vm) (hml : c.maxLocals = maxL0) {own K owner : String} {index : Nat} {y z : MethodName} {bytes : ByteArray} {maxL : Nat} {ret : Option FieldType} (hown : s.vm.findClass own = some m.cls)
    (w1 : (Cond.methodLink own index y).before a0 Z = true) (w2 : (Cond.sameMethod y.cls owner y.name y.desc).before a0 Z = true) (w2' : (Cond.declares ⟨owner, y.name, y.desc⟩).before a0 Z = true) (ho : owner ≠ "java/lang/invoke/MethodHandle" ∧ owner ≠ "java/lang/invoke/VarHandle") (w3 : (Cond.selects K y z).before a0 Z = true) (w3' : (Cond.instanceMethod z).before a0 Z = true) (w4 : (Cond.code z bytes maxL ret).before a0 Z = true) (w5 : (Cond.initialized z.cls).before a0 Z = true) (eT : T.heap = h) {a : Addr} (E : Exa Z h a K) {argsL rest : List Value} {rm : Room} {Q' : Option Value → Heap → List Loc → Prop} {W : Nat}
    (hM : Met l z bytes maxL ret [] rm Z (.ref a :: argsL).toArray h Q' rm.cells rm.slots)
    (hd : decode c.code g.pc = .ok (.invokevirtual index, 3)) (hs : g.stack = argsL.reverse ++ .ref a :: rest) (hg : g.method = m) (hsz : g.locals.size = maxL0) (hlen : ∀ sig, parseMethodDescriptor y.desc = some sig → argsL.length = sig.parameters.length) (hW : 2 * g.monitorRoom + (rest.map fun v => v.category).sum ≤ W)
    (hf : rm.frames + 1 ≤ R.frames) (hl : W + (maxL + 11) + rm.locals ≤ R.locals) (hc : cells + rm.cells ≤ R.cells) (hsl : slots + rm.slots ≤ R.slots)
    (k : ∀ T' v L, Stand p l e R s m args below meth c T' (locs ++ L) (cells + rm.cells) (slots + rm.slots) → Q' v T'.heap L → Go p e below s Q C S T' { g with pc := g.pc + 3, stack := v.toList ++ rest }) : Go p e below s Q C S T g := by
  obtain ⟨cB, kB, q1, q2, q3⟩ := isOf hZ eT E
  obtain ⟨v, _, ⟨T1, L1, k1, n1⟩, -, X1, ⟨Lc, hQ, l1, y1, z1⟩, st⟩ := X.virtualBackUp hx (x := y) (y := z) hown (mvT hZ w1) (mvT hZ w2) (mvT hZ w2') ho (mvT hZ w3) (mvT hZ w3') (backOf (W := W) hM hZ w4 w5 hf hl) q1 q3 (g := g) hg (hsz.trans hml.symm) (Steps.refl _) (argsL := argsL) (rest := rest) hlen hs hW hd (fun _ _ => ⟨rfl, eT, hc, hsl⟩)
  dsimp only [Pt.U, Pt.locs, Pt.cells, Pt.slots] at X1 l1 y1 z1 st hQ
  subst l1 y1 z1
  exact go_tr st (k _ _ _ X1 hQ)
theorem go_callI (X : Stand p l e R s m args below meth c T locs cells slots) (hx : p.tables.exec = Jvm.exec) (hZ : Z.Warmed39 s.vm) (hml : c.maxLocals = maxL0) {own : String} {index : Nat} {y : MethodName} {bytes : ByteArray} {maxL : Nat} (hown : s.vm.findClass own = some m.cls) (hy1 : y.name = "<init>")
    (w1 : (Cond.methodLink own index y).before a0 Z = true) (w2 : (Cond.instanceMethod y).before a0 Z = true) (w4 : (Cond.code y bytes maxL none).before a0 Z = true) (w5 : (Cond.initialized y.cls).before a0 Z = true) (eT : T.heap = h) {a : Addr} {argsL rest : List Value} {rm : Room} {Q' : Option Value → Heap → List Loc → Prop} {W : Nat}
    (hM : Met l y bytes maxL none [] rm Z (.ref a :: argsL).toArray h Q' rm.cells rm.slots)
    (hd : decode c.code g.pc = .ok (.invokespecial index, 3)) (hs : g.stack = argsL.reverse ++ .ref a :: rest) (hg : g.method = m) (hsz : g.locals.size = maxL0) (hlen : ∀ sig, parseMethodDescriptor y.desc = some sig → argsL.length = sig.parameters.length) (hW : 2 * g.monitorRoom + (rest.map fun v => v.category).sum ≤ W)
    (hy : y.cls ≠ "java/lang/invoke/MethodHandle" ∧ y.cls ≠ "java/lang/invoke/VarHandle") (hf : rm.frames + 1 ≤ R.frames) (hl : W + (maxL + 11) + rm.locals ≤ R.locals) (hc : cells + rm.cells ≤ R.cells) (hsl : slots + rm.slots ≤ R.slots)
    (k : ∀ T' v L, Stand p l e R s m args below meth c T' (locs ++ L) (cells + rm.cells) (slots + rm.slots) → Q' v T'.heap L → Go p e below s Q C S T' { g with pc := g.pc + 3, stack := v.toList ++ rest }) : Go p e below s Q C S T g := by
  obtain ⟨v, _, ⟨T1, L1, k1, n1⟩, -, X1, ⟨Lc, hQ, l1, y1, z1⟩, st⟩ := X.specialBack hx (y := y) hy1 hown (mvT hZ w1) (mvT hZ w2) (mvT hZ w4) hy (backOf (W := W) hM hZ w4 w5 hf hl) (g := g) hg (hsz.trans hml.symm) (Steps.refl _) (a := a) (argsL := argsL) (rest := rest) hlen hs hW hd (fun _ _ => ⟨rfl, eT, hc, hsl⟩)
  dsimp only [Pt.U, Pt.locs, Pt.cells, Pt.slots] at X1 l1 y1 z1 st hQ
  subst l1 y1 z1
  exact go_tr st (k _ _ _ X1 hQ)
theorem go_getF (X : Stand p l e R s m args below meth c T locs cells slots) (hx : p.tables.exec = Jvm.exec) (hZ : Z.Warmed39 s.vm) {own R0 O n d host : String} {index : Nat} (hown : s.vm.findClass own = some m.cls) (w : (Cond.fieldLink own index R0 n d).before a0 Z = true ∨ (Cond.fieldLinkNest own index R0 n d host).before a0 Z = true) (via : Via Z R0 O n d)
    (eT : T.heap = h) {a : Addr} {v : Value} (F : Fld Z h a O n d v) {rest : List Value} (hd : decode c.code g.pc = .ok (.getfield index, 3)) (hg : g.method = m) (hs : g.stack = .ref a :: rest)
    (k : ∀ T', Stand p l e R s m args below meth c T' locs cells slots → T'.heap = h → Go p e below s Q C S T' { g with pc := g.pc + 3, stack := v :: rest }) : Go p e below s Q C S T g := by
  obtain ⟨T1, X1, e1, st⟩ := getF X hx hZ hown w via eT F hg hs hd
  exact go_st st (k _ X1 e1)
theorem go_getS (X : Stand p l e R s m args below meth c T locs cells slots) (hx : p.tables.exec = Jvm.exec) (hZ : Z.Warmed39 s.vm) {own R0 O n d host : String} {index : Nat} (hown : s.vm.findClass own = some m.cls) (w : (Cond.fieldLink own index R0 n d).before a0 Z = true ∨ (Cond.fieldLinkNest own index R0 n d host).before a0 Z = true) (via : Via Z R0 O n d)
    (eT : T.heap = h) {v : Value} (F : Sta Z h O n d v) (hd : decode c.code g.pc = .ok (.getstatic index, 3)) (hg : g.method = m)
    (k : ∀ T', Stand p l e R s m args below meth c T' locs cells slots → T'.heap = h → Go p e below s Q C S T' { g with pc := g.pc + 3, stack := v :: g.stack }) : Go p e below s Q C S T g := by
  obtain ⟨T1, X1, e1, st⟩ := getS2 X hx hZ hown w via eT F hg hd
  exact go_st st (k _ X1 e1)
theorem go_putF (X : Stand p l e R s m args below meth c T locs cells slots) (hx : p.tables.exec = Jvm.exec) (hZ : Z.Warmed39 s.vm) {own R0 O n d host K : String} {index kk : Nat} {ty : FieldType} (hown : s.vm.findClass own = some m.cls) (w : (Cond.fieldLink own index R0 n d).before a0 Z = true ∨ (Cond.fieldLinkNest own index R0 n d host).before a0 Z = true) (via : Via Z R0 O n d)
    (eT : T.heap = h) {a : Addr} {v old : Value} (F : Fld Z h a O n d old) (E : Exa Z h a K) (L : (Cond.lays K O n d).before a0 Z = true ∨ ((Cond.laysFinal K O n d).before a0 Z = true ∧ own = O ∧ meth.name = "<init>")) (wi : (Cond.instantiable K kk).before a0 Z = true)
    (hty : parseFieldDescriptor d = some ty) (hn : narrow ty v = v) (hf : fits ty v = true) {rest : List Value} (hd : decode c.code g.pc = .ok (.putfield index, 3)) (hg : g.method = m) (hs : g.stack = v :: .ref a :: rest)
    (k : ∀ T' h', Stand p l e R s m args below meth c T' (locs ++ [⟨a, Jvm.RoadKit.slotOf Z O n d⟩]) cells slots → T'.heap = h' → Wr h h' a (Jvm.RoadKit.slotOf Z O n d) v → Go p e below s Q C S T' { g with pc := g.pc + 3, stack := rest }) : Go p e below s Q C S T g := by
  obtain ⟨T1, h1, X1, e1, W1, st⟩ := putF X hx hZ hown w via eT F E L wi hty hn hf hg hs hd
  exact go_st st (k _ _ X1 e1 W1)
theorem go_newO (X : Stand p l e R s m args below meth c T locs cells slots) (hx : p.tables.exec = Jvm.exec) (hZ : Z.Warmed39 s.vm) {own K : String} {index n : Nat} (hown : s.vm.findClass own = some m.cls) (w : (Cond.classLink own index K).before a0 Z = true) (wi : (Cond.instantiable K n).before a0 Z = true) (wz : (Cond.initialized K).before a0 Z = true) (eT : T.heap = h)
    (hd : decode c.code g.pc = .ok (.new index, 3)) (hg : g.method = m) (hc : cells + 1 ≤ R.cells) (hl : slots + n ≤ R.slots)
    (k : ∀ T' h' a, a = h.size → Stand p l e R s m args below meth c T' locs (cells + 1) (slots + n) → T'.heap = h' → Ext h h' → Exa Z h' a K → (∀ {O nm d : String} {ty : FieldType}, Laid Z a0 K O nm d → parseFieldDescriptor d = some ty → Fld Z h' a O nm d (defaultValue ty)) → Go p e below s Q C S T' { g with pc := g.pc + 3, stack := .ref a :: g.stack }) : Go p e below s Q C S T g := by
  obtain ⟨T1, h1, X1, e1, E1, A1, D1, -, st⟩ := newO X hx hZ hown w wi wz eT hg hd hc hl
  exact go_st st (k _ _ _ rfl X1 e1 E1 A1 D1)
theorem go_initO (X : Stand p l e R s m args below meth c T locs cells slots) (hx : p.tables.exec = Jvm.exec) (hZ : Z.Warmed39 s.vm) (hml : c.maxLocals = maxL0) {own : String} {idx : Nat} (hown : s.vm.findClass own = some m.cls) (w1 : (Cond.methodLink own idx Lib.objectInit).before a0 Z = true) (w2 : (Cond.instanceMethod Lib.objectInit).before a0 Z = true)
    (w3 : (Cond.code Lib.objectInit ⟨#[0xb1]⟩ 1 none).before a0 Z = true) (eT : T.heap = h) {a : Addr} {rest : List Value} (hd : decode c.code g.pc = .ok (.invokespecial idx, 3)) (hg : g.method = m) (hsz : g.locals.size = maxL0) (hs : g.stack = .ref a :: rest)
    (hf : 1 ≤ R.frames) {W : Nat} (hW : 2 * g.monitorRoom + (rest.map fun v => v.category).sum ≤ W) (hl : W + 12 ≤ R.locals)
    (k : ∀ T', Stand p l e R s m args below meth c T' locs cells slots → T'.heap = h → Go p e below s Q C S T' { g with pc := g.pc + 3, stack := rest }) : Go p e below s Q C S T g := by
  obtain ⟨T1, X1, e1, st⟩ := initO X hx hZ hown w1 w2 w3 eT hg (hsz.trans hml.symm) hs hd hf hW hl
  exact go_st st (k _ X1 e1)
theorem own_lrem {tb : Tables} [Ours tb] {target : State} (hh : At T m c below) (hx : tb.exec = Jvm.exec) (hg : g.method = m) {x y : Int64} {rest : List Value} (hd : decode c.code g.pc = .ok (.lrem, 1)) (hs : g.stack = .long y :: .long x :: rest) (hy : y ≠ 0)
    (hr : Steps tb e below (T.setTop { g with pc := g.pc + 1, stack := .long (x % y) :: rest }) target) : Steps tb e below (T.setTop g) target :=
  XT.lrem hh hx hg hd hs hy (by rw [lrem_mod]; exact hr)
/-! arrays, their places by a function -/
def GA (Z : State) (h : Heap) (a : Addr) (ty : FieldType) (n : Nat) (f : Nat → Value) : Prop := ∃ cl : Cell, Arr Z h a cl ty ∧ cl.slots.size = n ∧ n < 2 ^ 31 ∧ ∀ i, i < n → cl.slots[i]? = some (f i)
theorem GA.lt {a : Addr} {ty : FieldType} {n : Nat} {f : Nat → Value} (A : GA Z h a ty n f) : a < h.size := by
  obtain ⟨cl, A1, -⟩ := A
  exact A1.lt
theorem GA.ext {a : Addr} {ty : FieldType} {n : Nat} {f : Nat → Value} {h' : Heap} (A : GA Z h a ty n f) (E : Ext h h') : GA Z h' a ty n f := by
  obtain ⟨cl, A1, r⟩ := A
  exact ⟨cl, A1.ext E, r⟩
theorem GA.other {a b : Addr} {ty : FieldType} {n sl : Nat} {v : Value} {f : Nat → Value} {h' : Heap} (A : GA Z h b ty n f) (W : Wr h h' a sl v) (q : b ≠ a) : GA Z h' b ty n f := by
  obtain ⟨cl, A1, r⟩ := A
  exact ⟨cl, A1.other W q, r⟩
theorem GA.keep {a : Addr} {ty : FieldType} {n : Nat} {f : Nat → Value} {h' : Heap} {ws : List Addr} (A : GA Z h a ty n f) (K : Keep h h' ws) (q : a ∉ ws) : GA Z h' a ty n f := by
  obtain ⟨cl, A1, r⟩ := A
  exact ⟨cl, ⟨K.2.1 _ _ A1.1 q, A1.2⟩, r⟩
theorem GA.congr {a : Addr} {ty : FieldType} {n : Nat} {f f' : Nat → Value} (A : GA Z h a ty n f) (q : ∀ i, i < n → f i = f' i) : GA Z h a ty n f' := by
  obtain ⟨cl, A1, A2, A3, A4⟩ := A
  exact ⟨cl, A1, A2, A3, fun i hi => (A4 i hi).trans (by rw [q i hi])⟩
theorem GA.set {a : Addr} {ty : FieldType} {n j : Nat} {v : Value} {f : Nat → Value} {h' : Heap} (A : GA Z h a ty n f) (W : Wr h h' a j v) : GA Z h' a ty n (fun i => if i = j then v else f i) := by
  obtain ⟨cl, A1, A2, A3, A4⟩ := A
  obtain ⟨c2, w1, w2, w3, w4⟩ := W
  obtain rfl : cl = c2 := Option.some.inj (A1.1.symm.trans w1)
  refine ⟨cl.setSlot j v, A1.same ⟨cl, w1, w2, w3, w4⟩, (sz_set cl j v).trans A2, A3, fun i hi => ?_⟩
  show (cl.slots.setIfInBounds j v)[i]? = _
  rw [Array.getElem?_setIfInBounds]
  by_cases q : i = j
  · subst q
    rw [if_pos rfl, if_pos w3]
    simp only [if_true]
  · rw [if_neg (fun h => q h.symm)]
    simp only [if_neg q]
    exact A4 i hi
theorem GA.len {a : Addr} {ty : FieldType} {n : Nat} {f : Nat → Value} (A : GA Z h a ty n f) : n < 2 ^ 31 := by
  obtain ⟨cl, -, -, A3, -⟩ := A
  exact A3
def OC (Z : State) (h : Heap) (a : Addr) (ty : FieldType) (K : String) : Prop := ∃ cl : Cell, Arr Z h a cl ty ∧ Ovr Z cl.cls K
theorem OC.ext {a : Addr} {ty : FieldType} {K : String} {h' : Heap} (A : OC Z h a ty K) (E : Ext h h') : OC Z h' a ty K := by
  obtain ⟨cl, A1, A2⟩ := A
  exact ⟨cl, A1.ext E, A2⟩
theorem OC.wr {a b : Addr} {ty : FieldType} {K : String} {sl : Nat} {v : Value} {h' : Heap} (A : OC Z h b ty K) (W : Wr h h' a sl v) : OC Z h' b ty K := by
  obtain ⟨cl, A1, A2⟩ := A
  by_cases q : b = a
  · subst q
    exact ⟨_, A1.same W, A2⟩
  · exact ⟨cl, A1.other W q, A2⟩
theorem OC.keep {b : Addr} {ty : FieldType} {K : String} {h' : Heap} {ws : List Addr} (A : OC Z h b ty K) (Kp : Keep h h' ws) : OC Z h' b ty K := by
  obtain ⟨cl, ⟨A1, A3, A4⟩, A2⟩ := A
  obtain ⟨c', q1, q2, q3, q4⟩ := Kp.2.2 _ _ A1
  refine ⟨c', ⟨q1, ?_, by rw [q3]; exact A4⟩, by rw [q2]; exact A2⟩
  unfold State.isArrayOf at A3 ⊢
  rw [q2, q3]
  exact A3
theorem OC.sto {a y : Addr} {ty : FieldType} {K : String} (A : OC Z h a ty K) (I : Ins Z h y K true) : Sto Z h a (.ref y) := by
  obtain ⟨cl, A1, A2⟩ := A
  exact Sto.of A1 A2 I
theorem own_in {j : Int32} {n : Nat} (q : 0 ≤ j.toInt ∧ j.toInt < n) : ¬ (j < 0 ∨ n ≤ j.toNatClampNeg) := by
  have h1 : (j.toNatClampNeg : Int) = j.toInt := by have := q.1; simp only [Int32.toNatClampNeg]; omega
  rw [Int32.lt_iff_toInt_lt]
  have : (0 : Int32).toInt = 0 := rfl
  omega
theorem go_alen (X : Stand p l e R s m args below meth c T locs cells slots) (hx : p.tables.exec = Jvm.exec) (hZ : Z.Warmed39 s.vm) (eT : T.heap = h) {a : Addr} {ty : FieldType} {n : Nat} {f : Nat → Value} (A : GA Z h a ty n f) {rest : List Value}
    (hd : decode c.code g.pc = .ok (.arraylength, 1)) (hg : g.method = m) (hs : g.stack = .ref a :: rest) (w : Int32) (hw : Nat.toInt32 n = w) (k : Go p e below s Q C S T { g with pc := g.pc + 1, stack := .int w :: rest }) : Go p e below s Q C S T g := by
  obtain ⟨cl, A1, rfl, -, -⟩ := A
  subst hw
  exact go_st (fun t => X.arraylength hx (by rw [eT]; exact A1.1) (State.isArrayOf_alike hZ.alike A1.2.1) hg hs hd t) k
theorem go_iald (X : Stand p l e R s m args below meth c T locs cells slots) (hx : p.tables.exec = Jvm.exec) (hZ : Z.Warmed39 s.vm) (eT : T.heap = h) {a : Addr} {n : Nat} {f : Nat → Value} (A : GA Z h a .int n f) {j : Int32} {rest : List Value}
    (hd : decode c.code g.pc = .ok (.iaload, 1)) (hg : g.method = m) (hs : g.stack = .int j :: .ref a :: rest) (q : 0 ≤ j.toInt ∧ j.toInt < n) (w : Value) (hw : f j.toNatClampNeg = w) (k : Go p e below s Q C S T { g with pc := g.pc + 1, stack := w :: rest }) : Go p e below s Q C S T g := by
  obtain ⟨cl, A1, rfl, -, A4⟩ := A
  have q2 := own_in q
  refine go_st (fun t => X.iaload hx (j := j) (v := w) (by rw [eT]; exact A1.1) (State.isArrayOf_alike hZ.alike A1.2.1) A1.2.2 q2 ?_ hg hs hd t) k
  rw [A4 _ (by omega), hw]
theorem go_lald (X : Stand p l e R s m args below meth c T locs cells slots) (hx : p.tables.exec = Jvm.exec) (hZ : Z.Warmed39 s.vm) (eT : T.heap = h) {a : Addr} {n : Nat} {f : Nat → Value} (A : GA Z h a .long n f) {j : Int32} {rest : List Value}
    (hd : decode c.code g.pc = .ok (.laload, 1)) (hg : g.method = m) (hs : g.stack = .int j :: .ref a :: rest) (q : 0 ≤ j.toInt ∧ j.toInt < n) (w : Value) (hw : f j.toNatClampNeg = w) (k : Go p e below s Q C S T { g with pc := g.pc + 1, stack := w :: rest }) : Go p e below s Q C S T g := by
  obtain ⟨cl, A1, rfl, -, A4⟩ := A
  have q2 := own_in q
  refine go_st (fun t => X.laload hx (j := j) (v := w) (by rw [eT]; exact A1.1) (State.isArrayOf_alike hZ.alike A1.2.1) A1.2.2 q2 ?_ hg hs hd t) k
  rw [A4 _ (by omega), hw]
theorem go_bald (X : Stand p l e R s m args below meth c T locs cells slots) (hx : p.tables.exec = Jvm.exec) (hZ : Z.Warmed39 s.vm) (eT : T.heap = h) {a : Addr} {n : Nat} {f : Nat → Value} (A : GA Z h a .byte n f) {j : Int32} {rest : List Value}
    (hd : decode c.code g.pc = .ok (.baload, 1)) (hg : g.method = m) (hs : g.stack = .int j :: .ref a :: rest) (q : 0 ≤ j.toInt ∧ j.toInt < n) (w : Value) (hw : f j.toNatClampNeg = w) (k : Go p e below s Q C S T { g with pc := g.pc + 1, stack := w :: rest }) : Go p e below s Q C S T g := by
  obtain ⟨cl, A1, rfl, -, A4⟩ := A
  have q2 := own_in q
  refine go_st (fun t => X.baloadBytes hx (j := j) (v := w) (by rw [eT]; exact A1.1) (State.isArrayOf_alike hZ.alike A1.2.1) A1.2.2 q2 ?_ hg hs hd t) k
  rw [A4 _ (by omega), hw]
theorem go_cald (X : Stand p l e R s m args below meth c T locs cells slots) (hx : p.tables.exec = Jvm.exec) (hZ : Z.Warmed39 s.vm) (eT : T.heap = h) {a : Addr} {n : Nat} {f : Nat → Value} (A : GA Z h a .char n f) {j : Int32} {rest : List Value}
    (hd : decode c.code g.pc = .ok (.caload, 1)) (hg : g.method = m) (hs : g.stack = .int j :: .ref a :: rest) (q : 0 ≤ j.toInt ∧ j.toInt < n) (w : Value) (hw : f j.toNatClampNeg = w) (k : Go p e below s Q C S T { g with pc := g.pc + 1, stack := w :: rest }) : Go p e below s Q C S T g := by
  obtain ⟨cl, A1, rfl, -, A4⟩ := A
  have q2 := own_in q
  refine go_st (fun t => X.caload hx (j := j) (v := w) (by rw [eT]; exact A1.1) (State.isArrayOf_alike hZ.alike A1.2.1) A1.2.2 q2 ?_ hg hs hd t) k
  rw [A4 _ (by omega), hw]
theorem go_aald (X : Stand p l e R s m args below meth c T locs cells slots) (hx : p.tables.exec = Jvm.exec) (hZ : Z.Warmed39 s.vm) (eT : T.heap = h) {a : Addr} {ty : FieldType} {n : Nat} {f : Nat → Value} (A : GA Z h a ty n f) (hty : ty.isReference = true) {j : Int32} {rest : List Value}
    (hd : decode c.code g.pc = .ok (.aaload, 1)) (hg : g.method = m) (hs : g.stack = .int j :: .ref a :: rest) (q : 0 ≤ j.toInt ∧ j.toInt < n) (w : Value) (hw : f j.toNatClampNeg = w) (k : Go p e below s Q C S T { g with pc := g.pc + 1, stack := w :: rest }) : Go p e below s Q C S T g := by
  obtain ⟨cl, A1, rfl, -, A4⟩ := A
  have q2 := own_in q
  refine go_st (fun t => X.aaload hx (j := j) (v := w) (by rw [eT]; exact A1.1) (State.isArrayOf_alike hZ.alike A1.2.1) hty A1.2.2 q2 ?_ hg hs hd t) k
  rw [A4 _ (by omega), hw]
theorem go_iast (X : Stand p l e R s m args below meth c T locs cells slots) (hx : p.tables.exec = Jvm.exec) (hZ : Z.Warmed39 s.vm) (eT : T.heap = h) {a : Addr} {n : Nat} {f : Nat → Value} (A : GA Z h a .int n f) {j x : Int32} {rest : List Value}
    (hd : decode c.code g.pc = .ok (.iastore, 1)) (hg : g.method = m) (hs : g.stack = .int x :: .int j :: .ref a :: rest) (q : 0 ≤ j.toInt ∧ j.toInt < n)
    (k : ∀ T' h', Stand p l e R s m args below meth c T' (locs ++ [⟨a, j.toNatClampNeg⟩]) cells slots → T'.heap = h' → Wr h h' a j.toNatClampNeg (.int x) → GA Z h' a .int n (fun i => if i = j.toNatClampNeg then .int x else f i) → Go p e below s Q C S T' { g with pc := g.pc + 1, stack := rest }) : Go p e below s Q C S T g := by
  have A' := A
  obtain ⟨cl, A1, rfl, -, A4⟩ := A
  obtain ⟨T1, h1, X1, e1, W1, st⟩ := stI X hx hZ eT A1 (own_in q) hg hs hd
  exact go_st st (k _ _ X1 e1 W1 (A'.set W1))
theorem go_last (X : Stand p l e R s m args below meth c T locs cells slots) (hx : p.tables.exec = Jvm.exec) (hZ : Z.Warmed39 s.vm) (eT : T.heap = h) {a : Addr} {n : Nat} {f : Nat → Value} (A : GA Z h a .long n f) {j : Int32} {x : Int64} {rest : List Value}
    (hd : decode c.code g.pc = .ok (.lastore, 1)) (hg : g.method = m) (hs : g.stack = .long x :: .int j :: .ref a :: rest) (q : 0 ≤ j.toInt ∧ j.toInt < n)
    (k : ∀ T' h', Stand p l e R s m args below meth c T' (locs ++ [⟨a, j.toNatClampNeg⟩]) cells slots → T'.heap = h' → Wr h h' a j.toNatClampNeg (.long x) → GA Z h' a .long n (fun i => if i = j.toNatClampNeg then .long x else f i) → Go p e below s Q C S T' { g with pc := g.pc + 1, stack := rest }) : Go p e below s Q C S T g := by
  have A' := A
  obtain ⟨cl, A1, rfl, -, A4⟩ := A
  obtain ⟨T1, h1, X1, e1, W1, st⟩ := stJ X hx hZ eT A1 (own_in q) hg hs hd
  exact go_st st (k _ _ X1 e1 W1 (A'.set W1))
theorem go_bast (X : Stand p l e R s m args below meth c T locs cells slots) (hx : p.tables.exec = Jvm.exec) (hZ : Z.Warmed39 s.vm) (eT : T.heap = h) {a : Addr} {n : Nat} {f : Nat → Value} (A : GA Z h a .byte n f) {j x : Int32} {rest : List Value}
    (hd : decode c.code g.pc = .ok (.bastore, 1)) (hg : g.method = m) (hs : g.stack = .int x :: .int j :: .ref a :: rest) (q : 0 ≤ j.toInt ∧ j.toInt < n)
    (k : ∀ T' h', Stand p l e R s m args below meth c T' (locs ++ [⟨a, j.toNatClampNeg⟩]) cells slots → T'.heap = h' → Wr h h' a j.toNatClampNeg (.int x.toInt8.toInt32) → GA Z h' a .byte n (fun i => if i = j.toNatClampNeg then .int x.toInt8.toInt32 else f i) → Go p e below s Q C S T' { g with pc := g.pc + 1, stack := rest }) : Go p e below s Q C S T g := by
  have A' := A
  obtain ⟨cl, A1, rfl, -, A4⟩ := A
  obtain ⟨T1, h1, X1, e1, W1, st⟩ := stB X hx hZ eT A1 (own_in q) hg hs hd
  exact go_st st (k _ _ X1 e1 W1 (A'.set W1))
theorem go_cast (X : Stand p l e R s m args below meth c T locs cells slots) (hx : p.tables.exec = Jvm.exec) (hZ : Z.Warmed39 s.vm) (eT : T.heap = h) {a : Addr} {n : Nat} {f : Nat → Value} (A : GA Z h a .char n f) {j x : Int32} {rest : List Value}
    (hd : decode c.code g.pc = .ok (.castore, 1)) (hg : g.method = m) (hs : g.stack = .int x :: .int j :: .ref a :: rest) (q : 0 ≤ j.toInt ∧ j.toInt < n)
    (k : ∀ T' h', Stand p l e R s m args below meth c T' (locs ++ [⟨a, j.toNatClampNeg⟩]) cells slots → T'.heap = h' → Wr h h' a j.toNatClampNeg (.int (nar .char x)) → GA Z h' a .char n (fun i => if i = j.toNatClampNeg then .int (nar .char x) else f i) → Go p e below s Q C S T' { g with pc := g.pc + 1, stack := rest }) : Go p e below s Q C S T g := by
  have A' := A
  obtain ⟨cl, A1, rfl, -, A4⟩ := A
  obtain ⟨T1, h1, X1, e1, W1, st⟩ := stC X hx hZ eT A1 (own_in q) hg hs hd
  exact go_st st (k _ _ X1 e1 W1 (A'.set W1))
theorem go_aast (X : Stand p l e R s m args below meth c T locs cells slots) (hx : p.tables.exec = Jvm.exec) (hZ : Z.Warmed39 s.vm) (eT : T.heap = h) {a : Addr} {ty : FieldType} {n : Nat} {f : Nat → Value} (A : GA Z h a ty n f) (hty : ty.isReference = true) {j : Int32} {v : Value} (F : Sto Z h a v) {rest : List Value}
    (hd : decode c.code g.pc = .ok (.aastore, 1)) (hg : g.method = m) (hs : g.stack = v :: .int j :: .ref a :: rest) (q : 0 ≤ j.toInt ∧ j.toInt < n)
    (k : ∀ T' h', Stand p l e R s m args below meth c T' (locs ++ [⟨a, j.toNatClampNeg⟩]) cells slots → T'.heap = h' → Wr h h' a j.toNatClampNeg v → GA Z h' a ty n (fun i => if i = j.toNatClampNeg then v else f i) → Go p e below s Q C S T' { g with pc := g.pc + 1, stack := rest }) : Go p e below s Q C S T g := by
  have A' := A
  obtain ⟨cl, A1, rfl, -, A4⟩ := A
  obtain ⟨T1, h1, X1, e1, W1, st⟩ := stR X hx hZ eT A1 (own_in q) hty F hg hs hd
  exact go_st st (k _ _ X1 e1 W1 (A'.set W1))
theorem own_clamp {n : Int32} {N : Nat} (q : n.toInt = N) : n.toNatClampNeg = N := by simp only [Int32.toNatClampNeg]; omega
theorem own_nneg {n : Int32} {N : Nat} (q : n.toInt = N) : ¬ n < 0 := by
  rw [Int32.lt_iff_toInt_lt]
  have : (0 : Int32).toInt = 0 := rfl
  omega
theorem go_newP (X : Stand p l e R s m args below meth c T locs cells slots) (hx : p.tables.exec = Jvm.exec) (hZ : Z.Warmed39 s.vm) {aty : ArrayType} (w : (Cond.arrayClass (newarray.typeOf aty)).before a0 Z = true) (eT : T.heap = h) {n : Int32} {rest : List Value} (hd : decode c.code g.pc = .ok (.newarray aty, 2)) (hg : g.method = m) (hs : g.stack = .int n :: rest)
    (N : Nat) (hn : n.toInt = N) (cap : Nat) (hcap : N ≤ cap) (hb : cap * 8 ≤ 536870912) (hc : cells + 1 ≤ R.cells) (hl : slots + cap ≤ R.slots)
    (k : ∀ T' h' a, a = h.size → Stand p l e R s m args below meth c T' locs (cells + 1) (slots + cap) → T'.heap = h' → Ext h h' → GA Z h' a (newarray.typeOf aty) N (fun _ => defaultValue (newarray.typeOf aty)) → Go p e below s Q C S T' { g with pc := g.pc + 2, stack := .ref a :: rest }) : Go p e below s Q C S T g := by
  have hN := own_clamp hn
  have hn0 := own_nneg hn
  obtain ⟨T1, h1, cA, X1, e1, E1, A1, st⟩ := newP X hx hZ w eT hg hd hs hn0 (cap := cap) (by omega) hb hc hl
  refine go_st st (k _ _ _ rfl X1 e1 E1 ⟨_, A1, (sz_new _ _ _).trans hN, ?_, fun i hi => ?_⟩)
  · have := (rng32 n).2
    omega
  · show (Array.replicate n.toNatClampNeg (defaultValue _))[i]? = _
    rw [hN, Array.getElem?_replicate, if_pos hi]
theorem go_newR (X : Stand p l e R s m args below meth c T locs cells slots) (hx : p.tables.exec = Jvm.exec) (hZ : Z.Warmed39 s.vm) {own K : String} {index : Nat} (hown : s.vm.findClass own = some m.cls) (w1 : (Cond.classLink own index K).before a0 Z = true) (w2 : (Cond.arrayOver (.object K)).before a0 Z = true) (eT : T.heap = h) {n : Int32} {rest : List Value} (hd : decode c.code g.pc = .ok (.anewarray index, 3)) (hg : g.method = m) (hs : g.stack = .int n :: rest)
    (N : Nat) (hn : n.toInt = N) (cap : Nat) (hcap : N ≤ cap) (hb : cap * 8 ≤ 536870912) (hc : cells + 1 ≤ R.cells) (hl : slots + cap ≤ R.slots)
    (k : ∀ T' h' a, a = h.size → Stand p l e R s m args below meth c T' locs (cells + 1) (slots + cap) → T'.heap = h' → Ext h h' → GA Z h' a (.object K) N (fun _ => .null) → OC Z h' a (.object K) K → Go p e below s Q C S T' { g with pc := g.pc + 3, stack := .ref a :: rest }) : Go p e below s Q C S T g := by
  have hN := own_clamp hn
  have hn0 := own_nneg hn
  obtain ⟨T1, h1, cA, X1, e1, E1, A1, O1, st⟩ := newR X hx hZ hown w1 w2 eT hg hd hs hn0 (cap := cap) (by omega) hb hc hl
  refine go_st st (k _ _ _ rfl X1 e1 E1 ⟨_, A1, (sz_new _ _ _).trans hN, ?_, fun i hi => ?_⟩ ⟨_, A1, O1⟩)
  · have := (rng32 n).2
    omega
  · show (Array.replicate n.toNatClampNeg (defaultValue _))[i]? = _
    rw [hN, Array.getElem?_replicate, if_pos hi]
    rfl
end OwnGo
theorem own_ordf {s : State} {args : Array Value} {t : Term} {a : Addr} {C n : String} {k : Int32} (ev : t.eval args s none [] s = some (.ref a)) (hq : (Cond.eq (.field t C n "I") (.int k)).value args s none s [] = some true) : Fld s s.heap a C n "I" (.int k) := by
  obtain ⟨u, v, h1, h2, h3, h4⟩ := cmp_v (Or.inl hq)
  have e2 : v = .int k := by
    have := Term.int_eval (args := args) (first := s) (o := none) (idx := []) (s := s) k
    rw [this] at h2
    exact (Option.some.inj h2).symm
  subst e2
  obtain ⟨z, rfl⟩ := h4
  have h5 := gotT (Cond.eq_ints h1 (Term.int_eval k)) hq
  subst h5
  rw [fld_at ev] at h1
  exact Fld.start h1
theorem d3_0 : decode jdk_37_method_2_code 0 = .ok (.aload_n 0, 1) := by decide +kernel
theorem d3_1 : decode jdk_37_method_2_code 1 = .ok (.getfield 7, 3) := by decide +kernel
theorem d3_4 : decode jdk_37_method_2_code 4 = .ok (.ireturn, 1) := by decide +kernel
theorem pn0 : plainFor (⟨"java/lang/Enum", "ordinal", "()I"⟩ : MethodName) = true := by first | (refine plainFor_of_name ?_; simp [plainName, overriddenIn]; done) | (refine plainFor_of_name ?_; decide +kernel) | decide +kernel
def fOrd (d : Int32) : Int32 := d
theorem ef_3 (m : MethodId) (a : Addr) (d : Int32) : entryFrame m #[(.ref a)] 1 = mkF m 0 #[.val (.ref a)] [] := by first | (simp [entryFrame, mkF, argsToLocals, Value.category]; done) | rfl
abbrev rm_3 : Room := ({ frames := 0, cells := 0, slots := 0, locals := 0 } : Room)
set_option maxRecDepth 65536 in
set_option maxHeartbeats 4000000 in
theorem met_3 (l : Launch) (Z : State) (a0 : Array Value) (hw : ∀ d ∈ tables_1, d.before a0 Z = true) (a : Addr) (d : Int32) (h0 : Heap) (n0 : Nat) (Z0 : n0 ≤ h0.size) (P0 : Fld Z h0 a "java/lang/Enum" "ordinal" "I" (.int d)) :
    Met l (⟨"java/lang/Enum", "ordinal", "()I"⟩ : MethodName) jdk_37_method_2_code 1 (some FieldType.int) [] rm_3 Z #[(.ref a)] h0 (QV (some (.int (fOrd d))) h0 n0) 0 0 := by
  refine own_body pn0 ?_
  intro p e s m below meth c s₁ ct X0 e0
  have ct0 := ct
  obtain ⟨hx, hZ, hown, hby, hml, hret, hlk, hnm⟩ := ct
  have N0 := Fr.nil n0
  refine castGo (ef_3 m a d) ?_
  unfold fOrd
  show Go p e below s _ _ _ s₁ (mkF m 0 #[.val (.ref a)] [])
  refine go_st (fun _ k => XS.aloadN X0.here hx rfl (hb hby d3_0) rfl rfl k) ?_
  show Go p e below s _ _ _ s₁ (mkF m 1 #[.val (.ref a)] [(.ref a)])
  refine go_getF X0 hx hZ hown (host := "") (Or.inl (hw _ (List.mem_of_getElem? (i := 20) rfl))) Via.refl e0 P0 (hb hby d3_1) rfl rfl ?_
  intro T1 X1 e1
  show Go p e below s _ _ _ T1 (mkF m 4 #[.val (.ref a)] [(.int d)])
  exact go_retI X1 hx hlk hret (hb hby d3_4) (by decide) (by decide) ⟨rfl, N0, e1⟩
theorem d1_0 : decode method_2_code 0 = .ok (.iload_n 0, 1) := by decide +kernel
theorem d1_1 : decode method_2_code 1 = .ok (.ifCond .ne 7, 3) := by decide +kernel
theorem d1_4 : decode method_2_code 4 = .ok (.getstatic 7, 3) := by decide +kernel
theorem d1_7 : decode method_2_code 7 = .ok (.areturn, 1) := by decide +kernel
theorem d1_8 : decode method_2_code 8 = .ok (.iload_n 0, 1) := by decide +kernel
theorem d1_9 : decode method_2_code 9 = .ok (.iconst 1, 1) := by decide +kernel
theorem d1_10 : decode method_2_code 10 = .ok (.if_icmp .ne 7, 3) := by decide +kernel
theorem d1_13 : decode method_2_code 13 = .ok (.getstatic 13, 3) := by decide +kernel
theorem d1_16 : decode method_2_code 16 = .ok (.areturn, 1) := by decide +kernel
theorem d1_17 : decode method_2_code 17 = .ok (.iload_n 0, 1) := by decide +kernel
theorem d1_18 : decode method_2_code 18 = .ok (.iconst 2, 1) := by decide +kernel
theorem d1_19 : decode method_2_code 19 = .ok (.if_icmp .ne 7, 3) := by decide +kernel
theorem d1_22 : decode method_2_code 22 = .ok (.getstatic 16, 3) := by decide +kernel
theorem d1_25 : decode method_2_code 25 = .ok (.areturn, 1) := by decide +kernel
theorem d1_26 : decode method_2_code 26 = .ok (.iload_n 0, 1) := by decide +kernel
theorem d1_27 : decode method_2_code 27 = .ok (.iconst 3, 1) := by decide +kernel
theorem d1_28 : decode method_2_code 28 = .ok (.if_icmp .ne 7, 3) := by decide +kernel
theorem d1_31 : decode method_2_code 31 = .ok (.getstatic 19, 3) := by decide +kernel
theorem d1_34 : decode method_2_code 34 = .ok (.areturn, 1) := by decide +kernel
theorem d1_35 : decode method_2_code 35 = .ok (.iload_n 0, 1) := by decide +kernel
theorem d1_36 : decode method_2_code 36 = .ok (.iconst 4, 1) := by decide +kernel
theorem d1_37 : decode method_2_code 37 = .ok (.if_icmp .ne 7, 3) := by decide +kernel
theorem d1_40 : decode method_2_code 40 = .ok (.getstatic 22, 3) := by decide +kernel
theorem d1_43 : decode method_2_code 43 = .ok (.areturn, 1) := by decide +kernel
theorem d1_44 : decode method_2_code 44 = .ok (.getstatic 25, 3) := by decide +kernel
theorem d1_47 : decode method_2_code 47 = .ok (.areturn, 1) := by decide +kernel
theorem pn1 : plainFor (⟨"com/example/skipstone/skipstone/prune/OperatorNegatedPinLaw", "pick", "(I)Lcom/example/skipstone/skipstone/prune/Operator;"⟩ : MethodName) = true := by first | (refine plainFor_of_name ?_; simp [plainName, overriddenIn]; done) | (refine plainFor_of_name ?_; decide +kernel) | decide +kernel
def fPick0 (t : Addr) : Addr := t
theorem ef_pick0 (m : MethodId) (t : Addr) : entryFrame m #[(.int (0 : Int32))] 1 = mkF m 0 #[.val (.int (0 : Int32))] [] := by first | (simp [entryFrame, mkF, argsToLocals, Value.category]; done) | rfl
abbrev rm_pick0 : Room := ({ frames := 0, cells := 0, slots := 0, locals := 0 } : Room)
set_option maxRecDepth 65536 in
set_option maxHeartbeats 4000000 in
theorem met_pick0 (l : Launch) (Z : State) (a0 : Array Value) (hw : ∀ d ∈ tables_1, d.before a0 Z = true) (t : Addr) (h0 : Heap) (n0 : Nat) (Z0 : n0 ≤ h0.size) (P0 : Sta Z h0 "com/example/skipstone/skipstone/prune/Operator" "EQUAL" "Lcom/example/skipstone/skipstone/prune/Operator;" (.ref t)) :
    Met l (⟨"com/example/skipstone/skipstone/prune/OperatorNegatedPinLaw", "pick", "(I)Lcom/example/skipstone/skipstone/prune/Operator;"⟩ : MethodName) method_2_code 1 (some (FieldType.object "com/example/skipstone/skipstone/prune/Operator")) [] rm_pick0 Z #[(.int (0 : Int32))] h0 (QV (some (.ref (fPick0 t))) h0 n0) 0 0 := by
  refine own_body pn1 ?_
  intro p e s m below meth c s₁ ct X0 e0
  have ct0 := ct
  obtain ⟨hx, hZ, hown, hby, hml, hret, hlk, hnm⟩ := ct
  have N0 := Fr.nil n0
  refine castGo (ef_pick0 m t) ?_
  unfold fPick0
  show Go p e below s _ _ _ s₁ (mkF m 0 #[.val (.int (0 : Int32))] [])
  refine go_st (fun _ k => XS.iloadN X0.here hx rfl (hb hby d1_0) rfl k) ?_
  show Go p e below s _ _ _ s₁ (mkF m 1 #[.val (.int (0 : Int32))] [(.int (0 : Int32))])
  refine go_st (fun _ k => XS.ifNo X0.here hx rfl (hb hby d1_1) rfl (XT.i0_ne_f (by decide)) k) ?_
  show Go p e below s _ _ _ s₁ (mkF m 4 #[.val (.int (0 : Int32))] [])
  refine go_getS X0 hx hZ hown (host := "") (Or.inl (hw _ (List.mem_of_getElem? (i := 5) rfl))) Via.refl e0 P0 (hb hby d1_4) rfl ?_
  intro T2 X2 e2
  show Go p e below s _ _ _ T2 (mkF m 7 #[.val (.int (0 : Int32))] [(.ref t)])
  exact go_retA X2 hx hlk hret rfl rfl (hb hby d1_7) (by decide) (by decide) ⟨rfl, N0, e2⟩
def fPick1 (t : Addr) : Addr := t
theorem ef_pick1 (m : MethodId) (t : Addr) : entryFrame m #[(.int (1 : Int32))] 1 = mkF m 0 #[.val (.int (1 : Int32))] [] := by first | (simp [entryFrame, mkF, argsToLocals, Value.category]; done) | rfl
abbrev rm_pick1 : Room := ({ frames := 0, cells := 0, slots := 0, locals := 0 } : Room)
set_option maxRecDepth 65536 in
set_option maxHeartbeats 4000000 in
theorem met_pick1 (l : Launch) (Z : State) (a0 : Array Value) (hw : ∀ d ∈ tables_1, d.before a0 Z = true) (t : Addr) (h0 : Heap) (n0 : Nat) (Z0 : n0 ≤ h0.size) (P0 : Sta Z h0 "com/example/skipstone/skipstone/prune/Operator" "NOT_EQUAL" "Lcom/example/skipstone/skipstone/prune/Operator;" (.ref t)) :
    Met l (⟨"com/example/skipstone/skipstone/prune/OperatorNegatedPinLaw", "pick", "(I)Lcom/example/skipstone/skipstone/prune/Operator;"⟩ : MethodName) method_2_code 1 (some (FieldType.object "com/example/skipstone/skipstone/prune/Operator")) [] rm_pick1 Z #[(.int (1 : Int32))] h0 (QV (some (.ref (fPick1 t))) h0 n0) 0 0 := by
  refine own_body pn1 ?_
  intro p e s m below meth c s₁ ct X0 e0
  have ct0 := ct
  obtain ⟨hx, hZ, hown, hby, hml, hret, hlk, hnm⟩ := ct
  have N0 := Fr.nil n0
  refine castGo (ef_pick1 m t) ?_
  unfold fPick1
  show Go p e below s _ _ _ s₁ (mkF m 0 #[.val (.int (1 : Int32))] [])
  refine go_st (fun _ k => XS.iloadN X0.here hx rfl (hb hby d1_0) rfl k) ?_
  show Go p e below s _ _ _ s₁ (mkF m 1 #[.val (.int (1 : Int32))] [(.int (1 : Int32))])
  refine go_st (fun _ k => XS.ifYes X0.here hx rfl (pc0 := 1) (pc' := 8) rfl (hb hby d1_1) rfl (XT.i0_ne_t (by decide)) (by decide) (by decide) k) ?_
  show Go p e below s _ _ _ s₁ (mkF m 8 #[.val (.int (1 : Int32))] [])
  refine go_st (fun _ k => XS.iloadN X0.here hx rfl (hb hby d1_8) rfl k) ?_
  show Go p e below s _ _ _ s₁ (mkF m 9 #[.val (.int (1 : Int32))] [(.int (1 : Int32))])
  refine go_st (fun _ k => XT.iconstV X0.here hx rfl (1 : Int32) (hb hby d1_9) (by decide) k) ?_
  show Go p e below s _ _ _ s₁ (mkF m 10 #[.val (.int (1 : Int32))] [(.int (1 : Int32)), (.int (1 : Int32))])
  refine go_st (fun _ k => XS.icmpNo X0.here hx rfl (hb hby d1_10) rfl (XT.ii_ne_f (by decide)) k) ?_
  show Go p e below s _ _ _ s₁ (mkF m 13 #[.val (.int (1 : Int32))] [])
  refine go_getS X0 hx hZ hown (host := "") (Or.inl (hw _ (List.mem_of_getElem? (i := 27) rfl))) Via.refl e0 P0 (hb hby d1_13) rfl ?_
  intro T3 X3 e3
  show Go p e below s _ _ _ T3 (mkF m 16 #[.val (.int (1 : Int32))] [(.ref t)])
  exact go_retA X3 hx hlk hret rfl rfl (hb hby d1_16) (by decide) (by decide) ⟨rfl, N0, e3⟩
def fPick2 (t : Addr) : Addr := t
theorem ef_pick2 (m : MethodId) (t : Addr) : entryFrame m #[(.int (2 : Int32))] 1 = mkF m 0 #[.val (.int (2 : Int32))] [] := by first | (simp [entryFrame, mkF, argsToLocals, Value.category]; done) | rfl
abbrev rm_pick2 : Room := ({ frames := 0, cells := 0, slots := 0, locals := 0 } : Room)
set_option maxRecDepth 65536 in
set_option maxHeartbeats 4000000 in
theorem met_pick2 (l : Launch) (Z : State) (a0 : Array Value) (hw : ∀ d ∈ tables_1, d.before a0 Z = true) (t : Addr) (h0 : Heap) (n0 : Nat) (Z0 : n0 ≤ h0.size) (P0 : Sta Z h0 "com/example/skipstone/skipstone/prune/Operator" "LESS" "Lcom/example/skipstone/skipstone/prune/Operator;" (.ref t)) :
    Met l (⟨"com/example/skipstone/skipstone/prune/OperatorNegatedPinLaw", "pick", "(I)Lcom/example/skipstone/skipstone/prune/Operator;"⟩ : MethodName) method_2_code 1 (some (FieldType.object "com/example/skipstone/skipstone/prune/Operator")) [] rm_pick2 Z #[(.int (2 : Int32))] h0 (QV (some (.ref (fPick2 t))) h0 n0) 0 0 := by
  refine own_body pn1 ?_
  intro p e s m below meth c s₁ ct X0 e0
  have ct0 := ct
  obtain ⟨hx, hZ, hown, hby, hml, hret, hlk, hnm⟩ := ct
  have N0 := Fr.nil n0
  refine castGo (ef_pick2 m t) ?_
  unfold fPick2
  show Go p e below s _ _ _ s₁ (mkF m 0 #[.val (.int (2 : Int32))] [])
  refine go_st (fun _ k => XS.iloadN X0.here hx rfl (hb hby d1_0) rfl k) ?_
  show Go p e below s _ _ _ s₁ (mkF m 1 #[.val (.int (2 : Int32))] [(.int (2 : Int32))])
  refine go_st (fun _ k => XS.ifYes X0.here hx rfl (pc0 := 1) (pc' := 8) rfl (hb hby d1_1) rfl (XT.i0_ne_t (by decide)) (by decide) (by decide) k) ?_
  show Go p e below s _ _ _ s₁ (mkF m 8 #[.val (.int (2 : Int32))] [])
  refine go_st (fun _ k => XS.iloadN X0.here hx rfl (hb hby d1_8) rfl k) ?_
  show Go p e below s _ _ _ s₁ (mkF m 9 #[.val (.int (2 : Int32))] [(.int (2 : Int32))])
  refine go_st (fun _ k => XT.iconstV X0.here hx rfl (1 : Int32) (hb hby d1_9) (by decide) k) ?_
  show Go p e below s _ _ _ s₁ (mkF m 10 #[.val (.int (2 : Int32))] [(.int (1 : Int32)), (.int (2 : Int32))])
  refine go_st (fun _ k => XS.icmpYes X0.here hx rfl (pc0 := 10) (pc' := 17) rfl (hb hby d1_10) rfl (XT.ii_ne_t (by decide)) (by decide) (by decide) k) ?_
  show Go p e below s _ _ _ s₁ (mkF m 17 #[.val (.int (2 : Int32))] [])
  refine go_st (fun _ k => XS.iloadN X0.here hx rfl (hb hby d1_17) rfl k) ?_
  show Go p e below s _ _ _ s₁ (mkF m 18 #[.val (.int (2 : Int32))] [(.int (2 : Int32))])
  refine go_st (fun _ k => XT.iconstV X0.here hx rfl (2 : Int32) (hb hby d1_18) (by decide) k) ?_
  show Go p e below s _ _ _ s₁ (mkF m 19 #[.val (.int (2 : Int32))] [(.int (2 : Int32)), (.int (2 : Int32))])
  refine go_st (fun _ k => XS.icmpNo X0.here hx rfl (hb hby d1_19) rfl (XT.ii_ne_f (by decide)) k) ?_
  show Go p e below s _ _ _ s₁ (mkF m 22 #[.val (.int (2 : Int32))] [])
  refine go_getS X0 hx hZ hown (host := "") (Or.inl (hw _ (List.mem_of_getElem? (i := 33) rfl))) Via.refl e0 P0 (hb hby d1_22) rfl ?_
  intro T4 X4 e4
  show Go p e below s _ _ _ T4 (mkF m 25 #[.val (.int (2 : Int32))] [(.ref t)])
  exact go_retA X4 hx hlk hret rfl rfl (hb hby d1_25) (by decide) (by decide) ⟨rfl, N0, e4⟩
def fPick3 (t : Addr) : Addr := t
theorem ef_pick3 (m : MethodId) (t : Addr) : entryFrame m #[(.int (3 : Int32))] 1 = mkF m 0 #[.val (.int (3 : Int32))] [] := by first | (simp [entryFrame, mkF, argsToLocals, Value.category]; done) | rfl
abbrev rm_pick3 : Room := ({ frames := 0, cells := 0, slots := 0, locals := 0 } : Room)
set_option maxRecDepth 65536 in
set_option maxHeartbeats 4000000 in
theorem met_pick3 (l : Launch) (Z : State) (a0 : Array Value) (hw : ∀ d ∈ tables_1, d.before a0 Z = true) (t : Addr) (h0 : Heap) (n0 : Nat) (Z0 : n0 ≤ h0.size) (P0 : Sta Z h0 "com/example/skipstone/skipstone/prune/Operator" "LESS_OR_EQUAL" "Lcom/example/skipstone/skipstone/prune/Operator;" (.ref t)) :
    Met l (⟨"com/example/skipstone/skipstone/prune/OperatorNegatedPinLaw", "pick", "(I)Lcom/example/skipstone/skipstone/prune/Operator;"⟩ : MethodName) method_2_code 1 (some (FieldType.object "com/example/skipstone/skipstone/prune/Operator")) [] rm_pick3 Z #[(.int (3 : Int32))] h0 (QV (some (.ref (fPick3 t))) h0 n0) 0 0 := by
  refine own_body pn1 ?_
  intro p e s m below meth c s₁ ct X0 e0
  have ct0 := ct
  obtain ⟨hx, hZ, hown, hby, hml, hret, hlk, hnm⟩ := ct
  have N0 := Fr.nil n0
  refine castGo (ef_pick3 m t) ?_
  unfold fPick3
  show Go p e below s _ _ _ s₁ (mkF m 0 #[.val (.int (3 : Int32))] [])
  refine go_st (fun _ k => XS.iloadN X0.here hx rfl (hb hby d1_0) rfl k) ?_
  show Go p e below s _ _ _ s₁ (mkF m 1 #[.val (.int (3 : Int32))] [(.int (3 : Int32))])
  refine go_st (fun _ k => XS.ifYes X0.here hx rfl (pc0 := 1) (pc' := 8) rfl (hb hby d1_1) rfl (XT.i0_ne_t (by decide)) (by decide) (by decide) k) ?_
  show Go p e below s _ _ _ s₁ (mkF m 8 #[.val (.int (3 : Int32))] [])
  refine go_st (fun _ k => XS.iloadN X0.here hx rfl (hb hby d1_8) rfl k) ?_
  show Go p e below s _ _ _ s₁ (mkF m 9 #[.val (.int (3 : Int32))] [(.int (3 : Int32))])
  refine go_st (fun _ k => XT.iconstV X0.here hx rfl (1 : Int32) (hb hby d1_9) (by decide) k) ?_
  show Go p e below s _ _ _ s₁ (mkF m 10 #[.val (.int (3 : Int32))] [(.int (1 : Int32)), (.int (3 : Int32))])
  refine go_st (fun _ k => XS.icmpYes X0.here hx rfl (pc0 := 10) (pc' := 17) rfl (hb hby d1_10) rfl (XT.ii_ne_t (by decide)) (by decide) (by decide) k) ?_
  show Go p e below s _ _ _ s₁ (mkF m 17 #[.val (.int (3 : Int32))] [])
  refine go_st (fun _ k => XS.iloadN X0.here hx rfl (hb hby d1_17) rfl k) ?_
  show Go p e below s _ _ _ s₁ (mkF m 18 #[.val (.int (3 : Int32))] [(.int (3 : Int32))])
  refine go_st (fun _ k => XT.iconstV X0.here hx rfl (2 : Int32) (hb hby d1_18) (by decide) k) ?_
  show Go p e below s _ _ _ s₁ (mkF m 19 #[.val (.int (3 : Int32))] [(.int (2 : Int32)), (.int (3 : Int32))])
  refine go_st (fun _ k => XS.icmpYes X0.here hx rfl (pc0 := 19) (pc' := 26) rfl (hb hby d1_19) rfl (XT.ii_ne_t (by decide)) (by decide) (by decide) k) ?_
  show Go p e below s _ _ _ s₁ (mkF m 26 #[.val (.int (3 : Int32))] [])
  refine go_st (fun _ k => XS.iloadN X0.here hx rfl (hb hby d1_26) rfl k) ?_
  show Go p e below s _ _ _ s₁ (mkF m 27 #[.val (.int (3 : Int32))] [(.int (3 : Int32))])
  refine go_st (fun _ k => XT.iconstV X0.here hx rfl (3 : Int32) (hb hby d1_27) (by decide) k) ?_
  show Go p e below s _ _ _ s₁ (mkF m 28 #[.val (.int (3 : Int32))] [(.int (3 : Int32)), (.int (3 : Int32))])
  refine go_st (fun _ k => XS.icmpNo X0.here hx rfl (hb hby d1_28) rfl (XT.ii_ne_f (by decide)) k) ?_
  show Go p e below s _ _ _ s₁ (mkF m 31 #[.val (.int (3 : Int32))] [])
  refine go_getS X0 hx hZ hown (host := "") (Or.inl (hw _ (List.mem_of_getElem? (i := 35) rfl))) Via.refl e0 P0 (hb hby d1_31) rfl ?_
  intro T5 X5 e5
  show Go p e below s _ _ _ T5 (mkF m 34 #[.val (.int (3 : Int32))] [(.ref t)])
  exact go_retA X5 hx hlk hret rfl rfl (hb hby d1_34) (by decide) (by decide) ⟨rfl, N0, e5⟩
def fPick4 (t : Addr) : Addr := t
theorem ef_pick4 (m : MethodId) (t : Addr) : entryFrame m #[(.int (4 : Int32))] 1 = mkF m 0 #[.val (.int (4 : Int32))] [] := by first | (simp [entryFrame, mkF, argsToLocals, Value.category]; done) | rfl
abbrev rm_pick4 : Room := ({ frames := 0, cells := 0, slots := 0, locals := 0 } : Room)
set_option maxRecDepth 65536 in
set_option maxHeartbeats 4000000 in
theorem met_pick4 (l : Launch) (Z : State) (a0 : Array Value) (hw : ∀ d ∈ tables_1, d.before a0 Z = true) (t : Addr) (h0 : Heap) (n0 : Nat) (Z0 : n0 ≤ h0.size) (P0 : Sta Z h0 "com/example/skipstone/skipstone/prune/Operator" "GREATER" "Lcom/example/skipstone/skipstone/prune/Operator;" (.ref t)) :
    Met l (⟨"com/example/skipstone/skipstone/prune/OperatorNegatedPinLaw", "pick", "(I)Lcom/example/skipstone/skipstone/prune/Operator;"⟩ : MethodName) method_2_code 1 (some (FieldType.object "com/example/skipstone/skipstone/prune/Operator")) [] rm_pick4 Z #[(.int (4 : Int32))] h0 (QV (some (.ref (fPick4 t))) h0 n0) 0 0 := by
  refine own_body pn1 ?_
  intro p e s m below meth c s₁ ct X0 e0
  have ct0 := ct
  obtain ⟨hx, hZ, hown, hby, hml, hret, hlk, hnm⟩ := ct
  have N0 := Fr.nil n0
  refine castGo (ef_pick4 m t) ?_
  unfold fPick4
  show Go p e below s _ _ _ s₁ (mkF m 0 #[.val (.int (4 : Int32))] [])
  refine go_st (fun _ k => XS.iloadN X0.here hx rfl (hb hby d1_0) rfl k) ?_
  show Go p e below s _ _ _ s₁ (mkF m 1 #[.val (.int (4 : Int32))] [(.int (4 : Int32))])
  refine go_st (fun _ k => XS.ifYes X0.here hx rfl (pc0 := 1) (pc' := 8) rfl (hb hby d1_1) rfl (XT.i0_ne_t (by decide)) (by decide) (by decide) k) ?_
  show Go p e below s _ _ _ s₁ (mkF m 8 #[.val (.int (4 : Int32))] [])
  refine go_st (fun _ k => XS.iloadN X0.here hx rfl (hb hby d1_8) rfl k) ?_
  show Go p e below s _ _ _ s₁ (mkF m 9 #[.val (.int (4 : Int32))] [(.int (4 : Int32))])
  refine go_st (fun _ k => XT.iconstV X0.here hx rfl (1 : Int32) (hb hby d1_9) (by decide) k) ?_
  show Go p e below s _ _ _ s₁ (mkF m 10 #[.val (.int (4 : Int32))] [(.int (1 : Int32)), (.int (4 : Int32))])
  refine go_st (fun _ k => XS.icmpYes X0.here hx rfl (pc0 := 10) (pc' := 17) rfl (hb hby d1_10) rfl (XT.ii_ne_t (by decide)) (by decide) (by decide) k) ?_
  show Go p e below s _ _ _ s₁ (mkF m 17 #[.val (.int (4 : Int32))] [])
  refine go_st (fun _ k => XS.iloadN X0.here hx rfl (hb hby d1_17) rfl k) ?_
  show Go p e below s _ _ _ s₁ (mkF m 18 #[.val (.int (4 : Int32))] [(.int (4 : Int32))])
  refine go_st (fun _ k => XT.iconstV X0.here hx rfl (2 : Int32) (hb hby d1_18) (by decide) k) ?_
  show Go p e below s _ _ _ s₁ (mkF m 19 #[.val (.int (4 : Int32))] [(.int (2 : Int32)), (.int (4 : Int32))])
  refine go_st (fun _ k => XS.icmpYes X0.here hx rfl (pc0 := 19) (pc' := 26) rfl (hb hby d1_19) rfl (XT.ii_ne_t (by decide)) (by decide) (by decide) k) ?_
  show Go p e below s _ _ _ s₁ (mkF m 26 #[.val (.int (4 : Int32))] [])
  refine go_st (fun _ k => XS.iloadN X0.here hx rfl (hb hby d1_26) rfl k) ?_
  show Go p e below s _ _ _ s₁ (mkF m 27 #[.val (.int (4 : Int32))] [(.int (4 : Int32))])
  refine go_st (fun _ k => XT.iconstV X0.here hx rfl (3 : Int32) (hb hby d1_27) (by decide) k) ?_
  show Go p e below s _ _ _ s₁ (mkF m 28 #[.val (.int (4 : Int32))] [(.int (3 : Int32)), (.int (4 : Int32))])
  refine go_st (fun _ k => XS.icmpYes X0.here hx rfl (pc0 := 28) (pc' := 35) rfl (hb hby d1_28) rfl (XT.ii_ne_t (by decide)) (by decide) (by decide) k) ?_
  show Go p e below s _ _ _ s₁ (mkF m 35 #[.val (.int (4 : Int32))] [])
  refine go_st (fun _ k => XS.iloadN X0.here hx rfl (hb hby d1_35) rfl k) ?_
  show Go p e below s _ _ _ s₁ (mkF m 36 #[.val (.int (4 : Int32))] [(.int (4 : Int32))])
  refine go_st (fun _ k => XT.iconstV X0.here hx rfl (4 : Int32) (hb hby d1_36) (by decide) k) ?_
  show Go p e below s _ _ _ s₁ (mkF m 37 #[.val (.int (4 : Int32))] [(.int (4 : Int32)), (.int (4 : Int32))])
  refine go_st (fun _ k => XS.icmpNo X0.here hx rfl (hb hby d1_37) rfl (XT.ii_ne_f (by decide)) k) ?_
  show Go p e below s _ _ _ s₁ (mkF m 40 #[.val (.int (4 : Int32))] [])
  refine go_getS X0 hx hZ hown (host := "") (Or.inl (hw _ (List.mem_of_getElem? (i := 29) rfl))) Via.refl e0 P0 (hb hby d1_40) rfl ?_
  intro T6 X6 e6
  show Go p e below s _ _ _ T6 (mkF m 43 #[.val (.int (4 : Int32))] [(.ref t)])
  exact go_retA X6 hx hlk hret rfl rfl (hb hby d1_43) (by decide) (by decide) ⟨rfl, N0, e6⟩
def fPick5 (t : Addr) : Addr := t
theorem ef_pick5 (m : MethodId) (t : Addr) : entryFrame m #[(.int (5 : Int32))] 1 = mkF m 0 #[.val (.int (5 : Int32))] [] := by first | (simp [entryFrame, mkF, argsToLocals, Value.category]; done) | rfl
abbrev rm_pick5 : Room := ({ frames := 0, cells := 0, slots := 0, locals := 0 } : Room)
set_option maxRecDepth 65536 in
set_option maxHeartbeats 4000000 in
theorem met_pick5 (l : Launch) (Z : State) (a0 : Array Value) (hw : ∀ d ∈ tables_1, d.before a0 Z = true) (t : Addr) (h0 : Heap) (n0 : Nat) (Z0 : n0 ≤ h0.size) (P0 : Sta Z h0 "com/example/skipstone/skipstone/prune/Operator" "GREATER_OR_EQUAL" "Lcom/example/skipstone/skipstone/prune/Operator;" (.ref t)) :
    Met l (⟨"com/example/skipstone/skipstone/prune/OperatorNegatedPinLaw", "pick", "(I)Lcom/example/skipstone/skipstone/prune/Operator;"⟩ : MethodName) method_2_code 1 (some (FieldType.object "com/example/skipstone/skipstone/prune/Operator")) [] rm_pick5 Z #[(.int (5 : Int32))] h0 (QV (some (.ref (fPick5 t))) h0 n0) 0 0 := by
  refine own_body pn1 ?_
  intro p e s m below meth c s₁ ct X0 e0
  have ct0 := ct
  obtain ⟨hx, hZ, hown, hby, hml, hret, hlk, hnm⟩ := ct
  have N0 := Fr.nil n0
  refine castGo (ef_pick5 m t) ?_
  unfold fPick5
  show Go p e below s _ _ _ s₁ (mkF m 0 #[.val (.int (5 : Int32))] [])
  refine go_st (fun _ k => XS.iloadN X0.here hx rfl (hb hby d1_0) rfl k) ?_
  show Go p e below s _ _ _ s₁ (mkF m 1 #[.val (.int (5 : Int32))] [(.int (5 : Int32))])
  refine go_st (fun _ k => XS.ifYes X0.here hx rfl (pc0 := 1) (pc' := 8) rfl (hb hby d1_1) rfl (XT.i0_ne_t (by decide)) (by decide) (by decide) k) ?_
  show Go p e below s _ _ _ s₁ (mkF m 8 #[.val (.int (5 : Int32))] [])
  refine go_st (fun _ k => XS.iloadN X0.here hx rfl (hb hby d1_8) rfl k) ?_
  show Go p e below s _ _ _ s₁ (mkF m 9 #[.val (.int (5 : Int32))] [(.int (5 : Int32))])
  refine go_st (fun _ k => XT.iconstV X0.here hx rfl (1 : Int32) (hb hby d1_9) (by decide) k) ?_
  show Go p e below s _ _ _ s₁ (mkF m 10 #[.val (.int (5 : Int32))] [(.int (1 : Int32)), (.int (5 : Int32))])
  refine go_st (fun _ k => XS.icmpYes X0.here hx rfl (pc0 := 10) (pc' := 17) rfl (hb hby d1_10) rfl (XT.ii_ne_t (by decide)) (by decide) (by decide) k) ?_
  show Go p e below s _ _ _ s₁ (mkF m 17 #[.val (.int (5 : Int32))] [])
  refine go_st (fun _ k => XS.iloadN X0.here hx rfl (hb hby d1_17) rfl k) ?_
  show Go p e below s _ _ _ s₁ (mkF m 18 #[.val (.int (5 : Int32))] [(.int (5 : Int32))])
  refine go_st (fun _ k => XT.iconstV X0.here hx rfl (2 : Int32) (hb hby d1_18) (by decide) k) ?_
  show Go p e below s _ _ _ s₁ (mkF m 19 #[.val (.int (5 : Int32))] [(.int (2 : Int32)), (.int (5 : Int32))])
  refine go_st (fun _ k => XS.icmpYes X0.here hx rfl (pc0 := 19) (pc' := 26) rfl (hb hby d1_19) rfl (XT.ii_ne_t (by decide)) (by decide) (by decide) k) ?_
  show Go p e below s _ _ _ s₁ (mkF m 26 #[.val (.int (5 : Int32))] [])
  refine go_st (fun _ k => XS.iloadN X0.here hx rfl (hb hby d1_26) rfl k) ?_
  show Go p e below s _ _ _ s₁ (mkF m 27 #[.val (.int (5 : Int32))] [(.int (5 : Int32))])
  refine go_st (fun _ k => XT.iconstV X0.here hx rfl (3 : Int32) (hb hby d1_27) (by decide) k) ?_
  show Go p e below s _ _ _ s₁ (mkF m 28 #[.val (.int (5 : Int32))] [(.int (3 : Int32)), (.int (5 : Int32))])
  refine go_st (fun _ k => XS.icmpYes X0.here hx rfl (pc0 := 28) (pc' := 35) rfl (hb hby d1_28) rfl (XT.ii_ne_t (by decide)) (by decide) (by decide) k) ?_
  show Go p e below s _ _ _ s₁ (mkF m 35 #[.val (.int (5 : Int32))] [])
  refine go_st (fun _ k => XS.iloadN X0.here hx rfl (hb hby d1_35) rfl k) ?_
  show Go p e below s _ _ _ s₁ (mkF m 36 #[.val (.int (5 : Int32))] [(.int (5 : Int32))])
  refine go_st (fun _ k => XT.iconstV X0.here hx rfl (4 : Int32) (hb hby d1_36) (by decide) k) ?_
  show Go p e below s _ _ _ s₁ (mkF m 37 #[.val (.int (5 : Int32))] [(.int (4 : Int32)), (.int (5 : Int32))])
  refine go_st (fun _ k => XS.icmpYes X0.here hx rfl (pc0 := 37) (pc' := 44) rfl (hb hby d1_37) rfl (XT.ii_ne_t (by decide)) (by decide) (by decide) k) ?_
  show Go p e below s _ _ _ s₁ (mkF m 44 #[.val (.int (5 : Int32))] [])
  refine go_getS X0 hx hZ hown (host := "") (Or.inl (hw _ (List.mem_of_getElem? (i := 37) rfl))) Via.refl e0 P0 (hb hby d1_44) rfl ?_
  intro T7 X7 e7
  show Go p e below s _ _ _ T7 (mkF m 47 #[.val (.int (5 : Int32))] [(.ref t)])
  exact go_retA X7 hx hlk hret rfl rfl (hb hby d1_47) (by decide) (by decide) ⟨rfl, N0, e7⟩
theorem d2_0 : decode prog_26_method_6_code 0 = .ok (.aload_n 0, 1) := by decide +kernel
theorem d2_1 : decode prog_26_method_6_code 1 = .ok (.invokevirtual 57, 3) := by decide +kernel
theorem d2_4 : decode prog_26_method_6_code 4 = .ok (.tableswitch 40 0 5 #[50, 56, 62, 68, 74, 80], 40) := by decide +kernel
theorem d2_44 : decode prog_26_method_6_code 44 = .ok (.new 61, 3) := by decide +kernel
theorem d2_47 : decode prog_26_method_6_code 47 = .ok (.dup, 1) := by decide +kernel
theorem d2_48 : decode prog_26_method_6_code 48 = .ok (.aconst_null, 1) := by decide +kernel
theorem d2_49 : decode prog_26_method_6_code 49 = .ok (.aconst_null, 1) := by decide +kernel
theorem d2_50 : decode prog_26_method_6_code 50 = .ok (.invokespecial 63, 3) := by decide +kernel
theorem d2_53 : decode prog_26_method_6_code 53 = .ok (.athrow, 1) := by decide +kernel
theorem d2_54 : decode prog_26_method_6_code 54 = .ok (.getstatic 7, 3) := by decide +kernel
theorem d2_57 : decode prog_26_method_6_code 57 = .ok (.goto 30, 3) := by decide +kernel
theorem d2_60 : decode prog_26_method_6_code 60 = .ok (.getstatic 3, 3) := by decide +kernel
theorem d2_63 : decode prog_26_method_6_code 63 = .ok (.goto 24, 3) := by decide +kernel
theorem d2_66 : decode prog_26_method_6_code 66 = .ok (.getstatic 19, 3) := by decide +kernel
theorem d2_69 : decode prog_26_method_6_code 69 = .ok (.goto 18, 3) := by decide +kernel
theorem d2_72 : decode prog_26_method_6_code 72 = .ok (.getstatic 16, 3) := by decide +kernel
theorem d2_75 : decode prog_26_method_6_code 75 = .ok (.goto 12, 3) := by decide +kernel
theorem d2_78 : decode prog_26_method_6_code 78 = .ok (.getstatic 13, 3) := by decide +kernel
theorem d2_81 : decode prog_26_method_6_code 81 = .ok (.goto 6, 3) := by decide +kernel
theorem d2_84 : decode prog_26_method_6_code 84 = .ok (.getstatic 10, 3) := by decide +kernel
theorem d2_87 : decode prog_26_method_6_code 87 = .ok (.areturn, 1) := by decide +kernel
theorem pn2 : plainFor (⟨"com/example/skipstone/skipstone/prune/Operator", "negated", "()Lcom/example/skipstone/skipstone/prune/Operator;"⟩ : MethodName) = true := by first | (refine plainFor_of_name ?_; simp [plainName, overriddenIn]; done) | (refine plainFor_of_name ?_; decide +kernel) | decide +kernel
theorem pd0 : parseMethodDescriptor "()I" = some ⟨[], (some .int)⟩ := by decide +kernel
def fNeg0 (t : Addr) : Addr := t
theorem ef_neg0 (m : MethodId) (a : Addr) (t : Addr) : entryFrame m #[(.ref a)] 1 = mkF m 0 #[.val (.ref a)] [] := by first | (simp [entryFrame, mkF, argsToLocals, Value.category]; done) | rfl
abbrev rm_neg0 : Room := ({ frames := 1, cells := 0, slots := 0, locals := 12 } : Room)
set_option maxRecDepth 65536 in
set_option maxHeartbeats 4000000 in
theorem met_neg0 (l : Launch) (Z : State) (a0 : Array Value) (hw : ∀ d ∈ tables_1, d.before a0 Z = true) (a : Addr) (t : Addr) (h0 : Heap) (n0 : Nat) (Z0 : n0 ≤ h0.size) (P0 : Exa Z h0 a "com/example/skipstone/skipstone/prune/Operator") (P1 : Fld Z h0 a "java/lang/Enum" "ordinal" "I" (.int (0 : Int32))) (P2 : Sta Z h0 "com/example/skipstone/skipstone/prune/Operator" "NOT_EQUAL" "Lcom/example/skipstone/skipstone/prune/Operator;" (.ref t)) :
    Met l (⟨"com/example/skipstone/skipstone/prune/Operator", "negated", "()Lcom/example/skipstone/skipstone/prune/Operator;"⟩ : MethodName) prog_26_method_6_code 1 (some (FieldType.object "com/example/skipstone/skipstone/prune/Operator")) [] rm_neg0 Z #[(.ref a)] h0 (QV (some (.ref (fNeg0 t))) h0 n0) 0 0 := by
  refine own_body pn2 ?_
  intro p e s m below meth c s₁ ct X0 e0
  have ct0 := ct
  obtain ⟨hx, hZ, hown, hby, hml, hret, hlk, hnm⟩ := ct
  have N0 := Fr.nil n0
  refine castGo (ef_neg0 m a t) ?_
  unfold fNeg0
  show Go p e below s _ _ _ s₁ (mkF m 0 #[.val (.ref a)] [])
  refine go_st (fun _ k => XS.aloadN X0.here hx rfl (hb hby d2_0) rfl rfl k) ?_
  show Go p e below s _ _ _ s₁ (mkF m 1 #[.val (.ref a)] [(.ref a)])
  refine go_callU X0 hx hZ hml hown (hw _ (List.mem_of_getElem? (i := 13) rfl)) (hw _ (List.mem_of_getElem? (i := 14) rfl)) (hw _ (List.mem_of_getElem? (i := 15) rfl)) (by decide) (hw _ (List.mem_of_getElem? (i := 17) rfl)) (hw _ (List.mem_of_getElem? (i := 16) rfl)) (hw _ (List.mem_of_getElem? (i := 19) rfl)) (hw _ (List.mem_of_getElem? (i := 18) rfl)) e0 P0 (argsL := []) (rest := []) (W := 0) (met_3 l Z a0 hw a (0 : Int32) h0 n0 Z0 P1) (hb hby d2_1) rfl rfl rfl (lenOf pd0 rfl) (by show 2 * 0 + _ ≤ _; exact Nat.le_of_eq rfl) (by decide) (by decide) (by decide) (by decide) ?_
  intro T8 v8 L8 X8 q8
  obtain ⟨rfl, M8, e8⟩ := q8
  have N8 := Fr.app N0 M8
  show Go p e below s _ _ _ T8 (mkF m 4 #[.val (.ref a)] [(.int (0 : Int32))])
  refine go_st (fun _ k => XS.tswIn X8.here hx rfl (pc0 := 4) (pc' := 54) (o := 50) rfl (hb hby d2_4) rfl (by decide) (by decide) (by decide) (by decide) k) ?_
  show Go p e below s _ _ _ T8 (mkF m 54 #[.val (.ref a)] [])
  refine go_getS X8 hx hZ hown (host := "") (Or.inl (hw _ (List.mem_of_getElem? (i := 22) rfl))) Via.refl e8 P2 (hb hby d2_54) rfl ?_
  intro T9 X9 e9
  show Go p e below s _ _ _ T9 (mkF m 57 #[.val (.ref a)] [(.ref t)])
  refine go_st (fun _ k => XS.goto X9.here hx rfl (pc0 := 57) (pc' := 87) rfl (hb hby d2_57) (by decide) (by decide) k) ?_
  show Go p e below s _ _ _ T9 (mkF m 87 #[.val (.ref a)] [(.ref t)])
  exact go_retA X9 hx hlk hret rfl rfl (hb hby d2_87) (by decide) (by decide) ⟨rfl, N8, e9⟩
def fNeg1 (t : Addr) : Addr := t
theorem ef_neg1 (m : MethodId) (a : Addr) (t : Addr) : entryFrame m #[(.ref a)] 1 = mkF m 0 #[.val (.ref a)] [] := by first | (simp [entryFrame, mkF, argsToLocals, Value.category]; done) | rfl
abbrev rm_neg1 : Room := ({ frames := 1, cells := 0, slots := 0, locals := 12 } : Room)
set_option maxRecDepth 65536 in
set_option maxHeartbeats 4000000 in
theorem met_neg1 (l : Launch) (Z : State) (a0 : Array Value) (hw : ∀ d ∈ tables_1, d.before a0 Z = true) (a : Addr) (t : Addr) (h0 : Heap) (n0 : Nat) (Z0 : n0 ≤ h0.size) (P0 : Exa Z h0 a "com/example/skipstone/skipstone/prune/Operator") (P1 : Fld Z h0 a "java/lang/Enum" "ordinal" "I" (.int (1 : Int32))) (P2 : Sta Z h0 "com/example/skipstone/skipstone/prune/Operator" "EQUAL" "Lcom/example/skipstone/skipstone/prune/Operator;" (.ref t)) :
    Met l (⟨"com/example/skipstone/skipstone/prune/Operator", "negated", "()Lcom/example/skipstone/skipstone/prune/Operator;"⟩ : MethodName) prog_26_method_6_code 1 (some (FieldType.object "com/example/skipstone/skipstone/prune/Operator")) [] rm_neg1 Z #[(.ref a)] h0 (QV (some (.ref (fNeg1 t))) h0 n0) 0 0 := by
  refine own_body pn2 ?_
  intro p e s m below meth c s₁ ct X0 e0
  have ct0 := ct
  obtain ⟨hx, hZ, hown, hby, hml, hret, hlk, hnm⟩ := ct
  have N0 := Fr.nil n0
  refine castGo (ef_neg1 m a t) ?_
  unfold fNeg1
  show Go p e below s _ _ _ s₁ (mkF m 0 #[.val (.ref a)] [])
  refine go_st (fun _ k => XS.aloadN X0.here hx rfl (hb hby d2_0) rfl rfl k) ?_
  show Go p e below s _ _ _ s₁ (mkF m 1 #[.val (.ref a)] [(.ref a)])
  refine go_callU X0 hx hZ hml hown (hw _ (List.mem_of_getElem? (i := 13) rfl)) (hw _ (List.mem_of_getElem? (i := 14) rfl)) (hw _ (List.mem_of_getElem? (i := 15) rfl)) (by decide) (hw _ (List.mem_of_getElem? (i := 17) rfl)) (hw _ (List.mem_of_getElem? (i := 16) rfl)) (hw _ (List.mem_of_getElem? (i := 19) rfl)) (hw _ (List.mem_of_getElem? (i := 18) rfl)) e0 P0 (argsL := []) (rest := []) (W := 0) (met_3 l Z a0 hw a (1 : Int32) h0 n0 Z0 P1) (hb hby d2_1) rfl rfl rfl (lenOf pd0 rfl) (by show 2 * 0 + _ ≤ _; exact Nat.le_of_eq rfl) (by decide) (by decide) (by decide) (by decide) ?_
  intro T10 v10 L10 X10 q10
  obtain ⟨rfl, M10, e10⟩ := q10
  have N10 := Fr.app N0 M10
  show Go p e below s _ _ _ T10 (mkF m 4 #[.val (.ref a)] [(.int (1 : Int32))])
  refine go_st (fun _ k => XS.tswIn X10.here hx rfl (pc0 := 4) (pc' := 60) (o := 56) rfl (hb hby d2_4) rfl (by decide) (by decide) (by decide) (by decide) k) ?_
  show Go p e below s _ _ _ T10 (mkF m 60 #[.val (.ref a)] [])
  refine go_getS X10 hx hZ hown (host := "") (Or.inl (hw _ (List.mem_of_getElem? (i := 28) rfl))) Via.refl e10 P2 (hb hby d2_60) rfl ?_
  intro T11 X11 e11
  show Go p e below s _ _ _ T11 (mkF m 63 #[.val (.ref a)] [(.ref t)])
  refine go_st (fun _ k => XS.goto X11.here hx rfl (pc0 := 63) (pc' := 87) rfl (hb hby d2_63) (by decide) (by decide) k) ?_
  show Go p e below s _ _ _ T11 (mkF m 87 #[.val (.ref a)] [(.ref t)])
  exact go_retA X11 hx hlk hret rfl rfl (hb hby d2_87) (by decide) (by decide) ⟨rfl, N10, e11⟩
def fNeg2 (t : Addr) : Addr := t
theorem ef_neg2 (m : MethodId) (a : Addr) (t : Addr) : entryFrame m #[(.ref a)] 1 = mkF m 0 #[.val (.ref a)] [] := by first | (simp [entryFrame, mkF, argsToLocals, Value.category]; done) | rfl
abbrev rm_neg2 : Room := ({ frames := 1, cells := 0, slots := 0, locals := 12 } : Room)
set_option maxRecDepth 65536 in
set_option maxHeartbeats 4000000 in
theorem met_neg2 (l : Launch) (Z : State) (a0 : Array Value) (hw : ∀ d ∈ tables_1, d.before a0 Z = true) (a : Addr) (t : Addr) (h0 : Heap) (n0 : Nat) (Z0 : n0 ≤ h0.size) (P0 : Exa Z h0 a "com/example/skipstone/skipstone/prune/Operator") (P1 : Fld Z h0 a "java/lang/Enum" "ordinal" "I" (.int (2 : Int32))) (P2 : Sta Z h0 "com/example/skipstone/skipstone/prune/Operator" "GREATER_OR_EQUAL" "Lcom/example/skipstone/skipstone/prune/Operator;" (.ref t)) :
    Met l (⟨"com/example/skipstone/skipstone/prune/Operator", "negated", "()Lcom/example/skipstone/skipstone/prune/Operator;"⟩ : MethodName) prog_26_method_6_code 1 (some (FieldType.object "com/example/skipstone/skipstone/prune/Operator")) [] rm_neg2 Z #[(.ref a)] h0 (QV (some (.ref (fNeg2 t))) h0 n0) 0 0 := by
  refine own_body pn2 ?_
  intro p e s m below meth c s₁ ct X0 e0
  have ct0 := ct
  obtain ⟨hx, hZ, hown, hby, hml, hret, hlk, hnm⟩ := ct
  have N0 := Fr.nil n0
  refine castGo (ef_neg2 m a t) ?_
  unfold fNeg2
  show Go p e below s _ _ _ s₁ (mkF m 0 #[.val (.ref a)] [])
  refine go_st (fun _ k => XS.aloadN X0.here hx rfl (hb hby d2_0) rfl rfl k) ?_
  show Go p e below s _ _ _ s₁ (mkF m 1 #[.val (.ref a)] [(.ref a)])
  refine go_callU X0 hx hZ hml hown (hw _ (List.mem_of_getElem? (i := 13) rfl)) (hw _ (List.mem_of_getElem? (i := 14) rfl)) (hw _ (List.mem_of_getElem? (i := 15) rfl)) (by decide) (hw _ (List.mem_of_getElem? (i := 17) rfl)) (hw _ (List.mem_of_getElem? (i := 16) rfl)) (hw _ (List.mem_of_getElem? (i := 19) rfl)) (hw _ (List.mem_of_getElem? (i := 18) rfl)) e0 P0 (argsL := []) (rest := []) (W := 0) (met_3 l Z a0 hw a (2 : Int32) h0 n0 Z0 P1) (hb hby d2_1) rfl rfl rfl (lenOf pd0 rfl) (by show 2 * 0 + _ ≤ _; exact Nat.le_of_eq rfl) (by decide) (by decide) (by decide) (by decide) ?_
  intro T12 v12 L12 X12 q12
  obtain ⟨rfl, M12, e12⟩ := q12
  have N12 := Fr.app N0 M12
  show Go p e below s _ _ _ T12 (mkF m 4 #[.val (.ref a)] [(.int (2 : Int32))])
  refine go_st (fun _ k => XS.tswIn X12.here hx rfl (pc0 := 4) (pc' := 66) (o := 62) rfl (hb hby d2_4) rfl (by decide) (by decide) (by decide) (by decide) k) ?_
  show Go p e below s _ _ _ T12 (mkF m 66 #[.val (.ref a)] [])
  refine go_getS X12 hx hZ hown (host := "") (Or.inl (hw _ (List.mem_of_getElem? (i := 40) rfl))) Via.refl e12 P2 (hb hby d2_66) rfl ?_
  intro T13 X13 e13
  show Go p e below s _ _ _ T13 (mkF m 69 #[.val (.ref a)] [(.ref t)])
  refine go_st (fun _ k => XS.goto X13.here hx rfl (pc0 := 69) (pc' := 87) rfl (hb hby d2_69) (by decide) (by decide) k) ?_
  show Go p e below s _ _ _ T13 (mkF m 87 #[.val (.ref a)] [(.ref t)])
  exact go_retA X13 hx hlk hret rfl rfl (hb hby d2_87) (by decide) (by decide) ⟨rfl, N12, e13⟩
def fNeg3 (t : Addr) : Addr := t
theorem ef_neg3 (m : MethodId) (a : Addr) (t : Addr) : entryFrame m #[(.ref a)] 1 = mkF m 0 #[.val (.ref a)] [] := by first | (simp [entryFrame, mkF, argsToLocals, Value.category]; done) | rfl
abbrev rm_neg3 : Room := ({ frames := 1, cells := 0, slots := 0, locals := 12 } : Room)
set_option maxRecDepth 65536 in
set_option maxHeartbeats 4000000 in
theorem met_neg3 (l : Launch) (Z : State) (a0 : Array Value) (hw : ∀ d ∈ tables_1, d.before a0 Z = true) (a : Addr) (t : Addr) (h0 : Heap) (n0 : Nat) (Z0 : n0 ≤ h0.size) (P0 : Exa Z h0 a "com/example/skipstone/skipstone/prune/Operator") (P1 : Fld Z h0 a "java/lang/Enum" "ordinal" "I" (.int (3 : Int32))) (P2 : Sta Z h0 "com/example/skipstone/skipstone/prune/Operator" "GREATER" "Lcom/example/skipstone/skipstone/prune/Operator;" (.ref t)) :
    Met l (⟨"com/example/skipstone/skipstone/prune/Operator", "negated", "()Lcom/example/skipstone/skipstone/prune/Operator;"⟩ : MethodName) prog_26_method_6_code 1 (some (FieldType.object "com/example/skipstone/skipstone/prune/Operator")) [] rm_neg3 Z #[(.ref a)] h0 (QV (some (.ref (fNeg3 t))) h0 n0) 0 0 := by
  refine own_body pn2 ?_
  intro p e s m below meth c s₁ ct X0 e0
  have ct0 := ct
  obtain ⟨hx, hZ, hown, hby, hml, hret, hlk, hnm⟩ := ct
  have N0 := Fr.nil n0
  refine castGo (ef_neg3 m a t) ?_
  unfold fNeg3
  show Go p e below s _ _ _ s₁ (mkF m 0 #[.val (.ref a)] [])
  refine go_st (fun _ k => XS.aloadN X0.here hx rfl (hb hby d2_0) rfl rfl k) ?_
  show Go p e below s _ _ _ s₁ (mkF m 1 #[.val (.ref a)] [(.ref a)])
  refine go_callU X0 hx hZ hml hown (hw _ (List.mem_of_getElem? (i := 13) rfl)) (hw _ (List.mem_of_getElem? (i := 14) rfl)) (hw _ (List.mem_of_getElem? (i := 15) rfl)) (by decide) (hw _ (List.mem_of_getElem? (i := 17) rfl)) (hw _ (List.mem_of_getElem? (i := 16) rfl)) (hw _ (List.mem_of_getElem? (i := 19) rfl)) (hw _ (List.mem_of_getElem? (i := 18) rfl)) e0 P0 (argsL := []) (rest := []) (W := 0) (met_3 l Z a0 hw a (3 : Int32) h0 n0 Z0 P1) (hb hby d2_1) rfl rfl rfl (lenOf pd0 rfl) (by show 2 * 0 + _ ≤ _; exact Nat.le_of_eq rfl) (by decide) (by decide) (by decide) (by decide) ?_
  intro T14 v14 L14 X14 q14
  obtain ⟨rfl, M14, e14⟩ := q14
  have N14 := Fr.app N0 M14
  show Go p e below s _ _ _ T14 (mkF m 4 #[.val (.ref a)] [(.int (3 : Int32))])
  refine go_st (fun _ k => XS.tswIn X14.here hx rfl (pc0 := 4) (pc' := 72) (o := 68) rfl (hb hby d2_4) rfl (by decide) (by decide) (by decide) (by decide) k) ?_
  show Go p e below s _ _ _ T14 (mkF m 72 #[.val (.ref a)] [])
  refine go_getS X14 hx hZ hown (host := "") (Or.inl (hw _ (List.mem_of_getElem? (i := 36) rfl))) Via.refl e14 P2 (hb hby d2_72) rfl ?_
  intro T15 X15 e15
  show Go p e below s _ _ _ T15 (mkF m 75 #[.val (.ref a)] [(.ref t)])
  refine go_st (fun _ k => XS.goto X15.here hx rfl (pc0 := 75) (pc' := 87) rfl (hb hby d2_75) (by decide) (by decide) k) ?_
  show Go p e below s _ _ _ T15 (mkF m 87 #[.val (.ref a)] [(.ref t)])
  exact go_retA X15 hx hlk hret rfl rfl (hb hby d2_87) (by decide) (by decide) ⟨rfl, N14, e15⟩
def fNeg4 (t : Addr) : Addr := t
theorem ef_neg4 (m : MethodId) (a : Addr) (t : Addr) : entryFrame m #[(.ref a)] 1 = mkF m 0 #[.val (.ref a)] [] := by first | (simp [entryFrame, mkF, argsToLocals, Value.category]; done) | rfl
abbrev rm_neg4 : Room := ({ frames := 1, cells := 0, slots := 0, locals := 12 } : Room)
set_option maxRecDepth 65536 in
set_option maxHeartbeats 4000000 in
theorem met_neg4 (l : Launch) (Z : State) (a0 : Array Value) (hw : ∀ d ∈ tables_1, d.before a0 Z = true) (a : Addr) (t : Addr) (h0 : Heap) (n0 : Nat) (Z0 : n0 ≤ h0.size) (P0 : Exa Z h0 a "com/example/skipstone/skipstone/prune/Operator") (P1 : Fld Z h0 a "java/lang/Enum" "ordinal" "I" (.int (4 : Int32))) (P2 : Sta Z h0 "com/example/skipstone/skipstone/prune/Operator" "LESS_OR_EQUAL" "Lcom/example/skipstone/skipstone/prune/Operator;" (.ref t)) :
    Met l (⟨"com/example/skipstone/skipstone/prune/Operator", "negated", "()Lcom/example/skipstone/skipstone/prune/Operator;"⟩ : MethodName) prog_26_method_6_code 1 (some (FieldType.object "com/example/skipstone/skipstone/prune/Operator")) [] rm_neg4 Z #[(.ref a)] h0 (QV (some (.ref (fNeg4 t))) h0 n0) 0 0 := by
  refine own_body pn2 ?_
  intro p e s m below meth c s₁ ct X0 e0
  have ct0 := ct
  obtain ⟨hx, hZ, hown, hby, hml, hret, hlk, hnm⟩ := ct
  have N0 := Fr.nil n0
  refine castGo (ef_neg4 m a t) ?_
  unfold fNeg4
  show Go p e below s _ _ _ s₁ (mkF m 0 #[.val (.ref a)] [])
  refine go_st (fun _ k => XS.aloadN X0.here hx rfl (hb hby d2_0) rfl rfl k) ?_
  show Go p e below s _ _ _ s₁ (mkF m 1 #[.val (.ref a)] [(.ref a)])
  refine go_callU X0 hx hZ hml hown (hw _ (List.mem_of_getElem? (i := 13) rfl)) (hw _ (List.mem_of_getElem? (i := 14) rfl)) (hw _ (List.mem_of_getElem? (i := 15) rfl)) (by decide) (hw _ (List.mem_of_getElem? (i := 17) rfl)) (hw _ (List.mem_of_getElem? (i := 16) rfl)) (hw _ (List.mem_of_getElem? (i := 19) rfl)) (hw _ (List.mem_of_getElem? (i := 18) rfl)) e0 P0 (argsL := []) (rest := []) (W := 0) (met_3 l Z a0 hw a (4 : Int32) h0 n0 Z0 P1) (hb hby d2_1) rfl rfl rfl (lenOf pd0 rfl) (by show 2 * 0 + _ ≤ _; exact Nat.le_of_eq rfl) (by decide) (by decide) (by decide) (by decide) ?_
  intro T16 v16 L16 X16 q16
  obtain ⟨rfl, M16, e16⟩ := q16
  have N16 := Fr.app N0 M16
  show Go p e below s _ _ _ T16 (mkF m 4 #[.val (.ref a)] [(.int (4 : Int32))])
  refine go_st (fun _ k => XS.tswIn X16.here hx rfl (pc0 := 4) (pc' := 78) (o := 74) rfl (hb hby d2_4) rfl (by decide) (by decide) (by decide) (by decide) k) ?_
  show Go p e below s _ _ _ T16 (mkF m 78 #[.val (.ref a)] [])
  refine go_getS X16 hx hZ hown (host := "") (Or.inl (hw _ (List.mem_of_getElem? (i := 31) rfl))) Via.refl e16 P2 (hb hby d2_78) rfl ?_
  intro T17 X17 e17
  show Go p e below s _ _ _ T17 (mkF m 81 #[.val (.ref a)] [(.ref t)])
  refine go_st (fun _ k => XS.goto X17.here hx rfl (pc0 := 81) (pc' := 87) rfl (hb hby d2_81) (by decide) (by decide) k) ?_
  show Go p e below s _ _ _ T17 (mkF m 87 #[.val (.ref a)] [(.ref t)])
  exact go_retA X17 hx hlk hret rfl rfl (hb hby d2_87) (by decide) (by decide) ⟨rfl, N16, e17⟩
def fNeg5 (t : Addr) : Addr := t
theorem ef_neg5 (m : MethodId) (a : Addr) (t : Addr) : entryFrame m #[(.ref a)] 1 = mkF m 0 #[.val (.ref a)] [] := by first | (simp [entryFrame, mkF, argsToLocals, Value.category]; done) | rfl
abbrev rm_neg5 : Room := ({ frames := 1, cells := 0, slots := 0, locals := 12 } : Room)
set_option maxRecDepth 65536 in
set_option maxHeartbeats 4000000 in
theorem met_neg5 (l : Launch) (Z : State) (a0 : Array Value) (hw : ∀ d ∈ tables_1, d.before a0 Z = true) (a : Addr) (t : Addr) (h0 : Heap) (n0 : Nat) (Z0 : n0 ≤ h0.size) (P0 : Exa Z h0 a "com/example/skipstone/skipstone/prune/Operator") (P1 : Fld Z h0 a "java/lang/Enum" "ordinal" "I" (.int (5 : Int32))) (P2 : Sta Z h0 "com/example/skipstone/skipstone/prune/Operator" "LESS" "Lcom/example/skipstone/skipstone/prune/Operator;" (.ref t)) :
    Met l (⟨"com/example/skipstone/skipstone/prune/Operator", "negated", "()Lcom/example/skipstone/skipstone/prune/Operator;"⟩ : MethodName) prog_26_method_6_code 1 (some (FieldType.object "com/example/skipstone/skipstone/prune/Operator")) [] rm_neg5 Z #[(.ref a)] h0 (QV (some (.ref (fNeg5 t))) h0 n0) 0 0 := by
  refine own_body pn2 ?_
  intro p e s m below meth c s₁ ct X0 e0
  have ct0 := ct
  obtain ⟨hx, hZ, hown, hby, hml, hret, hlk, hnm⟩ := ct
  have N0 := Fr.nil n0
  refine castGo (ef_neg5 m a t) ?_
  unfold fNeg5
  show Go p e below s _ _ _ s₁ (mkF m 0 #[.val (.ref a)] [])
  refine go_st (fun _ k => XS.aloadN X0.here hx rfl (hb hby d2_0) rfl rfl k) ?_
  show Go p e below s _ _ _ s₁ (mkF m 1 #[.val (.ref a)] [(.ref a)])
  refine go_callU X0 hx hZ hml hown (hw _ (List.mem_of_getElem? (i := 13) rfl)) (hw _ (List.mem_of_getElem? (i := 14) rfl)) (hw _ (List.mem_of_getElem? (i := 15) rfl)) (by decide) (hw _ (List.mem_of_getElem? (i := 17) rfl)) (hw _ (List.mem_of_getElem? (i := 16) rfl)) (hw _ (List.mem_of_getElem? (i := 19) rfl)) (hw _ (List.mem_of_getElem? (i := 18) rfl)) e0 P0 (argsL := []) (rest := []) (W := 0) (met_3 l Z a0 hw a (5 : Int32) h0 n0 Z0 P1) (hb hby d2_1) rfl rfl rfl (lenOf pd0 rfl) (by show 2 * 0 + _ ≤ _; exact Nat.le_of_eq rfl) (by decide) (by decide) (by decide) (by decide) ?_
  intro T18 v18 L18 X18 q18
  obtain ⟨rfl, M18, e18⟩ := q18
  have N18 := Fr.app N0 M18
  show Go p e below s _ _ _ T18 (mkF m 4 #[.val (.ref a)] [(.int (5 : Int32))])
  refine go_st (fun _ k => XS.tswIn X18.here hx rfl (pc0 := 4) (pc' := 84) (o := 80) rfl (hb hby d2_4) rfl (by decide) (by decide) (by decide) (by decide) k) ?_
  show Go p e below s _ _ _ T18 (mkF m 84 #[.val (.ref a)] [])
  refine go_getS X18 hx hZ hown (host := "") (Or.inl (hw _ (List.mem_of_getElem? (i := 39) rfl))) Via.refl e18 P2 (hb hby d2_84) rfl ?_
  intro T19 X19 e19
  show Go p e below s _ _ _ T19 (mkF m 87 #[.val (.ref a)] [(.ref t)])
  exact go_retA X19 hx hlk hret rfl rfl (hb hby d2_87) (by decide) (by decide) ⟨rfl, N18, e19⟩
theorem d4_0 : decode method_3_code 0 = .ok (.aload_n 0, 1) := by decide +kernel
theorem d4_1 : decode method_3_code 1 = .ok (.getstatic 7, 3) := by decide +kernel
theorem d4_4 : decode method_3_code 4 = .ok (.if_acmp .ne 14, 3) := by decide +kernel
theorem d4_7 : decode method_3_code 7 = .ok (.iload_n 1, 1) := by decide +kernel
theorem d4_8 : decode method_3_code 8 = .ok (.iload_n 2, 1) := by decide +kernel
theorem d4_9 : decode method_3_code 9 = .ok (.if_icmp .ne 7, 3) := by decide +kernel
theorem d4_12 : decode method_3_code 12 = .ok (.iconst 1, 1) := by decide +kernel
theorem d4_13 : decode method_3_code 13 = .ok (.goto 4, 3) := by decide +kernel
theorem d4_16 : decode method_3_code 16 = .ok (.iconst 0, 1) := by decide +kernel
theorem d4_17 : decode method_3_code 17 = .ok (.ireturn, 1) := by decide +kernel
theorem d4_18 : decode method_3_code 18 = .ok (.aload_n 0, 1) := by decide +kernel
theorem d4_19 : decode method_3_code 19 = .ok (.getstatic 13, 3) := by decide +kernel
theorem d4_22 : decode method_3_code 22 = .ok (.if_acmp .ne 14, 3) := by decide +kernel
theorem d4_25 : decode method_3_code 25 = .ok (.iload_n 1, 1) := by decide +kernel
theorem d4_26 : decode method_3_code 26 = .ok (.iload_n 2, 1) := by decide +kernel
theorem d4_27 : decode method_3_code 27 = .ok (.if_icmp .eq 7, 3) := by decide +kernel
theorem d4_30 : decode method_3_code 30 = .ok (.iconst 1, 1) := by decide +kernel
theorem d4_31 : decode method_3_code 31 = .ok (.goto 4, 3) := by decide +kernel
theorem d4_34 : decode method_3_code 34 = .ok (.iconst 0, 1) := by decide +kernel
theorem d4_35 : decode method_3_code 35 = .ok (.ireturn, 1) := by decide +kernel
theorem d4_36 : decode method_3_code 36 = .ok (.aload_n 0, 1) := by decide +kernel
theorem d4_37 : decode method_3_code 37 = .ok (.getstatic 16, 3) := by decide +kernel
theorem d4_40 : decode method_3_code 40 = .ok (.if_acmp .ne 14, 3) := by decide +kernel
theorem d4_43 : decode method_3_code 43 = .ok (.iload_n 1, 1) := by decide +kernel
theorem d4_44 : decode method_3_code 44 = .ok (.iload_n 2, 1) := by decide +kernel
theorem d4_45 : decode method_3_code 45 = .ok (.if_icmp .ge 7, 3) := by decide +kernel
theorem d4_48 : decode method_3_code 48 = .ok (.iconst 1, 1) := by decide +kernel
theorem d4_49 : decode method_3_code 49 = .ok (.goto 4, 3) := by decide +kernel
theorem d4_52 : decode method_3_code 52 = .ok (.iconst 0, 1) := by decide +kernel
theorem d4_53 : decode method_3_code 53 = .ok (.ireturn, 1) := by decide +kernel
theorem d4_54 : decode method_3_code 54 = .ok (.aload_n 0, 1) := by decide +kernel
theorem d4_55 : decode method_3_code 55 = .ok (.getstatic 19, 3) := by decide +kernel
theorem d4_58 : decode method_3_code 58 = .ok (.if_acmp .ne 14, 3) := by decide +kernel
theorem d4_61 : decode method_3_code 61 = .ok (.iload_n 1, 1) := by decide +kernel
theorem d4_62 : decode method_3_code 62 = .ok (.iload_n 2, 1) := by decide +kernel
theorem d4_63 : decode method_3_code 63 = .ok (.if_icmp .gt 7, 3) := by decide +kernel
theorem d4_66 : decode method_3_code 66 = .ok (.iconst 1, 1) := by decide +kernel
theorem d4_67 : decode method_3_code 67 = .ok (.goto 4, 3) := by decide +kernel
theorem d4_70 : decode method_3_code 70 = .ok (.iconst 0, 1) := by decide +kernel
theorem d4_71 : decode method_3_code 71 = .ok (.ireturn, 1) := by decide +kernel
theorem d4_72 : decode method_3_code 72 = .ok (.aload_n 0, 1) := by decide +kernel
theorem d4_73 : decode method_3_code 73 = .ok (.getstatic 22, 3) := by decide +kernel
theorem d4_76 : decode method_3_code 76 = .ok (.if_acmp .ne 14, 3) := by decide +kernel
theorem d4_79 : decode method_3_code 79 = .ok (.iload_n 1, 1) := by decide +kernel
theorem d4_80 : decode method_3_code 80 = .ok (.iload_n 2, 1) := by decide +kernel
theorem d4_81 : decode method_3_code 81 = .ok (.if_icmp .le 7, 3) := by decide +kernel
theorem d4_84 : decode method_3_code 84 = .ok (.iconst 1, 1) := by decide +kernel
theorem d4_85 : decode method_3_code 85 = .ok (.goto 4, 3) := by decide +kernel
theorem d4_88 : decode method_3_code 88 = .ok (.iconst 0, 1) := by decide +kernel
theorem d4_89 : decode method_3_code 89 = .ok (.ireturn, 1) := by decide +kernel
theorem d4_90 : decode method_3_code 90 = .ok (.aload_n 0, 1) := by decide +kernel
theorem d4_91 : decode method_3_code 91 = .ok (.getstatic 25, 3) := by decide +kernel
theorem d4_94 : decode method_3_code 94 = .ok (.if_acmp .ne 14, 3) := by decide +kernel
theorem d4_97 : decode method_3_code 97 = .ok (.iload_n 1, 1) := by decide +kernel
theorem d4_98 : decode method_3_code 98 = .ok (.iload_n 2, 1) := by decide +kernel
theorem d4_99 : decode method_3_code 99 = .ok (.if_icmp .lt 7, 3) := by decide +kernel
theorem d4_102 : decode method_3_code 102 = .ok (.iconst 1, 1) := by decide +kernel
theorem d4_103 : decode method_3_code 103 = .ok (.goto 4, 3) := by decide +kernel
theorem d4_106 : decode method_3_code 106 = .ok (.iconst 0, 1) := by decide +kernel
theorem d4_107 : decode method_3_code 107 = .ok (.ireturn, 1) := by decide +kernel
theorem d4_108 : decode method_3_code 108 = .ok (.iconst 0, 1) := by decide +kernel
theorem d4_109 : decode method_3_code 109 = .ok (.ireturn, 1) := by decide +kernel
theorem pn3 : plainFor (⟨"com/example/skipstone/skipstone/prune/OperatorNegatedPinLaw", "holds", "(Lcom/example/skipstone/skipstone/prune/Operator;II)Z"⟩ : MethodName) = true := by first | (refine plainFor_of_name ?_; simp [plainName, overriddenIn]; done) | (refine plainFor_of_name ?_; decide +kernel) | decide +kernel
def fHold0 (u : Int32) (v : Int32) : Int32 := (if u = v then (1 : Int32) else (0 : Int32))
theorem ef_hol0 (m : MethodId) (a : Addr) (u : Int32) (v : Int32) : entryFrame m #[(.ref a), (.int u), (.int v)] 3 = mkF m 0 #[.val (.ref a), .val (.int u), .val (.int v)] [] := by first | (simp [entryFrame, mkF, argsToLocals, Value.category]; done) | rfl
abbrev rm_hol0 : Room := ({ frames := 0, cells := 0, slots := 0, locals := 0 } : Room)
set_option maxRecDepth 65536 in
set_option maxHeartbeats 4000000 in
theorem met_hol0 (l : Launch) (Z : State) (a0 : Array Value) (hw : ∀ d ∈ tables_1, d.before a0 Z = true) (a : Addr) (u : Int32) (v : Int32) (h0 : Heap) (n0 : Nat) (Z0 : n0 ≤ h0.size) (P0 : Sta Z h0 "com/example/skipstone/skipstone/prune/Operator" "EQUAL" "Lcom/example/skipstone/skipstone/prune/Operator;" (.ref a)) :
    Met l (⟨"com/example/skipstone/skipstone/prune/OperatorNegatedPinLaw", "holds", "(Lcom/example/skipstone/skipstone/prune/Operator;II)Z"⟩ : MethodName) method_3_code 3 (some FieldType.boolean) [] rm_hol0 Z #[(.ref a), (.int u), (.int v)] h0 (QV (some (.int (fHold0 u v))) h0 n0) 0 0 := by
  refine own_body pn3 ?_
  intro p e s m below meth c s₁ ct X0 e0
  have ct0 := ct
  obtain ⟨hx, hZ, hown, hby, hml, hret, hlk, hnm⟩ := ct
  have N0 := Fr.nil n0
  refine castGo (ef_hol0 m a u v) ?_
  unfold fHold0
  show Go p e below s _ _ _ s₁ (mkF m 0 #[.val (.ref a), .val (.int u), .val (.int v)] [])
  refine go_st (fun _ k => XS.aloadN X0.here hx rfl (hb hby d4_0) rfl rfl k) ?_
  show Go p e below s _ _ _ s₁ (mkF m 1 #[.val (.ref a), .val (.int u), .val (.int v)] [(.ref a)])
  refine go_getS X0 hx hZ hown (host := "") (Or.inl (hw _ (List.mem_of_getElem? (i := 5) rfl))) Via.refl e0 P0 (hb hby d4_1) rfl ?_
  intro T20 X20 e20
  show Go p e below s _ _ _ T20 (mkF m 4 #[.val (.ref a), .val (.int u), .val (.int v)] [(.ref a), (.ref a)])
  refine go_st (fun _ k => XT.acmpNo X20.here hx rfl (hb hby d4_4) rfl rfl rfl (XT.aa_ne_f rfl) k) ?_
  show Go p e below s _ _ _ T20 (mkF m 7 #[.val (.ref a), .val (.int u), .val (.int v)] [])
  refine go_st (fun _ k => XS.iloadN X20.here hx rfl (hb hby d4_7) rfl k) ?_
  show Go p e below s _ _ _ T20 (mkF m 8 #[.val (.ref a), .val (.int u), .val (.int v)] [(.int u)])
  refine go_st (fun _ k => XS.iloadN X20.here hx rfl (hb hby d4_8) rfl k) ?_
  show Go p e below s _ _ _ T20 (mkF m 9 #[.val (.ref a), .val (.int u), .val (.int v)] [(.int v), (.int u)])
  by_cases hc21 : u = v
  · rw [if_pos hc21]
    refine go_st (fun _ k => XS.icmpNo X20.here hx rfl (hb hby d4_9) rfl (XT.ii_ne_f hc21) k) ?_
    show Go p e below s _ _ _ T20 (mkF m 12 #[.val (.ref a), .val (.int u), .val (.int v)] [])
    refine go_st (fun _ k => XT.iconstV X20.here hx rfl (1 : Int32) (hb hby d4_12) (by decide) k) ?_
    show Go p e below s _ _ _ T20 (mkF m 13 #[.val (.ref a), .val (.int u), .val (.int v)] [(.int (1 : Int32))])
    refine go_st (fun _ k => XS.goto X20.here hx rfl (pc0 := 13) (pc' := 17) rfl (hb hby d4_13) (by decide) (by decide) k) ?_
    show Go p e below s _ _ _ T20 (mkF m 17 #[.val (.ref a), .val (.int u), .val (.int v)] [(.int (1 : Int32))])
    exact go_retB (w := (1 : Int32)) X20 hx hlk hret (hb hby d4_17) (by decide) (by decide) (by decide) ⟨rfl, N0, e20⟩
  · rw [if_neg hc21]
    refine go_st (fun _ k => XS.icmpYes X20.here hx rfl (pc0 := 9) (pc' := 16) rfl (hb hby d4_9) rfl (XT.ii_ne_t hc21) (by decide) (by decide) k) ?_
    show Go p e below s _ _ _ T20 (mkF m 16 #[.val (.ref a), .val (.int u), .val (.int v)] [])
    refine go_st (fun _ k => XT.iconstV X20.here hx rfl (0 : Int32) (hb hby d4_16) (by decide) k) ?_
    show Go p e below s _ _ _ T20 (mkF m 17 #[.val (.ref a), .val (.int u), .val (.int v)] [(.int (0 : Int32))])
    exact go_retB (w := (0 : Int32)) X20 hx hlk hret (hb hby d4_17) (by decide) (by decide) (by decide) ⟨rfl, N0, e20⟩
def fHold1 (u : Int32) (v : Int32) : Int32 := (if u = v then (0 : Int32) else (1 : Int32))
theorem ef_hol1 (m : MethodId) (a : Addr) (u : Int32) (v : Int32) (t0 : Addr) : entryFrame m #[(.ref a), (.int u), (.int v)] 3 = mkF m 0 #[.val (.ref a), .val (.int u), .val (.int v)] [] := by first | (simp [entryFrame, mkF, argsToLocals, Value.category]; done) | rfl
abbrev rm_hol1 : Room := ({ frames := 0, cells := 0, slots := 0, locals := 0 } : Room)
set_option maxRecDepth 65536 in
set_option maxHeartbeats 4000000 in
theorem met_hol1 (l : Launch) (Z : State) (a0 : Array Value) (hw : ∀ d ∈ tables_1, d.before a0 Z = true) (a : Addr) (u : Int32) (v : Int32) (t0 : Addr) (h0 : Heap) (n0 : Nat) (Z0 : n0 ≤ h0.size) (P0 : Sta Z h0 "com/example/skipstone/skipstone/prune/Operator" "EQUAL" "Lcom/example/skipstone/skipstone/prune/Operator;" (.ref t0)) (P1 : Sta Z h0 "com/example/skipstone/skipstone/prune/Operator" "NOT_EQUAL" "Lcom/example/skipstone/skipstone/prune/Operator;" (.ref a)) (P2 : a ≠ t0) :
    Met l (⟨"com/example/skipstone/skipstone/prune/OperatorNegatedPinLaw", "holds", "(Lcom/example/skipstone/skipstone/prune/Operator;II)Z"⟩ : MethodName) method_3_code 3 (some FieldType.boolean) [] rm_hol1 Z #[(.ref a), (.int u), (.int v)] h0 (QV (some (.int (fHold1 u v))) h0 n0) 0 0 := by
  refine own_body pn3 ?_
  intro p e s m below meth c s₁ ct X0 e0
  have ct0 := ct
  obtain ⟨hx, hZ, hown, hby, hml, hret, hlk, hnm⟩ := ct
  have N0 := Fr.nil n0
  refine castGo (ef_hol1 m a u v t0) ?_
  unfold fHold1
  show Go p e below s _ _ _ s₁ (mkF m 0 #[.val (.ref a), .val (.int u), .val (.int v)] [])
  refine go_st (fun _ k => XS.aloadN X0.here hx rfl (hb hby d4_0) rfl rfl k) ?_
  show Go p e below s _ _ _ s₁ (mkF m 1 #[.val (.ref a), .val (.int u), .val (.int v)] [(.ref a)])
  refine go_getS X0 hx hZ hown (host := "") (Or.inl (hw _ (List.mem_of_getElem? (i := 5) rfl))) Via.refl e0 P0 (hb hby d4_1) rfl ?_
  intro T22 X22 e22
  show Go p e below s _ _ _ T22 (mkF m 4 #[.val (.ref a), .val (.int u), .val (.int v)] [(.ref t0), (.ref a)])
  refine go_st (fun _ k => XT.acmpYes X22.here hx rfl (pc0 := 4) (pc' := 18) rfl (hb hby d4_4) rfl rfl rfl (XT.aa_ne_t (fun hq => P2 (Value.ref.inj hq))) (by decide) (by decide) k) ?_
  show Go p e below s _ _ _ T22 (mkF m 18 #[.val (.ref a), .val (.int u), .val (.int v)] [])
  refine go_st (fun _ k => XS.aloadN X22.here hx rfl (hb hby d4_18) rfl rfl k) ?_
  show Go p e below s _ _ _ T22 (mkF m 19 #[.val (.ref a), .val (.int u), .val (.int v)] [(.ref a)])
  refine go_getS X22 hx hZ hown (host := "") (Or.inl (hw _ (List.mem_of_getElem? (i := 27) rfl))) Via.refl e22 P1 (hb hby d4_19) rfl ?_
  intro T23 X23 e23
  show Go p e below s _ _ _ T23 (mkF m 22 #[.val (.ref a), .val (.int u), .val (.int v)] [(.ref a), (.ref a)])
  refine go_st (fun _ k => XT.acmpNo X23.here hx rfl (hb hby d4_22) rfl rfl rfl (XT.aa_ne_f rfl) k) ?_
  show Go p e below s _ _ _ T23 (mkF m 25 #[.val (.ref a), .val (.int u), .val (.int v)] [])
  refine go_st (fun _ k => XS.iloadN X23.here hx rfl (hb hby d4_25) rfl k) ?_
  show Go p e below s _ _ _ T23 (mkF m 26 #[.val (.ref a), .val (.int u), .val (.int v)] [(.int u)])
  refine go_st (fun _ k => XS.iloadN X23.here hx rfl (hb hby d4_26) rfl k) ?_
  show Go p e below s _ _ _ T23 (mkF m 27 #[.val (.ref a), .val (.int u), .val (.int v)] [(.int v), (.int u)])
  by_cases hc24 : u = v
  · rw [if_pos hc24]
    refine go_st (fun _ k => XS.icmpYes X23.here hx rfl (pc0 := 27) (pc' := 34) rfl (hb hby d4_27) rfl (XT.ii_eq_t hc24) (by decide) (by decide) k) ?_
    show Go p e below s _ _ _ T23 (mkF m 34 #[.val (.ref a), .val (.int u), .val (.int v)] [])
    refine go_st (fun _ k => XT.iconstV X23.here hx rfl (0 : Int32) (hb hby d4_34) (by decide) k) ?_
    show Go p e below s _ _ _ T23 (mkF m 35 #[.val (.ref a), .val (.int u), .val (.int v)] [(.int (0 : Int32))])
    exact go_retB (w := (0 : Int32)) X23 hx hlk hret (hb hby d4_35) (by decide) (by decide) (by decide) ⟨rfl, N0, e23⟩
  · rw [if_neg hc24]
    refine go_st (fun _ k => XS.icmpNo X23.here hx rfl (hb hby d4_27) rfl (XT.ii_eq_f hc24) k) ?_
    show Go p e below s _ _ _ T23 (mkF m 30 #[.val (.ref a), .val (.int u), .val (.int v)] [])
    refine go_st (fun _ k => XT.iconstV X23.here hx rfl (1 : Int32) (hb hby d4_30) (by decide) k) ?_
    show Go p e below s _ _ _ T23 (mkF m 31 #[.val (.ref a), .val (.int u), .val (.int v)] [(.int (1 : Int32))])
    refine go_st (fun _ k => XS.goto X23.here hx rfl (pc0 := 31) (pc' := 35) rfl (hb hby d4_31) (by decide) (by decide) k) ?_
    show Go p e below s _ _ _ T23 (mkF m 35 #[.val (.ref a), .val (.int u), .val (.int v)] [(.int (1 : Int32))])
    exact go_retB (w := (1 : Int32)) X23 hx hlk hret (hb hby d4_35) (by decide) (by decide) (by decide) ⟨rfl, N0, e23⟩
def fHold2 (u : Int32) (v : Int32) : Int32 := (if u < v then (1 : Int32) else (0 : Int32))
theorem ef_hol2 (m : MethodId) (a : Addr) (u : Int32) (v : Int32) (t0 : Addr) (t1 : Addr) : entryFrame m #[(.ref a), (.int u), (.int v)] 3 = mkF m 0 #[.val (.ref a), .val (.int u), .val (.int v)] [] := by first | (simp [entryFrame, mkF, argsToLocals, Value.category]; done) | rfl
abbrev rm_hol2 : Room := ({ frames := 0, cells := 0, slots := 0, locals := 0 } : Room)
set_option maxRecDepth 65536 in
set_option maxHeartbeats 4000000 in
theorem met_hol2 (l : Launch) (Z : State) (a0 : Array Value) (hw : ∀ d ∈ tables_1, d.before a0 Z = true) (a : Addr) (u : Int32) (v : Int32) (t0 : Addr) (t1 : Addr) (h0 : Heap) (n0 : Nat) (Z0 : n0 ≤ h0.size) (P0 : Sta Z h0 "com/example/skipstone/skipstone/prune/Operator" "EQUAL" "Lcom/example/skipstone/skipstone/prune/Operator;" (.ref t0)) (P1 : Sta Z h0 "com/example/skipstone/skipstone/prune/Operator" "NOT_EQUAL" "Lcom/example/skipstone/skipstone/prune/Operator;" (.ref t1)) (P2 : Sta Z h0 "com/example/skipstone/skipstone/prune/Operator" "LESS" "Lcom/example/skipstone/skipstone/prune/Operator;" (.ref a)) (P3 : a ≠ t0) (P4 : a ≠ t1) :
    Met l (⟨"com/example/skipstone/skipstone/prune/OperatorNegatedPinLaw", "holds", "(Lcom/example/skipstone/skipstone/prune/Operator;II)Z"⟩ : MethodName) method_3_code 3 (some FieldType.boolean) [] rm_hol2 Z #[(.ref a), (.int u), (.int v)] h0 (QV (some (.int (fHold2 u v))) h0 n0) 0 0 := by
  refine own_body pn3 ?_
  intro p e s m below meth c s₁ ct X0 e0
  have ct0 := ct
  obtain ⟨hx, hZ, hown, hby, hml, hret, hlk, hnm⟩ := ct
  have N0 := Fr.nil n0
  refine castGo (ef_hol2 m a u v t0 t1) ?_
  unfold fHold2
  show Go p e below s _ _ _ s₁ (mkF m 0 #[.val (.ref a), .val (.int u), .val (.int v)] [])
  refine go_st (fun _ k => XS.aloadN X0.here hx rfl (hb hby d4_0) rfl rfl k) ?_
  show Go p e below s _ _ _ s₁ (mkF m 1 #[.val (.ref a), .val (.int u), .val (.int v)] [(.ref a)])
  refine go_getS X0 hx hZ hown (host := "") (Or.inl (hw _ (List.mem_of_getElem? (i := 5) rfl))) Via.refl e0 P0 (hb hby d4_1) rfl ?_
  intro T25 X25 e25
  show Go p e below s _ _ _ T25 (mkF m 4 #[.val (.ref a), .val (.int u), .val (.int v)] [(.ref t0), (.ref a)])
  refine go_st (fun _ k => XT.acmpYes X25.here hx rfl (pc0 := 4) (pc' := 18) rfl (hb hby d4_4) rfl rfl rfl (XT.aa_ne_t (fun hq => P3 (Value.ref.inj hq))) (by decide) (by decide) k) ?_
  show Go p e below s _ _ _ T25 (mkF m 18 #[.val (.ref a), .val (.int u), .val (.int v)] [])
  refine go_st (fun _ k => XS.aloadN X25.here hx rfl (hb hby d4_18) rfl rfl k) ?_
  show Go p e below s _ _ _ T25 (mkF m 19 #[.val (.ref a), .val (.int u), .val (.int v)] [(.ref a)])
  refine go_getS X25 hx hZ hown (host := "") (Or.inl (hw _ (List.mem_of_getElem? (i := 27) rfl))) Via.refl e25 P1 (hb hby d4_19) rfl ?_
  intro T26 X26 e26
  show Go p e below s _ _ _ T26 (mkF m 22 #[.val (.ref a), .val (.int u), .val (.int v)] [(.ref t1), (.ref a)])
  refine go_st (fun _ k => XT.acmpYes X26.here hx rfl (pc0 := 22) (pc' := 36) rfl (hb hby d4_22) rfl rfl rfl (XT.aa_ne_t (fun hq => P4 (Value.ref.inj hq))) (by decide) (by decide) k) ?_
  show Go p e below s _ _ _ T26 (mkF m 36 #[.val (.ref a), .val (.int u), .val (.int v)] [])
  refine go_st (fun _ k => XS.aloadN X26.here hx rfl (hb hby d4_36) rfl rfl k) ?_
  show Go p e below s _ _ _ T26 (mkF m 37 #[.val (.ref a), .val (.int u), .val (.int v)] [(.ref a)])
  refine go_getS X26 hx hZ hown (host := "") (Or.inl (hw _ (List.mem_of_getElem? (i := 33) rfl))) Via.refl e26 P2 (hb hby d4_37) rfl ?_
  intro T27 X27 e27
  show Go p e below s _ _ _ T27 (mkF m 40 #[.val (.ref a), .val (.int u), .val (.int v)] [(.ref a), (.ref a)])
  refine go_st (fun _ k => XT.acmpNo X27.here hx rfl (hb hby d4_40) rfl rfl rfl (XT.aa_ne_f rfl) k) ?_
  show Go p e below s _ _ _ T27 (mkF m 43 #[.val (.ref a), .val (.int u), .val (.int v)] [])
  refine go_st (fun _ k => XS.iloadN X27.here hx rfl (hb hby d4_43) rfl k) ?_
  show Go p e below s _ _ _ T27 (mkF m 44 #[.val (.ref a), .val (.int u), .val (.int v)] [(.int u)])
  refine go_st (fun _ k => XS.iloadN X27.here hx rfl (hb hby d4_44) rfl k) ?_
  show Go p e below s _ _ _ T27 (mkF m 45 #[.val (.ref a), .val (.int u), .val (.int v)] [(.int v), (.int u)])
  by_cases hc28 : u < v
  · rw [if_pos hc28]
    refine go_st (fun _ k => XS.icmpNo X27.here hx rfl (hb hby d4_45) rfl (XT.ii_ge_f hc28) k) ?_
    show Go p e below s _ _ _ T27 (mkF m 48 #[.val (.ref a), .val (.int u), .val (.int v)] [])
    refine go_st (fun _ k => XT.iconstV X27.here hx rfl (1 : Int32) (hb hby d4_48) (by decide) k) ?_
    show Go p e below s _ _ _ T27 (mkF m 49 #[.val (.ref a), .val (.int u), .val (.int v)] [(.int (1 : Int32))])
    refine go_st (fun _ k => XS.goto X27.here hx rfl (pc0 := 49) (pc' := 53) rfl (hb hby d4_49) (by decide) (by decide) k) ?_
    show Go p e below s _ _ _ T27 (mkF m 53 #[.val (.ref a), .val (.int u), .val (.int v)] [(.int (1 : Int32))])
    exact go_retB (w := (1 : Int32)) X27 hx hlk hret (hb hby d4_53) (by decide) (by decide) (by decide) ⟨rfl, N0, e27⟩
  · rw [if_neg hc28]
    refine go_st (fun _ k => XS.icmpYes X27.here hx rfl (pc0 := 45) (pc' := 52) rfl (hb hby d4_45) rfl (XT.ii_ge_t hc28) (by decide) (by decide) k) ?_
    show Go p e below s _ _ _ T27 (mkF m 52 #[.val (.ref a), .val (.int u), .val (.int v)] [])
    refine go_st (fun _ k => XT.iconstV X27.here hx rfl (0 : Int32) (hb hby d4_52) (by decide) k) ?_
    show Go p e below s _ _ _ T27 (mkF m 53 #[.val (.ref a), .val (.int u), .val (.int v)] [(.int (0 : Int32))])
    exact go_retB (w := (0 : Int32)) X27 hx hlk hret (hb hby d4_53) (by decide) (by decide) (by decide) ⟨rfl, N0, e27⟩
def fHold3 (u : Int32) (v : Int32) : Int32 := (if v < u then (0 : Int32) else (1 : Int32))
theorem ef_hol3 (m : MethodId) (a : Addr) (u : Int32) (v : Int32) (t0 : Addr) (t1 : Addr) (t2 : Addr) : entryFrame m #[(.ref a), (.int u), (.int v)] 3 = mkF m 0 #[.val (.ref a), .val (.int u), .val (.int v)] [] := by first | (simp [entryFrame, mkF, argsToLocals, Value.category]; done) | rfl
abbrev rm_hol3 : Room := ({ frames := 0, cells := 0, slots := 0, locals := 0 } : Room)
set_option maxRecDepth 65536 in
set_option maxHeartbeats 4000000 in
theorem met_hol3 (l : Launch) (Z : State) (a0 : Array Value) (hw : ∀ d ∈ tables_1, d.before a0 Z = true) (a : Addr) (u : Int32) (v : Int32) (t0 : Addr) (t1 : Addr) (t2 : Addr) (h0 : Heap) (n0 : Nat) (Z0 : n0 ≤ h0.size) (P0 : Sta Z h0 "com/example/skipstone/skipstone/prune/Operator" "EQUAL" "Lcom/example/skipstone/skipstone/prune/Operator;" (.ref t0)) (P1 : Sta Z h0 "com/example/skipstone/skipstone/prune/Operator" "NOT_EQUAL" "Lcom/example/skipstone/skipstone/prune/Operator;" (.ref t1)) (P2 : Sta Z h0 "com/example/skipstone/skipstone/prune/Operator" "LESS" "Lcom/example/skipstone/skipstone/prune/Operator;" (.ref t2)) (P3 : Sta Z h0 "com/example/skipstone/skipstone/prune/Operator" "LESS_OR_EQUAL" "Lcom/example/skipstone/skipstone/prune/Operator;" (.ref a)) (P4 : a ≠ t0) (P5 : a ≠ t1) (P6 : a ≠ t2) :
    Met l (⟨"com/example/skipstone/skipstone/prune/OperatorNegatedPinLaw", "holds", "(Lcom/example/skipstone/skipstone/prune/Operator;II)Z"⟩ : MethodName) method_3_code 3 (some FieldType.boolean) [] rm_hol3 Z #[(.ref a), (.int u), (.int v)] h0 (QV (some (.int (fHold3 u v))) h0 n0) 0 0 := by
  refine own_body pn3 ?_
  intro p e s m below meth c s₁ ct X0 e0
  have ct0 := ct
  obtain ⟨hx, hZ, hown, hby, hml, hret, hlk, hnm⟩ := ct
  have N0 := Fr.nil n0
  refine castGo (ef_hol3 m a u v t0 t1 t2) ?_
  unfold fHold3
  show Go p e below s _ _ _ s₁ (mkF m 0 #[.val (.ref a), .val (.int u), .val (.int v)] [])
  refine go_st (fun _ k => XS.aloadN X0.here hx rfl (hb hby d4_0) rfl rfl k) ?_
  show Go p e below s _ _ _ s₁ (mkF m 1 #[.val (.ref a), .val (.int u), .val (.int v)] [(.ref a)])
  refine go_getS X0 hx hZ hown (host := "") (Or.inl (hw _ (List.mem_of_getElem? (i := 5) rfl))) Via.refl e0 P0 (hb hby d4_1) rfl ?_
  intro T29 X29 e29
  show Go p e below s _ _ _ T29 (mkF m 4 #[.val (.ref a), .val (.int u), .val (.int v)] [(.ref t0), (.ref a)])
  refine go_st (fun _ k => XT.acmpYes X29.here hx rfl (pc0 := 4) (pc' := 18) rfl (hb hby d4_4) rfl rfl rfl (XT.aa_ne_t (fun hq => P4 (Value.ref.inj hq))) (by decide) (by decide) k) ?_
  show Go p e below s _ _ _ T29 (mkF m 18 #[.val (.ref a), .val (.int u), .val (.int v)] [])
  refine go_st (fun _ k => XS.aloadN X29.here hx rfl (hb hby d4_18) rfl rfl k) ?_
  show Go p e below s _ _ _ T29 (mkF m 19 #[.val (.ref a), .val (.int u), .val (.int v)] [(.ref a)])
  refine go_getS X29 hx hZ hown (host := "") (Or.inl (hw _ (List.mem_of_getElem? (i := 27) rfl))) Via.refl e29 P1 (hb hby d4_19) rfl ?_
  intro T30 X30 e30
  show Go p e below s _ _ _ T30 (mkF m 22 #[.val (.ref a), .val (.int u), .val (.int v)] [(.ref t1), (.ref a)])
  refine go_st (fun _ k => XT.acmpYes X30.here hx rfl (pc0 := 22) (pc' := 36) rfl (hb hby d4_22) rfl rfl rfl (XT.aa_ne_t (fun hq => P5 (Value.ref.inj hq))) (by decide) (by decide) k) ?_
  show Go p e below s _ _ _ T30 (mkF m 36 #[.val (.ref a), .val (.int u), .val (.int v)] [])
  refine go_st (fun _ k => XS.aloadN X30.here hx rfl (hb hby d4_36) rfl rfl k) ?_
  show Go p e below s _ _ _ T30 (mkF m 37 #[.val (.ref a), .val (.int u), .val (.int v)] [(.ref a)])
  refine go_getS X30 hx hZ hown (host := "") (Or.inl (hw _ (List.mem_of_getElem? (i := 33) rfl))) Via.refl e30 P2 (hb hby d4_37) rfl ?_
  intro T31 X31 e31
  show Go p e below s _ _ _ T31 (mkF m 40 #[.val (.ref a), .val (.int u), .val (.int v)] [(.ref t2), (.ref a)])
  refine go_st (fun _ k => XT.acmpYes X31.here hx rfl (pc0 := 40) (pc' := 54) rfl (hb hby d4_40) rfl rfl rfl (XT.aa_ne_t (fun hq => P6 (Value.ref.inj hq))) (by decide) (by decide) k) ?_
  show Go p e below s _ _ _ T31 (mkF m 54 #[.val (.ref a), .val (.int u), .val (.int v)] [])
  refine go_st (fun _ k => XS.aloadN X31.here hx rfl (hb hby d4_54) rfl rfl k) ?_
  show Go p e below s _ _ _ T31 (mkF m 55 #[.val (.ref a), .val (.int u), .val (.int v)] [(.ref a)])
  refine go_getS X31 hx hZ hown (host := "") (Or.inl (hw _ (List.mem_of_getElem? (i := 35) rfl))) Via.refl e31 P3 (hb hby d4_55) rfl ?_
  intro T32 X32 e32
  show Go p e below s _ _ _ T32 (mkF m 58 #[.val (.ref a), .val (.int u), .val (.int v)] [(.ref a), (.ref a)])
  refine go_st (fun _ k => XT.acmpNo X32.here hx rfl (hb hby d4_58) rfl rfl rfl (XT.aa_ne_f rfl) k) ?_
  show Go p e below s _ _ _ T32 (mkF m 61 #[.val (.ref a), .val (.int u), .val (.int v)] [])
  refine go_st (fun _ k => XS.iloadN X32.here hx rfl (hb hby d4_61) rfl k) ?_
  show Go p e below s _ _ _ T32 (mkF m 62 #[.val (.ref a), .val (.int u), .val (.int v)] [(.int u)])
  refine go_st (fun _ k => XS.iloadN X32.here hx rfl (hb hby d4_62) rfl k) ?_
  show Go p e below s _ _ _ T32 (mkF m 63 #[.val (.ref a), .val (.int u), .val (.int v)] [(.int v), (.int u)])
  by_cases hc33 : v < u
  · rw [if_pos hc33]
    refine go_st (fun _ k => XS.icmpYes X32.here hx rfl (pc0 := 63) (pc' := 70) rfl (hb hby d4_63) rfl (XT.ii_gt_t hc33) (by decide) (by decide) k) ?_
    show Go p e below s _ _ _ T32 (mkF m 70 #[.val (.ref a), .val (.int u), .val (.int v)] [])
    refine go_st (fun _ k => XT.iconstV X32.here hx rfl (0 : Int32) (hb hby d4_70) (by decide) k) ?_
    show Go p e below s _ _ _ T32 (mkF m 71 #[.val (.ref a), .val (.int u), .val (.int v)] [(.int (0 : Int32))])
    exact go_retB (w := (0 : Int32)) X32 hx hlk hret (hb hby d4_71) (by decide) (by decide) (by decide) ⟨rfl, N0, e32⟩
  · rw [if_neg hc33]
    refine go_st (fun _ k => XS.icmpNo X32.here hx rfl (hb hby d4_63) rfl (XT.ii_gt_f hc33) k) ?_
    show Go p e below s _ _ _ T32 (mkF m 66 #[.val (.ref a), .val (.int u), .val (.int v)] [])
    refine go_st (fun _ k => XT.iconstV X32.here hx rfl (1 : Int32) (hb hby d4_66) (by decide) k) ?_
    show Go p e below s _ _ _ T32 (mkF m 67 #[.val (.ref a), .val (.int u), .val (.int v)] [(.int (1 : Int32))])
    refine go_st (fun _ k => XS.goto X32.here hx rfl (pc0 := 67) (pc' := 71) rfl (hb hby d4_67) (by decide) (by decide) k) ?_
    show Go p e below s _ _ _ T32 (mkF m 71 #[.val (.ref a), .val (.int u), .val (.int v)] [(.int (1 : Int32))])
    exact go_retB (w := (1 : Int32)) X32 hx hlk hret (hb hby d4_71) (by decide) (by decide) (by decide) ⟨rfl, N0, e32⟩
def fHold4 (u : Int32) (v : Int32) : Int32 := (if v < u then (1 : Int32) else (0 : Int32))
theorem ef_hol4 (m : MethodId) (a : Addr) (u : Int32) (v : Int32) (t0 : Addr) (t1 : Addr) (t2 : Addr) (t3 : Addr) : entryFrame m #[(.ref a), (.int u), (.int v)] 3 = mkF m 0 #[.val (.ref a), .val (.int u), .val (.int v)] [] := by first | (simp [entryFrame, mkF, argsToLocals, Value.category]; done) | rfl
abbrev rm_hol4 : Room := ({ frames := 0, cells := 0, slots := 0, locals := 0 } : Room)
set_option maxRecDepth 65536 in
set_option maxHeartbeats 4000000 in
theorem met_hol4 (l : Launch) (Z : State) (a0 : Array Value) (hw : ∀ d ∈ tables_1, d.before a0 Z = true) (a : Addr) (u : Int32) (v : Int32) (t0 : Addr) (t1 : Addr) (t2 : Addr) (t3 : Addr) (h0 : Heap) (n0 : Nat) (Z0 : n0 ≤ h0.size) (P0 : Sta Z h0 "com/example/skipstone/skipstone/prune/Operator" "EQUAL" "Lcom/example/skipstone/skipstone/prune/Operator;" (.ref t0)) (P1 : Sta Z h0 "com/example/skipstone/skipstone/prune/Operator" "NOT_EQUAL" "Lcom/example/skipstone/skipstone/prune/Operator;" (.ref t1)) (P2 : Sta Z h0 "com/example/skipstone/skipstone/prune/Operator" "LESS" "Lcom/example/skipstone/skipstone/prune/Operator;" (.ref t2)) (P3 : Sta Z h0 "com/example/skipstone/skipstone/prune/Operator" "LESS_OR_EQUAL" "Lcom/example/skipstone/skipstone/prune/Operator;" (.ref t3)) (P4 : Sta Z h0 "com/example/skipstone/skipstone/prune/Operator" "GREATER" "Lcom/example/skipstone/skipstone/prune/Operator;" (.ref a)) (P5 : a ≠ t0) (P6 : a ≠ t1) (P7 : a ≠ t2) (P8 : a ≠ t3) :
    Met l (⟨"com/example/skipstone/skipstone/prune/OperatorNegatedPinLaw", "holds", "(Lcom/example/skipstone/skipstone/prune/Operator;II)Z"⟩ : MethodName) method_3_code 3 (some FieldType.boolean) [] rm_hol4 Z #[(.ref a), (.int u), (.int v)] h0 (QV (some (.int (fHold4 u v))) h0 n0) 0 0 := by
  refine own_body pn3 ?_
  intro p e s m below meth c s₁ ct X0 e0
  have ct0 := ct
  obtain ⟨hx, hZ, hown, hby, hml, hret, hlk, hnm⟩ := ct
  have N0 := Fr.nil n0
  refine castGo (ef_hol4 m a u v t0 t1 t2 t3) ?_
  unfold fHold4
  show Go p e below s _ _ _ s₁ (mkF m 0 #[.val (.ref a), .val (.int u), .val (.int v)] [])
  refine go_st (fun _ k => XS.aloadN X0.here hx rfl (hb hby d4_0) rfl rfl k) ?_
  show Go p e below s _ _ _ s₁ (mkF m 1 #[.val (.ref a), .val (.int u), .val (.int v)] [(.ref a)])
  refine go_getS X0 hx hZ hown (host := "") (Or.inl (hw _ (List.mem_of_getElem? (i := 5) rfl))) Via.refl e0 P0 (hb hby d4_1) rfl ?_
  intro T34 X34 e34
  show Go p e below s _ _ _ T34 (mkF m 4 #[.val (.ref a), .val (.int u), .val (.int v)] [(.ref t0), (.ref a)])
  refine go_st (fun _ k => XT.acmpYes X34.here hx rfl (pc0 := 4) (pc' := 18) rfl (hb hby d4_4) rfl rfl rfl (XT.aa_ne_t (fun hq => P5 (Value.ref.inj hq))) (by decide) (by decide) k) ?_
  show Go p e below s _ _ _ T34 (mkF m 18 #[.val (.ref a), .val (.int u), .val (.int v)] [])
  refine go_st (fun _ k => XS.aloadN X34.here hx rfl (hb hby d4_18) rfl rfl k) ?_
  show Go p e below s _ _ _ T34 (mkF m 19 #[.val (.ref a), .val (.int u), .val (.int v)] [(.ref a)])
  refine go_getS X34 hx hZ hown (host := "") (Or.inl (hw _ (List.mem_of_getElem? (i := 27) rfl))) Via.refl e34 P1 (hb hby d4_19) rfl ?_
  intro T35 X35 e35
  show Go p e below s _ _ _ T35 (mkF m 22 #[.val (.ref a), .val (.int u), .val (.int v)] [(.ref t1), (.ref a)])
  refine go_st (fun _ k => XT.acmpYes X35.here hx rfl (pc0 := 22) (pc' := 36) rfl (hb hby d4_22) rfl rfl rfl (XT.aa_ne_t (fun hq => P6 (Value.ref.inj hq))) (by decide) (by decide) k) ?_
  show Go p e below s _ _ _ T35 (mkF m 36 #[.val (.ref a), .val (.int u), .val (.int v)] [])
  refine go_st (fun _ k => XS.aloadN X35.here hx rfl (hb hby d4_36) rfl rfl k) ?_
  show Go p e below s _ _ _ T35 (mkF m 37 #[.val (.ref a), .val (.int u), .val (.int v)] [(.ref a)])
  refine go_getS X35 hx hZ hown (host := "") (Or.inl (hw _ (List.mem_of_getElem? (i := 33) rfl))) Via.refl e35 P2 (hb hby d4_37) rfl ?_
  intro T36 X36 e36
  show Go p e below s _ _ _ T36 (mkF m 40 #[.val (.ref a), .val (.int u), .val (.int v)] [(.ref t2), (.ref a)])
  refine go_st (fun _ k => XT.acmpYes X36.here hx rfl (pc0 := 40) (pc' := 54) rfl (hb hby d4_40) rfl rfl rfl (XT.aa_ne_t (fun hq => P7 (Value.ref.inj hq))) (by decide) (by decide) k) ?_
  show Go p e below s _ _ _ T36 (mkF m 54 #[.val (.ref a), .val (.int u), .val (.int v)] [])
  refine go_st (fun _ k => XS.aloadN X36.here hx rfl (hb hby d4_54) rfl rfl k) ?_
  show Go p e below s _ _ _ T36 (mkF m 55 #[.val (.ref a), .val (.int u), .val (.int v)] [(.ref a)])
  refine go_getS X36 hx hZ hown (host := "") (Or.inl (hw _ (List.mem_of_getElem? (i := 35) rfl))) Via.refl e36 P3 (hb hby d4_55) rfl ?_
  intro T37 X37 e37
  show Go p e below s _ _ _ T37 (mkF m 58 #[.val (.ref a), .val (.int u), .val (.int v)] [(.ref t3), (.ref a)])
  refine go_st (fun _ k => XT.acmpYes X37.here hx rfl (pc0 := 58) (pc' := 72) rfl (hb hby d4_58) rfl rfl rfl (XT.aa_ne_t (fun hq => P8 (Value.ref.inj hq))) (by decide) (by decide) k) ?_
  show Go p e below s _ _ _ T37 (mkF m 72 #[.val (.ref a), .val (.int u), .val (.int v)] [])
  refine go_st (fun _ k => XS.aloadN X37.here hx rfl (hb hby d4_72) rfl rfl k) ?_
  show Go p e below s _ _ _ T37 (mkF m 73 #[.val (.ref a), .val (.int u), .val (.int v)] [(.ref a)])
  refine go_getS X37 hx hZ hown (host := "") (Or.inl (hw _ (List.mem_of_getElem? (i := 29) rfl))) Via.refl e37 P4 (hb hby d4_73) rfl ?_
  intro T38 X38 e38
  show Go p e below s _ _ _ T38 (mkF m 76 #[.val (.ref a), .val (.int u), .val (.int v)] [(.ref a), (.ref a)])
  refine go_st (fun _ k => XT.acmpNo X38.here hx rfl (hb hby d4_76) rfl rfl rfl (XT.aa_ne_f rfl) k) ?_
  show Go p e below s _ _ _ T38 (mkF m 79 #[.val (.ref a), .val (.int u), .val (.int v)] [])
  refine go_st (fun _ k => XS.iloadN X38.here hx rfl (hb hby d4_79) rfl k) ?_
  show Go p e below s _ _ _ T38 (mkF m 80 #[.val (.ref a), .val (.int u), .val (.int v)] [(.int u)])
  refine go_st (fun _ k => XS.iloadN X38.here hx rfl (hb hby d4_80) rfl k) ?_
  show Go p e below s _ _ _ T38 (mkF m 81 #[.val (.ref a), .val (.int u), .val (.int v)] [(.int v), (.int u)])
  by_cases hc39 : v < u
  · rw [if_pos hc39]
    refine go_st (fun _ k => XS.icmpNo X38.here hx rfl (hb hby d4_81) rfl (XT.ii_le_f hc39) k) ?_
    show Go p e below s _ _ _ T38 (mkF m 84 #[.val (.ref a), .val (.int u), .val (.int v)] [])
    refine go_st (fun _ k => XT.iconstV X38.here hx rfl (1 : Int32) (hb hby d4_84) (by decide) k) ?_
    show Go p e below s _ _ _ T38 (mkF m 85 #[.val (.ref a), .val (.int u), .val (.int v)] [(.int (1 : Int32))])
    refine go_st (fun _ k => XS.goto X38.here hx rfl (pc0 := 85) (pc' := 89) rfl (hb hby d4_85) (by decide) (by decide) k) ?_
    show Go p e below s _ _ _ T38 (mkF m 89 #[.val (.ref a), .val (.int u), .val (.int v)] [(.int (1 : Int32))])
    exact go_retB (w := (1 : Int32)) X38 hx hlk hret (hb hby d4_89) (by decide) (by decide) (by decide) ⟨rfl, N0, e38⟩
  · rw [if_neg hc39]
    refine go_st (fun _ k => XS.icmpYes X38.here hx rfl (pc0 := 81) (pc' := 88) rfl (hb hby d4_81) rfl (XT.ii_le_t hc39) (by decide) (by decide) k) ?_
    show Go p e below s _ _ _ T38 (mkF m 88 #[.val (.ref a), .val (.int u), .val (.int v)] [])
    refine go_st (fun _ k => XT.iconstV X38.here hx rfl (0 : Int32) (hb hby d4_88) (by decide) k) ?_
    show Go p e below s _ _ _ T38 (mkF m 89 #[.val (.ref a), .val (.int u), .val (.int v)] [(.int (0 : Int32))])
    exact go_retB (w := (0 : Int32)) X38 hx hlk hret (hb hby d4_89) (by decide) (by decide) (by decide) ⟨rfl, N0, e38⟩
def fHold5 (u : Int32) (v : Int32) : Int32 := (if u < v then (0 : Int32) else (1 : Int32))
theorem ef_hol5 (m : MethodId) (a : Addr) (u : Int32) (v : Int32) (t0 : Addr) (t1 : Addr) (t2 : Addr) (t3 : Addr) (t4 : Addr) : entryFrame m #[(.ref a), (.int u), (.int v)] 3 = mkF m 0 #[.val (.ref a), .val (.int u), .val (.int v)] [] := by first | (simp [entryFrame, mkF, argsToLocals, Value.category]; done) | rfl
abbrev rm_hol5 : Room := ({ frames := 0, cells := 0, slots := 0, locals := 0 } : Room)
set_option maxRecDepth 65536 in
set_option maxHeartbeats 4000000 in
theorem met_hol5 (l : Launch) (Z : State) (a0 : Array Value) (hw : ∀ d ∈ tables_1, d.before a0 Z = true) (a : Addr) (u : Int32) (v : Int32) (t0 : Addr) (t1 : Addr) (t2 : Addr) (t3 : Addr) (t4 : Addr) (h0 : Heap) (n0 : Nat) (Z0 : n0 ≤ h0.size) (P0 : Sta Z h0 "com/example/skipstone/skipstone/prune/Operator" "EQUAL" "Lcom/example/skipstone/skipstone/prune/Operator;" (.ref t0)) (P1 : Sta Z h0 "com/example/skipstone/skipstone/prune/Operator" "NOT_EQUAL" "Lcom/example/skipstone/skipstone/prune/Operator;" (.ref t1)) (P2 : Sta Z h0 "com/example/skipstone/skipstone/prune/Operator" "LESS" "Lcom/example/skipstone/skipstone/prune/Operator;" (.ref t2)) (P3 : Sta Z h0 "com/example/skipstone/skipstone/prune/Operator" "LESS_OR_EQUAL" "Lcom/example/skipstone/skipstone/prune/Operator;" (.ref t3)) (P4 : Sta Z h0 "com/example/skipstone/skipstone/prune/Operator" "GREATER" "Lcom/example/skipstone/skipstone/prune/Operator;" (.ref t4)) (P5 : Sta Z h0 "com/example/skipstone/skipstone/prune/Operator" "GREATER_OR_EQUAL" "Lcom/example/skipstone/skipstone/prune/Operator;" (.ref a)) (P6 : a ≠ t0) (P7 : a ≠ t1) (P8 : a ≠ t2) (P9 : a ≠ t3) (P10 : a ≠ t4) :
    Met l (⟨"com/example/skipstone/skipstone/prune/OperatorNegatedPinLaw", "holds", "(Lcom/example/skipstone/skipstone/prune/Operator;II)Z"⟩ : MethodName) method_3_code 3 (some FieldType.boolean) [] rm_hol5 Z #[(.ref a), (.int u), (.int v)] h0 (QV (some (.int (fHold5 u v))) h0 n0) 0 0 := by
  refine own_body pn3 ?_
  intro p e s m below meth c s₁ ct X0 e0
  have ct0 := ct
  obtain ⟨hx, hZ, hown, hby, hml, hret, hlk, hnm⟩ := ct
  have N0 := Fr.nil n0
  refine castGo (ef_hol5 m a u v t0 t1 t2 t3 t4) ?_
  unfold fHold5
  show Go p e below s _ _ _ s₁ (mkF m 0 #[.val (.ref a), .val (.int u), .val (.int v)] [])
  refine go_st (fun _ k => XS.aloadN X0.here hx rfl (hb hby d4_0) rfl rfl k) ?_
  show Go p e below s _ _ _ s₁ (mkF m 1 #[.val (.ref a), .val (.int u), .val (.int v)] [(.ref a)])
  refine go_getS X0 hx hZ hown (host := "") (Or.inl (hw _ (List.mem_of_getElem? (i := 5) rfl))) Via.refl e0 P0 (hb hby d4_1) rfl ?_
  intro T40 X40 e40
  show Go p e below s _ _ _ T40 (mkF m 4 #[.val (.ref a), .val (.int u), .val (.int v)] [(.ref t0), (.ref a)])
  refine go_st (fun _ k => XT.acmpYes X40.here hx rfl (pc0 := 4) (pc' := 18) rfl (hb hby d4_4) rfl rfl rfl (XT.aa_ne_t (fun hq => P6 (Value.ref.inj hq))) (by decide) (by decide) k) ?_
  show Go p e below s _ _ _ T40 (mkF m 18 #[.val (.ref a), .val (.int u), .val (.int v)] [])
  refine go_st (fun _ k => XS.aloadN X40.here hx rfl (hb hby d4_18) rfl rfl k) ?_
  show Go p e below s _ _ _ T40 (mkF m 19 #[.val (.ref a), .val (.int u), .val (.int v)] [(.ref a)])
  refine go_getS X40 hx hZ hown (host := "") (Or.inl (hw _ (List.mem_of_getElem? (i := 27) rfl))) Via.refl e40 P1 (hb hby d4_19) rfl ?_
  intro T41 X41 e41
  show Go p e below s _ _ _ T41 (mkF m 22 #[.val (.ref a), .val (.int u), .val (.int v)] [(.ref t1), (.ref a)])
  refine go_st (fun _ k => XT.acmpYes X41.here hx rfl (pc0 := 22) (pc' := 36) rfl (hb hby d4_22) rfl rfl rfl (XT.aa_ne_t (fun hq => P7 (Value.ref.inj hq))) (by decide) (by decide) k) ?_
  show Go p e below s _ _ _ T41 (mkF m 36 #[.val (.ref a), .val (.int u), .val (.int v)] [])
  refine go_st (fun _ k => XS.aloadN X41.here hx rfl (hb hby d4_36) rfl rfl k) ?_
  show Go p e below s _ _ _ T41 (mkF m 37 #[.val (.ref a), .val (.int u), .val (.int v)] [(.ref a)])
  refine go_getS X41 hx hZ hown (host := "") (Or.inl (hw _ (List.mem_of_getElem? (i := 33) rfl))) Via.refl e41 P2 (hb hby d4_37) rfl ?_
  intro T42 X42 e42
  show Go p e below s _ _ _ T42 (mkF m 40 #[.val (.ref a), .val (.int u), .val (.int v)] [(.ref t2), (.ref a)])
  refine go_st (fun _ k => XT.acmpYes X42.here hx rfl (pc0 := 40) (pc' := 54) rfl (hb hby d4_40) rfl rfl rfl (XT.aa_ne_t (fun hq => P8 (Value.ref.inj hq))) (by decide) (by decide) k) ?_
  show Go p e below s _ _ _ T42 (mkF m 54 #[.val (.ref a), .val (.int u), .val (.int v)] [])
  refine go_st (fun _ k => XS.aloadN X42.here hx rfl (hb hby d4_54) rfl rfl k) ?_
  show Go p e below s _ _ _ T42 (mkF m 55 #[.val (.ref a), .val (.int u), .val (.int v)] [(.ref a)])
  refine go_getS X42 hx hZ hown (host := "") (Or.inl (hw _ (List.mem_of_getElem? (i := 35) rfl))) Via.refl e42 P3 (hb hby d4_55) rfl ?_
  intro T43 X43 e43
  show Go p e below s _ _ _ T43 (mkF m 58 #[.val (.ref a), .val (.int u), .val (.int v)] [(.ref t3), (.ref a)])
  refine go_st (fun _ k => XT.acmpYes X43.here hx rfl (pc0 := 58) (pc' := 72) rfl (hb hby d4_58) rfl rfl rfl (XT.aa_ne_t (fun hq => P9 (Value.ref.inj hq))) (by decide) (by decide) k) ?_
  show Go p e below s _ _ _ T43 (mkF m 72 #[.val (.ref a), .val (.int u), .val (.int v)] [])
  refine go_st (fun _ k => XS.aloadN X43.here hx rfl (hb hby d4_72) rfl rfl k) ?_
  show Go p e below s _ _ _ T43 (mkF m 73 #[.val (.ref a), .val (.int u), .val (.int v)] [(.ref a)])
  refine go_getS X43 hx hZ hown (host := "") (Or.inl (hw _ (List.mem_of_getElem? (i := 29) rfl))) Via.refl e43 P4 (hb hby d4_73) rfl ?_
  intro T44 X44 e44
  show Go p e below s _ _ _ T44 (mkF m 76 #[.val (.ref a), .val (.int u), .val (.int v)] [(.ref t4), (.ref a)])
  refine go_st (fun _ k => XT.acmpYes X44.here hx rfl (pc0 := 76) (pc' := 90) rfl (hb hby d4_76) rfl rfl rfl (XT.aa_ne_t (fun hq => P10 (Value.ref.inj hq))) (by decide) (by decide) k) ?_
  show Go p e below s _ _ _ T44 (mkF m 90 #[.val (.ref a), .val (.int u), .val (.int v)] [])
  refine go_st (fun _ k => XS.aloadN X44.here hx rfl (hb hby d4_90) rfl rfl k) ?_
  show Go p e below s _ _ _ T44 (mkF m 91 #[.val (.ref a), .val (.int u), .val (.int v)] [(.ref a)])
  refine go_getS X44 hx hZ hown (host := "") (Or.inl (hw _ (List.mem_of_getElem? (i := 37) rfl))) Via.refl e44 P5 (hb hby d4_91) rfl ?_
  intro T45 X45 e45
  show Go p e below s _ _ _ T45 (mkF m 94 #[.val (.ref a), .val (.int u), .val (.int v)] [(.ref a), (.ref a)])
  refine go_st (fun _ k => XT.acmpNo X45.here hx rfl (hb hby d4_94) rfl rfl rfl (XT.aa_ne_f rfl) k) ?_
  show Go p e below s _ _ _ T45 (mkF m 97 #[.val (.ref a), .val (.int u), .val (.int v)] [])
  refine go_st (fun _ k => XS.iloadN X45.here hx rfl (hb hby d4_97) rfl k) ?_
  show Go p e below s _ _ _ T45 (mkF m 98 #[.val (.ref a), .val (.int u), .val (.int v)] [(.int u)])
  refine go_st (fun _ k => XS.iloadN X45.here hx rfl (hb hby d4_98) rfl k) ?_
  show Go p e below s _ _ _ T45 (mkF m 99 #[.val (.ref a), .val (.int u), .val (.int v)] [(.int v), (.int u)])
  by_cases hc46 : u < v
  · rw [if_pos hc46]
    refine go_st (fun _ k => XS.icmpYes X45.here hx rfl (pc0 := 99) (pc' := 106) rfl (hb hby d4_99) rfl (XT.ii_lt_t hc46) (by decide) (by decide) k) ?_
    show Go p e below s _ _ _ T45 (mkF m 106 #[.val (.ref a), .val (.int u), .val (.int v)] [])
    refine go_st (fun _ k => XT.iconstV X45.here hx rfl (0 : Int32) (hb hby d4_106) (by decide) k) ?_
    show Go p e below s _ _ _ T45 (mkF m 107 #[.val (.ref a), .val (.int u), .val (.int v)] [(.int (0 : Int32))])
    exact go_retB (w := (0 : Int32)) X45 hx hlk hret (hb hby d4_107) (by decide) (by decide) (by decide) ⟨rfl, N0, e45⟩
  · rw [if_neg hc46]
    refine go_st (fun _ k => XS.icmpNo X45.here hx rfl (hb hby d4_99) rfl (XT.ii_lt_f hc46) k) ?_
    show Go p e below s _ _ _ T45 (mkF m 102 #[.val (.ref a), .val (.int u), .val (.int v)] [])
    refine go_st (fun _ k => XT.iconstV X45.here hx rfl (1 : Int32) (hb hby d4_102) (by decide) k) ?_
    show Go p e below s _ _ _ T45 (mkF m 103 #[.val (.ref a), .val (.int u), .val (.int v)] [(.int (1 : Int32))])
    refine go_st (fun _ k => XS.goto X45.here hx rfl (pc0 := 103) (pc' := 107) rfl (hb hby d4_103) (by decide) (by decide) k) ?_
    show Go p e below s _ _ _ T45 (mkF m 107 #[.val (.ref a), .val (.int u), .val (.int v)] [(.int (1 : Int32))])
    exact go_retB (w := (1 : Int32)) X45 hx hlk hret (hb hby d4_107) (by decide) (by decide) (by decide) ⟨rfl, N0, e45⟩
theorem own_six (x : Int32) (h0 : ¬ (x &&& 2147483647) % 6 = 0) (h1 : ¬ (x &&& 2147483647) % 6 = 1) (h2 : ¬ (x &&& 2147483647) % 6 = 2) (h3 : ¬ (x &&& 2147483647) % 6 = 3) (h4 : ¬ (x &&& 2147483647) % 6 = 4) (h5 : ¬ (x &&& 2147483647) % 6 = 5) : False := by
  have k1 := c_mask x 2147483647 31 (by decide) (by decide)
  have k2 := (c_irem (x &&& 2147483647) 6 6 rfl).1 (by omega)
  rw [← Int32.toInt_inj] at h0 h1 h2 h3 h4 h5
  have e0 : (0 : Int32).toInt = 0 := rfl
  have e1 : (1 : Int32).toInt = 1 := rfl
  have e2 : (2 : Int32).toInt = 2 := rfl
  have e3 : (3 : Int32).toInt = 3 := rfl
  have e4 : (4 : Int32).toInt = 4 := rfl
  have e5 : (5 : Int32).toInt = 5 := rfl
  omega
theorem pn4 : plainFor x = true := by first | (refine plainFor_of_name ?_; simp [plainName, overriddenIn]; done) | (refine plainFor_of_name ?_; decide +kernel) | decide +kernel
theorem pd1 : parseMethodDescriptor "(I)Lcom/example/skipstone/skipstone/prune/Operator;" = some ⟨[.int], (some (.object "com/example/skipstone/skipstone/prune/Operator"))⟩ := by decide +kernel
theorem pd2 : parseMethodDescriptor "()Lcom/example/skipstone/skipstone/prune/Operator;" = some ⟨[], (some (.object "com/example/skipstone/skipstone/prune/Operator"))⟩ := by decide +kernel
theorem pd3 : parseMethodDescriptor "(Lcom/example/skipstone/skipstone/prune/Operator;II)Z" = some ⟨[(.object "com/example/skipstone/skipstone/prune/Operator"), .int, .int], (some .boolean)⟩ := by decide +kernel
def fLaw (x0 : Int32) (x1 : Int32) (x2 : Int32) (x3 : Int32) : Int32 := (if ((x0 &&& (2147483647 : Int32)) % (6 : Int32)) = (0 : Int32) then (if (x3 &&& (1 : Int32)) = (0 : Int32) then (if (fHold0 x1 x2) = (0 : Int32) then (if (fHold1 x1 x2) = (1 : Int32) then (1 : Int32) else (0 : Int32)) else (if (fHold1 x1 x2) = (0 : Int32) then (1 : Int32) else (0 : Int32))) else (if (fHold0 x1 x1) = (0 : Int32) then (if (fHold1 x1 x1) = (1 : Int32) then (1 : Int32) else (0 : Int32)) else (if (fHold1 x1 x1) = (0 : Int32) then (1 : Int32) else (0 : Int32)))) else (if ((x0 &&& (2147483647 : Int32)) % (6 : Int32)) = (1 : Int32) then (if (x3 &&& (1 : Int32)) = (0 : Int32) then (if (fHold1 x1 x2) = (0 : Int32) then (if (fHold0 x1 x2) = (1 : Int32) then (1 : Int32) else (0 : Int32)) else (if (fHold0 x1 x2) = (0 : Int32) then (1 : Int32) else (0 : Int32))) else (if (fHold1 x1 x1) = (0 : Int32) then (if (fHold0 x1 x1) = (1 : Int32) then (1 : Int32) else (0 : Int32)) else (if (fHold0 x1 x1) = (0 : Int32) then (1 : Int32) else (0 : Int32)))) else (if ((x0 &&& (2147483647 : Int32)) % (6 : Int32)) = (2 : Int32) then (if (x3 &&& (1 : Int32)) = (0 : Int32) then (if (fHold2 x1 x2) = (0 : Int32) then (if (fHold5 x1 x2) = (1 : Int32) then (1 : Int32) else (0 : Int32)) else (if (fHold5 x1 x2) = (0 : Int32) then (1 : Int32) else (0 : Int32))) else (if (fHold2 x1 x1) = (0 : Int32) then (if (fHold5 x1 x1) = (1 : Int32) then (1 : Int32) else (0 : Int32)) else (if (fHold5 x1 x1) = (0 : Int32) then (1 : Int32) else (0 : Int32)))) else (if ((x0 &&& (2147483647 : Int32)) % (6 : Int32)) = (3 : Int32) then (if (x3 &&& (1 : Int32)) = (0 : Int32) then (if (fHold3 x1 x2) = (0 : Int32) then (if (fHold4 x1 x2) = (1 : Int32) then (1 : Int32) else (0 : Int32)) else (if (fHold4 x1 x2) = (0 : Int32) then (1 : Int32) else (0 : Int32))) else (if (fHold3 x1 x1) = (0 : Int32) then (if (fHold4 x1 x1) = (1 : Int32) then (1 : Int32) else (0 : Int32)) else (if (fHold4 x1 x1) = (0 : Int32) then (1 : Int32) else (0 : Int32)))) else (if ((x0 &&& (2147483647 : Int32)) % (6 : Int32)) = (4 : Int32) then (if (x3 &&& (1 : Int32)) = (0 : Int32) then (if (fHold4 x1 x2) = (0 : Int32) then (if (fHold3 x1 x2) = (1 : Int32) then (1 : Int32) else (0 : Int32)) else (if (fHold3 x1 x2) = (0 : Int32) then (1 : Int32) else (0 : Int32))) else (if (fHold4 x1 x1) = (0 : Int32) then (if (fHold3 x1 x1) = (1 : Int32) then (1 : Int32) else (0 : Int32)) else (if (fHold3 x1 x1) = (0 : Int32) then (1 : Int32) else (0 : Int32)))) else (if ((x0 &&& (2147483647 : Int32)) % (6 : Int32)) = (5 : Int32) then (if (x3 &&& (1 : Int32)) = (0 : Int32) then (if (fHold5 x1 x2) = (0 : Int32) then (if (fHold2 x1 x2) = (1 : Int32) then (1 : Int32) else (0 : Int32)) else (if (fHold2 x1 x2) = (0 : Int32) then (1 : Int32) else (0 : Int32))) else (if (fHold5 x1 x1) = (0 : Int32) then (if (fHold2 x1 x1) = (1 : Int32) then (1 : Int32) else (0 : Int32)) else (if (fHold2 x1 x1) = (0 : Int32) then (1 : Int32) else (0 : Int32)))) else (0 : Int32)))))))
theorem ef_law (m : MethodId) (x0 : Int32) (x1 : Int32) (x2 : Int32) (x3 : Int32) : entryFrame m #[(.int x0), (.int x1), (.int x2), (.int x3)] maxLocals = mkF m 0 #[.val (.int x0), .val (.int x1), .val (.int x2), .val (.int x3), .unset, .unset, .unset] [] := by first | (simp [entryFrame, mkF, argsToLocals, Value.category, maxLocals]; done) | rfl
set_option maxRecDepth 65536 in
set_option maxHeartbeats 4000000 in
theorem met_law (l : Launch) (Z : State) (a0 : Array Value) (hw : ∀ d ∈ tables_1, d.before a0 Z = true) (x0 : Int32) (x1 : Int32) (x2 : Int32) (x3 : Int32) (h0 : Heap) (n0 : Nat) (Z0 : n0 ≤ h0.size) (o0 o1 o2 o3 o4 o5 : Addr) (S0 : Sta Z h0 "com/example/skipstone/skipstone/prune/Operator" "EQUAL" "Lcom/example/skipstone/skipstone/prune/Operator;" (.ref o0)) (S1 : Sta Z h0 "com/example/skipstone/skipstone/prune/Operator" "NOT_EQUAL" "Lcom/example/skipstone/skipstone/prune/Operator;" (.ref o1)) (S2 : Sta Z h0 "com/example/skipstone/skipstone/prune/Operator" "LESS" "Lcom/example/skipstone/skipstone/prune/Operator;" (.ref o2)) (S3 : Sta Z h0 "com/example/skipstone/skipstone/prune/Operator" "LESS_OR_EQUAL" "Lcom/example/skipstone/skipstone/prune/Operator;" (.ref o3)) (S4 : Sta Z h0 "com/example/skipstone/skipstone/prune/Operator" "GREATER" "Lcom/example/skipstone/skipstone/prune/Operator;" (.ref o4)) (S5 : Sta Z h0 "com/example/skipstone/skipstone/prune/Operator" "GREATER_OR_EQUAL" "Lcom/example/skipstone/skipstone/prune/Operator;" (.ref o5)) (E0 : Exa Z h0 o0 "com/example/skipstone/skipstone/prune/Operator") (E1 : Exa Z h0 o1 "com/example/skipstone/skipstone/prune/Operator") (E2 : Exa Z h0 o2 "com/example/skipstone/skipstone/prune/Operator") (E3 : Exa Z h0 o3 "com/example/skipstone/skipstone/prune/Operator") (E4 : Exa Z h0 o4 "com/example/skipstone/skipstone/prune/Operator") (E5 : Exa Z h0 o5 "com/example/skipstone/skipstone/prune/Operator") (F0 : Fld Z h0 o0 "java/lang/Enum" "ordinal" "I" (.int (0 : Int32))) (F1 : Fld Z h0 o1 "java/lang/Enum" "ordinal" "I" (.int (1 : Int32))) (F2 : Fld Z h0 o2 "java/lang/Enum" "ordinal" "I" (.int (2 : Int32))) (F3 : Fld Z h0 o3 "java/lang/Enum" "ordinal" "I" (.int (3 : Int32))) (F4 : Fld Z h0 o4 "java/lang/Enum" "ordinal" "I" (.int (4 : Int32))) (F5 : Fld Z h0 o5 "java/lang/Enum" "ordinal" "I" (.int (5 : Int32))) :
    Met l x code maxLocals ret tables_1 room_1 Z #[(.int x0), (.int x1), (.int x2), (.int x3)] h0 (QF (some (.int (fLaw x0 x1 x2 x3))) n0) 0 0 := by
  refine own_body pn4 ?_
  intro p e s m below meth c s₁ ct X0 e0
  have ct0 := ct
  obtain ⟨hx, hZ, hown, hby, hml, hret, hlk, hnm⟩ := ct
  have lt_o0 := E0.lt
  have lt_o1 := E1.lt
  have ne_1_0 : o1 ≠ o0 := Fld.ne F1 F0 (by decide)
  have lt_o2 := E2.lt
  have ne_2_0 : o2 ≠ o0 := Fld.ne F2 F0 (by decide)
  have ne_2_1 : o2 ≠ o1 := Fld.ne F2 F1 (by decide)
  have lt_o3 := E3.lt
  have ne_3_0 : o3 ≠ o0 := Fld.ne F3 F0 (by decide)
  have ne_3_1 : o3 ≠ o1 := Fld.ne F3 F1 (by decide)
  have ne_3_2 : o3 ≠ o2 := Fld.ne F3 F2 (by decide)
  have lt_o4 := E4.lt
  have ne_4_0 : o4 ≠ o0 := Fld.ne F4 F0 (by decide)
  have ne_4_1 : o4 ≠ o1 := Fld.ne F4 F1 (by decide)
  have ne_4_2 : o4 ≠ o2 := Fld.ne F4 F2 (by decide)
  have ne_4_3 : o4 ≠ o3 := Fld.ne F4 F3 (by decide)
  have lt_o5 := E5.lt
  have ne_5_0 : o5 ≠ o0 := Fld.ne F5 F0 (by decide)
  have ne_5_1 : o5 ≠ o1 := Fld.ne F5 F1 (by decide)
  have ne_5_2 : o5 ≠ o2 := Fld.ne F5 F2 (by decide)
  have ne_5_3 : o5 ≠ o3 := Fld.ne F5 F3 (by decide)
  have ne_5_4 : o5 ≠ o4 := Fld.ne F5 F4 (by decide)
  have N0 := Fr.nil n0
  refine castGo (ef_law m x0 x1 x2 x3) ?_
  unfold fLaw
  show Go p e below s _ _ _ s₁ (mkF m 0 #[.val (.int x0), .val (.int x1), .val (.int x2), .val (.int x3), .unset, .unset, .unset] [])
  refine go_st (fun _ k => XS.iloadN X0.here hx rfl (hb hby at_0) rfl k) ?_
  show Go p e below s _ _ _ s₁ (mkF m 1 #[.val (.int x0), .val (.int x1), .val (.int x2), .val (.int x3), .unset, .unset, .unset] [(.int x0)])
  refine go_st (fun _ k => Jvm.Stand.ldcI X0 hx hown (mvT hZ (hw _ (List.mem_of_getElem? (i := 0) rfl))) rfl (hb hby at_1) k) ?_
  show Go p e below s _ _ _ s₁ (mkF m 3 #[.val (.int x0), .val (.int x1), .val (.int x2), .val (.int x3), .unset, .unset, .unset] [(.int (2147483647 : Int32)), (.int x0)])
  refine go_st (fun _ k => XS.iand X0.here hx rfl (hb hby at_3) rfl k) ?_
  show Go p e below s _ _ _ s₁ (mkF m 4 #[.val (.int x0), .val (.int x1), .val (.int x2), .val (.int x3), .unset, .unset, .unset] [(.int (x0 &&& (2147483647 : Int32)))])
  refine go_st (fun _ k => XT.bipushV X0.here hx rfl (6 : Int32) (hb hby at_4) (by decide) k) ?_
  show Go p e below s _ _ _ s₁ (mkF m 6 #[.val (.int x0), .val (.int x1), .val (.int x2), .val (.int x3), .unset, .unset, .unset] [(.int (6 : Int32)), (.int (x0 &&& (2147483647 : Int32)))])
  refine go_st (fun _ k => iremM X0 hx rfl (hb hby at_6) rfl (by decide) k) ?_
  show Go p e below s _ _ _ s₁ (mkF m 7 #[.val (.int x0), .val (.int x1), .val (.int x2), .val (.int x3), .unset, .unset, .unset] [(.int ((x0 &&& (2147483647 : Int32)) % (6 : Int32)))])
  by_cases hk47 : ((x0 &&& (2147483647 : Int32)) % (6 : Int32)) = (0 : Int32)
  · rw [if_pos hk47]
    rw [hk47]
    show Go p e below s _ _ _ s₁ (mkF m 7 #[.val (.int x0), .val (.int x1), .val (.int x2), .val (.int x3), .unset, .unset, .unset] [(.int (0 : Int32))])
    refine go_callS X0 hx hZ hml hown (hw _ (List.mem_of_getElem? (i := 1) rfl)) (hw _ (List.mem_of_getElem? (i := 2) rfl)) (hw _ (List.mem_of_getElem? (i := 3) rfl)) (hw _ (List.mem_of_getElem? (i := 4) rfl)) e0 (argsL := [(.int (0 : Int32))]) (rest := []) (W := 0) (met_pick0 l Z a0 hw o0 h0 n0 Z0 S0) (hb hby at_7) rfl rfl rfl (lenOf pd1 rfl) (by show 2 * 0 + _ ≤ _; exact Nat.le_of_eq rfl) (by decide) (by decide) (by decide) (by decide) (by decide) ?_
    intro T48 v48 L48 X48 q48
    obtain ⟨rfl, M48, e48⟩ := q48
    have N48 := Fr.app N0 M48
    show Go p e below s _ _ _ T48 (mkF m 10 #[.val (.int x0), .val (.int x1), .val (.int x2), .val (.int x3), .unset, .unset, .unset] [(.ref o0)])
    refine go_st (fun _ k => XS.astore X48.here hx rfl (hb hby at_10) rfl rfl (l' := #[.val (.int x0), .val (.int x1), .val (.int x2), .val (.int x3), .val (.ref o0), .unset, .unset]) rfl k) ?_
    show Go p e below s _ _ _ T48 (mkF m 12 #[.val (.int x0), .val (.int x1), .val (.int x2), .val (.int x3), .val (.ref o0), .unset, .unset] [])
    refine go_st (fun _ k => XS.iloadN X48.here hx rfl (hb hby at_12) rfl k) ?_
    show Go p e below s _ _ _ T48 (mkF m 13 #[.val (.int x0), .val (.int x1), .val (.int x2), .val (.int x3), .val (.ref o0), .unset, .unset] [(.int x3)])
    refine go_st (fun _ k => XT.iconstV X48.here hx rfl (1 : Int32) (hb hby at_13) (by decide) k) ?_
    show Go p e below s _ _ _ T48 (mkF m 14 #[.val (.int x0), .val (.int x1), .val (.int x2), .val (.int x3), .val (.ref o0), .unset, .unset] [(.int (1 : Int32)), (.int x3)])
    refine go_st (fun _ k => XS.iand X48.here hx rfl (hb hby at_14) rfl k) ?_
    show Go p e below s _ _ _ T48 (mkF m 15 #[.val (.int x0), .val (.int x1), .val (.int x2), .val (.int x3), .val (.ref o0), .unset, .unset] [(.int (x3 &&& (1 : Int32)))])
    by_cases hc49 : (x3 &&& (1 : Int32)) = (0 : Int32)
    · rw [if_pos hc49]
      refine go_st (fun _ k => XS.ifYes X48.here hx rfl (pc0 := 15) (pc' := 22) rfl (hb hby at_15) rfl (XT.i0_eq_t hc49) (by decide) (by decide) k) ?_
      show Go p e below s _ _ _ T48 (mkF m 22 #[.val (.int x0), .val (.int x1), .val (.int x2), .val (.int x3), .val (.ref o0), .unset, .unset] [])
      refine go_st (fun _ k => XS.iloadN X48.here hx rfl (hb hby at_22) rfl k) ?_
      show Go p e below s _ _ _ T48 (mkF m 23 #[.val (.int x0), .val (.int x1), .val (.int x2), .val (.int x3), .val (.ref o0), .unset, .unset] [(.int x2)])
      refine go_st (fun _ k => XS.istore X48.here hx rfl (hb hby at_23) rfl (l' := #[.val (.int x0), .val (.int x1), .val (.int x2), .val (.int x3), .val (.ref o0), .val (.int x2), .unset]) rfl k) ?_
      show Go p e below s _ _ _ T48 (mkF m 25 #[.val (.int x0), .val (.int x1), .val (.int x2), .val (.int x3), .val (.ref o0), .val (.int x2), .unset] [])
      refine go_st (fun _ k => XS.aload X48.here hx rfl (hb hby at_25) rfl rfl k) ?_
      show Go p e below s _ _ _ T48 (mkF m 27 #[.val (.int x0), .val (.int x1), .val (.int x2), .val (.int x3), .val (.ref o0), .val (.int x2), .unset] [(.ref o0)])
      refine go_callV X48 hx hZ hml hown (hw _ (List.mem_of_getElem? (i := 8) rfl)) (hw _ (List.mem_of_getElem? (i := 9) rfl)) (notFace_of_selects (args := #[]) (mvT hZ (hw _ (List.mem_of_getElem? (i := 11) rfl)))) (hw _ (List.mem_of_getElem? (i := 11) rfl)) (hw _ (List.mem_of_getElem? (i := 10) rfl)) (hw _ (List.mem_of_getElem? (i := 12) rfl)) (hw _ (List.mem_of_getElem? (i := 6) rfl)) e48 E0 (argsL := []) (rest := []) (W := 0) (met_neg0 l Z a0 hw o0 o1 h0 n0 Z0 E0 F0 S1) (hb hby at_27) rfl rfl rfl (lenOf pd2 rfl) (by show 2 * 0 + _ ≤ _; exact Nat.le_of_eq rfl) (by decide) (by decide) (by decide) (by decide) (by decide) ?_
      intro T50 v50 L50 X50 q50
      obtain ⟨rfl, M50, e50⟩ := q50
      have N50 := Fr.app N48 M50
      show Go p e below s _ _ _ T50 (mkF m 30 #[.val (.int x0), .val (.int x1), .val (.int x2), .val (.int x3), .val (.ref o0), .val (.int x2), .unset] [(.ref o1)])
      refine go_st (fun _ k => XS.astore X50.here hx rfl (hb hby at_30) rfl rfl (l' := #[.val (.int x0), .val (.int x1), .val (.int x2), .val (.int x3), .val (.ref o0), .val (.int x2), .val (.ref o1)]) rfl k) ?_
      show Go p e below s _ _ _ T50 (mkF m 32 #[.val (.int x0), .val (.int x1), .val (.int x2), .val (.int x3), .val (.ref o0), .val (.int x2), .val (.ref o1)] [])
      refine go_st (fun _ k => XS.aload X50.here hx rfl (hb hby at_32) rfl rfl k) ?_
      show Go p e below s _ _ _ T50 (mkF m 34 #[.val (.int x0), .val (.int x1), .val (.int x2), .val (.int x3), .val (.ref o0), .val (.int x2), .val (.ref o1)] [(.ref o1)])
      refine go_st (fun _ k => XS.iloadN X50.here hx rfl (hb hby at_34) rfl k) ?_
      show Go p e below s _ _ _ T50 (mkF m 35 #[.val (.int x0), .val (.int x1), .val (.int x2), .val (.int x3), .val (.ref o0), .val (.int x2), .val (.ref o1)] [(.int x1), (.ref o1)])
      refine go_st (fun _ k => XS.iload X50.here hx rfl (hb hby at_35) rfl k) ?_
      show Go p e below s _ _ _ T50 (mkF m 37 #[.val (.int x0), .val (.int x1), .val (.int x2), .val (.int x3), .val (.ref o0), .val (.int x2), .val (.ref o1)] [(.int x2), (.int x1), (.ref o1)])
      refine go_callS X50 hx hZ hml hown (hw _ (List.mem_of_getElem? (i := 24) rfl)) (hw _ (List.mem_of_getElem? (i := 25) rfl)) (hw _ (List.mem_of_getElem? (i := 3) rfl)) (hw _ (List.mem_of_getElem? (i := 26) rfl)) e50 (argsL := [(.ref o1), (.int x1), (.int x2)]) (rest := []) (W := 0) (met_hol1 l Z a0 hw o1 x1 x2 o0 h0 n0 Z0 S0 S1 ne_1_0) (hb hby at_37) rfl rfl rfl (lenOf pd3 rfl) (by show 2 * 0 + _ ≤ _; exact Nat.le_of_eq rfl) (by decide) (by decide) (by decide) (by decide) (by decide) ?_
      intro T51 v51 L51 X51 q51
      obtain ⟨rfl, M51, e51⟩ := q51
      have N51 := Fr.app N50 M51
      show Go p e below s _ _ _ T51 (mkF m 40 #[.val (.int x0), .val (.int x1), .val (.int x2), .val (.int x3), .val (.ref o0), .val (.int x2), .val (.ref o1)] [(.int (fHold1 x1 x2))])
      refine go_st (fun _ k => XS.aload X51.here hx rfl (hb hby at_40) rfl rfl k) ?_
      show Go p e below s _ _ _ T51 (mkF m 42 #[.val (.int x0), .val (.int x1), .val (.int x2), .val (.int x3), .val (.ref o0), .val (.int x2), .val (.ref o1)] [(.ref o0), (.int (fHold1 x1 x2))])
      refine go_st (fun _ k => XS.iloadN X51.here hx rfl (hb hby at_42) rfl k) ?_
      show Go p e below s _ _ _ T51 (mkF m 43 #[.val (.int x0), .val (.int x1), .val (.int x2), .val (.int x3), .val (.ref o0), .val (.int x2), .val (.ref o1)] [(.int x1), (.ref o0), (.int (fHold1 x1 x2))])
      refine go_st (fun _ k => XS.iload X51.here hx rfl (hb hby at_43) rfl k) ?_
      show Go p e below s _ _ _ T51 (mkF m 45 #[.val (.int x0), .val (.int x1), .val (.int x2), .val (.int x3), .val (.ref o0), .val (.int x2), .val (.ref o1)] [(.int x2), (.int x1), (.ref o0), (.int (fHold1 x1 x2))])
      refine go_callS X51 hx hZ hml hown (hw _ (List.mem_of_getElem? (i := 24) rfl)) (hw _ (List.mem_of_getElem? (i := 25) rfl)) (hw _ (List.mem_of_getElem? (i := 3) rfl)) (hw _ (List.mem_of_getElem? (i := 26) rfl)) e51 (argsL := [(.ref o0), (.int x1), (.int x2)]) (rest := [(.int (fHold1 x1 x2))]) (W := 1) (met_hol0 l Z a0 hw o0 x1 x2 h0 n0 Z0 S0) (hb hby at_45) rfl rfl rfl (lenOf pd3 rfl) (by show 2 * 0 + _ ≤ _; exact Nat.le_of_eq rfl) (by decide) (by decide) (by decide) (by decide) (by decide) ?_
      intro T52 v52 L52 X52 q52
      obtain ⟨rfl, M52, e52⟩ := q52
      have N52 := Fr.app N51 M52
      show Go p e below s _ _ _ T52 (mkF m 48 #[.val (.int x0), .val (.int x1), .val (.int x2), .val (.int x3), .val (.ref o0), .val (.int x2), .val (.ref o1)] [(.int (fHold0 x1 x2)), (.int (fHold1 x1 x2))])
      by_cases hc53 : (fHold0 x1 x2) = (0 : Int32)
      · rw [if_pos hc53]
        refine go_st (fun _ k => XS.ifNo X52.here hx rfl (hb hby at_48) rfl (XT.i0_ne_f hc53) k) ?_
        show Go p e below s _ _ _ T52 (mkF m 51 #[.val (.int x0), .val (.int x1), .val (.int x2), .val (.int x3), .val (.ref o0), .val (.int x2), .val (.ref o1)] [(.int (fHold1 x1 x2))])
        refine go_st (fun _ k => XT.iconstV X52.here hx rfl (1 : Int32) (hb hby at_51) (by decide) k) ?_
        show Go p e below s _ _ _ T52 (mkF m 52 #[.val (.int x0), .val (.int x1), .val (.int x2), .val (.int x3), .val (.ref o0), .val (.int x2), .val (.ref o1)] [(.int (1 : Int32)), (.int (fHold1 x1 x2))])
        refine go_st (fun _ k => XS.goto X52.here hx rfl (pc0 := 52) (pc' := 56) rfl (hb hby at_52) (by decide) (by decide) k) ?_
        show Go p e below s _ _ _ T52 (mkF m 56 #[.val (.int x0), .val (.int x1), .val (.int x2), .val (.int x3), .val (.ref o0), .val (.int x2), .val (.ref o1)] [(.int (1 : Int32)), (.int (fHold1 x1 x2))])
        by_cases hc54 : (fHold1 x1 x2) = (1 : Int32)
        · rw [if_pos hc54]
          refine go_st (fun _ k => XS.icmpNo X52.here hx rfl (hb hby at_56) rfl (XT.ii_ne_f hc54) k) ?_
          show Go p e below s _ _ _ T52 (mkF m 59 #[.val (.int x0), .val (.int x1), .val (.int x2), .val (.int x3), .val (.ref o0), .val (.int x2), .val (.ref o1)] [])
          refine go_st (fun _ k => XT.iconstV X52.here hx rfl (1 : Int32) (hb hby at_59) (by decide) k) ?_
          show Go p e below s _ _ _ T52 (mkF m 60 #[.val (.int x0), .val (.int x1), .val (.int x2), .val (.int x3), .val (.ref o0), .val (.int x2), .val (.ref o1)] [(.int (1 : Int32))])
          refine go_st (fun _ k => XS.goto X52.here hx rfl (pc0 := 60) (pc' := 64) rfl (hb hby at_60) (by decide) (by decide) k) ?_
          show Go p e below s _ _ _ T52 (mkF m 64 #[.val (.int x0), .val (.int x1), .val (.int x2), .val (.int x3), .val (.ref o0), .val (.int x2), .val (.ref o1)] [(.int (1 : Int32))])
          exact go_retB (w := (1 : Int32)) X52 hx hlk hret (hb hby at_64) (by decide) (by decide) (by decide) ⟨rfl, N52⟩
        · rw [if_neg hc54]
          refine go_st (fun _ k => XS.icmpYes X52.here hx rfl (pc0 := 56) (pc' := 63) rfl (hb hby at_56) rfl (XT.ii_ne_t hc54) (by decide) (by decide) k) ?_
          show Go p e below s _ _ _ T52 (mkF m 63 #[.val (.int x0), .val (.int x1), .val (.int x2), .val (.int x3), .val (.ref o0), .val (.int x2), .val (.ref o1)] [])
          refine go_st (fun _ k => XT.iconstV X52.here hx rfl (0 : Int32) (hb hby at_63) (by decide) k) ?_
          show Go p e below s _ _ _ T52 (mkF m 64 #[.val (.int x0), .val (.int x1), .val (.int x2), .val (.int x3), .val (.ref o0), .val (.int x2), .val (.ref o1)] [(.int (0 : Int32))])
          exact go_retB (w := (0 : Int32)) X52 hx hlk hret (hb hby at_64) (by decide) (by decide) (by decide) ⟨rfl, N52⟩
      · rw [if_neg hc53]
        refine go_st (fun _ k => XS.ifYes X52.here hx rfl (pc0 := 48) (pc' := 55) rfl (hb hby at_48) rfl (XT.i0_ne_t hc53) (by decide) (by decide) k) ?_
        show Go p e below s _ _ _ T52 (mkF m 55 #[.val (.int x0), .val (.int x1), .val (.int x2), .val (.int x3), .val (.ref o0), .val (.int x2), .val (.ref o1)] [(.int (fHold1 x1 x2))])
        refine go_st (fun _ k => XT.iconstV X52.here hx rfl (0 : Int32) (hb hby at_55) (by decide) k) ?_
        show Go p e below s _ _ _ T52 (mkF m 56 #[.val (.int x0), .val (.int x1), .val (.int x2), .val (.int x3), .val (.ref o0), .val (.int x2), .val (.ref o1)] [(.int (0 : Int32)), (.int (fHold1 x1 x2))])
        by_cases hc55 : (fHold1 x1 x2) = (0 : Int32)
        · rw [if_pos hc55]
          refine go_st (fun _ k => XS.icmpNo X52.here hx rfl (hb hby at_56) rfl (XT.ii_ne_f hc55) k) ?_
          show Go p e below s _ _ _ T52 (mkF m 59 #[.val (.int x0), .val (.int x1), .val (.int x2), .val (.int x3), .val (.ref o0), .val (.int x2), .val (.ref o1)] [])
          refine go_st (fun _ k => XT.iconstV X52.here hx rfl (1 : Int32) (hb hby at_59) (by decide) k) ?_
          show Go p e below s _ _ _ T52 (mkF m 60 #[.val (.int x0), .val (.int x1), .val (.int x2), .val (.int x3), .val (.ref o0), .val (.int x2), .val (.ref o1)] [(.int (1 : Int32))])
          refine go_st (fun _ k => XS.goto X52.here hx rfl (pc0 := 60) (pc' := 64) rfl (hb hby at_60) (by decide) (by decide) k) ?_
          show Go p e below s _ _ _ T52 (mkF m 64 #[.val (.int x0), .val (.int x1), .val (.int x2), .val (.int x3), .val (.ref o0), .val (.int x2), .val (.ref o1)] [(.int (1 : Int32))])
          exact go_retB (w := (1 : Int32)) X52 hx hlk hret (hb hby at_64) (by decide) (by decide) (by decide) ⟨rfl, N52⟩
        · rw [if_neg hc55]
          refine go_st (fun _ k => XS.icmpYes X52.here hx rfl (pc0 := 56) (pc' := 63) rfl (hb hby at_56) rfl (XT.ii_ne_t hc55) (by decide) (by decide) k) ?_
          show Go p e below s _ _ _ T52 (mkF m 63 #[.val (.int x0), .val (.int x1), .val (.int x2), .val (.int x3), .val (.ref o0), .val (.int x2), .val (.ref o1)] [])
          refine go_st (fun _ k => XT.iconstV X52.here hx rfl (0 : Int32) (hb hby at_63) (by decide) k) ?_
          show Go p e below s _ _ _ T52 (mkF m 64 #[.val (.int x0), .val (.int x1), .val (.int x2), .val (.int x3), .val (.ref o0), .val (.int x2), .val (.ref o1)] [(.int (0 : Int32))])
          exact go_retB (w := (0 : Int32)) X52 hx hlk hret (hb hby at_64) (by decide) (by decide) (by decide) ⟨rfl, N52⟩
    · rw [if_neg hc49]
      refine go_st (fun _ k => XS.ifNo X48.here hx rfl (hb hby at_15) rfl (XT.i0_eq_f hc49) k) ?_
      show Go p e below s _ _ _ T48 (mkF m 18 #[.val (.int x0), .val (.int x1), .val (.int x2), .val (.int x3), .val (.ref o0), .unset, .unset] [])
      refine go_st (fun _ k => XS.iloadN X48.here hx rfl (hb hby at_18) rfl k) ?_
      show Go p e below s _ _ _ T48 (mkF m 19 #[.val (.int x0), .val (.int x1), .val (.int x2), .val (.int x3), .val (.ref o0), .unset, .unset] [(.int x1)])
      refine go_st (fun _ k => XS.goto X48.here hx rfl (pc0 := 19) (pc' := 23) rfl (hb hby at_19) (by decide) (by decide) k) ?_
      show Go p e below s _ _ _ T48 (mkF m 23 #[.val (.int x0), .val (.int x1), .val (.int x2), .val (.int x3), .val (.ref o0), .unset, .unset] [(.int x1)])
      refine go_st (fun _ k => XS.istore X48.here hx rfl (hb hby at_23) rfl (l' := #[.val (.int x0), .val (.int x1), .val (.int x2), .val (.int x3), .val (.ref o0), .val (.int x1), .unset]) rfl k) ?_
      show Go p e below s _ _ _ T48 (mkF m 25 #[.val (.int x0), .val (.int x1), .val (.int x2), .val (.int x3), .val (.ref o0), .val (.int x1), .unset] [])
      refine go_st (fun _ k => XS.aload X48.here hx rfl (hb hby at_25) rfl rfl k) ?_
      show Go p e below s _ _ _ T48 (mkF m 27 #[.val (.int x0), .val (.int x1), .val (.int x2), .val (.int x3), .val (.ref o0), .val (.int x1), .unset] [(.ref o0)])
      refine go_callV X48 hx hZ hml hown (hw _ (List.mem_of_getElem? (i := 8) rfl)) (hw _ (List.mem_of_getElem? (i := 9) rfl)) (notFace_of_selects (args := #[]) (mvT hZ (hw _ (List.mem_of_getElem? (i := 11) rfl)))) (hw _ (List.mem_of_getElem? (i := 11) rfl)) (hw _ (List.mem_of_getElem? (i := 10) rfl)) (hw _ (List.mem_of_getElem? (i := 12) rfl)) (hw _ (List.mem_of_getElem? (i := 6) rfl)) e48 E0 (argsL := []) (rest := []) (W := 0) (met_neg0 l Z a0 hw o0 o1 h0 n0 Z0 E0 F0 S1) (hb hby at_27) rfl rfl rfl (lenOf pd2 rfl) (by show 2 * 0 + _ ≤ _; exact Nat.le_of_eq rfl) (by decide) (by decide) (by decide) (by decide) (by decide) ?_
      intro T56 v56 L56 X56 q56
      obtain ⟨rfl, M56, e56⟩ := q56
      have N56 := Fr.app N48 M56
      show Go p e below s _ _ _ T56 (mkF m 30 #[.val (.int x0), .val (.int x1), .val (.int x2), .val (.int x3), .val (.ref o0), .val (.int x1), .unset] [(.ref o1)])
      refine go_st (fun _ k => XS.astore X56.here hx rfl (hb hby at_30) rfl rfl (l' := #[.val (.int x0), .val (.int x1), .val (.int x2), .val (.int x3), .val (.ref o0), .val (.int x1), .val (.ref o1)]) rfl k) ?_
      show Go p e below s _ _ _ T56 (mkF m 32 #[.val (.int x0), .val (.int x1), .val (.int x2), .val (.int x3), .val (.ref o0), .val (.int x1), .val (.ref o1)] [])
      refine go_st (fun _ k => XS.aload X56.here hx rfl (hb hby at_32) rfl rfl k) ?_
      show Go p e below s _ _ _ T56 (mkF m 34 #[.val (.int x0), .val (.int x1), .val (.int x2), .val (.int x3), .val (.ref o0), .val (.int x1), .val (.ref o1)] [(.ref o1)])
      refine go_st (fun _ k => XS.iloadN X56.here hx rfl (hb hby at_34) rfl k) ?_
      show Go p e below s _ _ _ T56 (mkF m 35 #[.val (.int x0), .val (.int x1), .val (.int x2), .val (.int x3), .val (.ref o0), .val (.int x1), .val (.ref o1)] [(.int x1), (.ref o1)])
      refine go_st (fun _ k => XS.iload X56.here hx rfl (hb hby at_35) rfl k) ?_
      show Go p e below s _ _ _ T56 (mkF m 37 #[.val (.int x0), .val (.int x1), .val (.int x2), .val (.int x3), .val (.ref o0), .val (.int x1), .val (.ref o1)] [(.int x1), (.int x1), (.ref o1)])
      refine go_callS X56 hx hZ hml hown (hw _ (List.mem_of_getElem? (i := 24) rfl)) (hw _ (List.mem_of_getElem? (i := 25) rfl)) (hw _ (List.mem_of_getElem? (i := 3) rfl)) (hw _ (List.mem_of_getElem? (i := 26) rfl)) e56 (argsL := [(.ref o1), (.int x1), (.int x1)]) (rest := []) (W := 0) (met_hol1 l Z a0 hw o1 x1 x1 o0 h0 n0 Z0 S0 S1 ne_1_0) (hb hby at_37) rfl rfl rfl (lenOf pd3 rfl) (by show 2 * 0 + _ ≤ _; exact Nat.le_of_eq rfl) (by decide) (by decide) (by decide) (by decide) (by decide) ?_
      intro T57 v57 L57 X57 q57
      obtain ⟨rfl, M57, e57⟩ := q57
      have N57 := Fr.app N56 M57
      show Go p e below s _ _ _ T57 (mkF m 40 #[.val (.int x0), .val (.int x1), .val (.int x2), .val (.int x3), .val (.ref o0), .val (.int x1), .val (.ref o1)] [(.int (fHold1 x1 x1))])
      refine go_st (fun _ k => XS.aload X57.here hx rfl (hb hby at_40) rfl rfl k) ?_
      show Go p e below s _ _ _ T57 (mkF m 42 #[.val (.int x0), .val (.int x1), .val (.int x2), .val (.int x3), .val (.ref o0), .val (.int x1), .val (.ref o1)] [(.ref o0), (.int (fHold1 x1 x1))])
      refine go_st (fun _ k => XS.iloadN X57.here hx rfl (hb hby at_42) rfl k) ?_
      show Go p e below s _ _ _ T57 (mkF m 43 #[.val (.int x0), .val (.int x1), .val (.int x2), .val (.int x3), .val (.ref o0), .val (.int x1), .val (.ref o1)] [(.int x1), (.ref o0), (.int (fHold1 x1 x1))])
      refine go_st (fun _ k => XS.iload X57.here hx rfl (hb hby at_43) rfl k) ?_
      show Go p e below s _ _ _ T57 (mkF m 45 #[.val (.int x0), .val (.int x1), .val (.int x2), .val (.int x3), .val (.ref o0), .val (.int x1), .val (.ref o1)] [(.int x1), (.int x1), (.ref o0), (.int (fHold1 x1 x1))])
      refine go_callS X57 hx hZ hml hown (hw _ (List.mem_of_getElem? (i := 24) rfl)) (hw _ (List.mem_of_getElem? (i := 25) rfl)) (hw _ (List.mem_of_getElem? (i := 3) rfl)) (hw _ (List.mem_of_getElem? (i := 26) rfl)) e57 (argsL := [(.ref o0), (.int x1), (.int x1)]) (rest := [(.int (fHold1 x1 x1))]) (W := 1) (met_hol0 l Z a0 hw o0 x1 x1 h0 n0 Z0 S0) (hb hby at_45) rfl rfl rfl (lenOf pd3 rfl) (by show 2 * 0 + _ ≤ _; exact Nat.le_of_eq rfl) (by decide) (by decide) (by decide) (by decide) (by decide) ?_
      intro T58 v58 L58 X58 q58
      obtain ⟨rfl, M58, e58⟩ := q58
      have N58 := Fr.app N57 M58
      show Go p e below s _ _ _ T58 (mkF m 48 #[.val (.int x0), .val (.int x1), .val (.int x2), .val (.int x3), .val (.ref o0), .val (.int x1), .val (.ref o1)] [(.int (fHold0 x1 x1)), (.int (fHold1 x1 x1))])
      by_cases hc59 : (fHold0 x1 x1) = (0 : Int32)
      · rw [if_pos hc59]
        refine go_st (fun _ k => XS.ifNo X58.here hx rfl (hb hby at_48) rfl (XT.i0_ne_f hc59) k) ?_
        show Go p e below s _ _ _ T58 (mkF m 51 #[.val (.int x0), .val (.int x1), .val (.int x2), .val (.int x3), .val (.ref o0), .val (.int x1), .val (.ref o1)] [(.int (fHold1 x1 x1))])
        refine go_st (fun _ k => XT.iconstV X58.here hx rfl (1 : Int32) (hb hby at_51) (by decide) k) ?_
        show Go p e below s _ _ _ T58 (mkF m 52 #[.val (.int x0), .val (.int x1), .val (.int x2), .val (.int x3), .val (.ref o0), .val (.int x1), .val (.ref o1)] [(.int (1 : Int32)), (.int (fHold1 x1 x1))])
        refine go_st (fun _ k => XS.goto X58.here hx rfl (pc0 := 52) (pc' := 56) rfl (hb hby at_52) (by decide) (by decide) k) ?_
        show Go p e below s _ _ _ T58 (mkF m 56 #[.val (.int x0), .val (.int x1), .val (.int x2), .val (.int x3), .val (.ref o0), .val (.int x1), .val (.ref o1)] [(.int (1 : Int32)), (.int (fHold1 x1 x1))])
        by_cases hc60 : (fHold1 x1 x1) = (1 : Int32)
        · rw [if_pos hc60]
          refine go_st (fun _ k => XS.icmpNo X58.here hx rfl (hb hby at_56) rfl (XT.ii_ne_f hc60) k) ?_
          show Go p e below s _ _ _ T58 (mkF m 59 #[.val (.int x0), .val (.int x1), .val (.int x2), .val (.int x3), .val (.ref o0), .val (.int x1), .val (.ref o1)] [])
          refine go_st (fun _ k => XT.iconstV X58.here hx rfl (1 : Int32) (hb hby at_59) (by decide) k) ?_
          show Go p e below s _ _ _ T58 (mkF m 60 #[.val (.int x0), .val (.int x1), .val (.int x2), .val (.int x3), .val (.ref o0), .val (.int x1), .val (.ref o1)] [(.int (1 : Int32))])
          refine go_st (fun _ k => XS.goto X58.here hx rfl (pc0 := 60) (pc' := 64) rfl (hb hby at_60) (by decide) (by decide) k) ?_
          show Go p e below s _ _ _ T58 (mkF m 64 #[.val (.int x0), .val (.int x1), .val (.int x2), .val (.int x3), .val (.ref o0), .val (.int x1), .val (.ref o1)] [(.int (1 : Int32))])
          exact go_retB (w := (1 : Int32)) X58 hx hlk hret (hb hby at_64) (by decide) (by decide) (by decide) ⟨rfl, N58⟩
        · rw [if_neg hc60]
          refine go_st (fun _ k => XS.icmpYes X58.here hx rfl (pc0 := 56) (pc' := 63) rfl (hb hby at_56) rfl (XT.ii_ne_t hc60) (by decide) (by decide) k) ?_
          show Go p e below s _ _ _ T58 (mkF m 63 #[.val (.int x0), .val (.int x1), .val (.int x2), .val (.int x3), .val (.ref o0), .val (.int x1), .val (.ref o1)] [])
          refine go_st (fun _ k => XT.iconstV X58.here hx rfl (0 : Int32) (hb hby at_63) (by decide) k) ?_
          show Go p e below s _ _ _ T58 (mkF m 64 #[.val (.int x0), .val (.int x1), .val (.int x2), .val (.int x3), .val (.ref o0), .val (.int x1), .val (.ref o1)] [(.int (0 : Int32))])
          exact go_retB (w := (0 : Int32)) X58 hx hlk hret (hb hby at_64) (by decide) (by decide) (by decide) ⟨rfl, N58⟩
      · rw [if_neg hc59]
        refine go_st (fun _ k => XS.ifYes X58.here hx rfl (pc0 := 48) (pc' := 55) rfl (hb hby at_48) rfl (XT.i0_ne_t hc59) (by decide) (by decide) k) ?_
        show Go p e below s _ _ _ T58 (mkF m 55 #[.val (.int x0), .val (.int x1), .val (.int x2), .val (.int x3), .val (.ref o0), .val (.int x1), .val (.ref o1)] [(.int (fHold1 x1 x1))])
        refine go_st (fun _ k => XT.iconstV X58.here hx rfl (0 : Int32) (hb hby at_55) (by decide) k) ?_
        show Go p e below s _ _ _ T58 (mkF m 56 #[.val (.int x0), .val (.int x1), .val (.int x2), .val (.int x3), .val (.ref o0), .val (.int x1), .val (.ref o1)] [(.int (0 : Int32)), (.int (fHold1 x1 x1))])
        by_cases hc61 : (fHold1 x1 x1) = (0 : Int32)
        · rw [if_pos hc61]
          refine go_st (fun _ k => XS.icmpNo X58.here hx rfl (hb hby at_56) rfl (XT.ii_ne_f hc61) k) ?_
          show Go p e below s _ _ _ T58 (mkF m 59 #[.val (.int x0), .val (.int x1), .val (.int x2), .val (.int x3), .val (.ref o0), .val (.int x1), .val (.ref o1)] [])
          refine go_st (fun _ k => XT.iconstV X58.here hx rfl (1 : Int32) (hb hby at_59) (by decide) k) ?_
          show Go p e below s _ _ _ T58 (mkF m 60 #[.val (.int x0), .val (.int x1), .val (.int x2), .val (.int x3), .val (.ref o0), .val (.int x1), .val (.ref o1)] [(.int (1 : Int32))])
          refine go_st (fun _ k => XS.goto X58.here hx rfl (pc0 := 60) (pc' := 64) rfl (hb hby at_60) (by decide) (by decide) k) ?_
          show Go p e below s _ _ _ T58 (mkF m 64 #[.val (.int x0), .val (.int x1), .val (.int x2), .val (.int x3), .val (.ref o0), .val (.int x1), .val (.ref o1)] [(.int (1 : Int32))])
          exact go_retB (w := (1 : Int32)) X58 hx hlk hret (hb hby at_64) (by decide) (by decide) (by decide) ⟨rfl, N58⟩
        · rw [if_neg hc61]
          refine go_st (fun _ k => XS.icmpYes X58.here hx rfl (pc0 := 56) (pc' := 63) rfl (hb hby at_56) rfl (XT.ii_ne_t hc61) (by decide) (by decide) k) ?_
          show Go p e below s _ _ _ T58 (mkF m 63 #[.val (.int x0), .val (.int x1), .val (.int x2), .val (.int x3), .val (.ref o0), .val (.int x1), .val (.ref o1)] [])
          refine go_st (fun _ k => XT.iconstV X58.here hx rfl (0 : Int32) (hb hby at_63) (by decide) k) ?_
          show Go p e below s _ _ _ T58 (mkF m 64 #[.val (.int x0), .val (.int x1), .val (.int x2), .val (.int x3), .val (.ref o0), .val (.int x1), .val (.ref o1)] [(.int (0 : Int32))])
          exact go_retB (w := (0 : Int32)) X58 hx hlk hret (hb hby at_64) (by decide) (by decide) (by decide) ⟨rfl, N58⟩
  · rw [if_neg hk47]
    by_cases hk62 : ((x0 &&& (2147483647 : Int32)) % (6 : Int32)) = (1 : Int32)
    · rw [if_pos hk62]
      rw [hk62]
      show Go p e below s _ _ _ s₁ (mkF m 7 #[.val (.int x0), .val (.int x1), .val (.int x2), .val (.int x3), .unset, .unset, .unset] [(.int (1 : Int32))])
      refine go_callS X0 hx hZ hml hown (hw _ (List.mem_of_getElem? (i := 1) rfl)) (hw _ (List.mem_of_getElem? (i := 2) rfl)) (hw _ (List.mem_of_getElem? (i := 3) rfl)) (hw _ (List.mem_of_getElem? (i := 4) rfl)) e0 (argsL := [(.int (1 : Int32))]) (rest := []) (W := 0) (met_pick1 l Z a0 hw o1 h0 n0 Z0 S1) (hb hby at_7) rfl rfl rfl (lenOf pd1 rfl) (by show 2 * 0 + _ ≤ _; exact Nat.le_of_eq rfl) (by decide) (by decide) (by decide) (by decide) (by decide) ?_
      intro T63 v63 L63 X63 q63
      obtain ⟨rfl, M63, e63⟩ := q63
      have N63 := Fr.app N0 M63
      show Go p e below s _ _ _ T63 (mkF m 10 #[.val (.int x0), .val (.int x1), .val (.int x2), .val (.int x3), .unset, .unset, .unset] [(.ref o1)])
      refine go_st (fun _ k => XS.astore X63.here hx rfl (hb hby at_10) rfl rfl (l' := #[.val (.int x0), .val (.int x1), .val (.int x2), .val (.int x3), .val (.ref o1), .unset, .unset]) rfl k) ?_
      show Go p e below s _ _ _ T63 (mkF m 12 #[.val (.int x0), .val (.int x1), .val (.int x2), .val (.int x3), .val (.ref o1), .unset, .unset] [])
      refine go_st (fun _ k => XS.iloadN X63.here hx rfl (hb hby at_12) rfl k) ?_
      show Go p e below s _ _ _ T63 (mkF m 13 #[.val (.int x0), .val (.int x1), .val (.int x2), .val (.int x3), .val (.ref o1), .unset, .unset] [(.int x3)])
      refine go_st (fun _ k => XT.iconstV X63.here hx rfl (1 : Int32) (hb hby at_13) (by decide) k) ?_
      show Go p e below s _ _ _ T63 (mkF m 14 #[.val (.int x0), .val (.int x1), .val (.int x2), .val (.int x3), .val (.ref o1), .unset, .unset] [(.int (1 : Int32)), (.int x3)])
      refine go_st (fun _ k => XS.iand X63.here hx rfl (hb hby at_14) rfl k) ?_
      show Go p e below s _ _ _ T63 (mkF m 15 #[.val (.int x0), .val (.int x1), .val (.int x2), .val (.int x3), .val (.ref o1), .unset, .unset] [(.int (x3 &&& (1 : Int32)))])
      by_cases hc64 : (x3 &&& (1 : Int32)) = (0 : Int32)
      · rw [if_pos hc64]
        refine go_st (fun _ k => XS.ifYes X63.here hx rfl (pc0 := 15) (pc' := 22) rfl (hb hby at_15) rfl (XT.i0_eq_t hc64) (by decide) (by decide) k) ?_
        show Go p e below s _ _ _ T63 (mkF m 22 #[.val (.int x0), .val (.int x1), .val (.int x2), .val (.int x3), .val (.ref o1), .unset, .unset] [])
        refine go_st (fun _ k => XS.iloadN X63.here hx rfl (hb hby at_22) rfl k) ?_
        show Go p e below s _ _ _ T63 (mkF m 23 #[.val (.int x0), .val (.int x1), .val (.int x2), .val (.int x3), .val (.ref o1), .unset, .unset] [(.int x2)])
        refine go_st (fun _ k => XS.istore X63.here hx rfl (hb hby at_23) rfl (l' := #[.val (.int x0), .val (.int x1), .val (.int x2), .val (.int x3), .val (.ref o1), .val (.int x2), .unset]) rfl k) ?_
        show Go p e below s _ _ _ T63 (mkF m 25 #[.val (.int x0), .val (.int x1), .val (.int x2), .val (.int x3), .val (.ref o1), .val (.int x2), .unset] [])
        refine go_st (fun _ k => XS.aload X63.here hx rfl (hb hby at_25) rfl rfl k) ?_
        show Go p e below s _ _ _ T63 (mkF m 27 #[.val (.int x0), .val (.int x1), .val (.int x2), .val (.int x3), .val (.ref o1), .val (.int x2), .unset] [(.ref o1)])
        refine go_callV X63 hx hZ hml hown (hw _ (List.mem_of_getElem? (i := 8) rfl)) (hw _ (List.mem_of_getElem? (i := 9) rfl)) (notFace_of_selects (args := #[]) (mvT hZ (hw _ (List.mem_of_getElem? (i := 11) rfl)))) (hw _ (List.mem_of_getElem? (i := 11) rfl)) (hw _ (List.mem_of_getElem? (i := 10) rfl)) (hw _ (List.mem_of_getElem? (i := 12) rfl)) (hw _ (List.mem_of_getElem? (i := 6) rfl)) e63 E1 (argsL := []) (rest := []) (W := 0) (met_neg1 l Z a0 hw o1 o0 h0 n0 Z0 E1 F1 S0) (hb hby at_27) rfl rfl rfl (lenOf pd2 rfl) (by show 2 * 0 + _ ≤ _; exact Nat.le_of_eq rfl) (by decide) (by decide) (by decide) (by decide) (by decide) ?_
        intro T65 v65 L65 X65 q65
        obtain ⟨rfl, M65, e65⟩ := q65
        have N65 := Fr.app N63 M65
        show Go p e below s _ _ _ T65 (mkF m 30 #[.val (.int x0), .val (.int x1), .val (.int x2), .val (.int x3), .val (.ref o1), .val (.int x2), .unset] [(.ref o0)])
        refine go_st (fun _ k => XS.astore X65.here hx rfl (hb hby at_30) rfl rfl (l' := #[.val (.int x0), .val (.int x1), .val (.int x2), .val (.int x3), .val (.ref o1), .val (.int x2), .val (.ref o0)]) rfl k) ?_
        show Go p e below s _ _ _ T65 (mkF m 32 #[.val (.int x0), .val (.int x1), .val (.int x2), .val (.int x3), .val (.ref o1), .val (.int x2), .val (.ref o0)] [])
        refine go_st (fun _ k => XS.aload X65.here hx rfl (hb hby at_32) rfl rfl k) ?_
        show Go p e below s _ _ _ T65 (mkF m 34 #[.val (.int x0), .val (.int x1), .val (.int x2), .val (.int x3), .val (.ref o1), .val (.int x2), .val (.ref o0)] [(.ref o0)])
        refine go_st (fun _ k => XS.iloadN X65.here hx rfl (hb hby at_34) rfl k) ?_
        show Go p e below s _ _ _ T65 (mkF m 35 #[.val (.int x0), .val (.int x1), .val (.int x2), .val (.int x3), .val (.ref o1), .val (.int x2), .val (.ref o0)] [(.int x1), (.ref o0)])
        refine go_st (fun _ k => XS.iload X65.here hx rfl (hb hby at_35) rfl k) ?_
        show Go p e below s _ _ _ T65 (mkF m 37 #[.val (.int x0), .val (.int x1), .val (.int x2), .val (.int x3), .val (.ref o1), .val (.int x2), .val (.ref o0)] [(.int x2), (.int x1), (.ref o0)])
        refine go_callS X65 hx hZ hml hown (hw _ (List.mem_of_getElem? (i := 24) rfl)) (hw _ (List.mem_of_getElem? (i := 25) rfl)) (hw _ (List.mem_of_getElem? (i := 3) rfl)) (hw _ (List.mem_of_getElem? (i := 26) rfl)) e65 (argsL := [(.ref o0), (.int x1), (.int x2)]) (rest := []) (W := 0) (met_hol0 l Z a0 hw o0 x1 x2 h0 n0 Z0 S0) (hb hby at_37) rfl rfl rfl (lenOf pd3 rfl) (by show 2 * 0 + _ ≤ _; exact Nat.le_of_eq rfl) (by decide) (by decide) (by decide) (by decide) (by decide) ?_
        intro T66 v66 L66 X66 q66
        obtain ⟨rfl, M66, e66⟩ := q66
        have N66 := Fr.app N65 M66
        show Go p e below s _ _ _ T66 (mkF m 40 #[.val (.int x0), .val (.int x1), .val (.int x2), .val (.int x3), .val (.ref o1), .val (.int x2), .val (.ref o0)] [(.int (fHold0 x1 x2))])
        refine go_st (fun _ k => XS.aload X66.here hx rfl (hb hby at_40) rfl rfl k) ?_
        show Go p e below s _ _ _ T66 (mkF m 42 #[.val (.int x0), .val (.int x1), .val (.int x2), .val (.int x3), .val (.ref o1), .val (.int x2), .val (.ref o0)] [(.ref o1), (.int (fHold0 x1 x2))])
        refine go_st (fun _ k => XS.iloadN X66.here hx rfl (hb hby at_42) rfl k) ?_
        show Go p e below s _ _ _ T66 (mkF m 43 #[.val (.int x0), .val (.int x1), .val (.int x2), .val (.int x3), .val (.ref o1), .val (.int x2), .val (.ref o0)] [(.int x1), (.ref o1), (.int (fHold0 x1 x2))])
        refine go_st (fun _ k => XS.iload X66.here hx rfl (hb hby at_43) rfl k) ?_
        show Go p e below s _ _ _ T66 (mkF m 45 #[.val (.int x0), .val (.int x1), .val (.int x2), .val (.int x3), .val (.ref o1), .val (.int x2), .val (.ref o0)] [(.int x2), (.int x1), (.ref o1), (.int (fHold0 x1 x2))])
        refine go_callS X66 hx hZ hml hown (hw _ (List.mem_of_getElem? (i := 24) rfl)) (hw _ (List.mem_of_getElem? (i := 25) rfl)) (hw _ (List.mem_of_getElem? (i := 3) rfl)) (hw _ (List.mem_of_getElem? (i := 26) rfl)) e66 (argsL := [(.ref o1), (.int x1), (.int x2)]) (rest := [(.int (fHold0 x1 x2))]) (W := 1) (met_hol1 l Z a0 hw o1 x1 x2 o0 h0 n0 Z0 S0 S1 ne_1_0) (hb hby at_45) rfl rfl rfl (lenOf pd3 rfl) (by show 2 * 0 + _ ≤ _; exact Nat.le_of_eq rfl) (by decide) (by decide) (by decide) (by decide) (by decide) ?_
        intro T67 v67 L67 X67 q67
        obtain ⟨rfl, M67, e67⟩ := q67
        have N67 := Fr.app N66 M67
        show Go p e below s _ _ _ T67 (mkF m 48 #[.val (.int x0), .val (.int x1), .val (.int x2), .val (.int x3), .val (.ref o1), .val (.int x2), .val (.ref o0)] [(.int (fHold1 x1 x2)), (.int (fHold0 x1 x2))])
        by_cases hc68 : (fHold1 x1 x2) = (0 : Int32)
        · rw [if_pos hc68]
          refine go_st (fun _ k => XS.ifNo X67.here hx rfl (hb hby at_48) rfl (XT.i0_ne_f hc68) k) ?_
          show Go p e below s _ _ _ T67 (mkF m 51 #[.val (.int x0), .val (.int x1), .val (.int x2), .val (.int x3), .val (.ref o1), .val (.int x2), .val (.ref o0)] [(.int (fHold0 x1 x2))])
          refine go_st (fun _ k => XT.iconstV X67.here hx rfl (1 : Int32) (hb hby at_51) (by decide) k) ?_
          show Go p e below s _ _ _ T67 (mkF m 52 #[.val (.int x0), .val (.int x1), .val (.int x2), .val (.int x3), .val (.ref o1), .val (.int x2), .val (.ref o0)] [(.int (1 : Int32)), (.int (fHold0 x1 x2))])
          refine go_st (fun _ k => XS.goto X67.here hx rfl (pc0 := 52) (pc' := 56) rfl (hb hby at_52) (by decide) (by decide) k) ?_
          show Go p e below s _ _ _ T67 (mkF m 56 #[.val (.int x0), .val (.int x1), .val (.int x2), .val (.int x3), .val (.ref o1), .val (.int x2), .val (.ref o0)] [(.int (1 : Int32)), (.int (fHold0 x1 x2))])
          by_cases hc69 : (fHold0 x1 x2) = (1 : Int32)
          · rw [if_pos hc69]
            refine go_st (fun _ k => XS.icmpNo X67.here hx rfl (hb hby at_56) rfl (XT.ii_ne_f hc69) k) ?_
            show Go p e below s _ _ _ T67 (mkF m 59 #[.val (.int x0), .val (.int x1), .val (.int x2), .val (.int x3), .val (.ref o1), .val (.int x2), .val (.ref o0)] [])
            refine go_st (fun _ k => XT.iconstV X67.here hx rfl (1 : Int32) (hb hby at_59) (by decide) k) ?_
            show Go p e below s _ _ _ T67 (mkF m 60 #[.val (.int x0), .val (.int x1), .val (.int x2), .val (.int x3), .val (.ref o1), .val (.int x2), .val (.ref o0)] [(.int (1 : Int32))])
            refine go_st (fun _ k => XS.goto X67.here hx rfl (pc0 := 60) (pc' := 64) rfl (hb hby at_60) (by decide) (by decide) k) ?_
            show Go p e below s _ _ _ T67 (mkF m 64 #[.val (.int x0), .val (.int x1), .val (.int x2), .val (.int x3), .val (.ref o1), .val (.int x2), .val (.ref o0)] [(.int (1 : Int32))])
            exact go_retB (w := (1 : Int32)) X67 hx hlk hret (hb hby at_64) (by decide) (by decide) (by decide) ⟨rfl, N67⟩
          · rw [if_neg hc69]
            refine go_st (fun _ k => XS.icmpYes X67.here hx rfl (pc0 := 56) (pc' := 63) rfl (hb hby at_56) rfl (XT.ii_ne_t hc69) (by decide) (by decide) k) ?_
            show Go p e below s _ _ _ T67 (mkF m 63 #[.val (.int x0), .val (.int x1), .val (.int x2), .val (.int x3), .val (.ref o1), .val (.int x2), .val (.ref o0)] [])
            refine go_st (fun _ k => XT.iconstV X67.here hx rfl (0 : Int32) (hb hby at_63) (by decide) k) ?_
            show Go p e below s _ _ _ T67 (mkF m 64 #[.val (.int x0), .val (.int x1), .val (.int x2), .val (.int x3), .val (.ref o1), .val (.int x2), .val (.ref o0)] [(.int (0 : Int32))])
            exact go_retB (w := (0 : Int32)) X67 hx hlk hret (hb hby at_64) (by decide) (by decide) (by decide) ⟨rfl, N67⟩
        · rw [if_neg hc68]
          refine go_st (fun _ k => XS.ifYes X67.here hx rfl (pc0 := 48) (pc' := 55) rfl (hb hby at_48) rfl (XT.i0_ne_t hc68) (by decide) (by decide) k) ?_
          show Go p e below s _ _ _ T67 (mkF m 55 #[.val (.int x0), .val (.int x1), .val (.int x2), .val (.int x3), .val (.ref o1), .val (.int x2), .val (.ref o0)] [(.int (fHold0 x1 x2))])
          refine go_st (fun _ k => XT.iconstV X67.here hx rfl (0 : Int32) (hb hby at_55) (by decide) k) ?_
          show Go p e below s _ _ _ T67 (mkF m 56 #[.val (.int x0), .val (.int x1), .val (.int x2), .val (.int x3), .val (.ref o1), .val (.int x2), .val (.ref o0)] [(.int (0 : Int32)), (.int (fHold0 x1 x2))])
          by_cases hc70 : (fHold0 x1 x2) = (0 : Int32)
          · rw [if_pos hc70]
            refine go_st (fun _ k => XS.icmpNo X67.here hx rfl (hb hby at_56) rfl (XT.ii_ne_f hc70) k) ?_
            show Go p e below s _ _ _ T67 (mkF m 59 #[.val (.int x0), .val (.int x1), .val (.int x2), .val (.int x3), .val (.ref o1), .val (.int x2), .val (.ref o0)] [])
            refine go_st (fun _ k => XT.iconstV X67.here hx rfl (1 : Int32) (hb hby at_59) (by decide) k) ?_
            show Go p e below s _ _ _ T67 (mkF m 60 #[.val (.int x0), .val (.int x1), .val (.int x2), .val (.int x3), .val (.ref o1), .val (.int x2), .val (.ref o0)] [(.int (1 : Int32))])
            refine go_st (fun _ k => XS.goto X67.here hx rfl (pc0 := 60) (pc' := 64) rfl (hb hby at_60) (by decide) (by decide) k) ?_
            show Go p e below s _ _ _ T67 (mkF m 64 #[.val (.int x0), .val (.int x1), .val (.int x2), .val (.int x3), .val (.ref o1), .val (.int x2), .val (.ref o0)] [(.int (1 : Int32))])
            exact go_retB (w := (1 : Int32)) X67 hx hlk hret (hb hby at_64) (by decide) (by decide) (by decide) ⟨rfl, N67⟩
          · rw [if_neg hc70]
            refine go_st (fun _ k => XS.icmpYes X67.here hx rfl (pc0 := 56) (pc' := 63) rfl (hb hby at_56) rfl (XT.ii_ne_t hc70) (by decide) (by decide) k) ?_
            show Go p e below s _ _ _ T67 (mkF m 63 #[.val (.int x0), .val (.int x1), .val (.int x2), .val (.int x3), .val (.ref o1), .val (.int x2), .val (.ref o0)] [])
            refine go_st (fun _ k => XT.iconstV X67.here hx rfl (0 : Int32) (hb hby at_63) (by decide) k) ?_
            show Go p e below s _ _ _ T67 (mkF m 64 #[.val (.int x0), .val (.int x1), .val (.int x2), .val (.int x3), .val (.ref o1), .val (.int x2), .val (.ref o0)] [(.int (0 : Int32))])
            exact go_retB (w := (0 : Int32)) X67 hx hlk hret (hb hby at_64) (by decide) (by decide) (by decide) ⟨rfl, N67⟩
      · rw [if_neg hc64]
        refine go_st (fun _ k => XS.ifNo X63.here hx rfl (hb hby at_15) rfl (XT.i0_eq_f hc64) k) ?_
        show Go p e below s _ _ _ T63 (mkF m 18 #[.val (.int x0), .val (.int x1), .val (.int x2), .val (.int x3), .val (.ref o1), .unset, .unset] [])
        refine go_st (fun _ k => XS.iloadN X63.here hx rfl (hb hby at_18) rfl k) ?_
        show Go p e below s _ _ _ T63 (mkF m 19 #[.val (.int x0), .val (.int x1), .val (.int x2), .val (.int x3), .val (.ref o1), .unset, .unset] [(.int x1)])
        refine go_st (fun _ k => XS.goto X63.here hx rfl (pc0 := 19) (pc' := 23) rfl (hb hby at_19) (by decide) (by decide) k) ?_
        show Go p e below s _ _ _ T63 (mkF m 23 #[.val (.int x0), .val (.int x1), .val (.int x2), .val (.int x3), .val (.ref o1), .unset, .unset] [(.int x1)])
        refine go_st (fun _ k => XS.istore X63.here hx rfl (hb hby at_23) rfl (l' := #[.val (.int x0), .val (.int x1), .val (.int x2), .val (.int x3), .val (.ref o1), .val (.int x1), .unset]) rfl k) ?_
        show Go p e below s _ _ _ T63 (mkF m 25 #[.val (.int x0), .val (.int x1), .val (.int x2), .val (.int x3), .val (.ref o1), .val (.int x1), .unset] [])
        refine go_st (fun _ k => XS.aload X63.here hx rfl (hb hby at_25) rfl rfl k) ?_
        show Go p e below s _ _ _ T63 (mkF m 27 #[.val (.int x0), .val (.int x1), .val (.int x2), .val (.int x3), .val (.ref o1), .val (.int x1), .unset] [(.ref o1)])
        refine go_callV X63 hx hZ hml hown (hw _ (List.mem_of_getElem? (i := 8) rfl)) (hw _ (List.mem_of_getElem? (i := 9) rfl)) (notFace_of_selects (args := #[]) (mvT hZ (hw _ (List.mem_of_getElem? (i := 11) rfl)))) (hw _ (List.mem_of_getElem? (i := 11) rfl)) (hw _ (List.mem_of_getElem? (i := 10) rfl)) (hw _ (List.mem_of_getElem? (i := 12) rfl)) (hw _ (List.mem_of_getElem? (i := 6) rfl)) e63 E1 (argsL := []) (rest := []) (W := 0) (met_neg1 l Z a0 hw o1 o0 h0 n0 Z0 E1 F1 S0) (hb hby at_27) rfl rfl rfl (lenOf pd2 rfl) (by show 2 * 0 + _ ≤ _; exact Nat.le_of_eq rfl) (by decide) (by decide) (by decide) (by decide) (by decide) ?_
        intro T71 v71 L71 X71 q71
        obtain ⟨rfl, M71, e71⟩ := q71
        have N71 := Fr.app N63 M71
        show Go p e below s _ _ _ T71 (mkF m 30 #[.val (.int x0), .val (.int x1), .val (.int x2), .val (.int x3), .val (.ref o1), .val (.int x1), .unset] [(.ref o0)])
        refine go_st (fun _ k => XS.astore X71.here hx rfl (hb hby at_30) rfl rfl (l' := #[.val (.int x0), .val (.int x1), .val (.int x2), .val (.int x3), .val (.ref o1), .val (.int x1), .val (.ref o0)]) rfl k) ?_
        show Go p e below s _ _ _ T71 (mkF m 32 #[.val (.int x0), .val (.int x1), .val (.int x2), .val (.int x3), .val (.ref o1), .val (.int x1), .val (.ref o0)] [])
        refine go_st (fun _ k => XS.aload X71.here hx rfl (hb hby at_32) rfl rfl k) ?_
        show Go p e below s _ _ _ T71 (mkF m 34 #[.val (.int x0), .val (.int x1), .val (.int x2), .val (.int x3), .val (.ref o1), .val (.int x1), .val (.ref o0)] [(.ref o0)])
        refine go_st (fun _ k => XS.iloadN X71.here hx rfl (hb hby at_34) rfl k) ?_
        show Go p e below s _ _ _ T71 (mkF m 35 #[.val (.int x0), .val (.int x1), .val (.int x2), .val (.int x3), .val (.ref o1), .val (.int x1), .val (.ref o0)] [(.int x1), (.ref o0)])
        refine go_st (fun _ k => XS.iload X71.here hx rfl (hb hby at_35) rfl k) ?_
        show Go p e below s _ _ _ T71 (mkF m 37 #[.val (.int x0), .val (.int x1), .val (.int x2), .val (.int x3), .val (.ref o1), .val (.int x1), .val (.ref o0)] [(.int x1), (.int x1), (.ref o0)])
        refine go_callS X71 hx hZ hml hown (hw _ (List.mem_of_getElem? (i := 24) rfl)) (hw _ (List.mem_of_getElem? (i := 25) rfl)) (hw _ (List.mem_of_getElem? (i := 3) rfl)) (hw _ (List.mem_of_getElem? (i := 26) rfl)) e71 (argsL := [(.ref o0), (.int x1), (.int x1)]) (rest := []) (W := 0) (met_hol0 l Z a0 hw o0 x1 x1 h0 n0 Z0 S0) (hb hby at_37) rfl rfl rfl (lenOf pd3 rfl) (by show 2 * 0 + _ ≤ _; exact Nat.le_of_eq rfl) (by decide) (by decide) (by decide) (by decide) (by decide) ?_
        intro T72 v72 L72 X72 q72
        obtain ⟨rfl, M72, e72⟩ := q72
        have N72 := Fr.app N71 M72
        show Go p e below s _ _ _ T72 (mkF m 40 #[.val (.int x0), .val (.int x1), .val (.int x2), .val (.int x3), .val (.ref o1), .val (.int x1), .val (.ref o0)] [(.int (fHold0 x1 x1))])
        refine go_st (fun _ k => XS.aload X72.here hx rfl (hb hby at_40) rfl rfl k) ?_
        show Go p e below s _ _ _ T72 (mkF m 42 #[.val (.int x0), .val (.int x1), .val (.int x2), .val (.int x3), .val (.ref o1), .val (.int x1), .val (.ref o0)] [(.ref o1), (.int (fHold0 x1 x1))])
        refine go_st (fun _ k => XS.iloadN X72.here hx rfl (hb hby at_42) rfl k) ?_
        show Go p e below s _ _ _ T72 (mkF m 43 #[.val (.int x0), .val (.int x1), .val (.int x2), .val (.int x3), .val (.ref o1), .val (.int x1), .val (.ref o0)] [(.int x1), (.ref o1), (.int (fHold0 x1 x1))])
        refine go_st (fun _ k => XS.iload X72.here hx rfl (hb hby at_43) rfl k) ?_
        show Go p e below s _ _ _ T72 (mkF m 45 #[.val (.int x0), .val (.int x1), .val (.int x2), .val (.int x3), .val (.ref o1), .val (.int x1), .val (.ref o0)] [(.int x1), (.int x1), (.ref o1), (.int (fHold0 x1 x1))])
        refine go_callS X72 hx hZ hml hown (hw _ (List.mem_of_getElem? (i := 24) rfl)) (hw _ (List.mem_of_getElem? (i := 25) rfl)) (hw _ (List.mem_of_getElem? (i := 3) rfl)) (hw _ (List.mem_of_getElem? (i := 26) rfl)) e72 (argsL := [(.ref o1), (.int x1), (.int x1)]) (rest := [(.int (fHold0 x1 x1))]) (W := 1) (met_hol1 l Z a0 hw o1 x1 x1 o0 h0 n0 Z0 S0 S1 ne_1_0) (hb hby at_45) rfl rfl rfl (lenOf pd3 rfl) (by show 2 * 0 + _ ≤ _; exact Nat.le_of_eq rfl) (by decide) (by decide) (by decide) (by decide) (by decide) ?_
        intro T73 v73 L73 X73 q73
        obtain ⟨rfl, M73, e73⟩ := q73
        have N73 := Fr.app N72 M73
        show Go p e below s _ _ _ T73 (mkF m 48 #[.val (.int x0), .val (.int x1), .val (.int x2), .val (.int x3), .val (.ref o1), .val (.int x1), .val (.ref o0)] [(.int (fHold1 x1 x1)), (.int (fHold0 x1 x1))])
        by_cases hc74 : (fHold1 x1 x1) = (0 : Int32)
        · rw [if_pos hc74]
          refine go_st (fun _ k => XS.ifNo X73.here hx rfl (hb hby at_48) rfl (XT.i0_ne_f hc74) k) ?_
          show Go p e below s _ _ _ T73 (mkF m 51 #[.val (.int x0), .val (.int x1), .val (.int x2), .val (.int x3), .val (.ref o1), .val (.int x1), .val (.ref o0)] [(.int (fHold0 x1 x1))])
          refine go_st (fun _ k => XT.iconstV X73.here hx rfl (1 : Int32) (hb hby at_51) (by decide) k) ?_
          show Go p e below s _ _ _ T73 (mkF m 52 #[.val (.int x0), .val (.int x1), .val (.int x2), .val (.int x3), .val (.ref o1), .val (.int x1), .val (.ref o0)] [(.int (1 : Int32)), (.int (fHold0 x1 x1))])
          refine go_st (fun _ k => XS.goto X73.here hx rfl (pc0 := 52) (pc' := 56) rfl (hb hby at_52) (by decide) (by decide) k) ?_
          show Go p e below s _ _ _ T73 (mkF m 56 #[.val (.int x0), .val (.int x1), .val (.int x2), .val (.int x3), .val (.ref o1), .val (.int x1), .val (.ref o0)] [(.int (1 : Int32)), (.int (fHold0 x1 x1))])
          by_cases hc75 : (fHold0 x1 x1) = (1 : Int32)
          · rw [if_pos hc75]
            refine go_st (fun _ k => XS.icmpNo X73.here hx rfl (hb hby at_56) rfl (XT.ii_ne_f hc75) k) ?_
            show Go p e below s _ _ _ T73 (mkF m 59 #[.val (.int x0), .val (.int x1), .val (.int x2), .val (.int x3), .val (.ref o1), .val (.int x1), .val (.ref o0)] [])
            refine go_st (fun _ k => XT.iconstV X73.here hx rfl (1 : Int32) (hb hby at_59) (by decide) k) ?_
            show Go p e below s _ _ _ T73 (mkF m 60 #[.val (.int x0), .val (.int x1), .val (.int x2), .val (.int x3), .val (.ref o1), .val (.int x1), .val (.ref o0)] [(.int (1 : Int32))])
            refine go_st (fun _ k => XS.goto X73.here hx rfl (pc0 := 60) (pc' := 64) rfl (hb hby at_60) (by decide) (by decide) k) ?_
            show Go p e below s _ _ _ T73 (mkF m 64 #[.val (.int x0), .val (.int x1), .val (.int x2), .val (.int x3), .val (.ref o1), .val (.int x1), .val (.ref o0)] [(.int (1 : Int32))])
            exact go_retB (w := (1 : Int32)) X73 hx hlk hret (hb hby at_64) (by decide) (by decide) (by decide) ⟨rfl, N73⟩
          · rw [if_neg hc75]
            refine go_st (fun _ k => XS.icmpYes X73.here hx rfl (pc0 := 56) (pc' := 63) rfl (hb hby at_56) rfl (XT.ii_ne_t hc75) (by decide) (by decide) k) ?_
            show Go p e below s _ _ _ T73 (mkF m 63 #[.val (.int x0), .val (.int x1), .val (.int x2), .val (.int x3), .val (.ref o1), .val (.int x1), .val (.ref o0)] [])
            refine go_st (fun _ k => XT.iconstV X73.here hx rfl (0 : Int32) (hb hby at_63) (by decide) k) ?_
            show Go p e below s _ _ _ T73 (mkF m 64 #[.val (.int x0), .val (.int x1), .val (.int x2), .val (.int x3), .val (.ref o1), .val (.int x1), .val (.ref o0)] [(.int (0 : Int32))])
            exact go_retB (w := (0 : Int32)) X73 hx hlk hret (hb hby at_64) (by decide) (by decide) (by decide) ⟨rfl, N73⟩
        · rw [if_neg hc74]
          refine go_st (fun _ k => XS.ifYes X73.here hx rfl (pc0 := 48) (pc' := 55) rfl (hb hby at_48) rfl (XT.i0_ne_t hc74) (by decide) (by decide) k) ?_
          show Go p e below s _ _ _ T73 (mkF m 55 #[.val (.int x0), .val (.int x1), .val (.int x2), .val (.int x3), .val (.ref o1), .val (.int x1), .val (.ref o0)] [(.int (fHold0 x1 x1))])
          refine go_st (fun _ k => XT.iconstV X73.here hx rfl (0 : Int32) (hb hby at_55) (by decide) k) ?_
          show Go p e below s _ _ _ T73 (mkF m 56 #[.val (.int x0), .val (.int x1), .val (.int x2), .val (.int x3), .val (.ref o1), .val (.int x1), .val (.ref o0)] [(.int (0 : Int32)), (.int (fHold0 x1 x1))])
          by_cases hc76 : (fHold0 x1 x1) = (0 : Int32)
          · rw [if_pos hc76]
            refine go_st (fun _ k => XS.icmpNo X73.here hx rfl (hb hby at_56) rfl (XT.ii_ne_f hc76) k) ?_
            show Go p e below s _ _ _ T73 (mkF m 59 #[.val (.int x0), .val (.int x1), .val (.int x2), .val (.int x3), .val (.ref o1), .val (.int x1), .val (.ref o0)] [])
            refine go_st (fun _ k => XT.iconstV X73.here hx rfl (1 : Int32) (hb hby at_59) (by decide) k) ?_
            show Go p e below s _ _ _ T73 (mkF m 60 #[.val (.int x0), .val (.int x1), .val (.int x2), .val (.int x3), .val (.ref o1), .val (.int x1), .val (.ref o0)] [(.int (1 : Int32))])
            refine go_st (fun _ k => XS.goto X73.here hx rfl (pc0 := 60) (pc' := 64) rfl (hb hby at_60) (by decide) (by decide) k) ?_
            show Go p e below s _ _ _ T73 (mkF m 64 #[.val (.int x0), .val (.int x1), .val (.int x2), .val (.int x3), .val (.ref o1), .val (.int x1), .val (.ref o0)] [(.int (1 : Int32))])
            exact go_retB (w := (1 : Int32)) X73 hx hlk hret (hb hby at_64) (by decide) (by decide) (by decide) ⟨rfl, N73⟩
          · rw [if_neg hc76]
            refine go_st (fun _ k => XS.icmpYes X73.here hx rfl (pc0 := 56) (pc' := 63) rfl (hb hby at_56) rfl (XT.ii_ne_t hc76) (by decide) (by decide) k) ?_
            show Go p e below s _ _ _ T73 (mkF m 63 #[.val (.int x0), .val (.int x1), .val (.int x2), .val (.int x3), .val (.ref o1), .val (.int x1), .val (.ref o0)] [])
            refine go_st (fun _ k => XT.iconstV X73.here hx rfl (0 : Int32) (hb hby at_63) (by decide) k) ?_
            show Go p e below s _ _ _ T73 (mkF m 64 #[.val (.int x0), .val (.int x1), .val (.int x2), .val (.int x3), .val (.ref o1), .val (.int x1), .val (.ref o0)] [(.int (0 : Int32))])
            exact go_retB (w := (0 : Int32)) X73 hx hlk hret (hb hby at_64) (by decide) (by decide) (by decide) ⟨rfl, N73⟩
    · rw [if_neg hk62]
      by_cases hk77 : ((x0 &&& (2147483647 : Int32)) % (6 : Int32)) = (2 : Int32)
      · rw [if_pos hk77]
        rw [hk77]
        show Go p e below s _ _ _ s₁ (mkF m 7 #[.val (.int x0), .val (.int x1), .val (.int x2), .val (.int x3), .unset, .unset, .unset] [(.int (2 : Int32))])
        refine go_callS X0 hx hZ hml hown (hw _ (List.mem_of_getElem? (i := 1) rfl)) (hw _ (List.mem_of_getElem? (i := 2) rfl)) (hw _ (List.mem_of_getElem? (i := 3) rfl)) (hw _ (List.mem_of_getElem? (i := 4) rfl)) e0 (argsL := [(.int (2 : Int32))]) (rest := []) (W := 0) (met_pick2 l Z a0 hw o2 h0 n0 Z0 S2) (hb hby at_7) rfl rfl rfl (lenOf pd1 rfl) (by show 2 * 0 + _ ≤ _; exact Nat.le_of_eq rfl) (by decide) (by decide) (by decide) (by decide) (by decide) ?_
        intro T78 v78 L78 X78 q78
        obtain ⟨rfl, M78, e78⟩ := q78
        have N78 := Fr.app N0 M78
        show Go p e below s _ _ _ T78 (mkF m 10 #[.val (.int x0), .val (.int x1), .val (.int x2), .val (.int x3), .unset, .unset, .unset] [(.ref o2)])
        refine go_st (fun _ k => XS.astore X78.here hx rfl (hb hby at_10) rfl rfl (l' := #[.val (.int x0), .val (.int x1), .val (.int x2), .val (.int x3), .val (.ref o2), .unset, .unset]) rfl k) ?_
        show Go p e below s _ _ _ T78 (mkF m 12 #[.val (.int x0), .val (.int x1), .val (.int x2), .val (.int x3), .val (.ref o2), .unset, .unset] [])
        refine go_st (fun _ k => XS.iloadN X78.here hx rfl (hb hby at_12) rfl k) ?_
        show Go p e below s _ _ _ T78 (mkF m 13 #[.val (.int x0), .val (.int x1), .val (.int x2), .val (.int x3), .val (.ref o2), .unset, .unset] [(.int x3)])
        refine go_st (fun _ k => XT.iconstV X78.here hx rfl (1 : Int32) (hb hby at_13) (by decide) k) ?_
        show Go p e below s _ _ _ T78 (mkF m 14 #[.val (.int x0), .val (.int x1), .val (.int x2), .val (.int x3), .val (.ref o2), .unset, .unset] [(.int (1 : Int32)), (.int x3)])
        refine go_st (fun _ k => XS.iand X78.here hx rfl (hb hby at_14) rfl k) ?_
        show Go p e below s _ _ _ T78 (mkF m 15 #[.val (.int x0), .val (.int x1), .val (.int x2), .val (.int x3), .val (.ref o2), .unset, .unset] [(.int (x3 &&& (1 : Int32)))])
        by_cases hc79 : (x3 &&& (1 : Int32)) = (0 : Int32)
        · rw [if_pos hc79]
          refine go_st (fun _ k => XS.ifYes X78.here hx rfl (pc0 := 15) (pc' := 22) rfl (hb hby at_15) rfl (XT.i0_eq_t hc79) (by decide) (by decide) k) ?_
          show Go p e below s _ _ _ T78 (mkF m 22 #[.val (.int x0), .val (.int x1), .val (.int x2), .val (.int x3), .val (.ref o2), .unset, .unset] [])
          refine go_st (fun _ k => XS.iloadN X78.here hx rfl (hb hby at_22) rfl k) ?_
          show Go p e below s _ _ _ T78 (mkF m 23 #[.val (.int x0), .val (.int x1), .val (.int x2), .val (.int x3), .val (.ref o2), .unset, .unset] [(.int x2)])
          refine go_st (fun _ k => XS.istore X78.here hx rfl (hb hby at_23) rfl (l' := #[.val (.int x0), .val (.int x1), .val (.int x2), .val (.int x3), .val (.ref o2), .val (.int x2), .unset]) rfl k) ?_
          show Go p e below s _ _ _ T78 (mkF m 25 #[.val (.int x0), .val (.int x1), .val (.int x2), .val (.int x3), .val (.ref o2), .val (.int x2), .unset] [])
          refine go_st (fun _ k => XS.aload X78.here hx rfl (hb hby at_25) rfl rfl k) ?_
          show Go p e below s _ _ _ T78 (mkF m 27 #[.val (.int x0), .val (.int x1), .val (.int x2), .val (.int x3), .val (.ref o2), .val (.int x2), .unset] [(.ref o2)])
          refine go_callV X78 hx hZ hml hown (hw _ (List.mem_of_getElem? (i := 8) rfl)) (hw _ (List.mem_of_getElem? (i := 9) rfl)) (notFace_of_selects (args := #[]) (mvT hZ (hw _ (List.mem_of_getElem? (i := 11) rfl)))) (hw _ (List.mem_of_getElem? (i := 11) rfl)) (hw _ (List.mem_of_getElem? (i := 10) rfl)) (hw _ (List.mem_of_getElem? (i := 12) rfl)) (hw _ (List.mem_of_getElem? (i := 6) rfl)) e78 E2 (argsL := []) (rest := []) (W := 0) (met_neg2 l Z a0 hw o2 o5 h0 n0 Z0 E2 F2 S5) (hb hby at_27) rfl rfl rfl (lenOf pd2 rfl) (by show 2 * 0 + _ ≤ _; exact Nat.le_of_eq rfl) (by decide) (by decide) (by decide) (by decide) (by decide) ?_
          intro T80 v80 L80 X80 q80
          obtain ⟨rfl, M80, e80⟩ := q80
          have N80 := Fr.app N78 M80
          show Go p e below s _ _ _ T80 (mkF m 30 #[.val (.int x0), .val (.int x1), .val (.int x2), .val (.int x3), .val (.ref o2), .val (.int x2), .unset] [(.ref o5)])
          refine go_st (fun _ k => XS.astore X80.here hx rfl (hb hby at_30) rfl rfl (l' := #[.val (.int x0), .val (.int x1), .val (.int x2), .val (.int x3), .val (.ref o2), .val (.int x2), .val (.ref o5)]) rfl k) ?_
          show Go p e below s _ _ _ T80 (mkF m 32 #[.val (.int x0), .val (.int x1), .val (.int x2), .val (.int x3), .val (.ref o2), .val (.int x2), .val (.ref o5)] [])
          refine go_st (fun _ k => XS.aload X80.here hx rfl (hb hby at_32) rfl rfl k) ?_
          show Go p e below s _ _ _ T80 (mkF m 34 #[.val (.int x0), .val (.int x1), .val (.int x2), .val (.int x3), .val (.ref o2), .val (.int x2), .val (.ref o5)] [(.ref o5)])
          refine go_st (fun _ k => XS.iloadN X80.here hx rfl (hb hby at_34) rfl k) ?_
          show Go p e below s _ _ _ T80 (mkF m 35 #[.val (.int x0), .val (.int x1), .val (.int x2), .val (.int x3), .val (.ref o2), .val (.int x2), .val (.ref o5)] [(.int x1), (.ref o5)])
          refine go_st (fun _ k => XS.iload X80.here hx rfl (hb hby at_35) rfl k) ?_
          show Go p e below s _ _ _ T80 (mkF m 37 #[.val (.int x0), .val (.int x1), .val (.int x2), .val (.int x3), .val (.ref o2), .val (.int x2), .val (.ref o5)] [(.int x2), (.int x1), (.ref o5)])
          refine go_callS X80 hx hZ hml hown (hw _ (List.mem_of_getElem? (i := 24) rfl)) (hw _ (List.mem_of_getElem? (i := 25) rfl)) (hw _ (List.mem_of_getElem? (i := 3) rfl)) (hw _ (List.mem_of_getElem? (i := 26) rfl)) e80 (argsL := [(.ref o5), (.int x1), (.int x2)]) (rest := []) (W := 0) (met_hol5 l Z a0 hw o5 x1 x2 o0 o1 o2 o3 o4 h0 n0 Z0 S0 S1 S2 S3 S4 S5 ne_5_0 ne_5_1 ne_5_2 ne_5_3 ne_5_4) (hb hby at_37) rfl rfl rfl (lenOf pd3 rfl) (by show 2 * 0 + _ ≤ _; exact Nat.le_of_eq rfl) (by decide) (by decide) (by decide) (by decide) (by decide) ?_
          intro T81 v81 L81 X81 q81
          obtain ⟨rfl, M81, e81⟩ := q81
          have N81 := Fr.app N80 M81
          show Go p e below s _ _ _ T81 (mkF m 40 #[.val (.int x0), .val (.int x1), .val (.int x2), .val (.int x3), .val (.ref o2), .val (.int x2), .val (.ref o5)] [(.int (fHold5 x1 x2))])
          refine go_st (fun _ k => XS.aload X81.here hx rfl (hb hby at_40) rfl rfl k) ?_
          show Go p e below s _ _ _ T81 (mkF m 42 #[.val (.int x0), .val (.int x1), .val (.int x2), .val (.int x3), .val (.ref o2), .val (.int x2), .val (.ref o5)] [(.ref o2), (.int (fHold5 x1 x2))])
          refine go_st (fun _ k => XS.iloadN X81.here hx rfl (hb hby at_42) rfl k) ?_
          show Go p e below s _ _ _ T81 (mkF m 43 #[.val (.int x0), .val (.int x1), .val (.int x2), .val (.int x3), .val (.ref o2), .val (.int x2), .val (.ref o5)] [(.int x1), (.ref o2), (.int (fHold5 x1 x2))])
          refine go_st (fun _ k => XS.iload X81.here hx rfl (hb hby at_43) rfl k) ?_
          show Go p e below s _ _ _ T81 (mkF m 45 #[.val (.int x0), .val (.int x1), .val (.int x2), .val (.int x3), .val (.ref o2), .val (.int x2), .val (.ref o5)] [(.int x2), (.int x1), (.ref o2), (.int (fHold5 x1 x2))])
          refine go_callS X81 hx hZ hml hown (hw _ (List.mem_of_getElem? (i := 24) rfl)) (hw _ (List.mem_of_getElem? (i := 25) rfl)) (hw _ (List.mem_of_getElem? (i := 3) rfl)) (hw _ (List.mem_of_getElem? (i := 26) rfl)) e81 (argsL := [(.ref o2), (.int x1), (.int x2)]) (rest := [(.int (fHold5 x1 x2))]) (W := 1) (met_hol2 l Z a0 hw o2 x1 x2 o0 o1 h0 n0 Z0 S0 S1 S2 ne_2_0 ne_2_1) (hb hby at_45) rfl rfl rfl (lenOf pd3 rfl) (by show 2 * 0 + _ ≤ _; exact Nat.le_of_eq rfl) (by decide) (by decide) (by decide) (by decide) (by decide) ?_
          intro T82 v82 L82 X82 q82
          obtain ⟨rfl, M82, e82⟩ := q82
          have N82 := Fr.app N81 M82
          show Go p e below s _ _ _ T82 (mkF m 48 #[.val (.int x0), .val (.int x1), .val (.int x2), .val (.int x3), .val (.ref o2), .val (.int x2), .val (.ref o5)] [(.int (fHold2 x1 x2)), (.int (fHold5 x1 x2))])
          by_cases hc83 : (fHold2 x1 x2) = (0 : Int32)
          · rw [if_pos hc83]
            refine go_st (fun _ k => XS.ifNo X82.here hx rfl (hb hby at_48) rfl (XT.i0_ne_f hc83) k) ?_
            show Go p e below s _ _ _ T82 (mkF m 51 #[.val (.int x0), .val (.int x1), .val (.int x2), .val (.int x3), .val (.ref o2), .val (.int x2), .val (.ref o5)] [(.int (fHold5 x1 x2))])
            refine go_st (fun _ k => XT.iconstV X82.here hx rfl (1 : Int32) (hb hby at_51) (by decide) k) ?_
            show Go p e below s _ _ _ T82 (mkF m 52 #[.val (.int x0), .val (.int x1), .val (.int x2), .val (.int x3), .val (.ref o2), .val (.int x2), .val (.ref o5)] [(.int (1 : Int32)), (.int (fHold5 x1 x2))])
            refine go_st (fun _ k => XS.goto X82.here hx rfl (pc0 := 52) (pc' := 56) rfl (hb hby at_52) (by decide) (by decide) k) ?_
            show Go p e below s _ _ _ T82 (mkF m 56 #[.val (.int x0), .val (.int x1), .val (.int x2), .val (.int x3), .val (.ref o2), .val (.int x2), .val (.ref o5)] [(.int (1 : Int32)), (.int (fHold5 x1 x2))])
            by_cases hc84 : (fHold5 x1 x2) = (1 : Int32)
            · rw [if_pos hc84]
              refine go_st (fun _ k => XS.icmpNo X82.here hx rfl (hb hby at_56) rfl (XT.ii_ne_f hc84) k) ?_
              show Go p e below s _ _ _ T82 (mkF m 59 #[.val (.int x0), .val (.int x1), .val (.int x2), .val (.int x3), .val (.ref o2), .val (.int x2), .val (.ref o5)] [])
              refine go_st (fun _ k => XT.iconstV X82.here hx rfl (1 : Int32) (hb hby at_59) (by decide) k) ?_
              show Go p e below s _ _ _ T82 (mkF m 60 #[.val (.int x0), .val (.int x1), .val (.int x2), .val (.int x3), .val (.ref o2), .val (.int x2), .val (.ref o5)] [(.int (1 : Int32))])
              refine go_st (fun _ k => XS.goto X82.here hx rfl (pc0 := 60) (pc' := 64) rfl (hb hby at_60) (by decide) (by decide) k) ?_
              show Go p e below s _ _ _ T82 (mkF m 64 #[.val (.int x0), .val (.int x1), .val (.int x2), .val (.int x3), .val (.ref o2), .val (.int x2), .val (.ref o5)] [(.int (1 : Int32))])
              exact go_retB (w := (1 : Int32)) X82 hx hlk hret (hb hby at_64) (by decide) (by decide) (by decide) ⟨rfl, N82⟩
            · rw [if_neg hc84]
              refine go_st (fun _ k => XS.icmpYes X82.here hx rfl (pc0 := 56) (pc' := 63) rfl (hb hby at_56) rfl (XT.ii_ne_t hc84) (by decide) (by decide) k) ?_
              show Go p e below s _ _ _ T82 (mkF m 63 #[.val (.int x0), .val (.int x1), .val (.int x2), .val (.int x3), .val (.ref o2), .val (.int x2), .val (.ref o5)] [])
              refine go_st (fun _ k => XT.iconstV X82.here hx rfl (0 : Int32) (hb hby at_63) (by decide) k) ?_
              show Go p e below s _ _ _ T82 (mkF m 64 #[.val (.int x0), .val (.int x1), .val (.int x2), .val (.int x3), .val (.ref o2), .val (.int x2), .val (.ref o5)] [(.int (0 : Int32))])
              exact go_retB (w := (0 : Int32)) X82 hx hlk hret (hb hby at_64) (by decide) (by decide) (by decide) ⟨rfl, N82⟩
          · rw [if_neg hc83]
            refine go_st (fun _ k => XS.ifYes X82.here hx rfl (pc0 := 48) (pc' := 55) rfl (hb hby at_48) rfl (XT.i0_ne_t hc83) (by decide) (by decide) k) ?_
            show Go p e below s _ _ _ T82 (mkF m 55 #[.val (.int x0), .val (.int x1), .val (.int x2), .val (.int x3), .val (.ref o2), .val (.int x2), .val (.ref o5)] [(.int (fHold5 x1 x2))])
            refine go_st (fun _ k => XT.iconstV X82.here hx rfl (0 : Int32) (hb hby at_55) (by decide) k) ?_
            show Go p e below s _ _ _ T82 (mkF m 56 #[.val (.int x0), .val (.int x1), .val (.int x2), .val (.int x3), .val (.ref o2), .val (.int x2), .val (.ref o5)] [(.int (0 : Int32)), (.int (fHold5 x1 x2))])
            by_cases hc85 : (fHold5 x1 x2) = (0 : Int32)
            · rw [if_pos hc85]
              refine go_st (fun _ k => XS.icmpNo X82.here hx rfl (hb hby at_56) rfl (XT.ii_ne_f hc85) k) ?_
              show Go p e below s _ _ _ T82 (mkF m 59 #[.val (.int x0), .val (.int x1), .val (.int x2), .val (.int x3), .val (.ref o2), .val (.int x2), .val (.ref o5)] [])
              refine go_st (fun _ k => XT.iconstV X82.here hx rfl (1 : Int32) (hb hby at_59) (by decide) k) ?_
              show Go p e below s _ _ _ T82 (mkF m 60 #[.val (.int x0), .val (.int x1), .val (.int x2), .val (.int x3), .val (.ref o2), .val (.int x2), .val (.ref o5)] [(.int (1 : Int32))])
              refine go_st (fun _ k => XS.goto X82.here hx rfl (pc0 := 60) (pc' := 64) rfl (hb hby at_60) (by decide) (by decide) k) ?_
              show Go p e below s _ _ _ T82 (mkF m 64 #[.val (.int x0), .val (.int x1), .val (.int x2), .val (.int x3), .val (.ref o2), .val (.int x2), .val (.ref o5)] [(.int (1 : Int32))])
              exact go_retB (w := (1 : Int32)) X82 hx hlk hret (hb hby at_64) (by decide) (by decide) (by decide) ⟨rfl, N82⟩
            · rw [if_neg hc85]
              refine go_st (fun _ k => XS.icmpYes X82.here hx rfl (pc0 := 56) (pc' := 63) rfl (hb hby at_56) rfl (XT.ii_ne_t hc85) (by decide) (by decide) k) ?_
              show Go p e below s _ _ _ T82 (mkF m 63 #[.val (.int x0), .val (.int x1), .val (.int x2), .val (.int x3), .val (.ref o2), .val (.int x2), .val (.ref o5)] [])
              refine go_st (fun _ k => XT.iconstV X82.here hx rfl (0 : Int32) (hb hby at_63) (by decide) k) ?_
              show Go p e below s _ _ _ T82 (mkF m 64 #[.val (.int x0), .val (.int x1), .val (.int x2), .val (.int x3), .val (.ref o2), .val (.int x2), .val (.ref o5)] [(.int (0 : Int32))])
              exact go_retB (w := (0 : Int32)) X82 hx hlk hret (hb hby at_64) (by decide) (by decide) (by decide) ⟨rfl, N82⟩
        · rw [if_neg hc79]
          refine go_st (fun _ k => XS.ifNo X78.here hx rfl (hb hby at_15) rfl (XT.i0_eq_f hc79) k) ?_
          show Go p e below s _ _ _ T78 (mkF m 18 #[.val (.int x0), .val (.int x1), .val (.int x2), .val (.int x3), .val (.ref o2), .unset, .unset] [])
          refine go_st (fun _ k => XS.iloadN X78.here hx rfl (hb hby at_18) rfl k) ?_
          show Go p e below s _ _ _ T78 (mkF m 19 #[.val (.int x0), .val (.int x1), .val (.int x2), .val (.int x3), .val (.ref o2), .unset, .unset] [(.int x1)])
          refine go_st (fun _ k => XS.goto X78.here hx rfl (pc0 := 19) (pc' := 23) rfl (hb hby at_19) (by decide) (by decide) k) ?_
          show Go p e below s _ _ _ T78 (mkF m 23 #[.val (.int x0), .val (.int x1), .val (.int x2), .val (.int x3), .val (.ref o2), .unset, .unset] [(.int x1)])
          refine go_st (fun _ k => XS.istore X78.here hx rfl (hb hby at_23) rfl (l' := #[.val (.int x0), .val (.int x1), .val (.int x2), .val (.int x3), .val (.ref o2), .val (.int x1), .unset]) rfl k) ?_
          show Go p e below s _ _ _ T78 (mkF m 25 #[.val (.int x0), .val (.int x1), .val (.int x2), .val (.int x3), .val (.ref o2), .val (.int x1), .unset] [])
          refine go_st (fun _ k => XS.aload X78.here hx rfl (hb hby at_25) rfl rfl k) ?_
          show Go p e below s _ _ _ T78 (mkF m 27 #[.val (.int x0), .val (.int x1), .val (.int x2), .val (.int x3), .val (.ref o2), .val (.int x1), .unset] [(.ref o2)])
          refine go_callV X78 hx hZ hml hown (hw _ (List.mem_of_getElem? (i := 8) rfl)) (hw _ (List.mem_of_getElem? (i := 9) rfl)) (notFace_of_selects (args := #[]) (mvT hZ (hw _ (List.mem_of_getElem? (i := 11) rfl)))) (hw _ (List.mem_of_getElem? (i := 11) rfl)) (hw _ (List.mem_of_getElem? (i := 10) rfl)) (hw _ (List.mem_of_getElem? (i := 12) rfl)) (hw _ (List.mem_of_getElem? (i := 6) rfl)) e78 E2 (argsL := []) (rest := []) (W := 0) (met_neg2 l Z a0 hw o2 o5 h0 n0 Z0 E2 F2 S5) (hb hby at_27) rfl rfl rfl (lenOf pd2 rfl) (by show 2 * 0 + _ ≤ _; exact Nat.le_of_eq rfl) (by decide) (by decide) (by decide) (by decide) (by decide) ?_
          intro T86 v86 L86 X86 q86
          obtain ⟨rfl, M86, e86⟩ := q86
          have N86 := Fr.app N78 M86
          show Go p e below s _ _ _ T86 (mkF m 30 #[.val (.int x0), .val (.int x1), .val (.int x2), .val (.int x3), .val (.ref o2), .val (.int x1), .unset] [(.ref o5)])
          refine go_st (fun _ k => XS.astore X86.here hx rfl (hb hby at_30) rfl rfl (l' := #[.val (.int x0), .val (.int x1), .val (.int x2), .val (.int x3), .val (.ref o2), .val (.int x1), .val (.ref o5)]) rfl k) ?_
          show Go p e below s _ _ _ T86 (mkF m 32 #[.val (.int x0), .val (.int x1), .val (.int x2), .val (.int x3), .val (.ref o2), .val (.int x1), .val (.ref o5)] [])
          refine go_st (fun _ k => XS.aload X86.here hx rfl (hb hby at_32) rfl rfl k) ?_
          show Go p e below s _ _ _ T86 (mkF m 34 #[.val (.int x0), .val (.int x1), .val (.int x2), .val (.int x3), .val (.ref o2), .val (.int x1), .val (.ref o5)] [(.ref o5)])
          refine go_st (fun _ k => XS.iloadN X86.here hx rfl (hb hby at_34) rfl k) ?_
          show Go p e below s _ _ _ T86 (mkF m 35 #[.val (.int x0), .val (.int x1), .val (.int x2), .val (.int x3), .val (.ref o2), .val (.int x1), .val (.ref o5)] [(.int x1), (.ref o5)])
          refine go_st (fun _ k => XS.iload X86.here hx rfl (hb hby at_35) rfl k) ?_
          show Go p e below s _ _ _ T86 (mkF m 37 #[.val (.int x0), .val (.int x1), .val (.int x2), .val (.int x3), .val (.ref o2), .val (.int x1), .val (.ref o5)] [(.int x1), (.int x1), (.ref o5)])
          refine go_callS X86 hx hZ hml hown (hw _ (List.mem_of_getElem? (i := 24) rfl)) (hw _ (List.mem_of_getElem? (i := 25) rfl)) (hw _ (List.mem_of_getElem? (i := 3) rfl)) (hw _ (List.mem_of_getElem? (i := 26) rfl)) e86 (argsL := [(.ref o5), (.int x1), (.int x1)]) (rest := []) (W := 0) (met_hol5 l Z a0 hw o5 x1 x1 o0 o1 o2 o3 o4 h0 n0 Z0 S0 S1 S2 S3 S4 S5 ne_5_0 ne_5_1 ne_5_2 ne_5_3 ne_5_4) (hb hby at_37) rfl rfl rfl (lenOf pd3 rfl) (by show 2 * 0 + _ ≤ _; exact Nat.le_of_eq rfl) (by decide) (by decide) (by decide) (by decide) (by decide) ?_
          intro T87 v87 L87 X87 q87
          obtain ⟨rfl, M87, e87⟩ := q87
          have N87 := Fr.app N86 M87
          show Go p e below s _ _ _ T87 (mkF m 40 #[.val (.int x0), .val (.int x1), .val (.int x2), .val (.int x3), .val (.ref o2), .val (.int x1), .val (.ref o5)] [(.int (fHold5 x1 x1))])
          refine go_st (fun _ k => XS.aload X87.here hx rfl (hb hby at_40) rfl rfl k) ?_
          show Go p e below s _ _ _ T87 (mkF m 42 #[.val (.int x0), .val (.int x1), .val (.int x2), .val (.int x3), .val (.ref o2), .val (.int x1), .val (.ref o5)] [(.ref o2), (.int (fHold5 x1 x1))])
          refine go_st (fun _ k => XS.iloadN X87.here hx rfl (hb hby at_42) rfl k) ?_
          show Go p e below s _ _ _ T87 (mkF m 43 #[.val (.int x0), .val (.int x1), .val (.int x2), .val (.int x3), .val (.ref o2), .val (.int x1), .val (.ref o5)] [(.int x1), (.ref o2), (.int (fHold5 x1 x1))])
          refine go_st (fun _ k => XS.iload X87.here hx rfl (hb hby at_43) rfl k) ?_
          show Go p e below s _ _ _ T87 (mkF m 45 #[.val (.int x0), .val (.int x1), .val (.int x2), .val (.int x3), .val (.ref o2), .val (.int x1), .val (.ref o5)] [(.int x1), (.int x1), (.ref o2), (.int (fHold5 x1 x1))])
          refine go_callS X87 hx hZ hml hown (hw _ (List.mem_of_getElem? (i := 24) rfl)) (hw _ (List.mem_of_getElem? (i := 25) rfl)) (hw _ (List.mem_of_getElem? (i := 3) rfl)) (hw _ (List.mem_of_getElem? (i := 26) rfl)) e87 (argsL := [(.ref o2), (.int x1), (.int x1)]) (rest := [(.int (fHold5 x1 x1))]) (W := 1) (met_hol2 l Z a0 hw o2 x1 x1 o0 o1 h0 n0 Z0 S0 S1 S2 ne_2_0 ne_2_1) (hb hby at_45) rfl rfl rfl (lenOf pd3 rfl) (by show 2 * 0 + _ ≤ _; exact Nat.le_of_eq rfl) (by decide) (by decide) (by decide) (by decide) (by decide) ?_
          intro T88 v88 L88 X88 q88
          obtain ⟨rfl, M88, e88⟩ := q88
          have N88 := Fr.app N87 M88
          show Go p e below s _ _ _ T88 (mkF m 48 #[.val (.int x0), .val (.int x1), .val (.int x2), .val (.int x3), .val (.ref o2), .val (.int x1), .val (.ref o5)] [(.int (fHold2 x1 x1)), (.int (fHold5 x1 x1))])
          by_cases hc89 : (fHold2 x1 x1) = (0 : Int32)
          · rw [if_pos hc89]
            refine go_st (fun _ k => XS.ifNo X88.here hx rfl (hb hby at_48) rfl (XT.i0_ne_f hc89) k) ?_
            show Go p e below s _ _ _ T88 (mkF m 51 #[.val (.int x0), .val (.int x1), .val (.int x2), .val (.int x3), .val (.ref o2), .val (.int x1), .val (.ref o5)] [(.int (fHold5 x1 x1))])
            refine go_st (fun _ k => XT.iconstV X88.here hx rfl (1 : Int32) (hb hby at_51) (by decide) k) ?_
            show Go p e below s _ _ _ T88 (mkF m 52 #[.val (.int x0), .val (.int x1), .val (.int x2), .val (.int x3), .val (.ref o2), .val (.int x1), .val (.ref o5)] [(.int (1 : Int32)), (.int (fHold5 x1 x1))])
            refine go_st (fun _ k => XS.goto X88.here hx rfl (pc0 := 52) (pc' := 56) rfl (hb hby at_52) (by decide) (by decide) k) ?_
            show Go p e below s _ _ _ T88 (mkF m 56 #[.val (.int x0), .val (.int x1), .val (.int x2), .val (.int x3), .val (.ref o2), .val (.int x1), .val (.ref o5)] [(.int (1 : Int32)), (.int (fHold5 x1 x1))])
            by_cases hc90 : (fHold5 x1 x1) = (1 : Int32)
            · rw [if_pos hc90]
              refine go_st (fun _ k => XS.icmpNo X88.here hx rfl (hb hby at_56) rfl (XT.ii_ne_f hc90) k) ?_
              show Go p e below s _ _ _ T88 (mkF m 59 #[.val (.int x0), .val (.int x1), .val (.int x2), .val (.int x3), .val (.ref o2), .val (.int x1), .val (.ref o5)] [])
              refine go_st (fun _ k => XT.iconstV X88.here hx rfl (1 : Int32) (hb hby at_59) (by decide) k) ?_
              show Go p e below s _ _ _ T88 (mkF m 60 #[.val (.int x0), .val (.int x1), .val (.int x2), .val (.int x3), .val (.ref o2), .val (.int x1), .val (.ref o5)] [(.int (1 : Int32))])
              refine go_st (fun _ k => XS.goto X88.here hx rfl (pc0 := 60) (pc' := 64) rfl (hb hby at_60) (by decide) (by decide) k) ?_
              show Go p e below s _ _ _ T88 (mkF m 64 #[.val (.int x0), .val (.int x1), .val (.int x2), .val (.int x3), .val (.ref o2), .val (.int x1), .val (.ref o5)] [(.int (1 : Int32))])
              exact go_retB (w := (1 : Int32)) X88 hx hlk hret (hb hby at_64) (by decide) (by decide) (by decide) ⟨rfl, N88⟩
            · rw [if_neg hc90]
              refine go_st (fun _ k => XS.icmpYes X88.here hx rfl (pc0 := 56) (pc' := 63) rfl (hb hby at_56) rfl (XT.ii_ne_t hc90) (by decide) (by decide) k) ?_
              show Go p e below s _ _ _ T88 (mkF m 63 #[.val (.int x0), .val (.int x1), .val (.int x2), .val (.int x3), .val (.ref o2), .val (.int x1), .val (.ref o5)] [])
              refine go_st (fun _ k => XT.iconstV X88.here hx rfl (0 : Int32) (hb hby at_63) (by decide) k) ?_
              show Go p e below s _ _ _ T88 (mkF m 64 #[.val (.int x0), .val (.int x1), .val (.int x2), .val (.int x3), .val (.ref o2), .val (.int x1), .val (.ref o5)] [(.int (0 : Int32))])
              exact go_retB (w := (0 : Int32)) X88 hx hlk hret (hb hby at_64) (by decide) (by decide) (by decide) ⟨rfl, N88⟩
          · rw [if_neg hc89]
            refine go_st (fun _ k => XS.ifYes X88.here hx rfl (pc0 := 48) (pc' := 55) rfl (hb hby at_48) rfl (XT.i0_ne_t hc89) (by decide) (by decide) k) ?_
            show Go p e below s _ _ _ T88 (mkF m 55 #[.val (.int x0), .val (.int x1), .val (.int x2), .val (.int x3), .val (.ref o2), .val (.int x1), .val (.ref o5)] [(.int (fHold5 x1 x1))])
            refine go_st (fun _ k => XT.iconstV X88.here hx rfl (0 : Int32) (hb hby at_55) (by decide) k) ?_
            show Go p e below s _ _ _ T88 (mkF m 56 #[.val (.int x0), .val (.int x1), .val (.int x2), .val (.int x3), .val (.ref o2), .val (.int x1), .val (.ref o5)] [(.int (0 : Int32)), (.int (fHold5 x1 x1))])
            by_cases hc91 : (fHold5 x1 x1) = (0 : Int32)
            · rw [if_pos hc91]
              refine go_st (fun _ k => XS.icmpNo X88.here hx rfl (hb hby at_56) rfl (XT.ii_ne_f hc91) k) ?_
              show Go p e below s _ _ _ T88 (mkF m 59 #[.val (.int x0), .val (.int x1), .val (.int x2), .val (.int x3), .val (.ref o2), .val (.int x1), .val (.ref o5)] [])
              refine go_st (fun _ k => XT.iconstV X88.here hx rfl (1 : Int32) (hb hby at_59) (by decide) k) ?_
              show Go p e below s _ _ _ T88 (mkF m 60 #[.val (.int x0), .val (.int x1), .val (.int x2), .val (.int x3), .val (.ref o2), .val (.int x1), .val (.ref o5)] [(.int (1 : Int32))])
              refine go_st (fun _ k => XS.goto X88.here hx rfl (pc0 := 60) (pc' := 64) rfl (hb hby at_60) (by decide) (by decide) k) ?_
              show Go p e below s _ _ _ T88 (mkF m 64 #[.val (.int x0), .val (.int x1), .val (.int x2), .val (.int x3), .val (.ref o2), .val (.int x1), .val (.ref o5)] [(.int (1 : Int32))])
              exact go_retB (w := (1 : Int32)) X88 hx hlk hret (hb hby at_64) (by decide) (by decide) (by decide) ⟨rfl, N88⟩
            · rw [if_neg hc91]
              refine go_st (fun _ k => XS.icmpYes X88.here hx rfl (pc0 := 56) (pc' := 63) rfl (hb hby at_56) rfl (XT.ii_ne_t hc91) (by decide) (by decide) k) ?_
              show Go p e below s _ _ _ T88 (mkF m 63 #[.val (.int x0), .val (.int x1), .val (.int x2), .val (.int x3), .val (.ref o2), .val (.int x1), .val (.ref o5)] [])
              refine go_st (fun _ k => XT.iconstV X88.here hx rfl (0 : Int32) (hb hby at_63) (by decide) k) ?_
              show Go p e below s _ _ _ T88 (mkF m 64 #[.val (.int x0), .val (.int x1), .val (.int x2), .val (.int x3), .val (.ref o2), .val (.int x1), .val (.ref o5)] [(.int (0 : Int32))])
              exact go_retB (w := (0 : Int32)) X88 hx hlk hret (hb hby at_64) (by decide) (by decide) (by decide) ⟨rfl, N88⟩
      · rw [if_neg hk77]
        by_cases hk92 : ((x0 &&& (2147483647 : Int32)) % (6 : Int32)) = (3 : Int32)
        · rw [if_pos hk92]
          rw [hk92]
          show Go p e below s _ _ _ s₁ (mkF m 7 #[.val (.int x0), .val (.int x1), .val (.int x2), .val (.int x3), .unset, .unset, .unset] [(.int (3 : Int32))])
          refine go_callS X0 hx hZ hml hown (hw _ (List.mem_of_getElem? (i := 1) rfl)) (hw _ (List.mem_of_getElem? (i := 2) rfl)) (hw _ (List.mem_of_getElem? (i := 3) rfl)) (hw _ (List.mem_of_getElem? (i := 4) rfl)) e0 (argsL := [(.int (3 : Int32))]) (rest := []) (W := 0) (met_pick3 l Z a0 hw o3 h0 n0 Z0 S3) (hb hby at_7) rfl rfl rfl (lenOf pd1 rfl) (by show 2 * 0 + _ ≤ _; exact Nat.le_of_eq rfl) (by decide) (by decide) (by decide) (by decide) (by decide) ?_
          intro T93 v93 L93 X93 q93
          obtain ⟨rfl, M93, e93⟩ := q93
          have N93 := Fr.app N0 M93
          show Go p e below s _ _ _ T93 (mkF m 10 #[.val (.int x0), .val (.int x1), .val (.int x2), .val (.int x3), .unset, .unset, .unset] [(.ref o3)])
          refine go_st (fun _ k => XS.astore X93.here hx rfl (hb hby at_10) rfl rfl (l' := #[.val (.int x0), .val (.int x1), .val (.int x2), .val (.int x3), .val (.ref o3), .unset, .unset]) rfl k) ?_
          show Go p e below s _ _ _ T93 (mkF m 12 #[.val (.int x0), .val (.int x1), .val (.int x2), .val (.int x3), .val (.ref o3), .unset, .unset] [])
          refine go_st (fun _ k => XS.iloadN X93.here hx rfl (hb hby at_12) rfl k) ?_
          show Go p e below s _ _ _ T93 (mkF m 13 #[.val (.int x0), .val (.int x1), .val (.int x2), .val (.int x3), .val (.ref o3), .unset, .unset] [(.int x3)])
          refine go_st (fun _ k => XT.iconstV X93.here hx rfl (1 : Int32) (hb hby at_13) (by decide) k) ?_
          show Go p e below s _ _ _ T93 (mkF m 14 #[.val (.int x0), .val (.int x1), .val (.int x2), .val (.int x3), .val (.ref o3), .unset, .unset] [(.int (1 : Int32)), (.int x3)])
          refine go_st (fun _ k => XS.iand X93.here hx rfl (hb hby at_14) rfl k) ?_
          show Go p e below s _ _ _ T93 (mkF m 15 #[.val (.int x0), .val (.int x1), .val (.int x2), .val (.int x3), .val (.ref o3), .unset, .unset] [(.int (x3 &&& (1 : Int32)))])
          by_cases hc94 : (x3 &&& (1 : Int32)) = (0 : Int32)
          · rw [if_pos hc94]
            refine go_st (fun _ k => XS.ifYes X93.here hx rfl (pc0 := 15) (pc' := 22) rfl (hb hby at_15) rfl (XT.i0_eq_t hc94) (by decide) (by decide) k) ?_
            show Go p e below s _ _ _ T93 (mkF m 22 #[.val (.int x0), .val (.int x1), .val (.int x2), .val (.int x3), .val (.ref o3), .unset, .unset] [])
            refine go_st (fun _ k => XS.iloadN X93.here hx rfl (hb hby at_22) rfl k) ?_
            show Go p e below s _ _ _ T93 (mkF m 23 #[.val (.int x0), .val (.int x1), .val (.int x2), .val (.int x3), .val (.ref o3), .unset, .unset] [(.int x2)])
            refine go_st (fun _ k => XS.istore X93.here hx rfl (hb hby at_23) rfl (l' := #[.val (.int x0), .val (.int x1), .val (.int x2), .val (.int x3), .val (.ref o3), .val (.int x2), .unset]) rfl k) ?_
            show Go p e below s _ _ _ T93 (mkF m 25 #[.val (.int x0), .val (.int x1), .val (.int x2), .val (.int x3), .val (.ref o3), .val (.int x2), .unset] [])
            refine go_st (fun _ k => XS.aload X93.here hx rfl (hb hby at_25) rfl rfl k) ?_
            show Go p e below s _ _ _ T93 (mkF m 27 #[.val (.int x0), .val (.int x1), .val (.int x2), .val (.int x3), .val (.ref o3), .val (.int x2), .unset] [(.ref o3)])
            refine go_callV X93 hx hZ hml hown (hw _ (List.mem_of_getElem? (i := 8) rfl)) (hw _ (List.mem_of_getElem? (i := 9) rfl)) (notFace_of_selects (args := #[]) (mvT hZ (hw _ (List.mem_of_getElem? (i := 11) rfl)))) (hw _ (List.mem_of_getElem? (i := 11) rfl)) (hw _ (List.mem_of_getElem? (i := 10) rfl)) (hw _ (List.mem_of_getElem? (i := 12) rfl)) (hw _ (List.mem_of_getElem? (i := 6) rfl)) e93 E3 (argsL := []) (rest := []) (W := 0) (met_neg3 l Z a0 hw o3 o4 h0 n0 Z0 E3 F3 S4) (hb hby at_27) rfl rfl rfl (lenOf pd2 rfl) (by show 2 * 0 + _ ≤ _; exact Nat.le_of_eq rfl) (by decide) (by decide) (by decide) (by decide) (by decide) ?_
            intro T95 v95 L95 X95 q95
            obtain ⟨rfl, M95, e95⟩ := q95
            have N95 := Fr.app N93 M95
            show Go p e below s _ _ _ T95 (mkF m 30 #[.val (.int x0), .val (.int x1), .val (.int x2), .val (.int x3), .val (.ref o3), .val (.int x2), .unset] [(.ref o4)])
            refine go_st (fun _ k => XS.astore X95.here hx rfl (hb hby at_30) rfl rfl (l' := #[.val (.int x0), .val (.int x1), .val (.int x2), .val (.int x3), .val (.ref o3), .val (.int x2), .val (.ref o4)]) rfl k) ?_
            show Go p e below s _ _ _ T95 (mkF m 32 #[.val (.int x0), .val (.int x1), .val (.int x2), .val (.int x3), .val (.ref o3), .val (.int x2), .val (.ref o4)] [])
            refine go_st (fun _ k => XS.aload X95.here hx rfl (hb hby at_32) rfl rfl k) ?_
            show Go p e below s _ _ _ T95 (mkF m 34 #[.val (.int x0), .val (.int x1), .val (.int x2), .val (.int x3), .val (.ref o3), .val (.int x2), .val (.ref o4)] [(.ref o4)])
            refine go_st (fun _ k => XS.iloadN X95.here hx rfl (hb hby at_34) rfl k) ?_
            show Go p e below s _ _ _ T95 (mkF m 35 #[.val (.int x0), .val (.int x1), .val (.int x2), .val (.int x3), .val (.ref o3), .val (.int x2), .val (.ref o4)] [(.int x1), (.ref o4)])
            refine go_st (fun _ k => XS.iload X95.here hx rfl (hb hby at_35) rfl k) ?_
            show Go p e below s _ _ _ T95 (mkF m 37 #[.val (.int x0), .val (.int x1), .val (.int x2), .val (.int x3), .val (.ref o3), .val (.int x2), .val (.ref o4)] [(.int x2), (.int x1), (.ref o4)])
            refine go_callS X95 hx hZ hml hown (hw _ (List.mem_of_getElem? (i := 24) rfl)) (hw _ (List.mem_of_getElem? (i := 25) rfl)) (hw _ (List.mem_of_getElem? (i := 3) rfl)) (hw _ (List.mem_of_getElem? (i := 26) rfl)) e95 (argsL := [(.ref o4), (.int x1), (.int x2)]) (rest := []) (W := 0) (met_hol4 l Z a0 hw o4 x1 x2 o0 o1 o2 o3 h0 n0 Z0 S0 S1 S2 S3 S4 ne_4_0 ne_4_1 ne_4_2 ne_4_3) (hb hby at_37) rfl rfl rfl (lenOf pd3 rfl) (by show 2 * 0 + _ ≤ _; exact Nat.le_of_eq rfl) (by decide) (by decide) (by decide) (by decide) (by decide) ?_
            intro T96 v96 L96 X96 q96
            obtain ⟨rfl, M96, e96⟩ := q96
            have N96 := Fr.app N95 M96
            show Go p e below s _ _ _ T96 (mkF m 40 #[.val (.int x0), .val (.int x1), .val (.int x2), .val (.int x3), .val (.ref o3), .val (.int x2), .val (.ref o4)] [(.int (fHold4 x1 x2))])
            refine go_st (fun _ k => XS.aload X96.here hx rfl (hb hby at_40) rfl rfl k) ?_
            show Go p e below s _ _ _ T96 (mkF m 42 #[.val (.int x0), .val (.int x1), .val (.int x2), .val (.int x3), .val (.ref o3), .val (.int x2), .val (.ref o4)] [(.ref o3), (.int (fHold4 x1 x2))])
            refine go_st (fun _ k => XS.iloadN X96.here hx rfl (hb hby at_42) rfl k) ?_
            show Go p e below s _ _ _ T96 (mkF m 43 #[.val (.int x0), .val (.int x1), .val (.int x2), .val (.int x3), .val (.ref o3), .val (.int x2), .val (.ref o4)] [(.int x1), (.ref o3), (.int (fHold4 x1 x2))])
            refine go_st (fun _ k => XS.iload X96.here hx rfl (hb hby at_43) rfl k) ?_
            show Go p e below s _ _ _ T96 (mkF m 45 #[.val (.int x0), .val (.int x1), .val (.int x2), .val (.int x3), .val (.ref o3), .val (.int x2), .val (.ref o4)] [(.int x2), (.int x1), (.ref o3), (.int (fHold4 x1 x2))])
            refine go_callS X96 hx hZ hml hown (hw _ (List.mem_of_getElem? (i := 24) rfl)) (hw _ (List.mem_of_getElem? (i := 25) rfl)) (hw _ (List.mem_of_getElem? (i := 3) rfl)) (hw _ (List.mem_of_getElem? (i := 26) rfl)) e96 (argsL := [(.ref o3), (.int x1), (.int x2)]) (rest := [(.int (fHold4 x1 x2))]) (W := 1) (met_hol3 l Z a0 hw o3 x1 x2 o0 o1 o2 h0 n0 Z0 S0 S1 S2 S3 ne_3_0 ne_3_1 ne_3_2) (hb hby at_45) rfl rfl rfl (lenOf pd3 rfl) (by show 2 * 0 + _ ≤ _; exact Nat.le_of_eq rfl) (by decide) (by decide) (by decide) (by decide) (by decide) ?_
            intro T97 v97 L97 X97 q97
            obtain ⟨rfl, M97, e97⟩ := q97
            have N97 := Fr.app N96 M97
            show Go p e below s _ _ _ T97 (mkF m 48 #[.val (.int x0), .val (.int x1), .val (.int x2), .val (.int x3), .val (.ref o3), .val (.int x2), .val (.ref o4)] [(.int (fHold3 x1 x2)), (.int (fHold4 x1 x2))])
            by_cases hc98 : (fHold3 x1 x2) = (0 : Int32)
            · rw [if_pos hc98]
              refine go_st (fun _ k => XS.ifNo X97.here hx rfl (hb hby at_48) rfl (XT.i0_ne_f hc98) k) ?_
              show Go p e below s _ _ _ T97 (mkF m 51 #[.val (.int x0), .val (.int x1), .val (.int x2), .val (.int x3), .val (.ref o3), .val (.int x2), .val (.ref o4)] [(.int (fHold4 x1 x2))])
              refine go_st (fun _ k => XT.iconstV X97.here hx rfl (1 : Int32) (hb hby at_51) (by decide) k) ?_
              show Go p e below s _ _ _ T97 (mkF m 52 #[.val (.int x0), .val (.int x1), .val (.int x2), .val (.int x3), .val (.ref o3), .val (.int x2), .val (.ref o4)] [(.int (1 : Int32)), (.int (fHold4 x1 x2))])
              refine go_st (fun _ k => XS.goto X97.here hx rfl (pc0 := 52) (pc' := 56) rfl (hb hby at_52) (by decide) (by decide) k) ?_
              show Go p e below s _ _ _ T97 (mkF m 56 #[.val (.int x0), .val (.int x1), .val (.int x2), .val (.int x3), .val (.ref o3), .val (.int x2), .val (.ref o4)] [(.int (1 : Int32)), (.int (fHold4 x1 x2))])
              by_cases hc99 : (fHold4 x1 x2) = (1 : Int32)
              · rw [if_pos hc99]
                refine go_st (fun _ k => XS.icmpNo X97.here hx rfl (hb hby at_56) rfl (XT.ii_ne_f hc99) k) ?_
                show Go p e below s _ _ _ T97 (mkF m 59 #[.val (.int x0), .val (.int x1), .val (.int x2), .val (.int x3), .val (.ref o3), .val (.int x2), .val (.ref o4)] [])
                refine go_st (fun _ k => XT.iconstV X97.here hx rfl (1 : Int32) (hb hby at_59) (by decide) k) ?_
                show Go p e below s _ _ _ T97 (mkF m 60 #[.val (.int x0), .val (.int x1), .val (.int x2), .val (.int x3), .val (.ref o3), .val (.int x2), .val (.ref o4)] [(.int (1 : Int32))])
                refine go_st (fun _ k => XS.goto X97.here hx rfl (pc0 := 60) (pc' := 64) rfl (hb hby at_60) (by decide) (by decide) k) ?_
                show Go p e below s _ _ _ T97 (mkF m 64 #[.val (.int x0), .val (.int x1), .val (.int x2), .val (.int x3), .val (.ref o3), .val (.int x2), .val (.ref o4)] [(.int (1 : Int32))])
                exact go_retB (w := (1 : Int32)) X97 hx hlk hret (hb hby at_64) (by decide) (by decide) (by decide) ⟨rfl, N97⟩
              · rw [if_neg hc99]
                refine go_st (fun _ k => XS.icmpYes X97.here hx rfl (pc0 := 56) (pc' := 63) rfl (hb hby at_56) rfl (XT.ii_ne_t hc99) (by decide) (by decide) k) ?_
                show Go p e below s _ _ _ T97 (mkF m 63 #[.val (.int x0), .val (.int x1), .val (.int x2), .val (.int x3), .val (.ref o3), .val (.int x2), .val (.ref o4)] [])
                refine go_st (fun _ k => XT.iconstV X97.here hx rfl (0 : Int32) (hb hby at_63) (by decide) k) ?_
                show Go p e below s _ _ _ T97 (mkF m 64 #[.val (.int x0), .val (.int x1), .val (.int x2), .val (.int x3), .val (.ref o3), .val (.int x2), .val (.ref o4)] [(.int (0 : Int32))])
                exact go_retB (w := (0 : Int32)) X97 hx hlk hret (hb hby at_64) (by decide) (by decide) (by decide) ⟨rfl, N97⟩
            · rw [if_neg hc98]
              refine go_st (fun _ k => XS.ifYes X97.here hx rfl (pc0 := 48) (pc' := 55) rfl (hb hby at_48) rfl (XT.i0_ne_t hc98) (by decide) (by decide) k) ?_
              show Go p e below s _ _ _ T97 (mkF m 55 #[.val (.int x0), .val (.int x1), .val (.int x2), .val (.int x3), .val (.ref o3), .val (.int x2), .val (.ref o4)] [(.int (fHold4 x1 x2))])
              refine go_st (fun _ k => XT.iconstV X97.here hx rfl (0 : Int32) (hb hby at_55) (by decide) k) ?_
              show Go p e below s _ _ _ T97 (mkF m 56 #[.val (.int x0), .val (.int x1), .val (.int x2), .val (.int x3), .val (.ref o3), .val (.int x2), .val (.ref o4)] [(.int (0 : Int32)), (.int (fHold4 x1 x2))])
              by_cases hc100 : (fHold4 x1 x2) = (0 : Int32)
              · rw [if_pos hc100]
                refine go_st (fun _ k => XS.icmpNo X97.here hx rfl (hb hby at_56) rfl (XT.ii_ne_f hc100) k) ?_
                show Go p e below s _ _ _ T97 (mkF m 59 #[.val (.int x0), .val (.int x1), .val (.int x2), .val (.int x3), .val (.ref o3), .val (.int x2), .val (.ref o4)] [])
                refine go_st (fun _ k => XT.iconstV X97.here hx rfl (1 : Int32) (hb hby at_59) (by decide) k) ?_
                show Go p e below s _ _ _ T97 (mkF m 60 #[.val (.int x0), .val (.int x1), .val (.int x2), .val (.int x3), .val (.ref o3), .val (.int x2), .val (.ref o4)] [(.int (1 : Int32))])
                refine go_st (fun _ k => XS.goto X97.here hx rfl (pc0 := 60) (pc' := 64) rfl (hb hby at_60) (by decide) (by decide) k) ?_
                show Go p e below s _ _ _ T97 (mkF m 64 #[.val (.int x0), .val (.int x1), .val (.int x2), .val (.int x3), .val (.ref o3), .val (.int x2), .val (.ref o4)] [(.int (1 : Int32))])
                exact go_retB (w := (1 : Int32)) X97 hx hlk hret (hb hby at_64) (by decide) (by decide) (by decide) ⟨rfl, N97⟩
              · rw [if_neg hc100]
                refine go_st (fun _ k => XS.icmpYes X97.here hx rfl (pc0 := 56) (pc' := 63) rfl (hb hby at_56) rfl (XT.ii_ne_t hc100) (by decide) (by decide) k) ?_
                show Go p e below s _ _ _ T97 (mkF m 63 #[.val (.int x0), .val (.int x1), .val (.int x2), .val (.int x3), .val (.ref o3), .val (.int x2), .val (.ref o4)] [])
                refine go_st (fun _ k => XT.iconstV X97.here hx rfl (0 : Int32) (hb hby at_63) (by decide) k) ?_
                show Go p e below s _ _ _ T97 (mkF m 64 #[.val (.int x0), .val (.int x1), .val (.int x2), .val (.int x3), .val (.ref o3), .val (.int x2), .val (.ref o4)] [(.int (0 : Int32))])
                exact go_retB (w := (0 : Int32)) X97 hx hlk hret (hb hby at_64) (by decide) (by decide) (by decide) ⟨rfl, N97⟩
          · rw [if_neg hc94]
            refine go_st (fun _ k => XS.ifNo X93.here hx rfl (hb hby at_15) rfl (XT.i0_eq_f hc94) k) ?_
            show Go p e below s _ _ _ T93 (mkF m 18 #[.val (.int x0), .val (.int x1), .val (.int x2), .val (.int x3), .val (.ref o3), .unset, .unset] [])
            refine go_st (fun _ k => XS.iloadN X93.here hx rfl (hb hby at_18) rfl k) ?_
            show Go p e below s _ _ _ T93 (mkF m 19 #[.val (.int x0), .val (.int x1), .val (.int x2), .val (.int x3), .val (.ref o3), .unset, .unset] [(.int x1)])
            refine go_st (fun _ k => XS.goto X93.here hx rfl (pc0 := 19) (pc' := 23) rfl (hb hby at_19) (by decide) (by decide) k) ?_
            show Go p e below s _ _ _ T93 (mkF m 23 #[.val (.int x0), .val (.int x1), .val (.int x2), .val (.int x3), .val (.ref o3), .unset, .unset] [(.int x1)])
            refine go_st (fun _ k => XS.istore X93.here hx rfl (hb hby at_23) rfl (l' := #[.val (.int x0), .val (.int x1), .val (.int x2), .val (.int x3), .val (.ref o3), .val (.int x1), .unset]) rfl k) ?_
            show Go p e below s _ _ _ T93 (mkF m 25 #[.val (.int x0), .val (.int x1), .val (.int x2), .val (.int x3), .val (.ref o3), .val (.int x1), .unset] [])
            refine go_st (fun _ k => XS.aload X93.here hx rfl (hb hby at_25) rfl rfl k) ?_
            show Go p e below s _ _ _ T93 (mkF m 27 #[.val (.int x0), .val (.int x1), .val (.int x2), .val (.int x3), .val (.ref o3), .val (.int x1), .unset] [(.ref o3)])
            refine go_callV X93 hx hZ hml hown (hw _ (List.mem_of_getElem? (i := 8) rfl)) (hw _ (List.mem_of_getElem? (i := 9) rfl)) (notFace_of_selects (args := #[]) (mvT hZ (hw _ (List.mem_of_getElem? (i := 11) rfl)))) (hw _ (List.mem_of_getElem? (i := 11) rfl)) (hw _ (List.mem_of_getElem? (i := 10) rfl)) (hw _ (List.mem_of_getElem? (i := 12) rfl)) (hw _ (List.mem_of_getElem? (i := 6) rfl)) e93 E3 (argsL := []) (rest := []) (W := 0) (met_neg3 l Z a0 hw o3 o4 h0 n0 Z0 E3 F3 S4) (hb hby at_27) rfl rfl rfl (lenOf pd2 rfl) (by show 2 * 0 + _ ≤ _; exact Nat.le_of_eq rfl) (by decide) (by decide) (by decide) (by decide) (by decide) ?_
            intro T101 v101 L101 X101 q101
            obtain ⟨rfl, M101, e101⟩ := q101
            have N101 := Fr.app N93 M101
            show Go p e below s _ _ _ T101 (mkF m 30 #[.val (.int x0), .val (.int x1), .val (.int x2), .val (.int x3), .val (.ref o3), .val (.int x1), .unset] [(.ref o4)])
            refine go_st (fun _ k => XS.astore X101.here hx rfl (hb hby at_30) rfl rfl (l' := #[.val (.int x0), .val (.int x1), .val (.int x2), .val (.int x3), .val (.ref o3), .val (.int x1), .val (.ref o4)]) rfl k) ?_
            show Go p e below s _ _ _ T101 (mkF m 32 #[.val (.int x0), .val (.int x1), .val (.int x2), .val (.int x3), .val (.ref o3), .val (.int x1), .val (.ref o4)] [])
            refine go_st (fun _ k => XS.aload X101.here hx rfl (hb hby at_32) rfl rfl k) ?_
            show Go p e below s _ _ _ T101 (mkF m 34 #[.val (.int x0), .val (.int x1), .val (.int x2), .val (.int x3), .val (.ref o3), .val (.int x1), .val (.ref o4)] [(.ref o4)])
            refine go_st (fun _ k => XS.iloadN X101.here hx rfl (hb hby at_34) rfl k) ?_
            show Go p e below s _ _ _ T101 (mkF m 35 #[.val (.int x0), .val (.int x1), .val (.int x2), .val (.int x3), .val (.ref o3), .val (.int x1), .val (.ref o4)] [(.int x1), (.ref o4)])
            refine go_st (fun _ k => XS.iload X101.here hx rfl (hb hby at_35) rfl k) ?_
            show Go p e below s _ _ _ T101 (mkF m 37 #[.val (.int x0), .val (.int x1), .val (.int x2), .val (.int x3), .val (.ref o3), .val (.int x1), .val (.ref o4)] [(.int x1), (.int x1), (.ref o4)])
            refine go_callS X101 hx hZ hml hown (hw _ (List.mem_of_getElem? (i := 24) rfl)) (hw _ (List.mem_of_getElem? (i := 25) rfl)) (hw _ (List.mem_of_getElem? (i := 3) rfl)) (hw _ (List.mem_of_getElem? (i := 26) rfl)) e101 (argsL := [(.ref o4), (.int x1), (.int x1)]) (rest := []) (W := 0) (met_hol4 l Z a0 hw o4 x1 x1 o0 o1 o2 o3 h0 n0 Z0 S0 S1 S2 S3 S4 ne_4_0 ne_4_1 ne_4_2 ne_4_3) (hb hby at_37) rfl rfl rfl (lenOf pd3 rfl) (by show 2 * 0 + _ ≤ _; exact Nat.le_of_eq rfl) (by decide) (by decide) (by decide) (by decide) (by decide) ?_
            intro T102 v102 L102 X102 q102
            obtain ⟨rfl, M102, e102⟩ := q102
            have N102 := Fr.app N101 M102
            show Go p e below s _ _ _ T102 (mkF m 40 #[.val (.int x0), .val (.int x1), .val (.int x2), .val (.int x3), .val (.ref o3), .val (.int x1), .val (.ref o4)] [(.int (fHold4 x1 x1))])
            refine go_st (fun _ k => XS.aload X102.here hx rfl (hb hby at_40) rfl rfl k) ?_
            show Go p e below s _ _ _ T102 (mkF m 42 #[.val (.int x0), .val (.int x1), .val (.int x2), .val (.int x3), .val (.ref o3), .val (.int x1), .val (.ref o4)] [(.ref o3), (.int (fHold4 x1 x1))])
            refine go_st (fun _ k => XS.iloadN X102.here hx rfl (hb hby at_42) rfl k) ?_
            show Go p e below s _ _ _ T102 (mkF m 43 #[.val (.int x0), .val (.int x1), .val (.int x2), .val (.int x3), .val (.ref o3), .val (.int x1), .val (.ref o4)] [(.int x1), (.ref o3), (.int (fHold4 x1 x1))])
            refine go_st (fun _ k => XS.iload X102.here hx rfl (hb hby at_43) rfl k) ?_
            show Go p e below s _ _ _ T102 (mkF m 45 #[.val (.int x0), .val (.int x1), .val (.int x2), .val (.int x3), .val (.ref o3), .val (.int x1), .val (.ref o4)] [(.int x1), (.int x1), (.ref o3), (.int (fHold4 x1 x1))])
            refine go_callS X102 hx hZ hml hown (hw _ (List.mem_of_getElem? (i := 24) rfl)) (hw _ (List.mem_of_getElem? (i := 25) rfl)) (hw _ (List.mem_of_getElem? (i := 3) rfl)) (hw _ (List.mem_of_getElem? (i := 26) rfl)) e102 (argsL := [(.ref o3), (.int x1), (.int x1)]) (rest := [(.int (fHold4 x1 x1))]) (W := 1) (met_hol3 l Z a0 hw o3 x1 x1 o0 o1 o2 h0 n0 Z0 S0 S1 S2 S3 ne_3_0 ne_3_1 ne_3_2) (hb hby at_45) rfl rfl rfl (lenOf pd3 rfl) (by show 2 * 0 + _ ≤ _; exact Nat.le_of_eq rfl) (by decide) (by decide) (by decide) (by decide) (by decide) ?_
            intro T103 v103 L103 X103 q103
            obtain ⟨rfl, M103, e103⟩ := q103
            have N103 := Fr.app N102 M103
            show Go p e below s _ _ _ T103 (mkF m 48 #[.val (.int x0), .val (.int x1), .val (.int x2), .val (.int x3), .val (.ref o3), .val (.int x1), .val (.ref o4)] [(.int (fHold3 x1 x1)), (.int (fHold4 x1 x1))])
            by_cases hc104 : (fHold3 x1 x1) = (0 : Int32)
            · rw [if_pos hc104]
              refine go_st (fun _ k => XS.ifNo X103.here hx rfl (hb hby at_48) rfl (XT.i0_ne_f hc104) k) ?_
              show Go p e below s _ _ _ T103 (mkF m 51 #[.val (.int x0), .val (.int x1), .val (.int x2), .val (.int x3), .val (.ref o3), .val (.int x1), .val (.ref o4)] [(.int (fHold4 x1 x1))])
              refine go_st (fun _ k => XT.iconstV X103.here hx rfl (1 : Int32) (hb hby at_51) (by decide) k) ?_
              show Go p e below s _ _ _ T103 (mkF m 52 #[.val (.int x0), .val (.int x1), .val (.int x2), .val (.int x3), .val (.ref o3), .val (.int x1), .val (.ref o4)] [(.int (1 : Int32)), (.int (fHold4 x1 x1))])
              refine go_st (fun _ k => XS.goto X103.here hx rfl (pc0 := 52) (pc' := 56) rfl (hb hby at_52) (by decide) (by decide) k) ?_
              show Go p e below s _ _ _ T103 (mkF m 56 #[.val (.int x0), .val (.int x1), .val (.int x2), .val (.int x3), .val (.ref o3), .val (.int x1), .val (.ref o4)] [(.int (1 : Int32)), (.int (fHold4 x1 x1))])
              by_cases hc105 : (fHold4 x1 x1) = (1 : Int32)
              · rw [if_pos hc105]
                refine go_st (fun _ k => XS.icmpNo X103.here hx rfl (hb hby at_56) rfl (XT.ii_ne_f hc105) k) ?_
                show Go p e below s _ _ _ T103 (mkF m 59 #[.val (.int x0), .val (.int x1), .val (.int x2), .val (.int x3), .val (.ref o3), .val (.int x1), .val (.ref o4)] [])
                refine go_st (fun _ k => XT.iconstV X103.here hx rfl (1 : Int32) (hb hby at_59) (by decide) k) ?_
                show Go p e below s _ _ _ T103 (mkF m 60 #[.val (.int x0), .val (.int x1), .val (.int x2), .val (.int x3), .val (.ref o3), .val (.int x1), .val (.ref o4)] [(.int (1 : Int32))])
                refine go_st (fun _ k => XS.goto X103.here hx rfl (pc0 := 60) (pc' := 64) rfl (hb hby at_60) (by decide) (by decide) k) ?_
                show Go p e below s _ _ _ T103 (mkF m 64 #[.val (.int x0), .val (.int x1), .val (.int x2), .val (.int x3), .val (.ref o3), .val (.int x1), .val (.ref o4)] [(.int (1 : Int32))])
                exact go_retB (w := (1 : Int32)) X103 hx hlk hret (hb hby at_64) (by decide) (by decide) (by decide) ⟨rfl, N103⟩
              · rw [if_neg hc105]
                refine go_st (fun _ k => XS.icmpYes X103.here hx rfl (pc0 := 56) (pc' := 63) rfl (hb hby at_56) rfl (XT.ii_ne_t hc105) (by decide) (by decide) k) ?_
                show Go p e below s _ _ _ T103 (mkF m 63 #[.val (.int x0), .val (.int x1), .val (.int x2), .val (.int x3), .val (.ref o3), .val (.int x1), .val (.ref o4)] [])
                refine go_st (fun _ k => XT.iconstV X103.here hx rfl (0 : Int32) (hb hby at_63) (by decide) k) ?_
                show Go p e below s _ _ _ T103 (mkF m 64 #[.val (.int x0), .val (.int x1), .val (.int x2), .val (.int x3), .val (.ref o3), .val (.int x1), .val (.ref o4)] [(.int (0 : Int32))])
                exact go_retB (w := (0 : Int32)) X103 hx hlk hret (hb hby at_64) (by decide) (by decide) (by decide) ⟨rfl, N103⟩
            · rw [if_neg hc104]
              refine go_st (fun _ k => XS.ifYes X103.here hx rfl (pc0 := 48) (pc' := 55) rfl (hb hby at_48) rfl (XT.i0_ne_t hc104) (by decide) (by decide) k) ?_
              show Go p e below s _ _ _ T103 (mkF m 55 #[.val (.int x0), .val (.int x1), .val (.int x2), .val (.int x3), .val (.ref o3), .val (.int x1), .val (.ref o4)] [(.int (fHold4 x1 x1))])
              refine go_st (fun _ k => XT.iconstV X103.here hx rfl (0 : Int32) (hb hby at_55) (by decide) k) ?_
              show Go p e below s _ _ _ T103 (mkF m 56 #[.val (.int x0), .val (.int x1), .val (.int x2), .val (.int x3), .val (.ref o3), .val (.int x1), .val (.ref o4)] [(.int (0 : Int32)), (.int (fHold4 x1 x1))])
              by_cases hc106 : (fHold4 x1 x1) = (0 : Int32)
              · rw [if_pos hc106]
                refine go_st (fun _ k => XS.icmpNo X103.here hx rfl (hb hby at_56) rfl (XT.ii_ne_f hc106) k) ?_
                show Go p e below s _ _ _ T103 (mkF m 59 #[.val (.int x0), .val (.int x1), .val (.int x2), .val (.int x3), .val (.ref o3), .val (.int x1), .val (.ref o4)] [])
                refine go_st (fun _ k => XT.iconstV X103.here hx rfl (1 : Int32) (hb hby at_59) (by decide) k) ?_
                show Go p e below s _ _ _ T103 (mkF m 60 #[.val (.int x0), .val (.int x1), .val (.int x2), .val (.int x3), .val (.ref o3), .val (.int x1), .val (.ref o4)] [(.int (1 : Int32))])
                refine go_st (fun _ k => XS.goto X103.here hx rfl (pc0 := 60) (pc' := 64) rfl (hb hby at_60) (by decide) (by decide) k) ?_
                show Go p e below s _ _ _ T103 (mkF m 64 #[.val (.int x0), .val (.int x1), .val (.int x2), .val (.int x3), .val (.ref o3), .val (.int x1), .val (.ref o4)] [(.int (1 : Int32))])
                exact go_retB (w := (1 : Int32)) X103 hx hlk hret (hb hby at_64) (by decide) (by decide) (by decide) ⟨rfl, N103⟩
              · rw [if_neg hc106]
                refine go_st (fun _ k => XS.icmpYes X103.here hx rfl (pc0 := 56) (pc' := 63) rfl (hb hby at_56) rfl (XT.ii_ne_t hc106) (by decide) (by decide) k) ?_
                show Go p e below s _ _ _ T103 (mkF m 63 #[.val (.int x0), .val (.int x1), .val (.int x2), .val (.int x3), .val (.ref o3), .val (.int x1), .val (.ref o4)] [])
                refine go_st (fun _ k => XT.iconstV X103.here hx rfl (0 : Int32) (hb hby at_63) (by decide) k) ?_
                show Go p e below s _ _ _ T103 (mkF m 64 #[.val (.int x0), .val (.int x1), .val (.int x2), .val (.int x3), .val (.ref o3), .val (.int x1), .val (.ref o4)] [(.int (0 : Int32))])
                exact go_retB (w := (0 : Int32)) X103 hx hlk hret (hb hby at_64) (by decide) (by decide) (by decide) ⟨rfl, N103⟩
        · rw [if_neg hk92]
          by_cases hk107 : ((x0 &&& (2147483647 : Int32)) % (6 : Int32)) = (4 : Int32)
          · rw [if_pos hk107]
            rw [hk107]
            show Go p e below s _ _ _ s₁ (mkF m 7 #[.val (.int x0), .val (.int x1), .val (.int x2), .val (.int x3), .unset, .unset, .unset] [(.int (4 : Int32))])
            refine go_callS X0 hx hZ hml hown (hw _ (List.mem_of_getElem? (i := 1) rfl)) (hw _ (List.mem_of_getElem? (i := 2) rfl)) (hw _ (List.mem_of_getElem? (i := 3) rfl)) (hw _ (List.mem_of_getElem? (i := 4) rfl)) e0 (argsL := [(.int (4 : Int32))]) (rest := []) (W := 0) (met_pick4 l Z a0 hw o4 h0 n0 Z0 S4) (hb hby at_7) rfl rfl rfl (lenOf pd1 rfl) (by show 2 * 0 + _ ≤ _; exact Nat.le_of_eq rfl) (by decide) (by decide) (by decide) (by decide) (by decide) ?_
            intro T108 v108 L108 X108 q108
            obtain ⟨rfl, M108, e108⟩ := q108
            have N108 := Fr.app N0 M108
            show Go p e below s _ _ _ T108 (mkF m 10 #[.val (.int x0), .val (.int x1), .val (.int x2), .val (.int x3), .unset, .unset, .unset] [(.ref o4)])
            refine go_st (fun _ k => XS.astore X108.here hx rfl (hb hby at_10) rfl rfl (l' := #[.val (.int x0), .val (.int x1), .val (.int x2), .val (.int x3), .val (.ref o4), .unset, .unset]) rfl k) ?_
            show Go p e below s _ _ _ T108 (mkF m 12 #[.val (.int x0), .val (.int x1), .val (.int x2), .val (.int x3), .val (.ref o4), .unset, .unset] [])
            refine go_st (fun _ k => XS.iloadN X108.here hx rfl (hb hby at_12) rfl k) ?_
            show Go p e below s _ _ _ T108 (mkF m 13 #[.val (.int x0), .val (.int x1), .val (.int x2), .val (.int x3), .val (.ref o4), .unset, .unset] [(.int x3)])
            refine go_st (fun _ k => XT.iconstV X108.here hx rfl (1 : Int32) (hb hby at_13) (by decide) k) ?_
            show Go p e below s _ _ _ T108 (mkF m 14 #[.val (.int x0), .val (.int x1), .val (.int x2), .val (.int x3), .val (.ref o4), .unset, .unset] [(.int (1 : Int32)), (.int x3)])
            refine go_st (fun _ k => XS.iand X108.here hx rfl (hb hby at_14) rfl k) ?_
            show Go p e below s _ _ _ T108 (mkF m 15 #[.val (.int x0), .val (.int x1), .val (.int x2), .val (.int x3), .val (.ref o4), .unset, .unset] [(.int (x3 &&& (1 : Int32)))])
            by_cases hc109 : (x3 &&& (1 : Int32)) = (0 : Int32)
            · rw [if_pos hc109]
              refine go_st (fun _ k => XS.ifYes X108.here hx rfl (pc0 := 15) (pc' := 22) rfl (hb hby at_15) rfl (XT.i0_eq_t hc109) (by decide) (by decide) k) ?_
              show Go p e below s _ _ _ T108 (mkF m 22 #[.val (.int x0), .val (.int x1), .val (.int x2), .val (.int x3), .val (.ref o4), .unset, .unset] [])
              refine go_st (fun _ k => XS.iloadN X108.here hx rfl (hb hby at_22) rfl k) ?_
              show Go p e below s _ _ _ T108 (mkF m 23 #[.val (.int x0), .val (.int x1), .val (.int x2), .val (.int x3), .val (.ref o4), .unset, .unset] [(.int x2)])
              refine go_st (fun _ k => XS.istore X108.here hx rfl (hb hby at_23) rfl (l' := #[.val (.int x0), .val (.int x1), .val (.int x2), .val (.int x3), .val (.ref o4), .val (.int x2), .unset]) rfl k) ?_
              show Go p e below s _ _ _ T108 (mkF m 25 #[.val (.int x0), .val (.int x1), .val (.int x2), .val (.int x3), .val (.ref o4), .val (.int x2), .unset] [])
              refine go_st (fun _ k => XS.aload X108.here hx rfl (hb hby at_25) rfl rfl k) ?_
              show Go p e below s _ _ _ T108 (mkF m 27 #[.val (.int x0), .val (.int x1), .val (.int x2), .val (.int x3), .val (.ref o4), .val (.int x2), .unset] [(.ref o4)])
              refine go_callV X108 hx hZ hml hown (hw _ (List.mem_of_getElem? (i := 8) rfl)) (hw _ (List.mem_of_getElem? (i := 9) rfl)) (notFace_of_selects (args := #[]) (mvT hZ (hw _ (List.mem_of_getElem? (i := 11) rfl)))) (hw _ (List.mem_of_getElem? (i := 11) rfl)) (hw _ (List.mem_of_getElem? (i := 10) rfl)) (hw _ (List.mem_of_getElem? (i := 12) rfl)) (hw _ (List.mem_of_getElem? (i := 6) rfl)) e108 E4 (argsL := []) (rest := []) (W := 0) (met_neg4 l Z a0 hw o4 o3 h0 n0 Z0 E4 F4 S3) (hb hby at_27) rfl rfl rfl (lenOf pd2 rfl) (by show 2 * 0 + _ ≤ _; exact Nat.le_of_eq rfl) (by decide) (by decide) (by decide) (by decide) (by decide) ?_
              intro T110 v110 L110 X110 q110
              obtain ⟨rfl, M110, e110⟩ := q110
              have N110 := Fr.app N108 M110
              show Go p e below s _ _ _ T110 (mkF m 30 #[.val (.int x0), .val (.int x1), .val (.int x2), .val (.int x3), .val (.ref o4), .val (.int x2), .unset] [(.ref o3)])
              refine go_st (fun _ k => XS.astore X110.here hx rfl (hb hby at_30) rfl rfl (l' := #[.val (.int x0), .val (.int x1), .val (.int x2), .val (.int x3), .val (.ref o4), .val (.int x2), .val (.ref o3)]) rfl k) ?_
              show Go p e below s _ _ _ T110 (mkF m 32 #[.val (.int x0), .val (.int x1), .val (.int x2), .val (.int x3), .val (.ref o4), .val (.int x2), .val (.ref o3)] [])
              refine go_st (fun _ k => XS.aload X110.here hx rfl (hb hby at_32) rfl rfl k) ?_
              show Go p e below s _ _ _ T110 (mkF m 34 #[.val (.int x0), .val (.int x1), .val (.int x2), .val (.int x3), .val (.ref o4), .val (.int x2), .val (.ref o3)] [(.ref o3)])
              refine go_st (fun _ k => XS.iloadN X110.here hx rfl (hb hby at_34) rfl k) ?_
              show Go p e below s _ _ _ T110 (mkF m 35 #[.val (.int x0), .val (.int x1), .val (.int x2), .val (.int x3), .val (.ref o4), .val (.int x2), .val (.ref o3)] [(.int x1), (.ref o3)])
              refine go_st (fun _ k => XS.iload X110.here hx rfl (hb hby at_35) rfl k) ?_
              show Go p e below s _ _ _ T110 (mkF m 37 #[.val (.int x0), .val (.int x1), .val (.int x2), .val (.int x3), .val (.ref o4), .val (.int x2), .val (.ref o3)] [(.int x2), (.int x1), (.ref o3)])
              refine go_callS X110 hx hZ hml hown (hw _ (List.mem_of_getElem? (i := 24) rfl)) (hw _ (List.mem_of_getElem? (i := 25) rfl)) (hw _ (List.mem_of_getElem? (i := 3) rfl)) (hw _ (List.mem_of_getElem? (i := 26) rfl)) e110 (argsL := [(.ref o3), (.int x1), (.int x2)]) (rest := []) (W := 0) (met_hol3 l Z a0 hw o3 x1 x2 o0 o1 o2 h0 n0 Z0 S0 S1 S2 S3 ne_3_0 ne_3_1 ne_3_2) (hb hby at_37) rfl rfl rfl (lenOf pd3 rfl) (by show 2 * 0 + _ ≤ _; exact Nat.le_of_eq rfl) (by decide) (by decide) (by decide) (by decide) (by decide) ?_
              intro T111 v111 L111 X111 q111
              obtain ⟨rfl, M111, e111⟩ := q111
              have N111 := Fr.app N110 M111
              show Go p e below s _ _ _ T111 (mkF m 40 #[.val (.int x0), .val (.int x1), .val (.int x2), .val (.int x3), .val (.ref o4), .val (.int x2), .val (.ref o3)] [(.int (fHold3 x1 x2))])
              refine go_st (fun _ k => XS.aload X111.here hx rfl (hb hby at_40) rfl rfl k) ?_
              show Go p e below s _ _ _ T111 (mkF m 42 #[.val (.int x0), .val (.int x1), .val (.int x2), .val (.int x3), .val (.ref o4), .val (.int x2), .val (.ref o3)] [(.ref o4), (.int (fHold3 x1 x2))])
              refine go_st (fun _ k => XS.iloadN X111.here hx rfl (hb hby at_42) rfl k) ?_
              show Go p e below s _ _ _ T111 (mkF m 43 #[.val (.int x0), .val (.int x1), .val (.int x2), .val (.int x3), .val (.ref o4), .val (.int x2), .val (.ref o3)] [(.int x1), (.ref o4), (.int (fHold3 x1 x2))])
              refine go_st (fun _ k => XS.iload X111.here hx rfl (hb hby at_43) rfl k) ?_
              show Go p e below s _ _ _ T111 (mkF m 45 #[.val (.int x0), .val (.int x1), .val (.int x2), .val (.int x3), .val (.ref o4), .val (.int x2), .val (.ref o3)] [(.int x2), (.int x1), (.ref o4), (.int (fHold3 x1 x2))])
              refine go_callS X111 hx hZ hml hown (hw _ (List.mem_of_getElem? (i := 24) rfl)) (hw _ (List.mem_of_getElem? (i := 25) rfl)) (hw _ (List.mem_of_getElem? (i := 3) rfl)) (hw _ (List.mem_of_getElem? (i := 26) rfl)) e111 (argsL := [(.ref o4), (.int x1), (.int x2)]) (rest := [(.int (fHold3 x1 x2))]) (W := 1) (met_hol4 l Z a0 hw o4 x1 x2 o0 o1 o2 o3 h0 n0 Z0 S0 S1 S2 S3 S4 ne_4_0 ne_4_1 ne_4_2 ne_4_3) (hb hby at_45) rfl rfl rfl (lenOf pd3 rfl) (by show 2 * 0 + _ ≤ _; exact Nat.le_of_eq rfl) (by decide) (by decide) (by decide) (by decide) (by decide) ?_
              intro T112 v112 L112 X112 q112
              obtain ⟨rfl, M112, e112⟩ := q112
              have N112 := Fr.app N111 M112
              show Go p e below s _ _ _ T112 (mkF m 48 #[.val (.int x0), .val (.int x1), .val (.int x2), .val (.int x3), .val (.ref o4), .val (.int x2), .val (.ref o3)] [(.int (fHold4 x1 x2)), (.int (fHold3 x1 x2))])
              by_cases hc113 : (fHold4 x1 x2) = (0 : Int32)
              · rw [if_pos hc113]
                refine go_st (fun _ k => XS.ifNo X112.here hx rfl (hb hby at_48) rfl (XT.i0_ne_f hc113) k) ?_
                show Go p e below s _ _ _ T112 (mkF m 51 #[.val (.int x0), .val (.int x1), .val (.int x2), .val (.int x3), .val (.ref o4), .val (.int x2), .val (.ref o3)] [(.int (fHold3 x1 x2))])
                refine go_st (fun _ k => XT.iconstV X112.here hx rfl (1 : Int32) (hb hby at_51) (by decide) k) ?_
                show Go p e below s _ _ _ T112 (mkF m 52 #[.val (.int x0), .val (.int x1), .val (.int x2), .val (.int x3), .val (.ref o4), .val (.int x2), .val (.ref o3)] [(.int (1 : Int32)), (.int (fHold3 x1 x2))])
                refine go_st (fun _ k => XS.goto X112.here hx rfl (pc0 := 52) (pc' := 56) rfl (hb hby at_52) (by decide) (by decide) k) ?_
                show Go p e below s _ _ _ T112 (mkF m 56 #[.val (.int x0), .val (.int x1), .val (.int x2), .val (.int x3), .val (.ref o4), .val (.int x2), .val (.ref o3)] [(.int (1 : Int32)), (.int (fHold3 x1 x2))])
                by_cases hc114 : (fHold3 x1 x2) = (1 : Int32)
                · rw [if_pos hc114]
                  refine go_st (fun _ k => XS.icmpNo X112.here hx rfl (hb hby at_56) rfl (XT.ii_ne_f hc114) k) ?_
                  show Go p e below s _ _ _ T112 (mkF m 59 #[.val (.int x0), .val (.int x1), .val (.int x2), .val (.int x3), .val (.ref o4), .val (.int x2), .val (.ref o3)] [])
                  refine go_st (fun _ k => XT.iconstV X112.here hx rfl (1 : Int32) (hb hby at_59) (by decide) k) ?_
                  show Go p e below s _ _ _ T112 (mkF m 60 #[.val (.int x0), .val (.int x1), .val (.int x2), .val (.int x3), .val (.ref o4), .val (.int x2), .val (.ref o3)] [(.int (1 : Int32))])
                  refine go_st (fun _ k => XS.goto X112.here hx rfl (pc0 := 60) (pc' := 64) rfl (hb hby at_60) (by decide) (by decide) k) ?_
                  show Go p e below s _ _ _ T112 (mkF m 64 #[.val (.int x0), .val (.int x1), .val (.int x2), .val (.int x3), .val (.ref o4), .val (.int x2), .val (.ref o3)] [(.int (1 : Int32))])
                  exact go_retB (w := (1 : Int32)) X112 hx hlk hret (hb hby at_64) (by decide) (by decide) (by decide) ⟨rfl, N112⟩
                · rw [if_neg hc114]
                  refine go_st (fun _ k => XS.icmpYes X112.here hx rfl (pc0 := 56) (pc' := 63) rfl (hb hby at_56) rfl (XT.ii_ne_t hc114) (by decide) (by decide) k) ?_
                  show Go p e below s _ _ _ T112 (mkF m 63 #[.val (.int x0), .val (.int x1), .val (.int x2), .val (.int x3), .val (.ref o4), .val (.int x2), .val (.ref o3)] [])
                  refine go_st (fun _ k => XT.iconstV X112.here hx rfl (0 : Int32) (hb hby at_63) (by decide) k) ?_
                  show Go p e below s _ _ _ T112 (mkF m 64 #[.val (.int x0), .val (.int x1), .val (.int x2), .val (.int x3), .val (.ref o4), .val (.int x2), .val (.ref o3)] [(.int (0 : Int32))])
                  exact go_retB (w := (0 : Int32)) X112 hx hlk hret (hb hby at_64) (by decide) (by decide) (by decide) ⟨rfl, N112⟩
              · rw [if_neg hc113]
                refine go_st (fun _ k => XS.ifYes X112.here hx rfl (pc0 := 48) (pc' := 55) rfl (hb hby at_48) rfl (XT.i0_ne_t hc113) (by decide) (by decide) k) ?_
                show Go p e below s _ _ _ T112 (mkF m 55 #[.val (.int x0), .val (.int x1), .val (.int x2), .val (.int x3), .val (.ref o4), .val (.int x2), .val (.ref o3)] [(.int (fHold3 x1 x2))])
                refine go_st (fun _ k => XT.iconstV X112.here hx rfl (0 : Int32) (hb hby at_55) (by decide) k) ?_
                show Go p e below s _ _ _ T112 (mkF m 56 #[.val (.int x0), .val (.int x1), .val (.int x2), .val (.int x3), .val (.ref o4), .val (.int x2), .val (.ref o3)] [(.int (0 : Int32)), (.int (fHold3 x1 x2))])
                by_cases hc115 : (fHold3 x1 x2) = (0 : Int32)
                · rw [if_pos hc115]
                  refine go_st (fun _ k => XS.icmpNo X112.here hx rfl (hb hby at_56) rfl (XT.ii_ne_f hc115) k) ?_
                  show Go p e below s _ _ _ T112 (mkF m 59 #[.val (.int x0), .val (.int x1), .val (.int x2), .val (.int x3), .val (.ref o4), .val (.int x2), .val (.ref o3)] [])
                  refine go_st (fun _ k => XT.iconstV X112.here hx rfl (1 : Int32) (hb hby at_59) (by decide) k) ?_
                  show Go p e below s _ _ _ T112 (mkF m 60 #[.val (.int x0), .val (.int x1), .val (.int x2), .val (.int x3), .val (.ref o4), .val (.int x2), .val (.ref o3)] [(.int (1 : Int32))])
                  refine go_st (fun _ k => XS.goto X112.here hx rfl (pc0 := 60) (pc' := 64) rfl (hb hby at_60) (by decide) (by decide) k) ?_
                  show Go p e below s _ _ _ T112 (mkF m 64 #[.val (.int x0), .val (.int x1), .val (.int x2), .val (.int x3), .val (.ref o4), .val (.int x2), .val (.ref o3)] [(.int (1 : Int32))])
                  exact go_retB (w := (1 : Int32)) X112 hx hlk hret (hb hby at_64) (by decide) (by decide) (by decide) ⟨rfl, N112⟩
                · rw [if_neg hc115]
                  refine go_st (fun _ k => XS.icmpYes X112.here hx rfl (pc0 := 56) (pc' := 63) rfl (hb hby at_56) rfl (XT.ii_ne_t hc115) (by decide) (by decide) k) ?_
                  show Go p e below s _ _ _ T112 (mkF m 63 #[.val (.int x0), .val (.int x1), .val (.int x2), .val (.int x3), .val (.ref o4), .val (.int x2), .val (.ref o3)] [])
                  refine go_st (fun _ k => XT.iconstV X112.here hx rfl (0 : Int32) (hb hby at_63) (by decide) k) ?_
                  show Go p e below s _ _ _ T112 (mkF m 64 #[.val (.int x0), .val (.int x1), .val (.int x2), .val (.int x3), .val (.ref o4), .val (.int x2), .val (.ref o3)] [(.int (0 : Int32))])
                  exact go_retB (w := (0 : Int32)) X112 hx hlk hret (hb hby at_64) (by decide) (by decide) (by decide) ⟨rfl, N112⟩
            · rw [if_neg hc109]
              refine go_st (fun _ k => XS.ifNo X108.here hx rfl (hb hby at_15) rfl (XT.i0_eq_f hc109) k) ?_
              show Go p e below s _ _ _ T108 (mkF m 18 #[.val (.int x0), .val (.int x1), .val (.int x2), .val (.int x3), .val (.ref o4), .unset, .unset] [])
              refine go_st (fun _ k => XS.iloadN X108.here hx rfl (hb hby at_18) rfl k) ?_
              show Go p e below s _ _ _ T108 (mkF m 19 #[.val (.int x0), .val (.int x1), .val (.int x2), .val (.int x3), .val (.ref o4), .unset, .unset] [(.int x1)])
              refine go_st (fun _ k => XS.goto X108.here hx rfl (pc0 := 19) (pc' := 23) rfl (hb hby at_19) (by decide) (by decide) k) ?_
              show Go p e below s _ _ _ T108 (mkF m 23 #[.val (.int x0), .val (.int x1), .val (.int x2), .val (.int x3), .val (.ref o4), .unset, .unset] [(.int x1)])
              refine go_st (fun _ k => XS.istore X108.here hx rfl (hb hby at_23) rfl (l' := #[.val (.int x0), .val (.int x1), .val (.int x2), .val (.int x3), .val (.ref o4), .val (.int x1), .unset]) rfl k) ?_
              show Go p e below s _ _ _ T108 (mkF m 25 #[.val (.int x0), .val (.int x1), .val (.int x2), .val (.int x3), .val (.ref o4), .val (.int x1), .unset] [])
              refine go_st (fun _ k => XS.aload X108.here hx rfl (hb hby at_25) rfl rfl k) ?_
              show Go p e below s _ _ _ T108 (mkF m 27 #[.val (.int x0), .val (.int x1), .val (.int x2), .val (.int x3), .val (.ref o4), .val (.int x1), .unset] [(.ref o4)])
              refine go_callV X108 hx hZ hml hown (hw _ (List.mem_of_getElem? (i := 8) rfl)) (hw _ (List.mem_of_getElem? (i := 9) rfl)) (notFace_of_selects (args := #[]) (mvT hZ (hw _ (List.mem_of_getElem? (i := 11) rfl)))) (hw _ (List.mem_of_getElem? (i := 11) rfl)) (hw _ (List.mem_of_getElem? (i := 10) rfl)) (hw _ (List.mem_of_getElem? (i := 12) rfl)) (hw _ (List.mem_of_getElem? (i := 6) rfl)) e108 E4 (argsL := []) (rest := []) (W := 0) (met_neg4 l Z a0 hw o4 o3 h0 n0 Z0 E4 F4 S3) (hb hby at_27) rfl rfl rfl (lenOf pd2 rfl) (by show 2 * 0 + _ ≤ _; exact Nat.le_of_eq rfl) (by decide) (by decide) (by decide) (by decide) (by decide) ?_
              intro T116 v116 L116 X116 q116
              obtain ⟨rfl, M116, e116⟩ := q116
              have N116 := Fr.app N108 M116
              show Go p e below s _ _ _ T116 (mkF m 30 #[.val (.int x0), .val (.int x1), .val (.int x2), .val (.int x3), .val (.ref o4), .val (.int x1), .unset] [(.ref o3)])
              refine go_st (fun _ k => XS.astore X116.here hx rfl (hb hby at_30) rfl rfl (l' := #[.val (.int x0), .val (.int x1), .val (.int x2), .val (.int x3), .val (.ref o4), .val (.int x1), .val (.ref o3)]) rfl k) ?_
              show Go p e below s _ _ _ T116 (mkF m 32 #[.val (.int x0), .val (.int x1), .val (.int x2), .val (.int x3), .val (.ref o4), .val (.int x1), .val (.ref o3)] [])
              refine go_st (fun _ k => XS.aload X116.here hx rfl (hb hby at_32) rfl rfl k) ?_
              show Go p e below s _ _ _ T116 (mkF m 34 #[.val (.int x0), .val (.int x1), .val (.int x2), .val (.int x3), .val (.ref o4), .val (.int x1), .val (.ref o3)] [(.ref o3)])
              refine go_st (fun _ k => XS.iloadN X116.here hx rfl (hb hby at_34) rfl k) ?_
              show Go p e below s _ _ _ T116 (mkF m 35 #[.val (.int x0), .val (.int x1), .val (.int x2), .val (.int x3), .val (.ref o4), .val (.int x1), .val (.ref o3)] [(.int x1), (.ref o3)])
              refine go_st (fun _ k => XS.iload X116.here hx rfl (hb hby at_35) rfl k) ?_
              show Go p e below s _ _ _ T116 (mkF m 37 #[.val (.int x0), .val (.int x1), .val (.int x2), .val (.int x3), .val (.ref o4), .val (.int x1), .val (.ref o3)] [(.int x1), (.int x1), (.ref o3)])
              refine go_callS X116 hx hZ hml hown (hw _ (List.mem_of_getElem? (i := 24) rfl)) (hw _ (List.mem_of_getElem? (i := 25) rfl)) (hw _ (List.mem_of_getElem? (i := 3) rfl)) (hw _ (List.mem_of_getElem? (i := 26) rfl)) e116 (argsL := [(.ref o3), (.int x1), (.int x1)]) (rest := []) (W := 0) (met_hol3 l Z a0 hw o3 x1 x1 o0 o1 o2 h0 n0 Z0 S0 S1 S2 S3 ne_3_0 ne_3_1 ne_3_2) (hb hby at_37) rfl rfl rfl (lenOf pd3 rfl) (by show 2 * 0 + _ ≤ _; exact Nat.le_of_eq rfl) (by decide) (by decide) (by decide) (by decide) (by decide) ?_
              intro T117 v117 L117 X117 q117
              obtain ⟨rfl, M117, e117⟩ := q117
              have N117 := Fr.app N116 M117
              show Go p e below s _ _ _ T117 (mkF m 40 #[.val (.int x0), .val (.int x1), .val (.int x2), .val (.int x3), .val (.ref o4), .val (.int x1), .val (.ref o3)] [(.int (fHold3 x1 x1))])
              refine go_st (fun _ k => XS.aload X117.here hx rfl (hb hby at_40) rfl rfl k) ?_
              show Go p e below s _ _ _ T117 (mkF m 42 #[.val (.int x0), .val (.int x1), .val (.int x2), .val (.int x3), .val (.ref o4), .val (.int x1), .val (.ref o3)] [(.ref o4), (.int (fHold3 x1 x1))])
              refine go_st (fun _ k => XS.iloadN X117.here hx rfl (hb hby at_42) rfl k) ?_
              show Go p e below s _ _ _ T117 (mkF m 43 #[.val (.int x0), .val (.int x1), .val (.int x2), .val (.int x3), .val (.ref o4), .val (.int x1), .val (.ref o3)] [(.int x1), (.ref o4), (.int (fHold3 x1 x1))])
              refine go_st (fun _ k => XS.iload X117.here hx rfl (hb hby at_43) rfl k) ?_
              show Go p e below s _ _ _ T117 (mkF m 45 #[.val (.int x0), .val (.int x1), .val (.int x2), .val (.int x3), .val (.ref o4), .val (.int x1), .val (.ref o3)] [(.int x1), (.int x1), (.ref o4), (.int (fHold3 x1 x1))])
              refine go_callS X117 hx hZ hml hown (hw _ (List.mem_of_getElem? (i := 24) rfl)) (hw _ (List.mem_of_getElem? (i := 25) rfl)) (hw _ (List.mem_of_getElem? (i := 3) rfl)) (hw _ (List.mem_of_getElem? (i := 26) rfl)) e117 (argsL := [(.ref o4), (.int x1), (.int x1)]) (rest := [(.int (fHold3 x1 x1))]) (W := 1) (met_hol4 l Z a0 hw o4 x1 x1 o0 o1 o2 o3 h0 n0 Z0 S0 S1 S2 S3 S4 ne_4_0 ne_4_1 ne_4_2 ne_4_3) (hb hby at_45) rfl rfl rfl (lenOf pd3 rfl) (by show 2 * 0 + _ ≤ _; exact Nat.le_of_eq rfl) (by decide) (by decide) (by decide) (by decide) (by decide) ?_
              intro T118 v118 L118 X118 q118
              obtain ⟨rfl, M118, e118⟩ := q118
              have N118 := Fr.app N117 M118
              show Go p e below s _ _ _ T118 (mkF m 48 #[.val (.int x0), .val (.int x1), .val (.int x2), .val (.int x3), .val (.ref o4), .val (.int x1), .val (.ref o3)] [(.int (fHold4 x1 x1)), (.int (fHold3 x1 x1))])
              by_cases hc119 : (fHold4 x1 x1) = (0 : Int32)
              · rw [if_pos hc119]
                refine go_st (fun _ k => XS.ifNo X118.here hx rfl (hb hby at_48) rfl (XT.i0_ne_f hc119) k) ?_
                show Go p e below s _ _ _ T118 (mkF m 51 #[.val (.int x0), .val (.int x1), .val (.int x2), .val (.int x3), .val (.ref o4), .val (.int x1), .val (.ref o3)] [(.int (fHold3 x1 x1))])
                refine go_st (fun _ k => XT.iconstV X118.here hx rfl (1 : Int32) (hb hby at_51) (by decide) k) ?_
                show Go p e below s _ _ _ T118 (mkF m 52 #[.val (.int x0), .val (.int x1), .val (.int x2), .val (.int x3), .val (.ref o4), .val (.int x1), .val (.ref o3)] [(.int (1 : Int32)), (.int (fHold3 x1 x1))])
                refine go_st (fun _ k => XS.goto X118.here hx rfl (pc0 := 52) (pc' := 56) rfl (hb hby at_52) (by decide) (by decide) k) ?_
                show Go p e below s _ _ _ T118 (mkF m 56 #[.val (.int x0), .val (.int x1), .val (.int x2), .val (.int x3), .val (.ref o4), .val (.int x1), .val (.ref o3)] [(.int (1 : Int32)), (.int (fHold3 x1 x1))])
                by_cases hc120 : (fHold3 x1 x1) = (1 : Int32)
                · rw [if_pos hc120]
                  refine go_st (fun _ k => XS.icmpNo X118.here hx rfl (hb hby at_56) rfl (XT.ii_ne_f hc120) k) ?_
                  show Go p e below s _ _ _ T118 (mkF m 59 #[.val (.int x0), .val (.int x1), .val (.int x2), .val (.int x3), .val (.ref o4), .val (.int x1), .val (.ref o3)] [])
                  refine go_st (fun _ k => XT.iconstV X118.here hx rfl (1 : Int32) (hb hby at_59) (by decide) k) ?_
                  show Go p e below s _ _ _ T118 (mkF m 60 #[.val (.int x0), .val (.int x1), .val (.int x2), .val (.int x3), .val (.ref o4), .val (.int x1), .val (.ref o3)] [(.int (1 : Int32))])
                  refine go_st (fun _ k => XS.goto X118.here hx rfl (pc0 := 60) (pc' := 64) rfl (hb hby at_60) (by decide) (by decide) k) ?_
                  show Go p e below s _ _ _ T118 (mkF m 64 #[.val (.int x0), .val (.int x1), .val (.int x2), .val (.int x3), .val (.ref o4), .val (.int x1), .val (.ref o3)] [(.int (1 : Int32))])
                  exact go_retB (w := (1 : Int32)) X118 hx hlk hret (hb hby at_64) (by decide) (by decide) (by decide) ⟨rfl, N118⟩
                · rw [if_neg hc120]
                  refine go_st (fun _ k => XS.icmpYes X118.here hx rfl (pc0 := 56) (pc' := 63) rfl (hb hby at_56) rfl (XT.ii_ne_t hc120) (by decide) (by decide) k) ?_
                  show Go p e below s _ _ _ T118 (mkF m 63 #[.val (.int x0), .val (.int x1), .val (.int x2), .val (.int x3), .val (.ref o4), .val (.int x1), .val (.ref o3)] [])
                  refine go_st (fun _ k => XT.iconstV X118.here hx rfl (0 : Int32) (hb hby at_63) (by decide) k) ?_
                  show Go p e below s _ _ _ T118 (mkF m 64 #[.val (.int x0), .val (.int x1), .val (.int x2), .val (.int x3), .val (.ref o4), .val (.int x1), .val (.ref o3)] [(.int (0 : Int32))])
                  exact go_retB (w := (0 : Int32)) X118 hx hlk hret (hb hby at_64) (by decide) (by decide) (by decide) ⟨rfl, N118⟩
              · rw [if_neg hc119]
                refine go_st (fun _ k => XS.ifYes X118.here hx rfl (pc0 := 48) (pc' := 55) rfl (hb hby at_48) rfl (XT.i0_ne_t hc119) (by decide) (by decide) k) ?_
                show Go p e below s _ _ _ T118 (mkF m 55 #[.val (.int x0), .val (.int x1), .val (.int x2), .val (.int x3), .val (.ref o4), .val (.int x1), .val (.ref o3)] [(.int (fHold3 x1 x1))])
                refine go_st (fun _ k => XT.iconstV X118.here hx rfl (0 : Int32) (hb hby at_55) (by decide) k) ?_
                show Go p e below s _ _ _ T118 (mkF m 56 #[.val (.int x0), .val (.int x1), .val (.int x2), .val (.int x3), .val (.ref o4), .val (.int x1), .val (.ref o3)] [(.int (0 : Int32)), (.int (fHold3 x1 x1))])
                by_cases hc121 : (fHold3 x1 x1) = (0 : Int32)
                · rw [if_pos hc121]
                  refine go_st (fun _ k => XS.icmpNo X118.here hx rfl (hb hby at_56) rfl (XT.ii_ne_f hc121) k) ?_
                  show Go p e below s _ _ _ T118 (mkF m 59 #[.val (.int x0), .val (.int x1), .val (.int x2), .val (.int x3), .val (.ref o4), .val (.int x1), .val (.ref o3)] [])
                  refine go_st (fun _ k => XT.iconstV X118.here hx rfl (1 : Int32) (hb hby at_59) (by decide) k) ?_
                  show Go p e below s _ _ _ T118 (mkF m 60 #[.val (.int x0), .val (.int x1), .val (.int x2), .val (.int x3), .val (.ref o4), .val (.int x1), .val (.ref o3)] [(.int (1 : Int32))])
                  refine go_st (fun _ k => XS.goto X118.here hx rfl (pc0 := 60) (pc' := 64) rfl (hb hby at_60) (by decide) (by decide) k) ?_
                  show Go p e below s _ _ _ T118 (mkF m 64 #[.val (.int x0), .val (.int x1), .val (.int x2), .val (.int x3), .val (.ref o4), .val (.int x1), .val (.ref o3)] [(.int (1 : Int32))])
                  exact go_retB (w := (1 : Int32)) X118 hx hlk hret (hb hby at_64) (by decide) (by decide) (by decide) ⟨rfl, N118⟩
                · rw [if_neg hc121]
                  refine go_st (fun _ k => XS.icmpYes X118.here hx rfl (pc0 := 56) (pc' := 63) rfl (hb hby at_56) rfl (XT.ii_ne_t hc121) (by decide) (by decide) k) ?_
                  show Go p e below s _ _ _ T118 (mkF m 63 #[.val (.int x0), .val (.int x1), .val (.int x2), .val (.int x3), .val (.ref o4), .val (.int x1), .val (.ref o3)] [])
                  refine go_st (fun _ k => XT.iconstV X118.here hx rfl (0 : Int32) (hb hby at_63) (by decide) k) ?_
                  show Go p e below s _ _ _ T118 (mkF m 64 #[.val (.int x0), .val (.int x1), .val (.int x2), .val (.int x3), .val (.ref o4), .val (.int x1), .val (.ref o3)] [(.int (0 : Int32))])
                  exact go_retB (w := (0 : Int32)) X118 hx hlk hret (hb hby at_64) (by decide) (by decide) (by decide) ⟨rfl, N118⟩
          · rw [if_neg hk107]
            by_cases hk122 : ((x0 &&& (2147483647 : Int32)) % (6 : Int32)) = (5 : Int32)
            · rw [if_pos hk122]
              rw [hk122]
              show Go p e below s _ _ _ s₁ (mkF m 7 #[.val (.int x0), .val (.int x1), .val (.int x2), .val (.int x3), .unset, .unset, .unset] [(.int (5 : Int32))])
              refine go_callS X0 hx hZ hml hown (hw _ (List.mem_of_getElem? (i := 1) rfl)) (hw _ (List.mem_of_getElem? (i := 2) rfl)) (hw _ (List.mem_of_getElem? (i := 3) rfl)) (hw _ (List.mem_of_getElem? (i := 4) rfl)) e0 (argsL := [(.int (5 : Int32))]) (rest := []) (W := 0) (met_pick5 l Z a0 hw o5 h0 n0 Z0 S5) (hb hby at_7) rfl rfl rfl (lenOf pd1 rfl) (by show 2 * 0 + _ ≤ _; exact Nat.le_of_eq rfl) (by decide) (by decide) (by decide) (by decide) (by decide) ?_
              intro T123 v123 L123 X123 q123
              obtain ⟨rfl, M123, e123⟩ := q123
              have N123 := Fr.app N0 M123
              show Go p e below s _ _ _ T123 (mkF m 10 #[.val (.int x0), .val (.int x1), .val (.int x2), .val (.int x3), .unset, .unset, .unset] [(.ref o5)])
              refine go_st (fun _ k => XS.astore X123.here hx rfl (hb hby at_10) rfl rfl (l' := #[.val (.int x0), .val (.int x1), .val (.int x2), .val (.int x3), .val (.ref o5), .unset, .unset]) rfl k) ?_
              show Go p e below s _ _ _ T123 (mkF m 12 #[.val (.int x0), .val (.int x1), .val (.int x2), .val (.int x3), .val (.ref o5), .unset, .unset] [])
              refine go_st (fun _ k => XS.iloadN X123.here hx rfl (hb hby at_12) rfl k) ?_
              show Go p e below s _ _ _ T123 (mkF m 13 #[.val (.int x0), .val (.int x1), .val (.int x2), .val (.int x3), .val (.ref o5), .unset, .unset] [(.int x3)])
              refine go_st (fun _ k => XT.iconstV X123.here hx rfl (1 : Int32) (hb hby at_13) (by decide) k) ?_
              show Go p e below s _ _ _ T123 (mkF m 14 #[.val (.int x0), .val (.int x1), .val (.int x2), .val (.int x3), .val (.ref o5), .unset, .unset] [(.int (1 : Int32)), (.int x3)])
              refine go_st (fun _ k => XS.iand X123.here hx rfl (hb hby at_14) rfl k) ?_
              show Go p e below s _ _ _ T123 (mkF m 15 #[.val (.int x0), .val (.int x1), .val (.int x2), .val (.int x3), .val (.ref o5), .unset, .unset] [(.int (x3 &&& (1 : Int32)))])
              by_cases hc124 : (x3 &&& (1 : Int32)) = (0 : Int32)
              · rw [if_pos hc124]
                refine go_st (fun _ k => XS.ifYes X123.here hx rfl (pc0 := 15) (pc' := 22) rfl (hb hby at_15) rfl (XT.i0_eq_t hc124) (by decide) (by decide) k) ?_
                show Go p e below s _ _ _ T123 (mkF m 22 #[.val (.int x0), .val (.int x1), .val (.int x2), .val (.int x3), .val (.ref o5), .unset, .unset] [])
                refine go_st (fun _ k => XS.iloadN X123.here hx rfl (hb hby at_22) rfl k) ?_
                show Go p e below s _ _ _ T123 (mkF m 23 #[.val (.int x0), .val (.int x1), .val (.int x2), .val (.int x3), .val (.ref o5), .unset, .unset] [(.int x2)])
                refine go_st (fun _ k => XS.istore X123.here hx rfl (hb hby at_23) rfl (l' := #[.val (.int x0), .val (.int x1), .val (.int x2), .val (.int x3), .val (.ref o5), .val (.int x2), .unset]) rfl k) ?_
                show Go p e below s _ _ _ T123 (mkF m 25 #[.val (.int x0), .val (.int x1), .val (.int x2), .val (.int x3), .val (.ref o5), .val (.int x2), .unset] [])
                refine go_st (fun _ k => XS.aload X123.here hx rfl (hb hby at_25) rfl rfl k) ?_
                show Go p e below s _ _ _ T123 (mkF m 27 #[.val (.int x0), .val (.int x1), .val (.int x2), .val (.int x3), .val (.ref o5), .val (.int x2), .unset] [(.ref o5)])
                refine go_callV X123 hx hZ hml hown (hw _ (List.mem_of_getElem? (i := 8) rfl)) (hw _ (List.mem_of_getElem? (i := 9) rfl)) (notFace_of_selects (args := #[]) (mvT hZ (hw _ (List.mem_of_getElem? (i := 11) rfl)))) (hw _ (List.mem_of_getElem? (i := 11) rfl)) (hw _ (List.mem_of_getElem? (i := 10) rfl)) (hw _ (List.mem_of_getElem? (i := 12) rfl)) (hw _ (List.mem_of_getElem? (i := 6) rfl)) e123 E5 (argsL := []) (rest := []) (W := 0) (met_neg5 l Z a0 hw o5 o2 h0 n0 Z0 E5 F5 S2) (hb hby at_27) rfl rfl rfl (lenOf pd2 rfl) (by show 2 * 0 + _ ≤ _; exact Nat.le_of_eq rfl) (by decide) (by decide) (by decide) (by decide) (by decide) ?_
                intro T125 v125 L125 X125 q125
                obtain ⟨rfl, M125, e125⟩ := q125
                have N125 := Fr.app N123 M125
                show Go p e below s _ _ _ T125 (mkF m 30 #[.val (.int x0), .val (.int x1), .val (.int x2), .val (.int x3), .val (.ref o5), .val (.int x2), .unset] [(.ref o2)])
                refine go_st (fun _ k => XS.astore X125.here hx rfl (hb hby at_30) rfl rfl (l' := #[.val (.int x0), .val (.int x1), .val (.int x2), .val (.int x3), .val (.ref o5), .val (.int x2), .val (.ref o2)]) rfl k) ?_
                show Go p e below s _ _ _ T125 (mkF m 32 #[.val (.int x0), .val (.int x1), .val (.int x2), .val (.int x3), .val (.ref o5), .val (.int x2), .val (.ref o2)] [])
                refine go_st (fun _ k => XS.aload X125.here hx rfl (hb hby at_32) rfl rfl k) ?_
                show Go p e below s _ _ _ T125 (mkF m 34 #[.val (.int x0), .val (.int x1), .val (.int x2), .val (.int x3), .val (.ref o5), .val (.int x2), .val (.ref o2)] [(.ref o2)])
                refine go_st (fun _ k => XS.iloadN X125.here hx rfl (hb hby at_34) rfl k) ?_
                show Go p e below s _ _ _ T125 (mkF m 35 #[.val (.int x0), .val (.int x1), .val (.int x2), .val (.int x3), .val (.ref o5), .val (.int x2), .val (.ref o2)] [(.int x1), (.ref o2)])
                refine go_st (fun _ k => XS.iload X125.here hx rfl (hb hby at_35) rfl k) ?_
                show Go p e below s _ _ _ T125 (mkF m 37 #[.val (.int x0), .val (.int x1), .val (.int x2), .val (.int x3), .val (.ref o5), .val (.int x2), .val (.ref o2)] [(.int x2), (.int x1), (.ref o2)])
                refine go_callS X125 hx hZ hml hown (hw _ (List.mem_of_getElem? (i := 24) rfl)) (hw _ (List.mem_of_getElem? (i := 25) rfl)) (hw _ (List.mem_of_getElem? (i := 3) rfl)) (hw _ (List.mem_of_getElem? (i := 26) rfl)) e125 (argsL := [(.ref o2), (.int x1), (.int x2)]) (rest := []) (W := 0) (met_hol2 l Z a0 hw o2 x1 x2 o0 o1 h0 n0 Z0 S0 S1 S2 ne_2_0 ne_2_1) (hb hby at_37) rfl rfl rfl (lenOf pd3 rfl) (by show 2 * 0 + _ ≤ _; exact Nat.le_of_eq rfl) (by decide) (by decide) (by decide) (by decide) (by decide) ?_
                intro T126 v126 L126 X126 q126
                obtain ⟨rfl, M126, e126⟩ := q126
                have N126 := Fr.app N125 M126
                show Go p e below s _ _ _ T126 (mkF m 40 #[.val (.int x0), .val (.int x1), .val (.int x2), .val (.int x3), .val (.ref o5), .val (.int x2), .val (.ref o2)] [(.int (fHold2 x1 x2))])
                refine go_st (fun _ k => XS.aload X126.here hx rfl (hb hby at_40) rfl rfl k) ?_
                show Go p e below s _ _ _ T126 (mkF m 42 #[.val (.int x0), .val (.int x1), .val (.int x2), .val (.int x3), .val (.ref o5), .val (.int x2), .val (.ref o2)] [(.ref o5), (.int (fHold2 x1 x2))])
                refine go_st (fun _ k => XS.iloadN X126.here hx rfl (hb hby at_42) rfl k) ?_
                show Go p e below s _ _ _ T126 (mkF m 43 #[.val (.int x0), .val (.int x1), .val (.int x2), .val (.int x3), .val (.ref o5), .val (.int x2), .val (.ref o2)] [(.int x1), (.ref o5), (.int (fHold2 x1 x2))])
                refine go_st (fun _ k => XS.iload X126.here hx rfl (hb hby at_43) rfl k) ?_
                show Go p e below s _ _ _ T126 (mkF m 45 #[.val (.int x0), .val (.int x1), .val (.int x2), .val (.int x3), .val (.ref o5), .val (.int x2), .val (.ref o2)] [(.int x2), (.int x1), (.ref o5), (.int (fHold2 x1 x2))])
                refine go_callS X126 hx hZ hml hown (hw _ (List.mem_of_getElem? (i := 24) rfl)) (hw _ (List.mem_of_getElem? (i := 25) rfl)) (hw _ (List.mem_of_getElem? (i := 3) rfl)) (hw _ (List.mem_of_getElem? (i := 26) rfl)) e126 (argsL := [(.ref o5), (.int x1), (.int x2)]) (rest := [(.int (fHold2 x1 x2))]) (W := 1) (met_hol5 l Z a0 hw o5 x1 x2 o0 o1 o2 o3 o4 h0 n0 Z0 S0 S1 S2 S3 S4 S5 ne_5_0 ne_5_1 ne_5_2 ne_5_3 ne_5_4) (hb hby at_45) rfl rfl rfl (lenOf pd3 rfl) (by show 2 * 0 + _ ≤ _; exact Nat.le_of_eq rfl) (by decide) (by decide) (by decide) (by decide) (by decide) ?_
                intro T127 v127 L127 X127 q127
                obtain ⟨rfl, M127, e127⟩ := q127
                have N127 := Fr.app N126 M127
                show Go p e below s _ _ _ T127 (mkF m 48 #[.val (.int x0), .val (.int x1), .val (.int x2), .val (.int x3), .val (.ref o5), .val (.int x2), .val (.ref o2)] [(.int (fHold5 x1 x2)), (.int (fHold2 x1 x2))])
                by_cases hc128 : (fHold5 x1 x2) = (0 : Int32)
                · rw [if_pos hc128]
                  refine go_st (fun _ k => XS.ifNo X127.here hx rfl (hb hby at_48) rfl (XT.i0_ne_f hc128) k) ?_
                  show Go p e below s _ _ _ T127 (mkF m 51 #[.val (.int x0), .val (.int x1), .val (.int x2), .val (.int x3), .val (.ref o5), .val (.int x2), .val (.ref o2)] [(.int (fHold2 x1 x2))])
                  refine go_st (fun _ k => XT.iconstV X127.here hx rfl (1 : Int32) (hb hby at_51) (by decide) k) ?_
                  show Go p e below s _ _ _ T127 (mkF m 52 #[.val (.int x0), .val (.int x1), .val (.int x2), .val (.int x3), .val (.ref o5), .val (.int x2), .val (.ref o2)] [(.int (1 : Int32)), (.int (fHold2 x1 x2))])
                  refine go_st (fun _ k => XS.goto X127.here hx rfl (pc0 := 52) (pc' := 56) rfl (hb hby at_52) (by decide) (by decide) k) ?_
                  show Go p e below s _ _ _ T127 (mkF m 56 #[.val (.int x0), .val (.int x1), .val (.int x2), .val (.int x3), .val (.ref o5), .val (.int x2), .val (.ref o2)] [(.int (1 : Int32)), (.int (fHold2 x1 x2))])
                  by_cases hc129 : (fHold2 x1 x2) = (1 : Int32)
                  · rw [if_pos hc129]
                    refine go_st (fun _ k => XS.icmpNo X127.here hx rfl (hb hby at_56) rfl (XT.ii_ne_f hc129) k) ?_
                    show Go p e below s _ _ _ T127 (mkF m 59 #[.val (.int x0), .val (.int x1), .val (.int x2), .val (.int x3), .val (.ref o5), .val (.int x2), .val (.ref o2)] [])
                    refine go_st (fun _ k => XT.iconstV X127.here hx rfl (1 : Int32) (hb hby at_59) (by decide) k) ?_
                    show Go p e below s _ _ _ T127 (mkF m 60 #[.val (.int x0), .val (.int x1), .val (.int x2), .val (.int x3), .val (.ref o5), .val (.int x2), .val (.ref o2)] [(.int (1 : Int32))])
                    refine go_st (fun _ k => XS.goto X127.here hx rfl (pc0 := 60) (pc' := 64) rfl (hb hby at_60) (by decide) (by decide) k) ?_
                    show Go p e below s _ _ _ T127 (mkF m 64 #[.val (.int x0), .val (.int x1), .val (.int x2), .val (.int x3), .val (.ref o5), .val (.int x2), .val (.ref o2)] [(.int (1 : Int32))])
                    exact go_retB (w := (1 : Int32)) X127 hx hlk hret (hb hby at_64) (by decide) (by decide) (by decide) ⟨rfl, N127⟩
                  · rw [if_neg hc129]
                    refine go_st (fun _ k => XS.icmpYes X127.here hx rfl (pc0 := 56) (pc' := 63) rfl (hb hby at_56) rfl (XT.ii_ne_t hc129) (by decide) (by decide) k) ?_
                    show Go p e below s _ _ _ T127 (mkF m 63 #[.val (.int x0), .val (.int x1), .val (.int x2), .val (.int x3), .val (.ref o5), .val (.int x2), .val (.ref o2)] [])
                    refine go_st (fun _ k => XT.iconstV X127.here hx rfl (0 : Int32) (hb hby at_63) (by decide) k) ?_
                    show Go p e below s _ _ _ T127 (mkF m 64 #[.val (.int x0), .val (.int x1), .val (.int x2), .val (.int x3), .val (.ref o5), .val (.int x2), .val (.ref o2)] [(.int (0 : Int32))])
                    exact go_retB (w := (0 : Int32)) X127 hx hlk hret (hb hby at_64) (by decide) (by decide) (by decide) ⟨rfl, N127⟩
                · rw [if_neg hc128]
                  refine go_st (fun _ k => XS.ifYes X127.here hx rfl (pc0 := 48) (pc' := 55) rfl (hb hby at_48) rfl (XT.i0_ne_t hc128) (by decide) (by decide) k) ?_
                  show Go p e below s _ _ _ T127 (mkF m 55 #[.val (.int x0), .val (.int x1), .val (.int x2), .val (.int x3), .val (.ref o5), .val (.int x2), .val (.ref o2)] [(.int (fHold2 x1 x2))])
                  refine go_st (fun _ k => XT.iconstV X127.here hx rfl (0 : Int32) (hb hby at_55) (by decide) k) ?_
                  show Go p e below s _ _ _ T127 (mkF m 56 #[.val (.int x0), .val (.int x1), .val (.int x2), .val (.int x3), .val (.ref o5), .val (.int x2), .val (.ref o2)] [(.int (0 : Int32)), (.int (fHold2 x1 x2))])
                  by_cases hc130 : (fHold2 x1 x2) = (0 : Int32)
                  · rw [if_pos hc130]
                    refine go_st (fun _ k => XS.icmpNo X127.here hx rfl (hb hby at_56) rfl (XT.ii_ne_f hc130) k) ?_
                    show Go p e below s _ _ _ T127 (mkF m 59 #[.val (.int x0), .val (.int x1), .val (.int x2), .val (.int x3), .val (.ref o5), .val (.int x2), .val (.ref o2)] [])
                    refine go_st (fun _ k => XT.iconstV X127.here hx rfl (1 : Int32) (hb hby at_59) (by decide) k) ?_
                    show Go p e below s _ _ _ T127 (mkF m 60 #[.val (.int x0), .val (.int x1), .val (.int x2), .val (.int x3), .val (.ref o5), .val (.int x2), .val (.ref o2)] [(.int (1 : Int32))])
                    refine go_st (fun _ k => XS.goto X127.here hx rfl (pc0 := 60) (pc' := 64) rfl (hb hby at_60) (by decide) (by decide) k) ?_
                    show Go p e below s _ _ _ T127 (mkF m 64 #[.val (.int x0), .val (.int x1), .val (.int x2), .val (.int x3), .val (.ref o5), .val (.int x2), .val (.ref o2)] [(.int (1 : Int32))])
                    exact go_retB (w := (1 : Int32)) X127 hx hlk hret (hb hby at_64) (by decide) (by decide) (by decide) ⟨rfl, N127⟩
                  · rw [if_neg hc130]
                    refine go_st (fun _ k => XS.icmpYes X127.here hx rfl (pc0 := 56) (pc' := 63) rfl (hb hby at_56) rfl (XT.ii_ne_t hc130) (by decide) (by decide) k) ?_
                    show Go p e below s _ _ _ T127 (mkF m 63 #[.val (.int x0), .val (.int x1), .val (.int x2), .val (.int x3), .val (.ref o5), .val (.int x2), .val (.ref o2)] [])
                    refine go_st (fun _ k => XT.iconstV X127.here hx rfl (0 : Int32) (hb hby at_63) (by decide) k) ?_
                    show Go p e below s _ _ _ T127 (mkF m 64 #[.val (.int x0), .val (.int x1), .val (.int x2), .val (.int x3), .val (.ref o5), .val (.int x2), .val (.ref o2)] [(.int (0 : Int32))])
                    exact go_retB (w := (0 : Int32)) X127 hx hlk hret (hb hby at_64) (by decide) (by decide) (by decide) ⟨rfl, N127⟩
              · rw [if_neg hc124]
                refine go_st (fun _ k => XS.ifNo X123.here hx rfl (hb hby at_15) rfl (XT.i0_eq_f hc124) k) ?_
                show Go p e below s _ _ _ T123 (mkF m 18 #[.val (.int x0), .val (.int x1), .val (.int x2), .val (.int x3), .val (.ref o5), .unset, .unset] [])
                refine go_st (fun _ k => XS.iloadN X123.here hx rfl (hb hby at_18) rfl k) ?_
                show Go p e below s _ _ _ T123 (mkF m 19 #[.val (.int x0), .val (.int x1), .val (.int x2), .val (.int x3), .val (.ref o5), .unset, .unset] [(.int x1)])
                refine go_st (fun _ k => XS.goto X123.here hx rfl (pc0 := 19) (pc' := 23) rfl (hb hby at_19) (by decide) (by decide) k) ?_
                show Go p e below s _ _ _ T123 (mkF m 23 #[.val (.int x0), .val (.int x1), .val (.int x2), .val (.int x3), .val (.ref o5), .unset, .unset] [(.int x1)])
                refine go_st (fun _ k => XS.istore X123.here hx rfl (hb hby at_23) rfl (l' := #[.val (.int x0), .val (.int x1), .val (.int x2), .val (.int x3), .val (.ref o5), .val (.int x1), .unset]) rfl k) ?_
                show Go p e below s _ _ _ T123 (mkF m 25 #[.val (.int x0), .val (.int x1), .val (.int x2), .val (.int x3), .val (.ref o5), .val (.int x1), .unset] [])
                refine go_st (fun _ k => XS.aload X123.here hx rfl (hb hby at_25) rfl rfl k) ?_
                show Go p e below s _ _ _ T123 (mkF m 27 #[.val (.int x0), .val (.int x1), .val (.int x2), .val (.int x3), .val (.ref o5), .val (.int x1), .unset] [(.ref o5)])
                refine go_callV X123 hx hZ hml hown (hw _ (List.mem_of_getElem? (i := 8) rfl)) (hw _ (List.mem_of_getElem? (i := 9) rfl)) (notFace_of_selects (args := #[]) (mvT hZ (hw _ (List.mem_of_getElem? (i := 11) rfl)))) (hw _ (List.mem_of_getElem? (i := 11) rfl)) (hw _ (List.mem_of_getElem? (i := 10) rfl)) (hw _ (List.mem_of_getElem? (i := 12) rfl)) (hw _ (List.mem_of_getElem? (i := 6) rfl)) e123 E5 (argsL := []) (rest := []) (W := 0) (met_neg5 l Z a0 hw o5 o2 h0 n0 Z0 E5 F5 S2) (hb hby at_27) rfl rfl rfl (lenOf pd2 rfl) (by show 2 * 0 + _ ≤ _; exact Nat.le_of_eq rfl) (by decide) (by decide) (by decide) (by decide) (by decide) ?_
                intro T131 v131 L131 X131 q131
                obtain ⟨rfl, M131, e131⟩ := q131
                have N131 := Fr.app N123 M131
                show Go p e below s _ _ _ T131 (mkF m 30 #[.val (.int x0), .val (.int x1), .val (.int x2), .val (.int x3), .val (.ref o5), .val (.int x1), .unset] [(.ref o2)])
                refine go_st (fun _ k => XS.astore X131.here hx rfl (hb hby at_30) rfl rfl (l' := #[.val (.int x0), .val (.int x1), .val (.int x2), .val (.int x3), .val (.ref o5), .val (.int x1), .val (.ref o2)]) rfl k) ?_
                show Go p e below s _ _ _ T131 (mkF m 32 #[.val (.int x0), .val (.int x1), .val (.int x2), .val (.int x3), .val (.ref o5), .val (.int x1), .val (.ref o2)] [])
                refine go_st (fun _ k => XS.aload X131.here hx rfl (hb hby at_32) rfl rfl k) ?_
                show Go p e below s _ _ _ T131 (mkF m 34 #[.val (.int x0), .val (.int x1), .val (.int x2), .val (.int x3), .val (.ref o5), .val (.int x1), .val (.ref o2)] [(.ref o2)])
                refine go_st (fun _ k => XS.iloadN X131.here hx rfl (hb hby at_34) rfl k) ?_
                show Go p e below s _ _ _ T131 (mkF m 35 #[.val (.int x0), .val (.int x1), .val (.int x2), .val (.int x3), .val (.ref o5), .val (.int x1), .val (.ref o2)] [(.int x1), (.ref o2)])
                refine go_st (fun _ k => XS.iload X131.here hx rfl (hb hby at_35) rfl k) ?_
                show Go p e below s _ _ _ T131 (mkF m 37 #[.val (.int x0), .val (.int x1), .val (.int x2), .val (.int x3), .val (.ref o5), .val (.int x1), .val (.ref o2)] [(.int x1), (.int x1), (.ref o2)])
                refine go_callS X131 hx hZ hml hown (hw _ (List.mem_of_getElem? (i := 24) rfl)) (hw _ (List.mem_of_getElem? (i := 25) rfl)) (hw _ (List.mem_of_getElem? (i := 3) rfl)) (hw _ (List.mem_of_getElem? (i := 26) rfl)) e131 (argsL := [(.ref o2), (.int x1), (.int x1)]) (rest := []) (W := 0) (met_hol2 l Z a0 hw o2 x1 x1 o0 o1 h0 n0 Z0 S0 S1 S2 ne_2_0 ne_2_1) (hb hby at_37) rfl rfl rfl (lenOf pd3 rfl) (by show 2 * 0 + _ ≤ _; exact Nat.le_of_eq rfl) (by decide) (by decide) (by decide) (by decide) (by decide) ?_
                intro T132 v132 L132 X132 q132
                obtain ⟨rfl, M132, e132⟩ := q132
                have N132 := Fr.app N131 M132
                show Go p e below s _ _ _ T132 (mkF m 40 #[.val (.int x0), .val (.int x1), .val (.int x2), .val (.int x3), .val (.ref o5), .val (.int x1), .val (.ref o2)] [(.int (fHold2 x1 x1))])
                refine go_st (fun _ k => XS.aload X132.here hx rfl (hb hby at_40) rfl rfl k) ?_
                show Go p e below s _ _ _ T132 (mkF m 42 #[.val (.int x0), .val (.int x1), .val (.int x2), .val (.int x3), .val (.ref o5), .val (.int x1), .val (.ref o2)] [(.ref o5), (.int (fHold2 x1 x1))])
                refine go_st (fun _ k => XS.iloadN X132.here hx rfl (hb hby at_42) rfl k) ?_
                show Go p e below s _ _ _ T132 (mkF m 43 #[.val (.int x0), .val (.int x1), .val (.int x2), .val (.int x3), .val (.ref o5), .val (.int x1), .val (.ref o2)] [(.int x1), (.ref o5), (.int (fHold2 x1 x1))])
                refine go_st (fun _ k => XS.iload X132.here hx rfl (hb hby at_43) rfl k) ?_
                show Go p e below s _ _ _ T132 (mkF m 45 #[.val (.int x0), .val (.int x1), .val (.int x2), .val (.int x3), .val (.ref o5), .val (.int x1), .val (.ref o2)] [(.int x1), (.int x1), (.ref o5), (.int (fHold2 x1 x1))])
                refine go_callS X132 hx hZ hml hown (hw _ (List.mem_of_getElem? (i := 24) rfl)) (hw _ (List.mem_of_getElem? (i := 25) rfl)) (hw _ (List.mem_of_getElem? (i := 3) rfl)) (hw _ (List.mem_of_getElem? (i := 26) rfl)) e132 (argsL := [(.ref o5), (.int x1), (.int x1)]) (rest := [(.int (fHold2 x1 x1))]) (W := 1) (met_hol5 l Z a0 hw o5 x1 x1 o0 o1 o2 o3 o4 h0 n0 Z0 S0 S1 S2 S3 S4 S5 ne_5_0 ne_5_1 ne_5_2 ne_5_3 ne_5_4) (hb hby at_45) rfl rfl rfl (lenOf pd3 rfl) (by show 2 * 0 + _ ≤ _; exact Nat.le_of_eq rfl) (by decide) (by decide) (by decide) (by decide) (by decide) ?_
                intro T133 v133 L133 X133 q133
                obtain ⟨rfl, M133, e133⟩ := q133
                have N133 := Fr.app N132 M133
                show Go p e below s _ _ _ T133 (mkF m 48 #[.val (.int x0), .val (.int x1), .val (.int x2), .val (.int x3), .val (.ref o5), .val (.int x1), .val (.ref o2)] [(.int (fHold5 x1 x1)), (.int (fHold2 x1 x1))])
                by_cases hc134 : (fHold5 x1 x1) = (0 : Int32)
                · rw [if_pos hc134]
                  refine go_st (fun _ k => XS.ifNo X133.here hx rfl (hb hby at_48) rfl (XT.i0_ne_f hc134) k) ?_
                  show Go p e below s _ _ _ T133 (mkF m 51 #[.val (.int x0), .val (.int x1), .val (.int x2), .val (.int x3), .val (.ref o5), .val (.int x1), .val (.ref o2)] [(.int (fHold2 x1 x1))])
                  refine go_st (fun _ k => XT.iconstV X133.here hx rfl (1 : Int32) (hb hby at_51) (by decide) k) ?_
                  show Go p e below s _ _ _ T133 (mkF m 52 #[.val (.int x0), .val (.int x1), .val (.int x2), .val (.int x3), .val (.ref o5), .val (.int x1), .val (.ref o2)] [(.int (1 : Int32)), (.int (fHold2 x1 x1))])
                  refine go_st (fun _ k => XS.goto X133.here hx rfl (pc0 := 52) (pc' := 56) rfl (hb hby at_52) (by decide) (by decide) k) ?_
                  show Go p e below s _ _ _ T133 (mkF m 56 #[.val (.int x0), .val (.int x1), .val (.int x2), .val (.int x3), .val (.ref o5), .val (.int x1), .val (.ref o2)] [(.int (1 : Int32)), (.int (fHold2 x1 x1))])
                  by_cases hc135 : (fHold2 x1 x1) = (1 : Int32)
                  · rw [if_pos hc135]
                    refine go_st (fun _ k => XS.icmpNo X133.here hx rfl (hb hby at_56) rfl (XT.ii_ne_f hc135) k) ?_
                    show Go p e below s _ _ _ T133 (mkF m 59 #[.val (.int x0), .val (.int x1), .val (.int x2), .val (.int x3), .val (.ref o5), .val (.int x1), .val (.ref o2)] [])
                    refine go_st (fun _ k => XT.iconstV X133.here hx rfl (1 : Int32) (hb hby at_59) (by decide) k) ?_
                    show Go p e below s _ _ _ T133 (mkF m 60 #[.val (.int x0), .val (.int x1), .val (.int x2), .val (.int x3), .val (.ref o5), .val (.int x1), .val (.ref o2)] [(.int (1 : Int32))])
                    refine go_st (fun _ k => XS.goto X133.here hx rfl (pc0 := 60) (pc' := 64) rfl (hb hby at_60) (by decide) (by decide) k) ?_
                    show Go p e below s _ _ _ T133 (mkF m 64 #[.val (.int x0), .val (.int x1), .val (.int x2), .val (.int x3), .val (.ref o5), .val (.int x1), .val (.ref o2)] [(.int (1 : Int32))])
                    exact go_retB (w := (1 : Int32)) X133 hx hlk hret (hb hby at_64) (by decide) (by decide) (by decide) ⟨rfl, N133⟩
                  · rw [if_neg hc135]
                    refine go_st (fun _ k => XS.icmpYes X133.here hx rfl (pc0 := 56) (pc' := 63) rfl (hb hby at_56) rfl (XT.ii_ne_t hc135) (by decide) (by decide) k) ?_
                    show Go p e below s _ _ _ T133 (mkF m 63 #[.val (.int x0), .val (.int x1), .val (.int x2), .val (.int x3), .val (.ref o5), .val (.int x1), .val (.ref o2)] [])
                    refine go_st (fun _ k => XT.iconstV X133.here hx rfl (0 : Int32) (hb hby at_63) (by decide) k) ?_
                    show Go p e below s _ _ _ T133 (mkF m 64 #[.val (.int x0), .val (.int x1), .val (.int x2), .val (.int x3), .val (.ref o5), .val (.int x1), .val (.ref o2)] [(.int (0 : Int32))])
                    exact go_retB (w := (0 : Int32)) X133 hx hlk hret (hb hby at_64) (by decide) (by decide) (by decide) ⟨rfl, N133⟩
                · rw [if_neg hc134]
                  refine go_st (fun _ k => XS.ifYes X133.here hx rfl (pc0 := 48) (pc' := 55) rfl (hb hby at_48) rfl (XT.i0_ne_t hc134) (by decide) (by decide) k) ?_
                  show Go p e below s _ _ _ T133 (mkF m 55 #[.val (.int x0), .val (.int x1), .val (.int x2), .val (.int x3), .val (.ref o5), .val (.int x1), .val (.ref o2)] [(.int (fHold2 x1 x1))])
                  refine go_st (fun _ k => XT.iconstV X133.here hx rfl (0 : Int32) (hb hby at_55) (by decide) k) ?_
                  show Go p e below s _ _ _ T133 (mkF m 56 #[.val (.int x0), .val (.int x1), .val (.int x2), .val (.int x3), .val (.ref o5), .val (.int x1), .val (.ref o2)] [(.int (0 : Int32)), (.int (fHold2 x1 x1))])
                  by_cases hc136 : (fHold2 x1 x1) = (0 : Int32)
                  · rw [if_pos hc136]
                    refine go_st (fun _ k => XS.icmpNo X133.here hx rfl (hb hby at_56) rfl (XT.ii_ne_f hc136) k) ?_
                    show Go p e below s _ _ _ T133 (mkF m 59 #[.val (.int x0), .val (.int x1), .val (.int x2), .val (.int x3), .val (.ref o5), .val (.int x1), .val (.ref o2)] [])
                    refine go_st (fun _ k => XT.iconstV X133.here hx rfl (1 : Int32) (hb hby at_59) (by decide) k) ?_
                    show Go p e below s _ _ _ T133 (mkF m 60 #[.val (.int x0), .val (.int x1), .val (.int x2), .val (.int x3), .val (.ref o5), .val (.int x1), .val (.ref o2)] [(.int (1 : Int32))])
                    refine go_st (fun _ k => XS.goto X133.here hx rfl (pc0 := 60) (pc' := 64) rfl (hb hby at_60) (by decide) (by decide) k) ?_
                    show Go p e below s _ _ _ T133 (mkF m 64 #[.val (.int x0), .val (.int x1), .val (.int x2), .val (.int x3), .val (.ref o5), .val (.int x1), .val (.ref o2)] [(.int (1 : Int32))])
                    exact go_retB (w := (1 : Int32)) X133 hx hlk hret (hb hby at_64) (by decide) (by decide) (by decide) ⟨rfl, N133⟩
                  · rw [if_neg hc136]
                    refine go_st (fun _ k => XS.icmpYes X133.here hx rfl (pc0 := 56) (pc' := 63) rfl (hb hby at_56) rfl (XT.ii_ne_t hc136) (by decide) (by decide) k) ?_
                    show Go p e below s _ _ _ T133 (mkF m 63 #[.val (.int x0), .val (.int x1), .val (.int x2), .val (.int x3), .val (.ref o5), .val (.int x1), .val (.ref o2)] [])
                    refine go_st (fun _ k => XT.iconstV X133.here hx rfl (0 : Int32) (hb hby at_63) (by decide) k) ?_
                    show Go p e below s _ _ _ T133 (mkF m 64 #[.val (.int x0), .val (.int x1), .val (.int x2), .val (.int x3), .val (.ref o5), .val (.int x1), .val (.ref o2)] [(.int (0 : Int32))])
                    exact go_retB (w := (0 : Int32)) X133 hx hlk hret (hb hby at_64) (by decide) (by decide) (by decide) ⟨rfl, N133⟩
            · rw [if_neg hk122]
              exact (own_six x0 hk47 hk62 hk77 hk92 hk107 hk122).elim
theorem own_pair0 (u v : Int32) : (if fHold0 u v = (0 : Int32) then (if fHold1 u v = (1 : Int32) then (1 : Int32) else (0 : Int32)) else (if fHold1 u v = (0 : Int32) then (1 : Int32) else (0 : Int32))) = 1 := by
  unfold fHold0 fHold1
  by_cases h : u = v <;> simp [h]
theorem own_pair1 (u v : Int32) : (if fHold1 u v = (0 : Int32) then (if fHold0 u v = (1 : Int32) then (1 : Int32) else (0 : Int32)) else (if fHold0 u v = (0 : Int32) then (1 : Int32) else (0 : Int32))) = 1 := by
  unfold fHold1 fHold0
  by_cases h : u = v <;> simp [h]
theorem own_pair2 (u v : Int32) : (if fHold2 u v = (0 : Int32) then (if fHold5 u v = (1 : Int32) then (1 : Int32) else (0 : Int32)) else (if fHold5 u v = (0 : Int32) then (1 : Int32) else (0 : Int32))) = 1 := by
  unfold fHold2 fHold5
  by_cases h : u < v <;> simp [h]
theorem own_pair3 (u v : Int32) : (if fHold3 u v = (0 : Int32) then (if fHold4 u v = (1 : Int32) then (1 : Int32) else (0 : Int32)) else (if fHold4 u v = (0 : Int32) then (1 : Int32) else (0 : Int32))) = 1 := by
  unfold fHold3 fHold4
  by_cases h : v < u <;> simp [h]
theorem own_pair4 (u v : Int32) : (if fHold4 u v = (0 : Int32) then (if fHold3 u v = (1 : Int32) then (1 : Int32) else (0 : Int32)) else (if fHold3 u v = (0 : Int32) then (1 : Int32) else (0 : Int32))) = 1 := by
  unfold fHold4 fHold3
  by_cases h : v < u <;> simp [h]
theorem own_pair5 (u v : Int32) : (if fHold5 u v = (0 : Int32) then (if fHold2 u v = (1 : Int32) then (1 : Int32) else (0 : Int32)) else (if fHold2 u v = (0 : Int32) then (1 : Int32) else (0 : Int32))) = 1 := by
  unfold fHold5 fHold2
  by_cases h : u < v <;> simp [h]
theorem own_law (x0 x1 x2 x3 : Int32) : fLaw x0 x1 x2 x3 = 1 := by
  unfold fLaw
  by_cases k0 : (x0 &&& (2147483647 : Int32)) % (6 : Int32) = (0 : Int32)
  · rw [if_pos k0]
    split
    · exact own_pair0 _ _
    · exact own_pair0 _ _
  rw [if_neg k0]
  by_cases k1 : (x0 &&& (2147483647 : Int32)) % (6 : Int32) = (1 : Int32)
  · rw [if_pos k1]
    split
    · exact own_pair1 _ _
    · exact own_pair1 _ _
  rw [if_neg k1]
  by_cases k2 : (x0 &&& (2147483647 : Int32)) % (6 : Int32) = (2 : Int32)
  · rw [if_pos k2]
    split
    · exact own_pair2 _ _
    · exact own_pair2 _ _
  rw [if_neg k2]
  by_cases k3 : (x0 &&& (2147483647 : Int32)) % (6 : Int32) = (3 : Int32)
  · rw [if_pos k3]
    split
    · exact own_pair3 _ _
    · exact own_pair3 _ _
  rw [if_neg k3]
  by_cases k4 : (x0 &&& (2147483647 : Int32)) % (6 : Int32) = (4 : Int32)
  · rw [if_pos k4]
    split
    · exact own_pair4 _ _
    · exact own_pair4 _ _
  rw [if_neg k4]
  by_cases k5 : (x0 &&& (2147483647 : Int32)) % (6 : Int32) = (5 : Int32)
  · rw [if_pos k5]
    split
    · exact own_pair5 _ _
    · exact own_pair5 _ _
  rw [if_neg k5]
  exact (own_six x0 k0 k1 k2 k3 k4 k5).elim

set_option maxRecDepth 65536 in
set_option maxHeartbeats 4000000 in
theorem comes_1 {Post : Tables → Env → Array Value → State → Outcome → State → Prop} (hpost : ∀ tb e args s v u, (limb_1_1.after args s (.returned v) u = true ∧ limb_1_2.after args s (.returned v) u = true ∧ True) → FrameEnd s (.returned v) u (Jvm.fieldLocs frame_1_writes args s ++ Jvm.arrayLocs frame_1_arrays args s ++ Jvm.staticLocs frame_1_statics s) 0 0 → Post tb e args s (.returned v) u) :
    ArmFor flags0 classFile x code maxLocals ret World_1 tables_1 room_1 Calls_1 rest_1 Pre_1 Post := by
  intro l hfl _ _ p e ha hc hk s m args below hf hA hF happ hP
  obtain ⟨hcalls, hrest, hpre⟩ := hP
  obtain ⟨-, -, -, hnamed, -, -, -, hat⟩ := (Spec.applies_iff hf).mp happ
  obtain ⟨hg, hn⟩ := and_e (Cond.before_iff.mp (show (Jvm.Cond.and given_1 narrow_1).before args s = true from hpre))
  obtain ⟨k1, r1⟩ := and_e hg
  obtain ⟨g0, r2⟩ := and_e r1
  obtain ⟨g1, r3⟩ := and_e r2
  obtain ⟨g2, r4⟩ := and_e r3
  have g3 := r4
  obtain ⟨w0, w1, w2, w3, rfl⟩ : ∃ w0 w1 w2 w3 : Value, args = #[w0, w1, w2, w3] := by
    have hs : args.size = 4 := by simpa [Cond.value, given_1] using k1
    obtain ⟨L⟩ := args
    match L, hs with
    | [w0, w1, w2, w3], _ => exact ⟨w0, w1, w2, w3, rfl⟩
  have hw := fun d (hd : d ∈ tables_1) => atoms_spec (ws := Jvm.Cond.code x code maxLocals ret :: tables_1) hat d (List.mem_cons_of_mem _ hd)
  have hfit : Fit s := fun {y c} hc i hi => by
    obtain ⟨ha, rfl⟩ := Array.getElem?_eq_some_iff.mp hc
    have q := List.all_eq_true.mp ((Array.all_eq_true_iff_forall_mem.mp hF) _ (Array.getElem_mem ha)) i (List.mem_range.mpr hi)
    simpa [Array.getElem?_eq_getElem hi] using q
  obtain ⟨i0, f0⟩ := is_v g0
  obtain rfl : w0 = (.int i0) := Option.some.inj f0
  obtain ⟨i1, f1⟩ := is_v g1
  obtain rfl : w1 = (.int i1) := Option.some.inj f1
  obtain ⟨i2, f2⟩ := is_v g2
  obtain rfl : w2 = (.int i2) := Option.some.inj f2
  obtain ⟨i3, f3⟩ := is_v g3
  obtain rfl : w3 = (.int i3) := Option.some.inj f3
  have q0 := hn
  obtain ⟨c0, q1⟩ := and_e q0
  obtain ⟨c1, q2⟩ := and_e q1
  obtain ⟨c2, q3⟩ := and_e q2
  obtain ⟨c3, q4⟩ := and_e q3
  obtain ⟨c4, q5⟩ := and_e q4
  obtain ⟨c5, q6⟩ := and_e q5
  obtain ⟨c6, q7⟩ := and_e q6
  obtain ⟨c7, q8⟩ := and_e q7
  obtain ⟨c8, q9⟩ := and_e q8
  obtain ⟨c9, q10⟩ := and_e q9
  obtain ⟨c10, q11⟩ := and_e q10
  have c11 := q11
  obtain ⟨o0, v0⟩ := exa_v c0
  have S0 : Sta s s.heap "com/example/skipstone/skipstone/prune/Operator" "EQUAL" "Lcom/example/skipstone/skipstone/prune/Operator;" (.ref o0) := Sta.start v0 (Or.inr ⟨(hw _ (List.mem_of_getElem? (i := 6) rfl)), (hw _ (List.mem_of_getElem? (i := 7) rfl))⟩)
  have E0 : Exa s s.heap o0 "com/example/skipstone/skipstone/prune/Operator" := Exa.start v0 c0
  obtain ⟨o1, v1⟩ := exa_v c2
  have S1 : Sta s s.heap "com/example/skipstone/skipstone/prune/Operator" "NOT_EQUAL" "Lcom/example/skipstone/skipstone/prune/Operator;" (.ref o1) := Sta.start v1 (Or.inr ⟨(hw _ (List.mem_of_getElem? (i := 6) rfl)), (hw _ (List.mem_of_getElem? (i := 23) rfl))⟩)
  have E1 : Exa s s.heap o1 "com/example/skipstone/skipstone/prune/Operator" := Exa.start v1 c2
  obtain ⟨o2, v2⟩ := exa_v c8
  have S2 : Sta s s.heap "com/example/skipstone/skipstone/prune/Operator" "LESS" "Lcom/example/skipstone/skipstone/prune/Operator;" (.ref o2) := Sta.start v2 (Or.inr ⟨(hw _ (List.mem_of_getElem? (i := 6) rfl)), (hw _ (List.mem_of_getElem? (i := 34) rfl))⟩)
  have E2 : Exa s s.heap o2 "com/example/skipstone/skipstone/prune/Operator" := Exa.start v2 c8
  obtain ⟨o3, v3⟩ := exa_v c6
  have S3 : Sta s s.heap "com/example/skipstone/skipstone/prune/Operator" "LESS_OR_EQUAL" "Lcom/example/skipstone/skipstone/prune/Operator;" (.ref o3) := Sta.start v3 (Or.inr ⟨(hw _ (List.mem_of_getElem? (i := 6) rfl)), (hw _ (List.mem_of_getElem? (i := 32) rfl))⟩)
  have E3 : Exa s s.heap o3 "com/example/skipstone/skipstone/prune/Operator" := Exa.start v3 c6
  obtain ⟨o4, v4⟩ := exa_v c4
  have S4 : Sta s s.heap "com/example/skipstone/skipstone/prune/Operator" "GREATER" "Lcom/example/skipstone/skipstone/prune/Operator;" (.ref o4) := Sta.start v4 (Or.inr ⟨(hw _ (List.mem_of_getElem? (i := 6) rfl)), (hw _ (List.mem_of_getElem? (i := 30) rfl))⟩)
  have E4 : Exa s s.heap o4 "com/example/skipstone/skipstone/prune/Operator" := Exa.start v4 c4
  obtain ⟨o5, v5⟩ := exa_v c10
  have S5 : Sta s s.heap "com/example/skipstone/skipstone/prune/Operator" "GREATER_OR_EQUAL" "Lcom/example/skipstone/skipstone/prune/Operator;" (.ref o5) := Sta.start v5 (Or.inr ⟨(hw _ (List.mem_of_getElem? (i := 6) rfl)), (hw _ (List.mem_of_getElem? (i := 38) rfl))⟩)
  have E5 : Exa s s.heap o5 "com/example/skipstone/skipstone/prune/Operator" := Exa.start v5 c10
  have F0 : Fld s s.heap o0 "java/lang/Enum" "ordinal" "I" (.int (0 : Int32)) := own_ordf v0 c1
  have F1 : Fld s s.heap o1 "java/lang/Enum" "ordinal" "I" (.int (1 : Int32)) := own_ordf v1 c3
  have F2 : Fld s s.heap o2 "java/lang/Enum" "ordinal" "I" (.int (2 : Int32)) := own_ordf v2 c9
  have F3 : Fld s s.heap o3 "java/lang/Enum" "ordinal" "I" (.int (3 : Int32)) := own_ordf v3 c7
  have F4 : Fld s s.heap o4 "java/lang/Enum" "ordinal" "I" (.int (4 : Int32)) := own_ordf v4 c5
  have F5 : Fld s s.heap o5 "java/lang/Enum" "ordinal" "I" (.int (5 : Int32)) := own_ordf v5 c11
  have hm := met_law l s _ hw i0 i1 i2 i3 s.heap s.heap.size (Nat.le_refl _) o0 o1 o2 o3 o4 o5 S0 S1 S2 S3 S4 S5 E0 E1 E2 E3 E4 E5 F0 F1 F2 F3 F4 F5
  rw [own_law] at hm
  obtain ⟨n, o, h1, h2, h3, _, L, rfl, ⟨rfl, N⟩, hq⟩ := hm p e ha hc hk s m _ below hf ((Spec.applies_iff_loose hf).mp happ).1 ⟨rfl, State.Warmed39.refl s, rfl⟩ trivial
  refine ⟨n, _, h1, h2, h3, hpost _ _ _ _ _ _ ⟨Cond.after_iff.mpr rfl, Cond.after_iff.mpr (eq_i res_at (Term.int_eval (1)) rfl), trivial⟩ ⟨hq.1, hq.2.1, (hq.2.2.sift fun y hy => Or.inr (N y hy)).mono (by decide) (by decide)⟩⟩
theorem main_1_1 : Claimed_1_1 := comes_1 fun _ _ _ _ _ _ h hF => ⟨h.1, hF⟩
theorem main_1_2 : Claimed_1_2 := comes_1 fun _ _ _ _ _ _ h hF => ⟨h.2.1, hF⟩
end Jvm.Pilot.@@N@@
namespace Jvm.Pilot.@@N@@
open Jvm Jvm.ClassFile Sem Op Lib Jvm.Free Jvm.Stand Jvm.Pilot.@@N@@.Jvm.D
/-! MADE BY PROGRAM (witnessworld.py) out of the Statement's table words and the real class files: 12 classes; the members and pool entries that the words name. The judged class is class 1, her method 3. -/
namespace start1
open Jvm.ClassFile
def u (s : String) : CpInfo := .utf8 (stringToUtf16 s)
/-- a pool by its gaps: so many unusable entries, then the entry; so many at the end -/
def gap : Nat → List CpInfo → List CpInfo
  | 0, r => r
  | n + 1, r => .unusable :: gap n r
def poolList (es : List (Nat × CpInfo)) (last : Nat) : List CpInfo := es.foldr (fun e r => gap e.1 (e.2 :: r)) (gap last [])
def pool (es : List (Nat × CpInfo)) (last : Nat) : Array CpInfo := ⟨poolList es last⟩
def fileOf (pool : Array CpInfo) (this : Nat) (attrs : Array Attribute := #[]) (ms : Array MethodInfo := #[]) (fl : Nat := 33) (sup : Nat := 0) (ifs : Array Nat := #[]) (fds : Array FieldInfo := #[]) : ClassFile where
  minorVersion := 0
  majorVersion := 65
  constantPool := pool
  accessFlags := fl
  thisClass := this
  superClass := sup
  interfaces := ifs
  fields := fds
  methods := ms
  attributes := attrs
def plain (name : String) (sup : Option ClassId) : Class where
  name := name
  kind := .ordinary
  loader := none
  accessFlags := 33
  super := sup
  interfaces := #[]
  cf := none
  fields := #[]
  methods := #[]
  instanceTypes := #[]
  staticTypes := #[]
  resolved := #[]
  callSites := []
  init := .initialized
  statics := none
  mirror := none

def pool0 : Array CpInfo := pool [(5, u "<init>"), (0, u "()V"), (1, .class_ 10), (1, u "java/lang/Object")] 113

def k0m0 : Method := { name := "<init>", desc := "()V", sig := { parameters := [], returnType := none }, accessFlags := 1, code := none }
/-- java/lang/Object -/
def k0 : Class := { plain "java/lang/Object" none with
  accessFlags := 33
  interfaces := #[]
  cf := some (fileOf pool0 8 #[] #[{ accessFlags := 1, nameIndex := 5, descriptorIndex := 6, attributes := #[] }] 33 0 #[] #[])
  fields := #[]
  methods := #[k0m0]
  instanceTypes := #[]
  staticTypes := #[]
  resolved := Array.replicate 124 none
  statics := none }

def pool1 : Array CpInfo := pool [(2, .class_ 4), (1, u "java/lang/Object"), (0, u "<init>"), (0, u "()V"), (0, .fieldref 8 9), (0, .class_ 10), (0, .nameAndType 11 12), (0, u "com/example/skipstone/skipstone/prune/Operator"), (0, u "EQUAL"), (0, u "Lcom/example/skipstone/skipstone/prune/Operator;"), (0, .fieldref 8 14), (0, .nameAndType 15 12), (0, u "NOT_EQUAL"), (0, .fieldref 8 17), (0, .nameAndType 18 12), (0, u "LESS"), (0, .fieldref 8 20), (0, .nameAndType 21 12), (0, u "LESS_OR_EQUAL"), (0, .fieldref 8 23), (0, .nameAndType 24 12), (0, u "GREATER"), (0, .fieldref 8 26), (0, .nameAndType 27 12), (0, u "GREATER_OR_EQUAL"), (0, .integer 2147483647), (0, .methodref 30 31), (0, .class_ 32), (0, .nameAndType 33 34), (0, u "com/example/skipstone/skipstone/prune/OperatorNegatedPinLaw"), (0, u "pick"), (0, u "(I)Lcom/example/skipstone/skipstone/prune/Operator;"), (0, .methodref 8 36), (0, .nameAndType 37 38), (0, u "negated"), (0, u "()Lcom/example/skipstone/skipstone/prune/Operator;"), (0, .methodref 30 40), (0, .nameAndType 41 42), (0, u "holds"), (0, u "(Lcom/example/skipstone/skipstone/prune/Operator;II)Z"), (3, u "law"), (0, u "(IIII)Z")] 2

def k1m0 : Method := { name := "<init>", desc := "()V", sig := { parameters := [], returnType := none }, accessFlags := 1, code := none }
def k1c1 : Code := { maxStack := 2, maxLocals := 1, code := method_2_code, exceptionTable := #[], attributes := #[] }
def k1m1 : Method := { name := "pick", desc := "(I)Lcom/example/skipstone/skipstone/prune/Operator;", sig := { parameters := [.int], returnType := some (.object "com/example/skipstone/skipstone/prune/Operator") }, accessFlags := 10, code := some k1c1 }
def k1c2 : Code := { maxStack := 2, maxLocals := 3, code := method_3_code, exceptionTable := #[], attributes := #[] }
def k1m2 : Method := { name := "holds", desc := "(Lcom/example/skipstone/skipstone/prune/Operator;II)Z", sig := { parameters := [(.object "com/example/skipstone/skipstone/prune/Operator"), .int, .int], returnType := some .boolean }, accessFlags := 10, code := some k1c2 }
def k1c3 : Code := { maxStack := 4, maxLocals := 7, code := code, exceptionTable := #[], attributes := #[] }
def k1m3 : Method := { name := "law", desc := "(IIII)Z", sig := { parameters := [.int, .int, .int, .int], returnType := some .boolean }, accessFlags := 9, code := some k1c3 }
/-- com/example/skipstone/skipstone/prune/OperatorNegatedPinLaw -/
def k1 : Class := { plain "com/example/skipstone/skipstone/prune/OperatorNegatedPinLaw" (some 0) with
  accessFlags := 49
  interfaces := #[]
  cf := some (fileOf pool1 30 #[] #[{ accessFlags := 1, nameIndex := 5, descriptorIndex := 6, attributes := #[] }, { accessFlags := 10, nameIndex := 33, descriptorIndex := 34, attributes := #[] }, { accessFlags := 10, nameIndex := 41, descriptorIndex := 42, attributes := #[] }, { accessFlags := 9, nameIndex := 46, descriptorIndex := 47, attributes := #[] }] 49 2 #[] #[])
  fields := #[]
  methods := #[k1m0, k1m1, k1m2, k1m3]
  instanceTypes := #[]
  staticTypes := #[]
  resolved := Array.replicate 50 none
  statics := none }

def pool2 : Array CpInfo := pool [(1, .class_ 2), (0, u "java/lang/constant/Constable"), (0, .class_ 4), (0, u "java/lang/Object")] 6

/-- java/lang/constant/Constable -/
def k2 : Class := { plain "java/lang/constant/Constable" (some 0) with
  accessFlags := 1537
  interfaces := #[]
  cf := some (fileOf pool2 1 #[] #[] 1537 3 #[] #[])
  fields := #[]
  methods := #[]
  instanceTypes := #[]
  staticTypes := #[]
  resolved := Array.replicate 11 none
  statics := none }

def pool3 : Array CpInfo := pool [(1, .class_ 2), (0, u "java/lang/Comparable"), (0, .class_ 4), (0, u "java/lang/Object")] 7

/-- java/lang/Comparable -/
def k3 : Class := { plain "java/lang/Comparable" (some 0) with
  accessFlags := 1537
  interfaces := #[]
  cf := some (fileOf pool3 1 #[] #[] 1537 3 #[] #[])
  fields := #[]
  methods := #[]
  instanceTypes := #[]
  staticTypes := #[]
  resolved := Array.replicate 12 none
  statics := none }

def pool4 : Array CpInfo := pool [(1, .class_ 2), (0, u "java/io/Serializable"), (0, .class_ 4), (0, u "java/lang/Object")] 2

/-- java/io/Serializable -/
def k4 : Class := { plain "java/io/Serializable" (some 0) with
  accessFlags := 1537
  interfaces := #[]
  cf := some (fileOf pool4 1 #[] #[] 1537 3 #[] #[])
  fields := #[]
  methods := #[]
  instanceTypes := #[]
  staticTypes := #[]
  resolved := Array.replicate 7 none
  statics := none }

def pool5 : Array CpInfo := pool [(2, .class_ 4), (1, u "java/lang/Enum"), (0, u "name"), (0, u "Ljava/lang/String;"), (0, .fieldref 2 8), (0, .nameAndType 9 10), (0, u "ordinal"), (0, u "I"), (1, .class_ 14), (1, u "java/lang/Object"), (4, u "hash"), (86, .class_ 108), (1, u "java/lang/Enum$EnumDesc"), (2, .class_ 112), (0, u "java/lang/constant/Constable"), (0, .class_ 114), (0, u "java/lang/Comparable"), (0, .class_ 116), (0, u "java/io/Serializable"), (9, u "()I")] 77

def k5c0 : Code := { maxStack := 1, maxLocals := 1, code := jdk_37_method_2_code, exceptionTable := #[], attributes := #[] }
def k5m0 : Method := { name := "ordinal", desc := "()I", sig := { parameters := [], returnType := some .int }, accessFlags := 17, code := some k5c0 }
/-- java/lang/Enum -/
def k5 : Class := { plain "java/lang/Enum" (some 0) with
  accessFlags := 1057
  interfaces := #[2, 3, 4]
  cf := some (fileOf pool5 2 #[.nestMembers #[106]] #[{ accessFlags := 17, nameIndex := 9, descriptorIndex := 126, attributes := #[] }] 1057 12 #[111, 113, 115] #[{ accessFlags := 18, nameIndex := 5, descriptorIndex := 6, attributes := #[] }, { accessFlags := 18, nameIndex := 9, descriptorIndex := 10, attributes := #[] }, { accessFlags := 2, nameIndex := 19, descriptorIndex := 10, attributes := #[] }])
  fields := #[{ name := "name", type := (.object "java/lang/String"), accessFlags := 18, slot := 0, constantValue := 0 }, { name := "ordinal", type := .int, accessFlags := 18, slot := 1, constantValue := 0 }, { name := "hash", type := .int, accessFlags := 2, slot := 2, constantValue := 0 }]
  methods := #[k5m0]
  instanceTypes := #[(.object "java/lang/String"), .int, .int]
  staticTypes := #[]
  resolved := Array.replicate 204 none
  statics := none }

def pool6 : Array CpInfo := pool [(1, .class_ 2), (0, u "com/example/skipstone/skipstone/prune/Operator"), (0, .fieldref 1 4), (0, .nameAndType 5 6), (0, u "EQUAL"), (0, u "Lcom/example/skipstone/skipstone/prune/Operator;"), (0, .fieldref 1 8), (0, .nameAndType 9 6), (0, u "NOT_EQUAL"), (0, .fieldref 1 11), (0, .nameAndType 12 6), (0, u "LESS"), (0, .fieldref 1 14), (0, .nameAndType 15 6), (0, u "LESS_OR_EQUAL"), (0, .fieldref 1 17), (0, .nameAndType 18 6), (0, u "GREATER"), (0, .fieldref 1 20), (0, .nameAndType 21 6), (0, u "GREATER_OR_EQUAL"), (2, u "$VALUES"), (0, u "[Lcom/example/skipstone/skipstone/prune/Operator;"), (6, .class_ 34), (1, u "java/lang/Enum"), (14, u "spellings"), (0, u "Ljava/util/List;"), (6, .methodref 1 58), (0, .nameAndType 59 60), (0, u "ordinal"), (0, u "()I"), (44, u "negated"), (0, u "()Lcom/example/skipstone/skipstone/prune/Operator;")] 8

def k6c0 : Code := { maxStack := 4, maxLocals := 1, code := prog_26_method_6_code, exceptionTable := #[], attributes := #[] }
def k6m0 : Method := { name := "negated", desc := "()Lcom/example/skipstone/skipstone/prune/Operator;", sig := { parameters := [], returnType := some (.object "com/example/skipstone/skipstone/prune/Operator") }, accessFlags := 1, code := some k6c0 }
/-- com/example/skipstone/skipstone/prune/Operator -/
def k6 : Class := { plain "com/example/skipstone/skipstone/prune/Operator" (some 5) with
  accessFlags := 16433
  interfaces := #[]
  cf := some (fileOf pool6 1 #[] #[{ accessFlags := 1, nameIndex := 105, descriptorIndex := 106, attributes := #[] }] 16433 32 #[] #[{ accessFlags := 16409, nameIndex := 5, descriptorIndex := 6, attributes := #[] }, { accessFlags := 16409, nameIndex := 9, descriptorIndex := 6, attributes := #[] }, { accessFlags := 16409, nameIndex := 12, descriptorIndex := 6, attributes := #[] }, { accessFlags := 16409, nameIndex := 15, descriptorIndex := 6, attributes := #[] }, { accessFlags := 16409, nameIndex := 18, descriptorIndex := 6, attributes := #[] }, { accessFlags := 16409, nameIndex := 21, descriptorIndex := 6, attributes := #[] }, { accessFlags := 18, nameIndex := 49, descriptorIndex := 50, attributes := #[] }, { accessFlags := 4122, nameIndex := 24, descriptorIndex := 25, attributes := #[] }])
  fields := #[{ name := "EQUAL", type := (.object "com/example/skipstone/skipstone/prune/Operator"), accessFlags := 16409, slot := 0, constantValue := 0 }, { name := "NOT_EQUAL", type := (.object "com/example/skipstone/skipstone/prune/Operator"), accessFlags := 16409, slot := 1, constantValue := 0 }, { name := "LESS", type := (.object "com/example/skipstone/skipstone/prune/Operator"), accessFlags := 16409, slot := 2, constantValue := 0 }, { name := "LESS_OR_EQUAL", type := (.object "com/example/skipstone/skipstone/prune/Operator"), accessFlags := 16409, slot := 3, constantValue := 0 }, { name := "GREATER", type := (.object "com/example/skipstone/skipstone/prune/Operator"), accessFlags := 16409, slot := 4, constantValue := 0 }, { name := "GREATER_OR_EQUAL", type := (.object "com/example/skipstone/skipstone/prune/Operator"), accessFlags := 16409, slot := 5, constantValue := 0 }, { name := "spellings", type := (.object "java/util/List"), accessFlags := 18, slot := 3, constantValue := 0 }, { name := "$VALUES", type := (.array (.object "com/example/skipstone/skipstone/prune/Operator")), accessFlags := 4122, slot := 6, constantValue := 0 }]
  methods := #[k6m0]
  instanceTypes := #[(.object "java/lang/String"), .int, .int, (.object "java/util/List")]
  staticTypes := #[(.object "com/example/skipstone/skipstone/prune/Operator"), (.object "com/example/skipstone/skipstone/prune/Operator"), (.object "com/example/skipstone/skipstone/prune/Operator"), (.object "com/example/skipstone/skipstone/prune/Operator"), (.object "com/example/skipstone/skipstone/prune/Operator"), (.object "com/example/skipstone/skipstone/prune/Operator"), (.array (.object "com/example/skipstone/skipstone/prune/Operator"))]
  resolved := Array.replicate 115 none
  statics := some 0 }

def pool7 : Array CpInfo := pool [(1, u "java/lang/Cloneable"), (0, .class_ 1), (0, u "java/lang/Object"), (0, .class_ 3)] 3

/-- java/lang/Cloneable -/
def k7 : Class := { plain "java/lang/Cloneable" (some 0) with
  accessFlags := 1537
  interfaces := #[]
  cf := some (fileOf pool7 2 #[] #[] 1537 4 #[] #[])
  fields := #[]
  methods := #[]
  instanceTypes := #[]
  staticTypes := #[]
  resolved := Array.replicate 8 none
  statics := none }

/-- the primitive byte -/
def k8 : Class := { plain "byte" none with kind := .primitive 'B', accessFlags := 0x411 }
/-- [B -/
def k9 : Class := { plain "[B" (some 0) with kind := .array 8 .byte, interfaces := #[7, 4], accessFlags := 1041 }

/-- the primitive int -/
def k10 : Class := { plain "int" none with kind := .primitive 'I', accessFlags := 0x411 }
/-- [I -/
def k11 : Class := { plain "[I" (some 0) with kind := .array 10 .int, interfaces := #[7, 4], accessFlags := 1041 }

def heap : Heap := #[{ cls := 6, slots := #[.ref 1, .ref 2, .ref 3, .ref 4, .ref 5, .ref 6, .null], vm := .statics 6 },
  { cls := 6, slots := #[.null, .int 0, .int 0, .null], vm := .none },
  { cls := 6, slots := #[.null, .int 1, .int 0, .null], vm := .none },
  { cls := 6, slots := #[.null, .int 2, .int 0, .null], vm := .none },
  { cls := 6, slots := #[.null, .int 3, .int 0, .null], vm := .none },
  { cls := 6, slots := #[.null, .int 4, .int 0, .null], vm := .none },
  { cls := 6, slots := #[.null, .int 5, .int 0, .null], vm := .none }]
def classes : Array Class := #[k0, k1, k2, k3, k4, k5, k6, k7, k8, k9, k10, k11]
def interned : List (Array UInt16 × Addr) := []
def slotsUsed : Nat := 31
def theMethod : MethodId := ⟨1, 3⟩
def args0 : Array Value := #[.int 5, .int 1, .int 2, .int 3]
def aboutOver (below : List Frame) : State where
  vm := { classes := classes, interned := interned.toArray }
  heap := heap
  slotsUsed := slotsUsed
  threads := #[{ frames := .invoking theMethod args0 :: below }]
def below0 : List Frame := [.native { method := ⟨0, 0⟩, args := #[] }]
def about1 : State := aboutOver below0
def p0 : Program := .bare "" "" ""
def e0 : Env := launch0.env 0 0 0
theorem w_frames : about1.frames = Frame.invoking theMethod args0 :: below0 := rfl
set_option maxRecDepth 65536 in
theorem w_args : argsFit about1.vm theMethod args0 = true := by decide +kernel
set_option maxRecDepth 65536 in
theorem w_heap : heapFits about1 = true := by decide +kernel
set_option maxRecDepth 65536 in
theorem w_runnable : about1.curStatus? = some .runnable := by decide +kernel
set_option maxRecDepth 65536 in
theorem w_alone : about1.alone = true := by decide +kernel
set_option maxRecDepth 65536 in
theorem w_named : about1.methodNamed? x = some theMethod := by decide +kernel
set_option maxRecDepth 65536 in
theorem w_hears : about1.hears theMethod below0 = true := by decide +kernel
set_option maxRecDepth 65536 in
theorem w_ripe : about1.ripe theMethod args0 below0 = true := by decide +kernel
theorem w_running : about1.status = .running := rfl
set_option maxRecDepth 65536 in
theorem w_room : about1.hasRoom e0.platform room_1 = true :=
  launch0.hasRoom_least _ room_1 (by decide +kernel) (by decide +kernel) (by decide +kernel) (by decide +kernel) (by decide +kernel) (by decide +kernel)
theorem allAtoms_all (ts : List Jvm.Cond) (a : Array Jvm.Value) (st : Jvm.State) : (allAtoms ts).before a st = ts.all (fun c => c.before a st) := by
  induction ts with
  | nil => rfl
  | cons c t ih =>
    show (Jvm.Cond.and c (allAtoms t)).before a st = _
    rw [Jvm.Cond.before_and, ih, List.all_cons]
def words1 : List Jvm.Cond := Jvm.Cond.code x code maxLocals ret :: tables_1
/-- a 'code' word, met by the world's own term for the bytes: nothing is compared byte by byte -/
theorem code_word {y : MethodName} {bytes : ByteArray} {mx : Nat} {rt : Option FieldType} {a : Array Value} {s : State} {m : MethodId} {meth : Method} {c : Code} (h1 : s.methodNamed? y = some m) (h2 : s.vm.method? m = some meth) (h3 : meth.code = some c) (h4 : c.code = bytes)
    (h5 : (c.maxLocals == mx && c.exceptionTable.isEmpty && decide (c.maxStack ≤ mostOperands) && decide (meth.sig.returnType = rt) && !meth.locks && decide (parseMethodDescriptor y.desc = some meth.sig)) = true) : (Jvm.Cond.code y bytes mx rt).before a s = true := by
  simp only [Bool.and_eq_true, beq_iff_eq, Bool.not_eq_true', decide_eq_true_eq] at h5
  obtain ⟨⟨⟨⟨⟨g1, g2⟩, g3⟩, g4⟩, g5⟩, g6⟩ := h5
  simp [Cond.before, Cond.holds, Cond.value, h1, h2, h3, h4, g1, g2, g3, g4, g5, g6]
def isCode : Jvm.Cond → Bool
  | .code _ _ _ _ => true
  | _ => false
theorem all_split {L : List Jvm.Cond} {P : Jvm.Cond → Bool} (h1 : L.all (fun c => isCode c || P c) = true) (h2 : ∀ c ∈ L.filter isCode, P c = true) : L.all P = true := by
  refine List.all_eq_true.mpr fun c hc => ?_
  have h := List.all_eq_true.mp h1 c hc
  rcases Bool.eq_false_or_eq_true (isCode c) with hi | hi
  · exact h2 c (List.mem_filter.mpr ⟨hc, hi⟩)
  · simpa [hi] using h
set_option maxRecDepth 65536 in
theorem w_c0 : (Jvm.Cond.code x code maxLocals ret).before args0 about1 = true := code_word (m := ⟨1, 3⟩) (meth := k1m3) (c := k1c3) (by decide +kernel) rfl rfl rfl (by decide +kernel)
set_option maxRecDepth 65536 in
theorem w_c1 : (Jvm.Cond.code ({ cls := "com/example/skipstone/skipstone/prune/OperatorNegatedPinLaw", name := "pick", desc := "(I)Lcom/example/skipstone/skipstone/prune/Operator;" } : Jvm.MethodName) method_2_code (1 : Nat) (Option.some (Jvm.ClassFile.FieldType.object "com/example/skipstone/skipstone/prune/Operator"))).before args0 about1 = true := code_word (m := ⟨1, 1⟩) (meth := k1m1) (c := k1c1) (by decide +kernel) rfl rfl rfl (by decide +kernel)
set_option maxRecDepth 65536 in
theorem w_c2 : (Jvm.Cond.code ({ cls := "com/example/skipstone/skipstone/prune/Operator", name := "negated", desc := "()Lcom/example/skipstone/skipstone/prune/Operator;" } : Jvm.MethodName) prog_26_method_6_code (1 : Nat) (Option.some (Jvm.ClassFile.FieldType.object "com/example/skipstone/skipstone/prune/Operator"))).before args0 about1 = true := code_word (m := ⟨6, 0⟩) (meth := k6m0) (c := k6c0) (by decide +kernel) rfl rfl rfl (by decide +kernel)
set_option maxRecDepth 65536 in
theorem w_c3 : (Jvm.Cond.code ({ cls := "java/lang/Enum", name := "ordinal", desc := "()I" } : Jvm.MethodName) jdk_37_method_2_code (1 : Nat) (Option.some Jvm.ClassFile.FieldType.int)).before args0 about1 = true := code_word (m := ⟨5, 0⟩) (meth := k5m0) (c := k5c0) (by decide +kernel) rfl rfl rfl (by decide +kernel)
set_option maxRecDepth 65536 in
theorem w_c4 : (Jvm.Cond.code ({ cls := "com/example/skipstone/skipstone/prune/OperatorNegatedPinLaw", name := "holds", desc := "(Lcom/example/skipstone/skipstone/prune/Operator;II)Z" } : Jvm.MethodName) method_3_code (3 : Nat) (Option.some Jvm.ClassFile.FieldType.boolean)).before args0 about1 = true := code_word (m := ⟨1, 2⟩) (meth := k1m2) (c := k1c2) (by decide +kernel) rfl rfl rfl (by decide +kernel)
def codes1 : List Jvm.Cond := [Jvm.Cond.code x code maxLocals ret, Jvm.Cond.code ({ cls := "com/example/skipstone/skipstone/prune/OperatorNegatedPinLaw", name := "pick", desc := "(I)Lcom/example/skipstone/skipstone/prune/Operator;" } : Jvm.MethodName) method_2_code (1 : Nat) (Option.some (Jvm.ClassFile.FieldType.object "com/example/skipstone/skipstone/prune/Operator")), Jvm.Cond.code ({ cls := "com/example/skipstone/skipstone/prune/Operator", name := "negated", desc := "()Lcom/example/skipstone/skipstone/prune/Operator;" } : Jvm.MethodName) prog_26_method_6_code (1 : Nat) (Option.some (Jvm.ClassFile.FieldType.object "com/example/skipstone/skipstone/prune/Operator")), Jvm.Cond.code ({ cls := "java/lang/Enum", name := "ordinal", desc := "()I" } : Jvm.MethodName) jdk_37_method_2_code (1 : Nat) (Option.some Jvm.ClassFile.FieldType.int), Jvm.Cond.code ({ cls := "com/example/skipstone/skipstone/prune/OperatorNegatedPinLaw", name := "holds", desc := "(Lcom/example/skipstone/skipstone/prune/Operator;II)Z" } : Jvm.MethodName) method_3_code (3 : Nat) (Option.some Jvm.ClassFile.FieldType.boolean)]
set_option maxRecDepth 65536 in
theorem codes_eq : words1.filter isCode = codes1 := rfl
theorem w_codes : ∀ c ∈ words1.filter isCode, c.before args0 about1 = true := by
  rw [codes_eq]
  intro c hc
  simp only [codes1, List.mem_cons, List.not_mem_nil, or_false] at hc
  rcases hc with rfl | rfl | rfl | rfl | rfl
  · exact w_c0
  · exact w_c1
  · exact w_c2
  · exact w_c3
  · exact w_c4
set_option maxRecDepth 65536 in
theorem w_t1 : (words1.take 24).all (fun c => isCode c || c.before args0 about1) = true := by decide +kernel
set_option maxRecDepth 65536 in
theorem w_t2 : (words1.drop 24).all (fun c => isCode c || c.before args0 about1) = true := by decide +kernel
theorem w_tables : (allAtoms (Jvm.Cond.code x code maxLocals ret :: tables_1)).before args0 about1 = true := by
  rw [allAtoms_all]
  show words1.all (fun c => c.before args0 about1) = true
  refine all_split ?_ w_codes
  rw [← List.take_append_drop 24 words1, List.all_append, w_t1, w_t2]
  rfl
set_option maxRecDepth 65536 in
theorem w_case : (Jvm.Cond.and given_1 narrow_1).before args0 about1 = true := by decide +kernel
theorem w_applies : (headSpec (Jvm.Cond.code x code maxLocals ret :: tables_1) room_1).applies x e0.platform about1 = true :=
  (Spec.applies_iff w_frames).mpr ⟨w_running, w_runnable, w_alone, w_named, w_hears, w_ripe, w_room, w_tables⟩
theorem atStart : AtStart classFile x code maxLocals ret World_1 tables_1 room_1 Calls_1 rest_1 Pre_1 launch0 p0 e0 about1 theMethod args0 below0 :=
  ⟨lists_1, trivial, launch0.admits_env _ _ _, launch0.least_env, fairChoices_fair.cas, fairChoices_fair.clock, w_frames, w_args, w_heap, w_applies, trivial, trivial, w_case⟩
end start1
theorem witness_1 : WitnessClaimed_1 := ⟨start1.p0, start1.e0, start1.about1, start1.theMethod, start1.args0, start1.below0, start1.atStart⟩
end Jvm.Pilot.@@N@@
