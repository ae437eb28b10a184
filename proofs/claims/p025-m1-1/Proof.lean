import JvmDerived
import JvmDerived.Pilot.@@N@@Statement
import JvmDerived.Pilot.@@N@@Code
set_option linter.unusedVariables false
set_option linter.unusedSimpArgs false
namespace Jvm.Pilot.@@N@@
open Jvm Jvm.ClassFile Sem Op Lib Jvm.Free Jvm.Stand Jvm.LawKit Jvm.RoadKit Bundle Jvm.Pilot.@@N@@.Jvm.D
/-! own layer: a run that ends well, said backwards -/
section OwnGo
variable {p : Program} {l : Launch} {e : Env} {R : Room} {s : State} {m : MethodId} {args : Array Value} {below : List Frame} {meth : Method} {c : Code} {T T' : State} {locs : List Loc} {cells slots : Nat} {Z : State} {a0 : Array Value} {h : Heap} {Q : Option Value → Heap → List Loc → Prop} {C S maxL0 : Nat} {g g' : JFrame}
def Go (p : Program) (e : Env) (below : List Frame) (s : State) (Q : Option Value → Heap → List Loc → Prop) (C S : Nat) (T : State) (g : JFrame) : Prop :=
  ∃ s₂ o, Steps p.tables e below (T.setTop g) s₂ ∧ s₂.status = .running ∧ Ended s₂ below o ∧ ∃ v L, o = .returned v ∧ Q v s₂.heap L ∧ FrameEnd s o s₂ L C S
def Ct (p : Program) (s : State) (m : MethodId) (meth : Method) (c : Code) (Z : State) (own nm : String) (bytes : ByteArray) (maxL : Nat) (ret : Option FieldType) : Prop :=
  p.tables.exec = Jvm.exec ∧ Z.Warmed39 s.vm ∧ s.vm.findClass own = some m.cls ∧ c.code = bytes ∧ c.maxLocals = maxL ∧ meth.sig.returnType = ret ∧ meth.locks = false ∧ meth.name = nm
theorem go_st (k : ∀ t, Steps p.tables e below (T'.setTop g') t → Steps p.tables e below (T.setTop g) t) (q : Go p e below s Q C S T' g') : Go p e below s Q C S T g := by
  obtain ⟨s2, o, q1, q2⟩ := q
  exact ⟨s2, o, k _ q1, q2⟩
theorem castGo (q : g = g') (k : Go p e below s Q C S T g') : Go p e below s Q C S T g := by rw [q]; exact k
theorem go_tr (k : Steps p.tables e below (T.setTop g) (T'.setTop g')) (q : Go p e below s Q C S T' g') : Go p e below s Q C S T g := by
  obtain ⟨s2, o, q1, q2⟩ := q
  exact ⟨s2, o, k.trans q1, q2⟩
theorem go_end (X : Stand p l e R s m args below meth c T locs cells slots) (hlk : meth.locks = false) {v : Option Value} (hv : meth.sig.returnType = none → v = none)
    (hr : ∀ fs, (∀ (f : JFrame) (acts : List Action), f.method = m → f.locked = none → f.entered = [] → (doReturn e (T.setTop f) acts v).1 = T.setFrames fs) → Steps p.tables e below (T.setTop g) (T.setFrames fs))
    (hC : cells ≤ C) (hS : slots ≤ S) (hQ : Q v T.heap locs) : Go p e below s Q C S T g := by
  obtain ⟨fs, h1, hrun, hended, hW, hsame⟩ := X.leave (v := v) hv hlk
  exact ⟨_, _, hr fs h1, hrun, hended, _, _, rfl, hQ, ⟨_, rfl⟩, hW, hsame.mono hC hS⟩
theorem go_retI (X : Stand p l e R s m args below meth c T locs cells slots) (hx : p.tables.exec = Jvm.exec) (hlk : meth.locks = false) (hret : meth.sig.returnType = some .int) {pc : Nat} {Ls : Array Slot} {z : Int32} {rest : List Value} (hd : decode c.code pc = .ok (.ireturn, 1))
    (hC : cells ≤ C) (hS : slots ≤ S) (hQ : Q (some (.int z)) T.heap locs) : Go p e below s Q C S T (mkF m pc Ls (.int z :: rest)) :=
  go_end X hlk (fun h => by rw [hret] at h; cases h) (fun fs h1 => retOut X hx hret rfl (Or.inl ⟨rfl, Or.inl rfl, _, rfl⟩) hd h1) hC hS hQ
theorem go_retL (X : Stand p l e R s m args below meth c T locs cells slots) (hx : p.tables.exec = Jvm.exec) (hlk : meth.locks = false) (hret : meth.sig.returnType = some .long) {pc : Nat} {Ls : Array Slot} {z : Int64} {rest : List Value} (hd : decode c.code pc = .ok (.lreturn, 1))
    (hC : cells ≤ C) (hS : slots ≤ S) (hQ : Q (some (.long z)) T.heap locs) : Go p e below s Q C S T (mkF m pc Ls (.long z :: rest)) :=
  go_end X hlk (fun h => by rw [hret] at h; cases h) (fun fs h1 => retOut X hx hret rfl (Or.inr (Or.inl ⟨rfl, rfl, _, rfl⟩)) hd h1) hC hS hQ
theorem go_retD (X : Stand p l e R s m args below meth c T locs cells slots) (hx : p.tables.exec = Jvm.exec) (hlk : meth.locks = false) (hret : meth.sig.returnType = some .double) {pc : Nat} {Ls : Array Slot} {z : UInt64} {rest : List Value} (hd : decode c.code pc = .ok (.dreturn, 1))
    (hC : cells ≤ C) (hS : slots ≤ S) (hQ : Q (some (.double z)) T.heap locs) : Go p e below s Q C S T (mkF m pc Ls (.double z :: rest)) :=
  go_end X hlk (fun h => by rw [hret] at h; cases h) (fun fs h1 => retOut X hx hret rfl (Or.inr (Or.inr (Or.inl ⟨rfl, rfl, _, rfl⟩))) hd h1) hC hS hQ
theorem go_retA (X : Stand p l e R s m args below meth c T locs cells slots) (hx : p.tables.exec = Jvm.exec) (hlk : meth.locks = false) {t : FieldType} (hret : meth.sig.returnType = some t) (ht : t.isReference = true) {w : Value} (hw : w.isRef = true) {pc : Nat} {Ls : Array Slot} {rest : List Value} (hd : decode c.code pc = .ok (.areturn, 1))
    (hC : cells ≤ C) (hS : slots ≤ S) (hQ : Q (some w) T.heap locs) : Go p e below s Q C S T (mkF m pc Ls (w :: rest)) :=
  go_end X hlk (fun h => by rw [hret] at h; cases h) (fun fs h1 => retOut X hx hret (by cases t <;> simp_all [FieldType.isReference, narrow] <;> cases w <;> simp_all [Value.isRef, narrow]) (Or.inr (Or.inr (Or.inr (Or.inr ⟨rfl, ht, hw⟩)))) hd h1) hC hS hQ
theorem go_retB (X : Stand p l e R s m args below meth c T locs cells slots) (hx : p.tables.exec = Jvm.exec) (hlk : meth.locks = false) (hret : meth.sig.returnType = some .boolean) {pc : Nat} {Ls : Array Slot} {z w : Int32} {rest : List Value} (hd : decode c.code pc = .ok (.ireturn, 1)) (hw : z &&& 1 = w)
    (hC : cells ≤ C) (hS : slots ≤ S) (hQ : Q (some (.int w)) T.heap locs) : Go p e below s Q C S T (mkF m pc Ls (.int z :: rest)) := by
  subst hw
  exact go_end X hlk (fun h => by rw [hret] at h; cases h) (fun fs h1 => retN X hx (t := .boolean) hret (by simp) hd h1) hC hS hQ
theorem go_ret0 (X : Stand p l e R s m args below meth c T locs cells slots) (hx : p.tables.exec = Jvm.exec) (hlk : meth.locks = false) (hret : meth.sig.returnType = none) {pc : Nat} {Ls : Array Slot} (hd : decode c.code pc = .ok (.return_, 1))
    (hC : cells ≤ C) (hS : slots ≤ S) (hQ : Q none T.heap locs) : Go p e below s Q C S T (mkF m pc Ls []) :=
  go_end X hlk (fun _ => rfl) (fun fs h1 => X.returnOut hx hret hd h1) hC hS hQ
def Met (l : Launch) (y : MethodName) (bytes : ByteArray) (maxL : Nat) (ret : Option FieldType) (ws : List Cond) (rm : Room) (Z : State) (as' : Array Value) (h0 : Heap) (Q : Option Value → Heap → List Loc → Prop) (C S : Nat) : Prop :=
  MetFree l y (head1 (Jvm.Cond.code y bytes maxL ret :: ws) rm) (fun a U => a = as' ∧ Z.Warmed39 U.vm ∧ U.heap = h0) (fun _ _ _ _ _ => True) (fun _ U o U' => ∃ v L, o = .returned v ∧ Q v U'.heap L ∧ FrameEnd U o U' L C S)
def QV (w : Option Value) (h0 : Heap) (n0 : Nat) (v : Option Value) (h : Heap) (L : List Loc) : Prop := v = w ∧ Fr n0 L ∧ h = h0
def QF (w : Option Value) (n0 : Nat) (v : Option Value) (h : Heap) (L : List Loc) : Prop := v = w ∧ Fr n0 L
theorem own_body {y : MethodName} {bytes : ByteArray} {maxL : Nat} {ret : Option FieldType} {rm : Room} {as' : Array Value} {h0 : Heap} {ws : List Cond} (hn : plainFor y = true) {C S : Nat}
    (H : ∀ p e s m below meth c s₁, Ct p s m meth c Z y.cls y.name bytes maxL ret → Stand p l e rm s m as' below meth c s₁ [] 0 0 → s₁.heap = h0 → Go p e below s Q C S s₁ (entryFrame m as' maxL)) :
    Met l y bytes maxL ret ws rm Z as' h0 Q C S := by
  refine MetFree.of_bodySF hn hisR ?_
  intro p e s m args below meth c s₁ Bd hml0 hP hK
  obtain ⟨rfl, hZ, hh⟩ := hP
  have hown : s.vm.findClass y.cls = some m.cls := findClass_of_methodNamed Bd.named
  have hnm := (name_of_methodNamed Bd.named Bd.method).1
  have X0 : Stand p l e rm s m args below meth c s₁ [] 0 0 := Stand.of_body Bd
  have e0 : s₁.heap = h0 := by rw [← hh, Bd.state]; rfl
  exact H p e s m below meth c s₁ ⟨Bd.exec, hZ, hown, Bd.bytes, hml0, Bd.returns, Bd.notSynchronized, hnm⟩ X0 e0
theorem go_callS (X : Stand p l e R s m args below meth c T locs cells slots) (hx : p.tables.exec = Jvm.exec) (hZ : Z.Warmed39 s.vm) (hml : c.maxLocals = maxL0) {own : String} {index : Nat} {y : MethodName} {bytes : ByteArray} {maxL : Nat} {ret : Option FieldType} (hown : s.vm.findClass own = some m.cls)
    (w1 : (Cond.methodLink own index y).before a0 Z = true) (w2 : (Cond.static y).before a0 Z = true) (w3 : (Cond.initialized y.cls).before a0 Z = true) (w4 : (Cond.code y bytes maxL ret).before a0 Z = true) (eT : T.heap = h) {argsL rest : List Value} {rm : Room} {Q' : Option Value → Heap → List Loc → Prop} {W : Nat}
    (hM : Met l y bytes maxL ret [] rm Z argsL.toArray h Q' rm.cells rm.slots)
    (hd : decode c.code g.pc = .ok (.invokestatic index, 3)) (hs : g.stack = argsL.reverse ++ rest) (hg : g.method = m) (hsz : g.locals.size = maxL0) (hlen : ∀ sig, parseMethodDescriptor y.desc = some sig → argsL.length = sig.parameters.length) (hW : 2 * g.monitorRoom + (rest.map fun v => v.category).sum ≤ W)
    (hy : y.cls ≠ "java/lang/invoke/MethodHandle" ∧ y.cls ≠ "java/lang/invoke/VarHandle") (hf : rm.frames + 1 ≤ R.frames) (hl : W + (maxL + 11) + rm.locals ≤ R.locals) (hc : cells + rm.cells ≤ R.cells) (hsl : slots + rm.slots ≤ R.slots)
    (k : ∀ T' v L, Stand p l e R s m args below meth c T' (locs ++ L) (cells + rm.cells) (slots + rm.slots) → Q' v T'.heap L → Go p e below s Q C S T' { g with pc := g.pc + 3, stack := v.toList ++ rest }) : Go p e below s Q C S T g := by
  obtain ⟨v, _, ⟨T1, L1, k1, n1⟩, -, X1, ⟨Lc, hQ, l1, y1, z1⟩, st⟩ := Jvm.LawKit.callS X hx (y := y) hown (mvT hZ w1) (mvT hZ w2) (mvT hZ w3) (mvT hZ w4) hy (backOf (W := W) hM hZ w4 w3 hf hl) (g := g) hg (hsz.trans hml.symm) (argsL := argsL) (rest := rest) hlen hs hW hd (fun _ _ => ⟨rfl, eT, hc, hsl⟩)
  dsimp only [Pt.U, Pt.locs, Pt.cells, Pt.slots] at X1 l1 y1 z1 st hQ
  subst l1 y1 z1
  exact go_st st (k _ _ _ X1 hQ)
theorem go_callV (X : Stand p l e R s m args below meth c T locs cells slots) (hx : p.tables.exec = Jvm.exec) (hZ : Z.Warmed39 s.vm) (hml : c.maxLocals = maxL0) {own K : String} {index : Nat} {y z : MethodName} {bytes : ByteArray} {maxL : Nat} {ret : Option FieldType} (hown : s.vm.findClass own = some m.cls)
    (w1 : (Cond.methodLink own index y).before a0 Z = true) (w2 : (Cond.declares y).before a0 Z = true) (w2' : NotFace s y) (w3 : (Cond.selects K y z).before a0 Z = true) (w3' : (Cond.instanceMethod z).before a0 Z = true) (w4 : (Cond.code z bytes maxL ret).before a0 Z = true) (w5 : (Cond.initialized z.cls).before a0 Z = true) (eT : T.heap = h) {a : Addr} (E : Exa Z h a K) {argsL rest : List Value} {rm : Room} {Q' : Option Value → Heap → List Loc → Prop} {W : Nat}
    (hM : Met l z bytes maxL ret [] rm Z (.ref a :: argsL).toArray h Q' rm.cells rm.slots)
    (hd : decode c.code g.pc = .ok (.invokevirtual index, 3)) (hs : g.stack = argsL.reverse ++ .ref a :: rest) (hg : g.method = m) (hsz : g.locals.size = maxL0) (hlen : ∀ sig, parseMethodDescriptor y.desc = some sig → argsL.length = sig.parameters.length) (hW : 2 * g.monitorRoom + (rest.map fun v => v.category).sum ≤ W)
    (hy : y.cls ≠ "java/lang/invoke/MethodHandle" ∧ y.cls ≠ "java/lang/invoke/VarHandle") (hf : rm.frames + 1 ≤ R.frames) (hl : W + (maxL + 11) + rm.locals ≤ R.locals) (hc : cells + rm.cells ≤ R.cells) (hsl : slots + rm.slots ≤ R.slots)
    (k : ∀ T' v L, Stand p l e R s m args below meth c T' (locs ++ L) (cells + rm.cells) (slots + rm.slots) → Q' v T'.heap L → Go p e below s Q C S T' { g with pc := g.pc + 3, stack := v.toList ++ rest }) : Go p e below s Q C S T g := by
  obtain ⟨cB, kB, q1, q2, q3⟩ := isOf hZ eT E
  obtain ⟨v, _, ⟨T1, L1, k1, n1⟩, -, X1, ⟨Lc, hQ, l1, y1, z1⟩, st⟩ := X.virtualBack hx (y := y) (z := z) hown (mvT hZ w1) (mvT hZ w2) w2' (mvT hZ w3) (mvT hZ w3') hy (backOf (W := W) hM hZ w4 w5 hf hl) q1 q3 (g := g) hg (hsz.trans hml.symm) (Steps.refl _) (argsL := argsL) (rest := rest) hlen hs hW hd (fun _ _ => ⟨rfl, eT, hc, hsl⟩)
  dsimp only [Pt.U, Pt.locs, Pt.cells, Pt.slots] at X1 l1 y1 z1 st hQ
  subst l1 y1 z1
  exact go_tr st (k _ _ _ X1 hQ)
theorem go_callU (X : Stand p l e R s m args below meth c T locs cells slots) (hx : p.tables.exec = Jvm.exec) (hZ : Z.Warmed39 s.vm) (hml : c.maxLocals = maxL0) {own K owner : String} {index : Nat} {y z : MethodName} {bytes : ByteArray} {maxL : Nat} {ret : Option FieldType} (hown : s.vm.findClass own = some m.cls)
    (w1 : (Cond.methodLink own index y).before a0 Z = true) (w2 : (Cond.sameMethod y.cls owner y.name y.desc).before a0 Z = true) (w2' : (Cond.declares ⟨owner, y.name, y.desc⟩).before a0 Z = true) (ho : owner ≠ "java/lang/invoke/MethodHandle" ∧ owner ≠ "java/lang/invoke/VarHandle") (w3 : (Cond.selects K y z).before a0 Z = true) (w3' : (Cond.instanceMethod z).before a0 Z = true) (w4 : (Cond.code z bytes maxL ret).before a0 Z = true) (w5 : (Cond.initialized z.cls).before a0 Z = true) (eT : T.heap = h) {a : Addr} (E : Exa Z h a K) {argsL rest : List Value} {rm : Room} {Q' : Option Value → Heap → List Loc → Prop} {W : Nat}
    (hM : Met l z bytes maxL ret [] rm Z (.ref a :: argsL).toArray h Q' rm.cells rm.slots)
    (hd : decode c.code g.pc = .ok (.invokevirtual index, 3)) (hs : g.stack = argsL.reverse ++ .ref a :: rest) (hg : g.method = m) (hsz : g.locals.size = maxL0) (hlen : ∀ sig, parseMethodDescriptor y.desc = some sig → argsL.length = sig.parameters.length) (hW : 2 * g.monitorRoom + (rest.map fun v => v.category).sum ≤ W)
    (hf : rm.frames + 1 ≤ R.frames) (hl : W + (maxL + 11) + rm.locals ≤ R.locals) (hc : cells + rm.cells ≤ R.cells) (hsl : slots + rm.slots ≤ R.slots)
    (k : ∀ T' v L, Stand p l e R s m args below meth c T' (locs ++ L) (cells + rm.cells) (slots + rm.slots) → Q' v T'.heap L → Go p e below s Q C S T' { g with pc := g.pc + 3, stack := v.toList ++ rest }) : Go p e below s Q C S T g := by
  obtain ⟨cB, kB, q1, q2, q3⟩ := isOf hZ eT E
  obtain ⟨v, _, ⟨T1, L1, k1, n1⟩, -, X1, ⟨Lc, hQ, l1, y1, z1⟩, st⟩ := X.virtualBackUp hx (x := y) (y := z) hown (mvT hZ w1) (mvT hZ w2) (mvT hZ w2') ho (mvT hZ w3) (mvT hZ w3') (backOf (W := W) hM hZ w4 w5 hf hl) q1 q3 (g := g) hg (hsz.trans hml.symm) (Steps.refl _) (argsL := argsL) (rest := rest) hlen hs hW hd (fun _ _ => ⟨rfl, eT, hc, hsl⟩)
  dsimp only [Pt.U, Pt.locs, Pt.cells, Pt.slots] at X1 l1 y1 z1 st hQ
  subst l1 y1 z1
  exact go_tr st (k _ _ _ X1 hQ)
theorem go_callI (X : Stand p l e R s m args below meth c T locs cells slots) (hx : p.tables.exec = Jvm.exec) (hZ : Z.Warmed39 s.vm) (hml : c.maxLocals = maxL0) {own : String} {index : Nat} {y : MethodName} {bytes : ByteArray} {maxL : Nat} (hown : s.vm.findClass own = some m.cls) (hy1 : y.name = "<init>")
    (w1 : (Cond.methodLink own index y).before a0 Z = true) (w2 : (Cond.instanceMethod y).before a0 Z = true) (w4 : (Cond.code y bytes maxL none).before a0 Z = true) (w5 : (Cond.initialized y.cls).before a0 Z = true) (eT : T.heap = h) {a : Addr} {argsL rest : List Value} {rm : Room} {Q' : Option Value → Heap → List Loc → Prop} {W : Nat}
    (hM : Met l y bytes maxL none [] rm Z (.ref a :: argsL).toArray h Q' rm.cells rm.slots)
    (hd : decode c.code g.pc = .ok (.invokespecial index, 3)) (hs : g.stack = argsL.reverse ++ .ref a :: rest) (hg : g.method = m) (hsz : g.locals.size = maxL0) (hlen : ∀ sig, parseMethodDescriptor y.desc = some sig → argsL.length = sig.parameters.length) (hW : 2 * g.monitorRoom + (rest.map fun v => v.category).sum ≤ W)
    (hy : y.cls ≠ "java/lang/invoke/MethodHandle" ∧ y.cls ≠ "java/lang/invoke/VarHandle") (hf : rm.frames + 1 ≤ R.frames) (hl : W + (maxL + 11) + rm.locals ≤ R.locals) (hc : cells + rm.cells ≤ R.cells) (hsl : slots + rm.slots ≤ R.slots)
    (k : ∀ T' v L, Stand p l e R s m args below meth c T' (locs ++ L) (cells + rm.cells) (slots + rm.slots) → Q' v T'.heap L → Go p e below s Q C S T' { g with pc := g.pc + 3, stack := v.toList ++ rest }) : Go p e below s Q C S T g := by
  obtain ⟨v, _, ⟨T1, L1, k1, n1⟩, -, X1, ⟨Lc, hQ, l1, y1, z1⟩, st⟩ := X.specialBack hx (y := y) hy1 hown (mvT hZ w1) (mvT hZ w2) (mvT hZ w4) hy (backOf (W := W) hM hZ w4 w5 hf hl) (g := g) hg (hsz.trans hml.symm) (Steps.refl _) (a := a) (argsL := argsL) (rest := rest) hlen hs hW hd (fun _ _ => ⟨rfl, eT, hc, hsl⟩)
  dsimp only [Pt.U, Pt.locs, Pt.cells, Pt.slots] at X1 l1 y1 z1 st hQ
  subst l1 y1 z1
  exact go_tr st (k _ _ _ X1 hQ)
theorem go_getF (X : Stand p l e R s m args below meth c T locs cells slots) (hx : p.tables.exec = Jvm.exec) (hZ : Z.Warmed39 s.vm) {own R0 O n d host : String} {index : Nat} (hown : s.vm.findClass own = some m.cls) (w : (Cond.fieldLink own index R0 n d).before a0 Z = true ∨ (Cond.fieldLinkNest own index R0 n d host).before a0 Z = true) (via : Via Z R0 O n d)
    (eT : T.heap = h) {a : Addr} {v : Value} (F : Fld Z h a O n d v) {rest : List Value} (hd : decode c.code g.pc = .ok (.getfield index, 3)) (hg : g.method = m) (hs : g.stack = .ref a :: rest)
    (k : ∀ T', Stand p l e R s m args below meth c T' locs cells slots → T'.heap = h → Go p e below s Q C S T' { g with pc := g.pc + 3, stack := v :: rest }) : Go p e below s Q C S T g := by
  obtain ⟨T1, X1, e1, st⟩ := getF X hx hZ hown w via eT F hg hs hd
  exact go_st st (k _ X1 e1)
theorem go_getS (X : Stand p l e R s m args below meth c T locs cells slots) (hx : p.tables.exec = Jvm.exec) (hZ : Z.Warmed39 s.vm) {own R0 O n d host : String} {index : Nat} (hown : s.vm.findClass own = some m.cls) (w : (Cond.fieldLink own index R0 n d).before a0 Z = true ∨ (Cond.fieldLinkNest own index R0 n d host).before a0 Z = true) (via : Via Z R0 O n d)
    (eT : T.heap = h) {v : Value} (F : Sta Z h O n d v) (hd : decode c.code g.pc = .ok (.getstatic index, 3)) (hg : g.method = m)
    (k : ∀ T', Stand p l e R s m args below meth c T' locs cells slots → T'.heap = h → Go p e below s Q C S T' { g with pc := g.pc + 3, stack := v :: g.stack }) : Go p e below s Q C S T g := by
  obtain ⟨T1, X1, e1, st⟩ := getS2 X hx hZ hown w via eT F hg hd
  exact go_st st (k _ X1 e1)
theorem go_putF (X : Stand p l e R s m args below meth c T locs cells slots) (hx : p.tables.exec = Jvm.exec) (hZ : Z.Warmed39 s.vm) {own R0 O n d host K : String} {index kk : Nat} {ty : FieldType} (hown : s.vm.findClass own = some m.cls) (w : (Cond.fieldLink own index R0 n d).before a0 Z = true ∨ (Cond.fieldLinkNest own index R0 n d host).before a0 Z = true) (via : Via Z R0 O n d)
    (eT : T.heap = h) {a : Addr} {v old : Value} (F : Fld Z h a O n d old) (E : Exa Z h a K) (L : (Cond.lays K O n d).before a0 Z = true ∨ ((Cond.laysFinal K O n d).before a0 Z = true ∧ own = O ∧ meth.name = "<init>")) (wi : (Cond.instantiable K kk).before a0 Z = true)
    (hty : parseFieldDescriptor d = some ty) (hn : narrow ty v = v) (hf : fits ty v = true) {rest : List Value} (hd : decode c.code g.pc = .ok (.putfield index, 3)) (hg : g.method = m) (hs : g.stack = v :: .ref a :: rest)
    (k : ∀ T' h', Stand p l e R s m args below meth c T' (locs ++ [⟨a, Jvm.RoadKit.slotOf Z O n d⟩]) cells slots → T'.heap = h' → Wr h h' a (Jvm.RoadKit.slotOf Z O n d) v → Go p e below s Q C S T' { g with pc := g.pc + 3, stack := rest }) : Go p e below s Q C S T g := by
  obtain ⟨T1, h1, X1, e1, W1, st⟩ := putF X hx hZ hown w via eT F E L wi hty hn hf hg hs hd
  exact go_st st (k _ _ X1 e1 W1)
theorem go_newO (X : Stand p l e R s m args below meth c T locs cells slots) (hx : p.tables.exec = Jvm.exec) (hZ : Z.Warmed39 s.vm) {own K : String} {index n : Nat} (hown : s.vm.findClass own = some m.cls) (w : (Cond.classLink own index K).before a0 Z = true) (wi : (Cond.instantiable K n).before a0 Z = true) (wz : (Cond.initialized K).before a0 Z = true) (eT : T.heap = h)
    (hd : decode c.code g.pc = .ok (.new index, 3)) (hg : g.method = m) (hc : cells + 1 ≤ R.cells) (hl : slots + n ≤ R.slots)
    (k : ∀ T' h' a, a = h.size → Stand p l e R s m args below meth c T' locs (cells + 1) (slots + n) → T'.heap = h' → Ext h h' → Exa Z h' a K → (∀ {O nm d : String} {ty : FieldType}, Laid Z a0 K O nm d → parseFieldDescriptor d = some ty → Fld Z h' a O nm d (defaultValue ty)) → Go p e below s Q C S T' { g with pc := g.pc + 3, stack := .ref a :: g.stack }) : Go p e below s Q C S T g := by
  obtain ⟨T1, h1, X1, e1, E1, A1, D1, -, st⟩ := newO X hx hZ hown w wi wz eT hg hd hc hl
  exact go_st st (k _ _ _ rfl X1 e1 E1 A1 D1)
theorem go_initO (X : Stand p l e R s m args below meth c T locs cells slots) (hx : p.tables.exec = Jvm.exec) (hZ : Z.Warmed39 s.vm) (hml : c.maxLocals = maxL0) {own : String} {idx : Nat} (hown : s.vm.findClass own = some m.cls) (w1 : (Cond.methodLink own idx Lib.objectInit).before a0 Z = true) (w2 : (Cond.instanceMethod Lib.objectInit).before a0 Z = true)
    (w3 : (Cond.code Lib.objectInit ⟨#[0xb1]⟩ 1 none).before a0 Z = true) (eT : T.heap = h) {a : Addr} {rest : List Value} (hd : decode c.code g.pc = .ok (.invokespecial idx, 3)) (hg : g.method = m) (hsz : g.locals.size = maxL0) (hs : g.stack = .ref a :: rest)
    (hf : 1 ≤ R.frames) {W : Nat} (hW : 2 * g.monitorRoom + (rest.map fun v => v.category).sum ≤ W) (hl : W + 12 ≤ R.locals)
    (k : ∀ T', Stand p l e R s m args below meth c T' locs cells slots → T'.heap = h → Go p e below s Q C S T' { g with pc := g.pc + 3, stack := rest }) : Go p e below s Q C S T g := by
  obtain ⟨T1, X1, e1, st⟩ := initO X hx hZ hown w1 w2 w3 eT hg (hsz.trans hml.symm) hs hd hf hW hl
  exact go_st st (k _ X1 e1)
theorem own_lrem {tb : Tables} [Ours tb] {target : State} (hh : At T m c below) (hx : tb.exec = Jvm.exec) (hg : g.method = m) {x y : Int64} {rest : List Value} (hd : decode c.code g.pc = .ok (.lrem, 1)) (hs : g.stack = .long y :: .long x :: rest) (hy : y ≠ 0)
    (hr : Steps tb e below (T.setTop { g with pc := g.pc + 1, stack := .long (x % y) :: rest }) target) : Steps tb e below (T.setTop g) target :=
  XT.lrem hh hx hg hd hs hy (by rw [lrem_mod]; exact hr)
/-! arrays, their places by a function -/
def GA (Z : State) (h : Heap) (a : Addr) (ty : FieldType) (n : Nat) (f : Nat → Value) : Prop := ∃ cl : Cell, Arr Z h a cl ty ∧ cl.slots.size = n ∧ n < 2 ^ 31 ∧ ∀ i, i < n → cl.slots[i]? = some (f i)
theorem GA.lt {a : Addr} {ty : FieldType} {n : Nat} {f : Nat → Value} (A : GA Z h a ty n f) : a < h.size := by
  obtain ⟨cl, A1, -⟩ := A
  exact A1.lt
theorem GA.ext {a : Addr} {ty : FieldType} {n : Nat} {f : Nat → Value} {h' : Heap} (A : GA Z h a ty n f) (E : Ext h h') : GA Z h' a ty n f := by
  obtain ⟨cl, A1, r⟩ := A
  exact ⟨cl, A1.ext E, r⟩
theorem GA.other {a b : Addr} {ty : FieldType} {n sl : Nat} {v : Value} {f : Nat → Value} {h' : Heap} (A : GA Z h b ty n f) (W : Wr h h' a sl v) (q : b ≠ a) : GA Z h' b ty n f := by
  obtain ⟨cl, A1, r⟩ := A
  exact ⟨cl, A1.other W q, r⟩
theorem GA.keep {a : Addr} {ty : FieldType} {n : Nat} {f : Nat → Value} {h' : Heap} {ws : List Addr} (A : GA Z h a ty n f) (K : Keep h h' ws) (q : a ∉ ws) : GA Z h' a ty n f := by
  obtain ⟨cl, A1, r⟩ := A
  exact ⟨cl, ⟨K.2.1 _ _ A1.1 q, A1.2⟩, r⟩
theorem GA.congr {a : Addr} {ty : FieldType} {n : Nat} {f f' : Nat → Value} (A : GA Z h a ty n f) (q : ∀ i, i < n → f i = f' i) : GA Z h a ty n f' := by
  obtain ⟨cl, A1, A2, A3, A4⟩ := A
  exact ⟨cl, A1, A2, A3, fun i hi => (A4 i hi).trans (by rw [q i hi])⟩
theorem GA.set {a : Addr} {ty : FieldType} {n j : Nat} {v : Value} {f : Nat → Value} {h' : Heap} (A : GA Z h a ty n f) (W : Wr h h' a j v) : GA Z h' a ty n (fun i => if i = j then v else f i) := by
  obtain ⟨cl, A1, A2, A3, A4⟩ := A
  obtain ⟨c2, w1, w2, w3, w4⟩ := W
  obtain rfl : cl = c2 := Option.some.inj (A1.1.symm.trans w1)
  refine ⟨cl.setSlot j v, A1.same ⟨cl, w1, w2, w3, w4⟩, (sz_set cl j v).trans A2, A3, fun i hi => ?_⟩
  show (cl.slots.setIfInBounds j v)[i]? = _
  rw [Array.getElem?_setIfInBounds]
  by_cases q : i = j
  · subst q
    rw [if_pos rfl, if_pos w3]
    simp only [if_true]
  · rw [if_neg (fun h => q h.symm)]
    simp only [if_neg q]
    exact A4 i hi
theorem GA.len {a : Addr} {ty : FieldType} {n : Nat} {f : Nat → Value} (A : GA Z h a ty n f) : n < 2 ^ 31 := by
  obtain ⟨cl, -, -, A3, -⟩ := A
  exact A3
def OC (Z : State) (h : Heap) (a : Addr) (ty : FieldType) (K : String) : Prop := ∃ cl : Cell, Arr Z h a cl ty ∧ Ovr Z cl.cls K
theorem OC.ext {a : Addr} {ty : FieldType} {K : String} {h' : Heap} (A : OC Z h a ty K) (E : Ext h h') : OC Z h' a ty K := by
  obtain ⟨cl, A1, A2⟩ := A
  exact ⟨cl, A1.ext E, A2⟩
theorem OC.wr {a b : Addr} {ty : FieldType} {K : String} {sl : Nat} {v : Value} {h' : Heap} (A : OC Z h b ty K) (W : Wr h h' a sl v) : OC Z h' b ty K := by
  obtain ⟨cl, A1, A2⟩ := A
  by_cases q : b = a
  · subst q
    exact ⟨_, A1.same W, A2⟩
  · exact ⟨cl, A1.other W q, A2⟩
theorem OC.keep {b : Addr} {ty : FieldType} {K : String} {h' : Heap} {ws : List Addr} (A : OC Z h b ty K) (Kp : Keep h h' ws) : OC Z h' b ty K := by
  obtain ⟨cl, ⟨A1, A3, A4⟩, A2⟩ := A
  obtain ⟨c', q1, q2, q3, q4⟩ := Kp.2.2 _ _ A1
  refine ⟨c', ⟨q1, ?_, by rw [q3]; exact A4⟩, by rw [q2]; exact A2⟩
  unfold State.isArrayOf at A3 ⊢
  rw [q2, q3]
  exact A3
theorem OC.sto {a y : Addr} {ty : FieldType} {K : String} (A : OC Z h a ty K) (I : Ins Z h y K true) : Sto Z h a (.ref y) := by
  obtain ⟨cl, A1, A2⟩ := A
  exact Sto.of A1 A2 I
theorem own_in {j : Int32} {n : Nat} (q : 0 ≤ j.toInt ∧ j.toInt < n) : ¬ (j < 0 ∨ n ≤ j.toNatClampNeg) := by
  have h1 : (j.toNatClampNeg : Int) = j.toInt := by have := q.1; simp only [Int32.toNatClampNeg]; omega
  rw [Int32.lt_iff_toInt_lt]
  have : (0 : Int32).toInt = 0 := rfl
  omega
theorem go_alen (X : Stand p l e R s m args below meth c T locs cells slots) (hx : p.tables.exec = Jvm.exec) (hZ : Z.Warmed39 s.vm) (eT : T.heap = h) {a : Addr} {ty : FieldType} {n : Nat} {f : Nat → Value} (A : GA Z h a ty n f) {rest : List Value}
    (hd : decode c.code g.pc = .ok (.arraylength, 1)) (hg : g.method = m) (hs : g.stack = .ref a :: rest) (w : Int32) (hw : Nat.toInt32 n = w) (k : Go p e below s Q C S T { g with pc := g.pc + 1, stack := .int w :: rest }) : Go p e below s Q C S T g := by
  obtain ⟨cl, A1, rfl, -, -⟩ := A
  subst hw
  exact go_st (fun t => X.arraylength hx (by rw [eT]; exact A1.1) (State.isArrayOf_alike hZ.alike A1.2.1) hg hs hd t) k
theorem go_iald (X : Stand p l e R s m args below meth c T locs cells slots) (hx : p.tables.exec = Jvm.exec) (hZ : Z.Warmed39 s.vm) (eT : T.heap = h) {a : Addr} {n : Nat} {f : Nat → Value} (A : GA Z h a .int n f) {j : Int32} {rest : List Value}
    (hd : decode c.code g.pc = .ok (.iaload, 1)) (hg : g.method = m) (hs : g.stack = .int j :: .ref a :: rest) (q : 0 ≤ j.toInt ∧ j.toInt < n) (w : Value) (hw : f j.toNatClampNeg = w) (k : Go p e below s Q C S T { g with pc := g.pc + 1, stack := w :: rest }) : Go p e below s Q C S T g := by
  obtain ⟨cl, A1, rfl, -, A4⟩ := A
  have q2 := own_in q
  refine go_st (fun t => X.iaload hx (j := j) (v := w) (by rw [eT]; exact A1.1) (State.isArrayOf_alike hZ.alike A1.2.1) A1.2.2 q2 ?_ hg hs hd t) k
  rw [A4 _ (by omega), hw]
theorem go_lald (X : Stand p l e R s m args below meth c T locs cells slots) (hx : p.tables.exec = Jvm.exec) (hZ : Z.Warmed39 s.vm) (eT : T.heap = h) {a : Addr} {n : Nat} {f : Nat → Value} (A : GA Z h a .long n f) {j : Int32} {rest : List Value}
    (hd : decode c.code g.pc = .ok (.laload, 1)) (hg : g.method = m) (hs : g.stack = .int j :: .ref a :: rest) (q : 0 ≤ j.toInt ∧ j.toInt < n) (w : Value) (hw : f j.toNatClampNeg = w) (k : Go p e below s Q C S T { g with pc := g.pc + 1, stack := w :: rest }) : Go p e below s Q C S T g := by
  obtain ⟨cl, A1, rfl, -, A4⟩ := A
  have q2 := own_in q
  refine go_st (fun t => X.laload hx (j := j) (v := w) (by rw [eT]; exact A1.1) (State.isArrayOf_alike hZ.alike A1.2.1) A1.2.2 q2 ?_ hg hs hd t) k
  rw [A4 _ (by omega), hw]
theorem go_bald (X : Stand p l e R s m args below meth c T locs cells slots) (hx : p.tables.exec = Jvm.exec) (hZ : Z.Warmed39 s.vm) (eT : T.heap = h) {a : Addr} {n : Nat} {f : Nat → Value} (A : GA Z h a .byte n f) {j : Int32} {rest : List Value}
    (hd : decode c.code g.pc = .ok (.baload, 1)) (hg : g.method = m) (hs : g.stack = .int j :: .ref a :: rest) (q : 0 ≤ j.toInt ∧ j.toInt < n) (w : Value) (hw : f j.toNatClampNeg = w) (k : Go p e below s Q C S T { g with pc := g.pc + 1, stack := w :: rest }) : Go p e below s Q C S T g := by
  obtain ⟨cl, A1, rfl, -, A4⟩ := A
  have q2 := own_in q
  refine go_st (fun t => X.baloadBytes hx (j := j) (v := w) (by rw [eT]; exact A1.1) (State.isArrayOf_alike hZ.alike A1.2.1) A1.2.2 q2 ?_ hg hs hd t) k
  rw [A4 _ (by omega), hw]
theorem go_cald (X : Stand p l e R s m args below meth c T locs cells slots) (hx : p.tables.exec = Jvm.exec) (hZ : Z.Warmed39 s.vm) (eT : T.heap = h) {a : Addr} {n : Nat} {f : Nat → Value} (A : GA Z h a .char n f) {j : Int32} {rest : List Value}
    (hd : decode c.code g.pc = .ok (.caload, 1)) (hg : g.method = m) (hs : g.stack = .int j :: .ref a :: rest) (q : 0 ≤ j.toInt ∧ j.toInt < n) (w : Value) (hw : f j.toNatClampNeg = w) (k : Go p e below s Q C S T { g with pc := g.pc + 1, stack := w :: rest }) : Go p e below s Q C S T g := by
  obtain ⟨cl, A1, rfl, -, A4⟩ := A
  have q2 := own_in q
  refine go_st (fun t => X.caload hx (j := j) (v := w) (by rw [eT]; exact A1.1) (State.isArrayOf_alike hZ.alike A1.2.1) A1.2.2 q2 ?_ hg hs hd t) k
  rw [A4 _ (by omega), hw]
theorem go_aald (X : Stand p l e R s m args below meth c T locs cells slots) (hx : p.tables.exec = Jvm.exec) (hZ : Z.Warmed39 s.vm) (eT : T.heap = h) {a : Addr} {ty : FieldType} {n : Nat} {f : Nat → Value} (A : GA Z h a ty n f) (hty : ty.isReference = true) {j : Int32} {rest : List Value}
    (hd : decode c.code g.pc = .ok (.aaload, 1)) (hg : g.method = m) (hs : g.stack = .int j :: .ref a :: rest) (q : 0 ≤ j.toInt ∧ j.toInt < n) (w : Value) (hw : f j.toNatClampNeg = w) (k : Go p e below s Q C S T { g with pc := g.pc + 1, stack := w :: rest }) : Go p e below s Q C S T g := by
  obtain ⟨cl, A1, rfl, -, A4⟩ := A
  have q2 := own_in q
  refine go_st (fun t => X.aaload hx (j := j) (v := w) (by rw [eT]; exact A1.1) (State.isArrayOf_alike hZ.alike A1.2.1) hty A1.2.2 q2 ?_ hg hs hd t) k
  rw [A4 _ (by omega), hw]
theorem go_iast (X : Stand p l e R s m args below meth c T locs cells slots) (hx : p.tables.exec = Jvm.exec) (hZ : Z.Warmed39 s.vm) (eT : T.heap = h) {a : Addr} {n : Nat} {f : Nat → Value} (A : GA Z h a .int n f) {j x : Int32} {rest : List Value}
    (hd : decode c.code g.pc = .ok (.iastore, 1)) (hg : g.method = m) (hs : g.stack = .int x :: .int j :: .ref a :: rest) (q : 0 ≤ j.toInt ∧ j.toInt < n)
    (k : ∀ T' h', Stand p l e R s m args below meth c T' (locs ++ [⟨a, j.toNatClampNeg⟩]) cells slots → T'.heap = h' → Wr h h' a j.toNatClampNeg (.int x) → GA Z h' a .int n (fun i => if i = j.toNatClampNeg then .int x else f i) → Go p e below s Q C S T' { g with pc := g.pc + 1, stack := rest }) : Go p e below s Q C S T g := by
  have A' := A
  obtain ⟨cl, A1, rfl, -, A4⟩ := A
  obtain ⟨T1, h1, X1, e1, W1, st⟩ := stI X hx hZ eT A1 (own_in q) hg hs hd
  exact go_st st (k _ _ X1 e1 W1 (A'.set W1))
theorem go_last (X : Stand p l e R s m args below meth c T locs cells slots) (hx : p.tables.exec = Jvm.exec) (hZ : Z.Warmed39 s.vm) (eT : T.heap = h) {a : Addr} {n : Nat} {f : Nat → Value} (A : GA Z h a .long n f) {j : Int32} {x : Int64} {rest : List Value}
    (hd : decode c.code g.pc = .ok (.lastore, 1)) (hg : g.method = m) (hs : g.stack = .long x :: .int j :: .ref a :: rest) (q : 0 ≤ j.toInt ∧ j.toInt < n)
    (k : ∀ T' h', Stand p l e R s m args below meth c T' (locs ++ [⟨a, j.toNatClampNeg⟩]) cells slots → T'.heap = h' → Wr h h' a j.toNatClampNeg (.long x) → GA Z h' a .long n (fun i => if i = j.toNatClampNeg then .long x else f i) → Go p e below s Q C S T' { g with pc := g.pc + 1, stack := rest }) : Go p e below s Q C S T g := by
  have A' := A
  obtain ⟨cl, A1, rfl, -, A4⟩ := A
  obtain ⟨T1, h1, X1, e1, W1, st⟩ := stJ X hx hZ eT A1 (own_in q) hg hs hd
  exact go_st st (k _ _ X1 e1 W1 (A'.set W1))
theorem go_bast (X : Stand p l e R s m args below meth c T locs cells slots) (hx : p.tables.exec = Jvm.exec) (hZ : Z.Warmed39 s.vm) (eT : T.heap = h) {a : Addr} {n : Nat} {f : Nat → Value} (A : GA Z h a .byte n f) {j x : Int32} {rest : List Value}
    (hd : decode c.code g.pc = .ok (.bastore, 1)) (hg : g.method = m) (hs : g.stack = .int x :: .int j :: .ref a :: rest) (q : 0 ≤ j.toInt ∧ j.toInt < n)
    (k : ∀ T' h', Stand p l e R s m args below meth c T' (locs ++ [⟨a, j.toNatClampNeg⟩]) cells slots → T'.heap = h' → Wr h h' a j.toNatClampNeg (.int x.toInt8.toInt32) → GA Z h' a .byte n (fun i => if i = j.toNatClampNeg then .int x.toInt8.toInt32 else f i) → Go p e below s Q C S T' { g with pc := g.pc + 1, stack := rest }) : Go p e below s Q C S T g := by
  have A' := A
  obtain ⟨cl, A1, rfl, -, A4⟩ := A
  obtain ⟨T1, h1, X1, e1, W1, st⟩ := stB X hx hZ eT A1 (own_in q) hg hs hd
  exact go_st st (k _ _ X1 e1 W1 (A'.set W1))
theorem go_cast (X : Stand p l e R s m args below meth c T locs cells slots) (hx : p.tables.exec = Jvm.exec) (hZ : Z.Warmed39 s.vm) (eT : T.heap = h) {a : Addr} {n : Nat} {f : Nat → Value} (A : GA Z h a .char n f) {j x : Int32} {rest : List Value}
    (hd : decode c.code g.pc = .ok (.castore, 1)) (hg : g.method = m) (hs : g.stack = .int x :: .int j :: .ref a :: rest) (q : 0 ≤ j.toInt ∧ j.toInt < n)
    (k : ∀ T' h', Stand p l e R s m args below meth c T' (locs ++ [⟨a, j.toNatClampNeg⟩]) cells slots → T'.heap = h' → Wr h h' a j.toNatClampNeg (.int (nar .char x)) → GA Z h' a .char n (fun i => if i = j.toNatClampNeg then .int (nar .char x) else f i) → Go p e below s Q C S T' { g with pc := g.pc + 1, stack := rest }) : Go p e below s Q C S T g := by
  have A' := A
  obtain ⟨cl, A1, rfl, -, A4⟩ := A
  obtain ⟨T1, h1, X1, e1, W1, st⟩ := stC X hx hZ eT A1 (own_in q) hg hs hd
  exact go_st st (k _ _ X1 e1 W1 (A'.set W1))
theorem go_aast (X : Stand p l e R s m args below meth c T locs cells slots) (hx : p.tables.exec = Jvm.exec) (hZ : Z.Warmed39 s.vm) (eT : T.heap = h) {a : Addr} {ty : FieldType} {n : Nat} {f : Nat → Value} (A : GA Z h a ty n f) (hty : ty.isReference = true) {j : Int32} {v : Value} (F : Sto Z h a v) {rest : List Value}
    (hd : decode c.code g.pc = .ok (.aastore, 1)) (hg : g.method = m) (hs : g.stack = v :: .int j :: .ref a :: rest) (q : 0 ≤ j.toInt ∧ j.toInt < n)
    (k : ∀ T' h', Stand p l e R s m args below meth c T' (locs ++ [⟨a, j.toNatClampNeg⟩]) cells slots → T'.heap = h' → Wr h h' a j.toNatClampNeg v → GA Z h' a ty n (fun i => if i = j.toNatClampNeg then v else f i) → Go p e below s Q C S T' { g with pc := g.pc + 1, stack := rest }) : Go p e below s Q C S T g := by
  have A' := A
  obtain ⟨cl, A1, rfl, -, A4⟩ := A
  obtain ⟨T1, h1, X1, e1, W1, st⟩ := stR X hx hZ eT A1 (own_in q) hty F hg hs hd
  exact go_st st (k _ _ X1 e1 W1 (A'.set W1))
theorem own_clamp {n : Int32} {N : Nat} (q : n.toInt = N) : n.toNatClampNeg = N := by simp only [Int32.toNatClampNeg]; omega
theorem own_nneg {n : Int32} {N : Nat} (q : n.toInt = N) : ¬ n < 0 := by
  rw [Int32.lt_iff_toInt_lt]
  have : (0 : Int32).toInt = 0 := rfl
  omega
theorem go_newP (X : Stand p l e R s m args below meth c T locs cells slots) (hx : p.tables.exec = Jvm.exec) (hZ : Z.Warmed39 s.vm) {aty : ArrayType} (w : (Cond.arrayClass (newarray.typeOf aty)).before a0 Z = true) (eT : T.heap = h) {n : Int32} {rest : List Value} (hd : decode c.code g.pc = .ok (.newarray aty, 2)) (hg : g.method = m) (hs : g.stack = .int n :: rest)
    (N : Nat) (hn : n.toInt = N) (cap : Nat) (hcap : N ≤ cap) (hb : cap * 8 ≤ 536870912) (hc : cells + 1 ≤ R.cells) (hl : slots + cap ≤ R.slots)
    (k : ∀ T' h' a, a = h.size → Stand p l e R s m args below meth c T' locs (cells + 1) (slots + cap) → T'.heap = h' → Ext h h' → GA Z h' a (newarray.typeOf aty) N (fun _ => defaultValue (newarray.typeOf aty)) → Go p e below s Q C S T' { g with pc := g.pc + 2, stack := .ref a :: rest }) : Go p e below s Q C S T g := by
  have hN := own_clamp hn
  have hn0 := own_nneg hn
  obtain ⟨T1, h1, cA, X1, e1, E1, A1, st⟩ := newP X hx hZ w eT hg hd hs hn0 (cap := cap) (by omega) hb hc hl
  refine go_st st (k _ _ _ rfl X1 e1 E1 ⟨_, A1, (sz_new _ _ _).trans hN, ?_, fun i hi => ?_⟩)
  · have := (rng32 n).2
    omega
  · show (Array.replicate n.toNatClampNeg (defaultValue _))[i]? = _
    rw [hN, Array.getElem?_replicate, if_pos hi]
theorem go_newR (X : Stand p l e R s m args below meth c T locs cells slots) (hx : p.tables.exec = Jvm.exec) (hZ : Z.Warmed39 s.vm) {own K : String} {index : Nat} (hown : s.vm.findClass own = some m.cls) (w1 : (Cond.classLink own index K).before a0 Z = true) (w2 : (Cond.arrayOver (.object K)).before a0 Z = true) (eT : T.heap = h) {n : Int32} {rest : List Value} (hd : decode c.code g.pc = .ok (.anewarray index, 3)) (hg : g.method = m) (hs : g.stack = .int n :: rest)
    (N : Nat) (hn : n.toInt = N) (cap : Nat) (hcap : N ≤ cap) (hb : cap * 8 ≤ 536870912) (hc : cells + 1 ≤ R.cells) (hl : slots + cap ≤ R.slots)
    (k : ∀ T' h' a, a = h.size → Stand p l e R s m args below meth c T' locs (cells + 1) (slots + cap) → T'.heap = h' → Ext h h' → GA Z h' a (.object K) N (fun _ => .null) → OC Z h' a (.object K) K → Go p e below s Q C S T' { g with pc := g.pc + 3, stack := .ref a :: rest }) : Go p e below s Q C S T g := by
  have hN := own_clamp hn
  have hn0 := own_nneg hn
  obtain ⟨T1, h1, cA, X1, e1, E1, A1, O1, st⟩ := newR X hx hZ hown w1 w2 eT hg hd hs hn0 (cap := cap) (by omega) hb hc hl
  refine go_st st (k _ _ _ rfl X1 e1 E1 ⟨_, A1, (sz_new _ _ _).trans hN, ?_, fun i hi => ?_⟩ ⟨_, A1, O1⟩)
  · have := (rng32 n).2
    omega
  · show (Array.replicate n.toNatClampNeg (defaultValue _))[i]? = _
    rw [hN, Array.getElem?_replicate, if_pos hi]
    rfl
end OwnGo
theorem d1_0 : decode prog_4_method_9_code 0 = .ok (.lload_n 0, 1) := by decide +kernel
theorem d1_1 : decode prog_4_method_9_code 1 = .ok (.ldc2_w 50, 3) := by decide +kernel
theorem d1_4 : decode prog_4_method_9_code 4 = .ok (.ldiv, 1) := by decide +kernel
theorem d1_5 : decode prog_4_method_9_code 5 = .ok (.lstore_n 2, 1) := by decide +kernel
theorem d1_6 : decode prog_4_method_9_code 6 = .ok (.lload_n 0, 1) := by decide +kernel
theorem d1_7 : decode prog_4_method_9_code 7 = .ok (.ldc2_w 50, 3) := by decide +kernel
theorem d1_10 : decode prog_4_method_9_code 10 = .ok (.lrem, 1) := by decide +kernel
theorem d1_11 : decode prog_4_method_9_code 11 = .ok (.lconst 0, 1) := by decide +kernel
theorem d1_12 : decode prog_4_method_9_code 12 = .ok (.lcmp, 1) := by decide +kernel
theorem d1_13 : decode prog_4_method_9_code 13 = .ok (.ifCond .eq 7, 3) := by decide +kernel
theorem d1_16 : decode prog_4_method_9_code 16 = .ok (.iconst 1, 1) := by decide +kernel
theorem d1_17 : decode prog_4_method_9_code 17 = .ok (.goto 4, 3) := by decide +kernel
theorem d1_20 : decode prog_4_method_9_code 20 = .ok (.iconst 0, 1) := by decide +kernel
theorem d1_21 : decode prog_4_method_9_code 21 = .ok (.istore 4, 2) := by decide +kernel
theorem d1_23 : decode prog_4_method_9_code 23 = .ok (.iload 4, 2) := by decide +kernel
theorem d1_25 : decode prog_4_method_9_code 25 = .ok (.ifCond .eq 9, 3) := by decide +kernel
theorem d1_28 : decode prog_4_method_9_code 28 = .ok (.lload_n 2, 1) := by decide +kernel
theorem d1_29 : decode prog_4_method_9_code 29 = .ok (.lconst 1, 1) := by decide +kernel
theorem d1_30 : decode prog_4_method_9_code 30 = .ok (.ladd, 1) := by decide +kernel
theorem d1_31 : decode prog_4_method_9_code 31 = .ok (.goto 4, 3) := by decide +kernel
theorem d1_34 : decode prog_4_method_9_code 34 = .ok (.lload_n 2, 1) := by decide +kernel
theorem d1_35 : decode prog_4_method_9_code 35 = .ok (.lreturn, 1) := by decide +kernel
theorem pn0 : plainFor (⟨"com/example/aforo/aforo/Decision", "secondsRoundedUp", "(J)J"⟩ : MethodName) = true := by first | (refine plainFor_of_name ?_; simp [plainName, overriddenIn]; done) | (refine plainFor_of_name ?_; decide +kernel) | decide +kernel
def fSec (x0 : Int64) : Int64 := (if (x0 % (1000 : Int64)) = (0 : Int64) then (x0 / (1000 : Int64)) else ((x0 / (1000 : Int64)) + (1 : Int64)))
theorem ef_1 (m : MethodId) (x0 : Int64) : entryFrame m #[(.long x0)] 5 = mkF m 0 #[.val (.long x0), .second, .unset, .unset, .unset] [] := by first | (simp [entryFrame, mkF, argsToLocals, Value.category]; done) | rfl
abbrev rm_1 : Room := ({ frames := 0, cells := 0, slots := 0, locals := 0 } : Room)
set_option maxRecDepth 65536 in
set_option maxHeartbeats 4000000 in
theorem met_1 (l : Launch) (Z : State) (a0 : Array Value) (hw : ∀ d ∈ tables_1, d.before a0 Z = true) (x0 : Int64) (h0 : Heap) (n0 : Nat) :
    Met l (⟨"com/example/aforo/aforo/Decision", "secondsRoundedUp", "(J)J"⟩ : MethodName) prog_4_method_9_code 5 (some FieldType.long) [] rm_1 Z #[(.long x0)] h0 (QV (some (.long (fSec x0))) h0 n0) 0 0 := by
  refine own_body pn0 ?_
  intro p e s m below meth c s₁ ct X0 e0
  have ct0 := ct
  obtain ⟨hx, hZ, hown, hby, hml, hret, hlk, hnm⟩ := ct
  have N0 := Fr.nil n0
  refine castGo (ef_1 m x0) ?_
  unfold fSec
  show Go p e below s _ _ _ s₁ (mkF m 0 #[.val (.long x0), .second, .unset, .unset, .unset] [])
  refine go_st (fun _ k => XT.lloadN X0.here hx rfl (hb hby d1_0) rfl k) ?_
  show Go p e below s _ _ _ s₁ (mkF m 1 #[.val (.long x0), .second, .unset, .unset, .unset] [(.long x0)])
  refine go_st (fun _ k => Jvm.Stand.ldc2J X0 hx hown (mvT hZ (hw _ (List.mem_of_getElem? (i := 6) rfl))) rfl (hb hby d1_1) k) ?_
  show Go p e below s _ _ _ s₁ (mkF m 4 #[.val (.long x0), .second, .unset, .unset, .unset] [(.long (1000 : Int64)), (.long x0)])
  refine go_st (fun _ k => XT.ldiv X0.here hx rfl (hb hby d1_4) rfl (by decide) k) ?_
  show Go p e below s _ _ _ s₁ (mkF m 5 #[.val (.long x0), .second, .unset, .unset, .unset] [(.long (x0 / (1000 : Int64)))])
  refine go_st (fun _ k => XT.lstoreN X0.here hx rfl (hb hby d1_5) rfl (l' := #[.val (.long x0), .second, .val (.long (x0 / (1000 : Int64))), .second, .unset]) rfl k) ?_
  show Go p e below s _ _ _ s₁ (mkF m 6 #[.val (.long x0), .second, .val (.long (x0 / (1000 : Int64))), .second, .unset] [])
  refine go_st (fun _ k => XT.lloadN X0.here hx rfl (hb hby d1_6) rfl k) ?_
  show Go p e below s _ _ _ s₁ (mkF m 7 #[.val (.long x0), .second, .val (.long (x0 / (1000 : Int64))), .second, .unset] [(.long x0)])
  refine go_st (fun _ k => Jvm.Stand.ldc2J X0 hx hown (mvT hZ (hw _ (List.mem_of_getElem? (i := 6) rfl))) rfl (hb hby d1_7) k) ?_
  show Go p e below s _ _ _ s₁ (mkF m 10 #[.val (.long x0), .second, .val (.long (x0 / (1000 : Int64))), .second, .unset] [(.long (1000 : Int64)), (.long x0)])
  refine go_st (fun _ k => own_lrem X0.here hx rfl (hb hby d1_10) rfl (by decide) k) ?_
  show Go p e below s _ _ _ s₁ (mkF m 11 #[.val (.long x0), .second, .val (.long (x0 / (1000 : Int64))), .second, .unset] [(.long (x0 % (1000 : Int64)))])
  refine go_st (fun _ k => XT.lconstV X0.here hx rfl (0 : Int64) (hb hby d1_11) (by decide) k) ?_
  show Go p e below s _ _ _ s₁ (mkF m 12 #[.val (.long x0), .second, .val (.long (x0 / (1000 : Int64))), .second, .unset] [(.long (0 : Int64)), (.long (x0 % (1000 : Int64)))])
  refine go_st (fun _ k => XT.lcmp X0.here hx rfl (hb hby d1_12) rfl k) ?_
  show Go p e below s _ _ _ s₁ (mkF m 13 #[.val (.long x0), .second, .val (.long (x0 / (1000 : Int64))), .second, .unset] [(.int (XT.cmpL (x0 % (1000 : Int64)) (0 : Int64)))])
  by_cases hc1 : (x0 % (1000 : Int64)) = (0 : Int64)
  · rw [if_pos hc1]
    refine go_st (fun _ k => XS.ifYes X0.here hx rfl (pc0 := 13) (pc' := 20) rfl (hb hby d1_13) rfl (XT.ll_eq_t hc1) (by decide) (by decide) k) ?_
    show Go p e below s _ _ _ s₁ (mkF m 20 #[.val (.long x0), .second, .val (.long (x0 / (1000 : Int64))), .second, .unset] [])
    refine go_st (fun _ k => XT.iconstV X0.here hx rfl (0 : Int32) (hb hby d1_20) (by decide) k) ?_
    show Go p e below s _ _ _ s₁ (mkF m 21 #[.val (.long x0), .second, .val (.long (x0 / (1000 : Int64))), .second, .unset] [(.int (0 : Int32))])
    refine go_st (fun _ k => XS.istore X0.here hx rfl (hb hby d1_21) rfl (l' := #[.val (.long x0), .second, .val (.long (x0 / (1000 : Int64))), .second, .val (.int (0 : Int32))]) rfl k) ?_
    show Go p e below s _ _ _ s₁ (mkF m 23 #[.val (.long x0), .second, .val (.long (x0 / (1000 : Int64))), .second, .val (.int (0 : Int32))] [])
    refine go_st (fun _ k => XS.iload X0.here hx rfl (hb hby d1_23) rfl k) ?_
    show Go p e below s _ _ _ s₁ (mkF m 25 #[.val (.long x0), .second, .val (.long (x0 / (1000 : Int64))), .second, .val (.int (0 : Int32))] [(.int (0 : Int32))])
    refine go_st (fun _ k => XS.ifYes X0.here hx rfl (pc0 := 25) (pc' := 34) rfl (hb hby d1_25) rfl (XT.i0_eq_t (by decide)) (by decide) (by decide) k) ?_
    show Go p e below s _ _ _ s₁ (mkF m 34 #[.val (.long x0), .second, .val (.long (x0 / (1000 : Int64))), .second, .val (.int (0 : Int32))] [])
    refine go_st (fun _ k => XT.lloadN X0.here hx rfl (hb hby d1_34) rfl k) ?_
    show Go p e below s _ _ _ s₁ (mkF m 35 #[.val (.long x0), .second, .val (.long (x0 / (1000 : Int64))), .second, .val (.int (0 : Int32))] [(.long (x0 / (1000 : Int64)))])
    exact go_retL X0 hx hlk hret (hb hby d1_35) (by decide) (by decide) ⟨rfl, N0, e0⟩
  · rw [if_neg hc1]
    refine go_st (fun _ k => XS.ifNo X0.here hx rfl (hb hby d1_13) rfl (XT.ll_eq_f hc1) k) ?_
    show Go p e below s _ _ _ s₁ (mkF m 16 #[.val (.long x0), .second, .val (.long (x0 / (1000 : Int64))), .second, .unset] [])
    refine go_st (fun _ k => XT.iconstV X0.here hx rfl (1 : Int32) (hb hby d1_16) (by decide) k) ?_
    show Go p e below s _ _ _ s₁ (mkF m 17 #[.val (.long x0), .second, .val (.long (x0 / (1000 : Int64))), .second, .unset] [(.int (1 : Int32))])
    refine go_st (fun _ k => XS.goto X0.here hx rfl (pc0 := 17) (pc' := 21) rfl (hb hby d1_17) (by decide) (by decide) k) ?_
    show Go p e below s _ _ _ s₁ (mkF m 21 #[.val (.long x0), .second, .val (.long (x0 / (1000 : Int64))), .second, .unset] [(.int (1 : Int32))])
    refine go_st (fun _ k => XS.istore X0.here hx rfl (hb hby d1_21) rfl (l' := #[.val (.long x0), .second, .val (.long (x0 / (1000 : Int64))), .second, .val (.int (1 : Int32))]) rfl k) ?_
    show Go p e below s _ _ _ s₁ (mkF m 23 #[.val (.long x0), .second, .val (.long (x0 / (1000 : Int64))), .second, .val (.int (1 : Int32))] [])
    refine go_st (fun _ k => XS.iload X0.here hx rfl (hb hby d1_23) rfl k) ?_
    show Go p e below s _ _ _ s₁ (mkF m 25 #[.val (.long x0), .second, .val (.long (x0 / (1000 : Int64))), .second, .val (.int (1 : Int32))] [(.int (1 : Int32))])
    refine go_st (fun _ k => XS.ifNo X0.here hx rfl (hb hby d1_25) rfl (XT.i0_eq_f (by decide)) k) ?_
    show Go p e below s _ _ _ s₁ (mkF m 28 #[.val (.long x0), .second, .val (.long (x0 / (1000 : Int64))), .second, .val (.int (1 : Int32))] [])
    refine go_st (fun _ k => XT.lloadN X0.here hx rfl (hb hby d1_28) rfl k) ?_
    show Go p e below s _ _ _ s₁ (mkF m 29 #[.val (.long x0), .second, .val (.long (x0 / (1000 : Int64))), .second, .val (.int (1 : Int32))] [(.long (x0 / (1000 : Int64)))])
    refine go_st (fun _ k => XT.lconstV X0.here hx rfl (1 : Int64) (hb hby d1_29) (by decide) k) ?_
    show Go p e below s _ _ _ s₁ (mkF m 30 #[.val (.long x0), .second, .val (.long (x0 / (1000 : Int64))), .second, .val (.int (1 : Int32))] [(.long (1 : Int64)), (.long (x0 / (1000 : Int64)))])
    refine go_st (fun _ k => XT.ladd X0.here hx rfl (hb hby d1_30) rfl k) ?_
    show Go p e below s _ _ _ s₁ (mkF m 31 #[.val (.long x0), .second, .val (.long (x0 / (1000 : Int64))), .second, .val (.int (1 : Int32))] [(.long ((x0 / (1000 : Int64)) + (1 : Int64)))])
    refine go_st (fun _ k => XS.goto X0.here hx rfl (pc0 := 31) (pc' := 35) rfl (hb hby d1_31) (by decide) (by decide) k) ?_
    show Go p e below s _ _ _ s₁ (mkF m 35 #[.val (.long x0), .second, .val (.long (x0 / (1000 : Int64))), .second, .val (.int (1 : Int32))] [(.long ((x0 / (1000 : Int64)) + (1 : Int64)))])
    exact go_retL X0 hx hlk hret (hb hby d1_35) (by decide) (by decide) ⟨rfl, N0, e0⟩
theorem pn1 : plainFor x = true := by first | (refine plainFor_of_name ?_; simp [plainName, overriddenIn]; done) | (refine plainFor_of_name ?_; decide +kernel) | decide +kernel
theorem pd0 : parseMethodDescriptor "(J)J" = some ⟨[.long], (some .long)⟩ := by decide +kernel
def fLaw_85 (y0 : Int64) (y1 : Int32) (y2 : Int64) (y3 : Int64) (y4 : Int32) (y5 : Int64) (y6 : Int64) : Int32 := (if y6 < (0 : Int64) then (0 : Int32) else (if (9223372036854776 : Int64) < y6 then (0 : Int32) else (if y6 = (0 : Int64) then (if y5 = (0 : Int64) then (1 : Int32) else (0 : Int32)) else (if (y5 - ((y6 - (1 : Int64)) * (1000 : Int64))) < (1 : Int64) then (0 : Int32) else (if (1000 : Int64) < (y5 - ((y6 - (1 : Int64)) * (1000 : Int64))) then (0 : Int32) else (1 : Int32))))))
def fLaw_78 (y0 : Int64) (y1 : Int32) (y2 : Int64) (y3 : Int64) (y4 : Int32) (y5 : Int64) : Int32 := (fLaw_85 y0 y1 y2 y3 y4 y5 (fSec y5))
def fLaw_22 (y0 : Int64) (y1 : Int32) (y2 : Int64) (y3 : Int64) (y4 : Int32) : Int32 := (if y4 = (0 : Int32) then (fLaw_78 y0 y1 y2 y3 y4 y3) else (if y4 = (1 : Int32) then (fLaw_78 y0 y1 y2 y3 y4 (y3 + (1 : Int64))) else (if y4 = (2 : Int32) then (if y3 = (0 : Int64) then (fLaw_78 y0 y1 y2 y3 y4 (0 : Int64)) else (fLaw_78 y0 y1 y2 y3 y4 (y3 - (1 : Int64)))) else (fLaw_78 y0 y1 y2 y3 y4 y2))))
def fLaw_6 (y0 : Int64) (y1 : Int32) (y2 : Int64) : Int32 := (fLaw_22 y0 y1 y2 ((y2 / (1000 : Int64)) * (1000 : Int64)) (y1 &&& (3 : Int32)))
def fLaw (x0 : Int64) (x1 : Int32) : Int32 := (fLaw_6 x0 x1 (x0 &&& (9223372036854775807 : Int64)))
theorem ef_law (m : MethodId) (x0 : Int64) (x1 : Int32) : entryFrame m #[(.long x0), (.int x1)] maxLocals = mkF m 0 #[.val (.long x0), .second, .val (.int x1), .unset, .unset, .unset, .unset, .unset, .unset, .unset, .unset, .unset, .unset, .unset] [] := by first | (simp [entryFrame, mkF, argsToLocals, Value.category, maxLocals]; done) | rfl
set_option maxRecDepth 65536 in
set_option maxHeartbeats 4000000 in
theorem blk_fLaw_85 (l : Launch) (Z : State) (a0 : Array Value) (hw : ∀ d ∈ tables_1, d.before a0 Z = true) {p : Program} {e : Env} {s : State} {m : MethodId} {args : Array Value} {below : List Frame} {meth : Method} {c : Code} (ct : Ct p s m meth c Z "com/example/aforo/aforo/DecisionSecondsRoundedUpPinLaw" "law" code maxLocals ret) {T0 : State} {locs : List Loc} (X0 : Stand p l e room_1 s m args below meth c T0 locs 0 0) {h0 : Heap} (e0 : T0.heap = h0) (n0 : Nat) (Z0 : n0 ≤ h0.size) (N0 : Fr n0 locs) (y0 : Int64) (y1 : Int32) (y2 : Int64) (y3 : Int64) (y4 : Int32) (y5 : Int64) (y6 : Int64) :
    Go p e below s (QF (some (.int (fLaw_85 y0 y1 y2 y3 y4 y5 y6))) n0) 0 0 T0 (mkF m 85 #[.val (.long y0), .second, .val (.int y1), .val (.long y2), .second, .val (.long y3), .second, .val (.int y4), .val (.long y5), .second, .val (.long y6), .second, .unset, .unset] []) := by
  have ct0 := ct
  obtain ⟨hx, hZ, hown, hby, hml, hret, hlk, hnm⟩ := ct
  unfold fLaw_85
  refine go_st (fun _ k => XT.lload X0.here hx rfl (hb hby at_85) rfl k) ?_
  show Go p e below s _ _ _ T0 (mkF m 87 #[.val (.long y0), .second, .val (.int y1), .val (.long y2), .second, .val (.long y3), .second, .val (.int y4), .val (.long y5), .second, .val (.long y6), .second, .unset, .unset] [(.long y6)])
  refine go_st (fun _ k => XT.lconstV X0.here hx rfl (0 : Int64) (hb hby at_87) (by decide) k) ?_
  show Go p e below s _ _ _ T0 (mkF m 88 #[.val (.long y0), .second, .val (.int y1), .val (.long y2), .second, .val (.long y3), .second, .val (.int y4), .val (.long y5), .second, .val (.long y6), .second, .unset, .unset] [(.long (0 : Int64)), (.long y6)])
  refine go_st (fun _ k => XT.lcmp X0.here hx rfl (hb hby at_88) rfl k) ?_
  show Go p e below s _ _ _ T0 (mkF m 89 #[.val (.long y0), .second, .val (.int y1), .val (.long y2), .second, .val (.long y3), .second, .val (.int y4), .val (.long y5), .second, .val (.long y6), .second, .unset, .unset] [(.int (XT.cmpL y6 (0 : Int64)))])
  by_cases hc4 : y6 < (0 : Int64)
  · rw [if_pos hc4]
    refine go_st (fun _ k => XS.ifYes X0.here hx rfl (pc0 := 89) (pc' := 101) rfl (hb hby at_89) rfl (XT.ll_lt_t hc4) (by decide) (by decide) k) ?_
    show Go p e below s _ _ _ T0 (mkF m 101 #[.val (.long y0), .second, .val (.int y1), .val (.long y2), .second, .val (.long y3), .second, .val (.int y4), .val (.long y5), .second, .val (.long y6), .second, .unset, .unset] [])
    refine go_st (fun _ k => XT.iconstV X0.here hx rfl (0 : Int32) (hb hby at_101) (by decide) k) ?_
    show Go p e below s _ _ _ T0 (mkF m 102 #[.val (.long y0), .second, .val (.int y1), .val (.long y2), .second, .val (.long y3), .second, .val (.int y4), .val (.long y5), .second, .val (.long y6), .second, .unset, .unset] [(.int (0 : Int32))])
    exact go_retB (w := (0 : Int32)) X0 hx hlk hret (hb hby at_102) (by decide) (by decide) (by decide) ⟨rfl, N0⟩
  · rw [if_neg hc4]
    refine go_st (fun _ k => XS.ifNo X0.here hx rfl (hb hby at_89) rfl (XT.ll_lt_f hc4) k) ?_
    show Go p e below s _ _ _ T0 (mkF m 92 #[.val (.long y0), .second, .val (.int y1), .val (.long y2), .second, .val (.long y3), .second, .val (.int y4), .val (.long y5), .second, .val (.long y6), .second, .unset, .unset] [])
    refine go_st (fun _ k => XT.lload X0.here hx rfl (hb hby at_92) rfl k) ?_
    show Go p e below s _ _ _ T0 (mkF m 94 #[.val (.long y0), .second, .val (.int y1), .val (.long y2), .second, .val (.long y3), .second, .val (.int y4), .val (.long y5), .second, .val (.long y6), .second, .unset, .unset] [(.long y6)])
    refine go_st (fun _ k => Jvm.Stand.ldc2J X0 hx hown (mvT hZ (hw _ (List.mem_of_getElem? (i := 7) rfl))) rfl (hb hby at_94) k) ?_
    show Go p e below s _ _ _ T0 (mkF m 97 #[.val (.long y0), .second, .val (.int y1), .val (.long y2), .second, .val (.long y3), .second, .val (.int y4), .val (.long y5), .second, .val (.long y6), .second, .unset, .unset] [(.long (9223372036854776 : Int64)), (.long y6)])
    refine go_st (fun _ k => XT.lcmp X0.here hx rfl (hb hby at_97) rfl k) ?_
    show Go p e below s _ _ _ T0 (mkF m 98 #[.val (.long y0), .second, .val (.int y1), .val (.long y2), .second, .val (.long y3), .second, .val (.int y4), .val (.long y5), .second, .val (.long y6), .second, .unset, .unset] [(.int (XT.cmpL y6 (9223372036854776 : Int64)))])
    by_cases hc5 : (9223372036854776 : Int64) < y6
    · rw [if_pos hc5]
      refine go_st (fun _ k => XS.ifNo X0.here hx rfl (hb hby at_98) rfl (XT.ll_le_f hc5) k) ?_
      show Go p e below s _ _ _ T0 (mkF m 101 #[.val (.long y0), .second, .val (.int y1), .val (.long y2), .second, .val (.long y3), .second, .val (.int y4), .val (.long y5), .second, .val (.long y6), .second, .unset, .unset] [])
      refine go_st (fun _ k => XT.iconstV X0.here hx rfl (0 : Int32) (hb hby at_101) (by decide) k) ?_
      show Go p e below s _ _ _ T0 (mkF m 102 #[.val (.long y0), .second, .val (.int y1), .val (.long y2), .second, .val (.long y3), .second, .val (.int y4), .val (.long y5), .second, .val (.long y6), .second, .unset, .unset] [(.int (0 : Int32))])
      exact go_retB (w := (0 : Int32)) X0 hx hlk hret (hb hby at_102) (by decide) (by decide) (by decide) ⟨rfl, N0⟩
    · rw [if_neg hc5]
      refine go_st (fun _ k => XS.ifYes X0.here hx rfl (pc0 := 98) (pc' := 103) rfl (hb hby at_98) rfl (XT.ll_le_t hc5) (by decide) (by decide) k) ?_
      show Go p e below s _ _ _ T0 (mkF m 103 #[.val (.long y0), .second, .val (.int y1), .val (.long y2), .second, .val (.long y3), .second, .val (.int y4), .val (.long y5), .second, .val (.long y6), .second, .unset, .unset] [])
      refine go_st (fun _ k => XT.lload X0.here hx rfl (hb hby at_103) rfl k) ?_
      show Go p e below s _ _ _ T0 (mkF m 105 #[.val (.long y0), .second, .val (.int y1), .val (.long y2), .second, .val (.long y3), .second, .val (.int y4), .val (.long y5), .second, .val (.long y6), .second, .unset, .unset] [(.long y6)])
      refine go_st (fun _ k => XT.lconstV X0.here hx rfl (0 : Int64) (hb hby at_105) (by decide) k) ?_
      show Go p e below s _ _ _ T0 (mkF m 106 #[.val (.long y0), .second, .val (.int y1), .val (.long y2), .second, .val (.long y3), .second, .val (.int y4), .val (.long y5), .second, .val (.long y6), .second, .unset, .unset] [(.long (0 : Int64)), (.long y6)])
      refine go_st (fun _ k => XT.lcmp X0.here hx rfl (hb hby at_106) rfl k) ?_
      show Go p e below s _ _ _ T0 (mkF m 107 #[.val (.long y0), .second, .val (.int y1), .val (.long y2), .second, .val (.long y3), .second, .val (.int y4), .val (.long y5), .second, .val (.long y6), .second, .unset, .unset] [(.int (XT.cmpL y6 (0 : Int64)))])
      by_cases hc6 : y6 = (0 : Int64)
      · rw [if_pos hc6]
        refine go_st (fun _ k => XS.ifNo X0.here hx rfl (hb hby at_107) rfl (XT.ll_ne_f hc6) k) ?_
        show Go p e below s _ _ _ T0 (mkF m 110 #[.val (.long y0), .second, .val (.int y1), .val (.long y2), .second, .val (.long y3), .second, .val (.int y4), .val (.long y5), .second, .val (.long y6), .second, .unset, .unset] [])
        refine go_st (fun _ k => XT.lload X0.here hx rfl (hb hby at_110) rfl k) ?_
        show Go p e below s _ _ _ T0 (mkF m 112 #[.val (.long y0), .second, .val (.int y1), .val (.long y2), .second, .val (.long y3), .second, .val (.int y4), .val (.long y5), .second, .val (.long y6), .second, .unset, .unset] [(.long y5)])
        refine go_st (fun _ k => XT.lconstV X0.here hx rfl (0 : Int64) (hb hby at_112) (by decide) k) ?_
        show Go p e below s _ _ _ T0 (mkF m 113 #[.val (.long y0), .second, .val (.int y1), .val (.long y2), .second, .val (.long y3), .second, .val (.int y4), .val (.long y5), .second, .val (.long y6), .second, .unset, .unset] [(.long (0 : Int64)), (.long y5)])
        refine go_st (fun _ k => XT.lcmp X0.here hx rfl (hb hby at_113) rfl k) ?_
        show Go p e below s _ _ _ T0 (mkF m 114 #[.val (.long y0), .second, .val (.int y1), .val (.long y2), .second, .val (.long y3), .second, .val (.int y4), .val (.long y5), .second, .val (.long y6), .second, .unset, .unset] [(.int (XT.cmpL y5 (0 : Int64)))])
        by_cases hc7 : y5 = (0 : Int64)
        · rw [if_pos hc7]
          refine go_st (fun _ k => XS.ifNo X0.here hx rfl (hb hby at_114) rfl (XT.ll_ne_f hc7) k) ?_
          show Go p e below s _ _ _ T0 (mkF m 117 #[.val (.long y0), .second, .val (.int y1), .val (.long y2), .second, .val (.long y3), .second, .val (.int y4), .val (.long y5), .second, .val (.long y6), .second, .unset, .unset] [])
          refine go_st (fun _ k => XT.iconstV X0.here hx rfl (1 : Int32) (hb hby at_117) (by decide) k) ?_
          show Go p e below s _ _ _ T0 (mkF m 118 #[.val (.long y0), .second, .val (.int y1), .val (.long y2), .second, .val (.long y3), .second, .val (.int y4), .val (.long y5), .second, .val (.long y6), .second, .unset, .unset] [(.int (1 : Int32))])
          refine go_st (fun _ k => XS.goto X0.here hx rfl (pc0 := 118) (pc' := 122) rfl (hb hby at_118) (by decide) (by decide) k) ?_
          show Go p e below s _ _ _ T0 (mkF m 122 #[.val (.long y0), .second, .val (.int y1), .val (.long y2), .second, .val (.long y3), .second, .val (.int y4), .val (.long y5), .second, .val (.long y6), .second, .unset, .unset] [(.int (1 : Int32))])
          exact go_retB (w := (1 : Int32)) X0 hx hlk hret (hb hby at_122) (by decide) (by decide) (by decide) ⟨rfl, N0⟩
        · rw [if_neg hc7]
          refine go_st (fun _ k => XS.ifYes X0.here hx rfl (pc0 := 114) (pc' := 121) rfl (hb hby at_114) rfl (XT.ll_ne_t hc7) (by decide) (by decide) k) ?_
          show Go p e below s _ _ _ T0 (mkF m 121 #[.val (.long y0), .second, .val (.int y1), .val (.long y2), .second, .val (.long y3), .second, .val (.int y4), .val (.long y5), .second, .val (.long y6), .second, .unset, .unset] [])
          refine go_st (fun _ k => XT.iconstV X0.here hx rfl (0 : Int32) (hb hby at_121) (by decide) k) ?_
          show Go p e below s _ _ _ T0 (mkF m 122 #[.val (.long y0), .second, .val (.int y1), .val (.long y2), .second, .val (.long y3), .second, .val (.int y4), .val (.long y5), .second, .val (.long y6), .second, .unset, .unset] [(.int (0 : Int32))])
          exact go_retB (w := (0 : Int32)) X0 hx hlk hret (hb hby at_122) (by decide) (by decide) (by decide) ⟨rfl, N0⟩
      · rw [if_neg hc6]
        refine go_st (fun _ k => XS.ifYes X0.here hx rfl (pc0 := 107) (pc' := 123) rfl (hb hby at_107) rfl (XT.ll_ne_t hc6) (by decide) (by decide) k) ?_
        show Go p e below s _ _ _ T0 (mkF m 123 #[.val (.long y0), .second, .val (.int y1), .val (.long y2), .second, .val (.long y3), .second, .val (.int y4), .val (.long y5), .second, .val (.long y6), .second, .unset, .unset] [])
        refine go_st (fun _ k => XT.lload X0.here hx rfl (hb hby at_123) rfl k) ?_
        show Go p e below s _ _ _ T0 (mkF m 125 #[.val (.long y0), .second, .val (.int y1), .val (.long y2), .second, .val (.long y3), .second, .val (.int y4), .val (.long y5), .second, .val (.long y6), .second, .unset, .unset] [(.long y5)])
        refine go_st (fun _ k => XT.lload X0.here hx rfl (hb hby at_125) rfl k) ?_
        show Go p e below s _ _ _ T0 (mkF m 127 #[.val (.long y0), .second, .val (.int y1), .val (.long y2), .second, .val (.long y3), .second, .val (.int y4), .val (.long y5), .second, .val (.long y6), .second, .unset, .unset] [(.long y6), (.long y5)])
        refine go_st (fun _ k => XT.lconstV X0.here hx rfl (1 : Int64) (hb hby at_127) (by decide) k) ?_
        show Go p e below s _ _ _ T0 (mkF m 128 #[.val (.long y0), .second, .val (.int y1), .val (.long y2), .second, .val (.long y3), .second, .val (.int y4), .val (.long y5), .second, .val (.long y6), .second, .unset, .unset] [(.long (1 : Int64)), (.long y6), (.long y5)])
        refine go_st (fun _ k => XT.lsub X0.here hx rfl (hb hby at_128) rfl k) ?_
        show Go p e below s _ _ _ T0 (mkF m 129 #[.val (.long y0), .second, .val (.int y1), .val (.long y2), .second, .val (.long y3), .second, .val (.int y4), .val (.long y5), .second, .val (.long y6), .second, .unset, .unset] [(.long (y6 - (1 : Int64))), (.long y5)])
        refine go_st (fun _ k => Jvm.Stand.ldc2J X0 hx hown (mvT hZ (hw _ (List.mem_of_getElem? (i := 1) rfl))) rfl (hb hby at_129) k) ?_
        show Go p e below s _ _ _ T0 (mkF m 132 #[.val (.long y0), .second, .val (.int y1), .val (.long y2), .second, .val (.long y3), .second, .val (.int y4), .val (.long y5), .second, .val (.long y6), .second, .unset, .unset] [(.long (1000 : Int64)), (.long (y6 - (1 : Int64))), (.long y5)])
        refine go_st (fun _ k => XT.lmul X0.here hx rfl (hb hby at_132) rfl k) ?_
        show Go p e below s _ _ _ T0 (mkF m 133 #[.val (.long y0), .second, .val (.int y1), .val (.long y2), .second, .val (.long y3), .second, .val (.int y4), .val (.long y5), .second, .val (.long y6), .second, .unset, .unset] [(.long ((y6 - (1 : Int64)) * (1000 : Int64))), (.long y5)])
        refine go_st (fun _ k => XT.lsub X0.here hx rfl (hb hby at_133) rfl k) ?_
        show Go p e below s _ _ _ T0 (mkF m 134 #[.val (.long y0), .second, .val (.int y1), .val (.long y2), .second, .val (.long y3), .second, .val (.int y4), .val (.long y5), .second, .val (.long y6), .second, .unset, .unset] [(.long (y5 - ((y6 - (1 : Int64)) * (1000 : Int64))))])
        refine go_st (fun _ k => XT.lstore X0.here hx rfl (hb hby at_134) rfl (l' := #[.val (.long y0), .second, .val (.int y1), .val (.long y2), .second, .val (.long y3), .second, .val (.int y4), .val (.long y5), .second, .val (.long y6), .second, .val (.long (y5 - ((y6 - (1 : Int64)) * (1000 : Int64)))), .second]) rfl k) ?_
        show Go p e below s _ _ _ T0 (mkF m 136 #[.val (.long y0), .second, .val (.int y1), .val (.long y2), .second, .val (.long y3), .second, .val (.int y4), .val (.long y5), .second, .val (.long y6), .second, .val (.long (y5 - ((y6 - (1 : Int64)) * (1000 : Int64)))), .second] [])
        refine go_st (fun _ k => XT.lload X0.here hx rfl (hb hby at_136) rfl k) ?_
        show Go p e below s _ _ _ T0 (mkF m 138 #[.val (.long y0), .second, .val (.int y1), .val (.long y2), .second, .val (.long y3), .second, .val (.int y4), .val (.long y5), .second, .val (.long y6), .second, .val (.long (y5 - ((y6 - (1 : Int64)) * (1000 : Int64)))), .second] [(.long (y5 - ((y6 - (1 : Int64)) * (1000 : Int64))))])
        refine go_st (fun _ k => XT.lconstV X0.here hx rfl (1 : Int64) (hb hby at_138) (by decide) k) ?_
        show Go p e below s _ _ _ T0 (mkF m 139 #[.val (.long y0), .second, .val (.int y1), .val (.long y2), .second, .val (.long y3), .second, .val (.int y4), .val (.long y5), .second, .val (.long y6), .second, .val (.long (y5 - ((y6 - (1 : Int64)) * (1000 : Int64)))), .second] [(.long (1 : Int64)), (.long (y5 - ((y6 - (1 : Int64)) * (1000 : Int64))))])
        refine go_st (fun _ k => XT.lcmp X0.here hx rfl (hb hby at_139) rfl k) ?_
        show Go p e below s _ _ _ T0 (mkF m 140 #[.val (.long y0), .second, .val (.int y1), .val (.long y2), .second, .val (.long y3), .second, .val (.int y4), .val (.long y5), .second, .val (.long y6), .second, .val (.long (y5 - ((y6 - (1 : Int64)) * (1000 : Int64)))), .second] [(.int (XT.cmpL (y5 - ((y6 - (1 : Int64)) * (1000 : Int64))) (1 : Int64)))])
        by_cases hc8 : (y5 - ((y6 - (1 : Int64)) * (1000 : Int64))) < (1 : Int64)
        · rw [if_pos hc8]
          refine go_st (fun _ k => XS.ifYes X0.here hx rfl (pc0 := 140) (pc' := 156) rfl (hb hby at_140) rfl (XT.ll_lt_t hc8) (by decide) (by decide) k) ?_
          show Go p e below s _ _ _ T0 (mkF m 156 #[.val (.long y0), .second, .val (.int y1), .val (.long y2), .second, .val (.long y3), .second, .val (.int y4), .val (.long y5), .second, .val (.long y6), .second, .val (.long (y5 - ((y6 - (1 : Int64)) * (1000 : Int64)))), .second] [])
          refine go_st (fun _ k => XT.iconstV X0.here hx rfl (0 : Int32) (hb hby at_156) (by decide) k) ?_
          show Go p e below s _ _ _ T0 (mkF m 157 #[.val (.long y0), .second, .val (.int y1), .val (.long y2), .second, .val (.long y3), .second, .val (.int y4), .val (.long y5), .second, .val (.long y6), .second, .val (.long (y5 - ((y6 - (1 : Int64)) * (1000 : Int64)))), .second] [(.int (0 : Int32))])
          exact go_retB (w := (0 : Int32)) X0 hx hlk hret (hb hby at_157) (by decide) (by decide) (by decide) ⟨rfl, N0⟩
        · rw [if_neg hc8]
          refine go_st (fun _ k => XS.ifNo X0.here hx rfl (hb hby at_140) rfl (XT.ll_lt_f hc8) k) ?_
          show Go p e below s _ _ _ T0 (mkF m 143 #[.val (.long y0), .second, .val (.int y1), .val (.long y2), .second, .val (.long y3), .second, .val (.int y4), .val (.long y5), .second, .val (.long y6), .second, .val (.long (y5 - ((y6 - (1 : Int64)) * (1000 : Int64)))), .second] [])
          refine go_st (fun _ k => XT.lload X0.here hx rfl (hb hby at_143) rfl k) ?_
          show Go p e below s _ _ _ T0 (mkF m 145 #[.val (.long y0), .second, .val (.int y1), .val (.long y2), .second, .val (.long y3), .second, .val (.int y4), .val (.long y5), .second, .val (.long y6), .second, .val (.long (y5 - ((y6 - (1 : Int64)) * (1000 : Int64)))), .second] [(.long (y5 - ((y6 - (1 : Int64)) * (1000 : Int64))))])
          refine go_st (fun _ k => Jvm.Stand.ldc2J X0 hx hown (mvT hZ (hw _ (List.mem_of_getElem? (i := 1) rfl))) rfl (hb hby at_145) k) ?_
          show Go p e below s _ _ _ T0 (mkF m 148 #[.val (.long y0), .second, .val (.int y1), .val (.long y2), .second, .val (.long y3), .second, .val (.int y4), .val (.long y5), .second, .val (.long y6), .second, .val (.long (y5 - ((y6 - (1 : Int64)) * (1000 : Int64)))), .second] [(.long (1000 : Int64)), (.long (y5 - ((y6 - (1 : Int64)) * (1000 : Int64))))])
          refine go_st (fun _ k => XT.lcmp X0.here hx rfl (hb hby at_148) rfl k) ?_
          show Go p e below s _ _ _ T0 (mkF m 149 #[.val (.long y0), .second, .val (.int y1), .val (.long y2), .second, .val (.long y3), .second, .val (.int y4), .val (.long y5), .second, .val (.long y6), .second, .val (.long (y5 - ((y6 - (1 : Int64)) * (1000 : Int64)))), .second] [(.int (XT.cmpL (y5 - ((y6 - (1 : Int64)) * (1000 : Int64))) (1000 : Int64)))])
          by_cases hc9 : (1000 : Int64) < (y5 - ((y6 - (1 : Int64)) * (1000 : Int64)))
          · rw [if_pos hc9]
            refine go_st (fun _ k => XS.ifYes X0.here hx rfl (pc0 := 149) (pc' := 156) rfl (hb hby at_149) rfl (XT.ll_gt_t hc9) (by decide) (by decide) k) ?_
            show Go p e below s _ _ _ T0 (mkF m 156 #[.val (.long y0), .second, .val (.int y1), .val (.long y2), .second, .val (.long y3), .second, .val (.int y4), .val (.long y5), .second, .val (.long y6), .second, .val (.long (y5 - ((y6 - (1 : Int64)) * (1000 : Int64)))), .second] [])
            refine go_st (fun _ k => XT.iconstV X0.here hx rfl (0 : Int32) (hb hby at_156) (by decide) k) ?_
            show Go p e below s _ _ _ T0 (mkF m 157 #[.val (.long y0), .second, .val (.int y1), .val (.long y2), .second, .val (.long y3), .second, .val (.int y4), .val (.long y5), .second, .val (.long y6), .second, .val (.long (y5 - ((y6 - (1 : Int64)) * (1000 : Int64)))), .second] [(.int (0 : Int32))])
            exact go_retB (w := (0 : Int32)) X0 hx hlk hret (hb hby at_157) (by decide) (by decide) (by decide) ⟨rfl, N0⟩
          · rw [if_neg hc9]
            refine go_st (fun _ k => XS.ifNo X0.here hx rfl (hb hby at_149) rfl (XT.ll_gt_f hc9) k) ?_
            show Go p e below s _ _ _ T0 (mkF m 152 #[.val (.long y0), .second, .val (.int y1), .val (.long y2), .second, .val (.long y3), .second, .val (.int y4), .val (.long y5), .second, .val (.long y6), .second, .val (.long (y5 - ((y6 - (1 : Int64)) * (1000 : Int64)))), .second] [])
            refine go_st (fun _ k => XT.iconstV X0.here hx rfl (1 : Int32) (hb hby at_152) (by decide) k) ?_
            show Go p e below s _ _ _ T0 (mkF m 153 #[.val (.long y0), .second, .val (.int y1), .val (.long y2), .second, .val (.long y3), .second, .val (.int y4), .val (.long y5), .second, .val (.long y6), .second, .val (.long (y5 - ((y6 - (1 : Int64)) * (1000 : Int64)))), .second] [(.int (1 : Int32))])
            refine go_st (fun _ k => XS.goto X0.here hx rfl (pc0 := 153) (pc' := 157) rfl (hb hby at_153) (by decide) (by decide) k) ?_
            show Go p e below s _ _ _ T0 (mkF m 157 #[.val (.long y0), .second, .val (.int y1), .val (.long y2), .second, .val (.long y3), .second, .val (.int y4), .val (.long y5), .second, .val (.long y6), .second, .val (.long (y5 - ((y6 - (1 : Int64)) * (1000 : Int64)))), .second] [(.int (1 : Int32))])
            exact go_retB (w := (1 : Int32)) X0 hx hlk hret (hb hby at_157) (by decide) (by decide) (by decide) ⟨rfl, N0⟩
set_option maxRecDepth 65536 in
set_option maxHeartbeats 4000000 in
theorem blk_fLaw_78 (l : Launch) (Z : State) (a0 : Array Value) (hw : ∀ d ∈ tables_1, d.before a0 Z = true) {p : Program} {e : Env} {s : State} {m : MethodId} {args : Array Value} {below : List Frame} {meth : Method} {c : Code} (ct : Ct p s m meth c Z "com/example/aforo/aforo/DecisionSecondsRoundedUpPinLaw" "law" code maxLocals ret) {T0 : State} {locs : List Loc} (X0 : Stand p l e room_1 s m args below meth c T0 locs 0 0) {h0 : Heap} (e0 : T0.heap = h0) (n0 : Nat) (Z0 : n0 ≤ h0.size) (N0 : Fr n0 locs) (y0 : Int64) (y1 : Int32) (y2 : Int64) (y3 : Int64) (y4 : Int32) (y5 : Int64) :
    Go p e below s (QF (some (.int (fLaw_78 y0 y1 y2 y3 y4 y5))) n0) 0 0 T0 (mkF m 78 #[.val (.long y0), .second, .val (.int y1), .val (.long y2), .second, .val (.long y3), .second, .val (.int y4), .val (.long y5), .second, .unset, .unset, .unset, .unset] []) := by
  have ct0 := ct
  obtain ⟨hx, hZ, hown, hby, hml, hret, hlk, hnm⟩ := ct
  unfold fLaw_78
  refine go_st (fun _ k => XT.lload X0.here hx rfl (hb hby at_78) rfl k) ?_
  show Go p e below s _ _ _ T0 (mkF m 80 #[.val (.long y0), .second, .val (.int y1), .val (.long y2), .second, .val (.long y3), .second, .val (.int y4), .val (.long y5), .second, .unset, .unset, .unset, .unset] [(.long y5)])
  refine go_callS X0 hx hZ hml hown (hw _ (List.mem_of_getElem? (i := 2) rfl)) (hw _ (List.mem_of_getElem? (i := 3) rfl)) (hw _ (List.mem_of_getElem? (i := 4) rfl)) (hw _ (List.mem_of_getElem? (i := 5) rfl)) e0 (argsL := [(.long y5)]) (rest := []) (W := 0) (met_1 l Z a0 hw y5 h0 n0) (hb hby at_80) rfl rfl rfl (lenOf pd0 rfl) (by show 2 * 0 + _ ≤ _; exact Nat.le_of_eq rfl) (by decide) (by decide) (by decide) (by decide) (by decide) ?_
  intro T3 v3 L3 X3 q3
  obtain ⟨rfl, M3, e3⟩ := q3
  have N3 := Fr.app N0 M3
  show Go p e below s _ _ _ T3 (mkF m 83 #[.val (.long y0), .second, .val (.int y1), .val (.long y2), .second, .val (.long y3), .second, .val (.int y4), .val (.long y5), .second, .unset, .unset, .unset, .unset] [(.long (fSec y5))])
  refine go_st (fun _ k => XT.lstore X3.here hx rfl (hb hby at_83) rfl (l' := #[.val (.long y0), .second, .val (.int y1), .val (.long y2), .second, .val (.long y3), .second, .val (.int y4), .val (.long y5), .second, .val (.long (fSec y5)), .second, .unset, .unset]) rfl k) ?_
  show Go p e below s _ _ _ T3 (mkF m 85 #[.val (.long y0), .second, .val (.int y1), .val (.long y2), .second, .val (.long y3), .second, .val (.int y4), .val (.long y5), .second, .val (.long (fSec y5)), .second, .unset, .unset] [])
  exact blk_fLaw_85 l Z a0 hw ct0 X3 e3 n0 Z0 N3 y0 y1 y2 y3 y4 y5 (fSec y5)
set_option maxRecDepth 65536 in
set_option maxHeartbeats 4000000 in
theorem blk_fLaw_22 (l : Launch) (Z : State) (a0 : Array Value) (hw : ∀ d ∈ tables_1, d.before a0 Z = true) {p : Program} {e : Env} {s : State} {m : MethodId} {args : Array Value} {below : List Frame} {meth : Method} {c : Code} (ct : Ct p s m meth c Z "com/example/aforo/aforo/DecisionSecondsRoundedUpPinLaw" "law" code maxLocals ret) {T0 : State} {locs : List Loc} (X0 : Stand p l e room_1 s m args below meth c T0 locs 0 0) {h0 : Heap} (e0 : T0.heap = h0) (n0 : Nat) (Z0 : n0 ≤ h0.size) (N0 : Fr n0 locs) (y0 : Int64) (y1 : Int32) (y2 : Int64) (y3 : Int64) (y4 : Int32) :
    Go p e below s (QF (some (.int (fLaw_22 y0 y1 y2 y3 y4))) n0) 0 0 T0 (mkF m 22 #[.val (.long y0), .second, .val (.int y1), .val (.long y2), .second, .val (.long y3), .second, .val (.int y4), .unset, .unset, .unset, .unset, .unset, .unset] []) := by
  have ct0 := ct
  obtain ⟨hx, hZ, hown, hby, hml, hret, hlk, hnm⟩ := ct
  unfold fLaw_22
  refine go_st (fun _ k => XS.iload X0.here hx rfl (hb hby at_22) rfl k) ?_
  show Go p e below s _ _ _ T0 (mkF m 24 #[.val (.long y0), .second, .val (.int y1), .val (.long y2), .second, .val (.long y3), .second, .val (.int y4), .unset, .unset, .unset, .unset, .unset, .unset] [(.int y4)])
  by_cases hc2 : y4 = (0 : Int32)
  · rw [if_pos hc2]
    refine go_st (fun _ k => XS.ifNo X0.here hx rfl (hb hby at_24) rfl (XT.i0_ne_f hc2) k) ?_
    show Go p e below s _ _ _ T0 (mkF m 27 #[.val (.long y0), .second, .val (.int y1), .val (.long y2), .second, .val (.long y3), .second, .val (.int y4), .unset, .unset, .unset, .unset, .unset, .unset] [])
    refine go_st (fun _ k => XT.lload X0.here hx rfl (hb hby at_27) rfl k) ?_
    show Go p e below s _ _ _ T0 (mkF m 29 #[.val (.long y0), .second, .val (.int y1), .val (.long y2), .second, .val (.long y3), .second, .val (.int y4), .unset, .unset, .unset, .unset, .unset, .unset] [(.long y3)])
    refine go_st (fun _ k => XT.lstore X0.here hx rfl (hb hby at_29) rfl (l' := #[.val (.long y0), .second, .val (.int y1), .val (.long y2), .second, .val (.long y3), .second, .val (.int y4), .val (.long y3), .second, .unset, .unset, .unset, .unset]) rfl k) ?_
    show Go p e below s _ _ _ T0 (mkF m 31 #[.val (.long y0), .second, .val (.int y1), .val (.long y2), .second, .val (.long y3), .second, .val (.int y4), .val (.long y3), .second, .unset, .unset, .unset, .unset] [])
    refine go_st (fun _ k => XS.goto X0.here hx rfl (pc0 := 31) (pc' := 78) rfl (hb hby at_31) (by decide) (by decide) k) ?_
    show Go p e below s _ _ _ T0 (mkF m 78 #[.val (.long y0), .second, .val (.int y1), .val (.long y2), .second, .val (.long y3), .second, .val (.int y4), .val (.long y3), .second, .unset, .unset, .unset, .unset] [])
    exact blk_fLaw_78 l Z a0 hw ct0 X0 e0 n0 Z0 N0 y0 y1 y2 y3 y4 y3
  · rw [if_neg hc2]
    refine go_st (fun _ k => XS.ifYes X0.here hx rfl (pc0 := 24) (pc' := 34) rfl (hb hby at_24) rfl (XT.i0_ne_t hc2) (by decide) (by decide) k) ?_
    show Go p e below s _ _ _ T0 (mkF m 34 #[.val (.long y0), .second, .val (.int y1), .val (.long y2), .second, .val (.long y3), .second, .val (.int y4), .unset, .unset, .unset, .unset, .unset, .unset] [])
    refine go_st (fun _ k => XS.iload X0.here hx rfl (hb hby at_34) rfl k) ?_
    show Go p e below s _ _ _ T0 (mkF m 36 #[.val (.long y0), .second, .val (.int y1), .val (.long y2), .second, .val (.long y3), .second, .val (.int y4), .unset, .unset, .unset, .unset, .unset, .unset] [(.int y4)])
    refine go_st (fun _ k => XT.iconstV X0.here hx rfl (1 : Int32) (hb hby at_36) (by decide) k) ?_
    show Go p e below s _ _ _ T0 (mkF m 37 #[.val (.long y0), .second, .val (.int y1), .val (.long y2), .second, .val (.long y3), .second, .val (.int y4), .unset, .unset, .unset, .unset, .unset, .unset] [(.int (1 : Int32)), (.int y4)])
    by_cases hc10 : y4 = (1 : Int32)
    · rw [if_pos hc10]
      refine go_st (fun _ k => XS.icmpNo X0.here hx rfl (hb hby at_37) rfl (XT.ii_ne_f hc10) k) ?_
      show Go p e below s _ _ _ T0 (mkF m 40 #[.val (.long y0), .second, .val (.int y1), .val (.long y2), .second, .val (.long y3), .second, .val (.int y4), .unset, .unset, .unset, .unset, .unset, .unset] [])
      refine go_st (fun _ k => XT.lload X0.here hx rfl (hb hby at_40) rfl k) ?_
      show Go p e below s _ _ _ T0 (mkF m 42 #[.val (.long y0), .second, .val (.int y1), .val (.long y2), .second, .val (.long y3), .second, .val (.int y4), .unset, .unset, .unset, .unset, .unset, .unset] [(.long y3)])
      refine go_st (fun _ k => XT.lconstV X0.here hx rfl (1 : Int64) (hb hby at_42) (by decide) k) ?_
      show Go p e below s _ _ _ T0 (mkF m 43 #[.val (.long y0), .second, .val (.int y1), .val (.long y2), .second, .val (.long y3), .second, .val (.int y4), .unset, .unset, .unset, .unset, .unset, .unset] [(.long (1 : Int64)), (.long y3)])
      refine go_st (fun _ k => XT.ladd X0.here hx rfl (hb hby at_43) rfl k) ?_
      show Go p e below s _ _ _ T0 (mkF m 44 #[.val (.long y0), .second, .val (.int y1), .val (.long y2), .second, .val (.long y3), .second, .val (.int y4), .unset, .unset, .unset, .unset, .unset, .unset] [(.long (y3 + (1 : Int64)))])
      refine go_st (fun _ k => XT.lstore X0.here hx rfl (hb hby at_44) rfl (l' := #[.val (.long y0), .second, .val (.int y1), .val (.long y2), .second, .val (.long y3), .second, .val (.int y4), .val (.long (y3 + (1 : Int64))), .second, .unset, .unset, .unset, .unset]) rfl k) ?_
      show Go p e below s _ _ _ T0 (mkF m 46 #[.val (.long y0), .second, .val (.int y1), .val (.long y2), .second, .val (.long y3), .second, .val (.int y4), .val (.long (y3 + (1 : Int64))), .second, .unset, .unset, .unset, .unset] [])
      refine go_st (fun _ k => XS.goto X0.here hx rfl (pc0 := 46) (pc' := 78) rfl (hb hby at_46) (by decide) (by decide) k) ?_
      show Go p e below s _ _ _ T0 (mkF m 78 #[.val (.long y0), .second, .val (.int y1), .val (.long y2), .second, .val (.long y3), .second, .val (.int y4), .val (.long (y3 + (1 : Int64))), .second, .unset, .unset, .unset, .unset] [])
      exact blk_fLaw_78 l Z a0 hw ct0 X0 e0 n0 Z0 N0 y0 y1 y2 y3 y4 (y3 + (1 : Int64))
    · rw [if_neg hc10]
      refine go_st (fun _ k => XS.icmpYes X0.here hx rfl (pc0 := 37) (pc' := 49) rfl (hb hby at_37) rfl (XT.ii_ne_t hc10) (by decide) (by decide) k) ?_
      show Go p e below s _ _ _ T0 (mkF m 49 #[.val (.long y0), .second, .val (.int y1), .val (.long y2), .second, .val (.long y3), .second, .val (.int y4), .unset, .unset, .unset, .unset, .unset, .unset] [])
      refine go_st (fun _ k => XS.iload X0.here hx rfl (hb hby at_49) rfl k) ?_
      show Go p e below s _ _ _ T0 (mkF m 51 #[.val (.long y0), .second, .val (.int y1), .val (.long y2), .second, .val (.long y3), .second, .val (.int y4), .unset, .unset, .unset, .unset, .unset, .unset] [(.int y4)])
      refine go_st (fun _ k => XT.iconstV X0.here hx rfl (2 : Int32) (hb hby at_51) (by decide) k) ?_
      show Go p e below s _ _ _ T0 (mkF m 52 #[.val (.long y0), .second, .val (.int y1), .val (.long y2), .second, .val (.long y3), .second, .val (.int y4), .unset, .unset, .unset, .unset, .unset, .unset] [(.int (2 : Int32)), (.int y4)])
      by_cases hc11 : y4 = (2 : Int32)
      · rw [if_pos hc11]
        refine go_st (fun _ k => XS.icmpNo X0.here hx rfl (hb hby at_52) rfl (XT.ii_ne_f hc11) k) ?_
        show Go p e below s _ _ _ T0 (mkF m 55 #[.val (.long y0), .second, .val (.int y1), .val (.long y2), .second, .val (.long y3), .second, .val (.int y4), .unset, .unset, .unset, .unset, .unset, .unset] [])
        refine go_st (fun _ k => XT.lload X0.here hx rfl (hb hby at_55) rfl k) ?_
        show Go p e below s _ _ _ T0 (mkF m 57 #[.val (.long y0), .second, .val (.int y1), .val (.long y2), .second, .val (.long y3), .second, .val (.int y4), .unset, .unset, .unset, .unset, .unset, .unset] [(.long y3)])
        refine go_st (fun _ k => XT.lconstV X0.here hx rfl (0 : Int64) (hb hby at_57) (by decide) k) ?_
        show Go p e below s _ _ _ T0 (mkF m 58 #[.val (.long y0), .second, .val (.int y1), .val (.long y2), .second, .val (.long y3), .second, .val (.int y4), .unset, .unset, .unset, .unset, .unset, .unset] [(.long (0 : Int64)), (.long y3)])
        refine go_st (fun _ k => XT.lcmp X0.here hx rfl (hb hby at_58) rfl k) ?_
        show Go p e below s _ _ _ T0 (mkF m 59 #[.val (.long y0), .second, .val (.int y1), .val (.long y2), .second, .val (.long y3), .second, .val (.int y4), .unset, .unset, .unset, .unset, .unset, .unset] [(.int (XT.cmpL y3 (0 : Int64)))])
        by_cases hc12 : y3 = (0 : Int64)
        · rw [if_pos hc12]
          refine go_st (fun _ k => XS.ifNo X0.here hx rfl (hb hby at_59) rfl (XT.ll_ne_f hc12) k) ?_
          show Go p e below s _ _ _ T0 (mkF m 62 #[.val (.long y0), .second, .val (.int y1), .val (.long y2), .second, .val (.long y3), .second, .val (.int y4), .unset, .unset, .unset, .unset, .unset, .unset] [])
          refine go_st (fun _ k => XT.lconstV X0.here hx rfl (0 : Int64) (hb hby at_62) (by decide) k) ?_
          show Go p e below s _ _ _ T0 (mkF m 63 #[.val (.long y0), .second, .val (.int y1), .val (.long y2), .second, .val (.long y3), .second, .val (.int y4), .unset, .unset, .unset, .unset, .unset, .unset] [(.long (0 : Int64))])
          refine go_st (fun _ k => XS.goto X0.here hx rfl (pc0 := 63) (pc' := 70) rfl (hb hby at_63) (by decide) (by decide) k) ?_
          show Go p e below s _ _ _ T0 (mkF m 70 #[.val (.long y0), .second, .val (.int y1), .val (.long y2), .second, .val (.long y3), .second, .val (.int y4), .unset, .unset, .unset, .unset, .unset, .unset] [(.long (0 : Int64))])
          refine go_st (fun _ k => XT.lstore X0.here hx rfl (hb hby at_70) rfl (l' := #[.val (.long y0), .second, .val (.int y1), .val (.long y2), .second, .val (.long y3), .second, .val (.int y4), .val (.long (0 : Int64)), .second, .unset, .unset, .unset, .unset]) rfl k) ?_
          show Go p e below s _ _ _ T0 (mkF m 72 #[.val (.long y0), .second, .val (.int y1), .val (.long y2), .second, .val (.long y3), .second, .val (.int y4), .val (.long (0 : Int64)), .second, .unset, .unset, .unset, .unset] [])
          refine go_st (fun _ k => XS.goto X0.here hx rfl (pc0 := 72) (pc' := 78) rfl (hb hby at_72) (by decide) (by decide) k) ?_
          show Go p e below s _ _ _ T0 (mkF m 78 #[.val (.long y0), .second, .val (.int y1), .val (.long y2), .second, .val (.long y3), .second, .val (.int y4), .val (.long (0 : Int64)), .second, .unset, .unset, .unset, .unset] [])
          exact blk_fLaw_78 l Z a0 hw ct0 X0 e0 n0 Z0 N0 y0 y1 y2 y3 y4 (0 : Int64)
        · rw [if_neg hc12]
          refine go_st (fun _ k => XS.ifYes X0.here hx rfl (pc0 := 59) (pc' := 66) rfl (hb hby at_59) rfl (XT.ll_ne_t hc12) (by decide) (by decide) k) ?_
          show Go p e below s _ _ _ T0 (mkF m 66 #[.val (.long y0), .second, .val (.int y1), .val (.long y2), .second, .val (.long y3), .second, .val (.int y4), .unset, .unset, .unset, .unset, .unset, .unset] [])
          refine go_st (fun _ k => XT.lload X0.here hx rfl (hb hby at_66) rfl k) ?_
          show Go p e below s _ _ _ T0 (mkF m 68 #[.val (.long y0), .second, .val (.int y1), .val (.long y2), .second, .val (.long y3), .second, .val (.int y4), .unset, .unset, .unset, .unset, .unset, .unset] [(.long y3)])
          refine go_st (fun _ k => XT.lconstV X0.here hx rfl (1 : Int64) (hb hby at_68) (by decide) k) ?_
          show Go p e below s _ _ _ T0 (mkF m 69 #[.val (.long y0), .second, .val (.int y1), .val (.long y2), .second, .val (.long y3), .second, .val (.int y4), .unset, .unset, .unset, .unset, .unset, .unset] [(.long (1 : Int64)), (.long y3)])
          refine go_st (fun _ k => XT.lsub X0.here hx rfl (hb hby at_69) rfl k) ?_
          show Go p e below s _ _ _ T0 (mkF m 70 #[.val (.long y0), .second, .val (.int y1), .val (.long y2), .second, .val (.long y3), .second, .val (.int y4), .unset, .unset, .unset, .unset, .unset, .unset] [(.long (y3 - (1 : Int64)))])
          refine go_st (fun _ k => XT.lstore X0.here hx rfl (hb hby at_70) rfl (l' := #[.val (.long y0), .second, .val (.int y1), .val (.long y2), .second, .val (.long y3), .second, .val (.int y4), .val (.long (y3 - (1 : Int64))), .second, .unset, .unset, .unset, .unset]) rfl k) ?_
          show Go p e below s _ _ _ T0 (mkF m 72 #[.val (.long y0), .second, .val (.int y1), .val (.long y2), .second, .val (.long y3), .second, .val (.int y4), .val (.long (y3 - (1 : Int64))), .second, .unset, .unset, .unset, .unset] [])
          refine go_st (fun _ k => XS.goto X0.here hx rfl (pc0 := 72) (pc' := 78) rfl (hb hby at_72) (by decide) (by decide) k) ?_
          show Go p e below s _ _ _ T0 (mkF m 78 #[.val (.long y0), .second, .val (.int y1), .val (.long y2), .second, .val (.long y3), .second, .val (.int y4), .val (.long (y3 - (1 : Int64))), .second, .unset, .unset, .unset, .unset] [])
          exact blk_fLaw_78 l Z a0 hw ct0 X0 e0 n0 Z0 N0 y0 y1 y2 y3 y4 (y3 - (1 : Int64))
      · rw [if_neg hc11]
        refine go_st (fun _ k => XS.icmpYes X0.here hx rfl (pc0 := 52) (pc' := 75) rfl (hb hby at_52) rfl (XT.ii_ne_t hc11) (by decide) (by decide) k) ?_
        show Go p e below s _ _ _ T0 (mkF m 75 #[.val (.long y0), .second, .val (.int y1), .val (.long y2), .second, .val (.long y3), .second, .val (.int y4), .unset, .unset, .unset, .unset, .unset, .unset] [])
        refine go_st (fun _ k => XT.lloadN X0.here hx rfl (hb hby at_75) rfl k) ?_
        show Go p e below s _ _ _ T0 (mkF m 76 #[.val (.long y0), .second, .val (.int y1), .val (.long y2), .second, .val (.long y3), .second, .val (.int y4), .unset, .unset, .unset, .unset, .unset, .unset] [(.long y2)])
        refine go_st (fun _ k => XT.lstore X0.here hx rfl (hb hby at_76) rfl (l' := #[.val (.long y0), .second, .val (.int y1), .val (.long y2), .second, .val (.long y3), .second, .val (.int y4), .val (.long y2), .second, .unset, .unset, .unset, .unset]) rfl k) ?_
        show Go p e below s _ _ _ T0 (mkF m 78 #[.val (.long y0), .second, .val (.int y1), .val (.long y2), .second, .val (.long y3), .second, .val (.int y4), .val (.long y2), .second, .unset, .unset, .unset, .unset] [])
        exact blk_fLaw_78 l Z a0 hw ct0 X0 e0 n0 Z0 N0 y0 y1 y2 y3 y4 y2
set_option maxRecDepth 65536 in
set_option maxHeartbeats 4000000 in
theorem blk_fLaw_6 (l : Launch) (Z : State) (a0 : Array Value) (hw : ∀ d ∈ tables_1, d.before a0 Z = true) {p : Program} {e : Env} {s : State} {m : MethodId} {args : Array Value} {below : List Frame} {meth : Method} {c : Code} (ct : Ct p s m meth c Z "com/example/aforo/aforo/DecisionSecondsRoundedUpPinLaw" "law" code maxLocals ret) {T0 : State} {locs : List Loc} (X0 : Stand p l e room_1 s m args below meth c T0 locs 0 0) {h0 : Heap} (e0 : T0.heap = h0) (n0 : Nat) (Z0 : n0 ≤ h0.size) (N0 : Fr n0 locs) (y0 : Int64) (y1 : Int32) (y2 : Int64) :
    Go p e below s (QF (some (.int (fLaw_6 y0 y1 y2))) n0) 0 0 T0 (mkF m 6 #[.val (.long y0), .second, .val (.int y1), .val (.long y2), .second, .unset, .unset, .unset, .unset, .unset, .unset, .unset, .unset, .unset] []) := by
  have ct0 := ct
  obtain ⟨hx, hZ, hown, hby, hml, hret, hlk, hnm⟩ := ct
  unfold fLaw_6
  refine go_st (fun _ k => XT.lloadN X0.here hx rfl (hb hby at_6) rfl k) ?_
  show Go p e below s _ _ _ T0 (mkF m 7 #[.val (.long y0), .second, .val (.int y1), .val (.long y2), .second, .unset, .unset, .unset, .unset, .unset, .unset, .unset, .unset, .unset] [(.long y2)])
  refine go_st (fun _ k => Jvm.Stand.ldc2J X0 hx hown (mvT hZ (hw _ (List.mem_of_getElem? (i := 1) rfl))) rfl (hb hby at_7) k) ?_
  show Go p e below s _ _ _ T0 (mkF m 10 #[.val (.long y0), .second, .val (.int y1), .val (.long y2), .second, .unset, .unset, .unset, .unset, .unset, .unset, .unset, .unset, .unset] [(.long (1000 : Int64)), (.long y2)])
  refine go_st (fun _ k => XT.ldiv X0.here hx rfl (hb hby at_10) rfl (by decide) k) ?_
  show Go p e below s _ _ _ T0 (mkF m 11 #[.val (.long y0), .second, .val (.int y1), .val (.long y2), .second, .unset, .unset, .unset, .unset, .unset, .unset, .unset, .unset, .unset] [(.long (y2 / (1000 : Int64)))])
  refine go_st (fun _ k => Jvm.Stand.ldc2J X0 hx hown (mvT hZ (hw _ (List.mem_of_getElem? (i := 1) rfl))) rfl (hb hby at_11) k) ?_
  show Go p e below s _ _ _ T0 (mkF m 14 #[.val (.long y0), .second, .val (.int y1), .val (.long y2), .second, .unset, .unset, .unset, .unset, .unset, .unset, .unset, .unset, .unset] [(.long (1000 : Int64)), (.long (y2 / (1000 : Int64)))])
  refine go_st (fun _ k => XT.lmul X0.here hx rfl (hb hby at_14) rfl k) ?_
  show Go p e below s _ _ _ T0 (mkF m 15 #[.val (.long y0), .second, .val (.int y1), .val (.long y2), .second, .unset, .unset, .unset, .unset, .unset, .unset, .unset, .unset, .unset] [(.long ((y2 / (1000 : Int64)) * (1000 : Int64)))])
  refine go_st (fun _ k => XT.lstore X0.here hx rfl (hb hby at_15) rfl (l' := #[.val (.long y0), .second, .val (.int y1), .val (.long y2), .second, .val (.long ((y2 / (1000 : Int64)) * (1000 : Int64))), .second, .unset, .unset, .unset, .unset, .unset, .unset, .unset]) rfl k) ?_
  show Go p e below s _ _ _ T0 (mkF m 17 #[.val (.long y0), .second, .val (.int y1), .val (.long y2), .second, .val (.long ((y2 / (1000 : Int64)) * (1000 : Int64))), .second, .unset, .unset, .unset, .unset, .unset, .unset, .unset] [])
  refine go_st (fun _ k => XS.iloadN X0.here hx rfl (hb hby at_17) rfl k) ?_
  show Go p e below s _ _ _ T0 (mkF m 18 #[.val (.long y0), .second, .val (.int y1), .val (.long y2), .second, .val (.long ((y2 / (1000 : Int64)) * (1000 : Int64))), .second, .unset, .unset, .unset, .unset, .unset, .unset, .unset] [(.int y1)])
  refine go_st (fun _ k => XT.iconstV X0.here hx rfl (3 : Int32) (hb hby at_18) (by decide) k) ?_
  show Go p e below s _ _ _ T0 (mkF m 19 #[.val (.long y0), .second, .val (.int y1), .val (.long y2), .second, .val (.long ((y2 / (1000 : Int64)) * (1000 : Int64))), .second, .unset, .unset, .unset, .unset, .unset, .unset, .unset] [(.int (3 : Int32)), (.int y1)])
  refine go_st (fun _ k => XS.iand X0.here hx rfl (hb hby at_19) rfl k) ?_
  show Go p e below s _ _ _ T0 (mkF m 20 #[.val (.long y0), .second, .val (.int y1), .val (.long y2), .second, .val (.long ((y2 / (1000 : Int64)) * (1000 : Int64))), .second, .unset, .unset, .unset, .unset, .unset, .unset, .unset] [(.int (y1 &&& (3 : Int32)))])
  refine go_st (fun _ k => XS.istore X0.here hx rfl (hb hby at_20) rfl (l' := #[.val (.long y0), .second, .val (.int y1), .val (.long y2), .second, .val (.long ((y2 / (1000 : Int64)) * (1000 : Int64))), .second, .val (.int (y1 &&& (3 : Int32))), .unset, .unset, .unset, .unset, .unset, .unset]) rfl k) ?_
  show Go p e below s _ _ _ T0 (mkF m 22 #[.val (.long y0), .second, .val (.int y1), .val (.long y2), .second, .val (.long ((y2 / (1000 : Int64)) * (1000 : Int64))), .second, .val (.int (y1 &&& (3 : Int32))), .unset, .unset, .unset, .unset, .unset, .unset] [])
  exact blk_fLaw_22 l Z a0 hw ct0 X0 e0 n0 Z0 N0 y0 y1 y2 ((y2 / (1000 : Int64)) * (1000 : Int64)) (y1 &&& (3 : Int32))
set_option maxRecDepth 65536 in
set_option maxHeartbeats 4000000 in
theorem met_law (l : Launch) (Z : State) (a0 : Array Value) (hw : ∀ d ∈ tables_1, d.before a0 Z = true) (x0 : Int64) (x1 : Int32) (h0 : Heap) (n0 : Nat) (Z0 : n0 ≤ h0.size) :
    Met l x code maxLocals ret tables_1 room_1 Z #[(.long x0), (.int x1)] h0 (QF (some (.int (fLaw x0 x1))) n0) 0 0 := by
  refine own_body pn1 ?_
  intro p e s m below meth c s₁ ct X0 e0
  have ct0 := ct
  obtain ⟨hx, hZ, hown, hby, hml, hret, hlk, hnm⟩ := ct
  have N0 := Fr.nil n0
  refine castGo (ef_law m x0 x1) ?_
  unfold fLaw
  show Go p e below s _ _ _ s₁ (mkF m 0 #[.val (.long x0), .second, .val (.int x1), .unset, .unset, .unset, .unset, .unset, .unset, .unset, .unset, .unset, .unset, .unset] [])
  refine go_st (fun _ k => XT.lloadN X0.here hx rfl (hb hby at_0) rfl k) ?_
  show Go p e below s _ _ _ s₁ (mkF m 1 #[.val (.long x0), .second, .val (.int x1), .unset, .unset, .unset, .unset, .unset, .unset, .unset, .unset, .unset, .unset, .unset] [(.long x0)])
  refine go_st (fun _ k => Jvm.Stand.ldc2J X0 hx hown (mvT hZ (hw _ (List.mem_of_getElem? (i := 0) rfl))) rfl (hb hby at_1) k) ?_
  show Go p e below s _ _ _ s₁ (mkF m 4 #[.val (.long x0), .second, .val (.int x1), .unset, .unset, .unset, .unset, .unset, .unset, .unset, .unset, .unset, .unset, .unset] [(.long (9223372036854775807 : Int64)), (.long x0)])
  refine go_st (fun _ k => XT.land X0.here hx rfl (hb hby at_4) rfl k) ?_
  show Go p e below s _ _ _ s₁ (mkF m 5 #[.val (.long x0), .second, .val (.int x1), .unset, .unset, .unset, .unset, .unset, .unset, .unset, .unset, .unset, .unset, .unset] [(.long (x0 &&& (9223372036854775807 : Int64)))])
  refine go_st (fun _ k => XT.lstoreN X0.here hx rfl (hb hby at_5) rfl (l' := #[.val (.long x0), .second, .val (.int x1), .val (.long (x0 &&& (9223372036854775807 : Int64))), .second, .unset, .unset, .unset, .unset, .unset, .unset, .unset, .unset, .unset]) rfl k) ?_
  show Go p e below s _ _ _ s₁ (mkF m 6 #[.val (.long x0), .second, .val (.int x1), .val (.long (x0 &&& (9223372036854775807 : Int64))), .second, .unset, .unset, .unset, .unset, .unset, .unset, .unset, .unset, .unset] [])
  exact blk_fLaw_6 l Z a0 hw ct0 X0 e0 n0 Z0 N0 x0 x1 (x0 &&& (9223372036854775807 : Int64))
theorem own_sec (n : Int64) (h0 : 0 ≤ n.toInt) : (fSec n).toInt = (n.toInt + 999) / 1000 := by
  unfold fSec
  have hn := rng64 n
  have d1 := (c_ldiv n 1000 1000 rfl (by decide)).1 h0
  have r1 := (c_lrem n 1000 1000 rfl).1 h0
  rw [lrem_mod] at r1
  have e0 : (0 : Int64).toInt = 0 := rfl
  have e1 : (1 : Int64).toInt = 1 := rfl
  by_cases h : n % 1000 = 0
  · rw [if_pos h]
    rw [h] at r1
    omega
  · rw [if_neg h]
    rw [← Int64.toInt_inj] at h
    have a1 := c_ladd (n / 1000) 1
    have a2 := rng64 (n / 1000 + 1)
    omega
theorem own_85 (y0 : Int64) (y1 : Int32) (y2 y3 : Int64) (y4 : Int32) (n s : Int64) (h0 : 0 ≤ n.toInt) (hs : s.toInt = (n.toInt + 999) / 1000) : fLaw_85 y0 y1 y2 y3 y4 n s = 1 := by
  unfold fLaw_85
  have hn := rng64 n
  have e0 : (0 : Int64).toInt = 0 := rfl
  have e1 : (1 : Int64).toInt = 1 := rfl
  have e2 : (1000 : Int64).toInt = 1000 := rfl
  have e3 : (9223372036854776 : Int64).toInt = 9223372036854776 := rfl
  have q1 : ¬ s < 0 := by rw [Int64.lt_iff_toInt_lt]; omega
  have q2 : ¬ (9223372036854776 : Int64) < s := by rw [Int64.lt_iff_toInt_lt]; omega
  rw [if_neg q1, if_neg q2]
  by_cases h : s = 0
  · have q3 : n = 0 := by
      rw [h] at hs
      rw [← Int64.toInt_inj]
      omega
    rw [if_pos h, if_pos q3]
  · rw [if_neg h]
    rw [← Int64.toInt_inj] at h
    have a1 := c_lsub s 1
    have a2 := rng64 (s - 1)
    have b1 := c_lmul (s - 1) 1000
    have b2 := rng64 ((s - 1) * 1000)
    have c1 := c_lsub n ((s - 1) * 1000)
    have c2 := rng64 (n - (s - 1) * 1000)
    have k1 : (s - 1).toInt = s.toInt - 1 := by omega
    have k2 : ((s - 1) * 1000).toInt = (s.toInt - 1) * 1000 := by
      rw [k1, e2] at b1
      omega
    have q4 : ¬ n - (s - 1) * 1000 < 1 := by rw [Int64.lt_iff_toInt_lt]; omega
    have q5 : ¬ (1000 : Int64) < n - (s - 1) * 1000 := by rw [Int64.lt_iff_toInt_lt]; omega
    rw [if_neg q4, if_neg q5]
theorem own_78 (y0 : Int64) (y1 : Int32) (y2 y3 : Int64) (y4 : Int32) (n : Int64) (h0 : 0 ≤ n.toInt) : fLaw_78 y0 y1 y2 y3 y4 n = 1 := by
  unfold fLaw_78
  exact own_85 _ _ _ _ _ _ _ h0 (own_sec n h0)
theorem own_ladd1 (b : Int64) (h0 : 0 ≤ b.toInt) (h1 : b.toInt ≤ 9223372036854775000) : (b + 1).toInt = b.toInt + 1 := by
  have a1 := c_ladd b 1
  have a2 := rng64 (b + 1)
  have e1 : (1 : Int64).toInt = 1 := rfl
  omega
theorem own_lsub1 (b : Int64) (h0 : 1 ≤ b.toInt) : (b - 1).toInt = b.toInt - 1 := by
  have a1 := c_lsub b 1
  have a2 := rng64 (b - 1)
  have a3 := rng64 b
  have e1 : (1 : Int64).toInt = 1 := rfl
  omega
theorem own_law (x0 : Int64) (x1 : Int32) : fLaw x0 x1 = 1 := by
  unfold fLaw
  have hm := c_maskL x0 9223372036854775807 63 (by decide) (by decide)
  generalize (x0 &&& (9223372036854775807 : Int64)) = n at *
  have hr := rng64 n
  have h0 : 0 ≤ n.toInt := by omega
  unfold fLaw_6
  have d1 := (c_ldiv n 1000 1000 rfl (by decide)).1 h0
  have e2 : (1000 : Int64).toInt = 1000 := rfl
  have e1 : (1 : Int64).toInt = 1 := rfl
  have e0 : (0 : Int64).toInt = 0 := rfl
  have b1 := c_lmul (n / 1000) 1000
  have b2 := rng64 (n / 1000 * 1000)
  have hb : (n / 1000 * 1000).toInt = n.toInt / 1000 * 1000 := by
    rw [e2, d1] at b1
    omega
  generalize n / 1000 * 1000 = b at *
  generalize x1 &&& 3 = y4
  unfold fLaw_22
  by_cases k0 : y4 = 0
  · rw [if_pos k0]; exact own_78 _ _ _ _ _ _ (by omega)
  rw [if_neg k0]
  by_cases k1 : y4 = 1
  · rw [if_pos k1]
    exact own_78 _ _ _ _ _ _ (by rw [own_ladd1 b (by omega) (by omega)]; omega)
  rw [if_neg k1]
  by_cases k2 : y4 = 2
  · rw [if_pos k2]
    by_cases k3 : b = 0
    · rw [if_pos k3]; exact own_78 _ _ _ _ _ _ (by decide)
    · rw [if_neg k3]
      rw [← Int64.toInt_inj] at k3
      have k4 : ¬ b.toInt = 0 := k3
      exact own_78 _ _ _ _ _ _ (by rw [own_lsub1 b (by omega)]; omega)
  rw [if_neg k2]
  exact own_78 _ _ _ _ _ _ h0

set_option maxRecDepth 65536 in
set_option maxHeartbeats 4000000 in
theorem comes_1 {Post : Tables → Env → Array Value → State → Outcome → State → Prop} (hpost : ∀ tb e args s v u, (limb_1_1.after args s (.returned v) u = true ∧ limb_1_2.after args s (.returned v) u = true ∧ True) → FrameEnd s (.returned v) u (Jvm.fieldLocs frame_1_writes args s ++ Jvm.arrayLocs frame_1_arrays args s ++ Jvm.staticLocs frame_1_statics s) 0 0 → Post tb e args s (.returned v) u) :
    ArmFor flags0 classFile x code maxLocals ret World_1 tables_1 room_1 Calls_1 rest_1 Pre_1 Post := by
  intro l hfl _ _ p e ha hc hk s m args below hf hA hF happ hP
  obtain ⟨hcalls, hrest, hpre⟩ := hP
  obtain ⟨-, -, -, hnamed, -, -, -, hat⟩ := (Spec.applies_iff hf).mp happ
  obtain ⟨hg, hn⟩ := and_e (Cond.before_iff.mp (show (Jvm.Cond.and given_1 narrow_1).before args s = true from hpre))
  obtain ⟨k1, r1⟩ := and_e hg
  obtain ⟨g0, r2⟩ := and_e r1
  have g1 := r2
  obtain ⟨w0, w1, rfl⟩ : ∃ w0 w1 : Value, args = #[w0, w1] := by
    have hs : args.size = 2 := by simpa [Cond.value, given_1] using k1
    obtain ⟨L⟩ := args
    match L, hs with
    | [w0, w1], _ => exact ⟨w0, w1, rfl⟩
  have hw := fun d (hd : d ∈ tables_1) => atoms_spec (ws := Jvm.Cond.code x code maxLocals ret :: tables_1) hat d (List.mem_cons_of_mem _ hd)
  have hfit : Fit s := fun {y c} hc i hi => by
    obtain ⟨ha, rfl⟩ := Array.getElem?_eq_some_iff.mp hc
    have q := List.all_eq_true.mp ((Array.all_eq_true_iff_forall_mem.mp hF) _ (Array.getElem_mem ha)) i (List.mem_range.mpr hi)
    simpa [Array.getElem?_eq_getElem hi] using q
  obtain ⟨i0, f0⟩ := isL_v g0
  obtain rfl : w0 = (.long i0) := Option.some.inj f0
  obtain ⟨i1, f1⟩ := is_v g1
  obtain rfl : w1 = (.int i1) := Option.some.inj f1
  have hm := met_law l s _ hw i0 i1 s.heap s.heap.size (Nat.le_refl _)
  rw [own_law] at hm
  obtain ⟨n, o, h1, h2, h3, _, L, rfl, ⟨rfl, N⟩, hq⟩ := hm p e ha hc hk s m _ below hf ((Spec.applies_iff_loose hf).mp happ).1 ⟨rfl, State.Warmed39.refl s, rfl⟩ trivial
  refine ⟨n, _, h1, h2, h3, hpost _ _ _ _ _ _ ⟨Cond.after_iff.mpr rfl, Cond.after_iff.mpr (eq_i res_at (Term.int_eval (1)) rfl), trivial⟩ ⟨hq.1, hq.2.1, (hq.2.2.sift fun y hy => Or.inr (N y hy)).mono (by decide) (by decide)⟩⟩
theorem main_1_1 : Claimed_1_1 := comes_1 fun _ _ _ _ _ _ h hF => ⟨h.1, hF⟩
theorem main_1_2 : Claimed_1_2 := comes_1 fun _ _ _ _ _ _ h hF => ⟨h.2.1, hF⟩
end Jvm.Pilot.@@N@@
namespace Jvm.Pilot.@@N@@
open Jvm Jvm.ClassFile Sem Op Lib Jvm.Free Jvm.Stand Jvm.Pilot.@@N@@.Jvm.D
/-! MADE BY PROGRAM (witnessworld.py) out of the Statement's table words and the real class files: 9 classes; the members and pool entries that the words name. The judged class is class 1, her method 1. -/
namespace start1
open Jvm.ClassFile
def u (s : String) : CpInfo := .utf8 (stringToUtf16 s)
/-- a pool by its gaps: so many unusable entries, then the entry; so many at the end -/
def gap : Nat → List CpInfo → List CpInfo
  | 0, r => r
  | n + 1, r => .unusable :: gap n r
def poolList (es : List (Nat × CpInfo)) (last : Nat) : List CpInfo := es.foldr (fun e r => gap e.1 (e.2 :: r)) (gap last [])
def pool (es : List (Nat × CpInfo)) (last : Nat) : Array CpInfo := ⟨poolList es last⟩
def fileOf (pool : Array CpInfo) (this : Nat) (attrs : Array Attribute := #[]) (ms : Array MethodInfo := #[]) (fl : Nat := 33) (sup : Nat := 0) (ifs : Array Nat := #[]) (fds : Array FieldInfo := #[]) : ClassFile where
  minorVersion := 0
  majorVersion := 65
  constantPool := pool
  accessFlags := fl
  thisClass := this
  superClass := sup
  interfaces := ifs
  fields := fds
  methods := ms
  attributes := attrs
def plain (name : String) (sup : Option ClassId) : Class where
  name := name
  kind := .ordinary
  loader := none
  accessFlags := 33
  super := sup
  interfaces := #[]
  cf := none
  fields := #[]
  methods := #[]
  instanceTypes := #[]
  staticTypes := #[]
  resolved := #[]
  callSites := []
  init := .initialized
  statics := none
  mirror := none

def pool0 : Array CpInfo := pool [(5, u "<init>"), (0, u "()V"), (1, .class_ 10), (1, u "java/lang/Object")] 113

def k0m0 : Method := { name := "<init>", desc := "()V", sig := { parameters := [], returnType := none }, accessFlags := 1, code := none }
/-- java/lang/Object -/
def k0 : Class := { plain "java/lang/Object" none with
  accessFlags := 33
  interfaces := #[]
  cf := some (fileOf pool0 8 #[] #[{ accessFlags := 1, nameIndex := 5, descriptorIndex := 6, attributes := #[] }] 33 0 #[] #[])
  fields := #[]
  methods := #[k0m0]
  instanceTypes := #[]
  staticTypes := #[]
  resolved := Array.replicate 124 none
  statics := none }

def pool1 : Array CpInfo := pool [(2, .class_ 4), (1, u "java/lang/Object"), (0, u "<init>"), (0, u "()V"), (2, .long 9223372036854775807), (1, .long 1000), (1, .methodref 14 15), (0, .class_ 16), (0, .nameAndType 17 18), (0, u "com/example/aforo/aforo/Decision"), (0, u "secondsRoundedUp"), (0, u "(J)J"), (0, .class_ 20), (0, u "com/example/aforo/aforo/DecisionSecondsRoundedUpPinLaw"), (0, .long 9223372036854776), (1, u "MAX_SECONDS"), (0, u "J"), (3, u "law"), (0, u "(JI)Z")] 3

def k1m0 : Method := { name := "<init>", desc := "()V", sig := { parameters := [], returnType := none }, accessFlags := 1, code := none }
def k1c1 : Code := { maxStack := 6, maxLocals := 14, code := code, exceptionTable := #[], attributes := #[] }
def k1m1 : Method := { name := "law", desc := "(JI)Z", sig := { parameters := [.long, .int], returnType := some .boolean }, accessFlags := 9, code := some k1c1 }
/-- com/example/aforo/aforo/DecisionSecondsRoundedUpPinLaw -/
def k1 : Class := { plain "com/example/aforo/aforo/DecisionSecondsRoundedUpPinLaw" (some 0) with
  accessFlags := 49
  interfaces := #[]
  cf := some (fileOf pool1 19 #[] #[{ accessFlags := 1, nameIndex := 5, descriptorIndex := 6, attributes := #[] }, { accessFlags := 9, nameIndex := 28, descriptorIndex := 29, attributes := #[] }] 49 2 #[] #[{ accessFlags := 26, nameIndex := 23, descriptorIndex := 24, attributes := #[] }])
  fields := #[{ name := "MAX_SECONDS", type := .long, accessFlags := 26, slot := 0, constantValue := 0 }]
  methods := #[k1m0, k1m1]
  instanceTypes := #[]
  staticTypes := #[.long]
  resolved := Array.replicate 33 none
  statics := none }

def pool2 : Array CpInfo := pool [(2, .class_ 4), (1, u "java/lang/Object"), (3, .class_ 10), (1, u "com/example/aforo/aforo/Decision"), (0, u "remaining"), (0, u "J"), (2, u "retryAfterMillis"), (2, u "resetAfterMillis"), (2, u "degraded"), (0, u "Z"), (25, u "secondsRoundedUp"), (0, u "(J)J"), (0, .long 1000), (32, u "MILLIS_PER_SECOND")] 41

def k2c0 : Code := { maxStack := 4, maxLocals := 5, code := prog_4_method_9_code, exceptionTable := #[], attributes := #[] }
def k2m0 : Method := { name := "secondsRoundedUp", desc := "(J)J", sig := { parameters := [.long], returnType := some .long }, accessFlags := 8, code := some k2c0 }
/-- com/example/aforo/aforo/Decision -/
def k2 : Class := { plain "com/example/aforo/aforo/Decision" (some 0) with
  accessFlags := 49
  interfaces := #[]
  cf := some (fileOf pool2 8 #[] #[{ accessFlags := 8, nameIndex := 48, descriptorIndex := 49, attributes := #[] }] 49 2 #[] #[{ accessFlags := 26, nameIndex := 83, descriptorIndex := 12, attributes := #[] }, { accessFlags := 18, nameIndex := 11, descriptorIndex := 12, attributes := #[] }, { accessFlags := 18, nameIndex := 15, descriptorIndex := 12, attributes := #[] }, { accessFlags := 18, nameIndex := 18, descriptorIndex := 12, attributes := #[] }, { accessFlags := 18, nameIndex := 21, descriptorIndex := 22, attributes := #[] }])
  fields := #[{ name := "MILLIS_PER_SECOND", type := .long, accessFlags := 26, slot := 0, constantValue := 0 }, { name := "remaining", type := .long, accessFlags := 18, slot := 0, constantValue := 0 }, { name := "retryAfterMillis", type := .long, accessFlags := 18, slot := 1, constantValue := 0 }, { name := "resetAfterMillis", type := .long, accessFlags := 18, slot := 2, constantValue := 0 }, { name := "degraded", type := .boolean, accessFlags := 18, slot := 3, constantValue := 0 }]
  methods := #[k2m0]
  instanceTypes := #[.long, .long, .long, .boolean]
  staticTypes := #[.long]
  resolved := Array.replicate 125 none
  statics := none }

def pool3 : Array CpInfo := pool [(1, u "java/lang/Cloneable"), (0, .class_ 1), (0, u "java/lang/Object"), (0, .class_ 3)] 3

/-- java/lang/Cloneable -/
def k3 : Class := { plain "java/lang/Cloneable" (some 0) with
  accessFlags := 1537
  interfaces := #[]
  cf := some (fileOf pool3 2 #[] #[] 1537 4 #[] #[])
  fields := #[]
  methods := #[]
  instanceTypes := #[]
  staticTypes := #[]
  resolved := Array.replicate 8 none
  statics := none }

def pool4 : Array CpInfo := pool [(1, u "java/io/Serializable"), (0, .class_ 1), (0, u "java/lang/Object"), (0, .class_ 3)] 3

/-- java/io/Serializable -/
def k4 : Class := { plain "java/io/Serializable" (some 0) with
  accessFlags := 1537
  interfaces := #[]
  cf := some (fileOf pool4 2 #[] #[] 1537 4 #[] #[])
  fields := #[]
  methods := #[]
  instanceTypes := #[]
  staticTypes := #[]
  resolved := Array.replicate 8 none
  statics := none }

/-- the primitive byte -/
def k5 : Class := { plain "byte" none with kind := .primitive 'B', accessFlags := 0x411 }
/-- [B -/
def k6 : Class := { plain "[B" (some 0) with kind := .array 5 .byte, interfaces := #[3, 4], accessFlags := 1041 }

/-- the primitive int -/
def k7 : Class := { plain "int" none with kind := .primitive 'I', accessFlags := 0x411 }
/-- [I -/
def k8 : Class := { plain "[I" (some 0) with kind := .array 7 .int, interfaces := #[3, 4], accessFlags := 1041 }

def heap : Heap := #[]
def classes : Array Class := #[k0, k1, k2, k3, k4, k5, k6, k7, k8]
def interned : List (Array UInt16 × Addr) := []
def slotsUsed : Nat := 0
def theMethod : MethodId := ⟨1, 1⟩
def args0 : Array Value := #[.long 5, .int 1]
def aboutOver (below : List Frame) : State where
  vm := { classes := classes, interned := interned.toArray }
  heap := heap
  slotsUsed := slotsUsed
  threads := #[{ frames := .invoking theMethod args0 :: below }]
def below0 : List Frame := [.native { method := ⟨0, 0⟩, args := #[] }]
def about1 : State := aboutOver below0
def p0 : Program := .bare "" "" ""
def e0 : Env := launch0.env 0 0 0
theorem w_frames : about1.frames = Frame.invoking theMethod args0 :: below0 := rfl
set_option maxRecDepth 65536 in
theorem w_args : argsFit about1.vm theMethod args0 = true := by decide +kernel
set_option maxRecDepth 65536 in
theorem w_heap : heapFits about1 = true := by decide +kernel
set_option maxRecDepth 65536 in
theorem w_runnable : about1.curStatus? = some .runnable := by decide +kernel
set_option maxRecDepth 65536 in
theorem w_alone : about1.alone = true := by decide +kernel
set_option maxRecDepth 65536 in
theorem w_named : about1.methodNamed? x = some theMethod := by decide +kernel
set_option maxRecDepth 65536 in
theorem w_hears : about1.hears theMethod below0 = true := by decide +kernel
set_option maxRecDepth 65536 in
theorem w_ripe : about1.ripe theMethod args0 below0 = true := by decide +kernel
theorem w_running : about1.status = .running := rfl
set_option maxRecDepth 65536 in
theorem w_room : about1.hasRoom e0.platform room_1 = true :=
  launch0.hasRoom_least _ room_1 (by decide +kernel) (by decide +kernel) (by decide +kernel) (by decide +kernel) (by decide +kernel) (by decide +kernel)
theorem allAtoms_all (ts : List Jvm.Cond) (a : Array Jvm.Value) (st : Jvm.State) : (allAtoms ts).before a st = ts.all (fun c => c.before a st) := by
  induction ts with
  | nil => rfl
  | cons c t ih =>
    show (Jvm.Cond.and c (allAtoms t)).before a st = _
    rw [Jvm.Cond.before_and, ih, List.all_cons]
def words1 : List Jvm.Cond := Jvm.Cond.code x code maxLocals ret :: tables_1
/-- a 'code' word, met by the world's own term for the bytes: nothing is compared byte by byte -/
theorem code_word {y : MethodName} {bytes : ByteArray} {mx : Nat} {rt : Option FieldType} {a : Array Value} {s : State} {m : MethodId} {meth : Method} {c : Code} (h1 : s.methodNamed? y = some m) (h2 : s.vm.method? m = some meth) (h3 : meth.code = some c) (h4 : c.code = bytes)
    (h5 : (c.maxLocals == mx && c.exceptionTable.isEmpty && decide (c.maxStack ≤ mostOperands) && decide (meth.sig.returnType = rt) && !meth.locks && decide (parseMethodDescriptor y.desc = some meth.sig)) = true) : (Jvm.Cond.code y bytes mx rt).before a s = true := by
  simp only [Bool.and_eq_true, beq_iff_eq, Bool.not_eq_true', decide_eq_true_eq] at h5
  obtain ⟨⟨⟨⟨⟨g1, g2⟩, g3⟩, g4⟩, g5⟩, g6⟩ := h5
  simp [Cond.before, Cond.holds, Cond.value, h1, h2, h3, h4, g1, g2, g3, g4, g5, g6]
def isCode : Jvm.Cond → Bool
  | .code _ _ _ _ => true
  | _ => false
theorem all_split {L : List Jvm.Cond} {P : Jvm.Cond → Bool} (h1 : L.all (fun c => isCode c || P c) = true) (h2 : ∀ c ∈ L.filter isCode, P c = true) : L.all P = true := by
  refine List.all_eq_true.mpr fun c hc => ?_
  have h := List.all_eq_true.mp h1 c hc
  rcases Bool.eq_false_or_eq_true (isCode c) with hi | hi
  · exact h2 c (List.mem_filter.mpr ⟨hc, hi⟩)
  · simpa [hi] using h
set_option maxRecDepth 65536 in
theorem w_c0 : (Jvm.Cond.code x code maxLocals ret).before args0 about1 = true := code_word (m := ⟨1, 1⟩) (meth := k1m1) (c := k1c1) (by decide +kernel) rfl rfl rfl (by decide +kernel)
set_option maxRecDepth 65536 in
theorem w_c1 : (Jvm.Cond.code ({ cls := "com/example/aforo/aforo/Decision", name := "secondsRoundedUp", desc := "(J)J" } : Jvm.MethodName) prog_4_method_9_code (5 : Nat) (Option.some Jvm.ClassFile.FieldType.long)).before args0 about1 = true := code_word (m := ⟨2, 0⟩) (meth := k2m0) (c := k2c0) (by decide +kernel) rfl rfl rfl (by decide +kernel)
def codes1 : List Jvm.Cond := [Jvm.Cond.code x code maxLocals ret, Jvm.Cond.code ({ cls := "com/example/aforo/aforo/Decision", name := "secondsRoundedUp", desc := "(J)J" } : Jvm.MethodName) prog_4_method_9_code (5 : Nat) (Option.some Jvm.ClassFile.FieldType.long)]
set_option maxRecDepth 65536 in
theorem codes_eq : words1.filter isCode = codes1 := rfl
theorem w_codes : ∀ c ∈ words1.filter isCode, c.before args0 about1 = true := by
  rw [codes_eq]
  intro c hc
  simp only [codes1, List.mem_cons, List.not_mem_nil, or_false] at hc
  rcases hc with rfl | rfl
  · exact w_c0
  · exact w_c1
set_option maxRecDepth 65536 in
theorem w_t1 : words1.all (fun c => isCode c || c.before args0 about1) = true := by decide +kernel
theorem w_tables : (allAtoms (Jvm.Cond.code x code maxLocals ret :: tables_1)).before args0 about1 = true := by
  rw [allAtoms_all]
  show words1.all (fun c => c.before args0 about1) = true
  refine all_split ?_ w_codes
  rw [w_t1]
set_option maxRecDepth 65536 in
theorem w_case : (Jvm.Cond.and given_1 narrow_1).before args0 about1 = true := by decide +kernel
theorem w_applies : (headSpec (Jvm.Cond.code x code maxLocals ret :: tables_1) room_1).applies x e0.platform about1 = true :=
  (Spec.applies_iff w_frames).mpr ⟨w_running, w_runnable, w_alone, w_named, w_hears, w_ripe, w_room, w_tables⟩
theorem atStart : AtStart classFile x code maxLocals ret World_1 tables_1 room_1 Calls_1 rest_1 Pre_1 launch0 p0 e0 about1 theMethod args0 below0 :=
  ⟨lists_1, trivial, launch0.admits_env _ _ _, launch0.least_env, fairChoices_fair.cas, fairChoices_fair.clock, w_frames, w_args, w_heap, w_applies, trivial, trivial, w_case⟩
end start1
theorem witness_1 : WitnessClaimed_1 := ⟨start1.p0, start1.e0, start1.about1, start1.theMethod, start1.args0, start1.below0, start1.atStart⟩
end Jvm.Pilot.@@N@@
