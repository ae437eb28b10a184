import JvmDerived
import JvmDerived.Pilot.@@N@@Statement
import JvmDerived.Pilot.@@N@@Code
set_option linter.unusedVariables false
set_option linter.unusedSimpArgs false
namespace Jvm.Pilot.@@N@@
open Jvm Jvm.ClassFile Sem Op Lib Jvm.Free Jvm.Stand Jvm.LawKit Jvm.RoadKit Bundle Jvm.Pilot.@@N@@.Jvm.D
/-! own layer: a run that ends well, said backwards -/
section OwnGo
variable {p : Program} {l : Launch} {e : Env} {R : Room} {s : State} {m : MethodId} {args : Array Value} {below : List Frame} {meth : Method} {c : Code} {T T' : State} {locs : List Loc} {cells slots : Nat} {Z : State} {a0 : Array Value} {h : Heap} {Q : Option Value → Heap → List Loc → Prop} {C S maxL0 : Nat} {g g' : JFrame}
def Go (p : Program) (e : Env) (below : List Frame) (s : State) (Q : Option Value → Heap → List Loc → Prop) (C S : Nat) (T : State) (g : JFrame) : Prop :=
  ∃ s₂ o, Steps p.tables e below (T.setTop g) s₂ ∧ s₂.status = .running ∧ Ended s₂ below o ∧ ∃ v L, o = .returned v ∧ Q v s₂.heap L ∧ FrameEnd s o s₂ L C S
def Ct (p : Program) (s : State) (m : MethodId) (meth : Method) (c : Code) (Z : State) (own nm : String) (bytes : ByteArray) (maxL : Nat) (ret : Option FieldType) : Prop :=
  p.tables.exec = Jvm.exec ∧ Z.Warmed39 s.vm ∧ s.vm.findClass own = some m.cls ∧ c.code = bytes ∧ c.maxLocals = maxL ∧ meth.sig.returnType = ret ∧ meth.locks = false ∧ meth.name = nm
theorem go_st (k : ∀ t, Steps p.tables e below (T'.setTop g') t → Steps p.tables e below (T.setTop g) t) (q : Go p e below s Q C S T' g') : Go p e below s Q C S T g := by
  obtain ⟨s2, o, q1, q2⟩ := q
  exact ⟨s2, o, k _ q1, q2⟩
theorem castGo (q : g = g') (k : Go p e below s Q C S T g') : Go p e below s Q C S T g := by rw [q]; exact k
theorem go_tr (k : Steps p.tables e below (T.setTop g) (T'.setTop g')) (q : Go p e below s Q C S T' g') : Go p e below s Q C S T g := by
  obtain ⟨s2, o, q1, q2⟩ := q
  exact ⟨s2, o, k.trans q1, q2⟩
theorem go_end (X : Stand p l e R s m args below meth c T locs cells slots) (hlk : meth.locks = false) {v : Option Value} (hv : meth.sig.returnType = none → v = none)
    (hr : ∀ fs, (∀ (f : JFrame) (acts : List Action), f.method = m → f.locked = none → f.entered = [] → (doReturn e (T.setTop f) acts v).1 = T.setFrames fs) → Steps p.tables e below (T.setTop g) (T.setFrames fs))
    (hC : cells ≤ C) (hS : slots ≤ S) (hQ : Q v T.heap locs) : Go p e below s Q C S T g := by
  obtain ⟨fs, h1, hrun, hended, hW, hsame⟩ := X.leave (v := v) hv hlk
  exact ⟨_, _, hr fs h1, hrun, hended, _, _, rfl, hQ, ⟨_, rfl⟩, hW, hsame.mono hC hS⟩
theorem go_retI (X : Stand p l e R s m args below meth c T locs cells slots) (hx : p.tables.exec = Jvm.exec) (hlk : meth.locks = false) (hret : meth.sig.returnType = some .int) {pc : Nat} {Ls : Array Slot} {z : Int32} {rest : List Value} (hd : decode c.code pc = .ok (.ireturn, 1))
    (hC : cells ≤ C) (hS : slots ≤ S) (hQ : Q (some (.int z)) T.heap locs) : Go p e below s Q C S T (mkF m pc Ls (.int z :: rest)) :=
  go_end X hlk (fun h => by rw [hret] at h; cases h) (fun fs h1 => retOut X hx hret rfl (Or.inl ⟨rfl, Or.inl rfl, _, rfl⟩) hd h1) hC hS hQ
theorem go_retL (X : Stand p l e R s m args below meth c T locs cells slots) (hx : p.tables.exec = Jvm.exec) (hlk : meth.locks = false) (hret : meth.sig.returnType = some .long) {pc : Nat} {Ls : Array Slot} {z : Int64} {rest : List Value} (hd : decode c.code pc = .ok (.lreturn, 1))
    (hC : cells ≤ C) (hS : slots ≤ S) (hQ : Q (some (.long z)) T.heap locs) : Go p e below s Q C S T (mkF m pc Ls (.long z :: rest)) :=
  go_end X hlk (fun h => by rw [hret] at h; cases h) (fun fs h1 => retOut X hx hret rfl (Or.inr (Or.inl ⟨rfl, rfl, _, rfl⟩)) hd h1) hC hS hQ
theorem go_retD (X : Stand p l e R s m args below meth c T locs cells slots) (hx : p.tables.exec = Jvm.exec) (hlk : meth.locks = false) (hret : meth.sig.returnType = some .double) {pc : Nat} {Ls : Array Slot} {z : UInt64} {rest : List Value} (hd : decode c.code pc = .ok (.dreturn, 1))
    (hC : cells ≤ C) (hS : slots ≤ S) (hQ : Q (some (.double z)) T.heap locs) : Go p e below s Q C S T (mkF m pc Ls (.double z :: rest)) :=
  go_end X hlk (fun h => by rw [hret] at h; cases h) (fun fs h1 => retOut X hx hret rfl (Or.inr (Or.inr (Or.inl ⟨rfl, rfl, _, rfl⟩))) hd h1) hC hS hQ
theorem go_retA (X : Stand p l e R s m args below meth c T locs cells slots) (hx : p.tables.exec = Jvm.exec) (hlk : meth.locks = false) {t : FieldType} (hret : meth.sig.returnType = some t) (ht : t.isReference = true) {w : Value} (hw : w.isRef = true) {pc : Nat} {Ls : Array Slot} {rest : List Value} (hd : decode c.code pc = .ok (.areturn, 1))
    (hC : cells ≤ C) (hS : slots ≤ S) (hQ : Q (some w) T.heap locs) : Go p e below s Q C S T (mkF m pc Ls (w :: rest)) :=
  go_end X hlk (fun h => by rw [hret] at h; cases h) (fun fs h1 => retOut X hx hret (by cases t <;> simp_all [FieldType.isReference, narrow] <;> cases w <;> simp_all [Value.isRef, narrow]) (Or.inr (Or.inr (Or.inr (Or.inr ⟨rfl, ht, hw⟩)))) hd h1) hC hS hQ
theorem go_retB (X : Stand p l e R s m args below meth c T locs cells slots) (hx : p.tables.exec = Jvm.exec) (hlk : meth.locks = false) (hret : meth.sig.returnType = some .boolean) {pc : Nat} {Ls : Array Slot} {z w : Int32} {rest : List Value} (hd : decode c.code pc = .ok (.ireturn, 1)) (hw : z &&& 1 = w)
    (hC : cells ≤ C) (hS : slots ≤ S) (hQ : Q (some (.int w)) T.heap locs) : Go p e below s Q C S T (mkF m pc Ls (.int z :: rest)) := by
  subst hw
  exact go_end X hlk (fun h => by rw [hret] at h; cases h) (fun fs h1 => retN X hx (t := .boolean) hret (by simp) hd h1) hC hS hQ
theorem go_ret0 (X : Stand p l e R s m args below meth c T locs cells slots) (hx : p.tables.exec = Jvm.exec) (hlk : meth.locks = false) (hret : meth.sig.returnType = none) {pc : Nat} {Ls : Array Slot} (hd : decode c.code pc = .ok (.return_, 1))
    (hC : cells ≤ C) (hS : slots ≤ S) (hQ : Q none T.heap locs) : Go p e below s Q C S T (mkF m pc Ls []) :=
  go_end X hlk (fun _ => rfl) (fun fs h1 => X.returnOut hx hret hd h1) hC hS hQ
def Met (l : Launch) (y : MethodName) (bytes : ByteArray) (maxL : Nat) (ret : Option FieldType) (ws : List Cond) (rm : Room) (Z : State) (as' : Array Value) (h0 : Heap) (Q : Option Value → Heap → List Loc → Prop) (C S : Nat) : Prop :=
  MetFree l y (head1 (Jvm.Cond.code y bytes maxL ret :: ws) rm) (fun a U => a = as' ∧ Z.Warmed39 U.vm ∧ U.heap = h0) (fun _ _ _ _ _ => True) (fun _ U o U' => ∃ v L, o = .returned v ∧ Q v U'.heap L ∧ FrameEnd U o U' L C S)
def QV (w : Option Value) (h0 : Heap) (n0 : Nat) (v : Option Value) (h : Heap) (L : List Loc) : Prop := v = w ∧ Fr n0 L ∧ h = h0
def QF (w : Option Value) (n0 : Nat) (v : Option Value) (h : Heap) (L : List Loc) : Prop := v = w ∧ Fr n0 L
theorem own_body {y : MethodName} {bytes : ByteArray} {maxL : Nat} {ret : Option FieldType} {rm : Room} {as' : Array Value} {h0 : Heap} {ws : List Cond} (hn : plainFor y = true) {C S : Nat}
    (H : ∀ p e s m below meth c s₁, Ct p s m meth c Z y.cls y.name bytes maxL ret → Stand p l e rm s m as' below meth c s₁ [] 0 0 → s₁.heap = h0 → Go p e below s Q C S s₁ (entryFrame m as' maxL)) :
    Met l y bytes maxL ret ws rm Z as' h0 Q C S := by
  refine MetFree.of_bodySF hn hisR ?_
  intro p e s m args below meth c s₁ Bd hml0 hP hK
  obtain ⟨rfl, hZ, hh⟩ := hP
  have hown : s.vm.findClass y.cls = some m.cls := findClass_of_methodNamed Bd.named
  have hnm := (name_of_methodNamed Bd.named Bd.method).1
  have X0 : Stand p l e rm s m args below meth c s₁ [] 0 0 := Stand.of_body Bd
  have e0 : s₁.heap = h0 := by rw [← hh, Bd.state]; rfl
  exact H p e s m below meth c s₁ ⟨Bd.exec, hZ, hown, Bd.bytes, hml0, Bd.returns, Bd.notSynchronized, hnm⟩ X0 e0
theorem go_callS (X : Stand p l e R s m args below meth c T locs cells slots) (hx : p.tables.exec = Jvm.exec) (hZ : Z.Warmed39 s.vm) (hml : c.maxLocals = maxL0) {own : String} {index : Nat} {y : MethodName} {bytes : ByteArray} {maxL : Nat} {ret : Option FieldType} (hown : s.vm.findClass own = some m.cls)
    (w1 : (Cond.methodLink own index y).before a0 Z = true) (w2 : (Cond.static y).before a0 Z = true) (w3 : (Cond.initialized y.cls).before a0 Z = true) (w4 : (Cond.code y bytes maxL ret).before a0 Z = true) (eT : T.heap = h) {argsL rest : List Value} {rm : Room} {Q' : Option Value → Heap → List Loc → Prop} {W : Nat}
    (hM : Met l y bytes maxL ret [] rm Z argsL.toArray h Q' rm.cells rm.slots)
    (hd : decode c.code g.pc = .ok (.invokestatic index, 3)) (hs : g.stack = argsL.reverse ++ rest) (hg : g.method = m) (hsz : g.locals.size = maxL0) (hlen : ∀ sig, parseMethodDescriptor y.desc = some sig → argsL.length = sig.parameters.length) (hW : 2 * g.monitorRoom + (rest.map fun v => v.category).sum ≤ W)
    (hy : y.cls ≠ "java/lang/invoke/MethodHandle" ∧ y.cls ≠ "java/lang/invoke/VarHandle") (hf : rm.frames + 1 ≤ R.frames) (hl : W + (maxL + 11) + rm.locals ≤ R.locals) (hc : cells + rm.cells ≤ R.cells) (hsl : slots + rm.slots ≤ R.slots)
    (k : ∀ T' v L, Stand p l e R s m args below meth c T' (locs ++ L) (cells + rm.cells) (slots + rm.slots) → Q' v T'.heap L → Go p e below s Q C S T' { g with pc := g.pc + 3, stack := v.toList ++ rest }) : Go p e below s Q C S T g := by
  obtain ⟨v, _, ⟨T1, L1, k1, n1⟩, -, X1, ⟨Lc, hQ, l1, y1, z1⟩, st⟩ := Jvm.LawKit.callS X hx (y := y) hown (mvT hZ w1) (mvT hZ w2) (mvT hZ w3) (mvT hZ w4) hy (backOf (W := W) hM hZ w4 w3 hf hl) (g := g) hg (hsz.trans hml.symm) (argsL := argsL) (rest := rest) hlen hs hW hd (fun _ _ => ⟨rfl, eT, hc, hsl⟩)
  dsimp only [Pt.U, Pt.locs, Pt.cells, Pt.slots] at X1 l1 y1 z1 st hQ
  subst l1 y1 z1
  exact go_st st (k _ _ _ X1 hQ)
theorem go_callV (X : Stand p l e R s m args below meth c T locs cells slots) (hx : p.tables.exec = Jvm.exec) (hZ : Z.Warmed39 s.vm) (hml : c.maxLocals = maxL0) {own K : String} {index : Nat} {y z : MethodName} {bytes : ByteArray} {maxL : Nat} {ret : Option FieldType} (hown : s.vm.findClass own = some m.cls)
    (w1 : (Cond.methodLink own index y).before a0 Z = true) (w2 : (Cond.declares y).before a0 Z = true) (w2' : NotFace s y) (w3 : (Cond.selects K y z).before a0 Z = true) (w3' : (Cond.instanceMethod z).before a0 Z = true) (w4 : (Cond.code z bytes maxL ret).before a0 Z = true) (w5 : (Cond.initialized z.cls).before a0 Z = true) (eT : T.heap = h) {a : Addr} (E : Exa Z h a K) {argsL rest : List Value} {rm : Room} {Q' : Option Value → Heap → List Loc → Prop} {W : Nat}
    (hM : Met l z bytes maxL ret [] rm Z (.ref a :: argsL).toArray h Q' rm.cells rm.slots)
    (hd : decode c.code g.pc = .ok (.invokevirtual index, 3)) (hs : g.stack = argsL.reverse ++ .ref a :: rest) (hg : g.method = m) (hsz : g.locals.size = maxL0) (hlen : ∀ sig, parseMethodDescriptor y.desc = some sig → argsL.length = sig.parameters.length) (hW : 2 * g.monitorRoom + (rest.map fun v => v.category).sum ≤ W)
    (hy : y.cls ≠ "java/lang/invoke/MethodHandle" ∧ y.cls ≠ "java/lang/invoke/VarHandle") (hf : rm.frames + 1 ≤ R.frames) (hl : W + (maxL + 11) + rm.locals ≤ R.locals) (hc : cells + rm.cells ≤ R.cells) (hsl : slots + rm.slots ≤ R.slots)
    (k : ∀ T' v L, Stand p l e R s m args below meth c T' (locs ++ L) (cells + rm.cells) (slots + rm.slots) → Q' v T'.heap L → Go p e below s Q C S T' { g with pc := g.pc + 3, stack := v.toList ++ rest }) : Go p e below s Q C S T g := by
  obtain ⟨cB, kB, q1, q2, q3⟩ := isOf hZ eT E
  obtain ⟨v, _, ⟨T1, L1, k1, n1⟩, -, X1, ⟨Lc, hQ, l1, y1, z1⟩, st⟩ := X.virtualBack hx (y := y) (z := z) hown (mvT hZ w1) (mvT hZ w2) w2' (mvT hZ w3) (mvT hZ w3') hy (backOf (W := W) hM hZ w4 w5 hf hl) q1 q3 (g := g) hg (hsz.trans hml.symm) (Steps.refl _) (argsL := argsL) (rest := rest) hlen hs hW hd (fun _ _ => ⟨rfl, eT, hc, hsl⟩)
  dsimp only [Pt.U, Pt.locs, Pt.cells, Pt.slots] at X1 l1 y1 z1 st hQ
  subst l1 y1 z1
  exact go_tr st (k _ _ _ X1 hQ)
theorem go_callU (X : Stand p l e R s m args below meth c T locs cells slots) (hx : p.tables.exec = Jvm.exec) (hZ : Z.Warmed39 s.vm) (hml : c.maxLocals = maxL0) {own K owner : String} {index : Nat} {y z : MethodName} {bytes : ByteArray} {maxL : Nat} {ret : Option FieldType} (hown : s.vm.findClass own = some m.cls)
    (w1 : (Cond.methodLink own index y).before a0 Z = true) (w2 : (Cond.sameMethod y.cls owner y.name y.desc).before a0 Z = true) (w2' : (Cond.declares ⟨owner, y.name, y.desc⟩).before a0 Z = true) (ho : owner ≠ "java/lang/invoke/MethodHandle" ∧ owner ≠ "java/lang/invoke/VarHandle") (w3 : (Cond.selects K y z).before a0 Z = true) (w3' : (Cond.instanceMethod z).before a0 Z = true) (w4 : (Cond.code z bytes maxL ret).before a0 Z = true) (w5 : (Cond.initialized z.cls).before a0 Z = true) (eT : T.heap = h) {a : Addr} (E : Exa Z h a K) {argsL rest : List Value} {rm : Room} {Q' : Option Value → Heap → List Loc → Prop} {W : Nat}
    (hM : Met l z bytes maxL ret [] rm Z (.ref a :: argsL).toArray h Q' rm.cells rm.slots)
    (hd : decode c.code g.pc = .ok (.invokevirtual index, 3)) (hs : g.stack = argsL.reverse ++ .ref a :: rest) (hg : g.method = m) (hsz : g.locals.size = maxL0) (hlen : ∀ sig, parseMethodDescriptor y.desc = some sig → argsL.length = sig.parameters.length) (hW : 2 * g.monitorRoom + (rest.map fun v => v.category).sum ≤ W)
    (hf : rm.frames + 1 ≤ R.frames) (hl : W + (maxL + 11) + rm.locals ≤ R.locals) (hc : cells + rm.cells ≤ R.cells) (hsl : slots + rm.slots ≤ R.slots)
    (k : ∀ T' v L, Stand p l e R s m args below meth c T' (locs ++ L) (cells + rm.cells) (slots + rm.slots) → Q' v T'.heap L → Go p e below s Q C S T' { g with pc := g.pc + 3, stack := v.toList ++ rest }) : Go p e below s Q C S T g := by
  obtain ⟨cB, kB, q1, q2, q3⟩ := isOf hZ eT E
  obtain ⟨v, _, ⟨T1, L1, k1, n1⟩, -, X1, ⟨Lc, hQ, l1, y1, z1⟩, st⟩ := X.virtualBackUp hx (x := y) (y := z) hown (mvT hZ w1) (mvT hZ w2) (mvT hZ w2') ho (mvT hZ w3) (mvT hZ w3') (backOf (W := W) hM hZ w4 w5 hf hl) q1 q3 (g := g) hg (hsz.trans hml.symm) (Steps.refl _) (argsL := argsL) (rest := rest) hlen hs hW hd (fun _ _ => ⟨rfl, eT, hc, hsl⟩)
  dsimp only [Pt.U, Pt.locs, Pt.cells, Pt.slots] at X1 l1 y1 z1 st hQ
  subst l1 y1 z1
  exact go_tr st (k _ _ _ X1 hQ)
theorem go_callI (X : Stand p l e R s m args below meth c T locs cells slots) (hx : p.tables.exec = Jvm.exec) (hZ : Z.Warmed39 s.vm) (hml : c.maxLocals = maxL0) {own : String} {index : Nat} {y : MethodName} {bytes : ByteArray} {maxL : Nat} (hown : s.vm.findClass own = some m.cls) (hy1 : y.name = "<init>")
    (w1 : (Cond.methodLink own index y).before a0 Z = true) (w2 : (Cond.instanceMethod y).before a0 Z = true) (w4 : (Cond.code y bytes maxL none).before a0 Z = true) (w5 : (Cond.initialized y.cls).before a0 Z = true) (eT : T.heap = h) {a : Addr} {argsL rest : List Value} {rm : Room} {Q' : Option Value → Heap → List Loc → Prop} {W : Nat}
    (hM : Met l y bytes maxL none [] rm Z (.ref a :: argsL).toArray h Q' rm.cells rm.slots)
    (hd : decode c.code g.pc = .ok (.invokespecial index, 3)) (hs : g.stack = argsL.reverse ++ .ref a :: rest) (hg : g.method = m) (hsz : g.locals.size = maxL0) (hlen : ∀ sig, parseMethodDescriptor y.desc = some sig → argsL.length = sig.parameters.length) (hW : 2 * g.monitorRoom + (rest.map fun v => v.category).sum ≤ W)
    (hy : y.cls ≠ "java/lang/invoke/MethodHandle" ∧ y.cls ≠ "java/lang/invoke/VarHandle") (hf : rm.frames + 1 ≤ R.frames) (hl : W + (maxL + 11) + rm.locals ≤ R.locals) (hc : cells + rm.cells ≤ R.cells) (hsl : slots + rm.slots ≤ R.slots)
    (k : ∀ T' v L, Stand p l e R s m args below meth c T' (locs ++ L) (cells + rm.cells) (slots + rm.slots) → Q' v T'.heap L → Go p e below s Q C S T' { g with pc := g.pc + 3, stack := v.toList ++ rest }) : Go p e below s Q C S T g := by
  obtain ⟨v, _, ⟨T1, L1, k1, n1⟩, -, X1, ⟨Lc, hQ, l1, y1, z1⟩, st⟩ := X.specialBack hx (y := y) hy1 hown (mvT hZ w1) (mvT hZ w2) (mvT hZ w4) hy (backOf (W := W) hM hZ w4 w5 hf hl) (g := g) hg (hsz.trans hml.symm) (Steps.refl _) (a := a) (argsL := argsL) (rest := rest) hlen hs hW hd (fun _ _ => ⟨rfl, eT, hc, hsl⟩)
  dsimp only [Pt.U, Pt.locs, Pt.cells, Pt.slots] at X1 l1 y1 z1 st hQ
  subst l1 y1 z1
  exact go_tr st (k _ _ _ X1 hQ)
theorem go_getF (X : Stand p l e R s m args below meth c T locs cells slots) (hx : p.tables.exec = Jvm.exec) (hZ : Z.Warmed39 s.vm) {own R0 O n d host : String} {index : Nat} (hown : s.vm.findClass own = some m.cls) (w : (Cond.fieldLink own index R0 n d).before a0 Z = true ∨ (Cond.fieldLinkNest own index R0 n d host).before a0 Z = true) (via : Via Z R0 O n d)
    (eT : T.heap = h) {a : Addr} {v : Value} (F : Fld Z h a O n d v) {rest : List Value} (hd : decode c.code g.pc = .ok (.getfield index, 3)) (hg : g.method = m) (hs : g.stack = .ref a :: rest)
    (k : ∀ T', Stand p l e R s m args below meth c T' locs cells slots → T'.heap = h → Go p e below s Q C S T' { g with pc := g.pc + 3, stack := v :: rest }) : Go p e below s Q C S T g := by
  obtain ⟨T1, X1, e1, st⟩ := getF X hx hZ hown w via eT F hg hs hd
  exact go_st st (k _ X1 e1)
theorem go_getS (X : Stand p l e R s m args below meth c T locs cells slots) (hx : p.tables.exec = Jvm.exec) (hZ : Z.Warmed39 s.vm) {own R0 O n d host : String} {index : Nat} (hown : s.vm.findClass own = some m.cls) (w : (Cond.fieldLink own index R0 n d).before a0 Z = true ∨ (Cond.fieldLinkNest own index R0 n d host).before a0 Z = true) (via : Via Z R0 O n d)
    (eT : T.heap = h) {v : Value} (F : Sta Z h O n d v) (hd : decode c.code g.pc = .ok (.getstatic index, 3)) (hg : g.method = m)
    (k : ∀ T', Stand p l e R s m args below meth c T' locs cells slots → T'.heap = h → Go p e below s Q C S T' { g with pc := g.pc + 3, stack := v :: g.stack }) : Go p e below s Q C S T g := by
  obtain ⟨T1, X1, e1, st⟩ := getS2 X hx hZ hown w via eT F hg hd
  exact go_st st (k _ X1 e1)
theorem go_putF (X : Stand p l e R s m args below meth c T locs cells slots) (hx : p.tables.exec = Jvm.exec) (hZ : Z.Warmed39 s.vm) {own R0 O n d host K : String} {index kk : Nat} {ty : FieldType} (hown : s.vm.findClass own = some m.cls) (w : (Cond.fieldLink own index R0 n d).before a0 Z = true ∨ (Cond.fieldLinkNest own index R0 n d host).before a0 Z = true) (via : Via Z R0 O n d)
    (eT : T.heap = h) {a : Addr} {v old : Value} (F : Fld Z h a O n d old) (E : Exa Z h a K) (L : (Cond.lays K O n d).before a0 Z = true ∨ ((Cond.laysFinal K O n d).before a0 Z = true ∧ own = O ∧ meth.name = "<init>")) (wi : (Cond.instantiable K kk).before a0 Z = true)
    (hty : parseFieldDescriptor d = some ty) (hn : narrow ty v = v) (hf : fits ty v = true) {rest : List Value} (hd : decode c.code g.pc = .ok (.putfield index, 3)) (hg : g.method = m) (hs : g.stack = v :: .ref a :: rest)
    (k : ∀ T' h', Stand p l e R s m args below meth c T' (locs ++ [⟨a, Jvm.RoadKit.slotOf Z O n d⟩]) cells slots → T'.heap = h' → Wr h h' a (Jvm.RoadKit.slotOf Z O n d) v → Go p e below s Q C S T' { g with pc := g.pc + 3, stack := rest }) : Go p e below s Q C S T g := by
  obtain ⟨T1, h1, X1, e1, W1, st⟩ := putF X hx hZ hown w via eT F E L wi hty hn hf hg hs hd
  exact go_st st (k _ _ X1 e1 W1)
theorem go_newO (X : Stand p l e R s m args below meth c T locs cells slots) (hx : p.tables.exec = Jvm.exec) (hZ : Z.Warmed39 s.vm) {own K : String} {index n : Nat} (hown : s.vm.findClass own = some m.cls) (w : (Cond.classLink own index K).before a0 Z = true) (wi : (Cond.instantiable K n).before a0 Z = true) (wz : (Cond.initialized K).before a0 Z = true) (eT : T.heap = h)
    (hd : decode c.code g.pc = .ok (.new index, 3)) (hg : g.method = m) (hc : cells + 1 ≤ R.cells) (hl : slots + n ≤ R.slots)
    (k : ∀ T' h' a, a = h.size → Stand p l e R s m args below meth c T' locs (cells + 1) (slots + n) → T'.heap = h' → Ext h h' → Exa Z h' a K → (∀ {O nm d : String} {ty : FieldType}, Laid Z a0 K O nm d → parseFieldDescriptor d = some ty → Fld Z h' a O nm d (defaultValue ty)) → Go p e below s Q C S T' { g with pc := g.pc + 3, stack := .ref a :: g.stack }) : Go p e below s Q C S T g := by
  obtain ⟨T1, h1, X1, e1, E1, A1, D1, -, st⟩ := newO X hx hZ hown w wi wz eT hg hd hc hl
  exact go_st st (k _ _ _ rfl X1 e1 E1 A1 D1)
theorem go_initO (X : Stand p l e R s m args below meth c T locs cells slots) (hx : p.tables.exec = Jvm.exec) (hZ : Z.Warmed39 s.vm) (hml : c.maxLocals = maxL0) {own : String} {idx : Nat} (hown : s.vm.findClass own = some m.cls) (w1 : (Cond.methodLink own idx Lib.objectInit).before a0 Z = true) (w2 : (Cond.instanceMethod Lib.objectInit).before a0 Z = true)
    (w3 : (Cond.code Lib.objectInit ⟨#[0xb1]⟩ 1 none).before a0 Z = true) (eT : T.heap = h) {a : Addr} {rest : List Value} (hd : decode c.code g.pc = .ok (.invokespecial idx, 3)) (hg : g.method = m) (hsz : g.locals.size = maxL0) (hs : g.stack = .ref a :: rest)
    (hf : 1 ≤ R.frames) {W : Nat} (hW : 2 * g.monitorRoom + (rest.map fun v => v.category).sum ≤ W) (hl : W + 12 ≤ R.locals)
    (k : ∀ T', Stand p l e R s m args below meth c T' locs cells slots → T'.heap = h → Go p e below s Q C S T' { g with pc := g.pc + 3, stack := rest }) : Go p e below s Q C S T g := by
  obtain ⟨T1, X1, e1, st⟩ := initO X hx hZ hown w1 w2 w3 eT hg (hsz.trans hml.symm) hs hd hf hW hl
  exact go_st st (k _ X1 e1)
theorem own_lrem {tb : Tables} [Ours tb] {target : State} (hh : At T m c below) (hx : tb.exec = Jvm.exec) (hg : g.method = m) {x y : Int64} {rest : List Value} (hd : decode c.code g.pc = .ok (.lrem, 1)) (hs : g.stack = .long y :: .long x :: rest) (hy : y ≠ 0)
    (hr : Steps tb e below (T.setTop { g with pc := g.pc + 1, stack := .long (x % y) :: rest }) target) : Steps tb e below (T.setTop g) target :=
  XT.lrem hh hx hg hd hs hy (by rw [lrem_mod]; exact hr)
/-! arrays, their places by a function -/
def GA (Z : State) (h : Heap) (a : Addr) (ty : FieldType) (n : Nat) (f : Nat → Value) : Prop := ∃ cl : Cell, Arr Z h a cl ty ∧ cl.slots.size = n ∧ n < 2 ^ 31 ∧ ∀ i, i < n → cl.slots[i]? = some (f i)
theorem GA.lt {a : Addr} {ty : FieldType} {n : Nat} {f : Nat → Value} (A : GA Z h a ty n f) : a < h.size := by
  obtain ⟨cl, A1, -⟩ := A
  exact A1.lt
theorem GA.ext {a : Addr} {ty : FieldType} {n : Nat} {f : Nat → Value} {h' : Heap} (A : GA Z h a ty n f) (E : Ext h h') : GA Z h' a ty n f := by
  obtain ⟨cl, A1, r⟩ := A
  exact ⟨cl, A1.ext E, r⟩
theorem GA.other {a b : Addr} {ty : FieldType} {n sl : Nat} {v : Value} {f : Nat → Value} {h' : Heap} (A : GA Z h b ty n f) (W : Wr h h' a sl v) (q : b ≠ a) : GA Z h' b ty n f := by
  obtain ⟨cl, A1, r⟩ := A
  exact ⟨cl, A1.other W q, r⟩
theorem GA.keep {a : Addr} {ty : FieldType} {n : Nat} {f : Nat → Value} {h' : Heap} {ws : List Addr} (A : GA Z h a ty n f) (K : Keep h h' ws) (q : a ∉ ws) : GA Z h' a ty n f := by
  obtain ⟨cl, A1, r⟩ := A
  exact ⟨cl, ⟨K.2.1 _ _ A1.1 q, A1.2⟩, r⟩
theorem GA.congr {a : Addr} {ty : FieldType} {n : Nat} {f f' : Nat → Value} (A : GA Z h a ty n f) (q : ∀ i, i < n → f i = f' i) : GA Z h a ty n f' := by
  obtain ⟨cl, A1, A2, A3, A4⟩ := A
  exact ⟨cl, A1, A2, A3, fun i hi => (A4 i hi).trans (by rw [q i hi])⟩
theorem GA.set {a : Addr} {ty : FieldType} {n j : Nat} {v : Value} {f : Nat → Value} {h' : Heap} (A : GA Z h a ty n f) (W : Wr h h' a j v) : GA Z h' a ty n (fun i => if i = j then v else f i) := by
  obtain ⟨cl, A1, A2, A3, A4⟩ := A
  obtain ⟨c2, w1, w2, w3, w4⟩ := W
  obtain rfl : cl = c2 := Option.some.inj (A1.1.symm.trans w1)
  refine ⟨cl.setSlot j v, A1.same ⟨cl, w1, w2, w3, w4⟩, (sz_set cl j v).trans A2, A3, fun i hi => ?_⟩
  show (cl.slots.setIfInBounds j v)[i]? = _
  rw [Array.getElem?_setIfInBounds]
  by_cases q : i = j
  · subst q
    rw [if_pos rfl, if_pos w3]
    simp only [if_true]
  · rw [if_neg (fun h => q h.symm)]
    simp only [if_neg q]
    exact A4 i hi
theorem GA.len {a : Addr} {ty : FieldType} {n : Nat} {f : Nat → Value} (A : GA Z h a ty n f) : n < 2 ^ 31 := by
  obtain ⟨cl, -, -, A3, -⟩ := A
  exact A3
def OC (Z : State) (h : Heap) (a : Addr) (ty : FieldType) (K : String) : Prop := ∃ cl : Cell, Arr Z h a cl ty ∧ Ovr Z cl.cls K
theorem OC.ext {a : Addr} {ty : FieldType} {K : String} {h' : Heap} (A : OC Z h a ty K) (E : Ext h h') : OC Z h' a ty K := by
  obtain ⟨cl, A1, A2⟩ := A
  exact ⟨cl, A1.ext E, A2⟩
theorem OC.wr {a b : Addr} {ty : FieldType} {K : String} {sl : Nat} {v : Value} {h' : Heap} (A : OC Z h b ty K) (W : Wr h h' a sl v) : OC Z h' b ty K := by
  obtain ⟨cl, A1, A2⟩ := A
  by_cases q : b = a
  · subst q
    exact ⟨_, A1.same W, A2⟩
  · exact ⟨cl, A1.other W q, A2⟩
theorem OC.keep {b : Addr} {ty : FieldType} {K : String} {h' : Heap} {ws : List Addr} (A : OC Z h b ty K) (Kp : Keep h h' ws) : OC Z h' b ty K := by
  obtain ⟨cl, ⟨A1, A3, A4⟩, A2⟩ := A
  obtain ⟨c', q1, q2, q3, q4⟩ := Kp.2.2 _ _ A1
  refine ⟨c', ⟨q1, ?_, by rw [q3]; exact A4⟩, by rw [q2]; exact A2⟩
  unfold State.isArrayOf at A3 ⊢
  rw [q2, q3]
  exact A3
theorem OC.sto {a y : Addr} {ty : FieldType} {K : String} (A : OC Z h a ty K) (I : Ins Z h y K true) : Sto Z h a (.ref y) := by
  obtain ⟨cl, A1, A2⟩ := A
  exact Sto.of A1 A2 I
theorem own_in {j : Int32} {n : Nat} (q : 0 ≤ j.toInt ∧ j.toInt < n) : ¬ (j < 0 ∨ n ≤ j.toNatClampNeg) := by
  have h1 : (j.toNatClampNeg : Int) = j.toInt := by have := q.1; simp only [Int32.toNatClampNeg]; omega
  rw [Int32.lt_iff_toInt_lt]
  have : (0 : Int32).toInt = 0 := rfl
  omega
theorem go_alen (X : Stand p l e R s m args below meth c T locs cells slots) (hx : p.tables.exec = Jvm.exec) (hZ : Z.Warmed39 s.vm) (eT : T.heap = h) {a : Addr} {ty : FieldType} {n : Nat} {f : Nat → Value} (A : GA Z h a ty n f) {rest : List Value}
    (hd : decode c.code g.pc = .ok (.arraylength, 1)) (hg : g.method = m) (hs : g.stack = .ref a :: rest) (w : Int32) (hw : Nat.toInt32 n = w) (k : Go p e below s Q C S T { g with pc := g.pc + 1, stack := .int w :: rest }) : Go p e below s Q C S T g := by
  obtain ⟨cl, A1, rfl, -, -⟩ := A
  subst hw
  exact go_st (fun t => X.arraylength hx (by rw [eT]; exact A1.1) (State.isArrayOf_alike hZ.alike A1.2.1) hg hs hd t) k
theorem go_iald (X : Stand p l e R s m args below meth c T locs cells slots) (hx : p.tables.exec = Jvm.exec) (hZ : Z.Warmed39 s.vm) (eT : T.heap = h) {a : Addr} {n : Nat} {f : Nat → Value} (A : GA Z h a .int n f) {j : Int32} {rest : List Value}
    (hd : decode c.code g.pc = .ok (.iaload, 1)) (hg : g.method = m) (hs : g.stack = .int j :: .ref a :: rest) (q : 0 ≤ j.toInt ∧ j.toInt < n) (w : Value) (hw : f j.toNatClampNeg = w) (k : Go p e below s Q C S T { g with pc := g.pc + 1, stack := w :: rest }) : Go p e below s Q C S T g := by
  obtain ⟨cl, A1, rfl, -, A4⟩ := A
  have q2 := own_in q
  refine go_st (fun t => X.iaload hx (j := j) (v := w) (by rw [eT]; exact A1.1) (State.isArrayOf_alike hZ.alike A1.2.1) A1.2.2 q2 ?_ hg hs hd t) k
  rw [A4 _ (by omega), hw]
theorem go_lald (X : Stand p l e R s m args below meth c T locs cells slots) (hx : p.tables.exec = Jvm.exec) (hZ : Z.Warmed39 s.vm) (eT : T.heap = h) {a : Addr} {n : Nat} {f : Nat → Value} (A : GA Z h a .long n f) {j : Int32} {rest : List Value}
    (hd : decode c.code g.pc = .ok (.laload, 1)) (hg : g.method = m) (hs : g.stack = .int j :: .ref a :: rest) (q : 0 ≤ j.toInt ∧ j.toInt < n) (w : Value) (hw : f j.toNatClampNeg = w) (k : Go p e below s Q C S T { g with pc := g.pc + 1, stack := w :: rest }) : Go p e below s Q C S T g := by
  obtain ⟨cl, A1, rfl, -, A4⟩ := A
  have q2 := own_in q
  refine go_st (fun t => X.laload hx (j := j) (v := w) (by rw [eT]; exact A1.1) (State.isArrayOf_alike hZ.alike A1.2.1) A1.2.2 q2 ?_ hg hs hd t) k
  rw [A4 _ (by omega), hw]
theorem go_bald (X : Stand p l e R s m args below meth c T locs cells slots) (hx : p.tables.exec = Jvm.exec) (hZ : Z.Warmed39 s.vm) (eT : T.heap = h) {a : Addr} {n : Nat} {f : Nat → Value} (A : GA Z h a .byte n f) {j : Int32} {rest : List Value}
    (hd : decode c.code g.pc = .ok (.baload, 1)) (hg : g.method = m) (hs : g.stack = .int j :: .ref a :: rest) (q : 0 ≤ j.toInt ∧ j.toInt < n) (w : Value) (hw : f j.toNatClampNeg = w) (k : Go p e below s Q C S T { g with pc := g.pc + 1, stack := w :: rest }) : Go p e below s Q C S T g := by
  obtain ⟨cl, A1, rfl, -, A4⟩ := A
  have q2 := own_in q
  refine go_st (fun t => X.baloadBytes hx (j := j) (v := w) (by rw [eT]; exact A1.1) (State.isArrayOf_alike hZ.alike A1.2.1) A1.2.2 q2 ?_ hg hs hd t) k
  rw [A4 _ (by omega), hw]
theorem go_cald (X : Stand p l e R s m args below meth c T locs cells slots) (hx : p.tables.exec = Jvm.exec) (hZ : Z.Warmed39 s.vm) (eT : T.heap = h) {a : Addr} {n : Nat} {f : Nat → Value} (A : GA Z h a .char n f) {j : Int32} {rest : List Value}
    (hd : decode c.code g.pc = .ok (.caload, 1)) (hg : g.method = m) (hs : g.stack = .int j :: .ref a :: rest) (q : 0 ≤ j.toInt ∧ j.toInt < n) (w : Value) (hw : f j.toNatClampNeg = w) (k : Go p e below s Q C S T { g with pc := g.pc + 1, stack := w :: rest }) : Go p e below s Q C S T g := by
  obtain ⟨cl, A1, rfl, -, A4⟩ := A
  have q2 := own_in q
  refine go_st (fun t => X.caload hx (j := j) (v := w) (by rw [eT]; exact A1.1) (State.isArrayOf_alike hZ.alike A1.2.1) A1.2.2 q2 ?_ hg hs hd t) k
  rw [A4 _ (by omega), hw]
theorem go_aald (X : Stand p l e R s m args below meth c T locs cells slots) (hx : p.tables.exec = Jvm.exec) (hZ : Z.Warmed39 s.vm) (eT : T.heap = h) {a : Addr} {ty : FieldType} {n : Nat} {f : Nat → Value} (A : GA Z h a ty n f) (hty : ty.isReference = true) {j : Int32} {rest : List Value}
    (hd : decode c.code g.pc = .ok (.aaload, 1)) (hg : g.method = m) (hs : g.stack = .int j :: .ref a :: rest) (q : 0 ≤ j.toInt ∧ j.toInt < n) (w : Value) (hw : f j.toNatClampNeg = w) (k : Go p e below s Q C S T { g with pc := g.pc + 1, stack := w :: rest }) : Go p e below s Q C S T g := by
  obtain ⟨cl, A1, rfl, -, A4⟩ := A
  have q2 := own_in q
  refine go_st (fun t => X.aaload hx (j := j) (v := w) (by rw [eT]; exact A1.1) (State.isArrayOf_alike hZ.alike A1.2.1) hty A1.2.2 q2 ?_ hg hs hd t) k
  rw [A4 _ (by omega), hw]
theorem go_iast (X : Stand p l e R s m args below meth c T locs cells slots) (hx : p.tables.exec = Jvm.exec) (hZ : Z.Warmed39 s.vm) (eT : T.heap = h) {a : Addr} {n : Nat} {f : Nat → Value} (A : GA Z h a .int n f) {j x : Int32} {rest : List Value}
    (hd : decode c.code g.pc = .ok (.iastore, 1)) (hg : g.method = m) (hs : g.stack = .int x :: .int j :: .ref a :: rest) (q : 0 ≤ j.toInt ∧ j.toInt < n)
    (k : ∀ T' h', Stand p l e R s m args below meth c T' (locs ++ [⟨a, j.toNatClampNeg⟩]) cells slots → T'.heap = h' → Wr h h' a j.toNatClampNeg (.int x) → GA Z h' a .int n (fun i => if i = j.toNatClampNeg then .int x else f i) → Go p e below s Q C S T' { g with pc := g.pc + 1, stack := rest }) : Go p e below s Q C S T g := by
  have A' := A
  obtain ⟨cl, A1, rfl, -, A4⟩ := A
  obtain ⟨T1, h1, X1, e1, W1, st⟩ := stI X hx hZ eT A1 (own_in q) hg hs hd
  exact go_st st (k _ _ X1 e1 W1 (A'.set W1))
theorem go_last (X : Stand p l e R s m args below meth c T locs cells slots) (hx : p.tables.exec = Jvm.exec) (hZ : Z.Warmed39 s.vm) (eT : T.heap = h) {a : Addr} {n : Nat} {f : Nat → Value} (A : GA Z h a .long n f) {j : Int32} {x : Int64} {rest : List Value}
    (hd : decode c.code g.pc = .ok (.lastore, 1)) (hg : g.method = m) (hs : g.stack = .long x :: .int j :: .ref a :: rest) (q : 0 ≤ j.toInt ∧ j.toInt < n)
    (k : ∀ T' h', Stand p l e R s m args below meth c T' (locs ++ [⟨a, j.toNatClampNeg⟩]) cells slots → T'.heap = h' → Wr h h' a j.toNatClampNeg (.long x) → GA Z h' a .long n (fun i => if i = j.toNatClampNeg then .long x else f i) → Go p e below s Q C S T' { g with pc := g.pc + 1, stack := rest }) : Go p e below s Q C S T g := by
  have A' := A
  obtain ⟨cl, A1, rfl, -, A4⟩ := A
  obtain ⟨T1, h1, X1, e1, W1, st⟩ := stJ X hx hZ eT A1 (own_in q) hg hs hd
  exact go_st st (k _ _ X1 e1 W1 (A'.set W1))
theorem go_bast (X : Stand p l e R s m args below meth c T locs cells slots) (hx : p.tables.exec = Jvm.exec) (hZ : Z.Warmed39 s.vm) (eT : T.heap = h) {a : Addr} {n : Nat} {f : Nat → Value} (A : GA Z h a .byte n f) {j x : Int32} {rest : List Value}
    (hd : decode c.code g.pc = .ok (.bastore, 1)) (hg : g.method = m) (hs : g.stack = .int x :: .int j :: .ref a :: rest) (q : 0 ≤ j.toInt ∧ j.toInt < n)
    (k : ∀ T' h', Stand p l e R s m args below meth c T' (locs ++ [⟨a, j.toNatClampNeg⟩]) cells slots → T'.heap = h' → Wr h h' a j.toNatClampNeg (.int x.toInt8.toInt32) → GA Z h' a .byte n (fun i => if i = j.toNatClampNeg then .int x.toInt8.toInt32 else f i) → Go p e below s Q C S T' { g with pc := g.pc + 1, stack := rest }) : Go p e below s Q C S T g := by
  have A' := A
  obtain ⟨cl, A1, rfl, -, A4⟩ := A
  obtain ⟨T1, h1, X1, e1, W1, st⟩ := stB X hx hZ eT A1 (own_in q) hg hs hd
  exact go_st st (k _ _ X1 e1 W1 (A'.set W1))
theorem go_cast (X : Stand p l e R s m args below meth c T locs cells slots) (hx : p.tables.exec = Jvm.exec) (hZ : Z.Warmed39 s.vm) (eT : T.heap = h) {a : Addr} {n : Nat} {f : Nat → Value} (A : GA Z h a .char n f) {j x : Int32} {rest : List Value}
    (hd : decode c.code g.pc = .ok (.castore, 1)) (hg : g.method = m) (hs : g.stack = .int x :: .int j :: .ref a :: rest) (q : 0 ≤ j.toInt ∧ j.toInt < n)
    (k : ∀ T' h', Stand p l e R s m args below meth c T' (locs ++ [⟨a, j.toNatClampNeg⟩]) cells slots → T'.heap = h' → Wr h h' a j.toNatClampNeg (.int (nar .char x)) → GA Z h' a .char n (fun i => if i = j.toNatClampNeg then .int (nar .char x) else f i) → Go p e below s Q C S T' { g with pc := g.pc + 1, stack := rest }) : Go p e below s Q C S T g := by
  have A' := A
  obtain ⟨cl, A1, rfl, -, A4⟩ := A
  obtain ⟨T1, h1, X1, e1, W1, st⟩ := stC X hx hZ eT A1 (own_in q) hg hs hd
  exact go_st st (k _ _ X1 e1 W1 (A'.set W1))
theorem go_aast (X : Stand p l e R s m args below meth c T locs cells slots) (hx : p.tables.exec = Jvm.exec) (hZ : Z.Warmed39 s.vm) (eT : T.heap = h) {a : Addr} {ty : FieldType} {n : Nat} {f : Nat → Value} (A : GA Z h a ty n f) (hty : ty.isReference = true) {j : Int32} {v : Value} (F : Sto Z h a v) {rest : List Value}
    (hd : decode c.code g.pc = .ok (.aastore, 1)) (hg : g.method = m) (hs : g.stack = v :: .int j :: .ref a :: rest) (q : 0 ≤ j.toInt ∧ j.toInt < n)
    (k : ∀ T' h', Stand p l e R s m args below meth c T' (locs ++ [⟨a, j.toNatClampNeg⟩]) cells slots → T'.heap = h' → Wr h h' a j.toNatClampNeg v → GA Z h' a ty n (fun i => if i = j.toNatClampNeg then v else f i) → Go p e below s Q C S T' { g with pc := g.pc + 1, stack := rest }) : Go p e below s Q C S T g := by
  have A' := A
  obtain ⟨cl, A1, rfl, -, A4⟩ := A
  obtain ⟨T1, h1, X1, e1, W1, st⟩ := stR X hx hZ eT A1 (own_in q) hty F hg hs hd
  exact go_st st (k _ _ X1 e1 W1 (A'.set W1))
theorem own_clamp {n : Int32} {N : Nat} (q : n.toInt = N) : n.toNatClampNeg = N := by simp only [Int32.toNatClampNeg]; omega
theorem own_nneg {n : Int32} {N : Nat} (q : n.toInt = N) : ¬ n < 0 := by
  rw [Int32.lt_iff_toInt_lt]
  have : (0 : Int32).toInt = 0 := rfl
  omega
theorem go_newP (X : Stand p l e R s m args below meth c T locs cells slots) (hx : p.tables.exec = Jvm.exec) (hZ : Z.Warmed39 s.vm) {aty : ArrayType} (w : (Cond.arrayClass (newarray.typeOf aty)).before a0 Z = true) (eT : T.heap = h) {n : Int32} {rest : List Value} (hd : decode c.code g.pc = .ok (.newarray aty, 2)) (hg : g.method = m) (hs : g.stack = .int n :: rest)
    (N : Nat) (hn : n.toInt = N) (cap : Nat) (hcap : N ≤ cap) (hb : cap * 8 ≤ 536870912) (hc : cells + 1 ≤ R.cells) (hl : slots + cap ≤ R.slots)
    (k : ∀ T' h' a, a = h.size → Stand p l e R s m args below meth c T' locs (cells + 1) (slots + cap) → T'.heap = h' → Ext h h' → GA Z h' a (newarray.typeOf aty) N (fun _ => defaultValue (newarray.typeOf aty)) → Go p e below s Q C S T' { g with pc := g.pc + 2, stack := .ref a :: rest }) : Go p e below s Q C S T g := by
  have hN := own_clamp hn
  have hn0 := own_nneg hn
  obtain ⟨T1, h1, cA, X1, e1, E1, A1, st⟩ := newP X hx hZ w eT hg hd hs hn0 (cap := cap) (by omega) hb hc hl
  refine go_st st (k _ _ _ rfl X1 e1 E1 ⟨_, A1, (sz_new _ _ _).trans hN, ?_, fun i hi => ?_⟩)
  · have := (rng32 n).2
    omega
  · show (Array.replicate n.toNatClampNeg (defaultValue _))[i]? = _
    rw [hN, Array.getElem?_replicate, if_pos hi]
theorem go_newR (X : Stand p l e R s m args below meth c T locs cells slots) (hx : p.tables.exec = Jvm.exec) (hZ : Z.Warmed39 s.vm) {own K : String} {index : Nat} (hown : s.vm.findClass own = some m.cls) (w1 : (Cond.classLink own index K).before a0 Z = true) (w2 : (Cond.arrayOver (.object K)).before a0 Z = true) (eT : T.heap = h) {n : Int32} {rest : List Value} (hd : decode c.code g.pc = .ok (.anewarray index, 3)) (hg : g.method = m) (hs : g.stack = .int n :: rest)
    (N : Nat) (hn : n.toInt = N) (cap : Nat) (hcap : N ≤ cap) (hb : cap * 8 ≤ 536870912) (hc : cells + 1 ≤ R.cells) (hl : slots + cap ≤ R.slots)
    (k : ∀ T' h' a, a = h.size → Stand p l e R s m args below meth c T' locs (cells + 1) (slots + cap) → T'.heap = h' → Ext h h' → GA Z h' a (.object K) N (fun _ => .null) → OC Z h' a (.object K) K → Go p e below s Q C S T' { g with pc := g.pc + 3, stack := .ref a :: rest }) : Go p e below s Q C S T g := by
  have hN := own_clamp hn
  have hn0 := own_nneg hn
  obtain ⟨T1, h1, cA, X1, e1, E1, A1, O1, st⟩ := newR X hx hZ hown w1 w2 eT hg hd hs hn0 (cap := cap) (by omega) hb hc hl
  refine go_st st (k _ _ _ rfl X1 e1 E1 ⟨_, A1, (sz_new _ _ _).trans hN, ?_, fun i hi => ?_⟩ ⟨_, A1, O1⟩)
  · have := (rng32 n).2
    omega
  · show (Array.replicate n.toNatClampNeg (defaultValue _))[i]? = _
    rw [hN, Array.getElem?_replicate, if_pos hi]
    rfl
end OwnGo
section OwnMore
variable {p : Program} {l : Launch} {e : Env} {R : Room} {s : State} {m : MethodId} {args : Array Value} {below : List Frame} {meth : Method} {c : Code} {T T' : State} {locs : List Loc} {cells slots : Nat} {Z : State} {a0 : Array Value} {h : Heap} {Q : Option Value → Heap → List Loc → Prop} {C S maxL0 : Nat} {g g' : JFrame}
theorem go_zald (X : Stand p l e R s m args below meth c T locs cells slots) (hx : p.tables.exec = Jvm.exec) (hZ : Z.Warmed39 s.vm) (eT : T.heap = h) {a : Addr} {n : Nat} {f : Nat → Value} (A : GA Z h a .boolean n f) {j : Int32} {rest : List Value}
    (hd : decode c.code g.pc = .ok (.baload, 1)) (hg : g.method = m) (hs : g.stack = .int j :: .ref a :: rest) (q : 0 ≤ j.toInt ∧ j.toInt < n) (w : Value) (hw : f j.toNatClampNeg = w) (k : Go p e below s Q C S T { g with pc := g.pc + 1, stack := w :: rest }) : Go p e below s Q C S T g := by
  obtain ⟨cl, A1, rfl, -, A4⟩ := A
  have q2 := own_in q
  refine go_st (fun t => X.baloadBooleans hx (j := j) (v := w) (by rw [eT]; exact A1.1) (State.isArrayOf_alike hZ.alike A1.2.1) A1.2.2 q2 ?_ hg hs hd t) k
  rw [A4 _ (by omega), hw]
theorem go_zast (X : Stand p l e R s m args below meth c T locs cells slots) (hx : p.tables.exec = Jvm.exec) (hZ : Z.Warmed39 s.vm) (eT : T.heap = h) {a : Addr} {n : Nat} {f : Nat → Value} (A : GA Z h a .boolean n f) {j x : Int32} {rest : List Value}
    (hd : decode c.code g.pc = .ok (.bastore, 1)) (hg : g.method = m) (hs : g.stack = .int x :: .int j :: .ref a :: rest) (q : 0 ≤ j.toInt ∧ j.toInt < n)
    (k : ∀ T' h', Stand p l e R s m args below meth c T' (locs ++ [⟨a, j.toNatClampNeg⟩]) cells slots → T'.heap = h' → Wr h h' a j.toNatClampNeg (.int (x &&& 1)) → GA Z h' a .boolean n (fun i => if i = j.toNatClampNeg then .int (x &&& 1) else f i) → Go p e below s Q C S T' { g with pc := g.pc + 1, stack := rest }) : Go p e below s Q C S T g := by
  have A' := A
  obtain ⟨cl, A1, rfl, -, A4⟩ := A
  obtain ⟨T1, h1, X1, e1, W1, st⟩ := stZ X hx hZ eT A1 (own_in q) hg hs hd
  exact go_st st (k _ _ X1 e1 W1 (A'.set W1))
theorem own_arv {a : Addr} {ty : FieldType} {N : Nat} {f : Nat → Value} {dv : Value} (A : GA Z h a ty N f) (fa : ∀ i, i < N → fits ty (f i) = true) {z : Int32} (hz : z.toInt = N) : ∃ k, Arv Z h a k ty z ((List.range N).map f) dv := by
  obtain ⟨cl, A1, A2, A3, A4⟩ := A
  have hz2 := own_clamp hz
  refine ⟨cl.cls, cl, A1, rfl, by rw [A2, hz2], own_nneg hz, fun i hi => ?_, fun i hi => ?_⟩
  · rw [A2] at hi
    rw [A4 i hi, List.getD_eq_getElem?_getD, List.getElem?_map, List.getElem?_range hi]
    rfl
  · rw [A2] at hi
    rw [List.getD_eq_getElem?_getD, List.getElem?_map, List.getElem?_range hi]
    exact fa i hi
theorem own_ga {a : Addr} {k : ClassId} {ty : FieldType} {N : Nat} {f : Nat → Value} {dv : Value} {z : Int32} (hz : z.toInt = N) {vs : List Value} (F : Arv Z h a k ty z vs dv) (hv : ∀ i, i < N → vs.getD i dv = f i) : GA Z h a ty N f := by
  obtain ⟨cl, A1, -, A2, A3, A4, -⟩ := F
  have hz2 := own_clamp hz
  have := (rng32 z).2
  exact ⟨cl, A1, by rw [A2, hz2], by omega, fun i hi => by rw [A4 i (by rw [A2, hz2]; exact hi), hv i hi]⟩
theorem go_acpy (X : Stand p l e R s m args below meth c T locs cells slots) (hx : p.tables.exec = Jvm.exec) (hZ : Z.Warmed39 s.vm) (hml : c.maxLocals = maxL0) {own : String} {index : Nat} (hown : s.vm.findClass own = some m.cls)
    (w1 : (Cond.methodLink own index Jvm.Stand.acN).before a0 Z = true) (w2 : (Cond.native Jvm.Stand.acN).before a0 Z = true) (w3 : (Cond.static Jvm.Stand.acN).before a0 Z = true) (w4 : (Cond.initialized "java/lang/System").before a0 Z = true) (eT : T.heap = h)
    {a b : Addr} {ty : FieldType} (hty : refKind ty = false) {N : Nat} {f f' : Nat → Value} (A : GA Z h a ty N f) (B : GA Z h b ty N f') (fa : ∀ i, i < N → fits ty (f i) = true) (fb : ∀ i, i < N → fits ty (f' i) = true) {nn : Int32} (hnn : nn.toInt = N) {n0 : Nat} (N0 : Fr n0 locs) (ge : n0 ≤ b) {rest : List Value}
    (hd : decode c.code g.pc = .ok (.invokestatic index, 3)) (hg : g.method = m) (hsz : g.locals.size = maxL0) (hs : g.stack = .int nn :: .int 0 :: .ref b :: .int 0 :: .ref a :: rest)
    (hf : 1 ≤ R.frames) {W : Nat} (hW : 2 * g.monitorRoom + (rest.map fun v => v.category).sum ≤ W) (hlo : W + (nativeFrameWords "java/lang/System" "arraycopy" 5 + 11) ≤ R.locals)
    (k : ∀ T' h' L, Stand p l e R s m args below meth c T' L cells slots → T'.heap = h' → Fr n0 L → Keep h h' [b] → GA Z h' b ty N f → Go p e below s Q C S T' { g with pc := g.pc + 3, stack := rest }) : Go p e below s Q C S T g := by
  obtain ⟨k1, A1⟩ := own_arv (dv := .null) A fa hnn
  obtain ⟨k2, B1⟩ := own_arv (dv := .null) B fb hnn
  have hz2 := own_clamp hnn
  have h0 : (0 : Int32).toNatClampNeg = 0 := rfl
  obtain ⟨T1, h1, L1, X1, e1, N1, K1, G1, st⟩ := cpA X hx hZ hown w1 w2 w3 w4 eT A1 B1 (us := (List.range N).map f) (Or.inl ⟨rfl, hty⟩) (sp := 0) (dp := 0) (nn := nn) (by decide) (by decide) (own_nneg hnn) (by rw [h0, hz2]; omega) (by rw [h0, hz2]; omega)
    (by
      rw [h0, hz2]
      apply List.map_congr_left
      intro i hi
      have hi' := List.mem_range.mp hi
      rw [Nat.zero_add, List.getD_eq_getElem?_getD, List.getElem?_map, List.getElem?_range hi']
      rfl) (by rw [h0, hz2]; simp) N0 ge hg (hsz.trans hml.symm) hs hd hf hW hlo
  refine go_st st (k _ _ _ X1 e1 N1 K1 (own_ga hnn G1 fun i hi => ?_))
  rw [h0, hz2, List.take_zero, List.nil_append, Nat.zero_add, List.drop_eq_nil_of_le (by simp), List.append_nil, List.getD_eq_getElem?_getD, List.getElem?_map, List.getElem?_range hi]
  rfl
theorem go_grid (X : Stand p l e R s m args below meth c T locs cells slots) (hx : p.tables.exec = Jvm.exec) (hZ : Z.Warmed39 s.vm) {own : String} {index : Nat} (hown : s.vm.findClass own = some m.cls) (w1 : (Cond.classLink own index "[[B").before a0 Z = true) (w2 : (Cond.arrayOver (.array .byte)).before a0 Z = true) (w3 : (Cond.arrayClass .byte).before a0 Z = true) (eT : T.heap = h)
    {n kk : Int32} {rest : List Value} (hd : decode c.code g.pc = .ok (.multianewarray index 2, 4)) (hg : g.method = m) (hs : g.stack = .int kk :: .int n :: rest) (N M : Nat) (hn : n.toInt = N) (hk : kk.toInt = M) (hN : N ≤ 1000) (hM : M ≤ 1000) (cc cs : Nat) (hcc : 1 + N ≤ cc) (hcs : N + N * M ≤ cs) (hc : cells + cc ≤ R.cells) (hl : slots + cs ≤ R.slots)
    (k : ∀ T' h' a (rows : Nat → Addr), a = h.size → (∀ i, rows i = h.size + 1 + i) → Stand p l e R s m args below meth c T' locs (cells + cc) (slots + cs) → T'.heap = h' → Ext h h' → GA Z h' a (.array .byte) N (fun i => .ref (rows i)) → (∀ i, i < N → GA Z h' (rows i) .byte M (fun _ => .int 0)) → Go p e below s Q C S T' { g with pc := g.pc + 4, stack := .ref a :: rest }) : Go p e below s Q C S T g := by
  have hN2 := own_clamp hn
  have hM2 := own_clamp hk
  obtain ⟨T1, h1, cA, comp, X1, e1, E1, V1, -, -, I1, st⟩ := gridM X hx hZ (ty := .byte) hown (C := "[B") (ad := "[[B") (by decide) (by decide) w1 w2 w3 eT hg hd hs (own_nneg hn) (own_nneg hk) (xs := (List.range N).map fun j => h.size + 1 + j) hN2 rfl (cap := M) (by omega) (by omega) (by omega) (by decide) (by decide) (by omega) (by omega)
  refine go_st st (k _ _ _ (fun i => h.size + 1 + i) rfl (fun _ => rfl) (X1.mono (by omega) (by omega)) e1 E1 (own_ga hn V1 fun i hi => ?_) fun i hi => ?_)
  · rw [List.getD_eq_getElem?_getD, List.getElem?_map, List.getElem?_map, List.getElem?_range hi]
    rfl
  · have q := (I1 i (h.size + 1 + i) (by rw [List.getElem?_map, List.getElem?_range hi]; rfl)).1
    have := (rng32 kk).2
    refine ⟨_, q, (sz_new _ _ _).trans hM2, by omega, fun j hj => ?_⟩
    show (Array.replicate kk.toNatClampNeg (defaultValue _))[j]? = _
    rw [hM2, Array.getElem?_replicate, if_pos hj]
    rfl
end OwnMore

section OwnPriv
variable {p : Program} {l : Launch} {e : Env} {R : Room} {s : State} {m : MethodId} {args : Array Value} {below : List Frame} {meth : Method} {c : Code} {T T' : State} {locs : List Loc} {cells slots : Nat} {Z : State} {a0 : Array Value} {h : Heap} {Q : Option Value → Heap → List Loc → Prop} {C S maxL0 : Nat} {g g' : JFrame}
theorem go_callP (X : Stand p l e R s m args below meth c T locs cells slots) (hx : p.tables.exec = Jvm.exec) (hZ : Z.Warmed39 s.vm) (hml : c.maxLocals = maxL0) {own K : String} {index nk : Nat} {y : MethodName} {bytes : ByteArray} {maxL : Nat} {ret : Option FieldType} (hown : s.vm.findClass own = some m.cls)
    (w1 : (Cond.methodLink own index y).before a0 Z = true) (w2 : (Cond.privateMethod y).before a0 Z = true) (w3 : (Cond.instantiable y.cls nk).before a0 Z = true) (w3' : (Cond.instanceMethod y).before a0 Z = true) (w4 : (Cond.code y bytes maxL ret).before a0 Z = true) (w5 : (Cond.initialized y.cls).before a0 Z = true) (eT : T.heap = h) {a : Addr} (E : Exa Z h a K) {argsL rest : List Value} {rm : Room} {Q' : Option Value → Heap → List Loc → Prop} {W : Nat}
    (hM : Met l y bytes maxL ret [] rm Z (.ref a :: argsL).toArray h Q' rm.cells rm.slots)
    (hd : decode c.code g.pc = .ok (.invokevirtual index, 3)) (hs : g.stack = argsL.reverse ++ .ref a :: rest) (hg : g.method = m) (hsz : g.locals.size = maxL0) (hlen : ∀ sig, parseMethodDescriptor y.desc = some sig → argsL.length = sig.parameters.length) (hW : 2 * g.monitorRoom + (rest.map fun v => v.category).sum ≤ W)
    (hy : y.cls ≠ "java/lang/invoke/MethodHandle" ∧ y.cls ≠ "java/lang/invoke/VarHandle") (hf : rm.frames + 1 ≤ R.frames) (hl : W + (maxL + 11) + rm.locals ≤ R.locals) (hc : cells + rm.cells ≤ R.cells) (hsl : slots + rm.slots ≤ R.slots)
    (k : ∀ T' v L, Stand p l e R s m args below meth c T' (locs ++ L) (cells + rm.cells) (slots + rm.slots) → Q' v T'.heap L → Go p e below s Q C S T' { g with pc := g.pc + 3, stack := v.toList ++ rest }) : Go p e below s Q C S T g := by
  obtain ⟨cB, kB, q1, q2, cell, q3, q4, q5⟩ := isOf hZ eT E
  have w3s := mvT (args := args) hZ w3
  obtain ⟨ck, kk, i1, i2, i3, i4, -⟩ := Cond.instantiable_spec w3s
  have hp := Cond.privateMethod_at (mvT (args := args) hZ w2)
  have hsel := selects_self_of_private (args := args) i1 i2 (by cases hq : kk.isInterface <;> simp_all) hp (mvT hZ w3') hy
  obtain ⟨v, _, ⟨T1, L1, k1, n1⟩, -, X1, ⟨Lc, hQ, l1, y1, z1⟩, st⟩ := X.privateBack hx (y := y) hown (mvT hZ w1) (mvT hZ w3') hsel hp (mvT hZ w4) hy (backOf (W := W) hM hZ w4 w5 hf hl) (g := g) hg (hsz.trans hml.symm) (Steps.refl _) q3 (fun qq hqq => by rw [hqq] at q5; exact Bool.noConfusion (show true = false from q5)) (argsL := argsL) (rest := rest) hlen hs hW hd (fun _ _ => ⟨rfl, eT, hc, hsl⟩)
  dsimp only [Pt.U, Pt.locs, Pt.cells, Pt.slots] at X1 l1 y1 z1 st hQ
  subst l1 y1 z1
  exact go_tr st (k _ _ _ X1 hQ)
end OwnPriv
section OwnZero
variable {p : Program} {l : Launch} {e : Env} {R : Room} {s : State} {m : MethodId} {args : Array Value} {below : List Frame} {meth : Method} {c : Code} {T T' : State} {locs : List Loc} {cells slots : Nat} {Z : State} {a0 : Array Value} {h : Heap} {Q : Option Value → Heap → List Loc → Prop} {C S maxL0 : Nat} {g g' : JFrame}
theorem go_acp0 (X : Stand p l e R s m args below meth c T locs cells slots) (hx : p.tables.exec = Jvm.exec) (hZ : Z.Warmed39 s.vm) (hml : c.maxLocals = maxL0) {own : String} {index : Nat} (hown : s.vm.findClass own = some m.cls)
    (w1 : (Cond.methodLink own index Jvm.Stand.acN).before a0 Z = true) (w2 : (Cond.native Jvm.Stand.acN).before a0 Z = true) (w3 : (Cond.static Jvm.Stand.acN).before a0 Z = true) (w4 : (Cond.initialized "java/lang/System").before a0 Z = true) (eT : T.heap = h)
    {a b : Addr} {ty : FieldType} (hty : refKind ty = false) {M N : Nat} {f f' : Nat → Value} (A : GA Z h a ty M f) (B : GA Z h b ty N f') (fa : ∀ i, i < M → fits ty (f i) = true) (fb : ∀ i, i < N → fits ty (f' i) = true) {zm zn : Int32} (hm : zm.toInt = M) (hn : zn.toInt = N) {n0 : Nat} (N0 : Fr n0 locs) (ge : n0 ≤ b) {rest : List Value}
    (hd : decode c.code g.pc = .ok (.invokestatic index, 3)) (hg : g.method = m) (hsz : g.locals.size = maxL0) (hs : g.stack = .int 0 :: .int 0 :: .ref b :: .int 0 :: .ref a :: rest)
    (hf : 1 ≤ R.frames) {W : Nat} (hW : 2 * g.monitorRoom + (rest.map fun v => v.category).sum ≤ W) (hlo : W + (nativeFrameWords "java/lang/System" "arraycopy" 5 + 11) ≤ R.locals)
    (k : ∀ T' h' L, Stand p l e R s m args below meth c T' L cells slots → T'.heap = h' → Fr n0 L → Keep h h' [b] → GA Z h' b ty N f' → Go p e below s Q C S T' { g with pc := g.pc + 3, stack := rest }) : Go p e below s Q C S T g := by
  obtain ⟨k1, A1⟩ := own_arv (dv := .null) A fa hm
  obtain ⟨k2, B1⟩ := own_arv (dv := .null) B fb hn
  have h0 : (0 : Int32).toNatClampNeg = 0 := rfl
  obtain ⟨T1, h1, L1, X1, e1, N1, K1, G1, st⟩ := cpA X hx hZ hown w1 w2 w3 w4 eT A1 B1 (us := []) (Or.inl ⟨rfl, hty⟩) (sp := 0) (dp := 0) (nn := 0) (by decide) (by decide) (by decide) (by rw [h0]; omega) (by rw [h0]; omega)
    (by rw [h0]; rfl) (by rw [h0]; simp) N0 ge hg (hsz.trans hml.symm) hs hd hf hW hlo
  refine go_st st (k _ _ _ X1 e1 N1 K1 (own_ga hn G1 fun i hi => ?_))
  rw [h0, List.take_zero, List.nil_append, List.nil_append, Nat.zero_add, List.drop_zero, List.getD_eq_getElem?_getD, List.getElem?_map, List.getElem?_range hi]
  rfl
theorem own_ga0 {s : State} {args : Array Value} {t : Term} {a : Addr} {ty : FieldType} {f : Nat → Value} (ev : t.eval args s none [] s = some (.ref a)) (hx : (Cond.arrayOf t ty).value args s none s [] = some true) (hl : (Cond.eq (.length t) (.int 0)).value args s none s [] = some true) : GA s s.heap a ty 0 f := by
  obtain ⟨cl, A⟩ := Arr.start ev hx
  obtain ⟨u, v, h1, h2, h3, h4⟩ := cmp_v (Or.inl hl)
  have hat := IntBox.arrayAt_of A.1 A.2.1 A.2.2
  by_cases hs : cl.slots.size < 2 ^ 31
  · have h5 := len_f ev hat hs
    have h6 := gotT (Cond.eq_ints h5 (Term.int_eval 0)) hl
    have h7 := congrArg Int32.toInt h6
    rw [len_toInt hs] at h7
    have e0 : (0 : Int32).toInt = 0 := rfl
    exact ⟨cl, A, by omega, by omega, fun i hi => absurd hi (Nat.not_lt_zero _)⟩
  · simp [Term.eval, ev, hat, hs] at h1
end OwnZero

def upd (f : Nat → Int64) (n : Nat) (w : Int64) : Nat → Int64 := fun i => if i = n then w else f i
def own_z : Nat → Int64 := fun _ => 0
theorem own_us {f : Nat → Int64} {n : Nat} {w : Int64} : upd f n w n = w := by simp [upd]
theorem own_un {f : Nat → Int64} {n j : Nat} {w : Int64} (h : j ≠ n) : upd f n w j = f j := by simp [upd, h]
theorem own_gl {Z : State} {h : Heap} {a : Addr} {N k n : Nat} {v : Int64} {f : Nat → Int64} (hk : k = n) (G : GA Z h a .long N (fun i => if i = k then .long v else (fun i => .long (f i)) i)) : GA Z h a .long N (fun i => .long (upd f n v i)) := by
  subst hk
  refine G.congr fun i _ => ?_
  unfold upd
  by_cases q : i = k <;> simp [q]
theorem own_n3 {n : Nat} (h : n < 100) : (Int32.ofNat n).toInt = n := Int32.toInt_ofNat_of_lt (by omega)
theorem own_cx3 (h k : Nat) : (Int32.ofNat ((h + k) % 3)).toNatClampNeg = (h + k) % 3 := own_clamp (own_n3 (by omega))
theorem own_ix3 (h k : Nat) : 0 ≤ (Int32.ofNat ((h + k) % 3)).toInt ∧ (Int32.ofNat ((h + k) % 3)).toInt < (3 : Nat) := by
  rw [own_n3 (by omega)]
  omega
theorem own_kx {h h' : Heap} (K : Keep h h' []) : Ext h h' := ⟨K.1, fun x c q => K.2.1 x c q (by simp)⟩
theorem own_le1 {j : Nat} (h : j ≤ 1) : j = 0 ∨ j = 1 := by omega
theorem own_le2 {j : Nat} (h : j ≤ 2) : j = 0 ∨ j = 1 ∨ j = 2 := by omega
def R32 (x : Int64) : Prop := -2147483648 ≤ x.toInt ∧ x.toInt < 2147483648
def RW (x : Int64) : Prop := 1 ≤ x.toInt ∧ x.toInt ≤ 2147483648
theorem own_r32 (x : Int32) : R32 x.toInt64 := by
  have h1 : x.toInt64.toInt = x.toInt := Int32.toInt_toInt64 x
  have h2 := rng32 x
  constructor <;> omega

theorem d7_0 : decode jdk_29_method_69_code 0 = .ok (.iload_n 0, 1) := by decide +kernel
theorem d7_1 : decode jdk_29_method_69_code 1 = .ok (.iload_n 1, 1) := by decide +kernel
theorem d7_2 : decode jdk_29_method_69_code 2 = .ok (.if_icmp .gt 7, 3) := by decide +kernel
theorem d7_5 : decode jdk_29_method_69_code 5 = .ok (.iload_n 0, 1) := by decide +kernel
theorem d7_6 : decode jdk_29_method_69_code 6 = .ok (.goto 4, 3) := by decide +kernel
theorem d7_9 : decode jdk_29_method_69_code 9 = .ok (.iload_n 1, 1) := by decide +kernel
theorem d7_10 : decode jdk_29_method_69_code 10 = .ok (.ireturn, 1) := by decide +kernel
theorem pn0 : plainFor (⟨"java/lang/Math", "min", "(II)I"⟩ : MethodName) = true := by first | (refine plainFor_of_name ?_; simp [plainName, overriddenIn]; done) | (refine plainFor_of_name ?_; decide +kernel) | decide +kernel
def fMinI (x0 : Int32) (x1 : Int32) : Int32 := (if x1 < x0 then x1 else x0)
theorem ef_7 (m : MethodId) (x0 : Int32) (x1 : Int32) : entryFrame m #[(.int x0), (.int x1)] 2 = mkF m 0 #[.val (.int x0), .val (.int x1)] [] := by first | (simp [entryFrame, mkF, argsToLocals, Value.category]; done) | rfl
abbrev rm_7 : Room := ({ frames := 0, cells := 0, slots := 0, locals := 0 } : Room)
set_option maxRecDepth 65536 in
set_option maxHeartbeats 4000000 in
theorem met_7 (l : Launch) (Z : State) (a0 : Array Value) (hw : ∀ d ∈ tables_1, d.before a0 Z = true) (x0 : Int32) (x1 : Int32) (h0 : Heap) (n0 : Nat) :
    Met l (⟨"java/lang/Math", "min", "(II)I"⟩ : MethodName) jdk_29_method_69_code 2 (some FieldType.int) [] rm_7 Z #[(.int x0), (.int x1)] h0 (QV (some (.int (fMinI x0 x1))) h0 n0) 0 0 := by
  refine own_body pn0 ?_
  intro p e s m below meth c s₁ ct X0 e0
  have ct0 := ct
  obtain ⟨hx, hZ, hown, hby, hml, hret, hlk, hnm⟩ := ct
  have N0 := Fr.nil n0
  refine castGo (ef_7 m x0 x1) ?_
  unfold fMinI
  show Go p e below s _ _ _ s₁ (mkF m 0 #[.val (.int x0), .val (.int x1)] [])
  refine go_st (fun _ kq => XS.iloadN X0.here hx rfl (hb hby d7_0) rfl kq) ?_
  show Go p e below s _ _ _ s₁ (mkF m 1 #[.val (.int x0), .val (.int x1)] [(.int x0)])
  refine go_st (fun _ kq => XS.iloadN X0.here hx rfl (hb hby d7_1) rfl kq) ?_
  show Go p e below s _ _ _ s₁ (mkF m 2 #[.val (.int x0), .val (.int x1)] [(.int x1), (.int x0)])
  by_cases hc1 : x1 < x0
  · rw [if_pos hc1]
    refine go_st (fun _ kq => XS.icmpYes X0.here hx rfl (pc0 := 2) (pc' := 9) rfl (hb hby d7_2) rfl (XT.ii_gt_t hc1) (by decide) (by decide) kq) ?_
    show Go p e below s _ _ _ s₁ (mkF m 9 #[.val (.int x0), .val (.int x1)] [])
    refine go_st (fun _ kq => XS.iloadN X0.here hx rfl (hb hby d7_9) rfl kq) ?_
    show Go p e below s _ _ _ s₁ (mkF m 10 #[.val (.int x0), .val (.int x1)] [(.int x1)])
    exact go_retI X0 hx hlk hret (hb hby d7_10) (by decide) (by decide) ⟨rfl, N0, e0⟩
  · rw [if_neg hc1]
    refine go_st (fun _ kq => XS.icmpNo X0.here hx rfl (hb hby d7_2) rfl (XT.ii_gt_f hc1) kq) ?_
    show Go p e below s _ _ _ s₁ (mkF m 5 #[.val (.int x0), .val (.int x1)] [])
    refine go_st (fun _ kq => XS.iloadN X0.here hx rfl (hb hby d7_5) rfl kq) ?_
    show Go p e below s _ _ _ s₁ (mkF m 6 #[.val (.int x0), .val (.int x1)] [(.int x0)])
    refine go_st (fun _ kq => XS.goto X0.here hx rfl (pc0 := 6) (pc' := 10) rfl (hb hby d7_6) (by decide) (by decide) kq) ?_
    show Go p e below s _ _ _ s₁ (mkF m 10 #[.val (.int x0), .val (.int x1)] [(.int x0)])
    exact go_retI X0 hx hlk hret (hb hby d7_10) (by decide) (by decide) ⟨rfl, N0, e0⟩
theorem d10_0 : decode jdk_29_method_66_code 0 = .ok (.lload_n 0, 1) := by decide +kernel
theorem d10_1 : decode jdk_29_method_66_code 1 = .ok (.lload_n 2, 1) := by decide +kernel
theorem d10_2 : decode jdk_29_method_66_code 2 = .ok (.lcmp, 1) := by decide +kernel
theorem d10_3 : decode jdk_29_method_66_code 3 = .ok (.ifCond .lt 7, 3) := by decide +kernel
theorem d10_6 : decode jdk_29_method_66_code 6 = .ok (.lload_n 0, 1) := by decide +kernel
theorem d10_7 : decode jdk_29_method_66_code 7 = .ok (.goto 4, 3) := by decide +kernel
theorem d10_10 : decode jdk_29_method_66_code 10 = .ok (.lload_n 2, 1) := by decide +kernel
theorem d10_11 : decode jdk_29_method_66_code 11 = .ok (.lreturn, 1) := by decide +kernel
theorem pn1 : plainFor (⟨"java/lang/Math", "max", "(JJ)J"⟩ : MethodName) = true := by first | (refine plainFor_of_name ?_; simp [plainName, overriddenIn]; done) | (refine plainFor_of_name ?_; decide +kernel) | decide +kernel
def fMaxJ (x0 : Int64) (x1 : Int64) : Int64 := (if x0 < x1 then x1 else x0)
theorem ef_10 (m : MethodId) (x0 : Int64) (x1 : Int64) : entryFrame m #[(.long x0), (.long x1)] 4 = mkF m 0 #[.val (.long x0), .second, .val (.long x1), .second] [] := by first | (simp [entryFrame, mkF, argsToLocals, Value.category]; done) | rfl
abbrev rm_10 : Room := ({ frames := 0, cells := 0, slots := 0, locals := 0 } : Room)
set_option maxRecDepth 65536 in
set_option maxHeartbeats 4000000 in
theorem met_10 (l : Launch) (Z : State) (a0 : Array Value) (hw : ∀ d ∈ tables_1, d.before a0 Z = true) (x0 : Int64) (x1 : Int64) (h0 : Heap) (n0 : Nat) :
    Met l (⟨"java/lang/Math", "max", "(JJ)J"⟩ : MethodName) jdk_29_method_66_code 4 (some FieldType.long) [] rm_10 Z #[(.long x0), (.long x1)] h0 (QV (some (.long (fMaxJ x0 x1))) h0 n0) 0 0 := by
  refine own_body pn1 ?_
  intro p e s m below meth c s₁ ct X0 e0
  have ct0 := ct
  obtain ⟨hx, hZ, hown, hby, hml, hret, hlk, hnm⟩ := ct
  have N0 := Fr.nil n0
  refine castGo (ef_10 m x0 x1) ?_
  unfold fMaxJ
  show Go p e below s _ _ _ s₁ (mkF m 0 #[.val (.long x0), .second, .val (.long x1), .second] [])
  refine go_st (fun _ kq => XT.lloadN X0.here hx rfl (hb hby d10_0) rfl kq) ?_
  show Go p e below s _ _ _ s₁ (mkF m 1 #[.val (.long x0), .second, .val (.long x1), .second] [(.long x0)])
  refine go_st (fun _ kq => XT.lloadN X0.here hx rfl (hb hby d10_1) rfl kq) ?_
  show Go p e below s _ _ _ s₁ (mkF m 2 #[.val (.long x0), .second, .val (.long x1), .second] [(.long x1), (.long x0)])
  refine go_st (fun _ kq => XT.lcmp X0.here hx rfl (hb hby d10_2) rfl kq) ?_
  show Go p e below s _ _ _ s₁ (mkF m 3 #[.val (.long x0), .second, .val (.long x1), .second] [(.int (XT.cmpL x0 x1))])
  by_cases hc2 : x0 < x1
  · rw [if_pos hc2]
    refine go_st (fun _ kq => XS.ifYes X0.here hx rfl (pc0 := 3) (pc' := 10) rfl (hb hby d10_3) rfl (XT.ll_lt_t hc2) (by decide) (by decide) kq) ?_
    show Go p e below s _ _ _ s₁ (mkF m 10 #[.val (.long x0), .second, .val (.long x1), .second] [])
    refine go_st (fun _ kq => XT.lloadN X0.here hx rfl (hb hby d10_10) rfl kq) ?_
    show Go p e below s _ _ _ s₁ (mkF m 11 #[.val (.long x0), .second, .val (.long x1), .second] [(.long x1)])
    exact go_retL X0 hx hlk hret (hb hby d10_11) (by decide) (by decide) ⟨rfl, N0, e0⟩
  · rw [if_neg hc2]
    refine go_st (fun _ kq => XS.ifNo X0.here hx rfl (hb hby d10_3) rfl (XT.ll_lt_f hc2) kq) ?_
    show Go p e below s _ _ _ s₁ (mkF m 6 #[.val (.long x0), .second, .val (.long x1), .second] [])
    refine go_st (fun _ kq => XT.lloadN X0.here hx rfl (hb hby d10_6) rfl kq) ?_
    show Go p e below s _ _ _ s₁ (mkF m 7 #[.val (.long x0), .second, .val (.long x1), .second] [(.long x0)])
    refine go_st (fun _ kq => XS.goto X0.here hx rfl (pc0 := 7) (pc' := 11) rfl (hb hby d10_7) (by decide) (by decide) kq) ?_
    show Go p e below s _ _ _ s₁ (mkF m 11 #[.val (.long x0), .second, .val (.long x1), .second] [(.long x0)])
    exact go_retL X0 hx hlk hret (hb hby d10_11) (by decide) (by decide) ⟨rfl, N0, e0⟩
theorem d11_0 : decode jdk_29_method_70_code 0 = .ok (.lload_n 0, 1) := by decide +kernel
theorem d11_1 : decode jdk_29_method_70_code 1 = .ok (.lload_n 2, 1) := by decide +kernel
theorem d11_2 : decode jdk_29_method_70_code 2 = .ok (.lcmp, 1) := by decide +kernel
theorem d11_3 : decode jdk_29_method_70_code 3 = .ok (.ifCond .gt 7, 3) := by decide +kernel
theorem d11_6 : decode jdk_29_method_70_code 6 = .ok (.lload_n 0, 1) := by decide +kernel
theorem d11_7 : decode jdk_29_method_70_code 7 = .ok (.goto 4, 3) := by decide +kernel
theorem d11_10 : decode jdk_29_method_70_code 10 = .ok (.lload_n 2, 1) := by decide +kernel
theorem d11_11 : decode jdk_29_method_70_code 11 = .ok (.lreturn, 1) := by decide +kernel
theorem pn2 : plainFor (⟨"java/lang/Math", "min", "(JJ)J"⟩ : MethodName) = true := by first | (refine plainFor_of_name ?_; simp [plainName, overriddenIn]; done) | (refine plainFor_of_name ?_; decide +kernel) | decide +kernel
def fMinJ (x0 : Int64) (x1 : Int64) : Int64 := (if x1 < x0 then x1 else x0)
theorem ef_11 (m : MethodId) (x0 : Int64) (x1 : Int64) : entryFrame m #[(.long x0), (.long x1)] 4 = mkF m 0 #[.val (.long x0), .second, .val (.long x1), .second] [] := by first | (simp [entryFrame, mkF, argsToLocals, Value.category]; done) | rfl
abbrev rm_11 : Room := ({ frames := 0, cells := 0, slots := 0, locals := 0 } : Room)
set_option maxRecDepth 65536 in
set_option maxHeartbeats 4000000 in
theorem met_11 (l : Launch) (Z : State) (a0 : Array Value) (hw : ∀ d ∈ tables_1, d.before a0 Z = true) (x0 : Int64) (x1 : Int64) (h0 : Heap) (n0 : Nat) :
    Met l (⟨"java/lang/Math", "min", "(JJ)J"⟩ : MethodName) jdk_29_method_70_code 4 (some FieldType.long) [] rm_11 Z #[(.long x0), (.long x1)] h0 (QV (some (.long (fMinJ x0 x1))) h0 n0) 0 0 := by
  refine own_body pn2 ?_
  intro p e s m below meth c s₁ ct X0 e0
  have ct0 := ct
  obtain ⟨hx, hZ, hown, hby, hml, hret, hlk, hnm⟩ := ct
  have N0 := Fr.nil n0
  refine castGo (ef_11 m x0 x1) ?_
  unfold fMinJ
  show Go p e below s _ _ _ s₁ (mkF m 0 #[.val (.long x0), .second, .val (.long x1), .second] [])
  refine go_st (fun _ kq => XT.lloadN X0.here hx rfl (hb hby d11_0) rfl kq) ?_
  show Go p e below s _ _ _ s₁ (mkF m 1 #[.val (.long x0), .second, .val (.long x1), .second] [(.long x0)])
  refine go_st (fun _ kq => XT.lloadN X0.here hx rfl (hb hby d11_1) rfl kq) ?_
  show Go p e below s _ _ _ s₁ (mkF m 2 #[.val (.long x0), .second, .val (.long x1), .second] [(.long x1), (.long x0)])
  refine go_st (fun _ kq => XT.lcmp X0.here hx rfl (hb hby d11_2) rfl kq) ?_
  show Go p e below s _ _ _ s₁ (mkF m 3 #[.val (.long x0), .second, .val (.long x1), .second] [(.int (XT.cmpL x0 x1))])
  by_cases hc3 : x1 < x0
  · rw [if_pos hc3]
    refine go_st (fun _ kq => XS.ifYes X0.here hx rfl (pc0 := 3) (pc' := 10) rfl (hb hby d11_3) rfl (XT.ll_gt_t hc3) (by decide) (by decide) kq) ?_
    show Go p e below s _ _ _ s₁ (mkF m 10 #[.val (.long x0), .second, .val (.long x1), .second] [])
    refine go_st (fun _ kq => XT.lloadN X0.here hx rfl (hb hby d11_10) rfl kq) ?_
    show Go p e below s _ _ _ s₁ (mkF m 11 #[.val (.long x0), .second, .val (.long x1), .second] [(.long x1)])
    exact go_retL X0 hx hlk hret (hb hby d11_11) (by decide) (by decide) ⟨rfl, N0, e0⟩
  · rw [if_neg hc3]
    refine go_st (fun _ kq => XS.ifNo X0.here hx rfl (hb hby d11_3) rfl (XT.ll_gt_f hc3) kq) ?_
    show Go p e below s _ _ _ s₁ (mkF m 6 #[.val (.long x0), .second, .val (.long x1), .second] [])
    refine go_st (fun _ kq => XT.lloadN X0.here hx rfl (hb hby d11_6) rfl kq) ?_
    show Go p e below s _ _ _ s₁ (mkF m 7 #[.val (.long x0), .second, .val (.long x1), .second] [(.long x0)])
    refine go_st (fun _ kq => XS.goto X0.here hx rfl (pc0 := 7) (pc' := 11) rfl (hb hby d11_7) (by decide) (by decide) kq) ?_
    show Go p e below s _ _ _ s₁ (mkF m 11 #[.val (.long x0), .second, .val (.long x1), .second] [(.long x0)])
    exact go_retL X0 hx hlk hret (hb hby d11_11) (by decide) (by decide) ⟨rfl, N0, e0⟩
theorem own_mx (a b : Int64) : fMaxJ a b = if a < b then b else a := rfl
theorem own_maxmin {b : Int64} : fMaxJ (-9223372036854775808 : Int64) b = b := by
  rw [own_mx]
  split
  · rfl
  · rename_i h
    have h1 := rng64 b
    rw [Int64.lt_iff_toInt_lt] at h
    have e : (-9223372036854775808 : Int64).toInt = -9223372036854775808 := rfl
    rw [← Int64.toInt_inj]
    omega
theorem own_mxA {g x : Int64} (h : ¬ x < g) : x = fMaxJ g x := by
  rw [own_mx]
  split
  · rfl
  · rename_i h2
    rw [Int64.lt_iff_toInt_lt] at h h2
    rw [← Int64.toInt_inj]
    omega
theorem own_mxB {g x : Int64} (h : x < g) : g = fMaxJ g x := by
  rw [own_mx]
  split
  · rename_i h2
    rw [Int64.lt_iff_toInt_lt] at h h2
    omega
  · rfl
theorem own_subi {x w : Int64} (hx : R32 x) (hw : RW w) : (x - w).toInt = x.toInt - w.toInt := by
  obtain ⟨h1, h2⟩ := hx
  obtain ⟨h3, h4⟩ := hw
  rw [Int64.toInt_sub]
  exact Int.bmod_eq_of_le (by omega) (by omega)
theorem own_addi {x w : Int64} (hx : R32 x) (hw : RW w) : (x + w).toInt = x.toInt + w.toInt := by
  obtain ⟨h1, h2⟩ := hx
  obtain ⟨h3, h4⟩ := hw
  rw [Int64.toInt_add]
  exact Int.bmod_eq_of_le (by omega) (by omega)
theorem own_mxT {x w N : Int64} (h : ¬ (x - w < N)) (hx : R32 x) (hN : R32 N) (hw : RW w) : x = fMaxJ N x := by
  apply own_mxA
  rw [Int64.lt_iff_toInt_lt, own_subi hx hw] at h
  rw [Int64.lt_iff_toInt_lt]
  have := hw.1
  omega
theorem own_r32m {a b : Int64} (ha : R32 a) (hb : R32 b) : R32 (fMaxJ a b) := by
  rw [own_mx]
  split <;> assumption
theorem own_ge {N x : Int64} : x.toInt ≤ (fMaxJ N x).toInt := by
  rw [own_mx]
  split
  · omega
  · rename_i h
    rw [Int64.lt_iff_toInt_lt] at h
    omega
theorem own_rst {g x w : Int64} (hg : R32 g) (hx : R32 x) (hw : RW w) (hl : x.toInt ≤ g.toInt) : ¬ (g + w - x < (1 : Int64)) := by
  have h1 := own_addi hg hw
  obtain ⟨a1, a2⟩ := hg
  obtain ⟨b1, b2⟩ := hx
  obtain ⟨c1, c2⟩ := hw
  have h2 : (g + w - x).toInt = (g + w).toInt - x.toInt := by
    rw [Int64.toInt_sub]
    exact Int.bmod_eq_of_le (by omega) (by omega)
  rw [Int64.lt_iff_toInt_lt]
  have e : (1 : Int64).toInt = 1 := rfl
  omega
theorem own_reset {g N x w : Int64} (e : g = fMaxJ N x) (hN : R32 N) (hx : R32 x) (hw : RW w) : ¬ (g + w - x < (1 : Int64)) := by
  subst e
  exact own_rst (own_r32m hN hx) hx hw own_ge
theorem own_reset0 {g x w : Int64} (e : g = x) (hx : R32 x) (hw : RW w) : ¬ (g + w - x < (1 : Int64)) := by
  subst e
  exact own_rst hx hx hw (Int.le_refl _)
theorem own_cmp {x y N : Int64} (hN : R32 N) (hx : R32 x) (hy : RW y) : x - y < N ↔ x < N + y := by
  rw [Int64.lt_iff_toInt_lt, Int64.lt_iff_toInt_lt, own_subi hx hy, own_addi hN hy]
  omega
theorem own_rw (x : Int64) : RW ((x &&& (2147483647 : Int64)) + (1 : Int64)) := by
  have h1 := c_maskL x 2147483647 31 (by decide) (by decide)
  have h2 : ((x &&& (2147483647 : Int64)) + (1 : Int64)).toInt = (x &&& (2147483647 : Int64)).toInt + 1 := by
    rw [Int64.toInt_add]
    exact Int.bmod_eq_of_le (by have : (1 : Int64).toInt = 1 := rfl; omega) (by have : (1 : Int64).toInt = 1 := rfl; omega)
  constructor <;> omega
theorem own_mono {x a b : Int32} (h : x < a) (h2 : a.toInt ≤ b.toInt) : x < b := by
  rw [Int32.lt_iff_toInt_lt] at *
  omega
theorem own_nz0 {x : Int32} (h : (x &&& (3 : Int32)) < (1 : Int32)) : (x &&& (3 : Int32)) = (0 : Int32) := by
  have h1 := c_mask x 3 2 (by decide) (by decide)
  rw [Int32.lt_iff_toInt_lt] at h
  have e : (1 : Int32).toInt = 1 := rfl
  have e0 : (0 : Int32).toInt = 0 := rfl
  rw [← Int32.toInt_inj]
  omega
theorem own_nz1 {x : Int32} (h : ¬ (x &&& (3 : Int32)) < (1 : Int32)) : ¬ (x &&& (3 : Int32)) = (0 : Int32) := by
  intro q
  rw [q] at h
  exact h (by decide)

theorem d8_0 : decode prog_17_method_11_code 0 = .ok (.aload_n 0, 1) := by decide +kernel
theorem d8_1 : decode prog_17_method_11_code 1 = .ok (.getfield 58, 3) := by decide +kernel
theorem d8_4 : decode prog_17_method_11_code 4 = .ok (.iload_n 1, 1) := by decide +kernel
theorem d8_5 : decode prog_17_method_11_code 5 = .ok (.iadd, 1) := by decide +kernel
theorem d8_6 : decode prog_17_method_11_code 6 = .ok (.istore_n 2, 1) := by decide +kernel
theorem d8_7 : decode prog_17_method_11_code 7 = .ok (.iload_n 2, 1) := by decide +kernel
theorem d8_8 : decode prog_17_method_11_code 8 = .ok (.aload_n 0, 1) := by decide +kernel
theorem d8_9 : decode prog_17_method_11_code 9 = .ok (.getfield 13, 3) := by decide +kernel
theorem d8_12 : decode prog_17_method_11_code 12 = .ok (.arraylength, 1) := by decide +kernel
theorem d8_13 : decode prog_17_method_11_code 13 = .ok (.if_icmp .ge 7, 3) := by decide +kernel
theorem d8_16 : decode prog_17_method_11_code 16 = .ok (.iload_n 2, 1) := by decide +kernel
theorem d8_17 : decode prog_17_method_11_code 17 = .ok (.goto 10, 3) := by decide +kernel
theorem d8_20 : decode prog_17_method_11_code 20 = .ok (.iload_n 2, 1) := by decide +kernel
theorem d8_21 : decode prog_17_method_11_code 21 = .ok (.aload_n 0, 1) := by decide +kernel
theorem d8_22 : decode prog_17_method_11_code 22 = .ok (.getfield 13, 3) := by decide +kernel
theorem d8_25 : decode prog_17_method_11_code 25 = .ok (.arraylength, 1) := by decide +kernel
theorem d8_26 : decode prog_17_method_11_code 26 = .ok (.isub, 1) := by decide +kernel
theorem d8_27 : decode prog_17_method_11_code 27 = .ok (.ireturn, 1) := by decide +kernel
theorem pn3 : plainFor (⟨"com/example/aforo/aforo/SlidingLog", "slot", "(I)I"⟩ : MethodName) = true := by first | (refine plainFor_of_name ?_; simp [plainName, overriddenIn]; done) | (refine plainFor_of_name ?_; decide +kernel) | decide +kernel
def fSlot (hq : Nat) (iq : Nat) : Int32 := (if ((Int32.ofNat hq) + (Int32.ofNat iq)) < (3 : Int32) then ((Int32.ofNat hq) + (Int32.ofNat iq)) else (((Int32.ofNat hq) + (Int32.ofNat iq)) - (3 : Int32)))
theorem ef_8 (m : MethodId) (a : Addr) (iq : Nat) (hq : Nat) (tq : Addr) (fq : Nat → Int64) : entryFrame m #[(.ref a), (.int (Int32.ofNat iq))] 3 = mkF m 0 #[.val (.ref a), .val (.int (Int32.ofNat iq)), .unset] [] := by first | (simp [entryFrame, mkF, argsToLocals, Value.category]; done) | rfl
abbrev rm_8 : Room := ({ frames := 0, cells := 0, slots := 0, locals := 0 } : Room)
set_option maxRecDepth 65536 in
set_option maxHeartbeats 4000000 in
theorem met_8 (l : Launch) (Z : State) (a0 : Array Value) (hw : ∀ d ∈ tables_1, d.before a0 Z = true) (a : Addr) (iq : Nat) (hq : Nat) (tq : Addr) (fq : Nat → Int64) (h0 : Heap) (n0 : Nat) (Z0 : n0 ≤ h0.size) (P0 : Fld Z h0 a "com/example/aforo/aforo/SlidingLog" "head" "I" (.int (Int32.ofNat hq))) (P1 : Fld Z h0 a "com/example/aforo/aforo/SlidingLog" "times" "[J" (.ref tq)) (P2 : GA Z h0 tq .long 3 (fun i => .long (fq i))) :
    Met l (⟨"com/example/aforo/aforo/SlidingLog", "slot", "(I)I"⟩ : MethodName) prog_17_method_11_code 3 (some FieldType.int) [] rm_8 Z #[(.ref a), (.int (Int32.ofNat iq))] h0 (QV (some (.int (fSlot hq iq))) h0 n0) 0 0 := by
  refine own_body pn3 ?_
  intro p e s m below meth c s₁ ct X0 e0
  have ct0 := ct
  obtain ⟨hx, hZ, hown, hby, hml, hret, hlk, hnm⟩ := ct
  have N0 := Fr.nil n0
  refine castGo (ef_8 m a iq hq tq fq) ?_
  unfold fSlot
  show Go p e below s _ _ _ s₁ (mkF m 0 #[.val (.ref a), .val (.int (Int32.ofNat iq)), .unset] [])
  refine go_st (fun _ kq => XS.aloadN X0.here hx rfl (hb hby d8_0) rfl rfl kq) ?_
  show Go p e below s _ _ _ s₁ (mkF m 1 #[.val (.ref a), .val (.int (Int32.ofNat iq)), .unset] [(.ref a)])
  refine go_getF X0 hx hZ hown (host := "") (Or.inl (hw _ (List.mem_of_getElem? (i := 44) rfl))) Via.refl e0 P0 (hb hby d8_1) rfl rfl ?_
  intro T4 X4 e4
  show Go p e below s _ _ _ T4 (mkF m 4 #[.val (.ref a), .val (.int (Int32.ofNat iq)), .unset] [(.int (Int32.ofNat hq))])
  refine go_st (fun _ kq => XS.iloadN X4.here hx rfl (hb hby d8_4) rfl kq) ?_
  show Go p e below s _ _ _ T4 (mkF m 5 #[.val (.ref a), .val (.int (Int32.ofNat iq)), .unset] [(.int (Int32.ofNat iq)), (.int (Int32.ofNat hq))])
  refine go_st (fun _ kq => XS.iadd X4.here hx rfl (hb hby d8_5) rfl kq) ?_
  show Go p e below s _ _ _ T4 (mkF m 6 #[.val (.ref a), .val (.int (Int32.ofNat iq)), .unset] [(.int ((Int32.ofNat hq) + (Int32.ofNat iq)))])
  refine go_st (fun _ kq => XS.istoreN X4.here hx rfl (hb hby d8_6) rfl (l' := #[.val (.ref a), .val (.int (Int32.ofNat iq)), .val (.int ((Int32.ofNat hq) + (Int32.ofNat iq)))]) rfl kq) ?_
  show Go p e below s _ _ _ T4 (mkF m 7 #[.val (.ref a), .val (.int (Int32.ofNat iq)), .val (.int ((Int32.ofNat hq) + (Int32.ofNat iq)))] [])
  refine go_st (fun _ kq => XS.iloadN X4.here hx rfl (hb hby d8_7) rfl kq) ?_
  show Go p e below s _ _ _ T4 (mkF m 8 #[.val (.ref a), .val (.int (Int32.ofNat iq)), .val (.int ((Int32.ofNat hq) + (Int32.ofNat iq)))] [(.int ((Int32.ofNat hq) + (Int32.ofNat iq)))])
  refine go_st (fun _ kq => XS.aloadN X4.here hx rfl (hb hby d8_8) rfl rfl kq) ?_
  show Go p e below s _ _ _ T4 (mkF m 9 #[.val (.ref a), .val (.int (Int32.ofNat iq)), .val (.int ((Int32.ofNat hq) + (Int32.ofNat iq)))] [(.ref a), (.int ((Int32.ofNat hq) + (Int32.ofNat iq)))])
  refine go_getF X4 hx hZ hown (host := "") (Or.inl (hw _ (List.mem_of_getElem? (i := 16) rfl))) Via.refl e4 P1 (hb hby d8_9) rfl rfl ?_
  intro T5 X5 e5
  show Go p e below s _ _ _ T5 (mkF m 12 #[.val (.ref a), .val (.int (Int32.ofNat iq)), .val (.int ((Int32.ofNat hq) + (Int32.ofNat iq)))] [(.ref tq), (.int ((Int32.ofNat hq) + (Int32.ofNat iq)))])
  refine go_alen X5 hx hZ e5 P2 (hb hby d8_12) rfl rfl (3 : Int32) (by decide) ?_
  show Go p e below s _ _ _ T5 (mkF m 13 #[.val (.ref a), .val (.int (Int32.ofNat iq)), .val (.int ((Int32.ofNat hq) + (Int32.ofNat iq)))] [(.int (3 : Int32)), (.int ((Int32.ofNat hq) + (Int32.ofNat iq)))])
  by_cases hc6 : ((Int32.ofNat hq) + (Int32.ofNat iq)) < (3 : Int32)
  · rw [if_pos hc6]
    refine go_st (fun _ kq => XS.icmpNo X5.here hx rfl (hb hby d8_13) rfl (XT.ii_ge_f hc6) kq) ?_
    show Go p e below s _ _ _ T5 (mkF m 16 #[.val (.ref a), .val (.int (Int32.ofNat iq)), .val (.int ((Int32.ofNat hq) + (Int32.ofNat iq)))] [])
    refine go_st (fun _ kq => XS.iloadN X5.here hx rfl (hb hby d8_16) rfl kq) ?_
    show Go p e below s _ _ _ T5 (mkF m 17 #[.val (.ref a), .val (.int (Int32.ofNat iq)), .val (.int ((Int32.ofNat hq) + (Int32.ofNat iq)))] [(.int ((Int32.ofNat hq) + (Int32.ofNat iq)))])
    refine go_st (fun _ kq => XS.goto X5.here hx rfl (pc0 := 17) (pc' := 27) rfl (hb hby d8_17) (by decide) (by decide) kq) ?_
    show Go p e below s _ _ _ T5 (mkF m 27 #[.val (.ref a), .val (.int (Int32.ofNat iq)), .val (.int ((Int32.ofNat hq) + (Int32.ofNat iq)))] [(.int ((Int32.ofNat hq) + (Int32.ofNat iq)))])
    exact go_retI X5 hx hlk hret (hb hby d8_27) (by decide) (by decide) ⟨rfl, N0, e5⟩
  · rw [if_neg hc6]
    refine go_st (fun _ kq => XS.icmpYes X5.here hx rfl (pc0 := 13) (pc' := 20) rfl (hb hby d8_13) rfl (XT.ii_ge_t hc6) (by decide) (by decide) kq) ?_
    show Go p e below s _ _ _ T5 (mkF m 20 #[.val (.ref a), .val (.int (Int32.ofNat iq)), .val (.int ((Int32.ofNat hq) + (Int32.ofNat iq)))] [])
    refine go_st (fun _ kq => XS.iloadN X5.here hx rfl (hb hby d8_20) rfl kq) ?_
    show Go p e below s _ _ _ T5 (mkF m 21 #[.val (.ref a), .val (.int (Int32.ofNat iq)), .val (.int ((Int32.ofNat hq) + (Int32.ofNat iq)))] [(.int ((Int32.ofNat hq) + (Int32.ofNat iq)))])
    refine go_st (fun _ kq => XS.aloadN X5.here hx rfl (hb hby d8_21) rfl rfl kq) ?_
    show Go p e below s _ _ _ T5 (mkF m 22 #[.val (.ref a), .val (.int (Int32.ofNat iq)), .val (.int ((Int32.ofNat hq) + (Int32.ofNat iq)))] [(.ref a), (.int ((Int32.ofNat hq) + (Int32.ofNat iq)))])
    refine go_getF X5 hx hZ hown (host := "") (Or.inl (hw _ (List.mem_of_getElem? (i := 16) rfl))) Via.refl e5 P1 (hb hby d8_22) rfl rfl ?_
    intro T7 X7 e7
    show Go p e below s _ _ _ T7 (mkF m 25 #[.val (.ref a), .val (.int (Int32.ofNat iq)), .val (.int ((Int32.ofNat hq) + (Int32.ofNat iq)))] [(.ref tq), (.int ((Int32.ofNat hq) + (Int32.ofNat iq)))])
    refine go_alen X7 hx hZ e7 P2 (hb hby d8_25) rfl rfl (3 : Int32) (by decide) ?_
    show Go p e below s _ _ _ T7 (mkF m 26 #[.val (.ref a), .val (.int (Int32.ofNat iq)), .val (.int ((Int32.ofNat hq) + (Int32.ofNat iq)))] [(.int (3 : Int32)), (.int ((Int32.ofNat hq) + (Int32.ofNat iq)))])
    refine go_st (fun _ kq => XS.isub X7.here hx rfl (hb hby d8_26) rfl kq) ?_
    show Go p e below s _ _ _ T7 (mkF m 27 #[.val (.ref a), .val (.int (Int32.ofNat iq)), .val (.int ((Int32.ofNat hq) + (Int32.ofNat iq)))] [(.int (((Int32.ofNat hq) + (Int32.ofNat iq)) - (3 : Int32)))])
    exact go_retI X7 hx hlk hret (hb hby d8_27) (by decide) (by decide) ⟨rfl, N0, e7⟩
theorem own_slot {h k : Nat} (hh : h < 3) (hk : k < 4) : fSlot h k = Int32.ofNat ((h + k) % 3) := by
  have q : ∀ h : Nat, h < 3 → ∀ k : Nat, k < 4 → fSlot h k = Int32.ofNat ((h + k) % 3) := by decide +kernel
  exact q h hh k hk
def fSlotZ  : Int32 := (0 : Int32)
theorem ef_slz (m : MethodId) (a : Addr) (tq : Addr) (fq : Nat → Int64) : entryFrame m #[(.ref a), (.int (0 : Int32))] 3 = mkF m 0 #[.val (.ref a), .val (.int (0 : Int32)), .unset] [] := by first | (simp [entryFrame, mkF, argsToLocals, Value.category]; done) | rfl
abbrev rm_slz : Room := ({ frames := 0, cells := 0, slots := 0, locals := 0 } : Room)
set_option maxRecDepth 65536 in
set_option maxHeartbeats 4000000 in
theorem met_slz (l : Launch) (Z : State) (a0 : Array Value) (hw : ∀ d ∈ tables_1, d.before a0 Z = true) (a : Addr) (tq : Addr) (fq : Nat → Int64) (h0 : Heap) (n0 : Nat) (Z0 : n0 ≤ h0.size) (P0 : Fld Z h0 a "com/example/aforo/aforo/SlidingLog" "head" "I" (.int (0 : Int32))) (P1 : Fld Z h0 a "com/example/aforo/aforo/SlidingLog" "times" "[J" (.ref tq)) (P2 : GA Z h0 tq .long 0 (fun i => .long (fq i))) :
    Met l (⟨"com/example/aforo/aforo/SlidingLog", "slot", "(I)I"⟩ : MethodName) prog_17_method_11_code 3 (some FieldType.int) [] rm_slz Z #[(.ref a), (.int (0 : Int32))] h0 (QV (some (.int (fSlotZ ))) h0 n0) 0 0 := by
  refine own_body pn3 ?_
  intro p e s m below meth c s₁ ct X0 e0
  have ct0 := ct
  obtain ⟨hx, hZ, hown, hby, hml, hret, hlk, hnm⟩ := ct
  have N0 := Fr.nil n0
  refine castGo (ef_slz m a tq fq) ?_
  unfold fSlotZ
  show Go p e below s _ _ _ s₁ (mkF m 0 #[.val (.ref a), .val (.int (0 : Int32)), .unset] [])
  refine go_st (fun _ kq => XS.aloadN X0.here hx rfl (hb hby d8_0) rfl rfl kq) ?_
  show Go p e below s _ _ _ s₁ (mkF m 1 #[.val (.ref a), .val (.int (0 : Int32)), .unset] [(.ref a)])
  refine go_getF X0 hx hZ hown (host := "") (Or.inl (hw _ (List.mem_of_getElem? (i := 44) rfl))) Via.refl e0 P0 (hb hby d8_1) rfl rfl ?_
  intro T8 X8 e8
  show Go p e below s _ _ _ T8 (mkF m 4 #[.val (.ref a), .val (.int (0 : Int32)), .unset] [(.int (0 : Int32))])
  refine go_st (fun _ kq => XS.iloadN X8.here hx rfl (hb hby d8_4) rfl kq) ?_
  show Go p e below s _ _ _ T8 (mkF m 5 #[.val (.ref a), .val (.int (0 : Int32)), .unset] [(.int (0 : Int32)), (.int (0 : Int32))])
  refine go_st (fun _ kq => XS.iadd X8.here hx rfl (hb hby d8_5) rfl kq) ?_
  rw [show ((0 : Int32) + (0 : Int32)) = (0 : Int32) from by decide +kernel]
  show Go p e below s _ _ _ T8 (mkF m 6 #[.val (.ref a), .val (.int (0 : Int32)), .unset] [(.int (0 : Int32))])
  refine go_st (fun _ kq => XS.istoreN X8.here hx rfl (hb hby d8_6) rfl (l' := #[.val (.ref a), .val (.int (0 : Int32)), .val (.int (0 : Int32))]) rfl kq) ?_
  show Go p e below s _ _ _ T8 (mkF m 7 #[.val (.ref a), .val (.int (0 : Int32)), .val (.int (0 : Int32))] [])
  refine go_st (fun _ kq => XS.iloadN X8.here hx rfl (hb hby d8_7) rfl kq) ?_
  show Go p e below s _ _ _ T8 (mkF m 8 #[.val (.ref a), .val (.int (0 : Int32)), .val (.int (0 : Int32))] [(.int (0 : Int32))])
  refine go_st (fun _ kq => XS.aloadN X8.here hx rfl (hb hby d8_8) rfl rfl kq) ?_
  show Go p e below s _ _ _ T8 (mkF m 9 #[.val (.ref a), .val (.int (0 : Int32)), .val (.int (0 : Int32))] [(.ref a), (.int (0 : Int32))])
  refine go_getF X8 hx hZ hown (host := "") (Or.inl (hw _ (List.mem_of_getElem? (i := 16) rfl))) Via.refl e8 P1 (hb hby d8_9) rfl rfl ?_
  intro T9 X9 e9
  show Go p e below s _ _ _ T9 (mkF m 12 #[.val (.ref a), .val (.int (0 : Int32)), .val (.int (0 : Int32))] [(.ref tq), (.int (0 : Int32))])
  refine go_alen X9 hx hZ e9 P2 (hb hby d8_12) rfl rfl (0 : Int32) (by decide) ?_
  show Go p e below s _ _ _ T9 (mkF m 13 #[.val (.ref a), .val (.int (0 : Int32)), .val (.int (0 : Int32))] [(.int (0 : Int32)), (.int (0 : Int32))])
  refine go_st (fun _ kq => XS.icmpYes X9.here hx rfl (pc0 := 13) (pc' := 20) rfl (hb hby d8_13) rfl (XT.ii_ge_t (by decide)) (by decide) (by decide) kq) ?_
  show Go p e below s _ _ _ T9 (mkF m 20 #[.val (.ref a), .val (.int (0 : Int32)), .val (.int (0 : Int32))] [])
  refine go_st (fun _ kq => XS.iloadN X9.here hx rfl (hb hby d8_20) rfl kq) ?_
  show Go p e below s _ _ _ T9 (mkF m 21 #[.val (.ref a), .val (.int (0 : Int32)), .val (.int (0 : Int32))] [(.int (0 : Int32))])
  refine go_st (fun _ kq => XS.aloadN X9.here hx rfl (hb hby d8_21) rfl rfl kq) ?_
  show Go p e below s _ _ _ T9 (mkF m 22 #[.val (.ref a), .val (.int (0 : Int32)), .val (.int (0 : Int32))] [(.ref a), (.int (0 : Int32))])
  refine go_getF X9 hx hZ hown (host := "") (Or.inl (hw _ (List.mem_of_getElem? (i := 16) rfl))) Via.refl e9 P1 (hb hby d8_22) rfl rfl ?_
  intro T10 X10 e10
  show Go p e below s _ _ _ T10 (mkF m 25 #[.val (.ref a), .val (.int (0 : Int32)), .val (.int (0 : Int32))] [(.ref tq), (.int (0 : Int32))])
  refine go_alen X10 hx hZ e10 P2 (hb hby d8_25) rfl rfl (0 : Int32) (by decide) ?_
  show Go p e below s _ _ _ T10 (mkF m 26 #[.val (.ref a), .val (.int (0 : Int32)), .val (.int (0 : Int32))] [(.int (0 : Int32)), (.int (0 : Int32))])
  refine go_st (fun _ kq => XS.isub X10.here hx rfl (hb hby d8_26) rfl kq) ?_
  rw [show ((0 : Int32) - (0 : Int32)) = (0 : Int32) from by decide +kernel]
  show Go p e below s _ _ _ T10 (mkF m 27 #[.val (.ref a), .val (.int (0 : Int32)), .val (.int (0 : Int32))] [(.int (0 : Int32))])
  exact go_retI X10 hx hlk hret (hb hby d8_27) (by decide) (by decide) ⟨rfl, N0, e10⟩
theorem d14_0 : decode prog_17_method_10_code 0 = .ok (.aload_n 0, 1) := by decide +kernel
theorem d14_1 : decode prog_17_method_10_code 1 = .ok (.getfield 13, 3) := by decide +kernel
theorem d14_4 : decode prog_17_method_10_code 4 = .ok (.aload_n 0, 1) := by decide +kernel
theorem d14_5 : decode prog_17_method_10_code 5 = .ok (.iload_n 1, 1) := by decide +kernel
theorem d14_6 : decode prog_17_method_10_code 6 = .ok (.invokevirtual 54, 3) := by decide +kernel
theorem d14_9 : decode prog_17_method_10_code 9 = .ok (.laload, 1) := by decide +kernel
theorem d14_10 : decode prog_17_method_10_code 10 = .ok (.lreturn, 1) := by decide +kernel
theorem pn4 : plainFor (⟨"com/example/aforo/aforo/SlidingLog", "timeAt", "(I)J"⟩ : MethodName) = true := by first | (refine plainFor_of_name ?_; simp [plainName, overriddenIn]; done) | (refine plainFor_of_name ?_; decide +kernel) | decide +kernel
theorem pd0 : parseMethodDescriptor "(I)I" = some ⟨[.int], (some .int)⟩ := by decide +kernel
def fTim (fq : Nat → Int64) (hq : Nat) (iq : Nat) : Int64 := (fq ((hq + iq) % 3))
theorem ef_14 (m : MethodId) (a : Addr) (iq : Nat) (hq : Nat) (tq : Addr) (fq : Nat → Int64) : entryFrame m #[(.ref a), (.int (Int32.ofNat iq))] 2 = mkF m 0 #[.val (.ref a), .val (.int (Int32.ofNat iq))] [] := by first | (simp [entryFrame, mkF, argsToLocals, Value.category]; done) | rfl
abbrev rm_14 : Room := ({ frames := 1, cells := 0, slots := 0, locals := 15 } : Room)
set_option maxRecDepth 65536 in
set_option maxHeartbeats 4000000 in
theorem met_14 (l : Launch) (Z : State) (a0 : Array Value) (hw : ∀ d ∈ tables_1, d.before a0 Z = true) (a : Addr) (iq : Nat) (hq : Nat) (tq : Addr) (fq : Nat → Int64) (h0 : Heap) (n0 : Nat) (Z0 : n0 ≤ h0.size) (P0 : Exa Z h0 a "com/example/aforo/aforo/SlidingLog") (P1 : Fld Z h0 a "com/example/aforo/aforo/SlidingLog" "head" "I" (.int (Int32.ofNat hq))) (P2 : Fld Z h0 a "com/example/aforo/aforo/SlidingLog" "times" "[J" (.ref tq)) (P3 : GA Z h0 tq .long 3 (fun i => .long (fq i))) (P4 : hq < 3) (P5 : iq < 4) :
    Met l (⟨"com/example/aforo/aforo/SlidingLog", "timeAt", "(I)J"⟩ : MethodName) prog_17_method_10_code 2 (some FieldType.long) [] rm_14 Z #[(.ref a), (.int (Int32.ofNat iq))] h0 (QV (some (.long (fTim fq hq iq))) h0 n0) 0 0 := by
  refine own_body pn4 ?_
  intro p e s m below meth c s₁ ct X0 e0
  have ct0 := ct
  obtain ⟨hx, hZ, hown, hby, hml, hret, hlk, hnm⟩ := ct
  have N0 := Fr.nil n0
  refine castGo (ef_14 m a iq hq tq fq) ?_
  unfold fTim
  show Go p e below s _ _ _ s₁ (mkF m 0 #[.val (.ref a), .val (.int (Int32.ofNat iq))] [])
  refine go_st (fun _ kq => XS.aloadN X0.here hx rfl (hb hby d14_0) rfl rfl kq) ?_
  show Go p e below s _ _ _ s₁ (mkF m 1 #[.val (.ref a), .val (.int (Int32.ofNat iq))] [(.ref a)])
  refine go_getF X0 hx hZ hown (host := "") (Or.inl (hw _ (List.mem_of_getElem? (i := 16) rfl))) Via.refl e0 P2 (hb hby d14_1) rfl rfl ?_
  intro T11 X11 e11
  show Go p e below s _ _ _ T11 (mkF m 4 #[.val (.ref a), .val (.int (Int32.ofNat iq))] [(.ref tq)])
  refine go_st (fun _ kq => XS.aloadN X11.here hx rfl (hb hby d14_4) rfl rfl kq) ?_
  show Go p e below s _ _ _ T11 (mkF m 5 #[.val (.ref a), .val (.int (Int32.ofNat iq))] [(.ref a), (.ref tq)])
  refine go_st (fun _ kq => XS.iloadN X11.here hx rfl (hb hby d14_5) rfl kq) ?_
  show Go p e below s _ _ _ T11 (mkF m 6 #[.val (.ref a), .val (.int (Int32.ofNat iq))] [(.int (Int32.ofNat iq)), (.ref a), (.ref tq)])
  refine go_callP X11 hx hZ hml hown (hw _ (List.mem_of_getElem? (i := 40) rfl)) (hw _ (List.mem_of_getElem? (i := 42) rfl)) (hw _ (List.mem_of_getElem? (i := 1) rfl)) (hw _ (List.mem_of_getElem? (i := 41) rfl)) (hw _ (List.mem_of_getElem? (i := 43) rfl)) (hw _ (List.mem_of_getElem? (i := 2) rfl)) e11 P0 (argsL := [(.int (Int32.ofNat iq))]) (rest := [(.ref tq)]) (W := 1) (met_8 l Z a0 hw a iq hq tq fq h0 n0 Z0 P1 P2 P3) (hb hby d14_6) rfl rfl rfl (lenOf pd0 rfl) (by show 2 * 0 + _ ≤ _; exact Nat.le_of_eq rfl) (by decide) (by decide) (by decide) (by decide) (by decide) ?_
  intro T12 v12 L12 X12 q12
  obtain ⟨rfl, M12, e12⟩ := q12
  have N12 := Fr.app N0 M12
  rw [own_slot (h := hq) (k := iq) (by omega) (by omega)]
  show Go p e below s _ _ _ T12 (mkF m 9 #[.val (.ref a), .val (.int (Int32.ofNat iq))] [(.int (Int32.ofNat ((hq + iq) % 3))), (.ref tq)])
  refine go_lald X12 hx hZ e12 P3 (hb hby d14_9) rfl rfl (own_ix3 _ _) (.long (fq ((hq + iq) % 3))) (by rw [own_cx3]) ?_
  show Go p e below s _ _ _ T12 (mkF m 10 #[.val (.ref a), .val (.int (Int32.ofNat iq))] [(.long (fq ((hq + iq) % 3)))])
  exact go_retL X12 hx hlk hret (hb hby d14_10) (by decide) (by decide) ⟨rfl, N12, e12⟩
theorem d6_0 : decode prog_17_method_7_code 0 = .ok (.iconst 0, 1) := by decide +kernel
theorem d6_1 : decode prog_17_method_7_code 1 = .ok (.istore_n 3, 1) := by decide +kernel
theorem d6_2 : decode prog_17_method_7_code 2 = .ok (.aload_n 0, 1) := by decide +kernel
theorem d6_3 : decode prog_17_method_7_code 3 = .ok (.getfield 20, 3) := by decide +kernel
theorem d6_6 : decode prog_17_method_7_code 6 = .ok (.istore 4, 2) := by decide +kernel
theorem d6_8 : decode prog_17_method_7_code 8 = .ok (.iconst 0, 1) := by decide +kernel
theorem d6_9 : decode prog_17_method_7_code 9 = .ok (.istore 5, 2) := by decide +kernel
theorem d6_11 : decode prog_17_method_7_code 11 = .ok (.iconst 1, 1) := by decide +kernel
theorem d6_12 : decode prog_17_method_7_code 12 = .ok (.istore 6, 2) := by decide +kernel
theorem d6_14 : decode prog_17_method_7_code 14 = .ok (.iload 5, 2) := by decide +kernel
theorem d6_16 : decode prog_17_method_7_code 16 = .ok (.iload 4, 2) := by decide +kernel
theorem d6_18 : decode prog_17_method_7_code 18 = .ok (.if_icmp .ge 35, 3) := by decide +kernel
theorem d6_21 : decode prog_17_method_7_code 21 = .ok (.aload_n 0, 1) := by decide +kernel
theorem d6_22 : decode prog_17_method_7_code 22 = .ok (.iload 5, 2) := by decide +kernel
theorem d6_24 : decode prog_17_method_7_code 24 = .ok (.invokevirtual 38, 3) := by decide +kernel
theorem d6_27 : decode prog_17_method_7_code 27 = .ok (.lload_n 1, 1) := by decide +kernel
theorem d6_28 : decode prog_17_method_7_code 28 = .ok (.lcmp, 1) := by decide +kernel
theorem d6_29 : decode prog_17_method_7_code 29 = .ok (.ifCond .gt 24, 3) := by decide +kernel
theorem d6_32 : decode prog_17_method_7_code 32 = .ok (.iload 5, 2) := by decide +kernel
theorem d6_34 : decode prog_17_method_7_code 34 = .ok (.iconst 1, 1) := by decide +kernel
theorem d6_35 : decode prog_17_method_7_code 35 = .ok (.iadd, 1) := by decide +kernel
theorem d6_36 : decode prog_17_method_7_code 36 = .ok (.istore_n 3, 1) := by decide +kernel
theorem d6_37 : decode prog_17_method_7_code 37 = .ok (.iload 5, 2) := by decide +kernel
theorem d6_39 : decode prog_17_method_7_code 39 = .ok (.iload 6, 2) := by decide +kernel
theorem d6_41 : decode prog_17_method_7_code 41 = .ok (.iadd, 1) := by decide +kernel
theorem d6_42 : decode prog_17_method_7_code 42 = .ok (.istore 5, 2) := by decide +kernel
theorem d6_44 : decode prog_17_method_7_code 44 = .ok (.iload 6, 2) := by decide +kernel
theorem d6_46 : decode prog_17_method_7_code 46 = .ok (.iconst 2, 1) := by decide +kernel
theorem d6_47 : decode prog_17_method_7_code 47 = .ok (.imul, 1) := by decide +kernel
theorem d6_48 : decode prog_17_method_7_code 48 = .ok (.istore 6, 2) := by decide +kernel
theorem d6_50 : decode prog_17_method_7_code 50 = .ok (.goto (-36), 3) := by decide +kernel
theorem d6_53 : decode prog_17_method_7_code 53 = .ok (.iload 4, 2) := by decide +kernel
theorem d6_55 : decode prog_17_method_7_code 55 = .ok (.iload 5, 2) := by decide +kernel
theorem d6_57 : decode prog_17_method_7_code 57 = .ok (.invokestatic 68, 3) := by decide +kernel
theorem d6_60 : decode prog_17_method_7_code 60 = .ok (.istore 4, 2) := by decide +kernel
theorem d6_62 : decode prog_17_method_7_code 62 = .ok (.iload_n 3, 1) := by decide +kernel
theorem d6_63 : decode prog_17_method_7_code 63 = .ok (.iload 4, 2) := by decide +kernel
theorem d6_65 : decode prog_17_method_7_code 65 = .ok (.if_icmp .ge 37, 3) := by decide +kernel
theorem d6_68 : decode prog_17_method_7_code 68 = .ok (.iload_n 3, 1) := by decide +kernel
theorem d6_69 : decode prog_17_method_7_code 69 = .ok (.iload 4, 2) := by decide +kernel
theorem d6_71 : decode prog_17_method_7_code 71 = .ok (.iadd, 1) := by decide +kernel
theorem d6_72 : decode prog_17_method_7_code 72 = .ok (.iconst 1, 1) := by decide +kernel
theorem d6_73 : decode prog_17_method_7_code 73 = .ok (.iushr, 1) := by decide +kernel
theorem d6_74 : decode prog_17_method_7_code 74 = .ok (.istore 7, 2) := by decide +kernel
theorem d6_76 : decode prog_17_method_7_code 76 = .ok (.aload_n 0, 1) := by decide +kernel
theorem d6_77 : decode prog_17_method_7_code 77 = .ok (.iload 7, 2) := by decide +kernel
theorem d6_79 : decode prog_17_method_7_code 79 = .ok (.invokevirtual 38, 3) := by decide +kernel
theorem d6_82 : decode prog_17_method_7_code 82 = .ok (.lload_n 1, 1) := by decide +kernel
theorem d6_83 : decode prog_17_method_7_code 83 = .ok (.lcmp, 1) := by decide +kernel
theorem d6_84 : decode prog_17_method_7_code 84 = .ok (.ifCond .gt 11, 3) := by decide +kernel
theorem d6_87 : decode prog_17_method_7_code 87 = .ok (.iload 7, 2) := by decide +kernel
theorem d6_89 : decode prog_17_method_7_code 89 = .ok (.iconst 1, 1) := by decide +kernel
theorem d6_90 : decode prog_17_method_7_code 90 = .ok (.iadd, 1) := by decide +kernel
theorem d6_91 : decode prog_17_method_7_code 91 = .ok (.istore_n 3, 1) := by decide +kernel
theorem d6_92 : decode prog_17_method_7_code 92 = .ok (.goto 7, 3) := by decide +kernel
theorem d6_95 : decode prog_17_method_7_code 95 = .ok (.iload 7, 2) := by decide +kernel
theorem d6_97 : decode prog_17_method_7_code 97 = .ok (.istore 4, 2) := by decide +kernel
theorem d6_99 : decode prog_17_method_7_code 99 = .ok (.goto (-37), 3) := by decide +kernel
theorem d6_102 : decode prog_17_method_7_code 102 = .ok (.iload_n 3, 1) := by decide +kernel
theorem d6_103 : decode prog_17_method_7_code 103 = .ok (.ireturn, 1) := by decide +kernel
theorem pn5 : plainFor (⟨"com/example/aforo/aforo/SlidingLog", "countedUpTo", "(J)I"⟩ : MethodName) = true := by first | (refine plainFor_of_name ?_; simp [plainName, overriddenIn]; done) | (refine plainFor_of_name ?_; decide +kernel) | decide +kernel
theorem pd1 : parseMethodDescriptor "(I)J" = some ⟨[.int], (some .long)⟩ := by decide +kernel
theorem pd2 : parseMethodDescriptor "(II)I" = some ⟨[.int, .int], (some .int)⟩ := by decide +kernel
def fCnt1 (fq : Nat → Int64) (hq : Nat) (lq : Int64) : Int32 := (if lq < (fq ((hq + 0) % 3)) then (0 : Int32) else (1 : Int32))
theorem ef_cnt1 (m : MethodId) (a : Addr) (lq : Int64) (hq : Nat) (tq : Addr) (fq : Nat → Int64) : entryFrame m #[(.ref a), (.long lq)] 8 = mkF m 0 #[.val (.ref a), .val (.long lq), .second, .unset, .unset, .unset, .unset, .unset] [] := by first | (simp [entryFrame, mkF, argsToLocals, Value.category]; done) | rfl
abbrev rm_cnt1 : Room := ({ frames := 2, cells := 0, slots := 0, locals := 28 } : Room)
set_option maxRecDepth 65536 in
set_option maxHeartbeats 4000000 in
theorem met_cnt1 (l : Launch) (Z : State) (a0 : Array Value) (hw : ∀ d ∈ tables_1, d.before a0 Z = true) (a : Addr) (lq : Int64) (hq : Nat) (tq : Addr) (fq : Nat → Int64) (h0 : Heap) (n0 : Nat) (Z0 : n0 ≤ h0.size) (P0 : Exa Z h0 a "com/example/aforo/aforo/SlidingLog") (P1 : Fld Z h0 a "com/example/aforo/aforo/SlidingLog" "head" "I" (.int (Int32.ofNat hq))) (P2 : Fld Z h0 a "com/example/aforo/aforo/SlidingLog" "times" "[J" (.ref tq)) (P3 : GA Z h0 tq .long 3 (fun i => .long (fq i))) (P4 : hq < 3) (P5 : Fld Z h0 a "com/example/aforo/aforo/SlidingLog" "size" "I" (.int (1 : Int32))) :
    Met l (⟨"com/example/aforo/aforo/SlidingLog", "countedUpTo", "(J)I"⟩ : MethodName) prog_17_method_7_code 8 (some FieldType.int) [] rm_cnt1 Z #[(.ref a), (.long lq)] h0 (QV (some (.int (fCnt1 fq hq lq))) h0 n0) 0 0 := by
  refine own_body pn5 ?_
  intro p e s m below meth c s₁ ct X0 e0
  have ct0 := ct
  obtain ⟨hx, hZ, hown, hby, hml, hret, hlk, hnm⟩ := ct
  have N0 := Fr.nil n0
  refine castGo (ef_cnt1 m a lq hq tq fq) ?_
  unfold fCnt1
  show Go p e below s _ _ _ s₁ (mkF m 0 #[.val (.ref a), .val (.long lq), .second, .unset, .unset, .unset, .unset, .unset] [])
  refine go_st (fun _ kq => XT.iconstV X0.here hx rfl (0 : Int32) (hb hby d6_0) (by decide) kq) ?_
  show Go p e below s _ _ _ s₁ (mkF m 1 #[.val (.ref a), .val (.long lq), .second, .unset, .unset, .unset, .unset, .unset] [(.int (0 : Int32))])
  refine go_st (fun _ kq => XS.istoreN X0.here hx rfl (hb hby d6_1) rfl (l' := #[.val (.ref a), .val (.long lq), .second, .val (.int (0 : Int32)), .unset, .unset, .unset, .unset]) rfl kq) ?_
  show Go p e below s _ _ _ s₁ (mkF m 2 #[.val (.ref a), .val (.long lq), .second, .val (.int (0 : Int32)), .unset, .unset, .unset, .unset] [])
  refine go_st (fun _ kq => XS.aloadN X0.here hx rfl (hb hby d6_2) rfl rfl kq) ?_
  show Go p e below s _ _ _ s₁ (mkF m 3 #[.val (.ref a), .val (.long lq), .second, .val (.int (0 : Int32)), .unset, .unset, .unset, .unset] [(.ref a)])
  refine go_getF X0 hx hZ hown (host := "") (Or.inl (hw _ (List.mem_of_getElem? (i := 34) rfl))) Via.refl e0 P5 (hb hby d6_3) rfl rfl ?_
  intro T13 X13 e13
  show Go p e below s _ _ _ T13 (mkF m 6 #[.val (.ref a), .val (.long lq), .second, .val (.int (0 : Int32)), .unset, .unset, .unset, .unset] [(.int (1 : Int32))])
  refine go_st (fun _ kq => XS.istore X13.here hx rfl (hb hby d6_6) rfl (l' := #[.val (.ref a), .val (.long lq), .second, .val (.int (0 : Int32)), .val (.int (1 : Int32)), .unset, .unset, .unset]) rfl kq) ?_
  show Go p e below s _ _ _ T13 (mkF m 8 #[.val (.ref a), .val (.long lq), .second, .val (.int (0 : Int32)), .val (.int (1 : Int32)), .unset, .unset, .unset] [])
  refine go_st (fun _ kq => XT.iconstV X13.here hx rfl (0 : Int32) (hb hby d6_8) (by decide) kq) ?_
  show Go p e below s _ _ _ T13 (mkF m 9 #[.val (.ref a), .val (.long lq), .second, .val (.int (0 : Int32)), .val (.int (1 : Int32)), .unset, .unset, .unset] [(.int (0 : Int32))])
  refine go_st (fun _ kq => XS.istore X13.here hx rfl (hb hby d6_9) rfl (l' := #[.val (.ref a), .val (.long lq), .second, .val (.int (0 : Int32)), .val (.int (1 : Int32)), .val (.int (0 : Int32)), .unset, .unset]) rfl kq) ?_
  show Go p e below s _ _ _ T13 (mkF m 11 #[.val (.ref a), .val (.long lq), .second, .val (.int (0 : Int32)), .val (.int (1 : Int32)), .val (.int (0 : Int32)), .unset, .unset] [])
  refine go_st (fun _ kq => XT.iconstV X13.here hx rfl (1 : Int32) (hb hby d6_11) (by decide) kq) ?_
  show Go p e below s _ _ _ T13 (mkF m 12 #[.val (.ref a), .val (.long lq), .second, .val (.int (0 : Int32)), .val (.int (1 : Int32)), .val (.int (0 : Int32)), .unset, .unset] [(.int (1 : Int32))])
  refine go_st (fun _ kq => XS.istore X13.here hx rfl (hb hby d6_12) rfl (l' := #[.val (.ref a), .val (.long lq), .second, .val (.int (0 : Int32)), .val (.int (1 : Int32)), .val (.int (0 : Int32)), .val (.int (1 : Int32)), .unset]) rfl kq) ?_
  show Go p e below s _ _ _ T13 (mkF m 14 #[.val (.ref a), .val (.long lq), .second, .val (.int (0 : Int32)), .val (.int (1 : Int32)), .val (.int (0 : Int32)), .val (.int (1 : Int32)), .unset] [])
  refine go_st (fun _ kq => XS.iload X13.here hx rfl (hb hby d6_14) rfl kq) ?_
  show Go p e below s _ _ _ T13 (mkF m 16 #[.val (.ref a), .val (.long lq), .second, .val (.int (0 : Int32)), .val (.int (1 : Int32)), .val (.int (0 : Int32)), .val (.int (1 : Int32)), .unset] [(.int (0 : Int32))])
  refine go_st (fun _ kq => XS.iload X13.here hx rfl (hb hby d6_16) rfl kq) ?_
  show Go p e below s _ _ _ T13 (mkF m 18 #[.val (.ref a), .val (.long lq), .second, .val (.int (0 : Int32)), .val (.int (1 : Int32)), .val (.int (0 : Int32)), .val (.int (1 : Int32)), .unset] [(.int (1 : Int32)), (.int (0 : Int32))])
  refine go_st (fun _ kq => XS.icmpNo X13.here hx rfl (hb hby d6_18) rfl (XT.ii_ge_f (by decide)) kq) ?_
  show Go p e below s _ _ _ T13 (mkF m 21 #[.val (.ref a), .val (.long lq), .second, .val (.int (0 : Int32)), .val (.int (1 : Int32)), .val (.int (0 : Int32)), .val (.int (1 : Int32)), .unset] [])
  refine go_st (fun _ kq => XS.aloadN X13.here hx rfl (hb hby d6_21) rfl rfl kq) ?_
  show Go p e below s _ _ _ T13 (mkF m 22 #[.val (.ref a), .val (.long lq), .second, .val (.int (0 : Int32)), .val (.int (1 : Int32)), .val (.int (0 : Int32)), .val (.int (1 : Int32)), .unset] [(.ref a)])
  refine go_st (fun _ kq => XS.iload X13.here hx rfl (hb hby d6_22) rfl kq) ?_
  show Go p e below s _ _ _ T13 (mkF m 24 #[.val (.ref a), .val (.long lq), .second, .val (.int (0 : Int32)), .val (.int (1 : Int32)), .val (.int (0 : Int32)), .val (.int (1 : Int32)), .unset] [(.int (0 : Int32)), (.ref a)])
  refine go_callP X13 hx hZ hml hown (hw _ (List.mem_of_getElem? (i := 71) rfl)) (hw _ (List.mem_of_getElem? (i := 73) rfl)) (hw _ (List.mem_of_getElem? (i := 1) rfl)) (hw _ (List.mem_of_getElem? (i := 72) rfl)) (hw _ (List.mem_of_getElem? (i := 74) rfl)) (hw _ (List.mem_of_getElem? (i := 2) rfl)) e13 P0 (argsL := [(.int (0 : Int32))]) (rest := []) (W := 0) (met_14 l Z a0 hw a 0 hq tq fq h0 n0 Z0 P0 P1 P2 P3 P4 (by first | assumption | decide | omega)) (hb hby d6_24) rfl rfl rfl (lenOf pd1 rfl) (by show 2 * 0 + _ ≤ _; exact Nat.le_of_eq rfl) (by decide) (by decide) (by decide) (by decide) (by decide) ?_
  intro T14 v14 L14 X14 q14
  obtain ⟨rfl, M14, e14⟩ := q14
  have N14 := Fr.app N0 M14
  show Go p e below s _ _ _ T14 (mkF m 27 #[.val (.ref a), .val (.long lq), .second, .val (.int (0 : Int32)), .val (.int (1 : Int32)), .val (.int (0 : Int32)), .val (.int (1 : Int32)), .unset] [(.long (fq ((hq + 0) % 3)))])
  refine go_st (fun _ kq => XT.lloadN X14.here hx rfl (hb hby d6_27) rfl kq) ?_
  show Go p e below s _ _ _ T14 (mkF m 28 #[.val (.ref a), .val (.long lq), .second, .val (.int (0 : Int32)), .val (.int (1 : Int32)), .val (.int (0 : Int32)), .val (.int (1 : Int32)), .unset] [(.long lq), (.long (fq ((hq + 0) % 3)))])
  refine go_st (fun _ kq => XT.lcmp X14.here hx rfl (hb hby d6_28) rfl kq) ?_
  show Go p e below s _ _ _ T14 (mkF m 29 #[.val (.ref a), .val (.long lq), .second, .val (.int (0 : Int32)), .val (.int (1 : Int32)), .val (.int (0 : Int32)), .val (.int (1 : Int32)), .unset] [(.int (XT.cmpL (fq ((hq + 0) % 3)) lq))])
  by_cases hc15 : lq < (fq ((hq + 0) % 3))
  · rw [if_pos hc15]
    refine go_st (fun _ kq => XS.ifYes X14.here hx rfl (pc0 := 29) (pc' := 53) rfl (hb hby d6_29) rfl (XT.ll_gt_t hc15) (by decide) (by decide) kq) ?_
    show Go p e below s _ _ _ T14 (mkF m 53 #[.val (.ref a), .val (.long lq), .second, .val (.int (0 : Int32)), .val (.int (1 : Int32)), .val (.int (0 : Int32)), .val (.int (1 : Int32)), .unset] [])
    refine go_st (fun _ kq => XS.iload X14.here hx rfl (hb hby d6_53) rfl kq) ?_
    show Go p e below s _ _ _ T14 (mkF m 55 #[.val (.ref a), .val (.long lq), .second, .val (.int (0 : Int32)), .val (.int (1 : Int32)), .val (.int (0 : Int32)), .val (.int (1 : Int32)), .unset] [(.int (1 : Int32))])
    refine go_st (fun _ kq => XS.iload X14.here hx rfl (hb hby d6_55) rfl kq) ?_
    show Go p e below s _ _ _ T14 (mkF m 57 #[.val (.ref a), .val (.long lq), .second, .val (.int (0 : Int32)), .val (.int (1 : Int32)), .val (.int (0 : Int32)), .val (.int (1 : Int32)), .unset] [(.int (0 : Int32)), (.int (1 : Int32))])
    refine go_callS X14 hx hZ hml hown (hw _ (List.mem_of_getElem? (i := 36) rfl)) (hw _ (List.mem_of_getElem? (i := 37) rfl)) (hw _ (List.mem_of_getElem? (i := 38) rfl)) (hw _ (List.mem_of_getElem? (i := 39) rfl)) e14 (argsL := [(.int (1 : Int32)), (.int (0 : Int32))]) (rest := []) (W := 0) (met_7 l Z a0 hw (1 : Int32) (0 : Int32) h0 n0) (hb hby d6_57) rfl rfl rfl (lenOf pd2 rfl) (by show 2 * 0 + _ ≤ _; exact Nat.le_of_eq rfl) (by decide) (by decide) (by decide) (by decide) (by decide) ?_
    intro T16 v16 L16 X16 q16
    obtain ⟨rfl, M16, e16⟩ := q16
    have N16 := Fr.app N14 M16
    rw [show (fMinI (1 : Int32) (0 : Int32)) = (0 : Int32) from by decide +kernel]
    show Go p e below s _ _ _ T16 (mkF m 60 #[.val (.ref a), .val (.long lq), .second, .val (.int (0 : Int32)), .val (.int (1 : Int32)), .val (.int (0 : Int32)), .val (.int (1 : Int32)), .unset] [(.int (0 : Int32))])
    refine go_st (fun _ kq => XS.istore X16.here hx rfl (hb hby d6_60) rfl (l' := #[.val (.ref a), .val (.long lq), .second, .val (.int (0 : Int32)), .val (.int (0 : Int32)), .val (.int (0 : Int32)), .val (.int (1 : Int32)), .unset]) rfl kq) ?_
    show Go p e below s _ _ _ T16 (mkF m 62 #[.val (.ref a), .val (.long lq), .second, .val (.int (0 : Int32)), .val (.int (0 : Int32)), .val (.int (0 : Int32)), .val (.int (1 : Int32)), .unset] [])
    refine go_st (fun _ kq => XS.iloadN X16.here hx rfl (hb hby d6_62) rfl kq) ?_
    show Go p e below s _ _ _ T16 (mkF m 63 #[.val (.ref a), .val (.long lq), .second, .val (.int (0 : Int32)), .val (.int (0 : Int32)), .val (.int (0 : Int32)), .val (.int (1 : Int32)), .unset] [(.int (0 : Int32))])
    refine go_st (fun _ kq => XS.iload X16.here hx rfl (hb hby d6_63) rfl kq) ?_
    show Go p e below s _ _ _ T16 (mkF m 65 #[.val (.ref a), .val (.long lq), .second, .val (.int (0 : Int32)), .val (.int (0 : Int32)), .val (.int (0 : Int32)), .val (.int (1 : Int32)), .unset] [(.int (0 : Int32)), (.int (0 : Int32))])
    refine go_st (fun _ kq => XS.icmpYes X16.here hx rfl (pc0 := 65) (pc' := 102) rfl (hb hby d6_65) rfl (XT.ii_ge_t (by decide)) (by decide) (by decide) kq) ?_
    show Go p e below s _ _ _ T16 (mkF m 102 #[.val (.ref a), .val (.long lq), .second, .val (.int (0 : Int32)), .val (.int (0 : Int32)), .val (.int (0 : Int32)), .val (.int (1 : Int32)), .unset] [])
    refine go_st (fun _ kq => XS.iloadN X16.here hx rfl (hb hby d6_102) rfl kq) ?_
    show Go p e below s _ _ _ T16 (mkF m 103 #[.val (.ref a), .val (.long lq), .second, .val (.int (0 : Int32)), .val (.int (0 : Int32)), .val (.int (0 : Int32)), .val (.int (1 : Int32)), .unset] [(.int (0 : Int32))])
    exact go_retI X16 hx hlk hret (hb hby d6_103) (by decide) (by decide) ⟨rfl, N16, e16⟩
  · rw [if_neg hc15]
    refine go_st (fun _ kq => XS.ifNo X14.here hx rfl (hb hby d6_29) rfl (XT.ll_gt_f hc15) kq) ?_
    show Go p e below s _ _ _ T14 (mkF m 32 #[.val (.ref a), .val (.long lq), .second, .val (.int (0 : Int32)), .val (.int (1 : Int32)), .val (.int (0 : Int32)), .val (.int (1 : Int32)), .unset] [])
    refine go_st (fun _ kq => XS.iload X14.here hx rfl (hb hby d6_32) rfl kq) ?_
    show Go p e below s _ _ _ T14 (mkF m 34 #[.val (.ref a), .val (.long lq), .second, .val (.int (0 : Int32)), .val (.int (1 : Int32)), .val (.int (0 : Int32)), .val (.int (1 : Int32)), .unset] [(.int (0 : Int32))])
    refine go_st (fun _ kq => XT.iconstV X14.here hx rfl (1 : Int32) (hb hby d6_34) (by decide) kq) ?_
    show Go p e below s _ _ _ T14 (mkF m 35 #[.val (.ref a), .val (.long lq), .second, .val (.int (0 : Int32)), .val (.int (1 : Int32)), .val (.int (0 : Int32)), .val (.int (1 : Int32)), .unset] [(.int (1 : Int32)), (.int (0 : Int32))])
    refine go_st (fun _ kq => XS.iadd X14.here hx rfl (hb hby d6_35) rfl kq) ?_
    rw [show ((0 : Int32) + (1 : Int32)) = (1 : Int32) from by decide +kernel]
    show Go p e below s _ _ _ T14 (mkF m 36 #[.val (.ref a), .val (.long lq), .second, .val (.int (0 : Int32)), .val (.int (1 : Int32)), .val (.int (0 : Int32)), .val (.int (1 : Int32)), .unset] [(.int (1 : Int32))])
    refine go_st (fun _ kq => XS.istoreN X14.here hx rfl (hb hby d6_36) rfl (l' := #[.val (.ref a), .val (.long lq), .second, .val (.int (1 : Int32)), .val (.int (1 : Int32)), .val (.int (0 : Int32)), .val (.int (1 : Int32)), .unset]) rfl kq) ?_
    show Go p e below s _ _ _ T14 (mkF m 37 #[.val (.ref a), .val (.long lq), .second, .val (.int (1 : Int32)), .val (.int (1 : Int32)), .val (.int (0 : Int32)), .val (.int (1 : Int32)), .unset] [])
    refine go_st (fun _ kq => XS.iload X14.here hx rfl (hb hby d6_37) rfl kq) ?_
    show Go p e below s _ _ _ T14 (mkF m 39 #[.val (.ref a), .val (.long lq), .second, .val (.int (1 : Int32)), .val (.int (1 : Int32)), .val (.int (0 : Int32)), .val (.int (1 : Int32)), .unset] [(.int (0 : Int32))])
    refine go_st (fun _ kq => XS.iload X14.here hx rfl (hb hby d6_39) rfl kq) ?_
    show Go p e below s _ _ _ T14 (mkF m 41 #[.val (.ref a), .val (.long lq), .second, .val (.int (1 : Int32)), .val (.int (1 : Int32)), .val (.int (0 : Int32)), .val (.int (1 : Int32)), .unset] [(.int (1 : Int32)), (.int (0 : Int32))])
    refine go_st (fun _ kq => XS.iadd X14.here hx rfl (hb hby d6_41) rfl kq) ?_
    rw [show ((0 : Int32) + (1 : Int32)) = (1 : Int32) from by decide +kernel]
    show Go p e below s _ _ _ T14 (mkF m 42 #[.val (.ref a), .val (.long lq), .second, .val (.int (1 : Int32)), .val (.int (1 : Int32)), .val (.int (0 : Int32)), .val (.int (1 : Int32)), .unset] [(.int (1 : Int32))])
    refine go_st (fun _ kq => XS.istore X14.here hx rfl (hb hby d6_42) rfl (l' := #[.val (.ref a), .val (.long lq), .second, .val (.int (1 : Int32)), .val (.int (1 : Int32)), .val (.int (1 : Int32)), .val (.int (1 : Int32)), .unset]) rfl kq) ?_
    show Go p e below s _ _ _ T14 (mkF m 44 #[.val (.ref a), .val (.long lq), .second, .val (.int (1 : Int32)), .val (.int (1 : Int32)), .val (.int (1 : Int32)), .val (.int (1 : Int32)), .unset] [])
    refine go_st (fun _ kq => XS.iload X14.here hx rfl (hb hby d6_44) rfl kq) ?_
    show Go p e below s _ _ _ T14 (mkF m 46 #[.val (.ref a), .val (.long lq), .second, .val (.int (1 : Int32)), .val (.int (1 : Int32)), .val (.int (1 : Int32)), .val (.int (1 : Int32)), .unset] [(.int (1 : Int32))])
    refine go_st (fun _ kq => XT.iconstV X14.here hx rfl (2 : Int32) (hb hby d6_46) (by decide) kq) ?_
    show Go p e below s _ _ _ T14 (mkF m 47 #[.val (.ref a), .val (.long lq), .second, .val (.int (1 : Int32)), .val (.int (1 : Int32)), .val (.int (1 : Int32)), .val (.int (1 : Int32)), .unset] [(.int (2 : Int32)), (.int (1 : Int32))])
    refine go_st (fun _ kq => XS.imul X14.here hx rfl (hb hby d6_47) rfl kq) ?_
    rw [show ((1 : Int32) * (2 : Int32)) = (2 : Int32) from by decide +kernel]
    show Go p e below s _ _ _ T14 (mkF m 48 #[.val (.ref a), .val (.long lq), .second, .val (.int (1 : Int32)), .val (.int (1 : Int32)), .val (.int (1 : Int32)), .val (.int (1 : Int32)), .unset] [(.int (2 : Int32))])
    refine go_st (fun _ kq => XS.istore X14.here hx rfl (hb hby d6_48) rfl (l' := #[.val (.ref a), .val (.long lq), .second, .val (.int (1 : Int32)), .val (.int (1 : Int32)), .val (.int (1 : Int32)), .val (.int (2 : Int32)), .unset]) rfl kq) ?_
    show Go p e below s _ _ _ T14 (mkF m 50 #[.val (.ref a), .val (.long lq), .second, .val (.int (1 : Int32)), .val (.int (1 : Int32)), .val (.int (1 : Int32)), .val (.int (2 : Int32)), .unset] [])
    refine go_st (fun _ kq => XS.goto X14.here hx rfl (pc0 := 50) (pc' := 14) rfl (hb hby d6_50) (by decide) (by decide) kq) ?_
    show Go p e below s _ _ _ T14 (mkF m 14 #[.val (.ref a), .val (.long lq), .second, .val (.int (1 : Int32)), .val (.int (1 : Int32)), .val (.int (1 : Int32)), .val (.int (2 : Int32)), .unset] [])
    refine go_st (fun _ kq => XS.iload X14.here hx rfl (hb hby d6_14) rfl kq) ?_
    show Go p e below s _ _ _ T14 (mkF m 16 #[.val (.ref a), .val (.long lq), .second, .val (.int (1 : Int32)), .val (.int (1 : Int32)), .val (.int (1 : Int32)), .val (.int (2 : Int32)), .unset] [(.int (1 : Int32))])
    refine go_st (fun _ kq => XS.iload X14.here hx rfl (hb hby d6_16) rfl kq) ?_
    show Go p e below s _ _ _ T14 (mkF m 18 #[.val (.ref a), .val (.long lq), .second, .val (.int (1 : Int32)), .val (.int (1 : Int32)), .val (.int (1 : Int32)), .val (.int (2 : Int32)), .unset] [(.int (1 : Int32)), (.int (1 : Int32))])
    refine go_st (fun _ kq => XS.icmpYes X14.here hx rfl (pc0 := 18) (pc' := 53) rfl (hb hby d6_18) rfl (XT.ii_ge_t (by decide)) (by decide) (by decide) kq) ?_
    show Go p e below s _ _ _ T14 (mkF m 53 #[.val (.ref a), .val (.long lq), .second, .val (.int (1 : Int32)), .val (.int (1 : Int32)), .val (.int (1 : Int32)), .val (.int (2 : Int32)), .unset] [])
    refine go_st (fun _ kq => XS.iload X14.here hx rfl (hb hby d6_53) rfl kq) ?_
    show Go p e below s _ _ _ T14 (mkF m 55 #[.val (.ref a), .val (.long lq), .second, .val (.int (1 : Int32)), .val (.int (1 : Int32)), .val (.int (1 : Int32)), .val (.int (2 : Int32)), .unset] [(.int (1 : Int32))])
    refine go_st (fun _ kq => XS.iload X14.here hx rfl (hb hby d6_55) rfl kq) ?_
    show Go p e below s _ _ _ T14 (mkF m 57 #[.val (.ref a), .val (.long lq), .second, .val (.int (1 : Int32)), .val (.int (1 : Int32)), .val (.int (1 : Int32)), .val (.int (2 : Int32)), .unset] [(.int (1 : Int32)), (.int (1 : Int32))])
    refine go_callS X14 hx hZ hml hown (hw _ (List.mem_of_getElem? (i := 36) rfl)) (hw _ (List.mem_of_getElem? (i := 37) rfl)) (hw _ (List.mem_of_getElem? (i := 38) rfl)) (hw _ (List.mem_of_getElem? (i := 39) rfl)) e14 (argsL := [(.int (1 : Int32)), (.int (1 : Int32))]) (rest := []) (W := 0) (met_7 l Z a0 hw (1 : Int32) (1 : Int32) h0 n0) (hb hby d6_57) rfl rfl rfl (lenOf pd2 rfl) (by show 2 * 0 + _ ≤ _; exact Nat.le_of_eq rfl) (by decide) (by decide) (by decide) (by decide) (by decide) ?_
    intro T17 v17 L17 X17 q17
    obtain ⟨rfl, M17, e17⟩ := q17
    have N17 := Fr.app N14 M17
    rw [show (fMinI (1 : Int32) (1 : Int32)) = (1 : Int32) from by decide +kernel]
    show Go p e below s _ _ _ T17 (mkF m 60 #[.val (.ref a), .val (.long lq), .second, .val (.int (1 : Int32)), .val (.int (1 : Int32)), .val (.int (1 : Int32)), .val (.int (2 : Int32)), .unset] [(.int (1 : Int32))])
    refine go_st (fun _ kq => XS.istore X17.here hx rfl (hb hby d6_60) rfl (l' := #[.val (.ref a), .val (.long lq), .second, .val (.int (1 : Int32)), .val (.int (1 : Int32)), .val (.int (1 : Int32)), .val (.int (2 : Int32)), .unset]) rfl kq) ?_
    show Go p e below s _ _ _ T17 (mkF m 62 #[.val (.ref a), .val (.long lq), .second, .val (.int (1 : Int32)), .val (.int (1 : Int32)), .val (.int (1 : Int32)), .val (.int (2 : Int32)), .unset] [])
    refine go_st (fun _ kq => XS.iloadN X17.here hx rfl (hb hby d6_62) rfl kq) ?_
    show Go p e below s _ _ _ T17 (mkF m 63 #[.val (.ref a), .val (.long lq), .second, .val (.int (1 : Int32)), .val (.int (1 : Int32)), .val (.int (1 : Int32)), .val (.int (2 : Int32)), .unset] [(.int (1 : Int32))])
    refine go_st (fun _ kq => XS.iload X17.here hx rfl (hb hby d6_63) rfl kq) ?_
    show Go p e below s _ _ _ T17 (mkF m 65 #[.val (.ref a), .val (.long lq), .second, .val (.int (1 : Int32)), .val (.int (1 : Int32)), .val (.int (1 : Int32)), .val (.int (2 : Int32)), .unset] [(.int (1 : Int32)), (.int (1 : Int32))])
    refine go_st (fun _ kq => XS.icmpYes X17.here hx rfl (pc0 := 65) (pc' := 102) rfl (hb hby d6_65) rfl (XT.ii_ge_t (by decide)) (by decide) (by decide) kq) ?_
    show Go p e below s _ _ _ T17 (mkF m 102 #[.val (.ref a), .val (.long lq), .second, .val (.int (1 : Int32)), .val (.int (1 : Int32)), .val (.int (1 : Int32)), .val (.int (2 : Int32)), .unset] [])
    refine go_st (fun _ kq => XS.iloadN X17.here hx rfl (hb hby d6_102) rfl kq) ?_
    show Go p e below s _ _ _ T17 (mkF m 103 #[.val (.ref a), .val (.long lq), .second, .val (.int (1 : Int32)), .val (.int (1 : Int32)), .val (.int (1 : Int32)), .val (.int (2 : Int32)), .unset] [(.int (1 : Int32))])
    exact go_retI X17 hx hlk hret (hb hby d6_103) (by decide) (by decide) ⟨rfl, N17, e17⟩
def fCnt2 (fq : Nat → Int64) (hq : Nat) (lq : Int64) : Int32 := (if lq < (fq ((hq + 0) % 3)) then (0 : Int32) else (if lq < (fq ((hq + 1) % 3)) then (1 : Int32) else (2 : Int32)))
theorem ef_cnt2 (m : MethodId) (a : Addr) (lq : Int64) (hq : Nat) (tq : Addr) (fq : Nat → Int64) : entryFrame m #[(.ref a), (.long lq)] 8 = mkF m 0 #[.val (.ref a), .val (.long lq), .second, .unset, .unset, .unset, .unset, .unset] [] := by first | (simp [entryFrame, mkF, argsToLocals, Value.category]; done) | rfl
abbrev rm_cnt2 : Room := ({ frames := 2, cells := 0, slots := 0, locals := 28 } : Room)
set_option maxRecDepth 65536 in
set_option maxHeartbeats 4000000 in
theorem met_cnt2 (l : Launch) (Z : State) (a0 : Array Value) (hw : ∀ d ∈ tables_1, d.before a0 Z = true) (a : Addr) (lq : Int64) (hq : Nat) (tq : Addr) (fq : Nat → Int64) (h0 : Heap) (n0 : Nat) (Z0 : n0 ≤ h0.size) (P0 : Exa Z h0 a "com/example/aforo/aforo/SlidingLog") (P1 : Fld Z h0 a "com/example/aforo/aforo/SlidingLog" "head" "I" (.int (Int32.ofNat hq))) (P2 : Fld Z h0 a "com/example/aforo/aforo/SlidingLog" "times" "[J" (.ref tq)) (P3 : GA Z h0 tq .long 3 (fun i => .long (fq i))) (P4 : hq < 3) (P5 : Fld Z h0 a "com/example/aforo/aforo/SlidingLog" "size" "I" (.int (2 : Int32))) :
    Met l (⟨"com/example/aforo/aforo/SlidingLog", "countedUpTo", "(J)I"⟩ : MethodName) prog_17_method_7_code 8 (some FieldType.int) [] rm_cnt2 Z #[(.ref a), (.long lq)] h0 (QV (some (.int (fCnt2 fq hq lq))) h0 n0) 0 0 := by
  refine own_body pn5 ?_
  intro p e s m below meth c s₁ ct X0 e0
  have ct0 := ct
  obtain ⟨hx, hZ, hown, hby, hml, hret, hlk, hnm⟩ := ct
  have N0 := Fr.nil n0
  refine castGo (ef_cnt2 m a lq hq tq fq) ?_
  unfold fCnt2
  show Go p e below s _ _ _ s₁ (mkF m 0 #[.val (.ref a), .val (.long lq), .second, .unset, .unset, .unset, .unset, .unset] [])
  refine go_st (fun _ kq => XT.iconstV X0.here hx rfl (0 : Int32) (hb hby d6_0) (by decide) kq) ?_
  show Go p e below s _ _ _ s₁ (mkF m 1 #[.val (.ref a), .val (.long lq), .second, .unset, .unset, .unset, .unset, .unset] [(.int (0 : Int32))])
  refine go_st (fun _ kq => XS.istoreN X0.here hx rfl (hb hby d6_1) rfl (l' := #[.val (.ref a), .val (.long lq), .second, .val (.int (0 : Int32)), .unset, .unset, .unset, .unset]) rfl kq) ?_
  show Go p e below s _ _ _ s₁ (mkF m 2 #[.val (.ref a), .val (.long lq), .second, .val (.int (0 : Int32)), .unset, .unset, .unset, .unset] [])
  refine go_st (fun _ kq => XS.aloadN X0.here hx rfl (hb hby d6_2) rfl rfl kq) ?_
  show Go p e below s _ _ _ s₁ (mkF m 3 #[.val (.ref a), .val (.long lq), .second, .val (.int (0 : Int32)), .unset, .unset, .unset, .unset] [(.ref a)])
  refine go_getF X0 hx hZ hown (host := "") (Or.inl (hw _ (List.mem_of_getElem? (i := 34) rfl))) Via.refl e0 P5 (hb hby d6_3) rfl rfl ?_
  intro T18 X18 e18
  show Go p e below s _ _ _ T18 (mkF m 6 #[.val (.ref a), .val (.long lq), .second, .val (.int (0 : Int32)), .unset, .unset, .unset, .unset] [(.int (2 : Int32))])
  refine go_st (fun _ kq => XS.istore X18.here hx rfl (hb hby d6_6) rfl (l' := #[.val (.ref a), .val (.long lq), .second, .val (.int (0 : Int32)), .val (.int (2 : Int32)), .unset, .unset, .unset]) rfl kq) ?_
  show Go p e below s _ _ _ T18 (mkF m 8 #[.val (.ref a), .val (.long lq), .second, .val (.int (0 : Int32)), .val (.int (2 : Int32)), .unset, .unset, .unset] [])
  refine go_st (fun _ kq => XT.iconstV X18.here hx rfl (0 : Int32) (hb hby d6_8) (by decide) kq) ?_
  show Go p e below s _ _ _ T18 (mkF m 9 #[.val (.ref a), .val (.long lq), .second, .val (.int (0 : Int32)), .val (.int (2 : Int32)), .unset, .unset, .unset] [(.int (0 : Int32))])
  refine go_st (fun _ kq => XS.istore X18.here hx rfl (hb hby d6_9) rfl (l' := #[.val (.ref a), .val (.long lq), .second, .val (.int (0 : Int32)), .val (.int (2 : Int32)), .val (.int (0 : Int32)), .unset, .unset]) rfl kq) ?_
  show Go p e below s _ _ _ T18 (mkF m 11 #[.val (.ref a), .val (.long lq), .second, .val (.int (0 : Int32)), .val (.int (2 : Int32)), .val (.int (0 : Int32)), .unset, .unset] [])
  refine go_st (fun _ kq => XT.iconstV X18.here hx rfl (1 : Int32) (hb hby d6_11) (by decide) kq) ?_
  show Go p e below s _ _ _ T18 (mkF m 12 #[.val (.ref a), .val (.long lq), .second, .val (.int (0 : Int32)), .val (.int (2 : Int32)), .val (.int (0 : Int32)), .unset, .unset] [(.int (1 : Int32))])
  refine go_st (fun _ kq => XS.istore X18.here hx rfl (hb hby d6_12) rfl (l' := #[.val (.ref a), .val (.long lq), .second, .val (.int (0 : Int32)), .val (.int (2 : Int32)), .val (.int (0 : Int32)), .val (.int (1 : Int32)), .unset]) rfl kq) ?_
  show Go p e below s _ _ _ T18 (mkF m 14 #[.val (.ref a), .val (.long lq), .second, .val (.int (0 : Int32)), .val (.int (2 : Int32)), .val (.int (0 : Int32)), .val (.int (1 : Int32)), .unset] [])
  refine go_st (fun _ kq => XS.iload X18.here hx rfl (hb hby d6_14) rfl kq) ?_
  show Go p e below s _ _ _ T18 (mkF m 16 #[.val (.ref a), .val (.long lq), .second, .val (.int (0 : Int32)), .val (.int (2 : Int32)), .val (.int (0 : Int32)), .val (.int (1 : Int32)), .unset] [(.int (0 : Int32))])
  refine go_st (fun _ kq => XS.iload X18.here hx rfl (hb hby d6_16) rfl kq) ?_
  show Go p e below s _ _ _ T18 (mkF m 18 #[.val (.ref a), .val (.long lq), .second, .val (.int (0 : Int32)), .val (.int (2 : Int32)), .val (.int (0 : Int32)), .val (.int (1 : Int32)), .unset] [(.int (2 : Int32)), (.int (0 : Int32))])
  refine go_st (fun _ kq => XS.icmpNo X18.here hx rfl (hb hby d6_18) rfl (XT.ii_ge_f (by decide)) kq) ?_
  show Go p e below s _ _ _ T18 (mkF m 21 #[.val (.ref a), .val (.long lq), .second, .val (.int (0 : Int32)), .val (.int (2 : Int32)), .val (.int (0 : Int32)), .val (.int (1 : Int32)), .unset] [])
  refine go_st (fun _ kq => XS.aloadN X18.here hx rfl (hb hby d6_21) rfl rfl kq) ?_
  show Go p e below s _ _ _ T18 (mkF m 22 #[.val (.ref a), .val (.long lq), .second, .val (.int (0 : Int32)), .val (.int (2 : Int32)), .val (.int (0 : Int32)), .val (.int (1 : Int32)), .unset] [(.ref a)])
  refine go_st (fun _ kq => XS.iload X18.here hx rfl (hb hby d6_22) rfl kq) ?_
  show Go p e below s _ _ _ T18 (mkF m 24 #[.val (.ref a), .val (.long lq), .second, .val (.int (0 : Int32)), .val (.int (2 : Int32)), .val (.int (0 : Int32)), .val (.int (1 : Int32)), .unset] [(.int (0 : Int32)), (.ref a)])
  refine go_callP X18 hx hZ hml hown (hw _ (List.mem_of_getElem? (i := 71) rfl)) (hw _ (List.mem_of_getElem? (i := 73) rfl)) (hw _ (List.mem_of_getElem? (i := 1) rfl)) (hw _ (List.mem_of_getElem? (i := 72) rfl)) (hw _ (List.mem_of_getElem? (i := 74) rfl)) (hw _ (List.mem_of_getElem? (i := 2) rfl)) e18 P0 (argsL := [(.int (0 : Int32))]) (rest := []) (W := 0) (met_14 l Z a0 hw a 0 hq tq fq h0 n0 Z0 P0 P1 P2 P3 P4 (by first | assumption | decide | omega)) (hb hby d6_24) rfl rfl rfl (lenOf pd1 rfl) (by show 2 * 0 + _ ≤ _; exact Nat.le_of_eq rfl) (by decide) (by decide) (by decide) (by decide) (by decide) ?_
  intro T19 v19 L19 X19 q19
  obtain ⟨rfl, M19, e19⟩ := q19
  have N19 := Fr.app N0 M19
  show Go p e below s _ _ _ T19 (mkF m 27 #[.val (.ref a), .val (.long lq), .second, .val (.int (0 : Int32)), .val (.int (2 : Int32)), .val (.int (0 : Int32)), .val (.int (1 : Int32)), .unset] [(.long (fq ((hq + 0) % 3)))])
  refine go_st (fun _ kq => XT.lloadN X19.here hx rfl (hb hby d6_27) rfl kq) ?_
  show Go p e below s _ _ _ T19 (mkF m 28 #[.val (.ref a), .val (.long lq), .second, .val (.int (0 : Int32)), .val (.int (2 : Int32)), .val (.int (0 : Int32)), .val (.int (1 : Int32)), .unset] [(.long lq), (.long (fq ((hq + 0) % 3)))])
  refine go_st (fun _ kq => XT.lcmp X19.here hx rfl (hb hby d6_28) rfl kq) ?_
  show Go p e below s _ _ _ T19 (mkF m 29 #[.val (.ref a), .val (.long lq), .second, .val (.int (0 : Int32)), .val (.int (2 : Int32)), .val (.int (0 : Int32)), .val (.int (1 : Int32)), .unset] [(.int (XT.cmpL (fq ((hq + 0) % 3)) lq))])
  by_cases hc20 : lq < (fq ((hq + 0) % 3))
  · rw [if_pos hc20]
    refine go_st (fun _ kq => XS.ifYes X19.here hx rfl (pc0 := 29) (pc' := 53) rfl (hb hby d6_29) rfl (XT.ll_gt_t hc20) (by decide) (by decide) kq) ?_
    show Go p e below s _ _ _ T19 (mkF m 53 #[.val (.ref a), .val (.long lq), .second, .val (.int (0 : Int32)), .val (.int (2 : Int32)), .val (.int (0 : Int32)), .val (.int (1 : Int32)), .unset] [])
    refine go_st (fun _ kq => XS.iload X19.here hx rfl (hb hby d6_53) rfl kq) ?_
    show Go p e below s _ _ _ T19 (mkF m 55 #[.val (.ref a), .val (.long lq), .second, .val (.int (0 : Int32)), .val (.int (2 : Int32)), .val (.int (0 : Int32)), .val (.int (1 : Int32)), .unset] [(.int (2 : Int32))])
    refine go_st (fun _ kq => XS.iload X19.here hx rfl (hb hby d6_55) rfl kq) ?_
    show Go p e below s _ _ _ T19 (mkF m 57 #[.val (.ref a), .val (.long lq), .second, .val (.int (0 : Int32)), .val (.int (2 : Int32)), .val (.int (0 : Int32)), .val (.int (1 : Int32)), .unset] [(.int (0 : Int32)), (.int (2 : Int32))])
    refine go_callS X19 hx hZ hml hown (hw _ (List.mem_of_getElem? (i := 36) rfl)) (hw _ (List.mem_of_getElem? (i := 37) rfl)) (hw _ (List.mem_of_getElem? (i := 38) rfl)) (hw _ (List.mem_of_getElem? (i := 39) rfl)) e19 (argsL := [(.int (2 : Int32)), (.int (0 : Int32))]) (rest := []) (W := 0) (met_7 l Z a0 hw (2 : Int32) (0 : Int32) h0 n0) (hb hby d6_57) rfl rfl rfl (lenOf pd2 rfl) (by show 2 * 0 + _ ≤ _; exact Nat.le_of_eq rfl) (by decide) (by decide) (by decide) (by decide) (by decide) ?_
    intro T21 v21 L21 X21 q21
    obtain ⟨rfl, M21, e21⟩ := q21
    have N21 := Fr.app N19 M21
    rw [show (fMinI (2 : Int32) (0 : Int32)) = (0 : Int32) from by decide +kernel]
    show Go p e below s _ _ _ T21 (mkF m 60 #[.val (.ref a), .val (.long lq), .second, .val (.int (0 : Int32)), .val (.int (2 : Int32)), .val (.int (0 : Int32)), .val (.int (1 : Int32)), .unset] [(.int (0 : Int32))])
    refine go_st (fun _ kq => XS.istore X21.here hx rfl (hb hby d6_60) rfl (l' := #[.val (.ref a), .val (.long lq), .second, .val (.int (0 : Int32)), .val (.int (0 : Int32)), .val (.int (0 : Int32)), .val (.int (1 : Int32)), .unset]) rfl kq) ?_
    show Go p e below s _ _ _ T21 (mkF m 62 #[.val (.ref a), .val (.long lq), .second, .val (.int (0 : Int32)), .val (.int (0 : Int32)), .val (.int (0 : Int32)), .val (.int (1 : Int32)), .unset] [])
    refine go_st (fun _ kq => XS.iloadN X21.here hx rfl (hb hby d6_62) rfl kq) ?_
    show Go p e below s _ _ _ T21 (mkF m 63 #[.val (.ref a), .val (.long lq), .second, .val (.int (0 : Int32)), .val (.int (0 : Int32)), .val (.int (0 : Int32)), .val (.int (1 : Int32)), .unset] [(.int (0 : Int32))])
    refine go_st (fun _ kq => XS.iload X21.here hx rfl (hb hby d6_63) rfl kq) ?_
    show Go p e below s _ _ _ T21 (mkF m 65 #[.val (.ref a), .val (.long lq), .second, .val (.int (0 : Int32)), .val (.int (0 : Int32)), .val (.int (0 : Int32)), .val (.int (1 : Int32)), .unset] [(.int (0 : Int32)), (.int (0 : Int32))])
    refine go_st (fun _ kq => XS.icmpYes X21.here hx rfl (pc0 := 65) (pc' := 102) rfl (hb hby d6_65) rfl (XT.ii_ge_t (by decide)) (by decide) (by decide) kq) ?_
    show Go p e below s _ _ _ T21 (mkF m 102 #[.val (.ref a), .val (.long lq), .second, .val (.int (0 : Int32)), .val (.int (0 : Int32)), .val (.int (0 : Int32)), .val (.int (1 : Int32)), .unset] [])
    refine go_st (fun _ kq => XS.iloadN X21.here hx rfl (hb hby d6_102) rfl kq) ?_
    show Go p e below s _ _ _ T21 (mkF m 103 #[.val (.ref a), .val (.long lq), .second, .val (.int (0 : Int32)), .val (.int (0 : Int32)), .val (.int (0 : Int32)), .val (.int (1 : Int32)), .unset] [(.int (0 : Int32))])
    exact go_retI X21 hx hlk hret (hb hby d6_103) (by decide) (by decide) ⟨rfl, N21, e21⟩
  · rw [if_neg hc20]
    refine go_st (fun _ kq => XS.ifNo X19.here hx rfl (hb hby d6_29) rfl (XT.ll_gt_f hc20) kq) ?_
    show Go p e below s _ _ _ T19 (mkF m 32 #[.val (.ref a), .val (.long lq), .second, .val (.int (0 : Int32)), .val (.int (2 : Int32)), .val (.int (0 : Int32)), .val (.int (1 : Int32)), .unset] [])
    refine go_st (fun _ kq => XS.iload X19.here hx rfl (hb hby d6_32) rfl kq) ?_
    show Go p e below s _ _ _ T19 (mkF m 34 #[.val (.ref a), .val (.long lq), .second, .val (.int (0 : Int32)), .val (.int (2 : Int32)), .val (.int (0 : Int32)), .val (.int (1 : Int32)), .unset] [(.int (0 : Int32))])
    refine go_st (fun _ kq => XT.iconstV X19.here hx rfl (1 : Int32) (hb hby d6_34) (by decide) kq) ?_
    show Go p e below s _ _ _ T19 (mkF m 35 #[.val (.ref a), .val (.long lq), .second, .val (.int (0 : Int32)), .val (.int (2 : Int32)), .val (.int (0 : Int32)), .val (.int (1 : Int32)), .unset] [(.int (1 : Int32)), (.int (0 : Int32))])
    refine go_st (fun _ kq => XS.iadd X19.here hx rfl (hb hby d6_35) rfl kq) ?_
    rw [show ((0 : Int32) + (1 : Int32)) = (1 : Int32) from by decide +kernel]
    show Go p e below s _ _ _ T19 (mkF m 36 #[.val (.ref a), .val (.long lq), .second, .val (.int (0 : Int32)), .val (.int (2 : Int32)), .val (.int (0 : Int32)), .val (.int (1 : Int32)), .unset] [(.int (1 : Int32))])
    refine go_st (fun _ kq => XS.istoreN X19.here hx rfl (hb hby d6_36) rfl (l' := #[.val (.ref a), .val (.long lq), .second, .val (.int (1 : Int32)), .val (.int (2 : Int32)), .val (.int (0 : Int32)), .val (.int (1 : Int32)), .unset]) rfl kq) ?_
    show Go p e below s _ _ _ T19 (mkF m 37 #[.val (.ref a), .val (.long lq), .second, .val (.int (1 : Int32)), .val (.int (2 : Int32)), .val (.int (0 : Int32)), .val (.int (1 : Int32)), .unset] [])
    refine go_st (fun _ kq => XS.iload X19.here hx rfl (hb hby d6_37) rfl kq) ?_
    show Go p e below s _ _ _ T19 (mkF m 39 #[.val (.ref a), .val (.long lq), .second, .val (.int (1 : Int32)), .val (.int (2 : Int32)), .val (.int (0 : Int32)), .val (.int (1 : Int32)), .unset] [(.int (0 : Int32))])
    refine go_st (fun _ kq => XS.iload X19.here hx rfl (hb hby d6_39) rfl kq) ?_
    show Go p e below s _ _ _ T19 (mkF m 41 #[.val (.ref a), .val (.long lq), .second, .val (.int (1 : Int32)), .val (.int (2 : Int32)), .val (.int (0 : Int32)), .val (.int (1 : Int32)), .unset] [(.int (1 : Int32)), (.int (0 : Int32))])
    refine go_st (fun _ kq => XS.iadd X19.here hx rfl (hb hby d6_41) rfl kq) ?_
    rw [show ((0 : Int32) + (1 : Int32)) = (1 : Int32) from by decide +kernel]
    show Go p e below s _ _ _ T19 (mkF m 42 #[.val (.ref a), .val (.long lq), .second, .val (.int (1 : Int32)), .val (.int (2 : Int32)), .val (.int (0 : Int32)), .val (.int (1 : Int32)), .unset] [(.int (1 : Int32))])
    refine go_st (fun _ kq => XS.istore X19.here hx rfl (hb hby d6_42) rfl (l' := #[.val (.ref a), .val (.long lq), .second, .val (.int (1 : Int32)), .val (.int (2 : Int32)), .val (.int (1 : Int32)), .val (.int (1 : Int32)), .unset]) rfl kq) ?_
    show Go p e below s _ _ _ T19 (mkF m 44 #[.val (.ref a), .val (.long lq), .second, .val (.int (1 : Int32)), .val (.int (2 : Int32)), .val (.int (1 : Int32)), .val (.int (1 : Int32)), .unset] [])
    refine go_st (fun _ kq => XS.iload X19.here hx rfl (hb hby d6_44) rfl kq) ?_
    show Go p e below s _ _ _ T19 (mkF m 46 #[.val (.ref a), .val (.long lq), .second, .val (.int (1 : Int32)), .val (.int (2 : Int32)), .val (.int (1 : Int32)), .val (.int (1 : Int32)), .unset] [(.int (1 : Int32))])
    refine go_st (fun _ kq => XT.iconstV X19.here hx rfl (2 : Int32) (hb hby d6_46) (by decide) kq) ?_
    show Go p e below s _ _ _ T19 (mkF m 47 #[.val (.ref a), .val (.long lq), .second, .val (.int (1 : Int32)), .val (.int (2 : Int32)), .val (.int (1 : Int32)), .val (.int (1 : Int32)), .unset] [(.int (2 : Int32)), (.int (1 : Int32))])
    refine go_st (fun _ kq => XS.imul X19.here hx rfl (hb hby d6_47) rfl kq) ?_
    rw [show ((1 : Int32) * (2 : Int32)) = (2 : Int32) from by decide +kernel]
    show Go p e below s _ _ _ T19 (mkF m 48 #[.val (.ref a), .val (.long lq), .second, .val (.int (1 : Int32)), .val (.int (2 : Int32)), .val (.int (1 : Int32)), .val (.int (1 : Int32)), .unset] [(.int (2 : Int32))])
    refine go_st (fun _ kq => XS.istore X19.here hx rfl (hb hby d6_48) rfl (l' := #[.val (.ref a), .val (.long lq), .second, .val (.int (1 : Int32)), .val (.int (2 : Int32)), .val (.int (1 : Int32)), .val (.int (2 : Int32)), .unset]) rfl kq) ?_
    show Go p e below s _ _ _ T19 (mkF m 50 #[.val (.ref a), .val (.long lq), .second, .val (.int (1 : Int32)), .val (.int (2 : Int32)), .val (.int (1 : Int32)), .val (.int (2 : Int32)), .unset] [])
    refine go_st (fun _ kq => XS.goto X19.here hx rfl (pc0 := 50) (pc' := 14) rfl (hb hby d6_50) (by decide) (by decide) kq) ?_
    show Go p e below s _ _ _ T19 (mkF m 14 #[.val (.ref a), .val (.long lq), .second, .val (.int (1 : Int32)), .val (.int (2 : Int32)), .val (.int (1 : Int32)), .val (.int (2 : Int32)), .unset] [])
    refine go_st (fun _ kq => XS.iload X19.here hx rfl (hb hby d6_14) rfl kq) ?_
    show Go p e below s _ _ _ T19 (mkF m 16 #[.val (.ref a), .val (.long lq), .second, .val (.int (1 : Int32)), .val (.int (2 : Int32)), .val (.int (1 : Int32)), .val (.int (2 : Int32)), .unset] [(.int (1 : Int32))])
    refine go_st (fun _ kq => XS.iload X19.here hx rfl (hb hby d6_16) rfl kq) ?_
    show Go p e below s _ _ _ T19 (mkF m 18 #[.val (.ref a), .val (.long lq), .second, .val (.int (1 : Int32)), .val (.int (2 : Int32)), .val (.int (1 : Int32)), .val (.int (2 : Int32)), .unset] [(.int (2 : Int32)), (.int (1 : Int32))])
    refine go_st (fun _ kq => XS.icmpNo X19.here hx rfl (hb hby d6_18) rfl (XT.ii_ge_f (by decide)) kq) ?_
    show Go p e below s _ _ _ T19 (mkF m 21 #[.val (.ref a), .val (.long lq), .second, .val (.int (1 : Int32)), .val (.int (2 : Int32)), .val (.int (1 : Int32)), .val (.int (2 : Int32)), .unset] [])
    refine go_st (fun _ kq => XS.aloadN X19.here hx rfl (hb hby d6_21) rfl rfl kq) ?_
    show Go p e below s _ _ _ T19 (mkF m 22 #[.val (.ref a), .val (.long lq), .second, .val (.int (1 : Int32)), .val (.int (2 : Int32)), .val (.int (1 : Int32)), .val (.int (2 : Int32)), .unset] [(.ref a)])
    refine go_st (fun _ kq => XS.iload X19.here hx rfl (hb hby d6_22) rfl kq) ?_
    show Go p e below s _ _ _ T19 (mkF m 24 #[.val (.ref a), .val (.long lq), .second, .val (.int (1 : Int32)), .val (.int (2 : Int32)), .val (.int (1 : Int32)), .val (.int (2 : Int32)), .unset] [(.int (1 : Int32)), (.ref a)])
    refine go_callP X19 hx hZ hml hown (hw _ (List.mem_of_getElem? (i := 71) rfl)) (hw _ (List.mem_of_getElem? (i := 73) rfl)) (hw _ (List.mem_of_getElem? (i := 1) rfl)) (hw _ (List.mem_of_getElem? (i := 72) rfl)) (hw _ (List.mem_of_getElem? (i := 74) rfl)) (hw _ (List.mem_of_getElem? (i := 2) rfl)) e19 P0 (argsL := [(.int (1 : Int32))]) (rest := []) (W := 0) (met_14 l Z a0 hw a 1 hq tq fq h0 n0 Z0 P0 P1 P2 P3 P4 (by first | assumption | decide | omega)) (hb hby d6_24) rfl rfl rfl (lenOf pd1 rfl) (by show 2 * 0 + _ ≤ _; exact Nat.le_of_eq rfl) (by decide) (by decide) (by decide) (by decide) (by decide) ?_
    intro T22 v22 L22 X22 q22
    obtain ⟨rfl, M22, e22⟩ := q22
    have N22 := Fr.app N19 M22
    show Go p e below s _ _ _ T22 (mkF m 27 #[.val (.ref a), .val (.long lq), .second, .val (.int (1 : Int32)), .val (.int (2 : Int32)), .val (.int (1 : Int32)), .val (.int (2 : Int32)), .unset] [(.long (fq ((hq + 1) % 3)))])
    refine go_st (fun _ kq => XT.lloadN X22.here hx rfl (hb hby d6_27) rfl kq) ?_
    show Go p e below s _ _ _ T22 (mkF m 28 #[.val (.ref a), .val (.long lq), .second, .val (.int (1 : Int32)), .val (.int (2 : Int32)), .val (.int (1 : Int32)), .val (.int (2 : Int32)), .unset] [(.long lq), (.long (fq ((hq + 1) % 3)))])
    refine go_st (fun _ kq => XT.lcmp X22.here hx rfl (hb hby d6_28) rfl kq) ?_
    show Go p e below s _ _ _ T22 (mkF m 29 #[.val (.ref a), .val (.long lq), .second, .val (.int (1 : Int32)), .val (.int (2 : Int32)), .val (.int (1 : Int32)), .val (.int (2 : Int32)), .unset] [(.int (XT.cmpL (fq ((hq + 1) % 3)) lq))])
    by_cases hc23 : lq < (fq ((hq + 1) % 3))
    · rw [if_pos hc23]
      refine go_st (fun _ kq => XS.ifYes X22.here hx rfl (pc0 := 29) (pc' := 53) rfl (hb hby d6_29) rfl (XT.ll_gt_t hc23) (by decide) (by decide) kq) ?_
      show Go p e below s _ _ _ T22 (mkF m 53 #[.val (.ref a), .val (.long lq), .second, .val (.int (1 : Int32)), .val (.int (2 : Int32)), .val (.int (1 : Int32)), .val (.int (2 : Int32)), .unset] [])
      refine go_st (fun _ kq => XS.iload X22.here hx rfl (hb hby d6_53) rfl kq) ?_
      show Go p e below s _ _ _ T22 (mkF m 55 #[.val (.ref a), .val (.long lq), .second, .val (.int (1 : Int32)), .val (.int (2 : Int32)), .val (.int (1 : Int32)), .val (.int (2 : Int32)), .unset] [(.int (2 : Int32))])
      refine go_st (fun _ kq => XS.iload X22.here hx rfl (hb hby d6_55) rfl kq) ?_
      show Go p e below s _ _ _ T22 (mkF m 57 #[.val (.ref a), .val (.long lq), .second, .val (.int (1 : Int32)), .val (.int (2 : Int32)), .val (.int (1 : Int32)), .val (.int (2 : Int32)), .unset] [(.int (1 : Int32)), (.int (2 : Int32))])
      refine go_callS X22 hx hZ hml hown (hw _ (List.mem_of_getElem? (i := 36) rfl)) (hw _ (List.mem_of_getElem? (i := 37) rfl)) (hw _ (List.mem_of_getElem? (i := 38) rfl)) (hw _ (List.mem_of_getElem? (i := 39) rfl)) e22 (argsL := [(.int (2 : Int32)), (.int (1 : Int32))]) (rest := []) (W := 0) (met_7 l Z a0 hw (2 : Int32) (1 : Int32) h0 n0) (hb hby d6_57) rfl rfl rfl (lenOf pd2 rfl) (by show 2 * 0 + _ ≤ _; exact Nat.le_of_eq rfl) (by decide) (by decide) (by decide) (by decide) (by decide) ?_
      intro T24 v24 L24 X24 q24
      obtain ⟨rfl, M24, e24⟩ := q24
      have N24 := Fr.app N22 M24
      rw [show (fMinI (2 : Int32) (1 : Int32)) = (1 : Int32) from by decide +kernel]
      show Go p e below s _ _ _ T24 (mkF m 60 #[.val (.ref a), .val (.long lq), .second, .val (.int (1 : Int32)), .val (.int (2 : Int32)), .val (.int (1 : Int32)), .val (.int (2 : Int32)), .unset] [(.int (1 : Int32))])
      refine go_st (fun _ kq => XS.istore X24.here hx rfl (hb hby d6_60) rfl (l' := #[.val (.ref a), .val (.long lq), .second, .val (.int (1 : Int32)), .val (.int (1 : Int32)), .val (.int (1 : Int32)), .val (.int (2 : Int32)), .unset]) rfl kq) ?_
      show Go p e below s _ _ _ T24 (mkF m 62 #[.val (.ref a), .val (.long lq), .second, .val (.int (1 : Int32)), .val (.int (1 : Int32)), .val (.int (1 : Int32)), .val (.int (2 : Int32)), .unset] [])
      refine go_st (fun _ kq => XS.iloadN X24.here hx rfl (hb hby d6_62) rfl kq) ?_
      show Go p e below s _ _ _ T24 (mkF m 63 #[.val (.ref a), .val (.long lq), .second, .val (.int (1 : Int32)), .val (.int (1 : Int32)), .val (.int (1 : Int32)), .val (.int (2 : Int32)), .unset] [(.int (1 : Int32))])
      refine go_st (fun _ kq => XS.iload X24.here hx rfl (hb hby d6_63) rfl kq) ?_
      show Go p e below s _ _ _ T24 (mkF m 65 #[.val (.ref a), .val (.long lq), .second, .val (.int (1 : Int32)), .val (.int (1 : Int32)), .val (.int (1 : Int32)), .val (.int (2 : Int32)), .unset] [(.int (1 : Int32)), (.int (1 : Int32))])
      refine go_st (fun _ kq => XS.icmpYes X24.here hx rfl (pc0 := 65) (pc' := 102) rfl (hb hby d6_65) rfl (XT.ii_ge_t (by decide)) (by decide) (by decide) kq) ?_
      show Go p e below s _ _ _ T24 (mkF m 102 #[.val (.ref a), .val (.long lq), .second, .val (.int (1 : Int32)), .val (.int (1 : Int32)), .val (.int (1 : Int32)), .val (.int (2 : Int32)), .unset] [])
      refine go_st (fun _ kq => XS.iloadN X24.here hx rfl (hb hby d6_102) rfl kq) ?_
      show Go p e below s _ _ _ T24 (mkF m 103 #[.val (.ref a), .val (.long lq), .second, .val (.int (1 : Int32)), .val (.int (1 : Int32)), .val (.int (1 : Int32)), .val (.int (2 : Int32)), .unset] [(.int (1 : Int32))])
      exact go_retI X24 hx hlk hret (hb hby d6_103) (by decide) (by decide) ⟨rfl, N24, e24⟩
    · rw [if_neg hc23]
      refine go_st (fun _ kq => XS.ifNo X22.here hx rfl (hb hby d6_29) rfl (XT.ll_gt_f hc23) kq) ?_
      show Go p e below s _ _ _ T22 (mkF m 32 #[.val (.ref a), .val (.long lq), .second, .val (.int (1 : Int32)), .val (.int (2 : Int32)), .val (.int (1 : Int32)), .val (.int (2 : Int32)), .unset] [])
      refine go_st (fun _ kq => XS.iload X22.here hx rfl (hb hby d6_32) rfl kq) ?_
      show Go p e below s _ _ _ T22 (mkF m 34 #[.val (.ref a), .val (.long lq), .second, .val (.int (1 : Int32)), .val (.int (2 : Int32)), .val (.int (1 : Int32)), .val (.int (2 : Int32)), .unset] [(.int (1 : Int32))])
      refine go_st (fun _ kq => XT.iconstV X22.here hx rfl (1 : Int32) (hb hby d6_34) (by decide) kq) ?_
      show Go p e below s _ _ _ T22 (mkF m 35 #[.val (.ref a), .val (.long lq), .second, .val (.int (1 : Int32)), .val (.int (2 : Int32)), .val (.int (1 : Int32)), .val (.int (2 : Int32)), .unset] [(.int (1 : Int32)), (.int (1 : Int32))])
      refine go_st (fun _ kq => XS.iadd X22.here hx rfl (hb hby d6_35) rfl kq) ?_
      rw [show ((1 : Int32) + (1 : Int32)) = (2 : Int32) from by decide +kernel]
      show Go p e below s _ _ _ T22 (mkF m 36 #[.val (.ref a), .val (.long lq), .second, .val (.int (1 : Int32)), .val (.int (2 : Int32)), .val (.int (1 : Int32)), .val (.int (2 : Int32)), .unset] [(.int (2 : Int32))])
      refine go_st (fun _ kq => XS.istoreN X22.here hx rfl (hb hby d6_36) rfl (l' := #[.val (.ref a), .val (.long lq), .second, .val (.int (2 : Int32)), .val (.int (2 : Int32)), .val (.int (1 : Int32)), .val (.int (2 : Int32)), .unset]) rfl kq) ?_
      show Go p e below s _ _ _ T22 (mkF m 37 #[.val (.ref a), .val (.long lq), .second, .val (.int (2 : Int32)), .val (.int (2 : Int32)), .val (.int (1 : Int32)), .val (.int (2 : Int32)), .unset] [])
      refine go_st (fun _ kq => XS.iload X22.here hx rfl (hb hby d6_37) rfl kq) ?_
      show Go p e below s _ _ _ T22 (mkF m 39 #[.val (.ref a), .val (.long lq), .second, .val (.int (2 : Int32)), .val (.int (2 : Int32)), .val (.int (1 : Int32)), .val (.int (2 : Int32)), .unset] [(.int (1 : Int32))])
      refine go_st (fun _ kq => XS.iload X22.here hx rfl (hb hby d6_39) rfl kq) ?_
      show Go p e below s _ _ _ T22 (mkF m 41 #[.val (.ref a), .val (.long lq), .second, .val (.int (2 : Int32)), .val (.int (2 : Int32)), .val (.int (1 : Int32)), .val (.int (2 : Int32)), .unset] [(.int (2 : Int32)), (.int (1 : Int32))])
      refine go_st (fun _ kq => XS.iadd X22.here hx rfl (hb hby d6_41) rfl kq) ?_
      rw [show ((1 : Int32) + (2 : Int32)) = (3 : Int32) from by decide +kernel]
      show Go p e below s _ _ _ T22 (mkF m 42 #[.val (.ref a), .val (.long lq), .second, .val (.int (2 : Int32)), .val (.int (2 : Int32)), .val (.int (1 : Int32)), .val (.int (2 : Int32)), .unset] [(.int (3 : Int32))])
      refine go_st (fun _ kq => XS.istore X22.here hx rfl (hb hby d6_42) rfl (l' := #[.val (.ref a), .val (.long lq), .second, .val (.int (2 : Int32)), .val (.int (2 : Int32)), .val (.int (3 : Int32)), .val (.int (2 : Int32)), .unset]) rfl kq) ?_
      show Go p e below s _ _ _ T22 (mkF m 44 #[.val (.ref a), .val (.long lq), .second, .val (.int (2 : Int32)), .val (.int (2 : Int32)), .val (.int (3 : Int32)), .val (.int (2 : Int32)), .unset] [])
      refine go_st (fun _ kq => XS.iload X22.here hx rfl (hb hby d6_44) rfl kq) ?_
      show Go p e below s _ _ _ T22 (mkF m 46 #[.val (.ref a), .val (.long lq), .second, .val (.int (2 : Int32)), .val (.int (2 : Int32)), .val (.int (3 : Int32)), .val (.int (2 : Int32)), .unset] [(.int (2 : Int32))])
      refine go_st (fun _ kq => XT.iconstV X22.here hx rfl (2 : Int32) (hb hby d6_46) (by decide) kq) ?_
      show Go p e below s _ _ _ T22 (mkF m 47 #[.val (.ref a), .val (.long lq), .second, .val (.int (2 : Int32)), .val (.int (2 : Int32)), .val (.int (3 : Int32)), .val (.int (2 : Int32)), .unset] [(.int (2 : Int32)), (.int (2 : Int32))])
      refine go_st (fun _ kq => XS.imul X22.here hx rfl (hb hby d6_47) rfl kq) ?_
      rw [show ((2 : Int32) * (2 : Int32)) = (4 : Int32) from by decide +kernel]
      show Go p e below s _ _ _ T22 (mkF m 48 #[.val (.ref a), .val (.long lq), .second, .val (.int (2 : Int32)), .val (.int (2 : Int32)), .val (.int (3 : Int32)), .val (.int (2 : Int32)), .unset] [(.int (4 : Int32))])
      refine go_st (fun _ kq => XS.istore X22.here hx rfl (hb hby d6_48) rfl (l' := #[.val (.ref a), .val (.long lq), .second, .val (.int (2 : Int32)), .val (.int (2 : Int32)), .val (.int (3 : Int32)), .val (.int (4 : Int32)), .unset]) rfl kq) ?_
      show Go p e below s _ _ _ T22 (mkF m 50 #[.val (.ref a), .val (.long lq), .second, .val (.int (2 : Int32)), .val (.int (2 : Int32)), .val (.int (3 : Int32)), .val (.int (4 : Int32)), .unset] [])
      refine go_st (fun _ kq => XS.goto X22.here hx rfl (pc0 := 50) (pc' := 14) rfl (hb hby d6_50) (by decide) (by decide) kq) ?_
      show Go p e below s _ _ _ T22 (mkF m 14 #[.val (.ref a), .val (.long lq), .second, .val (.int (2 : Int32)), .val (.int (2 : Int32)), .val (.int (3 : Int32)), .val (.int (4 : Int32)), .unset] [])
      refine go_st (fun _ kq => XS.iload X22.here hx rfl (hb hby d6_14) rfl kq) ?_
      show Go p e below s _ _ _ T22 (mkF m 16 #[.val (.ref a), .val (.long lq), .second, .val (.int (2 : Int32)), .val (.int (2 : Int32)), .val (.int (3 : Int32)), .val (.int (4 : Int32)), .unset] [(.int (3 : Int32))])
      refine go_st (fun _ kq => XS.iload X22.here hx rfl (hb hby d6_16) rfl kq) ?_
      show Go p e below s _ _ _ T22 (mkF m 18 #[.val (.ref a), .val (.long lq), .second, .val (.int (2 : Int32)), .val (.int (2 : Int32)), .val (.int (3 : Int32)), .val (.int (4 : Int32)), .unset] [(.int (2 : Int32)), (.int (3 : Int32))])
      refine go_st (fun _ kq => XS.icmpYes X22.here hx rfl (pc0 := 18) (pc' := 53) rfl (hb hby d6_18) rfl (XT.ii_ge_t (by decide)) (by decide) (by decide) kq) ?_
      show Go p e below s _ _ _ T22 (mkF m 53 #[.val (.ref a), .val (.long lq), .second, .val (.int (2 : Int32)), .val (.int (2 : Int32)), .val (.int (3 : Int32)), .val (.int (4 : Int32)), .unset] [])
      refine go_st (fun _ kq => XS.iload X22.here hx rfl (hb hby d6_53) rfl kq) ?_
      show Go p e below s _ _ _ T22 (mkF m 55 #[.val (.ref a), .val (.long lq), .second, .val (.int (2 : Int32)), .val (.int (2 : Int32)), .val (.int (3 : Int32)), .val (.int (4 : Int32)), .unset] [(.int (2 : Int32))])
      refine go_st (fun _ kq => XS.iload X22.here hx rfl (hb hby d6_55) rfl kq) ?_
      show Go p e below s _ _ _ T22 (mkF m 57 #[.val (.ref a), .val (.long lq), .second, .val (.int (2 : Int32)), .val (.int (2 : Int32)), .val (.int (3 : Int32)), .val (.int (4 : Int32)), .unset] [(.int (3 : Int32)), (.int (2 : Int32))])
      refine go_callS X22 hx hZ hml hown (hw _ (List.mem_of_getElem? (i := 36) rfl)) (hw _ (List.mem_of_getElem? (i := 37) rfl)) (hw _ (List.mem_of_getElem? (i := 38) rfl)) (hw _ (List.mem_of_getElem? (i := 39) rfl)) e22 (argsL := [(.int (2 : Int32)), (.int (3 : Int32))]) (rest := []) (W := 0) (met_7 l Z a0 hw (2 : Int32) (3 : Int32) h0 n0) (hb hby d6_57) rfl rfl rfl (lenOf pd2 rfl) (by show 2 * 0 + _ ≤ _; exact Nat.le_of_eq rfl) (by decide) (by decide) (by decide) (by decide) (by decide) ?_
      intro T25 v25 L25 X25 q25
      obtain ⟨rfl, M25, e25⟩ := q25
      have N25 := Fr.app N22 M25
      rw [show (fMinI (2 : Int32) (3 : Int32)) = (2 : Int32) from by decide +kernel]
      show Go p e below s _ _ _ T25 (mkF m 60 #[.val (.ref a), .val (.long lq), .second, .val (.int (2 : Int32)), .val (.int (2 : Int32)), .val (.int (3 : Int32)), .val (.int (4 : Int32)), .unset] [(.int (2 : Int32))])
      refine go_st (fun _ kq => XS.istore X25.here hx rfl (hb hby d6_60) rfl (l' := #[.val (.ref a), .val (.long lq), .second, .val (.int (2 : Int32)), .val (.int (2 : Int32)), .val (.int (3 : Int32)), .val (.int (4 : Int32)), .unset]) rfl kq) ?_
      show Go p e below s _ _ _ T25 (mkF m 62 #[.val (.ref a), .val (.long lq), .second, .val (.int (2 : Int32)), .val (.int (2 : Int32)), .val (.int (3 : Int32)), .val (.int (4 : Int32)), .unset] [])
      refine go_st (fun _ kq => XS.iloadN X25.here hx rfl (hb hby d6_62) rfl kq) ?_
      show Go p e below s _ _ _ T25 (mkF m 63 #[.val (.ref a), .val (.long lq), .second, .val (.int (2 : Int32)), .val (.int (2 : Int32)), .val (.int (3 : Int32)), .val (.int (4 : Int32)), .unset] [(.int (2 : Int32))])
      refine go_st (fun _ kq => XS.iload X25.here hx rfl (hb hby d6_63) rfl kq) ?_
      show Go p e below s _ _ _ T25 (mkF m 65 #[.val (.ref a), .val (.long lq), .second, .val (.int (2 : Int32)), .val (.int (2 : Int32)), .val (.int (3 : Int32)), .val (.int (4 : Int32)), .unset] [(.int (2 : Int32)), (.int (2 : Int32))])
      refine go_st (fun _ kq => XS.icmpYes X25.here hx rfl (pc0 := 65) (pc' := 102) rfl (hb hby d6_65) rfl (XT.ii_ge_t (by decide)) (by decide) (by decide) kq) ?_
      show Go p e below s _ _ _ T25 (mkF m 102 #[.val (.ref a), .val (.long lq), .second, .val (.int (2 : Int32)), .val (.int (2 : Int32)), .val (.int (3 : Int32)), .val (.int (4 : Int32)), .unset] [])
      refine go_st (fun _ kq => XS.iloadN X25.here hx rfl (hb hby d6_102) rfl kq) ?_
      show Go p e below s _ _ _ T25 (mkF m 103 #[.val (.ref a), .val (.long lq), .second, .val (.int (2 : Int32)), .val (.int (2 : Int32)), .val (.int (3 : Int32)), .val (.int (4 : Int32)), .unset] [(.int (2 : Int32))])
      exact go_retI X25 hx hlk hret (hb hby d6_103) (by decide) (by decide) ⟨rfl, N25, e25⟩
def fCntZ  : Int32 := (0 : Int32)
theorem ef_cntz (m : MethodId) (a : Addr) (lq : Int64) : entryFrame m #[(.ref a), (.long lq)] 8 = mkF m 0 #[.val (.ref a), .val (.long lq), .second, .unset, .unset, .unset, .unset, .unset] [] := by first | (simp [entryFrame, mkF, argsToLocals, Value.category]; done) | rfl
abbrev rm_cntz : Room := ({ frames := 1, cells := 0, slots := 0, locals := 13 } : Room)
set_option maxRecDepth 65536 in
set_option maxHeartbeats 4000000 in
theorem met_cntz (l : Launch) (Z : State) (a0 : Array Value) (hw : ∀ d ∈ tables_1, d.before a0 Z = true) (a : Addr) (lq : Int64) (h0 : Heap) (n0 : Nat) (Z0 : n0 ≤ h0.size) (P0 : Exa Z h0 a "com/example/aforo/aforo/SlidingLog") (P1 : Fld Z h0 a "com/example/aforo/aforo/SlidingLog" "size" "I" (.int (0 : Int32))) :
    Met l (⟨"com/example/aforo/aforo/SlidingLog", "countedUpTo", "(J)I"⟩ : MethodName) prog_17_method_7_code 8 (some FieldType.int) [] rm_cntz Z #[(.ref a), (.long lq)] h0 (QV (some (.int (fCntZ ))) h0 n0) 0 0 := by
  refine own_body pn5 ?_
  intro p e s m below meth c s₁ ct X0 e0
  have ct0 := ct
  obtain ⟨hx, hZ, hown, hby, hml, hret, hlk, hnm⟩ := ct
  have N0 := Fr.nil n0
  refine castGo (ef_cntz m a lq) ?_
  unfold fCntZ
  show Go p e below s _ _ _ s₁ (mkF m 0 #[.val (.ref a), .val (.long lq), .second, .unset, .unset, .unset, .unset, .unset] [])
  refine go_st (fun _ kq => XT.iconstV X0.here hx rfl (0 : Int32) (hb hby d6_0) (by decide) kq) ?_
  show Go p e below s _ _ _ s₁ (mkF m 1 #[.val (.ref a), .val (.long lq), .second, .unset, .unset, .unset, .unset, .unset] [(.int (0 : Int32))])
  refine go_st (fun _ kq => XS.istoreN X0.here hx rfl (hb hby d6_1) rfl (l' := #[.val (.ref a), .val (.long lq), .second, .val (.int (0 : Int32)), .unset, .unset, .unset, .unset]) rfl kq) ?_
  show Go p e below s _ _ _ s₁ (mkF m 2 #[.val (.ref a), .val (.long lq), .second, .val (.int (0 : Int32)), .unset, .unset, .unset, .unset] [])
  refine go_st (fun _ kq => XS.aloadN X0.here hx rfl (hb hby d6_2) rfl rfl kq) ?_
  show Go p e below s _ _ _ s₁ (mkF m 3 #[.val (.ref a), .val (.long lq), .second, .val (.int (0 : Int32)), .unset, .unset, .unset, .unset] [(.ref a)])
  refine go_getF X0 hx hZ hown (host := "") (Or.inl (hw _ (List.mem_of_getElem? (i := 34) rfl))) Via.refl e0 P1 (hb hby d6_3) rfl rfl ?_
  intro T26 X26 e26
  show Go p e below s _ _ _ T26 (mkF m 6 #[.val (.ref a), .val (.long lq), .second, .val (.int (0 : Int32)), .unset, .unset, .unset, .unset] [(.int (0 : Int32))])
  refine go_st (fun _ kq => XS.istore X26.here hx rfl (hb hby d6_6) rfl (l' := #[.val (.ref a), .val (.long lq), .second, .val (.int (0 : Int32)), .val (.int (0 : Int32)), .unset, .unset, .unset]) rfl kq) ?_
  show Go p e below s _ _ _ T26 (mkF m 8 #[.val (.ref a), .val (.long lq), .second, .val (.int (0 : Int32)), .val (.int (0 : Int32)), .unset, .unset, .unset] [])
  refine go_st (fun _ kq => XT.iconstV X26.here hx rfl (0 : Int32) (hb hby d6_8) (by decide) kq) ?_
  show Go p e below s _ _ _ T26 (mkF m 9 #[.val (.ref a), .val (.long lq), .second, .val (.int (0 : Int32)), .val (.int (0 : Int32)), .unset, .unset, .unset] [(.int (0 : Int32))])
  refine go_st (fun _ kq => XS.istore X26.here hx rfl (hb hby d6_9) rfl (l' := #[.val (.ref a), .val (.long lq), .second, .val (.int (0 : Int32)), .val (.int (0 : Int32)), .val (.int (0 : Int32)), .unset, .unset]) rfl kq) ?_
  show Go p e below s _ _ _ T26 (mkF m 11 #[.val (.ref a), .val (.long lq), .second, .val (.int (0 : Int32)), .val (.int (0 : Int32)), .val (.int (0 : Int32)), .unset, .unset] [])
  refine go_st (fun _ kq => XT.iconstV X26.here hx rfl (1 : Int32) (hb hby d6_11) (by decide) kq) ?_
  show Go p e below s _ _ _ T26 (mkF m 12 #[.val (.ref a), .val (.long lq), .second, .val (.int (0 : Int32)), .val (.int (0 : Int32)), .val (.int (0 : Int32)), .unset, .unset] [(.int (1 : Int32))])
  refine go_st (fun _ kq => XS.istore X26.here hx rfl (hb hby d6_12) rfl (l' := #[.val (.ref a), .val (.long lq), .second, .val (.int (0 : Int32)), .val (.int (0 : Int32)), .val (.int (0 : Int32)), .val (.int (1 : Int32)), .unset]) rfl kq) ?_
  show Go p e below s _ _ _ T26 (mkF m 14 #[.val (.ref a), .val (.long lq), .second, .val (.int (0 : Int32)), .val (.int (0 : Int32)), .val (.int (0 : Int32)), .val (.int (1 : Int32)), .unset] [])
  refine go_st (fun _ kq => XS.iload X26.here hx rfl (hb hby d6_14) rfl kq) ?_
  show Go p e below s _ _ _ T26 (mkF m 16 #[.val (.ref a), .val (.long lq), .second, .val (.int (0 : Int32)), .val (.int (0 : Int32)), .val (.int (0 : Int32)), .val (.int (1 : Int32)), .unset] [(.int (0 : Int32))])
  refine go_st (fun _ kq => XS.iload X26.here hx rfl (hb hby d6_16) rfl kq) ?_
  show Go p e below s _ _ _ T26 (mkF m 18 #[.val (.ref a), .val (.long lq), .second, .val (.int (0 : Int32)), .val (.int (0 : Int32)), .val (.int (0 : Int32)), .val (.int (1 : Int32)), .unset] [(.int (0 : Int32)), (.int (0 : Int32))])
  refine go_st (fun _ kq => XS.icmpYes X26.here hx rfl (pc0 := 18) (pc' := 53) rfl (hb hby d6_18) rfl (XT.ii_ge_t (by decide)) (by decide) (by decide) kq) ?_
  show Go p e below s _ _ _ T26 (mkF m 53 #[.val (.ref a), .val (.long lq), .second, .val (.int (0 : Int32)), .val (.int (0 : Int32)), .val (.int (0 : Int32)), .val (.int (1 : Int32)), .unset] [])
  refine go_st (fun _ kq => XS.iload X26.here hx rfl (hb hby d6_53) rfl kq) ?_
  show Go p e below s _ _ _ T26 (mkF m 55 #[.val (.ref a), .val (.long lq), .second, .val (.int (0 : Int32)), .val (.int (0 : Int32)), .val (.int (0 : Int32)), .val (.int (1 : Int32)), .unset] [(.int (0 : Int32))])
  refine go_st (fun _ kq => XS.iload X26.here hx rfl (hb hby d6_55) rfl kq) ?_
  show Go p e below s _ _ _ T26 (mkF m 57 #[.val (.ref a), .val (.long lq), .second, .val (.int (0 : Int32)), .val (.int (0 : Int32)), .val (.int (0 : Int32)), .val (.int (1 : Int32)), .unset] [(.int (0 : Int32)), (.int (0 : Int32))])
  refine go_callS X26 hx hZ hml hown (hw _ (List.mem_of_getElem? (i := 36) rfl)) (hw _ (List.mem_of_getElem? (i := 37) rfl)) (hw _ (List.mem_of_getElem? (i := 38) rfl)) (hw _ (List.mem_of_getElem? (i := 39) rfl)) e26 (argsL := [(.int (0 : Int32)), (.int (0 : Int32))]) (rest := []) (W := 0) (met_7 l Z a0 hw (0 : Int32) (0 : Int32) h0 n0) (hb hby d6_57) rfl rfl rfl (lenOf pd2 rfl) (by show 2 * 0 + _ ≤ _; exact Nat.le_of_eq rfl) (by decide) (by decide) (by decide) (by decide) (by decide) ?_
  intro T27 v27 L27 X27 q27
  obtain ⟨rfl, M27, e27⟩ := q27
  have N27 := Fr.app N0 M27
  rw [show (fMinI (0 : Int32) (0 : Int32)) = (0 : Int32) from by decide +kernel]
  show Go p e below s _ _ _ T27 (mkF m 60 #[.val (.ref a), .val (.long lq), .second, .val (.int (0 : Int32)), .val (.int (0 : Int32)), .val (.int (0 : Int32)), .val (.int (1 : Int32)), .unset] [(.int (0 : Int32))])
  refine go_st (fun _ kq => XS.istore X27.here hx rfl (hb hby d6_60) rfl (l' := #[.val (.ref a), .val (.long lq), .second, .val (.int (0 : Int32)), .val (.int (0 : Int32)), .val (.int (0 : Int32)), .val (.int (1 : Int32)), .unset]) rfl kq) ?_
  show Go p e below s _ _ _ T27 (mkF m 62 #[.val (.ref a), .val (.long lq), .second, .val (.int (0 : Int32)), .val (.int (0 : Int32)), .val (.int (0 : Int32)), .val (.int (1 : Int32)), .unset] [])
  refine go_st (fun _ kq => XS.iloadN X27.here hx rfl (hb hby d6_62) rfl kq) ?_
  show Go p e below s _ _ _ T27 (mkF m 63 #[.val (.ref a), .val (.long lq), .second, .val (.int (0 : Int32)), .val (.int (0 : Int32)), .val (.int (0 : Int32)), .val (.int (1 : Int32)), .unset] [(.int (0 : Int32))])
  refine go_st (fun _ kq => XS.iload X27.here hx rfl (hb hby d6_63) rfl kq) ?_
  show Go p e below s _ _ _ T27 (mkF m 65 #[.val (.ref a), .val (.long lq), .second, .val (.int (0 : Int32)), .val (.int (0 : Int32)), .val (.int (0 : Int32)), .val (.int (1 : Int32)), .unset] [(.int (0 : Int32)), (.int (0 : Int32))])
  refine go_st (fun _ kq => XS.icmpYes X27.here hx rfl (pc0 := 65) (pc' := 102) rfl (hb hby d6_65) rfl (XT.ii_ge_t (by decide)) (by decide) (by decide) kq) ?_
  show Go p e below s _ _ _ T27 (mkF m 102 #[.val (.ref a), .val (.long lq), .second, .val (.int (0 : Int32)), .val (.int (0 : Int32)), .val (.int (0 : Int32)), .val (.int (1 : Int32)), .unset] [])
  refine go_st (fun _ kq => XS.iloadN X27.here hx rfl (hb hby d6_102) rfl kq) ?_
  show Go p e below s _ _ _ T27 (mkF m 103 #[.val (.ref a), .val (.long lq), .second, .val (.int (0 : Int32)), .val (.int (0 : Int32)), .val (.int (0 : Int32)), .val (.int (1 : Int32)), .unset] [(.int (0 : Int32))])
  exact go_retI X27 hx hlk hret (hb hby d6_103) (by decide) (by decide) ⟨rfl, N27, e27⟩
theorem own_cnt1 {f : Nat → Int64} {h : Nat} {l : Int64} (q : fCnt1 f h l = 1) : ¬ l < f ((h + 0) % 3) := by
  unfold fCnt1 at q
  intro hc
  rw [if_pos hc] at q
  exact absurd q (by decide)
theorem own_cnt1' {f : Nat → Int64} {h : Nat} {l : Int64} (q0 : ¬ fCnt1 f h l = 0) (q1 : ¬ fCnt1 f h l = 1) : False := by
  unfold fCnt1 at q0 q1
  revert q0 q1
  repeat' split
  all_goals simp
theorem own_cnt2 {f : Nat → Int64} {h : Nat} {l : Int64} (q : fCnt2 f h l = 2) : ¬ l < f ((h + 1) % 3) := by
  unfold fCnt2 at q
  intro hc
  revert q
  repeat' split
  all_goals first | (intro q; revert q; decide) | contradiction
theorem own_cnt2' {f : Nat → Int64} {h : Nat} {l : Int64} (q0 : ¬ fCnt2 f h l = 0) (q1 : ¬ fCnt2 f h l = 1) (q2 : ¬ fCnt2 f h l = 2) : False := by
  unfold fCnt2 at q0 q1 q2
  revert q0 q1 q2
  repeat' split
  all_goals simp

theorem d5_0 : decode prog_17_method_6_code 0 = .ok (.aload_n 0, 1) := by decide +kernel
theorem d5_1 : decode prog_17_method_6_code 1 = .ok (.lload_n 1, 1) := by decide +kernel
theorem d5_2 : decode prog_17_method_6_code 2 = .ok (.invokevirtual 45, 3) := by decide +kernel
theorem d5_5 : decode prog_17_method_6_code 5 = .ok (.istore_n 3, 1) := by decide +kernel
theorem d5_6 : decode prog_17_method_6_code 6 = .ok (.aload_n 0, 1) := by decide +kernel
theorem d5_7 : decode prog_17_method_6_code 7 = .ok (.aload_n 0, 1) := by decide +kernel
theorem d5_8 : decode prog_17_method_6_code 8 = .ok (.iload_n 3, 1) := by decide +kernel
theorem d5_9 : decode prog_17_method_6_code 9 = .ok (.invokevirtual 54, 3) := by decide +kernel
theorem d5_12 : decode prog_17_method_6_code 12 = .ok (.putfield 58, 3) := by decide +kernel
theorem d5_15 : decode prog_17_method_6_code 15 = .ok (.aload_n 0, 1) := by decide +kernel
theorem d5_16 : decode prog_17_method_6_code 16 = .ok (.dup, 1) := by decide +kernel
theorem d5_17 : decode prog_17_method_6_code 17 = .ok (.getfield 20, 3) := by decide +kernel
theorem d5_20 : decode prog_17_method_6_code 20 = .ok (.iload_n 3, 1) := by decide +kernel
theorem d5_21 : decode prog_17_method_6_code 21 = .ok (.isub, 1) := by decide +kernel
theorem d5_22 : decode prog_17_method_6_code 22 = .ok (.putfield 20, 3) := by decide +kernel
theorem d5_25 : decode prog_17_method_6_code 25 = .ok (.aload_n 0, 1) := by decide +kernel
theorem d5_26 : decode prog_17_method_6_code 26 = .ok (.getfield 13, 3) := by decide +kernel
theorem d5_29 : decode prog_17_method_6_code 29 = .ok (.arraylength, 1) := by decide +kernel
theorem d5_30 : decode prog_17_method_6_code 30 = .ok (.iconst 4, 1) := by decide +kernel
theorem d5_31 : decode prog_17_method_6_code 31 = .ok (.if_icmp .le 32, 3) := by decide +kernel
theorem d5_34 : decode prog_17_method_6_code 34 = .ok (.aload_n 0, 1) := by decide +kernel
theorem d5_35 : decode prog_17_method_6_code 35 = .ok (.getfield 20, 3) := by decide +kernel
theorem d5_38 : decode prog_17_method_6_code 38 = .ok (.aload_n 0, 1) := by decide +kernel
theorem d5_39 : decode prog_17_method_6_code 39 = .ok (.getfield 13, 3) := by decide +kernel
theorem d5_42 : decode prog_17_method_6_code 42 = .ok (.arraylength, 1) := by decide +kernel
theorem d5_43 : decode prog_17_method_6_code 43 = .ok (.iconst 4, 1) := by decide +kernel
theorem d5_44 : decode prog_17_method_6_code 44 = .ok (.idiv, 1) := by decide +kernel
theorem d5_45 : decode prog_17_method_6_code 45 = .ok (.if_icmp .gt 18, 3) := by decide +kernel
theorem d5_48 : decode prog_17_method_6_code 48 = .ok (.aload_n 0, 1) := by decide +kernel
theorem d5_49 : decode prog_17_method_6_code 49 = .ok (.iconst 4, 1) := by decide +kernel
theorem d5_50 : decode prog_17_method_6_code 50 = .ok (.aload_n 0, 1) := by decide +kernel
theorem d5_51 : decode prog_17_method_6_code 51 = .ok (.getfield 13, 3) := by decide +kernel
theorem d5_54 : decode prog_17_method_6_code 54 = .ok (.arraylength, 1) := by decide +kernel
theorem d5_55 : decode prog_17_method_6_code 55 = .ok (.iconst 2, 1) := by decide +kernel
theorem d5_56 : decode prog_17_method_6_code 56 = .ok (.idiv, 1) := by decide +kernel
theorem d5_57 : decode prog_17_method_6_code 57 = .ok (.invokestatic 61, 3) := by decide +kernel
theorem d5_60 : decode prog_17_method_6_code 60 = .ok (.invokevirtual 64, 3) := by decide +kernel
theorem d5_63 : decode prog_17_method_6_code 63 = .ok (.return_, 1) := by decide +kernel
theorem pn6 : plainFor (⟨"com/example/aforo/aforo/SlidingLog", "forgetUpTo", "(J)V"⟩ : MethodName) = true := by first | (refine plainFor_of_name ?_; simp [plainName, overriddenIn]; done) | (refine plainFor_of_name ?_; decide +kernel) | decide +kernel
def Q_fgt1 (Z : State) (a : Addr) (lq : Int64) (hq : Nat) (tq : Addr) (fq : Nat → Int64) (h0 : Heap) (n0 : Nat) (v : Option Value) (h : Heap) (L : List Loc) : Prop := ∃ jq : Nat, v = none ∧ Fr n0 L ∧ Keep h0 h [a] ∧ (jq ≤ 1) ∧ (jq = 1 → ¬ (lq < fq ((hq + 0) % 3))) ∧ Exa Z h a "com/example/aforo/aforo/SlidingLog" ∧ Fld Z h a "com/example/aforo/aforo/SlidingLog" "head" "I" (.int (Int32.ofNat ((hq + jq) % 3))) ∧ Fld Z h a "com/example/aforo/aforo/SlidingLog" "size" "I" (.int (Int32.ofNat (1 - jq))) ∧ Fld Z h a "com/example/aforo/aforo/SlidingLog" "times" "[J" (.ref tq)
theorem pd3 : parseMethodDescriptor "(J)I" = some ⟨[.long], (some .int)⟩ := by decide +kernel
theorem ef_fgt1 (m : MethodId) (a : Addr) (lq : Int64) (hq : Nat) (tq : Addr) (fq : Nat → Int64) : entryFrame m #[(.ref a), (.long lq)] 4 = mkF m 0 #[.val (.ref a), .val (.long lq), .second, .unset] [] := by first | (simp [entryFrame, mkF, argsToLocals, Value.category]; done) | rfl
abbrev rm_fgt1 : Room := ({ frames := 3, cells := 0, slots := 0, locals := 47 } : Room)
set_option maxRecDepth 65536 in
set_option maxHeartbeats 4000000 in
theorem met_fgt1 (l : Launch) (Z : State) (a0 : Array Value) (hw : ∀ d ∈ tables_1, d.before a0 Z = true) (a : Addr) (lq : Int64) (hq : Nat) (tq : Addr) (fq : Nat → Int64) (h0 : Heap) (n0 : Nat) (Z0 : n0 ≤ h0.size) (P0 : Exa Z h0 a "com/example/aforo/aforo/SlidingLog") (P1 : Fld Z h0 a "com/example/aforo/aforo/SlidingLog" "head" "I" (.int (Int32.ofNat hq))) (P2 : Fld Z h0 a "com/example/aforo/aforo/SlidingLog" "times" "[J" (.ref tq)) (P3 : GA Z h0 tq .long 3 (fun i => .long (fq i))) (P4 : hq < 3) (P5 : Fld Z h0 a "com/example/aforo/aforo/SlidingLog" "size" "I" (.int (1 : Int32))) (P6 : a ≠ tq) (P7 : n0 ≤ a) :
    Met l (⟨"com/example/aforo/aforo/SlidingLog", "forgetUpTo", "(J)V"⟩ : MethodName) prog_17_method_6_code 4 none [] rm_fgt1 Z #[(.ref a), (.long lq)] h0 (Q_fgt1 Z a lq hq tq fq h0 n0) rm_fgt1.cells rm_fgt1.slots := by
  refine own_body pn6 ?_
  intro p e s m below meth c s₁ ct X0 e0
  have ct0 := ct
  obtain ⟨hx, hZ, hown, hby, hml, hret, hlk, hnm⟩ := ct
  have lt_a : a < h0.size := P0.lt
  have lt_tq : tq < h0.size := P3.lt
  have N0 := Fr.nil n0
  refine castGo (ef_fgt1 m a lq hq tq fq) ?_
  show Go p e below s _ _ _ s₁ (mkF m 0 #[.val (.ref a), .val (.long lq), .second, .unset] [])
  refine go_st (fun _ kq => XS.aloadN X0.here hx rfl (hb hby d5_0) rfl rfl kq) ?_
  show Go p e below s _ _ _ s₁ (mkF m 1 #[.val (.ref a), .val (.long lq), .second, .unset] [(.ref a)])
  refine go_st (fun _ kq => XT.lloadN X0.here hx rfl (hb hby d5_1) rfl kq) ?_
  show Go p e below s _ _ _ s₁ (mkF m 2 #[.val (.ref a), .val (.long lq), .second, .unset] [(.long lq), (.ref a)])
  refine go_callP X0 hx hZ hml hown (hw _ (List.mem_of_getElem? (i := 30) rfl)) (hw _ (List.mem_of_getElem? (i := 32) rfl)) (hw _ (List.mem_of_getElem? (i := 1) rfl)) (hw _ (List.mem_of_getElem? (i := 31) rfl)) (hw _ (List.mem_of_getElem? (i := 33) rfl)) (hw _ (List.mem_of_getElem? (i := 2) rfl)) e0 P0 (argsL := [(.long lq)]) (rest := []) (W := 0) (met_cnt1 l Z a0 hw a lq hq tq fq h0 n0 Z0 P0 P1 P2 P3 P4 P5) (hb hby d5_2) rfl rfl rfl (lenOf pd3 rfl) (by show 2 * 0 + _ ≤ _; exact Nat.le_of_eq rfl) (by decide) (by decide) (by decide) (by decide) (by decide) ?_
  intro T28 v28 L28 X28 q28
  obtain ⟨rfl, M28, e28⟩ := q28
  have N28 := Fr.app N0 M28
  show Go p e below s _ _ _ T28 (mkF m 5 #[.val (.ref a), .val (.long lq), .second, .unset] [(.int (fCnt1 fq hq lq))])
  by_cases hk29 : (fCnt1 fq hq lq) = (0 : Int32)
  · rw [hk29]
    show Go p e below s _ _ _ T28 (mkF m 5 #[.val (.ref a), .val (.long lq), .second, .unset] [(.int (0 : Int32))])
    refine go_st (fun _ kq => XS.istoreN X28.here hx rfl (hb hby d5_5) rfl (l' := #[.val (.ref a), .val (.long lq), .second, .val (.int (0 : Int32))]) rfl kq) ?_
    show Go p e below s _ _ _ T28 (mkF m 6 #[.val (.ref a), .val (.long lq), .second, .val (.int (0 : Int32))] [])
    refine go_st (fun _ kq => XS.aloadN X28.here hx rfl (hb hby d5_6) rfl rfl kq) ?_
    show Go p e below s _ _ _ T28 (mkF m 7 #[.val (.ref a), .val (.long lq), .second, .val (.int (0 : Int32))] [(.ref a)])
    refine go_st (fun _ kq => XS.aloadN X28.here hx rfl (hb hby d5_7) rfl rfl kq) ?_
    show Go p e below s _ _ _ T28 (mkF m 8 #[.val (.ref a), .val (.long lq), .second, .val (.int (0 : Int32))] [(.ref a), (.ref a)])
    refine go_st (fun _ kq => XS.iloadN X28.here hx rfl (hb hby d5_8) rfl kq) ?_
    show Go p e below s _ _ _ T28 (mkF m 9 #[.val (.ref a), .val (.long lq), .second, .val (.int (0 : Int32))] [(.int (0 : Int32)), (.ref a), (.ref a)])
    refine go_callP X28 hx hZ hml hown (hw _ (List.mem_of_getElem? (i := 40) rfl)) (hw _ (List.mem_of_getElem? (i := 42) rfl)) (hw _ (List.mem_of_getElem? (i := 1) rfl)) (hw _ (List.mem_of_getElem? (i := 41) rfl)) (hw _ (List.mem_of_getElem? (i := 43) rfl)) (hw _ (List.mem_of_getElem? (i := 2) rfl)) e28 P0 (argsL := [(.int (0 : Int32))]) (rest := [(.ref a)]) (W := 1) (met_8 l Z a0 hw a 0 hq tq fq h0 n0 Z0 P1 P2 P3) (hb hby d5_9) rfl rfl rfl (lenOf pd0 rfl) (by show 2 * 0 + _ ≤ _; exact Nat.le_of_eq rfl) (by decide) (by decide) (by decide) (by decide) (by decide) ?_
    intro T30 v30 L30 X30 q30
    obtain ⟨rfl, M30, e30⟩ := q30
    have N30 := Fr.app N28 M30
    rw [own_slot (h := hq) (k := 0) (by omega) (by omega)]
    show Go p e below s _ _ _ T30 (mkF m 12 #[.val (.ref a), .val (.long lq), .second, .val (.int (0 : Int32))] [(.int (Int32.ofNat ((hq + 0) % 3))), (.ref a)])
    refine go_putF X30 hx hZ hown (host := "") (Or.inl (hw _ (List.mem_of_getElem? (i := 44) rfl))) Via.refl e30 P1 P0 (Or.inl (hw _ (List.mem_of_getElem? (i := 45) rfl))) (hw _ (List.mem_of_getElem? (i := 1) rfl)) (ty := .int) (by decide) rfl rfl (hb hby d5_12) rfl rfl ?_
    intro T31 h31 X31 e31 W31
    have N31 := Fr.snoc X31 N30 P7
    have F31 : Fld Z h31 a "com/example/aforo/aforo/SlidingLog" "head" "I" (.int (Int32.ofNat ((hq + 0) % 3))) := Fld.same W31 P1
    show Go p e below s _ _ _ T31 (mkF m 15 #[.val (.ref a), .val (.long lq), .second, .val (.int (0 : Int32))] [])
    refine go_st (fun _ kq => XS.aloadN X31.here hx rfl (hb hby d5_15) rfl rfl kq) ?_
    show Go p e below s _ _ _ T31 (mkF m 16 #[.val (.ref a), .val (.long lq), .second, .val (.int (0 : Int32))] [(.ref a)])
    refine go_st (fun _ kq => XS.dup X31.here hx rfl (hb hby d5_16) rfl rfl kq) ?_
    show Go p e below s _ _ _ T31 (mkF m 17 #[.val (.ref a), .val (.long lq), .second, .val (.int (0 : Int32))] [(.ref a), (.ref a)])
    have c32 := Fld.other W31 P5 (Or.inr (slot_ne (a0 := a0) (t := .int) (t' := .int) (Or.inl (hw _ (List.mem_of_getElem? (i := 35) rfl))) (Or.inl (hw _ (List.mem_of_getElem? (i := 45) rfl))) (by decide) (by decide) (by decide)))
    refine go_getF X31 hx hZ hown (host := "") (Or.inl (hw _ (List.mem_of_getElem? (i := 34) rfl))) Via.refl e31 c32 (hb hby d5_17) rfl rfl ?_
    intro T33 X33 e33
    show Go p e below s _ _ _ T33 (mkF m 20 #[.val (.ref a), .val (.long lq), .second, .val (.int (0 : Int32))] [(.int (1 : Int32)), (.ref a)])
    refine go_st (fun _ kq => XS.iloadN X33.here hx rfl (hb hby d5_20) rfl kq) ?_
    show Go p e below s _ _ _ T33 (mkF m 21 #[.val (.ref a), .val (.long lq), .second, .val (.int (0 : Int32))] [(.int (0 : Int32)), (.int (1 : Int32)), (.ref a)])
    refine go_st (fun _ kq => XS.isub X33.here hx rfl (hb hby d5_21) rfl kq) ?_
    rw [show ((1 : Int32) - (0 : Int32)) = (1 : Int32) from by decide +kernel]
    show Go p e below s _ _ _ T33 (mkF m 22 #[.val (.ref a), .val (.long lq), .second, .val (.int (0 : Int32))] [(.int (1 : Int32)), (.ref a)])
    have c34 := Exa.wr W31 P0
    refine go_putF X33 hx hZ hown (host := "") (Or.inl (hw _ (List.mem_of_getElem? (i := 34) rfl))) Via.refl e33 c32 c34 (Or.inl (hw _ (List.mem_of_getElem? (i := 35) rfl))) (hw _ (List.mem_of_getElem? (i := 1) rfl)) (ty := .int) (by decide) rfl rfl (hb hby d5_22) rfl rfl ?_
    intro T35 h35 X35 e35 W35
    have N35 := Fr.snoc X35 N31 P7
    have F35 : Fld Z h35 a "com/example/aforo/aforo/SlidingLog" "size" "I" (.int (1 : Int32)) := Fld.same W35 c32
    show Go p e below s _ _ _ T35 (mkF m 25 #[.val (.ref a), .val (.long lq), .second, .val (.int (0 : Int32))] [])
    refine go_st (fun _ kq => XS.aloadN X35.here hx rfl (hb hby d5_25) rfl rfl kq) ?_
    show Go p e below s _ _ _ T35 (mkF m 26 #[.val (.ref a), .val (.long lq), .second, .val (.int (0 : Int32))] [(.ref a)])
    have c36 := Fld.other W31 P2 (Or.inr (slot_ne (a0 := a0) (t := (.array .long)) (t' := .int) (Or.inl (hw _ (List.mem_of_getElem? (i := 17) rfl))) (Or.inl (hw _ (List.mem_of_getElem? (i := 45) rfl))) (by decide) (by decide) (by decide)))
    have c37 := Fld.other W35 c36 (Or.inr (slot_ne (a0 := a0) (t := (.array .long)) (t' := .int) (Or.inl (hw _ (List.mem_of_getElem? (i := 17) rfl))) (Or.inl (hw _ (List.mem_of_getElem? (i := 35) rfl))) (by decide) (by decide) (by decide)))
    refine go_getF X35 hx hZ hown (host := "") (Or.inl (hw _ (List.mem_of_getElem? (i := 16) rfl))) Via.refl e35 c37 (hb hby d5_26) rfl rfl ?_
    intro T38 X38 e38
    show Go p e below s _ _ _ T38 (mkF m 29 #[.val (.ref a), .val (.long lq), .second, .val (.int (0 : Int32))] [(.ref tq)])
    have c39 := P3.other W31 (Ne.symm P6)
    have c40 := c39.other W35 (Ne.symm P6)
    refine go_alen X38 hx hZ e38 c40 (hb hby d5_29) rfl rfl (3 : Int32) (by decide) ?_
    show Go p e below s _ _ _ T38 (mkF m 30 #[.val (.ref a), .val (.long lq), .second, .val (.int (0 : Int32))] [(.int (3 : Int32))])
    refine go_st (fun _ kq => XT.iconstV X38.here hx rfl (4 : Int32) (hb hby d5_30) (by decide) kq) ?_
    show Go p e below s _ _ _ T38 (mkF m 31 #[.val (.ref a), .val (.long lq), .second, .val (.int (0 : Int32))] [(.int (4 : Int32)), (.int (3 : Int32))])
    refine go_st (fun _ kq => XS.icmpYes X38.here hx rfl (pc0 := 31) (pc' := 63) rfl (hb hby d5_31) rfl (XT.ii_le_t (by decide)) (by decide) (by decide) kq) ?_
    show Go p e below s _ _ _ T38 (mkF m 63 #[.val (.ref a), .val (.long lq), .second, .val (.int (0 : Int32))] [])
    have c41 := Exa.wr W35 c34
    have c42 := Fld.other W35 F31 (Or.inr (slot_ne (a0 := a0) (t := .int) (t' := .int) (Or.inl (hw _ (List.mem_of_getElem? (i := 45) rfl))) (Or.inl (hw _ (List.mem_of_getElem? (i := 35) rfl))) (by decide) (by decide) (by decide)))
    exact go_ret0 X38 hx hlk hret (hb hby d5_63) (by decide) (by decide) (by rw [e38]; exact ⟨0, rfl, N35, (Keep.wr (Keep.wr (Keep.refl h0 [a]) W31 (Or.inl (by simp))) W35 (Or.inl (by simp))), (by decide), (fun hh => absurd hh (by decide)), c41, c42, F35, c37⟩)
  · by_cases hk43 : (fCnt1 fq hq lq) = (1 : Int32)
    · rw [hk43]
      show Go p e below s _ _ _ T28 (mkF m 5 #[.val (.ref a), .val (.long lq), .second, .unset] [(.int (1 : Int32))])
      refine go_st (fun _ kq => XS.istoreN X28.here hx rfl (hb hby d5_5) rfl (l' := #[.val (.ref a), .val (.long lq), .second, .val (.int (1 : Int32))]) rfl kq) ?_
      show Go p e below s _ _ _ T28 (mkF m 6 #[.val (.ref a), .val (.long lq), .second, .val (.int (1 : Int32))] [])
      refine go_st (fun _ kq => XS.aloadN X28.here hx rfl (hb hby d5_6) rfl rfl kq) ?_
      show Go p e below s _ _ _ T28 (mkF m 7 #[.val (.ref a), .val (.long lq), .second, .val (.int (1 : Int32))] [(.ref a)])
      refine go_st (fun _ kq => XS.aloadN X28.here hx rfl (hb hby d5_7) rfl rfl kq) ?_
      show Go p e below s _ _ _ T28 (mkF m 8 #[.val (.ref a), .val (.long lq), .second, .val (.int (1 : Int32))] [(.ref a), (.ref a)])
      refine go_st (fun _ kq => XS.iloadN X28.here hx rfl (hb hby d5_8) rfl kq) ?_
      show Go p e below s _ _ _ T28 (mkF m 9 #[.val (.ref a), .val (.long lq), .second, .val (.int (1 : Int32))] [(.int (1 : Int32)), (.ref a), (.ref a)])
      refine go_callP X28 hx hZ hml hown (hw _ (List.mem_of_getElem? (i := 40) rfl)) (hw _ (List.mem_of_getElem? (i := 42) rfl)) (hw _ (List.mem_of_getElem? (i := 1) rfl)) (hw _ (List.mem_of_getElem? (i := 41) rfl)) (hw _ (List.mem_of_getElem? (i := 43) rfl)) (hw _ (List.mem_of_getElem? (i := 2) rfl)) e28 P0 (argsL := [(.int (1 : Int32))]) (rest := [(.ref a)]) (W := 1) (met_8 l Z a0 hw a 1 hq tq fq h0 n0 Z0 P1 P2 P3) (hb hby d5_9) rfl rfl rfl (lenOf pd0 rfl) (by show 2 * 0 + _ ≤ _; exact Nat.le_of_eq rfl) (by decide) (by decide) (by decide) (by decide) (by decide) ?_
      intro T44 v44 L44 X44 q44
      obtain ⟨rfl, M44, e44⟩ := q44
      have N44 := Fr.app N28 M44
      rw [own_slot (h := hq) (k := 1) (by omega) (by omega)]
      show Go p e below s _ _ _ T44 (mkF m 12 #[.val (.ref a), .val (.long lq), .second, .val (.int (1 : Int32))] [(.int (Int32.ofNat ((hq + 1) % 3))), (.ref a)])
      refine go_putF X44 hx hZ hown (host := "") (Or.inl (hw _ (List.mem_of_getElem? (i := 44) rfl))) Via.refl e44 P1 P0 (Or.inl (hw _ (List.mem_of_getElem? (i := 45) rfl))) (hw _ (List.mem_of_getElem? (i := 1) rfl)) (ty := .int) (by decide) rfl rfl (hb hby d5_12) rfl rfl ?_
      intro T45 h45 X45 e45 W45
      have N45 := Fr.snoc X45 N44 P7
      have F45 : Fld Z h45 a "com/example/aforo/aforo/SlidingLog" "head" "I" (.int (Int32.ofNat ((hq + 1) % 3))) := Fld.same W45 P1
      show Go p e below s _ _ _ T45 (mkF m 15 #[.val (.ref a), .val (.long lq), .second, .val (.int (1 : Int32))] [])
      refine go_st (fun _ kq => XS.aloadN X45.here hx rfl (hb hby d5_15) rfl rfl kq) ?_
      show Go p e below s _ _ _ T45 (mkF m 16 #[.val (.ref a), .val (.long lq), .second, .val (.int (1 : Int32))] [(.ref a)])
      refine go_st (fun _ kq => XS.dup X45.here hx rfl (hb hby d5_16) rfl rfl kq) ?_
      show Go p e below s _ _ _ T45 (mkF m 17 #[.val (.ref a), .val (.long lq), .second, .val (.int (1 : Int32))] [(.ref a), (.ref a)])
      have c46 := Fld.other W45 P5 (Or.inr (slot_ne (a0 := a0) (t := .int) (t' := .int) (Or.inl (hw _ (List.mem_of_getElem? (i := 35) rfl))) (Or.inl (hw _ (List.mem_of_getElem? (i := 45) rfl))) (by decide) (by decide) (by decide)))
      refine go_getF X45 hx hZ hown (host := "") (Or.inl (hw _ (List.mem_of_getElem? (i := 34) rfl))) Via.refl e45 c46 (hb hby d5_17) rfl rfl ?_
      intro T47 X47 e47
      show Go p e below s _ _ _ T47 (mkF m 20 #[.val (.ref a), .val (.long lq), .second, .val (.int (1 : Int32))] [(.int (1 : Int32)), (.ref a)])
      refine go_st (fun _ kq => XS.iloadN X47.here hx rfl (hb hby d5_20) rfl kq) ?_
      show Go p e below s _ _ _ T47 (mkF m 21 #[.val (.ref a), .val (.long lq), .second, .val (.int (1 : Int32))] [(.int (1 : Int32)), (.int (1 : Int32)), (.ref a)])
      refine go_st (fun _ kq => XS.isub X47.here hx rfl (hb hby d5_21) rfl kq) ?_
      rw [show ((1 : Int32) - (1 : Int32)) = (0 : Int32) from by decide +kernel]
      show Go p e below s _ _ _ T47 (mkF m 22 #[.val (.ref a), .val (.long lq), .second, .val (.int (1 : Int32))] [(.int (0 : Int32)), (.ref a)])
      have c48 := Exa.wr W45 P0
      refine go_putF X47 hx hZ hown (host := "") (Or.inl (hw _ (List.mem_of_getElem? (i := 34) rfl))) Via.refl e47 c46 c48 (Or.inl (hw _ (List.mem_of_getElem? (i := 35) rfl))) (hw _ (List.mem_of_getElem? (i := 1) rfl)) (ty := .int) (by decide) rfl rfl (hb hby d5_22) rfl rfl ?_
      intro T49 h49 X49 e49 W49
      have N49 := Fr.snoc X49 N45 P7
      have F49 : Fld Z h49 a "com/example/aforo/aforo/SlidingLog" "size" "I" (.int (0 : Int32)) := Fld.same W49 c46
      show Go p e below s _ _ _ T49 (mkF m 25 #[.val (.ref a), .val (.long lq), .second, .val (.int (1 : Int32))] [])
      refine go_st (fun _ kq => XS.aloadN X49.here hx rfl (hb hby d5_25) rfl rfl kq) ?_
      show Go p e below s _ _ _ T49 (mkF m 26 #[.val (.ref a), .val (.long lq), .second, .val (.int (1 : Int32))] [(.ref a)])
      have c50 := Fld.other W45 P2 (Or.inr (slot_ne (a0 := a0) (t := (.array .long)) (t' := .int) (Or.inl (hw _ (List.mem_of_getElem? (i := 17) rfl))) (Or.inl (hw _ (List.mem_of_getElem? (i := 45) rfl))) (by decide) (by decide) (by decide)))
      have c51 := Fld.other W49 c50 (Or.inr (slot_ne (a0 := a0) (t := (.array .long)) (t' := .int) (Or.inl (hw _ (List.mem_of_getElem? (i := 17) rfl))) (Or.inl (hw _ (List.mem_of_getElem? (i := 35) rfl))) (by decide) (by decide) (by decide)))
      refine go_getF X49 hx hZ hown (host := "") (Or.inl (hw _ (List.mem_of_getElem? (i := 16) rfl))) Via.refl e49 c51 (hb hby d5_26) rfl rfl ?_
      intro T52 X52 e52
      show Go p e below s _ _ _ T52 (mkF m 29 #[.val (.ref a), .val (.long lq), .second, .val (.int (1 : Int32))] [(.ref tq)])
      have c53 := P3.other W45 (Ne.symm P6)
      have c54 := c53.other W49 (Ne.symm P6)
      refine go_alen X52 hx hZ e52 c54 (hb hby d5_29) rfl rfl (3 : Int32) (by decide) ?_
      show Go p e below s _ _ _ T52 (mkF m 30 #[.val (.ref a), .val (.long lq), .second, .val (.int (1 : Int32))] [(.int (3 : Int32))])
      refine go_st (fun _ kq => XT.iconstV X52.here hx rfl (4 : Int32) (hb hby d5_30) (by decide) kq) ?_
      show Go p e below s _ _ _ T52 (mkF m 31 #[.val (.ref a), .val (.long lq), .second, .val (.int (1 : Int32))] [(.int (4 : Int32)), (.int (3 : Int32))])
      refine go_st (fun _ kq => XS.icmpYes X52.here hx rfl (pc0 := 31) (pc' := 63) rfl (hb hby d5_31) rfl (XT.ii_le_t (by decide)) (by decide) (by decide) kq) ?_
      show Go p e below s _ _ _ T52 (mkF m 63 #[.val (.ref a), .val (.long lq), .second, .val (.int (1 : Int32))] [])
      have c55 := Exa.wr W49 c48
      have c56 := Fld.other W49 F45 (Or.inr (slot_ne (a0 := a0) (t := .int) (t' := .int) (Or.inl (hw _ (List.mem_of_getElem? (i := 45) rfl))) (Or.inl (hw _ (List.mem_of_getElem? (i := 35) rfl))) (by decide) (by decide) (by decide)))
      exact go_ret0 X52 hx hlk hret (hb hby d5_63) (by decide) (by decide) (by rw [e52]; exact ⟨1, rfl, N49, (Keep.wr (Keep.wr (Keep.refl h0 [a]) W45 (Or.inl (by simp))) W49 (Or.inl (by simp))), (by decide), (fun _ => own_cnt1 hk43), c55, c56, F49, c51⟩)
    · exact (own_cnt1' hk29 hk43).elim
def Q_fgt2 (Z : State) (a : Addr) (lq : Int64) (hq : Nat) (tq : Addr) (fq : Nat → Int64) (h0 : Heap) (n0 : Nat) (v : Option Value) (h : Heap) (L : List Loc) : Prop := ∃ jq : Nat, v = none ∧ Fr n0 L ∧ Keep h0 h [a] ∧ (jq ≤ 2) ∧ (jq = 2 → ¬ (lq < fq ((hq + 1) % 3))) ∧ Exa Z h a "com/example/aforo/aforo/SlidingLog" ∧ Fld Z h a "com/example/aforo/aforo/SlidingLog" "head" "I" (.int (Int32.ofNat ((hq + jq) % 3))) ∧ Fld Z h a "com/example/aforo/aforo/SlidingLog" "size" "I" (.int (Int32.ofNat (2 - jq))) ∧ Fld Z h a "com/example/aforo/aforo/SlidingLog" "times" "[J" (.ref tq)
theorem ef_fgt2 (m : MethodId) (a : Addr) (lq : Int64) (hq : Nat) (tq : Addr) (fq : Nat → Int64) : entryFrame m #[(.ref a), (.long lq)] 4 = mkF m 0 #[.val (.ref a), .val (.long lq), .second, .unset] [] := by first | (simp [entryFrame, mkF, argsToLocals, Value.category]; done) | rfl
abbrev rm_fgt2 : Room := ({ frames := 3, cells := 0, slots := 0, locals := 47 } : Room)
set_option maxRecDepth 65536 in
set_option maxHeartbeats 4000000 in
theorem met_fgt2 (l : Launch) (Z : State) (a0 : Array Value) (hw : ∀ d ∈ tables_1, d.before a0 Z = true) (a : Addr) (lq : Int64) (hq : Nat) (tq : Addr) (fq : Nat → Int64) (h0 : Heap) (n0 : Nat) (Z0 : n0 ≤ h0.size) (P0 : Exa Z h0 a "com/example/aforo/aforo/SlidingLog") (P1 : Fld Z h0 a "com/example/aforo/aforo/SlidingLog" "head" "I" (.int (Int32.ofNat hq))) (P2 : Fld Z h0 a "com/example/aforo/aforo/SlidingLog" "times" "[J" (.ref tq)) (P3 : GA Z h0 tq .long 3 (fun i => .long (fq i))) (P4 : hq < 3) (P5 : Fld Z h0 a "com/example/aforo/aforo/SlidingLog" "size" "I" (.int (2 : Int32))) (P6 : a ≠ tq) (P7 : n0 ≤ a) :
    Met l (⟨"com/example/aforo/aforo/SlidingLog", "forgetUpTo", "(J)V"⟩ : MethodName) prog_17_method_6_code 4 none [] rm_fgt2 Z #[(.ref a), (.long lq)] h0 (Q_fgt2 Z a lq hq tq fq h0 n0) rm_fgt2.cells rm_fgt2.slots := by
  refine own_body pn6 ?_
  intro p e s m below meth c s₁ ct X0 e0
  have ct0 := ct
  obtain ⟨hx, hZ, hown, hby, hml, hret, hlk, hnm⟩ := ct
  have lt_a : a < h0.size := P0.lt
  have lt_tq : tq < h0.size := P3.lt
  have N0 := Fr.nil n0
  refine castGo (ef_fgt2 m a lq hq tq fq) ?_
  show Go p e below s _ _ _ s₁ (mkF m 0 #[.val (.ref a), .val (.long lq), .second, .unset] [])
  refine go_st (fun _ kq => XS.aloadN X0.here hx rfl (hb hby d5_0) rfl rfl kq) ?_
  show Go p e below s _ _ _ s₁ (mkF m 1 #[.val (.ref a), .val (.long lq), .second, .unset] [(.ref a)])
  refine go_st (fun _ kq => XT.lloadN X0.here hx rfl (hb hby d5_1) rfl kq) ?_
  show Go p e below s _ _ _ s₁ (mkF m 2 #[.val (.ref a), .val (.long lq), .second, .unset] [(.long lq), (.ref a)])
  refine go_callP X0 hx hZ hml hown (hw _ (List.mem_of_getElem? (i := 30) rfl)) (hw _ (List.mem_of_getElem? (i := 32) rfl)) (hw _ (List.mem_of_getElem? (i := 1) rfl)) (hw _ (List.mem_of_getElem? (i := 31) rfl)) (hw _ (List.mem_of_getElem? (i := 33) rfl)) (hw _ (List.mem_of_getElem? (i := 2) rfl)) e0 P0 (argsL := [(.long lq)]) (rest := []) (W := 0) (met_cnt2 l Z a0 hw a lq hq tq fq h0 n0 Z0 P0 P1 P2 P3 P4 P5) (hb hby d5_2) rfl rfl rfl (lenOf pd3 rfl) (by show 2 * 0 + _ ≤ _; exact Nat.le_of_eq rfl) (by decide) (by decide) (by decide) (by decide) (by decide) ?_
  intro T57 v57 L57 X57 q57
  obtain ⟨rfl, M57, e57⟩ := q57
  have N57 := Fr.app N0 M57
  show Go p e below s _ _ _ T57 (mkF m 5 #[.val (.ref a), .val (.long lq), .second, .unset] [(.int (fCnt2 fq hq lq))])
  by_cases hk58 : (fCnt2 fq hq lq) = (0 : Int32)
  · rw [hk58]
    show Go p e below s _ _ _ T57 (mkF m 5 #[.val (.ref a), .val (.long lq), .second, .unset] [(.int (0 : Int32))])
    refine go_st (fun _ kq => XS.istoreN X57.here hx rfl (hb hby d5_5) rfl (l' := #[.val (.ref a), .val (.long lq), .second, .val (.int (0 : Int32))]) rfl kq) ?_
    show Go p e below s _ _ _ T57 (mkF m 6 #[.val (.ref a), .val (.long lq), .second, .val (.int (0 : Int32))] [])
    refine go_st (fun _ kq => XS.aloadN X57.here hx rfl (hb hby d5_6) rfl rfl kq) ?_
    show Go p e below s _ _ _ T57 (mkF m 7 #[.val (.ref a), .val (.long lq), .second, .val (.int (0 : Int32))] [(.ref a)])
    refine go_st (fun _ kq => XS.aloadN X57.here hx rfl (hb hby d5_7) rfl rfl kq) ?_
    show Go p e below s _ _ _ T57 (mkF m 8 #[.val (.ref a), .val (.long lq), .second, .val (.int (0 : Int32))] [(.ref a), (.ref a)])
    refine go_st (fun _ kq => XS.iloadN X57.here hx rfl (hb hby d5_8) rfl kq) ?_
    show Go p e below s _ _ _ T57 (mkF m 9 #[.val (.ref a), .val (.long lq), .second, .val (.int (0 : Int32))] [(.int (0 : Int32)), (.ref a), (.ref a)])
    refine go_callP X57 hx hZ hml hown (hw _ (List.mem_of_getElem? (i := 40) rfl)) (hw _ (List.mem_of_getElem? (i := 42) rfl)) (hw _ (List.mem_of_getElem? (i := 1) rfl)) (hw _ (List.mem_of_getElem? (i := 41) rfl)) (hw _ (List.mem_of_getElem? (i := 43) rfl)) (hw _ (List.mem_of_getElem? (i := 2) rfl)) e57 P0 (argsL := [(.int (0 : Int32))]) (rest := [(.ref a)]) (W := 1) (met_8 l Z a0 hw a 0 hq tq fq h0 n0 Z0 P1 P2 P3) (hb hby d5_9) rfl rfl rfl (lenOf pd0 rfl) (by show 2 * 0 + _ ≤ _; exact Nat.le_of_eq rfl) (by decide) (by decide) (by decide) (by decide) (by decide) ?_
    intro T59 v59 L59 X59 q59
    obtain ⟨rfl, M59, e59⟩ := q59
    have N59 := Fr.app N57 M59
    rw [own_slot (h := hq) (k := 0) (by omega) (by omega)]
    show Go p e below s _ _ _ T59 (mkF m 12 #[.val (.ref a), .val (.long lq), .second, .val (.int (0 : Int32))] [(.int (Int32.ofNat ((hq + 0) % 3))), (.ref a)])
    refine go_putF X59 hx hZ hown (host := "") (Or.inl (hw _ (List.mem_of_getElem? (i := 44) rfl))) Via.refl e59 P1 P0 (Or.inl (hw _ (List.mem_of_getElem? (i := 45) rfl))) (hw _ (List.mem_of_getElem? (i := 1) rfl)) (ty := .int) (by decide) rfl rfl (hb hby d5_12) rfl rfl ?_
    intro T60 h60 X60 e60 W60
    have N60 := Fr.snoc X60 N59 P7
    have F60 : Fld Z h60 a "com/example/aforo/aforo/SlidingLog" "head" "I" (.int (Int32.ofNat ((hq + 0) % 3))) := Fld.same W60 P1
    show Go p e below s _ _ _ T60 (mkF m 15 #[.val (.ref a), .val (.long lq), .second, .val (.int (0 : Int32))] [])
    refine go_st (fun _ kq => XS.aloadN X60.here hx rfl (hb hby d5_15) rfl rfl kq) ?_
    show Go p e below s _ _ _ T60 (mkF m 16 #[.val (.ref a), .val (.long lq), .second, .val (.int (0 : Int32))] [(.ref a)])
    refine go_st (fun _ kq => XS.dup X60.here hx rfl (hb hby d5_16) rfl rfl kq) ?_
    show Go p e below s _ _ _ T60 (mkF m 17 #[.val (.ref a), .val (.long lq), .second, .val (.int (0 : Int32))] [(.ref a), (.ref a)])
    have c61 := Fld.other W60 P5 (Or.inr (slot_ne (a0 := a0) (t := .int) (t' := .int) (Or.inl (hw _ (List.mem_of_getElem? (i := 35) rfl))) (Or.inl (hw _ (List.mem_of_getElem? (i := 45) rfl))) (by decide) (by decide) (by decide)))
    refine go_getF X60 hx hZ hown (host := "") (Or.inl (hw _ (List.mem_of_getElem? (i := 34) rfl))) Via.refl e60 c61 (hb hby d5_17) rfl rfl ?_
    intro T62 X62 e62
    show Go p e below s _ _ _ T62 (mkF m 20 #[.val (.ref a), .val (.long lq), .second, .val (.int (0 : Int32))] [(.int (2 : Int32)), (.ref a)])
    refine go_st (fun _ kq => XS.iloadN X62.here hx rfl (hb hby d5_20) rfl kq) ?_
    show Go p e below s _ _ _ T62 (mkF m 21 #[.val (.ref a), .val (.long lq), .second, .val (.int (0 : Int32))] [(.int (0 : Int32)), (.int (2 : Int32)), (.ref a)])
    refine go_st (fun _ kq => XS.isub X62.here hx rfl (hb hby d5_21) rfl kq) ?_
    rw [show ((2 : Int32) - (0 : Int32)) = (2 : Int32) from by decide +kernel]
    show Go p e below s _ _ _ T62 (mkF m 22 #[.val (.ref a), .val (.long lq), .second, .val (.int (0 : Int32))] [(.int (2 : Int32)), (.ref a)])
    have c63 := Exa.wr W60 P0
    refine go_putF X62 hx hZ hown (host := "") (Or.inl (hw _ (List.mem_of_getElem? (i := 34) rfl))) Via.refl e62 c61 c63 (Or.inl (hw _ (List.mem_of_getElem? (i := 35) rfl))) (hw _ (List.mem_of_getElem? (i := 1) rfl)) (ty := .int) (by decide) rfl rfl (hb hby d5_22) rfl rfl ?_
    intro T64 h64 X64 e64 W64
    have N64 := Fr.snoc X64 N60 P7
    have F64 : Fld Z h64 a "com/example/aforo/aforo/SlidingLog" "size" "I" (.int (2 : Int32)) := Fld.same W64 c61
    show Go p e below s _ _ _ T64 (mkF m 25 #[.val (.ref a), .val (.long lq), .second, .val (.int (0 : Int32))] [])
    refine go_st (fun _ kq => XS.aloadN X64.here hx rfl (hb hby d5_25) rfl rfl kq) ?_
    show Go p e below s _ _ _ T64 (mkF m 26 #[.val (.ref a), .val (.long lq), .second, .val (.int (0 : Int32))] [(.ref a)])
    have c65 := Fld.other W60 P2 (Or.inr (slot_ne (a0 := a0) (t := (.array .long)) (t' := .int) (Or.inl (hw _ (List.mem_of_getElem? (i := 17) rfl))) (Or.inl (hw _ (List.mem_of_getElem? (i := 45) rfl))) (by decide) (by decide) (by decide)))
    have c66 := Fld.other W64 c65 (Or.inr (slot_ne (a0 := a0) (t := (.array .long)) (t' := .int) (Or.inl (hw _ (List.mem_of_getElem? (i := 17) rfl))) (Or.inl (hw _ (List.mem_of_getElem? (i := 35) rfl))) (by decide) (by decide) (by decide)))
    refine go_getF X64 hx hZ hown (host := "") (Or.inl (hw _ (List.mem_of_getElem? (i := 16) rfl))) Via.refl e64 c66 (hb hby d5_26) rfl rfl ?_
    intro T67 X67 e67
    show Go p e below s _ _ _ T67 (mkF m 29 #[.val (.ref a), .val (.long lq), .second, .val (.int (0 : Int32))] [(.ref tq)])
    have c68 := P3.other W60 (Ne.symm P6)
    have c69 := c68.other W64 (Ne.symm P6)
    refine go_alen X67 hx hZ e67 c69 (hb hby d5_29) rfl rfl (3 : Int32) (by decide) ?_
    show Go p e below s _ _ _ T67 (mkF m 30 #[.val (.ref a), .val (.long lq), .second, .val (.int (0 : Int32))] [(.int (3 : Int32))])
    refine go_st (fun _ kq => XT.iconstV X67.here hx rfl (4 : Int32) (hb hby d5_30) (by decide) kq) ?_
    show Go p e below s _ _ _ T67 (mkF m 31 #[.val (.ref a), .val (.long lq), .second, .val (.int (0 : Int32))] [(.int (4 : Int32)), (.int (3 : Int32))])
    refine go_st (fun _ kq => XS.icmpYes X67.here hx rfl (pc0 := 31) (pc' := 63) rfl (hb hby d5_31) rfl (XT.ii_le_t (by decide)) (by decide) (by decide) kq) ?_
    show Go p e below s _ _ _ T67 (mkF m 63 #[.val (.ref a), .val (.long lq), .second, .val (.int (0 : Int32))] [])
    have c70 := Exa.wr W64 c63
    have c71 := Fld.other W64 F60 (Or.inr (slot_ne (a0 := a0) (t := .int) (t' := .int) (Or.inl (hw _ (List.mem_of_getElem? (i := 45) rfl))) (Or.inl (hw _ (List.mem_of_getElem? (i := 35) rfl))) (by decide) (by decide) (by decide)))
    exact go_ret0 X67 hx hlk hret (hb hby d5_63) (by decide) (by decide) (by rw [e67]; exact ⟨0, rfl, N64, (Keep.wr (Keep.wr (Keep.refl h0 [a]) W60 (Or.inl (by simp))) W64 (Or.inl (by simp))), (by decide), (fun hh => absurd hh (by decide)), c70, c71, F64, c66⟩)
  · by_cases hk72 : (fCnt2 fq hq lq) = (1 : Int32)
    · rw [hk72]
      show Go p e below s _ _ _ T57 (mkF m 5 #[.val (.ref a), .val (.long lq), .second, .unset] [(.int (1 : Int32))])
      refine go_st (fun _ kq => XS.istoreN X57.here hx rfl (hb hby d5_5) rfl (l' := #[.val (.ref a), .val (.long lq), .second, .val (.int (1 : Int32))]) rfl kq) ?_
      show Go p e below s _ _ _ T57 (mkF m 6 #[.val (.ref a), .val (.long lq), .second, .val (.int (1 : Int32))] [])
      refine go_st (fun _ kq => XS.aloadN X57.here hx rfl (hb hby d5_6) rfl rfl kq) ?_
      show Go p e below s _ _ _ T57 (mkF m 7 #[.val (.ref a), .val (.long lq), .second, .val (.int (1 : Int32))] [(.ref a)])
      refine go_st (fun _ kq => XS.aloadN X57.here hx rfl (hb hby d5_7) rfl rfl kq) ?_
      show Go p e below s _ _ _ T57 (mkF m 8 #[.val (.ref a), .val (.long lq), .second, .val (.int (1 : Int32))] [(.ref a), (.ref a)])
      refine go_st (fun _ kq => XS.iloadN X57.here hx rfl (hb hby d5_8) rfl kq) ?_
      show Go p e below s _ _ _ T57 (mkF m 9 #[.val (.ref a), .val (.long lq), .second, .val (.int (1 : Int32))] [(.int (1 : Int32)), (.ref a), (.ref a)])
      refine go_callP X57 hx hZ hml hown (hw _ (List.mem_of_getElem? (i := 40) rfl)) (hw _ (List.mem_of_getElem? (i := 42) rfl)) (hw _ (List.mem_of_getElem? (i := 1) rfl)) (hw _ (List.mem_of_getElem? (i := 41) rfl)) (hw _ (List.mem_of_getElem? (i := 43) rfl)) (hw _ (List.mem_of_getElem? (i := 2) rfl)) e57 P0 (argsL := [(.int (1 : Int32))]) (rest := [(.ref a)]) (W := 1) (met_8 l Z a0 hw a 1 hq tq fq h0 n0 Z0 P1 P2 P3) (hb hby d5_9) rfl rfl rfl (lenOf pd0 rfl) (by show 2 * 0 + _ ≤ _; exact Nat.le_of_eq rfl) (by decide) (by decide) (by decide) (by decide) (by decide) ?_
      intro T73 v73 L73 X73 q73
      obtain ⟨rfl, M73, e73⟩ := q73
      have N73 := Fr.app N57 M73
      rw [own_slot (h := hq) (k := 1) (by omega) (by omega)]
      show Go p e below s _ _ _ T73 (mkF m 12 #[.val (.ref a), .val (.long lq), .second, .val (.int (1 : Int32))] [(.int (Int32.ofNat ((hq + 1) % 3))), (.ref a)])
      refine go_putF X73 hx hZ hown (host := "") (Or.inl (hw _ (List.mem_of_getElem? (i := 44) rfl))) Via.refl e73 P1 P0 (Or.inl (hw _ (List.mem_of_getElem? (i := 45) rfl))) (hw _ (List.mem_of_getElem? (i := 1) rfl)) (ty := .int) (by decide) rfl rfl (hb hby d5_12) rfl rfl ?_
      intro T74 h74 X74 e74 W74
      have N74 := Fr.snoc X74 N73 P7
      have F74 : Fld Z h74 a "com/example/aforo/aforo/SlidingLog" "head" "I" (.int (Int32.ofNat ((hq + 1) % 3))) := Fld.same W74 P1
      show Go p e below s _ _ _ T74 (mkF m 15 #[.val (.ref a), .val (.long lq), .second, .val (.int (1 : Int32))] [])
      refine go_st (fun _ kq => XS.aloadN X74.here hx rfl (hb hby d5_15) rfl rfl kq) ?_
      show Go p e below s _ _ _ T74 (mkF m 16 #[.val (.ref a), .val (.long lq), .second, .val (.int (1 : Int32))] [(.ref a)])
      refine go_st (fun _ kq => XS.dup X74.here hx rfl (hb hby d5_16) rfl rfl kq) ?_
      show Go p e below s _ _ _ T74 (mkF m 17 #[.val (.ref a), .val (.long lq), .second, .val (.int (1 : Int32))] [(.ref a), (.ref a)])
      have c75 := Fld.other W74 P5 (Or.inr (slot_ne (a0 := a0) (t := .int) (t' := .int) (Or.inl (hw _ (List.mem_of_getElem? (i := 35) rfl))) (Or.inl (hw _ (List.mem_of_getElem? (i := 45) rfl))) (by decide) (by decide) (by decide)))
      refine go_getF X74 hx hZ hown (host := "") (Or.inl (hw _ (List.mem_of_getElem? (i := 34) rfl))) Via.refl e74 c75 (hb hby d5_17) rfl rfl ?_
      intro T76 X76 e76
      show Go p e below s _ _ _ T76 (mkF m 20 #[.val (.ref a), .val (.long lq), .second, .val (.int (1 : Int32))] [(.int (2 : Int32)), (.ref a)])
      refine go_st (fun _ kq => XS.iloadN X76.here hx rfl (hb hby d5_20) rfl kq) ?_
      show Go p e below s _ _ _ T76 (mkF m 21 #[.val (.ref a), .val (.long lq), .second, .val (.int (1 : Int32))] [(.int (1 : Int32)), (.int (2 : Int32)), (.ref a)])
      refine go_st (fun _ kq => XS.isub X76.here hx rfl (hb hby d5_21) rfl kq) ?_
      rw [show ((2 : Int32) - (1 : Int32)) = (1 : Int32) from by decide +kernel]
      show Go p e below s _ _ _ T76 (mkF m 22 #[.val (.ref a), .val (.long lq), .second, .val (.int (1 : Int32))] [(.int (1 : Int32)), (.ref a)])
      have c77 := Exa.wr W74 P0
      refine go_putF X76 hx hZ hown (host := "") (Or.inl (hw _ (List.mem_of_getElem? (i := 34) rfl))) Via.refl e76 c75 c77 (Or.inl (hw _ (List.mem_of_getElem? (i := 35) rfl))) (hw _ (List.mem_of_getElem? (i := 1) rfl)) (ty := .int) (by decide) rfl rfl (hb hby d5_22) rfl rfl ?_
      intro T78 h78 X78 e78 W78
      have N78 := Fr.snoc X78 N74 P7
      have F78 : Fld Z h78 a "com/example/aforo/aforo/SlidingLog" "size" "I" (.int (1 : Int32)) := Fld.same W78 c75
      show Go p e below s _ _ _ T78 (mkF m 25 #[.val (.ref a), .val (.long lq), .second, .val (.int (1 : Int32))] [])
      refine go_st (fun _ kq => XS.aloadN X78.here hx rfl (hb hby d5_25) rfl rfl kq) ?_
      show Go p e below s _ _ _ T78 (mkF m 26 #[.val (.ref a), .val (.long lq), .second, .val (.int (1 : Int32))] [(.ref a)])
      have c79 := Fld.other W74 P2 (Or.inr (slot_ne (a0 := a0) (t := (.array .long)) (t' := .int) (Or.inl (hw _ (List.mem_of_getElem? (i := 17) rfl))) (Or.inl (hw _ (List.mem_of_getElem? (i := 45) rfl))) (by decide) (by decide) (by decide)))
      have c80 := Fld.other W78 c79 (Or.inr (slot_ne (a0 := a0) (t := (.array .long)) (t' := .int) (Or.inl (hw _ (List.mem_of_getElem? (i := 17) rfl))) (Or.inl (hw _ (List.mem_of_getElem? (i := 35) rfl))) (by decide) (by decide) (by decide)))
      refine go_getF X78 hx hZ hown (host := "") (Or.inl (hw _ (List.mem_of_getElem? (i := 16) rfl))) Via.refl e78 c80 (hb hby d5_26) rfl rfl ?_
      intro T81 X81 e81
      show Go p e below s _ _ _ T81 (mkF m 29 #[.val (.ref a), .val (.long lq), .second, .val (.int (1 : Int32))] [(.ref tq)])
      have c82 := P3.other W74 (Ne.symm P6)
      have c83 := c82.other W78 (Ne.symm P6)
      refine go_alen X81 hx hZ e81 c83 (hb hby d5_29) rfl rfl (3 : Int32) (by decide) ?_
      show Go p e below s _ _ _ T81 (mkF m 30 #[.val (.ref a), .val (.long lq), .second, .val (.int (1 : Int32))] [(.int (3 : Int32))])
      refine go_st (fun _ kq => XT.iconstV X81.here hx rfl (4 : Int32) (hb hby d5_30) (by decide) kq) ?_
      show Go p e below s _ _ _ T81 (mkF m 31 #[.val (.ref a), .val (.long lq), .second, .val (.int (1 : Int32))] [(.int (4 : Int32)), (.int (3 : Int32))])
      refine go_st (fun _ kq => XS.icmpYes X81.here hx rfl (pc0 := 31) (pc' := 63) rfl (hb hby d5_31) rfl (XT.ii_le_t (by decide)) (by decide) (by decide) kq) ?_
      show Go p e below s _ _ _ T81 (mkF m 63 #[.val (.ref a), .val (.long lq), .second, .val (.int (1 : Int32))] [])
      have c84 := Exa.wr W78 c77
      have c85 := Fld.other W78 F74 (Or.inr (slot_ne (a0 := a0) (t := .int) (t' := .int) (Or.inl (hw _ (List.mem_of_getElem? (i := 45) rfl))) (Or.inl (hw _ (List.mem_of_getElem? (i := 35) rfl))) (by decide) (by decide) (by decide)))
      exact go_ret0 X81 hx hlk hret (hb hby d5_63) (by decide) (by decide) (by rw [e81]; exact ⟨1, rfl, N78, (Keep.wr (Keep.wr (Keep.refl h0 [a]) W74 (Or.inl (by simp))) W78 (Or.inl (by simp))), (by decide), (fun hh => absurd hh (by decide)), c84, c85, F78, c80⟩)
    · by_cases hk86 : (fCnt2 fq hq lq) = (2 : Int32)
      · rw [hk86]
        show Go p e below s _ _ _ T57 (mkF m 5 #[.val (.ref a), .val (.long lq), .second, .unset] [(.int (2 : Int32))])
        refine go_st (fun _ kq => XS.istoreN X57.here hx rfl (hb hby d5_5) rfl (l' := #[.val (.ref a), .val (.long lq), .second, .val (.int (2 : Int32))]) rfl kq) ?_
        show Go p e below s _ _ _ T57 (mkF m 6 #[.val (.ref a), .val (.long lq), .second, .val (.int (2 : Int32))] [])
        refine go_st (fun _ kq => XS.aloadN X57.here hx rfl (hb hby d5_6) rfl rfl kq) ?_
        show Go p e below s _ _ _ T57 (mkF m 7 #[.val (.ref a), .val (.long lq), .second, .val (.int (2 : Int32))] [(.ref a)])
        refine go_st (fun _ kq => XS.aloadN X57.here hx rfl (hb hby d5_7) rfl rfl kq) ?_
        show Go p e below s _ _ _ T57 (mkF m 8 #[.val (.ref a), .val (.long lq), .second, .val (.int (2 : Int32))] [(.ref a), (.ref a)])
        refine go_st (fun _ kq => XS.iloadN X57.here hx rfl (hb hby d5_8) rfl kq) ?_
        show Go p e below s _ _ _ T57 (mkF m 9 #[.val (.ref a), .val (.long lq), .second, .val (.int (2 : Int32))] [(.int (2 : Int32)), (.ref a), (.ref a)])
        refine go_callP X57 hx hZ hml hown (hw _ (List.mem_of_getElem? (i := 40) rfl)) (hw _ (List.mem_of_getElem? (i := 42) rfl)) (hw _ (List.mem_of_getElem? (i := 1) rfl)) (hw _ (List.mem_of_getElem? (i := 41) rfl)) (hw _ (List.mem_of_getElem? (i := 43) rfl)) (hw _ (List.mem_of_getElem? (i := 2) rfl)) e57 P0 (argsL := [(.int (2 : Int32))]) (rest := [(.ref a)]) (W := 1) (met_8 l Z a0 hw a 2 hq tq fq h0 n0 Z0 P1 P2 P3) (hb hby d5_9) rfl rfl rfl (lenOf pd0 rfl) (by show 2 * 0 + _ ≤ _; exact Nat.le_of_eq rfl) (by decide) (by decide) (by decide) (by decide) (by decide) ?_
        intro T87 v87 L87 X87 q87
        obtain ⟨rfl, M87, e87⟩ := q87
        have N87 := Fr.app N57 M87
        rw [own_slot (h := hq) (k := 2) (by omega) (by omega)]
        show Go p e below s _ _ _ T87 (mkF m 12 #[.val (.ref a), .val (.long lq), .second, .val (.int (2 : Int32))] [(.int (Int32.ofNat ((hq + 2) % 3))), (.ref a)])
        refine go_putF X87 hx hZ hown (host := "") (Or.inl (hw _ (List.mem_of_getElem? (i := 44) rfl))) Via.refl e87 P1 P0 (Or.inl (hw _ (List.mem_of_getElem? (i := 45) rfl))) (hw _ (List.mem_of_getElem? (i := 1) rfl)) (ty := .int) (by decide) rfl rfl (hb hby d5_12) rfl rfl ?_
        intro T88 h88 X88 e88 W88
        have N88 := Fr.snoc X88 N87 P7
        have F88 : Fld Z h88 a "com/example/aforo/aforo/SlidingLog" "head" "I" (.int (Int32.ofNat ((hq + 2) % 3))) := Fld.same W88 P1
        show Go p e below s _ _ _ T88 (mkF m 15 #[.val (.ref a), .val (.long lq), .second, .val (.int (2 : Int32))] [])
        refine go_st (fun _ kq => XS.aloadN X88.here hx rfl (hb hby d5_15) rfl rfl kq) ?_
        show Go p e below s _ _ _ T88 (mkF m 16 #[.val (.ref a), .val (.long lq), .second, .val (.int (2 : Int32))] [(.ref a)])
        refine go_st (fun _ kq => XS.dup X88.here hx rfl (hb hby d5_16) rfl rfl kq) ?_
        show Go p e below s _ _ _ T88 (mkF m 17 #[.val (.ref a), .val (.long lq), .second, .val (.int (2 : Int32))] [(.ref a), (.ref a)])
        have c89 := Fld.other W88 P5 (Or.inr (slot_ne (a0 := a0) (t := .int) (t' := .int) (Or.inl (hw _ (List.mem_of_getElem? (i := 35) rfl))) (Or.inl (hw _ (List.mem_of_getElem? (i := 45) rfl))) (by decide) (by decide) (by decide)))
        refine go_getF X88 hx hZ hown (host := "") (Or.inl (hw _ (List.mem_of_getElem? (i := 34) rfl))) Via.refl e88 c89 (hb hby d5_17) rfl rfl ?_
        intro T90 X90 e90
        show Go p e below s _ _ _ T90 (mkF m 20 #[.val (.ref a), .val (.long lq), .second, .val (.int (2 : Int32))] [(.int (2 : Int32)), (.ref a)])
        refine go_st (fun _ kq => XS.iloadN X90.here hx rfl (hb hby d5_20) rfl kq) ?_
        show Go p e below s _ _ _ T90 (mkF m 21 #[.val (.ref a), .val (.long lq), .second, .val (.int (2 : Int32))] [(.int (2 : Int32)), (.int (2 : Int32)), (.ref a)])
        refine go_st (fun _ kq => XS.isub X90.here hx rfl (hb hby d5_21) rfl kq) ?_
        rw [show ((2 : Int32) - (2 : Int32)) = (0 : Int32) from by decide +kernel]
        show Go p e below s _ _ _ T90 (mkF m 22 #[.val (.ref a), .val (.long lq), .second, .val (.int (2 : Int32))] [(.int (0 : Int32)), (.ref a)])
        have c91 := Exa.wr W88 P0
        refine go_putF X90 hx hZ hown (host := "") (Or.inl (hw _ (List.mem_of_getElem? (i := 34) rfl))) Via.refl e90 c89 c91 (Or.inl (hw _ (List.mem_of_getElem? (i := 35) rfl))) (hw _ (List.mem_of_getElem? (i := 1) rfl)) (ty := .int) (by decide) rfl rfl (hb hby d5_22) rfl rfl ?_
        intro T92 h92 X92 e92 W92
        have N92 := Fr.snoc X92 N88 P7
        have F92 : Fld Z h92 a "com/example/aforo/aforo/SlidingLog" "size" "I" (.int (0 : Int32)) := Fld.same W92 c89
        show Go p e below s _ _ _ T92 (mkF m 25 #[.val (.ref a), .val (.long lq), .second, .val (.int (2 : Int32))] [])
        refine go_st (fun _ kq => XS.aloadN X92.here hx rfl (hb hby d5_25) rfl rfl kq) ?_
        show Go p e below s _ _ _ T92 (mkF m 26 #[.val (.ref a), .val (.long lq), .second, .val (.int (2 : Int32))] [(.ref a)])
        have c93 := Fld.other W88 P2 (Or.inr (slot_ne (a0 := a0) (t := (.array .long)) (t' := .int) (Or.inl (hw _ (List.mem_of_getElem? (i := 17) rfl))) (Or.inl (hw _ (List.mem_of_getElem? (i := 45) rfl))) (by decide) (by decide) (by decide)))
        have c94 := Fld.other W92 c93 (Or.inr (slot_ne (a0 := a0) (t := (.array .long)) (t' := .int) (Or.inl (hw _ (List.mem_of_getElem? (i := 17) rfl))) (Or.inl (hw _ (List.mem_of_getElem? (i := 35) rfl))) (by decide) (by decide) (by decide)))
        refine go_getF X92 hx hZ hown (host := "") (Or.inl (hw _ (List.mem_of_getElem? (i := 16) rfl))) Via.refl e92 c94 (hb hby d5_26) rfl rfl ?_
        intro T95 X95 e95
        show Go p e below s _ _ _ T95 (mkF m 29 #[.val (.ref a), .val (.long lq), .second, .val (.int (2 : Int32))] [(.ref tq)])
        have c96 := P3.other W88 (Ne.symm P6)
        have c97 := c96.other W92 (Ne.symm P6)
        refine go_alen X95 hx hZ e95 c97 (hb hby d5_29) rfl rfl (3 : Int32) (by decide) ?_
        show Go p e below s _ _ _ T95 (mkF m 30 #[.val (.ref a), .val (.long lq), .second, .val (.int (2 : Int32))] [(.int (3 : Int32))])
        refine go_st (fun _ kq => XT.iconstV X95.here hx rfl (4 : Int32) (hb hby d5_30) (by decide) kq) ?_
        show Go p e below s _ _ _ T95 (mkF m 31 #[.val (.ref a), .val (.long lq), .second, .val (.int (2 : Int32))] [(.int (4 : Int32)), (.int (3 : Int32))])
        refine go_st (fun _ kq => XS.icmpYes X95.here hx rfl (pc0 := 31) (pc' := 63) rfl (hb hby d5_31) rfl (XT.ii_le_t (by decide)) (by decide) (by decide) kq) ?_
        show Go p e below s _ _ _ T95 (mkF m 63 #[.val (.ref a), .val (.long lq), .second, .val (.int (2 : Int32))] [])
        have c98 := Exa.wr W92 c91
        have c99 := Fld.other W92 F88 (Or.inr (slot_ne (a0 := a0) (t := .int) (t' := .int) (Or.inl (hw _ (List.mem_of_getElem? (i := 45) rfl))) (Or.inl (hw _ (List.mem_of_getElem? (i := 35) rfl))) (by decide) (by decide) (by decide)))
        exact go_ret0 X95 hx hlk hret (hb hby d5_63) (by decide) (by decide) (by rw [e95]; exact ⟨2, rfl, N92, (Keep.wr (Keep.wr (Keep.refl h0 [a]) W88 (Or.inl (by simp))) W92 (Or.inl (by simp))), (by decide), (fun _ => own_cnt2 hk86), c98, c99, F92, c94⟩)
      · exact (own_cnt2' hk58 hk72 hk86).elim
def Q_fgtz (Z : State) (a : Addr) (lq : Int64) (tq : Addr) (fq : Nat → Int64) (h0 : Heap) (n0 : Nat) (v : Option Value) (h : Heap) (L : List Loc) : Prop := v = none ∧ Fr n0 L ∧ Keep h0 h [a] ∧ Exa Z h a "com/example/aforo/aforo/SlidingLog" ∧ Fld Z h a "com/example/aforo/aforo/SlidingLog" "head" "I" (.int (0 : Int32)) ∧ Fld Z h a "com/example/aforo/aforo/SlidingLog" "size" "I" (.int (0 : Int32)) ∧ Fld Z h a "com/example/aforo/aforo/SlidingLog" "times" "[J" (.ref tq)
theorem ef_fgtz (m : MethodId) (a : Addr) (lq : Int64) (tq : Addr) (fq : Nat → Int64) : entryFrame m #[(.ref a), (.long lq)] 4 = mkF m 0 #[.val (.ref a), .val (.long lq), .second, .unset] [] := by first | (simp [entryFrame, mkF, argsToLocals, Value.category]; done) | rfl
abbrev rm_fgtz : Room := ({ frames := 2, cells := 0, slots := 0, locals := 32 } : Room)
set_option maxRecDepth 65536 in
set_option maxHeartbeats 4000000 in
theorem met_fgtz (l : Launch) (Z : State) (a0 : Array Value) (hw : ∀ d ∈ tables_1, d.before a0 Z = true) (a : Addr) (lq : Int64) (tq : Addr) (fq : Nat → Int64) (h0 : Heap) (n0 : Nat) (Z0 : n0 ≤ h0.size) (P0 : Exa Z h0 a "com/example/aforo/aforo/SlidingLog") (P1 : Fld Z h0 a "com/example/aforo/aforo/SlidingLog" "head" "I" (.int (0 : Int32))) (P2 : Fld Z h0 a "com/example/aforo/aforo/SlidingLog" "size" "I" (.int (0 : Int32))) (P3 : Fld Z h0 a "com/example/aforo/aforo/SlidingLog" "times" "[J" (.ref tq)) (P4 : GA Z h0 tq .long 0 (fun i => .long (fq i))) (P5 : a ≠ tq) (P6 : n0 ≤ a) :
    Met l (⟨"com/example/aforo/aforo/SlidingLog", "forgetUpTo", "(J)V"⟩ : MethodName) prog_17_method_6_code 4 none [] rm_fgtz Z #[(.ref a), (.long lq)] h0 (Q_fgtz Z a lq tq fq h0 n0) rm_fgtz.cells rm_fgtz.slots := by
  refine own_body pn6 ?_
  intro p e s m below meth c s₁ ct X0 e0
  have ct0 := ct
  obtain ⟨hx, hZ, hown, hby, hml, hret, hlk, hnm⟩ := ct
  have lt_a : a < h0.size := P0.lt
  have lt_tq : tq < h0.size := P4.lt
  have N0 := Fr.nil n0
  refine castGo (ef_fgtz m a lq tq fq) ?_
  show Go p e below s _ _ _ s₁ (mkF m 0 #[.val (.ref a), .val (.long lq), .second, .unset] [])
  refine go_st (fun _ kq => XS.aloadN X0.here hx rfl (hb hby d5_0) rfl rfl kq) ?_
  show Go p e below s _ _ _ s₁ (mkF m 1 #[.val (.ref a), .val (.long lq), .second, .unset] [(.ref a)])
  refine go_st (fun _ kq => XT.lloadN X0.here hx rfl (hb hby d5_1) rfl kq) ?_
  show Go p e below s _ _ _ s₁ (mkF m 2 #[.val (.ref a), .val (.long lq), .second, .unset] [(.long lq), (.ref a)])
  refine go_callP X0 hx hZ hml hown (hw _ (List.mem_of_getElem? (i := 30) rfl)) (hw _ (List.mem_of_getElem? (i := 32) rfl)) (hw _ (List.mem_of_getElem? (i := 1) rfl)) (hw _ (List.mem_of_getElem? (i := 31) rfl)) (hw _ (List.mem_of_getElem? (i := 33) rfl)) (hw _ (List.mem_of_getElem? (i := 2) rfl)) e0 P0 (argsL := [(.long lq)]) (rest := []) (W := 0) (met_cntz l Z a0 hw a lq h0 n0 Z0 P0 P2) (hb hby d5_2) rfl rfl rfl (lenOf pd3 rfl) (by show 2 * 0 + _ ≤ _; exact Nat.le_of_eq rfl) (by decide) (by decide) (by decide) (by decide) (by decide) ?_
  intro T100 v100 L100 X100 q100
  obtain ⟨rfl, M100, e100⟩ := q100
  have N100 := Fr.app N0 M100
  rw [show fCntZ = (0 : Int32) from rfl]
  show Go p e below s _ _ _ T100 (mkF m 5 #[.val (.ref a), .val (.long lq), .second, .unset] [(.int (0 : Int32))])
  refine go_st (fun _ kq => XS.istoreN X100.here hx rfl (hb hby d5_5) rfl (l' := #[.val (.ref a), .val (.long lq), .second, .val (.int (0 : Int32))]) rfl kq) ?_
  show Go p e below s _ _ _ T100 (mkF m 6 #[.val (.ref a), .val (.long lq), .second, .val (.int (0 : Int32))] [])
  refine go_st (fun _ kq => XS.aloadN X100.here hx rfl (hb hby d5_6) rfl rfl kq) ?_
  show Go p e below s _ _ _ T100 (mkF m 7 #[.val (.ref a), .val (.long lq), .second, .val (.int (0 : Int32))] [(.ref a)])
  refine go_st (fun _ kq => XS.aloadN X100.here hx rfl (hb hby d5_7) rfl rfl kq) ?_
  show Go p e below s _ _ _ T100 (mkF m 8 #[.val (.ref a), .val (.long lq), .second, .val (.int (0 : Int32))] [(.ref a), (.ref a)])
  refine go_st (fun _ kq => XS.iloadN X100.here hx rfl (hb hby d5_8) rfl kq) ?_
  show Go p e below s _ _ _ T100 (mkF m 9 #[.val (.ref a), .val (.long lq), .second, .val (.int (0 : Int32))] [(.int (0 : Int32)), (.ref a), (.ref a)])
  refine go_callP X100 hx hZ hml hown (hw _ (List.mem_of_getElem? (i := 40) rfl)) (hw _ (List.mem_of_getElem? (i := 42) rfl)) (hw _ (List.mem_of_getElem? (i := 1) rfl)) (hw _ (List.mem_of_getElem? (i := 41) rfl)) (hw _ (List.mem_of_getElem? (i := 43) rfl)) (hw _ (List.mem_of_getElem? (i := 2) rfl)) e100 P0 (argsL := [(.int (0 : Int32))]) (rest := [(.ref a)]) (W := 1) (met_slz l Z a0 hw a tq fq h0 n0 Z0 P1 P3 P4) (hb hby d5_9) rfl rfl rfl (lenOf pd0 rfl) (by show 2 * 0 + _ ≤ _; exact Nat.le_of_eq rfl) (by decide) (by decide) (by decide) (by decide) (by decide) ?_
  intro T101 v101 L101 X101 q101
  obtain ⟨rfl, M101, e101⟩ := q101
  have N101 := Fr.app N100 M101
  rw [show fSlotZ = (0 : Int32) from rfl]
  show Go p e below s _ _ _ T101 (mkF m 12 #[.val (.ref a), .val (.long lq), .second, .val (.int (0 : Int32))] [(.int (0 : Int32)), (.ref a)])
  refine go_putF X101 hx hZ hown (host := "") (Or.inl (hw _ (List.mem_of_getElem? (i := 44) rfl))) Via.refl e101 P1 P0 (Or.inl (hw _ (List.mem_of_getElem? (i := 45) rfl))) (hw _ (List.mem_of_getElem? (i := 1) rfl)) (ty := .int) (by decide) rfl rfl (hb hby d5_12) rfl rfl ?_
  intro T102 h102 X102 e102 W102
  have N102 := Fr.snoc X102 N101 P6
  have F102 : Fld Z h102 a "com/example/aforo/aforo/SlidingLog" "head" "I" (.int (0 : Int32)) := Fld.same W102 P1
  show Go p e below s _ _ _ T102 (mkF m 15 #[.val (.ref a), .val (.long lq), .second, .val (.int (0 : Int32))] [])
  refine go_st (fun _ kq => XS.aloadN X102.here hx rfl (hb hby d5_15) rfl rfl kq) ?_
  show Go p e below s _ _ _ T102 (mkF m 16 #[.val (.ref a), .val (.long lq), .second, .val (.int (0 : Int32))] [(.ref a)])
  refine go_st (fun _ kq => XS.dup X102.here hx rfl (hb hby d5_16) rfl rfl kq) ?_
  show Go p e below s _ _ _ T102 (mkF m 17 #[.val (.ref a), .val (.long lq), .second, .val (.int (0 : Int32))] [(.ref a), (.ref a)])
  have c103 := Fld.other W102 P2 (Or.inr (slot_ne (a0 := a0) (t := .int) (t' := .int) (Or.inl (hw _ (List.mem_of_getElem? (i := 35) rfl))) (Or.inl (hw _ (List.mem_of_getElem? (i := 45) rfl))) (by decide) (by decide) (by decide)))
  refine go_getF X102 hx hZ hown (host := "") (Or.inl (hw _ (List.mem_of_getElem? (i := 34) rfl))) Via.refl e102 c103 (hb hby d5_17) rfl rfl ?_
  intro T104 X104 e104
  show Go p e below s _ _ _ T104 (mkF m 20 #[.val (.ref a), .val (.long lq), .second, .val (.int (0 : Int32))] [(.int (0 : Int32)), (.ref a)])
  refine go_st (fun _ kq => XS.iloadN X104.here hx rfl (hb hby d5_20) rfl kq) ?_
  show Go p e below s _ _ _ T104 (mkF m 21 #[.val (.ref a), .val (.long lq), .second, .val (.int (0 : Int32))] [(.int (0 : Int32)), (.int (0 : Int32)), (.ref a)])
  refine go_st (fun _ kq => XS.isub X104.here hx rfl (hb hby d5_21) rfl kq) ?_
  rw [show ((0 : Int32) - (0 : Int32)) = (0 : Int32) from by decide +kernel]
  show Go p e below s _ _ _ T104 (mkF m 22 #[.val (.ref a), .val (.long lq), .second, .val (.int (0 : Int32))] [(.int (0 : Int32)), (.ref a)])
  have c105 := Exa.wr W102 P0
  refine go_putF X104 hx hZ hown (host := "") (Or.inl (hw _ (List.mem_of_getElem? (i := 34) rfl))) Via.refl e104 c103 c105 (Or.inl (hw _ (List.mem_of_getElem? (i := 35) rfl))) (hw _ (List.mem_of_getElem? (i := 1) rfl)) (ty := .int) (by decide) rfl rfl (hb hby d5_22) rfl rfl ?_
  intro T106 h106 X106 e106 W106
  have N106 := Fr.snoc X106 N102 P6
  have F106 : Fld Z h106 a "com/example/aforo/aforo/SlidingLog" "size" "I" (.int (0 : Int32)) := Fld.same W106 c103
  show Go p e below s _ _ _ T106 (mkF m 25 #[.val (.ref a), .val (.long lq), .second, .val (.int (0 : Int32))] [])
  refine go_st (fun _ kq => XS.aloadN X106.here hx rfl (hb hby d5_25) rfl rfl kq) ?_
  show Go p e below s _ _ _ T106 (mkF m 26 #[.val (.ref a), .val (.long lq), .second, .val (.int (0 : Int32))] [(.ref a)])
  have c107 := Fld.other W102 P3 (Or.inr (slot_ne (a0 := a0) (t := (.array .long)) (t' := .int) (Or.inl (hw _ (List.mem_of_getElem? (i := 17) rfl))) (Or.inl (hw _ (List.mem_of_getElem? (i := 45) rfl))) (by decide) (by decide) (by decide)))
  have c108 := Fld.other W106 c107 (Or.inr (slot_ne (a0 := a0) (t := (.array .long)) (t' := .int) (Or.inl (hw _ (List.mem_of_getElem? (i := 17) rfl))) (Or.inl (hw _ (List.mem_of_getElem? (i := 35) rfl))) (by decide) (by decide) (by decide)))
  refine go_getF X106 hx hZ hown (host := "") (Or.inl (hw _ (List.mem_of_getElem? (i := 16) rfl))) Via.refl e106 c108 (hb hby d5_26) rfl rfl ?_
  intro T109 X109 e109
  show Go p e below s _ _ _ T109 (mkF m 29 #[.val (.ref a), .val (.long lq), .second, .val (.int (0 : Int32))] [(.ref tq)])
  have c110 := P4.other W102 (Ne.symm P5)
  have c111 := c110.other W106 (Ne.symm P5)
  refine go_alen X109 hx hZ e109 c111 (hb hby d5_29) rfl rfl (0 : Int32) (by decide) ?_
  show Go p e below s _ _ _ T109 (mkF m 30 #[.val (.ref a), .val (.long lq), .second, .val (.int (0 : Int32))] [(.int (0 : Int32))])
  refine go_st (fun _ kq => XT.iconstV X109.here hx rfl (4 : Int32) (hb hby d5_30) (by decide) kq) ?_
  show Go p e below s _ _ _ T109 (mkF m 31 #[.val (.ref a), .val (.long lq), .second, .val (.int (0 : Int32))] [(.int (4 : Int32)), (.int (0 : Int32))])
  refine go_st (fun _ kq => XS.icmpYes X109.here hx rfl (pc0 := 31) (pc' := 63) rfl (hb hby d5_31) rfl (XT.ii_le_t (by decide)) (by decide) (by decide) kq) ?_
  show Go p e below s _ _ _ T109 (mkF m 63 #[.val (.ref a), .val (.long lq), .second, .val (.int (0 : Int32))] [])
  have c112 := Exa.wr W106 c105
  have c113 := Fld.other W106 F102 (Or.inr (slot_ne (a0 := a0) (t := .int) (t' := .int) (Or.inl (hw _ (List.mem_of_getElem? (i := 45) rfl))) (Or.inl (hw _ (List.mem_of_getElem? (i := 35) rfl))) (by decide) (by decide) (by decide)))
  exact go_ret0 X109 hx hlk hret (hb hby d5_63) (by decide) (by decide) (by rw [e109]; exact ⟨rfl, N106, (Keep.wr (Keep.wr (Keep.refl h0 [a]) W102 (Or.inl (by simp))) W106 (Or.inl (by simp))), c112, c113, F106, c108⟩)
theorem d12_0 : decode prog_17_method_9_code 0 = .ok (.iload_n 1, 1) := by decide +kernel
theorem d12_1 : decode prog_17_method_9_code 1 = .ok (.newarray .long, 2) := by decide +kernel
theorem d12_3 : decode prog_17_method_9_code 3 = .ok (.astore_n 2, 1) := by decide +kernel
theorem d12_4 : decode prog_17_method_9_code 4 = .ok (.aload_n 0, 1) := by decide +kernel
theorem d12_5 : decode prog_17_method_9_code 5 = .ok (.getfield 20, 3) := by decide +kernel
theorem d12_8 : decode prog_17_method_9_code 8 = .ok (.aload_n 0, 1) := by decide +kernel
theorem d12_9 : decode prog_17_method_9_code 9 = .ok (.getfield 13, 3) := by decide +kernel
theorem d12_12 : decode prog_17_method_9_code 12 = .ok (.arraylength, 1) := by decide +kernel
theorem d12_13 : decode prog_17_method_9_code 13 = .ok (.aload_n 0, 1) := by decide +kernel
theorem d12_14 : decode prog_17_method_9_code 14 = .ok (.getfield 58, 3) := by decide +kernel
theorem d12_17 : decode prog_17_method_9_code 17 = .ok (.isub, 1) := by decide +kernel
theorem d12_18 : decode prog_17_method_9_code 18 = .ok (.invokestatic 68, 3) := by decide +kernel
theorem d12_21 : decode prog_17_method_9_code 21 = .ok (.istore_n 3, 1) := by decide +kernel
theorem d12_22 : decode prog_17_method_9_code 22 = .ok (.aload_n 0, 1) := by decide +kernel
theorem d12_23 : decode prog_17_method_9_code 23 = .ok (.getfield 13, 3) := by decide +kernel
theorem d12_26 : decode prog_17_method_9_code 26 = .ok (.aload_n 0, 1) := by decide +kernel
theorem d12_27 : decode prog_17_method_9_code 27 = .ok (.getfield 58, 3) := by decide +kernel
theorem d12_30 : decode prog_17_method_9_code 30 = .ok (.aload_n 2, 1) := by decide +kernel
theorem d12_31 : decode prog_17_method_9_code 31 = .ok (.iconst 0, 1) := by decide +kernel
theorem d12_32 : decode prog_17_method_9_code 32 = .ok (.iload_n 3, 1) := by decide +kernel
theorem d12_33 : decode prog_17_method_9_code 33 = .ok (.invokestatic 77, 3) := by decide +kernel
theorem d12_36 : decode prog_17_method_9_code 36 = .ok (.aload_n 0, 1) := by decide +kernel
theorem d12_37 : decode prog_17_method_9_code 37 = .ok (.getfield 13, 3) := by decide +kernel
theorem d12_40 : decode prog_17_method_9_code 40 = .ok (.iconst 0, 1) := by decide +kernel
theorem d12_41 : decode prog_17_method_9_code 41 = .ok (.aload_n 2, 1) := by decide +kernel
theorem d12_42 : decode prog_17_method_9_code 42 = .ok (.iload_n 3, 1) := by decide +kernel
theorem d12_43 : decode prog_17_method_9_code 43 = .ok (.aload_n 0, 1) := by decide +kernel
theorem d12_44 : decode prog_17_method_9_code 44 = .ok (.getfield 20, 3) := by decide +kernel
theorem d12_47 : decode prog_17_method_9_code 47 = .ok (.iload_n 3, 1) := by decide +kernel
theorem d12_48 : decode prog_17_method_9_code 48 = .ok (.isub, 1) := by decide +kernel
theorem d12_49 : decode prog_17_method_9_code 49 = .ok (.invokestatic 77, 3) := by decide +kernel
theorem d12_52 : decode prog_17_method_9_code 52 = .ok (.aload_n 0, 1) := by decide +kernel
theorem d12_53 : decode prog_17_method_9_code 53 = .ok (.aload_n 2, 1) := by decide +kernel
theorem d12_54 : decode prog_17_method_9_code 54 = .ok (.putfield 13, 3) := by decide +kernel
theorem d12_57 : decode prog_17_method_9_code 57 = .ok (.aload_n 0, 1) := by decide +kernel
theorem d12_58 : decode prog_17_method_9_code 58 = .ok (.iconst 0, 1) := by decide +kernel
theorem d12_59 : decode prog_17_method_9_code 59 = .ok (.putfield 58, 3) := by decide +kernel
theorem d12_62 : decode prog_17_method_9_code 62 = .ok (.return_, 1) := by decide +kernel
theorem pn7 : plainFor (⟨"com/example/aforo/aforo/SlidingLog", "resize", "(I)V"⟩ : MethodName) = true := by first | (refine plainFor_of_name ?_; simp [plainName, overriddenIn]; done) | (refine plainFor_of_name ?_; decide +kernel) | decide +kernel
def Q_rsz (Z : State) (a : Addr) (tq : Addr) (fq : Nat → Int64) (h0 : Heap) (n0 : Nat) (v : Option Value) (h : Heap) (L : List Loc) : Prop := ∃ uq : Addr, v = none ∧ Fr n0 L ∧ Keep h0 h [a] ∧ h0.size ≤ uq ∧ Exa Z h a "com/example/aforo/aforo/SlidingLog" ∧ Fld Z h a "com/example/aforo/aforo/SlidingLog" "head" "I" (.int (0 : Int32)) ∧ Fld Z h a "com/example/aforo/aforo/SlidingLog" "size" "I" (.int (0 : Int32)) ∧ Fld Z h a "com/example/aforo/aforo/SlidingLog" "times" "[J" (.ref uq) ∧ GA Z h uq .long 3 (fun i => .long (own_z i))
theorem ef_rsz (m : MethodId) (a : Addr) (tq : Addr) (fq : Nat → Int64) : entryFrame m #[(.ref a), (.int (3 : Int32))] 4 = mkF m 0 #[.val (.ref a), .val (.int (3 : Int32)), .unset, .unset] [] := by first | (simp [entryFrame, mkF, argsToLocals, Value.category]; done) | rfl
abbrev rm_rsz : Room := ({ frames := 1, cells := 1, slots := 3, locals := 30 } : Room)
set_option maxRecDepth 65536 in
set_option maxHeartbeats 4000000 in
theorem met_rsz (l : Launch) (Z : State) (a0 : Array Value) (hw : ∀ d ∈ tables_1, d.before a0 Z = true) (a : Addr) (tq : Addr) (fq : Nat → Int64) (h0 : Heap) (n0 : Nat) (Z0 : n0 ≤ h0.size) (P0 : Exa Z h0 a "com/example/aforo/aforo/SlidingLog") (P1 : Fld Z h0 a "com/example/aforo/aforo/SlidingLog" "head" "I" (.int (0 : Int32))) (P2 : Fld Z h0 a "com/example/aforo/aforo/SlidingLog" "size" "I" (.int (0 : Int32))) (P3 : Fld Z h0 a "com/example/aforo/aforo/SlidingLog" "times" "[J" (.ref tq)) (P4 : GA Z h0 tq .long 0 (fun i => .long (fq i))) (P5 : a ≠ tq) (P6 : n0 ≤ a) :
    Met l (⟨"com/example/aforo/aforo/SlidingLog", "resize", "(I)V"⟩ : MethodName) prog_17_method_9_code 4 none [] rm_rsz Z #[(.ref a), (.int (3 : Int32))] h0 (Q_rsz Z a tq fq h0 n0) rm_rsz.cells rm_rsz.slots := by
  refine own_body pn7 ?_
  intro p e s m below meth c s₁ ct X0 e0
  have ct0 := ct
  obtain ⟨hx, hZ, hown, hby, hml, hret, hlk, hnm⟩ := ct
  have lt_a : a < h0.size := P0.lt
  have lt_tq : tq < h0.size := P4.lt
  have N0 := Fr.nil n0
  refine castGo (ef_rsz m a tq fq) ?_
  show Go p e below s _ _ _ s₁ (mkF m 0 #[.val (.ref a), .val (.int (3 : Int32)), .unset, .unset] [])
  refine go_st (fun _ kq => XS.iloadN X0.here hx rfl (hb hby d12_0) rfl kq) ?_
  show Go p e below s _ _ _ s₁ (mkF m 1 #[.val (.ref a), .val (.int (3 : Int32)), .unset, .unset] [(.int (3 : Int32))])
  refine go_newP X0 hx hZ (hw _ (List.mem_of_getElem? (i := 62) rfl)) e0 (hb hby d12_1) rfl rfl 3 (by decide) 3 (Nat.le_refl _) (by decide) (by decide) (by decide) ?_
  intro T114 h114 a114 g114 X114 e114 E114 G114
  have ne115 : a ≠ a114 := fun q => Nat.lt_irrefl _ (Nat.lt_of_lt_of_le lt_a (Nat.le_of_eq (g114.symm.trans q.symm)))
  have ne116 : tq ≠ a114 := fun q => Nat.lt_irrefl _ (Nat.lt_of_lt_of_le lt_tq (Nat.le_of_eq (g114.symm.trans q.symm)))
  have nw_a114 : n0 ≤ a114 := Nat.le_trans Z0 (Nat.le_of_eq g114.symm)
  have lt_a114 : a114 < h114.size := G114.lt
  have A114 : GA Z h114 a114 .long 3 (fun i => .long (own_z i)) := (GA.congr G114 (fun _ _ => rfl))
  show Go p e below s _ _ _ T114 (mkF m 3 #[.val (.ref a), .val (.int (3 : Int32)), .unset, .unset] [(.ref a114)])
  refine go_st (fun _ kq => XS.astoreN X114.here hx rfl (hb hby d12_3) rfl rfl (l' := #[.val (.ref a), .val (.int (3 : Int32)), .val (.ref a114), .unset]) rfl kq) ?_
  show Go p e below s _ _ _ T114 (mkF m 4 #[.val (.ref a), .val (.int (3 : Int32)), .val (.ref a114), .unset] [])
  refine go_st (fun _ kq => XS.aloadN X114.here hx rfl (hb hby d12_4) rfl rfl kq) ?_
  show Go p e below s _ _ _ T114 (mkF m 5 #[.val (.ref a), .val (.int (3 : Int32)), .val (.ref a114), .unset] [(.ref a)])
  have c117 := Fld.ext E114 P2
  refine go_getF X114 hx hZ hown (host := "") (Or.inl (hw _ (List.mem_of_getElem? (i := 34) rfl))) Via.refl e114 c117 (hb hby d12_5) rfl rfl ?_
  intro T118 X118 e118
  show Go p e below s _ _ _ T118 (mkF m 8 #[.val (.ref a), .val (.int (3 : Int32)), .val (.ref a114), .unset] [(.int (0 : Int32))])
  refine go_st (fun _ kq => XS.aloadN X118.here hx rfl (hb hby d12_8) rfl rfl kq) ?_
  show Go p e below s _ _ _ T118 (mkF m 9 #[.val (.ref a), .val (.int (3 : Int32)), .val (.ref a114), .unset] [(.ref a), (.int (0 : Int32))])
  have c119 := Fld.ext E114 P3
  refine go_getF X118 hx hZ hown (host := "") (Or.inl (hw _ (List.mem_of_getElem? (i := 16) rfl))) Via.refl e118 c119 (hb hby d12_9) rfl rfl ?_
  intro T120 X120 e120
  show Go p e below s _ _ _ T120 (mkF m 12 #[.val (.ref a), .val (.int (3 : Int32)), .val (.ref a114), .unset] [(.ref tq), (.int (0 : Int32))])
  have c121 := P4.ext E114
  refine go_alen X120 hx hZ e120 c121 (hb hby d12_12) rfl rfl (0 : Int32) (by decide) ?_
  show Go p e below s _ _ _ T120 (mkF m 13 #[.val (.ref a), .val (.int (3 : Int32)), .val (.ref a114), .unset] [(.int (0 : Int32)), (.int (0 : Int32))])
  refine go_st (fun _ kq => XS.aloadN X120.here hx rfl (hb hby d12_13) rfl rfl kq) ?_
  show Go p e below s _ _ _ T120 (mkF m 14 #[.val (.ref a), .val (.int (3 : Int32)), .val (.ref a114), .unset] [(.ref a), (.int (0 : Int32)), (.int (0 : Int32))])
  have c122 := Fld.ext E114 P1
  refine go_getF X120 hx hZ hown (host := "") (Or.inl (hw _ (List.mem_of_getElem? (i := 44) rfl))) Via.refl e120 c122 (hb hby d12_14) rfl rfl ?_
  intro T123 X123 e123
  show Go p e below s _ _ _ T123 (mkF m 17 #[.val (.ref a), .val (.int (3 : Int32)), .val (.ref a114), .unset] [(.int (0 : Int32)), (.int (0 : Int32)), (.int (0 : Int32))])
  refine go_st (fun _ kq => XS.isub X123.here hx rfl (hb hby d12_17) rfl kq) ?_
  rw [show ((0 : Int32) - (0 : Int32)) = (0 : Int32) from by decide +kernel]
  show Go p e below s _ _ _ T123 (mkF m 18 #[.val (.ref a), .val (.int (3 : Int32)), .val (.ref a114), .unset] [(.int (0 : Int32)), (.int (0 : Int32))])
  refine go_callS X123 hx hZ hml hown (hw _ (List.mem_of_getElem? (i := 36) rfl)) (hw _ (List.mem_of_getElem? (i := 37) rfl)) (hw _ (List.mem_of_getElem? (i := 38) rfl)) (hw _ (List.mem_of_getElem? (i := 39) rfl)) e123 (argsL := [(.int (0 : Int32)), (.int (0 : Int32))]) (rest := []) (W := 0) (met_7 l Z a0 hw (0 : Int32) (0 : Int32) h114 n0) (hb hby d12_18) rfl rfl rfl (lenOf pd2 rfl) (by show 2 * 0 + _ ≤ _; exact Nat.le_of_eq rfl) (by decide) (by decide) (by decide) (by decide) (by decide) ?_
  intro T124 v124 L124 X124 q124
  obtain ⟨rfl, M124, e124⟩ := q124
  have N124 := Fr.app N0 M124
  rw [show (fMinI (0 : Int32) (0 : Int32)) = (0 : Int32) from by decide +kernel]
  show Go p e below s _ _ _ T124 (mkF m 21 #[.val (.ref a), .val (.int (3 : Int32)), .val (.ref a114), .unset] [(.int (0 : Int32))])
  refine go_st (fun _ kq => XS.istoreN X124.here hx rfl (hb hby d12_21) rfl (l' := #[.val (.ref a), .val (.int (3 : Int32)), .val (.ref a114), .val (.int (0 : Int32))]) rfl kq) ?_
  show Go p e below s _ _ _ T124 (mkF m 22 #[.val (.ref a), .val (.int (3 : Int32)), .val (.ref a114), .val (.int (0 : Int32))] [])
  refine go_st (fun _ kq => XS.aloadN X124.here hx rfl (hb hby d12_22) rfl rfl kq) ?_
  show Go p e below s _ _ _ T124 (mkF m 23 #[.val (.ref a), .val (.int (3 : Int32)), .val (.ref a114), .val (.int (0 : Int32))] [(.ref a)])
  refine go_getF X124 hx hZ hown (host := "") (Or.inl (hw _ (List.mem_of_getElem? (i := 16) rfl))) Via.refl e124 c119 (hb hby d12_23) rfl rfl ?_
  intro T125 X125 e125
  show Go p e below s _ _ _ T125 (mkF m 26 #[.val (.ref a), .val (.int (3 : Int32)), .val (.ref a114), .val (.int (0 : Int32))] [(.ref tq)])
  refine go_st (fun _ kq => XS.aloadN X125.here hx rfl (hb hby d12_26) rfl rfl kq) ?_
  show Go p e below s _ _ _ T125 (mkF m 27 #[.val (.ref a), .val (.int (3 : Int32)), .val (.ref a114), .val (.int (0 : Int32))] [(.ref a), (.ref tq)])
  refine go_getF X125 hx hZ hown (host := "") (Or.inl (hw _ (List.mem_of_getElem? (i := 44) rfl))) Via.refl e125 c122 (hb hby d12_27) rfl rfl ?_
  intro T126 X126 e126
  show Go p e below s _ _ _ T126 (mkF m 30 #[.val (.ref a), .val (.int (3 : Int32)), .val (.ref a114), .val (.int (0 : Int32))] [(.int (0 : Int32)), (.ref tq)])
  refine go_st (fun _ kq => XS.aloadN X126.here hx rfl (hb hby d12_30) rfl rfl kq) ?_
  show Go p e below s _ _ _ T126 (mkF m 31 #[.val (.ref a), .val (.int (3 : Int32)), .val (.ref a114), .val (.int (0 : Int32))] [(.ref a114), (.int (0 : Int32)), (.ref tq)])
  refine go_st (fun _ kq => XT.iconstV X126.here hx rfl (0 : Int32) (hb hby d12_31) (by decide) kq) ?_
  show Go p e below s _ _ _ T126 (mkF m 32 #[.val (.ref a), .val (.int (3 : Int32)), .val (.ref a114), .val (.int (0 : Int32))] [(.int (0 : Int32)), (.ref a114), (.int (0 : Int32)), (.ref tq)])
  refine go_st (fun _ kq => XS.iloadN X126.here hx rfl (hb hby d12_32) rfl kq) ?_
  show Go p e below s _ _ _ T126 (mkF m 33 #[.val (.ref a), .val (.int (3 : Int32)), .val (.ref a114), .val (.int (0 : Int32))] [(.int (0 : Int32)), (.int (0 : Int32)), (.ref a114), (.int (0 : Int32)), (.ref tq)])
  refine go_acp0 X126 hx hZ hml hown (hw _ (List.mem_of_getElem? (i := 63) rfl)) (hw _ (List.mem_of_getElem? (i := 66) rfl)) (hw _ (List.mem_of_getElem? (i := 64) rfl)) (hw _ (List.mem_of_getElem? (i := 65) rfl)) e126 rfl c121 A114 (fun i hi => absurd hi (Nat.not_lt_zero _)) (fun i hi => rfl) (zm := 0) (zn := 3) (by decide) (by decide) N124 nw_a114 (hb hby d12_33) rfl rfl rfl (by decide) (W := 0) (by show 2 * 0 + _ ≤ _; exact Nat.le_of_eq rfl) (by decide) ?_
  intro T127 h127 L127 X127 e127 N127 K127 G127
  show Go p e below s _ _ _ T127 (mkF m 36 #[.val (.ref a), .val (.int (3 : Int32)), .val (.ref a114), .val (.int (0 : Int32))] [])
  refine go_st (fun _ kq => XS.aloadN X127.here hx rfl (hb hby d12_36) rfl rfl kq) ?_
  show Go p e below s _ _ _ T127 (mkF m 37 #[.val (.ref a), .val (.int (3 : Int32)), .val (.ref a114), .val (.int (0 : Int32))] [(.ref a)])
  have c128 := Fld.keep c119 K127 (ninS ne115 nin0)
  refine go_getF X127 hx hZ hown (host := "") (Or.inl (hw _ (List.mem_of_getElem? (i := 16) rfl))) Via.refl e127 c128 (hb hby d12_37) rfl rfl ?_
  intro T129 X129 e129
  show Go p e below s _ _ _ T129 (mkF m 40 #[.val (.ref a), .val (.int (3 : Int32)), .val (.ref a114), .val (.int (0 : Int32))] [(.ref tq)])
  refine go_st (fun _ kq => XT.iconstV X129.here hx rfl (0 : Int32) (hb hby d12_40) (by decide) kq) ?_
  show Go p e below s _ _ _ T129 (mkF m 41 #[.val (.ref a), .val (.int (3 : Int32)), .val (.ref a114), .val (.int (0 : Int32))] [(.int (0 : Int32)), (.ref tq)])
  refine go_st (fun _ kq => XS.aloadN X129.here hx rfl (hb hby d12_41) rfl rfl kq) ?_
  show Go p e below s _ _ _ T129 (mkF m 42 #[.val (.ref a), .val (.int (3 : Int32)), .val (.ref a114), .val (.int (0 : Int32))] [(.ref a114), (.int (0 : Int32)), (.ref tq)])
  refine go_st (fun _ kq => XS.iloadN X129.here hx rfl (hb hby d12_42) rfl kq) ?_
  show Go p e below s _ _ _ T129 (mkF m 43 #[.val (.ref a), .val (.int (3 : Int32)), .val (.ref a114), .val (.int (0 : Int32))] [(.int (0 : Int32)), (.ref a114), (.int (0 : Int32)), (.ref tq)])
  refine go_st (fun _ kq => XS.aloadN X129.here hx rfl (hb hby d12_43) rfl rfl kq) ?_
  show Go p e below s _ _ _ T129 (mkF m 44 #[.val (.ref a), .val (.int (3 : Int32)), .val (.ref a114), .val (.int (0 : Int32))] [(.ref a), (.int (0 : Int32)), (.ref a114), (.int (0 : Int32)), (.ref tq)])
  have c130 := Fld.keep c117 K127 (ninS ne115 nin0)
  refine go_getF X129 hx hZ hown (host := "") (Or.inl (hw _ (List.mem_of_getElem? (i := 34) rfl))) Via.refl e129 c130 (hb hby d12_44) rfl rfl ?_
  intro T131 X131 e131
  show Go p e below s _ _ _ T131 (mkF m 47 #[.val (.ref a), .val (.int (3 : Int32)), .val (.ref a114), .val (.int (0 : Int32))] [(.int (0 : Int32)), (.int (0 : Int32)), (.ref a114), (.int (0 : Int32)), (.ref tq)])
  refine go_st (fun _ kq => XS.iloadN X131.here hx rfl (hb hby d12_47) rfl kq) ?_
  show Go p e below s _ _ _ T131 (mkF m 48 #[.val (.ref a), .val (.int (3 : Int32)), .val (.ref a114), .val (.int (0 : Int32))] [(.int (0 : Int32)), (.int (0 : Int32)), (.int (0 : Int32)), (.ref a114), (.int (0 : Int32)), (.ref tq)])
  refine go_st (fun _ kq => XS.isub X131.here hx rfl (hb hby d12_48) rfl kq) ?_
  rw [show ((0 : Int32) - (0 : Int32)) = (0 : Int32) from by decide +kernel]
  show Go p e below s _ _ _ T131 (mkF m 49 #[.val (.ref a), .val (.int (3 : Int32)), .val (.ref a114), .val (.int (0 : Int32))] [(.int (0 : Int32)), (.int (0 : Int32)), (.ref a114), (.int (0 : Int32)), (.ref tq)])
  have c132 := GA.keep c121 K127 (ninS ne116 nin0)
  refine go_acp0 X131 hx hZ hml hown (hw _ (List.mem_of_getElem? (i := 63) rfl)) (hw _ (List.mem_of_getElem? (i := 66) rfl)) (hw _ (List.mem_of_getElem? (i := 64) rfl)) (hw _ (List.mem_of_getElem? (i := 65) rfl)) e131 rfl c132 G127 (fun i hi => absurd hi (Nat.not_lt_zero _)) (fun i hi => rfl) (zm := 0) (zn := 3) (by decide) (by decide) N127 nw_a114 (hb hby d12_49) rfl rfl rfl (by decide) (W := 0) (by show 2 * 0 + _ ≤ _; exact Nat.le_of_eq rfl) (by decide) ?_
  intro T133 h133 L133 X133 e133 N133 K133 G133
  show Go p e below s _ _ _ T133 (mkF m 52 #[.val (.ref a), .val (.int (3 : Int32)), .val (.ref a114), .val (.int (0 : Int32))] [])
  refine go_st (fun _ kq => XS.aloadN X133.here hx rfl (hb hby d12_52) rfl rfl kq) ?_
  show Go p e below s _ _ _ T133 (mkF m 53 #[.val (.ref a), .val (.int (3 : Int32)), .val (.ref a114), .val (.int (0 : Int32))] [(.ref a)])
  refine go_st (fun _ kq => XS.aloadN X133.here hx rfl (hb hby d12_53) rfl rfl kq) ?_
  show Go p e below s _ _ _ T133 (mkF m 54 #[.val (.ref a), .val (.int (3 : Int32)), .val (.ref a114), .val (.int (0 : Int32))] [(.ref a114), (.ref a)])
  have c134 := Fld.keep c128 K133 (ninS ne115 nin0)
  have c135 := Exa.ext E114 P0
  have c136 := Exa.keep c135 K127
  have c137 := Exa.keep c136 K133
  refine go_putF X133 hx hZ hown (host := "") (Or.inl (hw _ (List.mem_of_getElem? (i := 16) rfl))) Via.refl e133 c134 c137 (Or.inl (hw _ (List.mem_of_getElem? (i := 17) rfl))) (hw _ (List.mem_of_getElem? (i := 1) rfl)) (ty := (.array .long)) (by decide) rfl rfl (hb hby d12_54) rfl rfl ?_
  intro T138 h138 X138 e138 W138
  have N138 := Fr.snoc X138 N133 P6
  have F138 : Fld Z h138 a "com/example/aforo/aforo/SlidingLog" "times" "[J" (.ref a114) := Fld.same W138 c134
  show Go p e below s _ _ _ T138 (mkF m 57 #[.val (.ref a), .val (.int (3 : Int32)), .val (.ref a114), .val (.int (0 : Int32))] [])
  refine go_st (fun _ kq => XS.aloadN X138.here hx rfl (hb hby d12_57) rfl rfl kq) ?_
  show Go p e below s _ _ _ T138 (mkF m 58 #[.val (.ref a), .val (.int (3 : Int32)), .val (.ref a114), .val (.int (0 : Int32))] [(.ref a)])
  refine go_st (fun _ kq => XT.iconstV X138.here hx rfl (0 : Int32) (hb hby d12_58) (by decide) kq) ?_
  show Go p e below s _ _ _ T138 (mkF m 59 #[.val (.ref a), .val (.int (3 : Int32)), .val (.ref a114), .val (.int (0 : Int32))] [(.int (0 : Int32)), (.ref a)])
  have c139 := Fld.keep c122 K127 (ninS ne115 nin0)
  have c140 := Fld.keep c139 K133 (ninS ne115 nin0)
  have c141 := Fld.other W138 c140 (Or.inr (slot_ne (a0 := a0) (t := .int) (t' := (.array .long)) (Or.inl (hw _ (List.mem_of_getElem? (i := 45) rfl))) (Or.inl (hw _ (List.mem_of_getElem? (i := 17) rfl))) (by decide) (by decide) (by decide)))
  have c142 := Exa.wr W138 c137
  refine go_putF X138 hx hZ hown (host := "") (Or.inl (hw _ (List.mem_of_getElem? (i := 44) rfl))) Via.refl e138 c141 c142 (Or.inl (hw _ (List.mem_of_getElem? (i := 45) rfl))) (hw _ (List.mem_of_getElem? (i := 1) rfl)) (ty := .int) (by decide) rfl rfl (hb hby d12_59) rfl rfl ?_
  intro T143 h143 X143 e143 W143
  have N143 := Fr.snoc X143 N138 P6
  have F143 : Fld Z h143 a "com/example/aforo/aforo/SlidingLog" "head" "I" (.int (0 : Int32)) := Fld.same W143 c141
  show Go p e below s _ _ _ T143 (mkF m 62 #[.val (.ref a), .val (.int (3 : Int32)), .val (.ref a114), .val (.int (0 : Int32))] [])
  have c144 := Exa.wr W143 c142
  have c145 := Fld.keep c130 K133 (ninS ne115 nin0)
  have c146 := Fld.other W138 c145 (Or.inr (slot_ne (a0 := a0) (t := .int) (t' := (.array .long)) (Or.inl (hw _ (List.mem_of_getElem? (i := 35) rfl))) (Or.inl (hw _ (List.mem_of_getElem? (i := 17) rfl))) (by decide) (by decide) (by decide)))
  have c147 := Fld.other W143 c146 (Or.inr (slot_ne (a0 := a0) (t := .int) (t' := .int) (Or.inl (hw _ (List.mem_of_getElem? (i := 35) rfl))) (Or.inl (hw _ (List.mem_of_getElem? (i := 45) rfl))) (by decide) (by decide) (by decide)))
  have c148 := Fld.other W143 F138 (Or.inr (slot_ne (a0 := a0) (t := (.array .long)) (t' := .int) (Or.inl (hw _ (List.mem_of_getElem? (i := 17) rfl))) (Or.inl (hw _ (List.mem_of_getElem? (i := 45) rfl))) (by decide) (by decide) (by decide)))
  have c149 := G133.other W138 (Ne.symm ne115)
  have c150 := c149.other W143 (Ne.symm ne115)
  exact go_ret0 X143 hx hlk hret (hb hby d12_62) (by decide) (by decide) (by rw [e143]; exact ⟨a114, rfl, N143, (Keep.wr (Keep.wr (Keep.trans (Keep.trans (Keep.ext (Keep.refl h0 [a]) E114) K127 (allS (Or.inr (Nat.le_trans (Nat.le_refl _) (Nat.le_of_eq g114.symm))) all0)) K133 (allS (Or.inr (Nat.le_trans (Nat.le_refl _) (Nat.le_of_eq g114.symm))) all0)) W138 (Or.inl (by simp))) W143 (Or.inl (by simp))), (Nat.le_trans (Nat.le_refl _) (Nat.le_of_eq g114.symm)), c144, F143, c147, c148, c150⟩)
theorem d9_0 : decode prog_17_method_8_code 0 = .ok (.aload_n 0, 1) := by decide +kernel
theorem d9_1 : decode prog_17_method_8_code 1 = .ok (.getfield 20, 3) := by decide +kernel
theorem d9_4 : decode prog_17_method_8_code 4 = .ok (.aload_n 0, 1) := by decide +kernel
theorem d9_5 : decode prog_17_method_8_code 5 = .ok (.getfield 13, 3) := by decide +kernel
theorem d9_8 : decode prog_17_method_8_code 8 = .ok (.arraylength, 1) := by decide +kernel
theorem d9_9 : decode prog_17_method_8_code 9 = .ok (.if_icmp .ne 28, 3) := by decide +kernel
theorem d9_12 : decode prog_17_method_8_code 12 = .ok (.aload_n 0, 1) := by decide +kernel
theorem d9_13 : decode prog_17_method_8_code 13 = .ok (.lload_n 3, 1) := by decide +kernel
theorem d9_14 : decode prog_17_method_8_code 14 = .ok (.ldc2_w 71, 3) := by decide +kernel
theorem d9_17 : decode prog_17_method_8_code 17 = .ok (.ldc2_w 73, 3) := by decide +kernel
theorem d9_20 : decode prog_17_method_8_code 20 = .ok (.aload_n 0, 1) := by decide +kernel
theorem d9_21 : decode prog_17_method_8_code 21 = .ok (.getfield 13, 3) := by decide +kernel
theorem d9_24 : decode prog_17_method_8_code 24 = .ok (.arraylength, 1) := by decide +kernel
theorem d9_25 : decode prog_17_method_8_code 25 = .ok (.i2l, 1) := by decide +kernel
theorem d9_26 : decode prog_17_method_8_code 26 = .ok (.lmul, 1) := by decide +kernel
theorem d9_27 : decode prog_17_method_8_code 27 = .ok (.invokestatic 49, 3) := by decide +kernel
theorem d9_30 : decode prog_17_method_8_code 30 = .ok (.invokestatic 75, 3) := by decide +kernel
theorem d9_33 : decode prog_17_method_8_code 33 = .ok (.l2i, 1) := by decide +kernel
theorem d9_34 : decode prog_17_method_8_code 34 = .ok (.invokevirtual 64, 3) := by decide +kernel
theorem d9_37 : decode prog_17_method_8_code 37 = .ok (.aload_n 0, 1) := by decide +kernel
theorem d9_38 : decode prog_17_method_8_code 38 = .ok (.getfield 20, 3) := by decide +kernel
theorem d9_41 : decode prog_17_method_8_code 41 = .ok (.istore 5, 2) := by decide +kernel
theorem d9_43 : decode prog_17_method_8_code 43 = .ok (.iload 5, 2) := by decide +kernel
theorem d9_45 : decode prog_17_method_8_code 45 = .ok (.ifCond .le 41, 3) := by decide +kernel
theorem d9_48 : decode prog_17_method_8_code 48 = .ok (.aload_n 0, 1) := by decide +kernel
theorem d9_49 : decode prog_17_method_8_code 49 = .ok (.iload 5, 2) := by decide +kernel
theorem d9_51 : decode prog_17_method_8_code 51 = .ok (.iconst 1, 1) := by decide +kernel
theorem d9_52 : decode prog_17_method_8_code 52 = .ok (.isub, 1) := by decide +kernel
theorem d9_53 : decode prog_17_method_8_code 53 = .ok (.invokevirtual 38, 3) := by decide +kernel
theorem d9_56 : decode prog_17_method_8_code 56 = .ok (.lload_n 1, 1) := by decide +kernel
theorem d9_57 : decode prog_17_method_8_code 57 = .ok (.lcmp, 1) := by decide +kernel
theorem d9_58 : decode prog_17_method_8_code 58 = .ok (.ifCond .le 28, 3) := by decide +kernel
theorem d9_61 : decode prog_17_method_8_code 61 = .ok (.aload_n 0, 1) := by decide +kernel
theorem d9_62 : decode prog_17_method_8_code 62 = .ok (.getfield 13, 3) := by decide +kernel
theorem d9_65 : decode prog_17_method_8_code 65 = .ok (.aload_n 0, 1) := by decide +kernel
theorem d9_66 : decode prog_17_method_8_code 66 = .ok (.iload 5, 2) := by decide +kernel
theorem d9_68 : decode prog_17_method_8_code 68 = .ok (.invokevirtual 54, 3) := by decide +kernel
theorem d9_71 : decode prog_17_method_8_code 71 = .ok (.aload_n 0, 1) := by decide +kernel
theorem d9_72 : decode prog_17_method_8_code 72 = .ok (.iload 5, 2) := by decide +kernel
theorem d9_74 : decode prog_17_method_8_code 74 = .ok (.iconst 1, 1) := by decide +kernel
theorem d9_75 : decode prog_17_method_8_code 75 = .ok (.isub, 1) := by decide +kernel
theorem d9_76 : decode prog_17_method_8_code 76 = .ok (.invokevirtual 38, 3) := by decide +kernel
theorem d9_79 : decode prog_17_method_8_code 79 = .ok (.lastore, 1) := by decide +kernel
theorem d9_80 : decode prog_17_method_8_code 80 = .ok (.iinc 5 (-1), 3) := by decide +kernel
theorem d9_83 : decode prog_17_method_8_code 83 = .ok (.goto (-40), 3) := by decide +kernel
theorem d9_86 : decode prog_17_method_8_code 86 = .ok (.aload_n 0, 1) := by decide +kernel
theorem d9_87 : decode prog_17_method_8_code 87 = .ok (.getfield 13, 3) := by decide +kernel
theorem d9_90 : decode prog_17_method_8_code 90 = .ok (.aload_n 0, 1) := by decide +kernel
theorem d9_91 : decode prog_17_method_8_code 91 = .ok (.iload 5, 2) := by decide +kernel
theorem d9_93 : decode prog_17_method_8_code 93 = .ok (.invokevirtual 54, 3) := by decide +kernel
theorem d9_96 : decode prog_17_method_8_code 96 = .ok (.lload_n 1, 1) := by decide +kernel
theorem d9_97 : decode prog_17_method_8_code 97 = .ok (.lastore, 1) := by decide +kernel
theorem d9_98 : decode prog_17_method_8_code 98 = .ok (.aload_n 0, 1) := by decide +kernel
theorem d9_99 : decode prog_17_method_8_code 99 = .ok (.dup, 1) := by decide +kernel
theorem d9_100 : decode prog_17_method_8_code 100 = .ok (.getfield 20, 3) := by decide +kernel
theorem d9_103 : decode prog_17_method_8_code 103 = .ok (.iconst 1, 1) := by decide +kernel
theorem d9_104 : decode prog_17_method_8_code 104 = .ok (.iadd, 1) := by decide +kernel
theorem d9_105 : decode prog_17_method_8_code 105 = .ok (.putfield 20, 3) := by decide +kernel
theorem d9_108 : decode prog_17_method_8_code 108 = .ok (.return_, 1) := by decide +kernel
theorem pn8 : plainFor (⟨"com/example/aforo/aforo/SlidingLog", "insert", "(JJ)V"⟩ : MethodName) = true := by first | (refine plainFor_of_name ?_; simp [plainName, overriddenIn]; done) | (refine plainFor_of_name ?_; decide +kernel) | decide +kernel
def Q_ins0 (Z : State) (a : Addr) (xq : Int64) (hq : Nat) (tq : Addr) (fq : Nat → Int64) (h0 : Heap) (n0 : Nat) (v : Option Value) (h : Heap) (L : List Loc) : Prop := ∃ gq : Nat → Int64, v = none ∧ Fr n0 L ∧ Keep h0 h [a, tq] ∧ (gq ((hq + 0) % 3) = xq) ∧ Exa Z h a "com/example/aforo/aforo/SlidingLog" ∧ Fld Z h a "com/example/aforo/aforo/SlidingLog" "head" "I" (.int (Int32.ofNat hq)) ∧ Fld Z h a "com/example/aforo/aforo/SlidingLog" "size" "I" (.int (1 : Int32)) ∧ Fld Z h a "com/example/aforo/aforo/SlidingLog" "times" "[J" (.ref tq) ∧ GA Z h tq .long 3 (fun i => .long (gq i))
theorem ef_ins0 (m : MethodId) (a : Addr) (xq : Int64) (hq : Nat) (tq : Addr) (fq : Nat → Int64) : entryFrame m #[(.ref a), (.long xq), (.long (3 : Int64))] 6 = mkF m 0 #[.val (.ref a), .val (.long xq), .second, .val (.long (3 : Int64)), .second, .unset] [] := by first | (simp [entryFrame, mkF, argsToLocals, Value.category]; done) | rfl
abbrev rm_ins0 : Room := ({ frames := 1, cells := 0, slots := 0, locals := 15 } : Room)
set_option maxRecDepth 65536 in
set_option maxHeartbeats 4000000 in
theorem met_ins0 (l : Launch) (Z : State) (a0 : Array Value) (hw : ∀ d ∈ tables_1, d.before a0 Z = true) (a : Addr) (xq : Int64) (hq : Nat) (tq : Addr) (fq : Nat → Int64) (h0 : Heap) (n0 : Nat) (Z0 : n0 ≤ h0.size) (P0 : Exa Z h0 a "com/example/aforo/aforo/SlidingLog") (P1 : Fld Z h0 a "com/example/aforo/aforo/SlidingLog" "head" "I" (.int (Int32.ofNat hq))) (P2 : Fld Z h0 a "com/example/aforo/aforo/SlidingLog" "times" "[J" (.ref tq)) (P3 : GA Z h0 tq .long 3 (fun i => .long (fq i))) (P4 : hq < 3) (P5 : Fld Z h0 a "com/example/aforo/aforo/SlidingLog" "size" "I" (.int (0 : Int32))) (P6 : a ≠ tq) (P7 : n0 ≤ a) (P8 : n0 ≤ tq) :
    Met l (⟨"com/example/aforo/aforo/SlidingLog", "insert", "(JJ)V"⟩ : MethodName) prog_17_method_8_code 6 none [] rm_ins0 Z #[(.ref a), (.long xq), (.long (3 : Int64))] h0 (Q_ins0 Z a xq hq tq fq h0 n0) rm_ins0.cells rm_ins0.slots := by
  refine own_body pn8 ?_
  intro p e s m below meth c s₁ ct X0 e0
  have ct0 := ct
  obtain ⟨hx, hZ, hown, hby, hml, hret, hlk, hnm⟩ := ct
  have lt_a : a < h0.size := P0.lt
  have lt_tq : tq < h0.size := P3.lt
  have N0 := Fr.nil n0
  refine castGo (ef_ins0 m a xq hq tq fq) ?_
  show Go p e below s _ _ _ s₁ (mkF m 0 #[.val (.ref a), .val (.long xq), .second, .val (.long (3 : Int64)), .second, .unset] [])
  refine go_st (fun _ kq => XS.aloadN X0.here hx rfl (hb hby d9_0) rfl rfl kq) ?_
  show Go p e below s _ _ _ s₁ (mkF m 1 #[.val (.ref a), .val (.long xq), .second, .val (.long (3 : Int64)), .second, .unset] [(.ref a)])
  refine go_getF X0 hx hZ hown (host := "") (Or.inl (hw _ (List.mem_of_getElem? (i := 34) rfl))) Via.refl e0 P5 (hb hby d9_1) rfl rfl ?_
  intro T151 X151 e151
  show Go p e below s _ _ _ T151 (mkF m 4 #[.val (.ref a), .val (.long xq), .second, .val (.long (3 : Int64)), .second, .unset] [(.int (0 : Int32))])
  refine go_st (fun _ kq => XS.aloadN X151.here hx rfl (hb hby d9_4) rfl rfl kq) ?_
  show Go p e below s _ _ _ T151 (mkF m 5 #[.val (.ref a), .val (.long xq), .second, .val (.long (3 : Int64)), .second, .unset] [(.ref a), (.int (0 : Int32))])
  refine go_getF X151 hx hZ hown (host := "") (Or.inl (hw _ (List.mem_of_getElem? (i := 16) rfl))) Via.refl e151 P2 (hb hby d9_5) rfl rfl ?_
  intro T152 X152 e152
  show Go p e below s _ _ _ T152 (mkF m 8 #[.val (.ref a), .val (.long xq), .second, .val (.long (3 : Int64)), .second, .unset] [(.ref tq), (.int (0 : Int32))])
  refine go_alen X152 hx hZ e152 P3 (hb hby d9_8) rfl rfl (3 : Int32) (by decide) ?_
  show Go p e below s _ _ _ T152 (mkF m 9 #[.val (.ref a), .val (.long xq), .second, .val (.long (3 : Int64)), .second, .unset] [(.int (3 : Int32)), (.int (0 : Int32))])
  refine go_st (fun _ kq => XS.icmpYes X152.here hx rfl (pc0 := 9) (pc' := 37) rfl (hb hby d9_9) rfl (XT.ii_ne_t (by decide)) (by decide) (by decide) kq) ?_
  show Go p e below s _ _ _ T152 (mkF m 37 #[.val (.ref a), .val (.long xq), .second, .val (.long (3 : Int64)), .second, .unset] [])
  refine go_st (fun _ kq => XS.aloadN X152.here hx rfl (hb hby d9_37) rfl rfl kq) ?_
  show Go p e below s _ _ _ T152 (mkF m 38 #[.val (.ref a), .val (.long xq), .second, .val (.long (3 : Int64)), .second, .unset] [(.ref a)])
  refine go_getF X152 hx hZ hown (host := "") (Or.inl (hw _ (List.mem_of_getElem? (i := 34) rfl))) Via.refl e152 P5 (hb hby d9_38) rfl rfl ?_
  intro T153 X153 e153
  show Go p e below s _ _ _ T153 (mkF m 41 #[.val (.ref a), .val (.long xq), .second, .val (.long (3 : Int64)), .second, .unset] [(.int (0 : Int32))])
  refine go_st (fun _ kq => XS.istore X153.here hx rfl (hb hby d9_41) rfl (l' := #[.val (.ref a), .val (.long xq), .second, .val (.long (3 : Int64)), .second, .val (.int (0 : Int32))]) rfl kq) ?_
  show Go p e below s _ _ _ T153 (mkF m 43 #[.val (.ref a), .val (.long xq), .second, .val (.long (3 : Int64)), .second, .val (.int (0 : Int32))] [])
  refine go_st (fun _ kq => XS.iload X153.here hx rfl (hb hby d9_43) rfl kq) ?_
  show Go p e below s _ _ _ T153 (mkF m 45 #[.val (.ref a), .val (.long xq), .second, .val (.long (3 : Int64)), .second, .val (.int (0 : Int32))] [(.int (0 : Int32))])
  refine go_st (fun _ kq => XS.ifYes X153.here hx rfl (pc0 := 45) (pc' := 86) rfl (hb hby d9_45) rfl (XT.i0_le_t (by decide)) (by decide) (by decide) kq) ?_
  show Go p e below s _ _ _ T153 (mkF m 86 #[.val (.ref a), .val (.long xq), .second, .val (.long (3 : Int64)), .second, .val (.int (0 : Int32))] [])
  refine go_st (fun _ kq => XS.aloadN X153.here hx rfl (hb hby d9_86) rfl rfl kq) ?_
  show Go p e below s _ _ _ T153 (mkF m 87 #[.val (.ref a), .val (.long xq), .second, .val (.long (3 : Int64)), .second, .val (.int (0 : Int32))] [(.ref a)])
  refine go_getF X153 hx hZ hown (host := "") (Or.inl (hw _ (List.mem_of_getElem? (i := 16) rfl))) Via.refl e153 P2 (hb hby d9_87) rfl rfl ?_
  intro T154 X154 e154
  show Go p e below s _ _ _ T154 (mkF m 90 #[.val (.ref a), .val (.long xq), .second, .val (.long (3 : Int64)), .second, .val (.int (0 : Int32))] [(.ref tq)])
  refine go_st (fun _ kq => XS.aloadN X154.here hx rfl (hb hby d9_90) rfl rfl kq) ?_
  show Go p e below s _ _ _ T154 (mkF m 91 #[.val (.ref a), .val (.long xq), .second, .val (.long (3 : Int64)), .second, .val (.int (0 : Int32))] [(.ref a), (.ref tq)])
  refine go_st (fun _ kq => XS.iload X154.here hx rfl (hb hby d9_91) rfl kq) ?_
  show Go p e below s _ _ _ T154 (mkF m 93 #[.val (.ref a), .val (.long xq), .second, .val (.long (3 : Int64)), .second, .val (.int (0 : Int32))] [(.int (0 : Int32)), (.ref a), (.ref tq)])
  refine go_callP X154 hx hZ hml hown (hw _ (List.mem_of_getElem? (i := 40) rfl)) (hw _ (List.mem_of_getElem? (i := 42) rfl)) (hw _ (List.mem_of_getElem? (i := 1) rfl)) (hw _ (List.mem_of_getElem? (i := 41) rfl)) (hw _ (List.mem_of_getElem? (i := 43) rfl)) (hw _ (List.mem_of_getElem? (i := 2) rfl)) e154 P0 (argsL := [(.int (0 : Int32))]) (rest := [(.ref tq)]) (W := 1) (met_8 l Z a0 hw a 0 hq tq fq h0 n0 Z0 P1 P2 P3) (hb hby d9_93) rfl rfl rfl (lenOf pd0 rfl) (by show 2 * 0 + _ ≤ _; exact Nat.le_of_eq rfl) (by decide) (by decide) (by decide) (by decide) (by decide) ?_
  intro T155 v155 L155 X155 q155
  obtain ⟨rfl, M155, e155⟩ := q155
  have N155 := Fr.app N0 M155
  rw [own_slot (h := hq) (k := 0) (by omega) (by omega)]
  show Go p e below s _ _ _ T155 (mkF m 96 #[.val (.ref a), .val (.long xq), .second, .val (.long (3 : Int64)), .second, .val (.int (0 : Int32))] [(.int (Int32.ofNat ((hq + 0) % 3))), (.ref tq)])
  refine go_st (fun _ kq => XT.lloadN X155.here hx rfl (hb hby d9_96) rfl kq) ?_
  show Go p e below s _ _ _ T155 (mkF m 97 #[.val (.ref a), .val (.long xq), .second, .val (.long (3 : Int64)), .second, .val (.int (0 : Int32))] [(.long xq), (.int (Int32.ofNat ((hq + 0) % 3))), (.ref tq)])
  refine go_last X155 hx hZ e155 P3 (hb hby d9_97) rfl rfl (own_ix3 _ _) ?_
  intro T156 h156 X156 e156 W156 G156
  have N156 := Fr.snoc X156 N155 P8
  have A156 : GA Z h156 tq .long 3 (fun i => .long ((upd fq ((hq + 0) % 3) xq) i)) := (own_gl (own_cx3 _ _) G156)
  show Go p e below s _ _ _ T156 (mkF m 98 #[.val (.ref a), .val (.long xq), .second, .val (.long (3 : Int64)), .second, .val (.int (0 : Int32))] [])
  refine go_st (fun _ kq => XS.aloadN X156.here hx rfl (hb hby d9_98) rfl rfl kq) ?_
  show Go p e below s _ _ _ T156 (mkF m 99 #[.val (.ref a), .val (.long xq), .second, .val (.long (3 : Int64)), .second, .val (.int (0 : Int32))] [(.ref a)])
  refine go_st (fun _ kq => XS.dup X156.here hx rfl (hb hby d9_99) rfl rfl kq) ?_
  show Go p e below s _ _ _ T156 (mkF m 100 #[.val (.ref a), .val (.long xq), .second, .val (.long (3 : Int64)), .second, .val (.int (0 : Int32))] [(.ref a), (.ref a)])
  have c157 := Fld.other W156 P5 (Or.inl P6)
  refine go_getF X156 hx hZ hown (host := "") (Or.inl (hw _ (List.mem_of_getElem? (i := 34) rfl))) Via.refl e156 c157 (hb hby d9_100) rfl rfl ?_
  intro T158 X158 e158
  show Go p e below s _ _ _ T158 (mkF m 103 #[.val (.ref a), .val (.long xq), .second, .val (.long (3 : Int64)), .second, .val (.int (0 : Int32))] [(.int (0 : Int32)), (.ref a)])
  refine go_st (fun _ kq => XT.iconstV X158.here hx rfl (1 : Int32) (hb hby d9_103) (by decide) kq) ?_
  show Go p e below s _ _ _ T158 (mkF m 104 #[.val (.ref a), .val (.long xq), .second, .val (.long (3 : Int64)), .second, .val (.int (0 : Int32))] [(.int (1 : Int32)), (.int (0 : Int32)), (.ref a)])
  refine go_st (fun _ kq => XS.iadd X158.here hx rfl (hb hby d9_104) rfl kq) ?_
  rw [show ((0 : Int32) + (1 : Int32)) = (1 : Int32) from by decide +kernel]
  show Go p e below s _ _ _ T158 (mkF m 105 #[.val (.ref a), .val (.long xq), .second, .val (.long (3 : Int64)), .second, .val (.int (0 : Int32))] [(.int (1 : Int32)), (.ref a)])
  have c159 := Exa.wr W156 P0
  refine go_putF X158 hx hZ hown (host := "") (Or.inl (hw _ (List.mem_of_getElem? (i := 34) rfl))) Via.refl e158 c157 c159 (Or.inl (hw _ (List.mem_of_getElem? (i := 35) rfl))) (hw _ (List.mem_of_getElem? (i := 1) rfl)) (ty := .int) (by decide) rfl rfl (hb hby d9_105) rfl rfl ?_
  intro T160 h160 X160 e160 W160
  have N160 := Fr.snoc X160 N156 P7
  have F160 : Fld Z h160 a "com/example/aforo/aforo/SlidingLog" "size" "I" (.int (1 : Int32)) := Fld.same W160 c157
  show Go p e below s _ _ _ T160 (mkF m 108 #[.val (.ref a), .val (.long xq), .second, .val (.long (3 : Int64)), .second, .val (.int (0 : Int32))] [])
  have c161 := Exa.wr W160 c159
  have c162 := Fld.other W156 P1 (Or.inl P6)
  have c163 := Fld.other W160 c162 (Or.inr (slot_ne (a0 := a0) (t := .int) (t' := .int) (Or.inl (hw _ (List.mem_of_getElem? (i := 45) rfl))) (Or.inl (hw _ (List.mem_of_getElem? (i := 35) rfl))) (by decide) (by decide) (by decide)))
  have c164 := Fld.other W156 P2 (Or.inl P6)
  have c165 := Fld.other W160 c164 (Or.inr (slot_ne (a0 := a0) (t := (.array .long)) (t' := .int) (Or.inl (hw _ (List.mem_of_getElem? (i := 17) rfl))) (Or.inl (hw _ (List.mem_of_getElem? (i := 35) rfl))) (by decide) (by decide) (by decide)))
  have c166 := A156.other W160 (Ne.symm P6)
  exact go_ret0 X160 hx hlk hret (hb hby d9_108) (by decide) (by decide) (by rw [e160]; exact ⟨(upd fq ((hq + 0) % 3) xq), rfl, N160, (Keep.wr (Keep.wr (Keep.refl h0 [a, tq]) W156 (Or.inl (by simp))) W160 (Or.inl (by simp))), own_us, c161, c163, F160, c165, c166⟩)
def Q_ins1 (Z : State) (a : Addr) (xq : Int64) (hq : Nat) (tq : Addr) (fq : Nat → Int64) (h0 : Heap) (n0 : Nat) (v : Option Value) (h : Heap) (L : List Loc) : Prop := ∃ gq : Nat → Int64, v = none ∧ Fr n0 L ∧ Keep h0 h [a, tq] ∧ (gq ((hq + 1) % 3) = fMaxJ (fq ((hq + 0) % 3)) xq) ∧ Exa Z h a "com/example/aforo/aforo/SlidingLog" ∧ Fld Z h a "com/example/aforo/aforo/SlidingLog" "head" "I" (.int (Int32.ofNat hq)) ∧ Fld Z h a "com/example/aforo/aforo/SlidingLog" "size" "I" (.int (2 : Int32)) ∧ Fld Z h a "com/example/aforo/aforo/SlidingLog" "times" "[J" (.ref tq) ∧ GA Z h tq .long 3 (fun i => .long (gq i))
theorem ef_ins1 (m : MethodId) (a : Addr) (xq : Int64) (hq : Nat) (tq : Addr) (fq : Nat → Int64) : entryFrame m #[(.ref a), (.long xq), (.long (3 : Int64))] 6 = mkF m 0 #[.val (.ref a), .val (.long xq), .second, .val (.long (3 : Int64)), .second, .unset] [] := by first | (simp [entryFrame, mkF, argsToLocals, Value.category]; done) | rfl
abbrev rm_ins1 : Room := ({ frames := 2, cells := 0, slots := 0, locals := 30 } : Room)
set_option maxRecDepth 65536 in
set_option maxHeartbeats 4000000 in
theorem met_ins1 (l : Launch) (Z : State) (a0 : Array Value) (hw : ∀ d ∈ tables_1, d.before a0 Z = true) (a : Addr) (xq : Int64) (hq : Nat) (tq : Addr) (fq : Nat → Int64) (h0 : Heap) (n0 : Nat) (Z0 : n0 ≤ h0.size) (P0 : Exa Z h0 a "com/example/aforo/aforo/SlidingLog") (P1 : Fld Z h0 a "com/example/aforo/aforo/SlidingLog" "head" "I" (.int (Int32.ofNat hq))) (P2 : Fld Z h0 a "com/example/aforo/aforo/SlidingLog" "times" "[J" (.ref tq)) (P3 : GA Z h0 tq .long 3 (fun i => .long (fq i))) (P4 : hq < 3) (P5 : Fld Z h0 a "com/example/aforo/aforo/SlidingLog" "size" "I" (.int (1 : Int32))) (P6 : a ≠ tq) (P7 : n0 ≤ a) (P8 : n0 ≤ tq) :
    Met l (⟨"com/example/aforo/aforo/SlidingLog", "insert", "(JJ)V"⟩ : MethodName) prog_17_method_8_code 6 none [] rm_ins1 Z #[(.ref a), (.long xq), (.long (3 : Int64))] h0 (Q_ins1 Z a xq hq tq fq h0 n0) rm_ins1.cells rm_ins1.slots := by
  refine own_body pn8 ?_
  intro p e s m below meth c s₁ ct X0 e0
  have ct0 := ct
  obtain ⟨hx, hZ, hown, hby, hml, hret, hlk, hnm⟩ := ct
  have lt_a : a < h0.size := P0.lt
  have lt_tq : tq < h0.size := P3.lt
  have N0 := Fr.nil n0
  refine castGo (ef_ins1 m a xq hq tq fq) ?_
  show Go p e below s _ _ _ s₁ (mkF m 0 #[.val (.ref a), .val (.long xq), .second, .val (.long (3 : Int64)), .second, .unset] [])
  refine go_st (fun _ kq => XS.aloadN X0.here hx rfl (hb hby d9_0) rfl rfl kq) ?_
  show Go p e below s _ _ _ s₁ (mkF m 1 #[.val (.ref a), .val (.long xq), .second, .val (.long (3 : Int64)), .second, .unset] [(.ref a)])
  refine go_getF X0 hx hZ hown (host := "") (Or.inl (hw _ (List.mem_of_getElem? (i := 34) rfl))) Via.refl e0 P5 (hb hby d9_1) rfl rfl ?_
  intro T167 X167 e167
  show Go p e below s _ _ _ T167 (mkF m 4 #[.val (.ref a), .val (.long xq), .second, .val (.long (3 : Int64)), .second, .unset] [(.int (1 : Int32))])
  refine go_st (fun _ kq => XS.aloadN X167.here hx rfl (hb hby d9_4) rfl rfl kq) ?_
  show Go p e below s _ _ _ T167 (mkF m 5 #[.val (.ref a), .val (.long xq), .second, .val (.long (3 : Int64)), .second, .unset] [(.ref a), (.int (1 : Int32))])
  refine go_getF X167 hx hZ hown (host := "") (Or.inl (hw _ (List.mem_of_getElem? (i := 16) rfl))) Via.refl e167 P2 (hb hby d9_5) rfl rfl ?_
  intro T168 X168 e168
  show Go p e below s _ _ _ T168 (mkF m 8 #[.val (.ref a), .val (.long xq), .second, .val (.long (3 : Int64)), .second, .unset] [(.ref tq), (.int (1 : Int32))])
  refine go_alen X168 hx hZ e168 P3 (hb hby d9_8) rfl rfl (3 : Int32) (by decide) ?_
  show Go p e below s _ _ _ T168 (mkF m 9 #[.val (.ref a), .val (.long xq), .second, .val (.long (3 : Int64)), .second, .unset] [(.int (3 : Int32)), (.int (1 : Int32))])
  refine go_st (fun _ kq => XS.icmpYes X168.here hx rfl (pc0 := 9) (pc' := 37) rfl (hb hby d9_9) rfl (XT.ii_ne_t (by decide)) (by decide) (by decide) kq) ?_
  show Go p e below s _ _ _ T168 (mkF m 37 #[.val (.ref a), .val (.long xq), .second, .val (.long (3 : Int64)), .second, .unset] [])
  refine go_st (fun _ kq => XS.aloadN X168.here hx rfl (hb hby d9_37) rfl rfl kq) ?_
  show Go p e below s _ _ _ T168 (mkF m 38 #[.val (.ref a), .val (.long xq), .second, .val (.long (3 : Int64)), .second, .unset] [(.ref a)])
  refine go_getF X168 hx hZ hown (host := "") (Or.inl (hw _ (List.mem_of_getElem? (i := 34) rfl))) Via.refl e168 P5 (hb hby d9_38) rfl rfl ?_
  intro T169 X169 e169
  show Go p e below s _ _ _ T169 (mkF m 41 #[.val (.ref a), .val (.long xq), .second, .val (.long (3 : Int64)), .second, .unset] [(.int (1 : Int32))])
  refine go_st (fun _ kq => XS.istore X169.here hx rfl (hb hby d9_41) rfl (l' := #[.val (.ref a), .val (.long xq), .second, .val (.long (3 : Int64)), .second, .val (.int (1 : Int32))]) rfl kq) ?_
  show Go p e below s _ _ _ T169 (mkF m 43 #[.val (.ref a), .val (.long xq), .second, .val (.long (3 : Int64)), .second, .val (.int (1 : Int32))] [])
  refine go_st (fun _ kq => XS.iload X169.here hx rfl (hb hby d9_43) rfl kq) ?_
  show Go p e below s _ _ _ T169 (mkF m 45 #[.val (.ref a), .val (.long xq), .second, .val (.long (3 : Int64)), .second, .val (.int (1 : Int32))] [(.int (1 : Int32))])
  refine go_st (fun _ kq => XS.ifNo X169.here hx rfl (hb hby d9_45) rfl (XT.i0_le_f (by decide)) kq) ?_
  show Go p e below s _ _ _ T169 (mkF m 48 #[.val (.ref a), .val (.long xq), .second, .val (.long (3 : Int64)), .second, .val (.int (1 : Int32))] [])
  refine go_st (fun _ kq => XS.aloadN X169.here hx rfl (hb hby d9_48) rfl rfl kq) ?_
  show Go p e below s _ _ _ T169 (mkF m 49 #[.val (.ref a), .val (.long xq), .second, .val (.long (3 : Int64)), .second, .val (.int (1 : Int32))] [(.ref a)])
  refine go_st (fun _ kq => XS.iload X169.here hx rfl (hb hby d9_49) rfl kq) ?_
  show Go p e below s _ _ _ T169 (mkF m 51 #[.val (.ref a), .val (.long xq), .second, .val (.long (3 : Int64)), .second, .val (.int (1 : Int32))] [(.int (1 : Int32)), (.ref a)])
  refine go_st (fun _ kq => XT.iconstV X169.here hx rfl (1 : Int32) (hb hby d9_51) (by decide) kq) ?_
  show Go p e below s _ _ _ T169 (mkF m 52 #[.val (.ref a), .val (.long xq), .second, .val (.long (3 : Int64)), .second, .val (.int (1 : Int32))] [(.int (1 : Int32)), (.int (1 : Int32)), (.ref a)])
  refine go_st (fun _ kq => XS.isub X169.here hx rfl (hb hby d9_52) rfl kq) ?_
  rw [show ((1 : Int32) - (1 : Int32)) = (0 : Int32) from by decide +kernel]
  show Go p e below s _ _ _ T169 (mkF m 53 #[.val (.ref a), .val (.long xq), .second, .val (.long (3 : Int64)), .second, .val (.int (1 : Int32))] [(.int (0 : Int32)), (.ref a)])
  refine go_callP X169 hx hZ hml hown (hw _ (List.mem_of_getElem? (i := 71) rfl)) (hw _ (List.mem_of_getElem? (i := 73) rfl)) (hw _ (List.mem_of_getElem? (i := 1) rfl)) (hw _ (List.mem_of_getElem? (i := 72) rfl)) (hw _ (List.mem_of_getElem? (i := 74) rfl)) (hw _ (List.mem_of_getElem? (i := 2) rfl)) e169 P0 (argsL := [(.int (0 : Int32))]) (rest := []) (W := 0) (met_14 l Z a0 hw a 0 hq tq fq h0 n0 Z0 P0 P1 P2 P3 P4 (by first | assumption | decide | omega)) (hb hby d9_53) rfl rfl rfl (lenOf pd1 rfl) (by show 2 * 0 + _ ≤ _; exact Nat.le_of_eq rfl) (by decide) (by decide) (by decide) (by decide) (by decide) ?_
  intro T170 v170 L170 X170 q170
  obtain ⟨rfl, M170, e170⟩ := q170
  have N170 := Fr.app N0 M170
  show Go p e below s _ _ _ T170 (mkF m 56 #[.val (.ref a), .val (.long xq), .second, .val (.long (3 : Int64)), .second, .val (.int (1 : Int32))] [(.long (fq ((hq + 0) % 3)))])
  refine go_st (fun _ kq => XT.lloadN X170.here hx rfl (hb hby d9_56) rfl kq) ?_
  show Go p e below s _ _ _ T170 (mkF m 57 #[.val (.ref a), .val (.long xq), .second, .val (.long (3 : Int64)), .second, .val (.int (1 : Int32))] [(.long xq), (.long (fq ((hq + 0) % 3)))])
  refine go_st (fun _ kq => XT.lcmp X170.here hx rfl (hb hby d9_57) rfl kq) ?_
  show Go p e below s _ _ _ T170 (mkF m 58 #[.val (.ref a), .val (.long xq), .second, .val (.long (3 : Int64)), .second, .val (.int (1 : Int32))] [(.int (XT.cmpL (fq ((hq + 0) % 3)) xq))])
  by_cases hc171 : xq < (fq ((hq + 0) % 3))
  · refine go_st (fun _ kq => XS.ifNo X170.here hx rfl (hb hby d9_58) rfl (XT.ll_le_f hc171) kq) ?_
    show Go p e below s _ _ _ T170 (mkF m 61 #[.val (.ref a), .val (.long xq), .second, .val (.long (3 : Int64)), .second, .val (.int (1 : Int32))] [])
    refine go_st (fun _ kq => XS.aloadN X170.here hx rfl (hb hby d9_61) rfl rfl kq) ?_
    show Go p e below s _ _ _ T170 (mkF m 62 #[.val (.ref a), .val (.long xq), .second, .val (.long (3 : Int64)), .second, .val (.int (1 : Int32))] [(.ref a)])
    refine go_getF X170 hx hZ hown (host := "") (Or.inl (hw _ (List.mem_of_getElem? (i := 16) rfl))) Via.refl e170 P2 (hb hby d9_62) rfl rfl ?_
    intro T172 X172 e172
    show Go p e below s _ _ _ T172 (mkF m 65 #[.val (.ref a), .val (.long xq), .second, .val (.long (3 : Int64)), .second, .val (.int (1 : Int32))] [(.ref tq)])
    refine go_st (fun _ kq => XS.aloadN X172.here hx rfl (hb hby d9_65) rfl rfl kq) ?_
    show Go p e below s _ _ _ T172 (mkF m 66 #[.val (.ref a), .val (.long xq), .second, .val (.long (3 : Int64)), .second, .val (.int (1 : Int32))] [(.ref a), (.ref tq)])
    refine go_st (fun _ kq => XS.iload X172.here hx rfl (hb hby d9_66) rfl kq) ?_
    show Go p e below s _ _ _ T172 (mkF m 68 #[.val (.ref a), .val (.long xq), .second, .val (.long (3 : Int64)), .second, .val (.int (1 : Int32))] [(.int (1 : Int32)), (.ref a), (.ref tq)])
    refine go_callP X172 hx hZ hml hown (hw _ (List.mem_of_getElem? (i := 40) rfl)) (hw _ (List.mem_of_getElem? (i := 42) rfl)) (hw _ (List.mem_of_getElem? (i := 1) rfl)) (hw _ (List.mem_of_getElem? (i := 41) rfl)) (hw _ (List.mem_of_getElem? (i := 43) rfl)) (hw _ (List.mem_of_getElem? (i := 2) rfl)) e172 P0 (argsL := [(.int (1 : Int32))]) (rest := [(.ref tq)]) (W := 1) (met_8 l Z a0 hw a 1 hq tq fq h0 n0 Z0 P1 P2 P3) (hb hby d9_68) rfl rfl rfl (lenOf pd0 rfl) (by show 2 * 0 + _ ≤ _; exact Nat.le_of_eq rfl) (by decide) (by decide) (by decide) (by decide) (by decide) ?_
    intro T173 v173 L173 X173 q173
    obtain ⟨rfl, M173, e173⟩ := q173
    have N173 := Fr.app N170 M173
    rw [own_slot (h := hq) (k := 1) (by omega) (by omega)]
    show Go p e below s _ _ _ T173 (mkF m 71 #[.val (.ref a), .val (.long xq), .second, .val (.long (3 : Int64)), .second, .val (.int (1 : Int32))] [(.int (Int32.ofNat ((hq + 1) % 3))), (.ref tq)])
    refine go_st (fun _ kq => XS.aloadN X173.here hx rfl (hb hby d9_71) rfl rfl kq) ?_
    show Go p e below s _ _ _ T173 (mkF m 72 #[.val (.ref a), .val (.long xq), .second, .val (.long (3 : Int64)), .second, .val (.int (1 : Int32))] [(.ref a), (.int (Int32.ofNat ((hq + 1) % 3))), (.ref tq)])
    refine go_st (fun _ kq => XS.iload X173.here hx rfl (hb hby d9_72) rfl kq) ?_
    show Go p e below s _ _ _ T173 (mkF m 74 #[.val (.ref a), .val (.long xq), .second, .val (.long (3 : Int64)), .second, .val (.int (1 : Int32))] [(.int (1 : Int32)), (.ref a), (.int (Int32.ofNat ((hq + 1) % 3))), (.ref tq)])
    refine go_st (fun _ kq => XT.iconstV X173.here hx rfl (1 : Int32) (hb hby d9_74) (by decide) kq) ?_
    show Go p e below s _ _ _ T173 (mkF m 75 #[.val (.ref a), .val (.long xq), .second, .val (.long (3 : Int64)), .second, .val (.int (1 : Int32))] [(.int (1 : Int32)), (.int (1 : Int32)), (.ref a), (.int (Int32.ofNat ((hq + 1) % 3))), (.ref tq)])
    refine go_st (fun _ kq => XS.isub X173.here hx rfl (hb hby d9_75) rfl kq) ?_
    rw [show ((1 : Int32) - (1 : Int32)) = (0 : Int32) from by decide +kernel]
    show Go p e below s _ _ _ T173 (mkF m 76 #[.val (.ref a), .val (.long xq), .second, .val (.long (3 : Int64)), .second, .val (.int (1 : Int32))] [(.int (0 : Int32)), (.ref a), (.int (Int32.ofNat ((hq + 1) % 3))), (.ref tq)])
    refine go_callP X173 hx hZ hml hown (hw _ (List.mem_of_getElem? (i := 71) rfl)) (hw _ (List.mem_of_getElem? (i := 73) rfl)) (hw _ (List.mem_of_getElem? (i := 1) rfl)) (hw _ (List.mem_of_getElem? (i := 72) rfl)) (hw _ (List.mem_of_getElem? (i := 74) rfl)) (hw _ (List.mem_of_getElem? (i := 2) rfl)) e173 P0 (argsL := [(.int (0 : Int32))]) (rest := [(.int (Int32.ofNat ((hq + 1) % 3))), (.ref tq)]) (W := 2) (met_14 l Z a0 hw a 0 hq tq fq h0 n0 Z0 P0 P1 P2 P3 P4 (by first | assumption | decide | omega)) (hb hby d9_76) rfl rfl rfl (lenOf pd1 rfl) (by show 2 * 0 + _ ≤ _; exact Nat.le_of_eq rfl) (by decide) (by decide) (by decide) (by decide) (by decide) ?_
    intro T174 v174 L174 X174 q174
    obtain ⟨rfl, M174, e174⟩ := q174
    have N174 := Fr.app N173 M174
    show Go p e below s _ _ _ T174 (mkF m 79 #[.val (.ref a), .val (.long xq), .second, .val (.long (3 : Int64)), .second, .val (.int (1 : Int32))] [(.long (fq ((hq + 0) % 3))), (.int (Int32.ofNat ((hq + 1) % 3))), (.ref tq)])
    refine go_last X174 hx hZ e174 P3 (hb hby d9_79) rfl rfl (own_ix3 _ _) ?_
    intro T175 h175 X175 e175 W175 G175
    have N175 := Fr.snoc X175 N174 P8
    have A175 : GA Z h175 tq .long 3 (fun i => .long ((upd fq ((hq + 1) % 3) (fq ((hq + 0) % 3))) i)) := (own_gl (own_cx3 _ _) G175)
    show Go p e below s _ _ _ T175 (mkF m 80 #[.val (.ref a), .val (.long xq), .second, .val (.long (3 : Int64)), .second, .val (.int (1 : Int32))] [])
    refine go_st (fun _ kq => XT.iincV X175.here hx rfl (-1 : Int32) (hb hby d9_80) (by decide) rfl (l' := #[.val (.ref a), .val (.long xq), .second, .val (.long (3 : Int64)), .second, .val (.int (0 : Int32))]) rfl kq) ?_
    show Go p e below s _ _ _ T175 (mkF m 83 #[.val (.ref a), .val (.long xq), .second, .val (.long (3 : Int64)), .second, .val (.int (0 : Int32))] [])
    refine go_st (fun _ kq => XS.goto X175.here hx rfl (pc0 := 83) (pc' := 43) rfl (hb hby d9_83) (by decide) (by decide) kq) ?_
    show Go p e below s _ _ _ T175 (mkF m 43 #[.val (.ref a), .val (.long xq), .second, .val (.long (3 : Int64)), .second, .val (.int (0 : Int32))] [])
    refine go_st (fun _ kq => XS.iload X175.here hx rfl (hb hby d9_43) rfl kq) ?_
    show Go p e below s _ _ _ T175 (mkF m 45 #[.val (.ref a), .val (.long xq), .second, .val (.long (3 : Int64)), .second, .val (.int (0 : Int32))] [(.int (0 : Int32))])
    refine go_st (fun _ kq => XS.ifYes X175.here hx rfl (pc0 := 45) (pc' := 86) rfl (hb hby d9_45) rfl (XT.i0_le_t (by decide)) (by decide) (by decide) kq) ?_
    show Go p e below s _ _ _ T175 (mkF m 86 #[.val (.ref a), .val (.long xq), .second, .val (.long (3 : Int64)), .second, .val (.int (0 : Int32))] [])
    refine go_st (fun _ kq => XS.aloadN X175.here hx rfl (hb hby d9_86) rfl rfl kq) ?_
    show Go p e below s _ _ _ T175 (mkF m 87 #[.val (.ref a), .val (.long xq), .second, .val (.long (3 : Int64)), .second, .val (.int (0 : Int32))] [(.ref a)])
    have c176 := Fld.other W175 P2 (Or.inl P6)
    refine go_getF X175 hx hZ hown (host := "") (Or.inl (hw _ (List.mem_of_getElem? (i := 16) rfl))) Via.refl e175 c176 (hb hby d9_87) rfl rfl ?_
    intro T177 X177 e177
    show Go p e below s _ _ _ T177 (mkF m 90 #[.val (.ref a), .val (.long xq), .second, .val (.long (3 : Int64)), .second, .val (.int (0 : Int32))] [(.ref tq)])
    refine go_st (fun _ kq => XS.aloadN X177.here hx rfl (hb hby d9_90) rfl rfl kq) ?_
    show Go p e below s _ _ _ T177 (mkF m 91 #[.val (.ref a), .val (.long xq), .second, .val (.long (3 : Int64)), .second, .val (.int (0 : Int32))] [(.ref a), (.ref tq)])
    refine go_st (fun _ kq => XS.iload X177.here hx rfl (hb hby d9_91) rfl kq) ?_
    show Go p e below s _ _ _ T177 (mkF m 93 #[.val (.ref a), .val (.long xq), .second, .val (.long (3 : Int64)), .second, .val (.int (0 : Int32))] [(.int (0 : Int32)), (.ref a), (.ref tq)])
    have c179 := Fld.other W175 P1 (Or.inl P6)
    have z180 : n0 ≤ h175.size := (Wr.size W175).symm ▸ Z0
    have c181 := Exa.wr W175 P0
    refine go_callP X177 hx hZ hml hown (hw _ (List.mem_of_getElem? (i := 40) rfl)) (hw _ (List.mem_of_getElem? (i := 42) rfl)) (hw _ (List.mem_of_getElem? (i := 1) rfl)) (hw _ (List.mem_of_getElem? (i := 41) rfl)) (hw _ (List.mem_of_getElem? (i := 43) rfl)) (hw _ (List.mem_of_getElem? (i := 2) rfl)) e177 c181 (argsL := [(.int (0 : Int32))]) (rest := [(.ref tq)]) (W := 1) (met_8 l Z a0 hw a 0 hq tq (upd fq ((hq + 1) % 3) (fq ((hq + 0) % 3))) h175 n0 z180 c179 c176 A175) (hb hby d9_93) rfl rfl rfl (lenOf pd0 rfl) (by show 2 * 0 + _ ≤ _; exact Nat.le_of_eq rfl) (by decide) (by decide) (by decide) (by decide) (by decide) ?_
    intro T178 v178 L178 X178 q178
    obtain ⟨rfl, M178, e178⟩ := q178
    have N178 := Fr.app N175 M178
    rw [own_slot (h := hq) (k := 0) (by omega) (by omega)]
    show Go p e below s _ _ _ T178 (mkF m 96 #[.val (.ref a), .val (.long xq), .second, .val (.long (3 : Int64)), .second, .val (.int (0 : Int32))] [(.int (Int32.ofNat ((hq + 0) % 3))), (.ref tq)])
    refine go_st (fun _ kq => XT.lloadN X178.here hx rfl (hb hby d9_96) rfl kq) ?_
    show Go p e below s _ _ _ T178 (mkF m 97 #[.val (.ref a), .val (.long xq), .second, .val (.long (3 : Int64)), .second, .val (.int (0 : Int32))] [(.long xq), (.int (Int32.ofNat ((hq + 0) % 3))), (.ref tq)])
    refine go_last X178 hx hZ e178 A175 (hb hby d9_97) rfl rfl (own_ix3 _ _) ?_
    intro T182 h182 X182 e182 W182 G182
    have N182 := Fr.snoc X182 N178 P8
    have A182 : GA Z h182 tq .long 3 (fun i => .long ((upd (upd fq ((hq + 1) % 3) (fq ((hq + 0) % 3))) ((hq + 0) % 3) xq) i)) := (own_gl (own_cx3 _ _) G182)
    show Go p e below s _ _ _ T182 (mkF m 98 #[.val (.ref a), .val (.long xq), .second, .val (.long (3 : Int64)), .second, .val (.int (0 : Int32))] [])
    refine go_st (fun _ kq => XS.aloadN X182.here hx rfl (hb hby d9_98) rfl rfl kq) ?_
    show Go p e below s _ _ _ T182 (mkF m 99 #[.val (.ref a), .val (.long xq), .second, .val (.long (3 : Int64)), .second, .val (.int (0 : Int32))] [(.ref a)])
    refine go_st (fun _ kq => XS.dup X182.here hx rfl (hb hby d9_99) rfl rfl kq) ?_
    show Go p e below s _ _ _ T182 (mkF m 100 #[.val (.ref a), .val (.long xq), .second, .val (.long (3 : Int64)), .second, .val (.int (0 : Int32))] [(.ref a), (.ref a)])
    have c183 := Fld.other W175 P5 (Or.inl P6)
    have c184 := Fld.other W182 c183 (Or.inl P6)
    refine go_getF X182 hx hZ hown (host := "") (Or.inl (hw _ (List.mem_of_getElem? (i := 34) rfl))) Via.refl e182 c184 (hb hby d9_100) rfl rfl ?_
    intro T185 X185 e185
    show Go p e below s _ _ _ T185 (mkF m 103 #[.val (.ref a), .val (.long xq), .second, .val (.long (3 : Int64)), .second, .val (.int (0 : Int32))] [(.int (1 : Int32)), (.ref a)])
    refine go_st (fun _ kq => XT.iconstV X185.here hx rfl (1 : Int32) (hb hby d9_103) (by decide) kq) ?_
    show Go p e below s _ _ _ T185 (mkF m 104 #[.val (.ref a), .val (.long xq), .second, .val (.long (3 : Int64)), .second, .val (.int (0 : Int32))] [(.int (1 : Int32)), (.int (1 : Int32)), (.ref a)])
    refine go_st (fun _ kq => XS.iadd X185.here hx rfl (hb hby d9_104) rfl kq) ?_
    rw [show ((1 : Int32) + (1 : Int32)) = (2 : Int32) from by decide +kernel]
    show Go p e below s _ _ _ T185 (mkF m 105 #[.val (.ref a), .val (.long xq), .second, .val (.long (3 : Int64)), .second, .val (.int (0 : Int32))] [(.int (2 : Int32)), (.ref a)])
    have c186 := Exa.wr W182 c181
    refine go_putF X185 hx hZ hown (host := "") (Or.inl (hw _ (List.mem_of_getElem? (i := 34) rfl))) Via.refl e185 c184 c186 (Or.inl (hw _ (List.mem_of_getElem? (i := 35) rfl))) (hw _ (List.mem_of_getElem? (i := 1) rfl)) (ty := .int) (by decide) rfl rfl (hb hby d9_105) rfl rfl ?_
    intro T187 h187 X187 e187 W187
    have N187 := Fr.snoc X187 N182 P7
    have F187 : Fld Z h187 a "com/example/aforo/aforo/SlidingLog" "size" "I" (.int (2 : Int32)) := Fld.same W187 c184
    show Go p e below s _ _ _ T187 (mkF m 108 #[.val (.ref a), .val (.long xq), .second, .val (.long (3 : Int64)), .second, .val (.int (0 : Int32))] [])
    have c188 := Exa.wr W187 c186
    have c189 := Fld.other W182 c179 (Or.inl P6)
    have c190 := Fld.other W187 c189 (Or.inr (slot_ne (a0 := a0) (t := .int) (t' := .int) (Or.inl (hw _ (List.mem_of_getElem? (i := 45) rfl))) (Or.inl (hw _ (List.mem_of_getElem? (i := 35) rfl))) (by decide) (by decide) (by decide)))
    have c191 := Fld.other W182 c176 (Or.inl P6)
    have c192 := Fld.other W187 c191 (Or.inr (slot_ne (a0 := a0) (t := (.array .long)) (t' := .int) (Or.inl (hw _ (List.mem_of_getElem? (i := 17) rfl))) (Or.inl (hw _ (List.mem_of_getElem? (i := 35) rfl))) (by decide) (by decide) (by decide)))
    have c193 := A182.other W187 (Ne.symm P6)
    exact go_ret0 X187 hx hlk hret (hb hby d9_108) (by decide) (by decide) (by rw [e187]; exact ⟨(upd (upd fq ((hq + 1) % 3) (fq ((hq + 0) % 3))) ((hq + 0) % 3) xq), rfl, N187, (Keep.wr (Keep.wr (Keep.wr (Keep.refl h0 [a, tq]) W175 (Or.inl (by simp))) W182 (Or.inl (by simp))) W187 (Or.inl (by simp))), (by (repeat rw [own_un (by omega)]); rw [own_us]; exact own_mxB hc171), c188, c190, F187, c192, c193⟩)
  · refine go_st (fun _ kq => XS.ifYes X170.here hx rfl (pc0 := 58) (pc' := 86) rfl (hb hby d9_58) rfl (XT.ll_le_t hc171) (by decide) (by decide) kq) ?_
    show Go p e below s _ _ _ T170 (mkF m 86 #[.val (.ref a), .val (.long xq), .second, .val (.long (3 : Int64)), .second, .val (.int (1 : Int32))] [])
    refine go_st (fun _ kq => XS.aloadN X170.here hx rfl (hb hby d9_86) rfl rfl kq) ?_
    show Go p e below s _ _ _ T170 (mkF m 87 #[.val (.ref a), .val (.long xq), .second, .val (.long (3 : Int64)), .second, .val (.int (1 : Int32))] [(.ref a)])
    refine go_getF X170 hx hZ hown (host := "") (Or.inl (hw _ (List.mem_of_getElem? (i := 16) rfl))) Via.refl e170 P2 (hb hby d9_87) rfl rfl ?_
    intro T194 X194 e194
    show Go p e below s _ _ _ T194 (mkF m 90 #[.val (.ref a), .val (.long xq), .second, .val (.long (3 : Int64)), .second, .val (.int (1 : Int32))] [(.ref tq)])
    refine go_st (fun _ kq => XS.aloadN X194.here hx rfl (hb hby d9_90) rfl rfl kq) ?_
    show Go p e below s _ _ _ T194 (mkF m 91 #[.val (.ref a), .val (.long xq), .second, .val (.long (3 : Int64)), .second, .val (.int (1 : Int32))] [(.ref a), (.ref tq)])
    refine go_st (fun _ kq => XS.iload X194.here hx rfl (hb hby d9_91) rfl kq) ?_
    show Go p e below s _ _ _ T194 (mkF m 93 #[.val (.ref a), .val (.long xq), .second, .val (.long (3 : Int64)), .second, .val (.int (1 : Int32))] [(.int (1 : Int32)), (.ref a), (.ref tq)])
    refine go_callP X194 hx hZ hml hown (hw _ (List.mem_of_getElem? (i := 40) rfl)) (hw _ (List.mem_of_getElem? (i := 42) rfl)) (hw _ (List.mem_of_getElem? (i := 1) rfl)) (hw _ (List.mem_of_getElem? (i := 41) rfl)) (hw _ (List.mem_of_getElem? (i := 43) rfl)) (hw _ (List.mem_of_getElem? (i := 2) rfl)) e194 P0 (argsL := [(.int (1 : Int32))]) (rest := [(.ref tq)]) (W := 1) (met_8 l Z a0 hw a 1 hq tq fq h0 n0 Z0 P1 P2 P3) (hb hby d9_93) rfl rfl rfl (lenOf pd0 rfl) (by show 2 * 0 + _ ≤ _; exact Nat.le_of_eq rfl) (by decide) (by decide) (by decide) (by decide) (by decide) ?_
    intro T195 v195 L195 X195 q195
    obtain ⟨rfl, M195, e195⟩ := q195
    have N195 := Fr.app N170 M195
    rw [own_slot (h := hq) (k := 1) (by omega) (by omega)]
    show Go p e below s _ _ _ T195 (mkF m 96 #[.val (.ref a), .val (.long xq), .second, .val (.long (3 : Int64)), .second, .val (.int (1 : Int32))] [(.int (Int32.ofNat ((hq + 1) % 3))), (.ref tq)])
    refine go_st (fun _ kq => XT.lloadN X195.here hx rfl (hb hby d9_96) rfl kq) ?_
    show Go p e below s _ _ _ T195 (mkF m 97 #[.val (.ref a), .val (.long xq), .second, .val (.long (3 : Int64)), .second, .val (.int (1 : Int32))] [(.long xq), (.int (Int32.ofNat ((hq + 1) % 3))), (.ref tq)])
    refine go_last X195 hx hZ e195 P3 (hb hby d9_97) rfl rfl (own_ix3 _ _) ?_
    intro T196 h196 X196 e196 W196 G196
    have N196 := Fr.snoc X196 N195 P8
    have A196 : GA Z h196 tq .long 3 (fun i => .long ((upd fq ((hq + 1) % 3) xq) i)) := (own_gl (own_cx3 _ _) G196)
    show Go p e below s _ _ _ T196 (mkF m 98 #[.val (.ref a), .val (.long xq), .second, .val (.long (3 : Int64)), .second, .val (.int (1 : Int32))] [])
    refine go_st (fun _ kq => XS.aloadN X196.here hx rfl (hb hby d9_98) rfl rfl kq) ?_
    show Go p e below s _ _ _ T196 (mkF m 99 #[.val (.ref a), .val (.long xq), .second, .val (.long (3 : Int64)), .second, .val (.int (1 : Int32))] [(.ref a)])
    refine go_st (fun _ kq => XS.dup X196.here hx rfl (hb hby d9_99) rfl rfl kq) ?_
    show Go p e below s _ _ _ T196 (mkF m 100 #[.val (.ref a), .val (.long xq), .second, .val (.long (3 : Int64)), .second, .val (.int (1 : Int32))] [(.ref a), (.ref a)])
    have c197 := Fld.other W196 P5 (Or.inl P6)
    refine go_getF X196 hx hZ hown (host := "") (Or.inl (hw _ (List.mem_of_getElem? (i := 34) rfl))) Via.refl e196 c197 (hb hby d9_100) rfl rfl ?_
    intro T198 X198 e198
    show Go p e below s _ _ _ T198 (mkF m 103 #[.val (.ref a), .val (.long xq), .second, .val (.long (3 : Int64)), .second, .val (.int (1 : Int32))] [(.int (1 : Int32)), (.ref a)])
    refine go_st (fun _ kq => XT.iconstV X198.here hx rfl (1 : Int32) (hb hby d9_103) (by decide) kq) ?_
    show Go p e below s _ _ _ T198 (mkF m 104 #[.val (.ref a), .val (.long xq), .second, .val (.long (3 : Int64)), .second, .val (.int (1 : Int32))] [(.int (1 : Int32)), (.int (1 : Int32)), (.ref a)])
    refine go_st (fun _ kq => XS.iadd X198.here hx rfl (hb hby d9_104) rfl kq) ?_
    rw [show ((1 : Int32) + (1 : Int32)) = (2 : Int32) from by decide +kernel]
    show Go p e below s _ _ _ T198 (mkF m 105 #[.val (.ref a), .val (.long xq), .second, .val (.long (3 : Int64)), .second, .val (.int (1 : Int32))] [(.int (2 : Int32)), (.ref a)])
    have c199 := Exa.wr W196 P0
    refine go_putF X198 hx hZ hown (host := "") (Or.inl (hw _ (List.mem_of_getElem? (i := 34) rfl))) Via.refl e198 c197 c199 (Or.inl (hw _ (List.mem_of_getElem? (i := 35) rfl))) (hw _ (List.mem_of_getElem? (i := 1) rfl)) (ty := .int) (by decide) rfl rfl (hb hby d9_105) rfl rfl ?_
    intro T200 h200 X200 e200 W200
    have N200 := Fr.snoc X200 N196 P7
    have F200 : Fld Z h200 a "com/example/aforo/aforo/SlidingLog" "size" "I" (.int (2 : Int32)) := Fld.same W200 c197
    show Go p e below s _ _ _ T200 (mkF m 108 #[.val (.ref a), .val (.long xq), .second, .val (.long (3 : Int64)), .second, .val (.int (1 : Int32))] [])
    have c201 := Exa.wr W200 c199
    have c202 := Fld.other W196 P1 (Or.inl P6)
    have c203 := Fld.other W200 c202 (Or.inr (slot_ne (a0 := a0) (t := .int) (t' := .int) (Or.inl (hw _ (List.mem_of_getElem? (i := 45) rfl))) (Or.inl (hw _ (List.mem_of_getElem? (i := 35) rfl))) (by decide) (by decide) (by decide)))
    have c204 := Fld.other W196 P2 (Or.inl P6)
    have c205 := Fld.other W200 c204 (Or.inr (slot_ne (a0 := a0) (t := (.array .long)) (t' := .int) (Or.inl (hw _ (List.mem_of_getElem? (i := 17) rfl))) (Or.inl (hw _ (List.mem_of_getElem? (i := 35) rfl))) (by decide) (by decide) (by decide)))
    have c206 := A196.other W200 (Ne.symm P6)
    exact go_ret0 X200 hx hlk hret (hb hby d9_108) (by decide) (by decide) (by rw [e200]; exact ⟨(upd fq ((hq + 1) % 3) xq), rfl, N200, (Keep.wr (Keep.wr (Keep.refl h0 [a, tq]) W196 (Or.inl (by simp))) W200 (Or.inl (by simp))), (by rw [own_us]; exact own_mxA hc171), c201, c203, F200, c205, c206⟩)
def Q_ins2 (Z : State) (a : Addr) (xq : Int64) (hq : Nat) (tq : Addr) (fq : Nat → Int64) (h0 : Heap) (n0 : Nat) (v : Option Value) (h : Heap) (L : List Loc) : Prop := ∃ gq : Nat → Int64, v = none ∧ Fr n0 L ∧ Keep h0 h [a, tq] ∧ (gq ((hq + 2) % 3) = fMaxJ (fq ((hq + 1) % 3)) xq) ∧ Exa Z h a "com/example/aforo/aforo/SlidingLog" ∧ Fld Z h a "com/example/aforo/aforo/SlidingLog" "head" "I" (.int (Int32.ofNat hq)) ∧ Fld Z h a "com/example/aforo/aforo/SlidingLog" "size" "I" (.int (3 : Int32)) ∧ Fld Z h a "com/example/aforo/aforo/SlidingLog" "times" "[J" (.ref tq) ∧ GA Z h tq .long 3 (fun i => .long (gq i))
theorem ef_ins2 (m : MethodId) (a : Addr) (xq : Int64) (hq : Nat) (tq : Addr) (fq : Nat → Int64) : entryFrame m #[(.ref a), (.long xq), (.long (3 : Int64))] 6 = mkF m 0 #[.val (.ref a), .val (.long xq), .second, .val (.long (3 : Int64)), .second, .unset] [] := by first | (simp [entryFrame, mkF, argsToLocals, Value.category]; done) | rfl
abbrev rm_ins2 : Room := ({ frames := 2, cells := 0, slots := 0, locals := 30 } : Room)
set_option maxRecDepth 65536 in
set_option maxHeartbeats 4000000 in
theorem met_ins2 (l : Launch) (Z : State) (a0 : Array Value) (hw : ∀ d ∈ tables_1, d.before a0 Z = true) (a : Addr) (xq : Int64) (hq : Nat) (tq : Addr) (fq : Nat → Int64) (h0 : Heap) (n0 : Nat) (Z0 : n0 ≤ h0.size) (P0 : Exa Z h0 a "com/example/aforo/aforo/SlidingLog") (P1 : Fld Z h0 a "com/example/aforo/aforo/SlidingLog" "head" "I" (.int (Int32.ofNat hq))) (P2 : Fld Z h0 a "com/example/aforo/aforo/SlidingLog" "times" "[J" (.ref tq)) (P3 : GA Z h0 tq .long 3 (fun i => .long (fq i))) (P4 : hq < 3) (P5 : Fld Z h0 a "com/example/aforo/aforo/SlidingLog" "size" "I" (.int (2 : Int32))) (P6 : a ≠ tq) (P7 : n0 ≤ a) (P8 : n0 ≤ tq) :
    Met l (⟨"com/example/aforo/aforo/SlidingLog", "insert", "(JJ)V"⟩ : MethodName) prog_17_method_8_code 6 none [] rm_ins2 Z #[(.ref a), (.long xq), (.long (3 : Int64))] h0 (Q_ins2 Z a xq hq tq fq h0 n0) rm_ins2.cells rm_ins2.slots := by
  refine own_body pn8 ?_
  intro p e s m below meth c s₁ ct X0 e0
  have ct0 := ct
  obtain ⟨hx, hZ, hown, hby, hml, hret, hlk, hnm⟩ := ct
  have lt_a : a < h0.size := P0.lt
  have lt_tq : tq < h0.size := P3.lt
  have N0 := Fr.nil n0
  refine castGo (ef_ins2 m a xq hq tq fq) ?_
  show Go p e below s _ _ _ s₁ (mkF m 0 #[.val (.ref a), .val (.long xq), .second, .val (.long (3 : Int64)), .second, .unset] [])
  refine go_st (fun _ kq => XS.aloadN X0.here hx rfl (hb hby d9_0) rfl rfl kq) ?_
  show Go p e below s _ _ _ s₁ (mkF m 1 #[.val (.ref a), .val (.long xq), .second, .val (.long (3 : Int64)), .second, .unset] [(.ref a)])
  refine go_getF X0 hx hZ hown (host := "") (Or.inl (hw _ (List.mem_of_getElem? (i := 34) rfl))) Via.refl e0 P5 (hb hby d9_1) rfl rfl ?_
  intro T207 X207 e207
  show Go p e below s _ _ _ T207 (mkF m 4 #[.val (.ref a), .val (.long xq), .second, .val (.long (3 : Int64)), .second, .unset] [(.int (2 : Int32))])
  refine go_st (fun _ kq => XS.aloadN X207.here hx rfl (hb hby d9_4) rfl rfl kq) ?_
  show Go p e below s _ _ _ T207 (mkF m 5 #[.val (.ref a), .val (.long xq), .second, .val (.long (3 : Int64)), .second, .unset] [(.ref a), (.int (2 : Int32))])
  refine go_getF X207 hx hZ hown (host := "") (Or.inl (hw _ (List.mem_of_getElem? (i := 16) rfl))) Via.refl e207 P2 (hb hby d9_5) rfl rfl ?_
  intro T208 X208 e208
  show Go p e below s _ _ _ T208 (mkF m 8 #[.val (.ref a), .val (.long xq), .second, .val (.long (3 : Int64)), .second, .unset] [(.ref tq), (.int (2 : Int32))])
  refine go_alen X208 hx hZ e208 P3 (hb hby d9_8) rfl rfl (3 : Int32) (by decide) ?_
  show Go p e below s _ _ _ T208 (mkF m 9 #[.val (.ref a), .val (.long xq), .second, .val (.long (3 : Int64)), .second, .unset] [(.int (3 : Int32)), (.int (2 : Int32))])
  refine go_st (fun _ kq => XS.icmpYes X208.here hx rfl (pc0 := 9) (pc' := 37) rfl (hb hby d9_9) rfl (XT.ii_ne_t (by decide)) (by decide) (by decide) kq) ?_
  show Go p e below s _ _ _ T208 (mkF m 37 #[.val (.ref a), .val (.long xq), .second, .val (.long (3 : Int64)), .second, .unset] [])
  refine go_st (fun _ kq => XS.aloadN X208.here hx rfl (hb hby d9_37) rfl rfl kq) ?_
  show Go p e below s _ _ _ T208 (mkF m 38 #[.val (.ref a), .val (.long xq), .second, .val (.long (3 : Int64)), .second, .unset] [(.ref a)])
  refine go_getF X208 hx hZ hown (host := "") (Or.inl (hw _ (List.mem_of_getElem? (i := 34) rfl))) Via.refl e208 P5 (hb hby d9_38) rfl rfl ?_
  intro T209 X209 e209
  show Go p e below s _ _ _ T209 (mkF m 41 #[.val (.ref a), .val (.long xq), .second, .val (.long (3 : Int64)), .second, .unset] [(.int (2 : Int32))])
  refine go_st (fun _ kq => XS.istore X209.here hx rfl (hb hby d9_41) rfl (l' := #[.val (.ref a), .val (.long xq), .second, .val (.long (3 : Int64)), .second, .val (.int (2 : Int32))]) rfl kq) ?_
  show Go p e below s _ _ _ T209 (mkF m 43 #[.val (.ref a), .val (.long xq), .second, .val (.long (3 : Int64)), .second, .val (.int (2 : Int32))] [])
  refine go_st (fun _ kq => XS.iload X209.here hx rfl (hb hby d9_43) rfl kq) ?_
  show Go p e below s _ _ _ T209 (mkF m 45 #[.val (.ref a), .val (.long xq), .second, .val (.long (3 : Int64)), .second, .val (.int (2 : Int32))] [(.int (2 : Int32))])
  refine go_st (fun _ kq => XS.ifNo X209.here hx rfl (hb hby d9_45) rfl (XT.i0_le_f (by decide)) kq) ?_
  show Go p e below s _ _ _ T209 (mkF m 48 #[.val (.ref a), .val (.long xq), .second, .val (.long (3 : Int64)), .second, .val (.int (2 : Int32))] [])
  refine go_st (fun _ kq => XS.aloadN X209.here hx rfl (hb hby d9_48) rfl rfl kq) ?_
  show Go p e below s _ _ _ T209 (mkF m 49 #[.val (.ref a), .val (.long xq), .second, .val (.long (3 : Int64)), .second, .val (.int (2 : Int32))] [(.ref a)])
  refine go_st (fun _ kq => XS.iload X209.here hx rfl (hb hby d9_49) rfl kq) ?_
  show Go p e below s _ _ _ T209 (mkF m 51 #[.val (.ref a), .val (.long xq), .second, .val (.long (3 : Int64)), .second, .val (.int (2 : Int32))] [(.int (2 : Int32)), (.ref a)])
  refine go_st (fun _ kq => XT.iconstV X209.here hx rfl (1 : Int32) (hb hby d9_51) (by decide) kq) ?_
  show Go p e below s _ _ _ T209 (mkF m 52 #[.val (.ref a), .val (.long xq), .second, .val (.long (3 : Int64)), .second, .val (.int (2 : Int32))] [(.int (1 : Int32)), (.int (2 : Int32)), (.ref a)])
  refine go_st (fun _ kq => XS.isub X209.here hx rfl (hb hby d9_52) rfl kq) ?_
  rw [show ((2 : Int32) - (1 : Int32)) = (1 : Int32) from by decide +kernel]
  show Go p e below s _ _ _ T209 (mkF m 53 #[.val (.ref a), .val (.long xq), .second, .val (.long (3 : Int64)), .second, .val (.int (2 : Int32))] [(.int (1 : Int32)), (.ref a)])
  refine go_callP X209 hx hZ hml hown (hw _ (List.mem_of_getElem? (i := 71) rfl)) (hw _ (List.mem_of_getElem? (i := 73) rfl)) (hw _ (List.mem_of_getElem? (i := 1) rfl)) (hw _ (List.mem_of_getElem? (i := 72) rfl)) (hw _ (List.mem_of_getElem? (i := 74) rfl)) (hw _ (List.mem_of_getElem? (i := 2) rfl)) e209 P0 (argsL := [(.int (1 : Int32))]) (rest := []) (W := 0) (met_14 l Z a0 hw a 1 hq tq fq h0 n0 Z0 P0 P1 P2 P3 P4 (by first | assumption | decide | omega)) (hb hby d9_53) rfl rfl rfl (lenOf pd1 rfl) (by show 2 * 0 + _ ≤ _; exact Nat.le_of_eq rfl) (by decide) (by decide) (by decide) (by decide) (by decide) ?_
  intro T210 v210 L210 X210 q210
  obtain ⟨rfl, M210, e210⟩ := q210
  have N210 := Fr.app N0 M210
  show Go p e below s _ _ _ T210 (mkF m 56 #[.val (.ref a), .val (.long xq), .second, .val (.long (3 : Int64)), .second, .val (.int (2 : Int32))] [(.long (fq ((hq + 1) % 3)))])
  refine go_st (fun _ kq => XT.lloadN X210.here hx rfl (hb hby d9_56) rfl kq) ?_
  show Go p e below s _ _ _ T210 (mkF m 57 #[.val (.ref a), .val (.long xq), .second, .val (.long (3 : Int64)), .second, .val (.int (2 : Int32))] [(.long xq), (.long (fq ((hq + 1) % 3)))])
  refine go_st (fun _ kq => XT.lcmp X210.here hx rfl (hb hby d9_57) rfl kq) ?_
  show Go p e below s _ _ _ T210 (mkF m 58 #[.val (.ref a), .val (.long xq), .second, .val (.long (3 : Int64)), .second, .val (.int (2 : Int32))] [(.int (XT.cmpL (fq ((hq + 1) % 3)) xq))])
  by_cases hc211 : xq < (fq ((hq + 1) % 3))
  · refine go_st (fun _ kq => XS.ifNo X210.here hx rfl (hb hby d9_58) rfl (XT.ll_le_f hc211) kq) ?_
    show Go p e below s _ _ _ T210 (mkF m 61 #[.val (.ref a), .val (.long xq), .second, .val (.long (3 : Int64)), .second, .val (.int (2 : Int32))] [])
    refine go_st (fun _ kq => XS.aloadN X210.here hx rfl (hb hby d9_61) rfl rfl kq) ?_
    show Go p e below s _ _ _ T210 (mkF m 62 #[.val (.ref a), .val (.long xq), .second, .val (.long (3 : Int64)), .second, .val (.int (2 : Int32))] [(.ref a)])
    refine go_getF X210 hx hZ hown (host := "") (Or.inl (hw _ (List.mem_of_getElem? (i := 16) rfl))) Via.refl e210 P2 (hb hby d9_62) rfl rfl ?_
    intro T212 X212 e212
    show Go p e below s _ _ _ T212 (mkF m 65 #[.val (.ref a), .val (.long xq), .second, .val (.long (3 : Int64)), .second, .val (.int (2 : Int32))] [(.ref tq)])
    refine go_st (fun _ kq => XS.aloadN X212.here hx rfl (hb hby d9_65) rfl rfl kq) ?_
    show Go p e below s _ _ _ T212 (mkF m 66 #[.val (.ref a), .val (.long xq), .second, .val (.long (3 : Int64)), .second, .val (.int (2 : Int32))] [(.ref a), (.ref tq)])
    refine go_st (fun _ kq => XS.iload X212.here hx rfl (hb hby d9_66) rfl kq) ?_
    show Go p e below s _ _ _ T212 (mkF m 68 #[.val (.ref a), .val (.long xq), .second, .val (.long (3 : Int64)), .second, .val (.int (2 : Int32))] [(.int (2 : Int32)), (.ref a), (.ref tq)])
    refine go_callP X212 hx hZ hml hown (hw _ (List.mem_of_getElem? (i := 40) rfl)) (hw _ (List.mem_of_getElem? (i := 42) rfl)) (hw _ (List.mem_of_getElem? (i := 1) rfl)) (hw _ (List.mem_of_getElem? (i := 41) rfl)) (hw _ (List.mem_of_getElem? (i := 43) rfl)) (hw _ (List.mem_of_getElem? (i := 2) rfl)) e212 P0 (argsL := [(.int (2 : Int32))]) (rest := [(.ref tq)]) (W := 1) (met_8 l Z a0 hw a 2 hq tq fq h0 n0 Z0 P1 P2 P3) (hb hby d9_68) rfl rfl rfl (lenOf pd0 rfl) (by show 2 * 0 + _ ≤ _; exact Nat.le_of_eq rfl) (by decide) (by decide) (by decide) (by decide) (by decide) ?_
    intro T213 v213 L213 X213 q213
    obtain ⟨rfl, M213, e213⟩ := q213
    have N213 := Fr.app N210 M213
    rw [own_slot (h := hq) (k := 2) (by omega) (by omega)]
    show Go p e below s _ _ _ T213 (mkF m 71 #[.val (.ref a), .val (.long xq), .second, .val (.long (3 : Int64)), .second, .val (.int (2 : Int32))] [(.int (Int32.ofNat ((hq + 2) % 3))), (.ref tq)])
    refine go_st (fun _ kq => XS.aloadN X213.here hx rfl (hb hby d9_71) rfl rfl kq) ?_
    show Go p e below s _ _ _ T213 (mkF m 72 #[.val (.ref a), .val (.long xq), .second, .val (.long (3 : Int64)), .second, .val (.int (2 : Int32))] [(.ref a), (.int (Int32.ofNat ((hq + 2) % 3))), (.ref tq)])
    refine go_st (fun _ kq => XS.iload X213.here hx rfl (hb hby d9_72) rfl kq) ?_
    show Go p e below s _ _ _ T213 (mkF m 74 #[.val (.ref a), .val (.long xq), .second, .val (.long (3 : Int64)), .second, .val (.int (2 : Int32))] [(.int (2 : Int32)), (.ref a), (.int (Int32.ofNat ((hq + 2) % 3))), (.ref tq)])
    refine go_st (fun _ kq => XT.iconstV X213.here hx rfl (1 : Int32) (hb hby d9_74) (by decide) kq) ?_
    show Go p e below s _ _ _ T213 (mkF m 75 #[.val (.ref a), .val (.long xq), .second, .val (.long (3 : Int64)), .second, .val (.int (2 : Int32))] [(.int (1 : Int32)), (.int (2 : Int32)), (.ref a), (.int (Int32.ofNat ((hq + 2) % 3))), (.ref tq)])
    refine go_st (fun _ kq => XS.isub X213.here hx rfl (hb hby d9_75) rfl kq) ?_
    rw [show ((2 : Int32) - (1 : Int32)) = (1 : Int32) from by decide +kernel]
    show Go p e below s _ _ _ T213 (mkF m 76 #[.val (.ref a), .val (.long xq), .second, .val (.long (3 : Int64)), .second, .val (.int (2 : Int32))] [(.int (1 : Int32)), (.ref a), (.int (Int32.ofNat ((hq + 2) % 3))), (.ref tq)])
    refine go_callP X213 hx hZ hml hown (hw _ (List.mem_of_getElem? (i := 71) rfl)) (hw _ (List.mem_of_getElem? (i := 73) rfl)) (hw _ (List.mem_of_getElem? (i := 1) rfl)) (hw _ (List.mem_of_getElem? (i := 72) rfl)) (hw _ (List.mem_of_getElem? (i := 74) rfl)) (hw _ (List.mem_of_getElem? (i := 2) rfl)) e213 P0 (argsL := [(.int (1 : Int32))]) (rest := [(.int (Int32.ofNat ((hq + 2) % 3))), (.ref tq)]) (W := 2) (met_14 l Z a0 hw a 1 hq tq fq h0 n0 Z0 P0 P1 P2 P3 P4 (by first | assumption | decide | omega)) (hb hby d9_76) rfl rfl rfl (lenOf pd1 rfl) (by show 2 * 0 + _ ≤ _; exact Nat.le_of_eq rfl) (by decide) (by decide) (by decide) (by decide) (by decide) ?_
    intro T214 v214 L214 X214 q214
    obtain ⟨rfl, M214, e214⟩ := q214
    have N214 := Fr.app N213 M214
    show Go p e below s _ _ _ T214 (mkF m 79 #[.val (.ref a), .val (.long xq), .second, .val (.long (3 : Int64)), .second, .val (.int (2 : Int32))] [(.long (fq ((hq + 1) % 3))), (.int (Int32.ofNat ((hq + 2) % 3))), (.ref tq)])
    refine go_last X214 hx hZ e214 P3 (hb hby d9_79) rfl rfl (own_ix3 _ _) ?_
    intro T215 h215 X215 e215 W215 G215
    have N215 := Fr.snoc X215 N214 P8
    have A215 : GA Z h215 tq .long 3 (fun i => .long ((upd fq ((hq + 2) % 3) (fq ((hq + 1) % 3))) i)) := (own_gl (own_cx3 _ _) G215)
    show Go p e below s _ _ _ T215 (mkF m 80 #[.val (.ref a), .val (.long xq), .second, .val (.long (3 : Int64)), .second, .val (.int (2 : Int32))] [])
    refine go_st (fun _ kq => XT.iincV X215.here hx rfl (-1 : Int32) (hb hby d9_80) (by decide) rfl (l' := #[.val (.ref a), .val (.long xq), .second, .val (.long (3 : Int64)), .second, .val (.int (1 : Int32))]) rfl kq) ?_
    show Go p e below s _ _ _ T215 (mkF m 83 #[.val (.ref a), .val (.long xq), .second, .val (.long (3 : Int64)), .second, .val (.int (1 : Int32))] [])
    refine go_st (fun _ kq => XS.goto X215.here hx rfl (pc0 := 83) (pc' := 43) rfl (hb hby d9_83) (by decide) (by decide) kq) ?_
    show Go p e below s _ _ _ T215 (mkF m 43 #[.val (.ref a), .val (.long xq), .second, .val (.long (3 : Int64)), .second, .val (.int (1 : Int32))] [])
    refine go_st (fun _ kq => XS.iload X215.here hx rfl (hb hby d9_43) rfl kq) ?_
    show Go p e below s _ _ _ T215 (mkF m 45 #[.val (.ref a), .val (.long xq), .second, .val (.long (3 : Int64)), .second, .val (.int (1 : Int32))] [(.int (1 : Int32))])
    refine go_st (fun _ kq => XS.ifNo X215.here hx rfl (hb hby d9_45) rfl (XT.i0_le_f (by decide)) kq) ?_
    show Go p e below s _ _ _ T215 (mkF m 48 #[.val (.ref a), .val (.long xq), .second, .val (.long (3 : Int64)), .second, .val (.int (1 : Int32))] [])
    refine go_st (fun _ kq => XS.aloadN X215.here hx rfl (hb hby d9_48) rfl rfl kq) ?_
    show Go p e below s _ _ _ T215 (mkF m 49 #[.val (.ref a), .val (.long xq), .second, .val (.long (3 : Int64)), .second, .val (.int (1 : Int32))] [(.ref a)])
    refine go_st (fun _ kq => XS.iload X215.here hx rfl (hb hby d9_49) rfl kq) ?_
    show Go p e below s _ _ _ T215 (mkF m 51 #[.val (.ref a), .val (.long xq), .second, .val (.long (3 : Int64)), .second, .val (.int (1 : Int32))] [(.int (1 : Int32)), (.ref a)])
    refine go_st (fun _ kq => XT.iconstV X215.here hx rfl (1 : Int32) (hb hby d9_51) (by decide) kq) ?_
    show Go p e below s _ _ _ T215 (mkF m 52 #[.val (.ref a), .val (.long xq), .second, .val (.long (3 : Int64)), .second, .val (.int (1 : Int32))] [(.int (1 : Int32)), (.int (1 : Int32)), (.ref a)])
    refine go_st (fun _ kq => XS.isub X215.here hx rfl (hb hby d9_52) rfl kq) ?_
    rw [show ((1 : Int32) - (1 : Int32)) = (0 : Int32) from by decide +kernel]
    show Go p e below s _ _ _ T215 (mkF m 53 #[.val (.ref a), .val (.long xq), .second, .val (.long (3 : Int64)), .second, .val (.int (1 : Int32))] [(.int (0 : Int32)), (.ref a)])
    have c217 := Exa.wr W215 P0
    have c218 := Fld.other W215 P1 (Or.inl P6)
    have c219 := Fld.other W215 P2 (Or.inl P6)
    have z220 : n0 ≤ h215.size := (Wr.size W215).symm ▸ Z0
    refine go_callP X215 hx hZ hml hown (hw _ (List.mem_of_getElem? (i := 71) rfl)) (hw _ (List.mem_of_getElem? (i := 73) rfl)) (hw _ (List.mem_of_getElem? (i := 1) rfl)) (hw _ (List.mem_of_getElem? (i := 72) rfl)) (hw _ (List.mem_of_getElem? (i := 74) rfl)) (hw _ (List.mem_of_getElem? (i := 2) rfl)) e215 c217 (argsL := [(.int (0 : Int32))]) (rest := []) (W := 0) (met_14 l Z a0 hw a 0 hq tq (upd fq ((hq + 2) % 3) (fq ((hq + 1) % 3))) h215 n0 z220 c217 c218 c219 A215 P4 (by first | assumption | decide | omega)) (hb hby d9_53) rfl rfl rfl (lenOf pd1 rfl) (by show 2 * 0 + _ ≤ _; exact Nat.le_of_eq rfl) (by decide) (by decide) (by decide) (by decide) (by decide) ?_
    intro T216 v216 L216 X216 q216
    obtain ⟨rfl, M216, e216⟩ := q216
    have N216 := Fr.app N215 M216
    show Go p e below s _ _ _ T216 (mkF m 56 #[.val (.ref a), .val (.long xq), .second, .val (.long (3 : Int64)), .second, .val (.int (1 : Int32))] [(.long ((upd fq ((hq + 2) % 3) (fq ((hq + 1) % 3))) ((hq + 0) % 3)))])
    refine go_st (fun _ kq => XT.lloadN X216.here hx rfl (hb hby d9_56) rfl kq) ?_
    show Go p e below s _ _ _ T216 (mkF m 57 #[.val (.ref a), .val (.long xq), .second, .val (.long (3 : Int64)), .second, .val (.int (1 : Int32))] [(.long xq), (.long ((upd fq ((hq + 2) % 3) (fq ((hq + 1) % 3))) ((hq + 0) % 3)))])
    refine go_st (fun _ kq => XT.lcmp X216.here hx rfl (hb hby d9_57) rfl kq) ?_
    show Go p e below s _ _ _ T216 (mkF m 58 #[.val (.ref a), .val (.long xq), .second, .val (.long (3 : Int64)), .second, .val (.int (1 : Int32))] [(.int (XT.cmpL ((upd fq ((hq + 2) % 3) (fq ((hq + 1) % 3))) ((hq + 0) % 3)) xq))])
    by_cases hc221 : xq < ((upd fq ((hq + 2) % 3) (fq ((hq + 1) % 3))) ((hq + 0) % 3))
    · refine go_st (fun _ kq => XS.ifNo X216.here hx rfl (hb hby d9_58) rfl (XT.ll_le_f hc221) kq) ?_
      show Go p e below s _ _ _ T216 (mkF m 61 #[.val (.ref a), .val (.long xq), .second, .val (.long (3 : Int64)), .second, .val (.int (1 : Int32))] [])
      refine go_st (fun _ kq => XS.aloadN X216.here hx rfl (hb hby d9_61) rfl rfl kq) ?_
      show Go p e below s _ _ _ T216 (mkF m 62 #[.val (.ref a), .val (.long xq), .second, .val (.long (3 : Int64)), .second, .val (.int (1 : Int32))] [(.ref a)])
      refine go_getF X216 hx hZ hown (host := "") (Or.inl (hw _ (List.mem_of_getElem? (i := 16) rfl))) Via.refl e216 c219 (hb hby d9_62) rfl rfl ?_
      intro T222 X222 e222
      show Go p e below s _ _ _ T222 (mkF m 65 #[.val (.ref a), .val (.long xq), .second, .val (.long (3 : Int64)), .second, .val (.int (1 : Int32))] [(.ref tq)])
      refine go_st (fun _ kq => XS.aloadN X222.here hx rfl (hb hby d9_65) rfl rfl kq) ?_
      show Go p e below s _ _ _ T222 (mkF m 66 #[.val (.ref a), .val (.long xq), .second, .val (.long (3 : Int64)), .second, .val (.int (1 : Int32))] [(.ref a), (.ref tq)])
      refine go_st (fun _ kq => XS.iload X222.here hx rfl (hb hby d9_66) rfl kq) ?_
      show Go p e below s _ _ _ T222 (mkF m 68 #[.val (.ref a), .val (.long xq), .second, .val (.long (3 : Int64)), .second, .val (.int (1 : Int32))] [(.int (1 : Int32)), (.ref a), (.ref tq)])
      refine go_callP X222 hx hZ hml hown (hw _ (List.mem_of_getElem? (i := 40) rfl)) (hw _ (List.mem_of_getElem? (i := 42) rfl)) (hw _ (List.mem_of_getElem? (i := 1) rfl)) (hw _ (List.mem_of_getElem? (i := 41) rfl)) (hw _ (List.mem_of_getElem? (i := 43) rfl)) (hw _ (List.mem_of_getElem? (i := 2) rfl)) e222 c217 (argsL := [(.int (1 : Int32))]) (rest := [(.ref tq)]) (W := 1) (met_8 l Z a0 hw a 1 hq tq (upd fq ((hq + 2) % 3) (fq ((hq + 1) % 3))) h215 n0 z220 c218 c219 A215) (hb hby d9_68) rfl rfl rfl (lenOf pd0 rfl) (by show 2 * 0 + _ ≤ _; exact Nat.le_of_eq rfl) (by decide) (by decide) (by decide) (by decide) (by decide) ?_
      intro T223 v223 L223 X223 q223
      obtain ⟨rfl, M223, e223⟩ := q223
      have N223 := Fr.app N216 M223
      rw [own_slot (h := hq) (k := 1) (by omega) (by omega)]
      show Go p e below s _ _ _ T223 (mkF m 71 #[.val (.ref a), .val (.long xq), .second, .val (.long (3 : Int64)), .second, .val (.int (1 : Int32))] [(.int (Int32.ofNat ((hq + 1) % 3))), (.ref tq)])
      refine go_st (fun _ kq => XS.aloadN X223.here hx rfl (hb hby d9_71) rfl rfl kq) ?_
      show Go p e below s _ _ _ T223 (mkF m 72 #[.val (.ref a), .val (.long xq), .second, .val (.long (3 : Int64)), .second, .val (.int (1 : Int32))] [(.ref a), (.int (Int32.ofNat ((hq + 1) % 3))), (.ref tq)])
      refine go_st (fun _ kq => XS.iload X223.here hx rfl (hb hby d9_72) rfl kq) ?_
      show Go p e below s _ _ _ T223 (mkF m 74 #[.val (.ref a), .val (.long xq), .second, .val (.long (3 : Int64)), .second, .val (.int (1 : Int32))] [(.int (1 : Int32)), (.ref a), (.int (Int32.ofNat ((hq + 1) % 3))), (.ref tq)])
      refine go_st (fun _ kq => XT.iconstV X223.here hx rfl (1 : Int32) (hb hby d9_74) (by decide) kq) ?_
      show Go p e below s _ _ _ T223 (mkF m 75 #[.val (.ref a), .val (.long xq), .second, .val (.long (3 : Int64)), .second, .val (.int (1 : Int32))] [(.int (1 : Int32)), (.int (1 : Int32)), (.ref a), (.int (Int32.ofNat ((hq + 1) % 3))), (.ref tq)])
      refine go_st (fun _ kq => XS.isub X223.here hx rfl (hb hby d9_75) rfl kq) ?_
      rw [show ((1 : Int32) - (1 : Int32)) = (0 : Int32) from by decide +kernel]
      show Go p e below s _ _ _ T223 (mkF m 76 #[.val (.ref a), .val (.long xq), .second, .val (.long (3 : Int64)), .second, .val (.int (1 : Int32))] [(.int (0 : Int32)), (.ref a), (.int (Int32.ofNat ((hq + 1) % 3))), (.ref tq)])
      refine go_callP X223 hx hZ hml hown (hw _ (List.mem_of_getElem? (i := 71) rfl)) (hw _ (List.mem_of_getElem? (i := 73) rfl)) (hw _ (List.mem_of_getElem? (i := 1) rfl)) (hw _ (List.mem_of_getElem? (i := 72) rfl)) (hw _ (List.mem_of_getElem? (i := 74) rfl)) (hw _ (List.mem_of_getElem? (i := 2) rfl)) e223 c217 (argsL := [(.int (0 : Int32))]) (rest := [(.int (Int32.ofNat ((hq + 1) % 3))), (.ref tq)]) (W := 2) (met_14 l Z a0 hw a 0 hq tq (upd fq ((hq + 2) % 3) (fq ((hq + 1) % 3))) h215 n0 z220 c217 c218 c219 A215 P4 (by first | assumption | decide | omega)) (hb hby d9_76) rfl rfl rfl (lenOf pd1 rfl) (by show 2 * 0 + _ ≤ _; exact Nat.le_of_eq rfl) (by decide) (by decide) (by decide) (by decide) (by decide) ?_
      intro T224 v224 L224 X224 q224
      obtain ⟨rfl, M224, e224⟩ := q224
      have N224 := Fr.app N223 M224
      show Go p e below s _ _ _ T224 (mkF m 79 #[.val (.ref a), .val (.long xq), .second, .val (.long (3 : Int64)), .second, .val (.int (1 : Int32))] [(.long ((upd fq ((hq + 2) % 3) (fq ((hq + 1) % 3))) ((hq + 0) % 3))), (.int (Int32.ofNat ((hq + 1) % 3))), (.ref tq)])
      refine go_last X224 hx hZ e224 A215 (hb hby d9_79) rfl rfl (own_ix3 _ _) ?_
      intro T225 h225 X225 e225 W225 G225
      have N225 := Fr.snoc X225 N224 P8
      have A225 : GA Z h225 tq .long 3 (fun i => .long ((upd (upd fq ((hq + 2) % 3) (fq ((hq + 1) % 3))) ((hq + 1) % 3) ((upd fq ((hq + 2) % 3) (fq ((hq + 1) % 3))) ((hq + 0) % 3))) i)) := (own_gl (own_cx3 _ _) G225)
      show Go p e below s _ _ _ T225 (mkF m 80 #[.val (.ref a), .val (.long xq), .second, .val (.long (3 : Int64)), .second, .val (.int (1 : Int32))] [])
      refine go_st (fun _ kq => XT.iincV X225.here hx rfl (-1 : Int32) (hb hby d9_80) (by decide) rfl (l' := #[.val (.ref a), .val (.long xq), .second, .val (.long (3 : Int64)), .second, .val (.int (0 : Int32))]) rfl kq) ?_
      show Go p e below s _ _ _ T225 (mkF m 83 #[.val (.ref a), .val (.long xq), .second, .val (.long (3 : Int64)), .second, .val (.int (0 : Int32))] [])
      refine go_st (fun _ kq => XS.goto X225.here hx rfl (pc0 := 83) (pc' := 43) rfl (hb hby d9_83) (by decide) (by decide) kq) ?_
      show Go p e below s _ _ _ T225 (mkF m 43 #[.val (.ref a), .val (.long xq), .second, .val (.long (3 : Int64)), .second, .val (.int (0 : Int32))] [])
      refine go_st (fun _ kq => XS.iload X225.here hx rfl (hb hby d9_43) rfl kq) ?_
      show Go p e below s _ _ _ T225 (mkF m 45 #[.val (.ref a), .val (.long xq), .second, .val (.long (3 : Int64)), .second, .val (.int (0 : Int32))] [(.int (0 : Int32))])
      refine go_st (fun _ kq => XS.ifYes X225.here hx rfl (pc0 := 45) (pc' := 86) rfl (hb hby d9_45) rfl (XT.i0_le_t (by decide)) (by decide) (by decide) kq) ?_
      show Go p e below s _ _ _ T225 (mkF m 86 #[.val (.ref a), .val (.long xq), .second, .val (.long (3 : Int64)), .second, .val (.int (0 : Int32))] [])
      refine go_st (fun _ kq => XS.aloadN X225.here hx rfl (hb hby d9_86) rfl rfl kq) ?_
      show Go p e below s _ _ _ T225 (mkF m 87 #[.val (.ref a), .val (.long xq), .second, .val (.long (3 : Int64)), .second, .val (.int (0 : Int32))] [(.ref a)])
      have c226 := Fld.other W225 c219 (Or.inl P6)
      refine go_getF X225 hx hZ hown (host := "") (Or.inl (hw _ (List.mem_of_getElem? (i := 16) rfl))) Via.refl e225 c226 (hb hby d9_87) rfl rfl ?_
      intro T227 X227 e227
      show Go p e below s _ _ _ T227 (mkF m 90 #[.val (.ref a), .val (.long xq), .second, .val (.long (3 : Int64)), .second, .val (.int (0 : Int32))] [(.ref tq)])
      refine go_st (fun _ kq => XS.aloadN X227.here hx rfl (hb hby d9_90) rfl rfl kq) ?_
      show Go p e below s _ _ _ T227 (mkF m 91 #[.val (.ref a), .val (.long xq), .second, .val (.long (3 : Int64)), .second, .val (.int (0 : Int32))] [(.ref a), (.ref tq)])
      refine go_st (fun _ kq => XS.iload X227.here hx rfl (hb hby d9_91) rfl kq) ?_
      show Go p e below s _ _ _ T227 (mkF m 93 #[.val (.ref a), .val (.long xq), .second, .val (.long (3 : Int64)), .second, .val (.int (0 : Int32))] [(.int (0 : Int32)), (.ref a), (.ref tq)])
      have c229 := Fld.other W225 c218 (Or.inl P6)
      have z230 : n0 ≤ h225.size := (Wr.size W225).symm ▸ z220
      have c231 := Exa.wr W225 c217
      refine go_callP X227 hx hZ hml hown (hw _ (List.mem_of_getElem? (i := 40) rfl)) (hw _ (List.mem_of_getElem? (i := 42) rfl)) (hw _ (List.mem_of_getElem? (i := 1) rfl)) (hw _ (List.mem_of_getElem? (i := 41) rfl)) (hw _ (List.mem_of_getElem? (i := 43) rfl)) (hw _ (List.mem_of_getElem? (i := 2) rfl)) e227 c231 (argsL := [(.int (0 : Int32))]) (rest := [(.ref tq)]) (W := 1) (met_8 l Z a0 hw a 0 hq tq (upd (upd fq ((hq + 2) % 3) (fq ((hq + 1) % 3))) ((hq + 1) % 3) ((upd fq ((hq + 2) % 3) (fq ((hq + 1) % 3))) ((hq + 0) % 3))) h225 n0 z230 c229 c226 A225) (hb hby d9_93) rfl rfl rfl (lenOf pd0 rfl) (by show 2 * 0 + _ ≤ _; exact Nat.le_of_eq rfl) (by decide) (by decide) (by decide) (by decide) (by decide) ?_
      intro T228 v228 L228 X228 q228
      obtain ⟨rfl, M228, e228⟩ := q228
      have N228 := Fr.app N225 M228
      rw [own_slot (h := hq) (k := 0) (by omega) (by omega)]
      show Go p e below s _ _ _ T228 (mkF m 96 #[.val (.ref a), .val (.long xq), .second, .val (.long (3 : Int64)), .second, .val (.int (0 : Int32))] [(.int (Int32.ofNat ((hq + 0) % 3))), (.ref tq)])
      refine go_st (fun _ kq => XT.lloadN X228.here hx rfl (hb hby d9_96) rfl kq) ?_
      show Go p e below s _ _ _ T228 (mkF m 97 #[.val (.ref a), .val (.long xq), .second, .val (.long (3 : Int64)), .second, .val (.int (0 : Int32))] [(.long xq), (.int (Int32.ofNat ((hq + 0) % 3))), (.ref tq)])
      refine go_last X228 hx hZ e228 A225 (hb hby d9_97) rfl rfl (own_ix3 _ _) ?_
      intro T232 h232 X232 e232 W232 G232
      have N232 := Fr.snoc X232 N228 P8
      have A232 : GA Z h232 tq .long 3 (fun i => .long ((upd (upd (upd fq ((hq + 2) % 3) (fq ((hq + 1) % 3))) ((hq + 1) % 3) ((upd fq ((hq + 2) % 3) (fq ((hq + 1) % 3))) ((hq + 0) % 3))) ((hq + 0) % 3) xq) i)) := (own_gl (own_cx3 _ _) G232)
      show Go p e below s _ _ _ T232 (mkF m 98 #[.val (.ref a), .val (.long xq), .second, .val (.long (3 : Int64)), .second, .val (.int (0 : Int32))] [])
      refine go_st (fun _ kq => XS.aloadN X232.here hx rfl (hb hby d9_98) rfl rfl kq) ?_
      show Go p e below s _ _ _ T232 (mkF m 99 #[.val (.ref a), .val (.long xq), .second, .val (.long (3 : Int64)), .second, .val (.int (0 : Int32))] [(.ref a)])
      refine go_st (fun _ kq => XS.dup X232.here hx rfl (hb hby d9_99) rfl rfl kq) ?_
      show Go p e below s _ _ _ T232 (mkF m 100 #[.val (.ref a), .val (.long xq), .second, .val (.long (3 : Int64)), .second, .val (.int (0 : Int32))] [(.ref a), (.ref a)])
      have c233 := Fld.other W215 P5 (Or.inl P6)
      have c234 := Fld.other W225 c233 (Or.inl P6)
      have c235 := Fld.other W232 c234 (Or.inl P6)
      refine go_getF X232 hx hZ hown (host := "") (Or.inl (hw _ (List.mem_of_getElem? (i := 34) rfl))) Via.refl e232 c235 (hb hby d9_100) rfl rfl ?_
      intro T236 X236 e236
      show Go p e below s _ _ _ T236 (mkF m 103 #[.val (.ref a), .val (.long xq), .second, .val (.long (3 : Int64)), .second, .val (.int (0 : Int32))] [(.int (2 : Int32)), (.ref a)])
      refine go_st (fun _ kq => XT.iconstV X236.here hx rfl (1 : Int32) (hb hby d9_103) (by decide) kq) ?_
      show Go p e below s _ _ _ T236 (mkF m 104 #[.val (.ref a), .val (.long xq), .second, .val (.long (3 : Int64)), .second, .val (.int (0 : Int32))] [(.int (1 : Int32)), (.int (2 : Int32)), (.ref a)])
      refine go_st (fun _ kq => XS.iadd X236.here hx rfl (hb hby d9_104) rfl kq) ?_
      rw [show ((2 : Int32) + (1 : Int32)) = (3 : Int32) from by decide +kernel]
      show Go p e below s _ _ _ T236 (mkF m 105 #[.val (.ref a), .val (.long xq), .second, .val (.long (3 : Int64)), .second, .val (.int (0 : Int32))] [(.int (3 : Int32)), (.ref a)])
      have c237 := Exa.wr W232 c231
      refine go_putF X236 hx hZ hown (host := "") (Or.inl (hw _ (List.mem_of_getElem? (i := 34) rfl))) Via.refl e236 c235 c237 (Or.inl (hw _ (List.mem_of_getElem? (i := 35) rfl))) (hw _ (List.mem_of_getElem? (i := 1) rfl)) (ty := .int) (by decide) rfl rfl (hb hby d9_105) rfl rfl ?_
      intro T238 h238 X238 e238 W238
      have N238 := Fr.snoc X238 N232 P7
      have F238 : Fld Z h238 a "com/example/aforo/aforo/SlidingLog" "size" "I" (.int (3 : Int32)) := Fld.same W238 c235
      show Go p e below s _ _ _ T238 (mkF m 108 #[.val (.ref a), .val (.long xq), .second, .val (.long (3 : Int64)), .second, .val (.int (0 : Int32))] [])
      have c239 := Exa.wr W238 c237
      have c240 := Fld.other W232 c229 (Or.inl P6)
      have c241 := Fld.other W238 c240 (Or.inr (slot_ne (a0 := a0) (t := .int) (t' := .int) (Or.inl (hw _ (List.mem_of_getElem? (i := 45) rfl))) (Or.inl (hw _ (List.mem_of_getElem? (i := 35) rfl))) (by decide) (by decide) (by decide)))
      have c242 := Fld.other W232 c226 (Or.inl P6)
      have c243 := Fld.other W238 c242 (Or.inr (slot_ne (a0 := a0) (t := (.array .long)) (t' := .int) (Or.inl (hw _ (List.mem_of_getElem? (i := 17) rfl))) (Or.inl (hw _ (List.mem_of_getElem? (i := 35) rfl))) (by decide) (by decide) (by decide)))
      have c244 := A232.other W238 (Ne.symm P6)
      exact go_ret0 X238 hx hlk hret (hb hby d9_108) (by decide) (by decide) (by rw [e238]; exact ⟨(upd (upd (upd fq ((hq + 2) % 3) (fq ((hq + 1) % 3))) ((hq + 1) % 3) ((upd fq ((hq + 2) % 3) (fq ((hq + 1) % 3))) ((hq + 0) % 3))) ((hq + 0) % 3) xq), rfl, N238, (Keep.wr (Keep.wr (Keep.wr (Keep.wr (Keep.refl h0 [a, tq]) W215 (Or.inl (by simp))) W225 (Or.inl (by simp))) W232 (Or.inl (by simp))) W238 (Or.inl (by simp))), (by (repeat rw [own_un (by omega)]); rw [own_us]; exact own_mxB hc211), c239, c241, F238, c243, c244⟩)
    · refine go_st (fun _ kq => XS.ifYes X216.here hx rfl (pc0 := 58) (pc' := 86) rfl (hb hby d9_58) rfl (XT.ll_le_t hc221) (by decide) (by decide) kq) ?_
      show Go p e below s _ _ _ T216 (mkF m 86 #[.val (.ref a), .val (.long xq), .second, .val (.long (3 : Int64)), .second, .val (.int (1 : Int32))] [])
      refine go_st (fun _ kq => XS.aloadN X216.here hx rfl (hb hby d9_86) rfl rfl kq) ?_
      show Go p e below s _ _ _ T216 (mkF m 87 #[.val (.ref a), .val (.long xq), .second, .val (.long (3 : Int64)), .second, .val (.int (1 : Int32))] [(.ref a)])
      refine go_getF X216 hx hZ hown (host := "") (Or.inl (hw _ (List.mem_of_getElem? (i := 16) rfl))) Via.refl e216 c219 (hb hby d9_87) rfl rfl ?_
      intro T245 X245 e245
      show Go p e below s _ _ _ T245 (mkF m 90 #[.val (.ref a), .val (.long xq), .second, .val (.long (3 : Int64)), .second, .val (.int (1 : Int32))] [(.ref tq)])
      refine go_st (fun _ kq => XS.aloadN X245.here hx rfl (hb hby d9_90) rfl rfl kq) ?_
      show Go p e below s _ _ _ T245 (mkF m 91 #[.val (.ref a), .val (.long xq), .second, .val (.long (3 : Int64)), .second, .val (.int (1 : Int32))] [(.ref a), (.ref tq)])
      refine go_st (fun _ kq => XS.iload X245.here hx rfl (hb hby d9_91) rfl kq) ?_
      show Go p e below s _ _ _ T245 (mkF m 93 #[.val (.ref a), .val (.long xq), .second, .val (.long (3 : Int64)), .second, .val (.int (1 : Int32))] [(.int (1 : Int32)), (.ref a), (.ref tq)])
      refine go_callP X245 hx hZ hml hown (hw _ (List.mem_of_getElem? (i := 40) rfl)) (hw _ (List.mem_of_getElem? (i := 42) rfl)) (hw _ (List.mem_of_getElem? (i := 1) rfl)) (hw _ (List.mem_of_getElem? (i := 41) rfl)) (hw _ (List.mem_of_getElem? (i := 43) rfl)) (hw _ (List.mem_of_getElem? (i := 2) rfl)) e245 c217 (argsL := [(.int (1 : Int32))]) (rest := [(.ref tq)]) (W := 1) (met_8 l Z a0 hw a 1 hq tq (upd fq ((hq + 2) % 3) (fq ((hq + 1) % 3))) h215 n0 z220 c218 c219 A215) (hb hby d9_93) rfl rfl rfl (lenOf pd0 rfl) (by show 2 * 0 + _ ≤ _; exact Nat.le_of_eq rfl) (by decide) (by decide) (by decide) (by decide) (by decide) ?_
      intro T246 v246 L246 X246 q246
      obtain ⟨rfl, M246, e246⟩ := q246
      have N246 := Fr.app N216 M246
      rw [own_slot (h := hq) (k := 1) (by omega) (by omega)]
      show Go p e below s _ _ _ T246 (mkF m 96 #[.val (.ref a), .val (.long xq), .second, .val (.long (3 : Int64)), .second, .val (.int (1 : Int32))] [(.int (Int32.ofNat ((hq + 1) % 3))), (.ref tq)])
      refine go_st (fun _ kq => XT.lloadN X246.here hx rfl (hb hby d9_96) rfl kq) ?_
      show Go p e below s _ _ _ T246 (mkF m 97 #[.val (.ref a), .val (.long xq), .second, .val (.long (3 : Int64)), .second, .val (.int (1 : Int32))] [(.long xq), (.int (Int32.ofNat ((hq + 1) % 3))), (.ref tq)])
      refine go_last X246 hx hZ e246 A215 (hb hby d9_97) rfl rfl (own_ix3 _ _) ?_
      intro T247 h247 X247 e247 W247 G247
      have N247 := Fr.snoc X247 N246 P8
      have A247 : GA Z h247 tq .long 3 (fun i => .long ((upd (upd fq ((hq + 2) % 3) (fq ((hq + 1) % 3))) ((hq + 1) % 3) xq) i)) := (own_gl (own_cx3 _ _) G247)
      show Go p e below s _ _ _ T247 (mkF m 98 #[.val (.ref a), .val (.long xq), .second, .val (.long (3 : Int64)), .second, .val (.int (1 : Int32))] [])
      refine go_st (fun _ kq => XS.aloadN X247.here hx rfl (hb hby d9_98) rfl rfl kq) ?_
      show Go p e below s _ _ _ T247 (mkF m 99 #[.val (.ref a), .val (.long xq), .second, .val (.long (3 : Int64)), .second, .val (.int (1 : Int32))] [(.ref a)])
      refine go_st (fun _ kq => XS.dup X247.here hx rfl (hb hby d9_99) rfl rfl kq) ?_
      show Go p e below s _ _ _ T247 (mkF m 100 #[.val (.ref a), .val (.long xq), .second, .val (.long (3 : Int64)), .second, .val (.int (1 : Int32))] [(.ref a), (.ref a)])
      have c248 := Fld.other W215 P5 (Or.inl P6)
      have c249 := Fld.other W247 c248 (Or.inl P6)
      refine go_getF X247 hx hZ hown (host := "") (Or.inl (hw _ (List.mem_of_getElem? (i := 34) rfl))) Via.refl e247 c249 (hb hby d9_100) rfl rfl ?_
      intro T250 X250 e250
      show Go p e below s _ _ _ T250 (mkF m 103 #[.val (.ref a), .val (.long xq), .second, .val (.long (3 : Int64)), .second, .val (.int (1 : Int32))] [(.int (2 : Int32)), (.ref a)])
      refine go_st (fun _ kq => XT.iconstV X250.here hx rfl (1 : Int32) (hb hby d9_103) (by decide) kq) ?_
      show Go p e below s _ _ _ T250 (mkF m 104 #[.val (.ref a), .val (.long xq), .second, .val (.long (3 : Int64)), .second, .val (.int (1 : Int32))] [(.int (1 : Int32)), (.int (2 : Int32)), (.ref a)])
      refine go_st (fun _ kq => XS.iadd X250.here hx rfl (hb hby d9_104) rfl kq) ?_
      rw [show ((2 : Int32) + (1 : Int32)) = (3 : Int32) from by decide +kernel]
      show Go p e below s _ _ _ T250 (mkF m 105 #[.val (.ref a), .val (.long xq), .second, .val (.long (3 : Int64)), .second, .val (.int (1 : Int32))] [(.int (3 : Int32)), (.ref a)])
      have c251 := Exa.wr W247 c217
      refine go_putF X250 hx hZ hown (host := "") (Or.inl (hw _ (List.mem_of_getElem? (i := 34) rfl))) Via.refl e250 c249 c251 (Or.inl (hw _ (List.mem_of_getElem? (i := 35) rfl))) (hw _ (List.mem_of_getElem? (i := 1) rfl)) (ty := .int) (by decide) rfl rfl (hb hby d9_105) rfl rfl ?_
      intro T252 h252 X252 e252 W252
      have N252 := Fr.snoc X252 N247 P7
      have F252 : Fld Z h252 a "com/example/aforo/aforo/SlidingLog" "size" "I" (.int (3 : Int32)) := Fld.same W252 c249
      show Go p e below s _ _ _ T252 (mkF m 108 #[.val (.ref a), .val (.long xq), .second, .val (.long (3 : Int64)), .second, .val (.int (1 : Int32))] [])
      have c253 := Exa.wr W252 c251
      have c254 := Fld.other W247 c218 (Or.inl P6)
      have c255 := Fld.other W252 c254 (Or.inr (slot_ne (a0 := a0) (t := .int) (t' := .int) (Or.inl (hw _ (List.mem_of_getElem? (i := 45) rfl))) (Or.inl (hw _ (List.mem_of_getElem? (i := 35) rfl))) (by decide) (by decide) (by decide)))
      have c256 := Fld.other W247 c219 (Or.inl P6)
      have c257 := Fld.other W252 c256 (Or.inr (slot_ne (a0 := a0) (t := (.array .long)) (t' := .int) (Or.inl (hw _ (List.mem_of_getElem? (i := 17) rfl))) (Or.inl (hw _ (List.mem_of_getElem? (i := 35) rfl))) (by decide) (by decide) (by decide)))
      have c258 := A247.other W252 (Ne.symm P6)
      exact go_ret0 X252 hx hlk hret (hb hby d9_108) (by decide) (by decide) (by rw [e252]; exact ⟨(upd (upd fq ((hq + 2) % 3) (fq ((hq + 1) % 3))) ((hq + 1) % 3) xq), rfl, N252, (Keep.wr (Keep.wr (Keep.wr (Keep.refl h0 [a, tq]) W215 (Or.inl (by simp))) W247 (Or.inl (by simp))) W252 (Or.inl (by simp))), (by (repeat rw [own_un (by omega)]); rw [own_us]; exact own_mxB hc211), c253, c255, F252, c257, c258⟩)
  · refine go_st (fun _ kq => XS.ifYes X210.here hx rfl (pc0 := 58) (pc' := 86) rfl (hb hby d9_58) rfl (XT.ll_le_t hc211) (by decide) (by decide) kq) ?_
    show Go p e below s _ _ _ T210 (mkF m 86 #[.val (.ref a), .val (.long xq), .second, .val (.long (3 : Int64)), .second, .val (.int (2 : Int32))] [])
    refine go_st (fun _ kq => XS.aloadN X210.here hx rfl (hb hby d9_86) rfl rfl kq) ?_
    show Go p e below s _ _ _ T210 (mkF m 87 #[.val (.ref a), .val (.long xq), .second, .val (.long (3 : Int64)), .second, .val (.int (2 : Int32))] [(.ref a)])
    refine go_getF X210 hx hZ hown (host := "") (Or.inl (hw _ (List.mem_of_getElem? (i := 16) rfl))) Via.refl e210 P2 (hb hby d9_87) rfl rfl ?_
    intro T259 X259 e259
    show Go p e below s _ _ _ T259 (mkF m 90 #[.val (.ref a), .val (.long xq), .second, .val (.long (3 : Int64)), .second, .val (.int (2 : Int32))] [(.ref tq)])
    refine go_st (fun _ kq => XS.aloadN X259.here hx rfl (hb hby d9_90) rfl rfl kq) ?_
    show Go p e below s _ _ _ T259 (mkF m 91 #[.val (.ref a), .val (.long xq), .second, .val (.long (3 : Int64)), .second, .val (.int (2 : Int32))] [(.ref a), (.ref tq)])
    refine go_st (fun _ kq => XS.iload X259.here hx rfl (hb hby d9_91) rfl kq) ?_
    show Go p e below s _ _ _ T259 (mkF m 93 #[.val (.ref a), .val (.long xq), .second, .val (.long (3 : Int64)), .second, .val (.int (2 : Int32))] [(.int (2 : Int32)), (.ref a), (.ref tq)])
    refine go_callP X259 hx hZ hml hown (hw _ (List.mem_of_getElem? (i := 40) rfl)) (hw _ (List.mem_of_getElem? (i := 42) rfl)) (hw _ (List.mem_of_getElem? (i := 1) rfl)) (hw _ (List.mem_of_getElem? (i := 41) rfl)) (hw _ (List.mem_of_getElem? (i := 43) rfl)) (hw _ (List.mem_of_getElem? (i := 2) rfl)) e259 P0 (argsL := [(.int (2 : Int32))]) (rest := [(.ref tq)]) (W := 1) (met_8 l Z a0 hw a 2 hq tq fq h0 n0 Z0 P1 P2 P3) (hb hby d9_93) rfl rfl rfl (lenOf pd0 rfl) (by show 2 * 0 + _ ≤ _; exact Nat.le_of_eq rfl) (by decide) (by decide) (by decide) (by decide) (by decide) ?_
    intro T260 v260 L260 X260 q260
    obtain ⟨rfl, M260, e260⟩ := q260
    have N260 := Fr.app N210 M260
    rw [own_slot (h := hq) (k := 2) (by omega) (by omega)]
    show Go p e below s _ _ _ T260 (mkF m 96 #[.val (.ref a), .val (.long xq), .second, .val (.long (3 : Int64)), .second, .val (.int (2 : Int32))] [(.int (Int32.ofNat ((hq + 2) % 3))), (.ref tq)])
    refine go_st (fun _ kq => XT.lloadN X260.here hx rfl (hb hby d9_96) rfl kq) ?_
    show Go p e below s _ _ _ T260 (mkF m 97 #[.val (.ref a), .val (.long xq), .second, .val (.long (3 : Int64)), .second, .val (.int (2 : Int32))] [(.long xq), (.int (Int32.ofNat ((hq + 2) % 3))), (.ref tq)])
    refine go_last X260 hx hZ e260 P3 (hb hby d9_97) rfl rfl (own_ix3 _ _) ?_
    intro T261 h261 X261 e261 W261 G261
    have N261 := Fr.snoc X261 N260 P8
    have A261 : GA Z h261 tq .long 3 (fun i => .long ((upd fq ((hq + 2) % 3) xq) i)) := (own_gl (own_cx3 _ _) G261)
    show Go p e below s _ _ _ T261 (mkF m 98 #[.val (.ref a), .val (.long xq), .second, .val (.long (3 : Int64)), .second, .val (.int (2 : Int32))] [])
    refine go_st (fun _ kq => XS.aloadN X261.here hx rfl (hb hby d9_98) rfl rfl kq) ?_
    show Go p e below s _ _ _ T261 (mkF m 99 #[.val (.ref a), .val (.long xq), .second, .val (.long (3 : Int64)), .second, .val (.int (2 : Int32))] [(.ref a)])
    refine go_st (fun _ kq => XS.dup X261.here hx rfl (hb hby d9_99) rfl rfl kq) ?_
    show Go p e below s _ _ _ T261 (mkF m 100 #[.val (.ref a), .val (.long xq), .second, .val (.long (3 : Int64)), .second, .val (.int (2 : Int32))] [(.ref a), (.ref a)])
    have c262 := Fld.other W261 P5 (Or.inl P6)
    refine go_getF X261 hx hZ hown (host := "") (Or.inl (hw _ (List.mem_of_getElem? (i := 34) rfl))) Via.refl e261 c262 (hb hby d9_100) rfl rfl ?_
    intro T263 X263 e263
    show Go p e below s _ _ _ T263 (mkF m 103 #[.val (.ref a), .val (.long xq), .second, .val (.long (3 : Int64)), .second, .val (.int (2 : Int32))] [(.int (2 : Int32)), (.ref a)])
    refine go_st (fun _ kq => XT.iconstV X263.here hx rfl (1 : Int32) (hb hby d9_103) (by decide) kq) ?_
    show Go p e below s _ _ _ T263 (mkF m 104 #[.val (.ref a), .val (.long xq), .second, .val (.long (3 : Int64)), .second, .val (.int (2 : Int32))] [(.int (1 : Int32)), (.int (2 : Int32)), (.ref a)])
    refine go_st (fun _ kq => XS.iadd X263.here hx rfl (hb hby d9_104) rfl kq) ?_
    rw [show ((2 : Int32) + (1 : Int32)) = (3 : Int32) from by decide +kernel]
    show Go p e below s _ _ _ T263 (mkF m 105 #[.val (.ref a), .val (.long xq), .second, .val (.long (3 : Int64)), .second, .val (.int (2 : Int32))] [(.int (3 : Int32)), (.ref a)])
    have c264 := Exa.wr W261 P0
    refine go_putF X263 hx hZ hown (host := "") (Or.inl (hw _ (List.mem_of_getElem? (i := 34) rfl))) Via.refl e263 c262 c264 (Or.inl (hw _ (List.mem_of_getElem? (i := 35) rfl))) (hw _ (List.mem_of_getElem? (i := 1) rfl)) (ty := .int) (by decide) rfl rfl (hb hby d9_105) rfl rfl ?_
    intro T265 h265 X265 e265 W265
    have N265 := Fr.snoc X265 N261 P7
    have F265 : Fld Z h265 a "com/example/aforo/aforo/SlidingLog" "size" "I" (.int (3 : Int32)) := Fld.same W265 c262
    show Go p e below s _ _ _ T265 (mkF m 108 #[.val (.ref a), .val (.long xq), .second, .val (.long (3 : Int64)), .second, .val (.int (2 : Int32))] [])
    have c266 := Exa.wr W265 c264
    have c267 := Fld.other W261 P1 (Or.inl P6)
    have c268 := Fld.other W265 c267 (Or.inr (slot_ne (a0 := a0) (t := .int) (t' := .int) (Or.inl (hw _ (List.mem_of_getElem? (i := 45) rfl))) (Or.inl (hw _ (List.mem_of_getElem? (i := 35) rfl))) (by decide) (by decide) (by decide)))
    have c269 := Fld.other W261 P2 (Or.inl P6)
    have c270 := Fld.other W265 c269 (Or.inr (slot_ne (a0 := a0) (t := (.array .long)) (t' := .int) (Or.inl (hw _ (List.mem_of_getElem? (i := 17) rfl))) (Or.inl (hw _ (List.mem_of_getElem? (i := 35) rfl))) (by decide) (by decide) (by decide)))
    have c271 := A261.other W265 (Ne.symm P6)
    exact go_ret0 X265 hx hlk hret (hb hby d9_108) (by decide) (by decide) (by rw [e265]; exact ⟨(upd fq ((hq + 2) % 3) xq), rfl, N265, (Keep.wr (Keep.wr (Keep.refl h0 [a, tq]) W261 (Or.inl (by simp))) W265 (Or.inl (by simp))), (by rw [own_us]; exact own_mxA hc211), c266, c268, F265, c270, c271⟩)
def Q_insz (Z : State) (a : Addr) (xq : Int64) (tq : Addr) (fq : Nat → Int64) (h0 : Heap) (n0 : Nat) (v : Option Value) (h : Heap) (L : List Loc) : Prop := ∃ uq : Addr, ∃ gq : Nat → Int64, v = none ∧ Fr n0 L ∧ Keep h0 h [a] ∧ h0.size ≤ uq ∧ (gq 0 = xq) ∧ Exa Z h a "com/example/aforo/aforo/SlidingLog" ∧ Fld Z h a "com/example/aforo/aforo/SlidingLog" "head" "I" (.int (0 : Int32)) ∧ Fld Z h a "com/example/aforo/aforo/SlidingLog" "size" "I" (.int (1 : Int32)) ∧ Fld Z h a "com/example/aforo/aforo/SlidingLog" "times" "[J" (.ref uq) ∧ GA Z h uq .long 3 (fun i => .long (gq i))
theorem pd4 : parseMethodDescriptor "(JJ)J" = some ⟨[.long, .long], (some .long)⟩ := by decide +kernel
theorem pd5 : parseMethodDescriptor "(I)V" = some ⟨[.int], none⟩ := by decide +kernel
theorem ef_insz (m : MethodId) (a : Addr) (xq : Int64) (tq : Addr) (fq : Nat → Int64) : entryFrame m #[(.ref a), (.long xq), (.long (3 : Int64))] 6 = mkF m 0 #[.val (.ref a), .val (.long xq), .second, .val (.long (3 : Int64)), .second, .unset] [] := by first | (simp [entryFrame, mkF, argsToLocals, Value.category]; done) | rfl
abbrev rm_insz : Room := ({ frames := 2, cells := 1, slots := 3, locals := 45 } : Room)
set_option maxRecDepth 65536 in
set_option maxHeartbeats 4000000 in
theorem met_insz (l : Launch) (Z : State) (a0 : Array Value) (hw : ∀ d ∈ tables_1, d.before a0 Z = true) (a : Addr) (xq : Int64) (tq : Addr) (fq : Nat → Int64) (h0 : Heap) (n0 : Nat) (Z0 : n0 ≤ h0.size) (P0 : Exa Z h0 a "com/example/aforo/aforo/SlidingLog") (P1 : Fld Z h0 a "com/example/aforo/aforo/SlidingLog" "head" "I" (.int (0 : Int32))) (P2 : Fld Z h0 a "com/example/aforo/aforo/SlidingLog" "size" "I" (.int (0 : Int32))) (P3 : Fld Z h0 a "com/example/aforo/aforo/SlidingLog" "times" "[J" (.ref tq)) (P4 : GA Z h0 tq .long 0 (fun i => .long (fq i))) (P5 : a ≠ tq) (P6 : n0 ≤ a) :
    Met l (⟨"com/example/aforo/aforo/SlidingLog", "insert", "(JJ)V"⟩ : MethodName) prog_17_method_8_code 6 none [] rm_insz Z #[(.ref a), (.long xq), (.long (3 : Int64))] h0 (Q_insz Z a xq tq fq h0 n0) rm_insz.cells rm_insz.slots := by
  refine own_body pn8 ?_
  intro p e s m below meth c s₁ ct X0 e0
  have ct0 := ct
  obtain ⟨hx, hZ, hown, hby, hml, hret, hlk, hnm⟩ := ct
  have lt_a : a < h0.size := P0.lt
  have lt_tq : tq < h0.size := P4.lt
  have N0 := Fr.nil n0
  refine castGo (ef_insz m a xq tq fq) ?_
  show Go p e below s _ _ _ s₁ (mkF m 0 #[.val (.ref a), .val (.long xq), .second, .val (.long (3 : Int64)), .second, .unset] [])
  refine go_st (fun _ kq => XS.aloadN X0.here hx rfl (hb hby d9_0) rfl rfl kq) ?_
  show Go p e below s _ _ _ s₁ (mkF m 1 #[.val (.ref a), .val (.long xq), .second, .val (.long (3 : Int64)), .second, .unset] [(.ref a)])
  refine go_getF X0 hx hZ hown (host := "") (Or.inl (hw _ (List.mem_of_getElem? (i := 34) rfl))) Via.refl e0 P2 (hb hby d9_1) rfl rfl ?_
  intro T272 X272 e272
  show Go p e below s _ _ _ T272 (mkF m 4 #[.val (.ref a), .val (.long xq), .second, .val (.long (3 : Int64)), .second, .unset] [(.int (0 : Int32))])
  refine go_st (fun _ kq => XS.aloadN X272.here hx rfl (hb hby d9_4) rfl rfl kq) ?_
  show Go p e below s _ _ _ T272 (mkF m 5 #[.val (.ref a), .val (.long xq), .second, .val (.long (3 : Int64)), .second, .unset] [(.ref a), (.int (0 : Int32))])
  refine go_getF X272 hx hZ hown (host := "") (Or.inl (hw _ (List.mem_of_getElem? (i := 16) rfl))) Via.refl e272 P3 (hb hby d9_5) rfl rfl ?_
  intro T273 X273 e273
  show Go p e below s _ _ _ T273 (mkF m 8 #[.val (.ref a), .val (.long xq), .second, .val (.long (3 : Int64)), .second, .unset] [(.ref tq), (.int (0 : Int32))])
  refine go_alen X273 hx hZ e273 P4 (hb hby d9_8) rfl rfl (0 : Int32) (by decide) ?_
  show Go p e below s _ _ _ T273 (mkF m 9 #[.val (.ref a), .val (.long xq), .second, .val (.long (3 : Int64)), .second, .unset] [(.int (0 : Int32)), (.int (0 : Int32))])
  refine go_st (fun _ kq => XS.icmpNo X273.here hx rfl (hb hby d9_9) rfl (XT.ii_ne_f (by decide)) kq) ?_
  show Go p e below s _ _ _ T273 (mkF m 12 #[.val (.ref a), .val (.long xq), .second, .val (.long (3 : Int64)), .second, .unset] [])
  refine go_st (fun _ kq => XS.aloadN X273.here hx rfl (hb hby d9_12) rfl rfl kq) ?_
  show Go p e below s _ _ _ T273 (mkF m 13 #[.val (.ref a), .val (.long xq), .second, .val (.long (3 : Int64)), .second, .unset] [(.ref a)])
  refine go_st (fun _ kq => XT.lloadN X273.here hx rfl (hb hby d9_13) rfl kq) ?_
  show Go p e below s _ _ _ T273 (mkF m 14 #[.val (.ref a), .val (.long xq), .second, .val (.long (3 : Int64)), .second, .unset] [(.long (3 : Int64)), (.ref a)])
  refine go_st (fun _ kq => Jvm.Stand.ldc2J X273 hx hown (mvT hZ (hw _ (List.mem_of_getElem? (i := 50) rfl))) rfl (hb hby d9_14) kq) ?_
  show Go p e below s _ _ _ T273 (mkF m 17 #[.val (.ref a), .val (.long xq), .second, .val (.long (3 : Int64)), .second, .unset] [(.long (4 : Int64)), (.long (3 : Int64)), (.ref a)])
  refine go_st (fun _ kq => Jvm.Stand.ldc2J X273 hx hown (mvT hZ (hw _ (List.mem_of_getElem? (i := 51) rfl))) rfl (hb hby d9_17) kq) ?_
  show Go p e below s _ _ _ T273 (mkF m 20 #[.val (.ref a), .val (.long xq), .second, .val (.long (3 : Int64)), .second, .unset] [(.long (2 : Int64)), (.long (4 : Int64)), (.long (3 : Int64)), (.ref a)])
  refine go_st (fun _ kq => XS.aloadN X273.here hx rfl (hb hby d9_20) rfl rfl kq) ?_
  show Go p e below s _ _ _ T273 (mkF m 21 #[.val (.ref a), .val (.long xq), .second, .val (.long (3 : Int64)), .second, .unset] [(.ref a), (.long (2 : Int64)), (.long (4 : Int64)), (.long (3 : Int64)), (.ref a)])
  refine go_getF X273 hx hZ hown (host := "") (Or.inl (hw _ (List.mem_of_getElem? (i := 16) rfl))) Via.refl e273 P3 (hb hby d9_21) rfl rfl ?_
  intro T274 X274 e274
  show Go p e below s _ _ _ T274 (mkF m 24 #[.val (.ref a), .val (.long xq), .second, .val (.long (3 : Int64)), .second, .unset] [(.ref tq), (.long (2 : Int64)), (.long (4 : Int64)), (.long (3 : Int64)), (.ref a)])
  refine go_alen X274 hx hZ e274 P4 (hb hby d9_24) rfl rfl (0 : Int32) (by decide) ?_
  show Go p e below s _ _ _ T274 (mkF m 25 #[.val (.ref a), .val (.long xq), .second, .val (.long (3 : Int64)), .second, .unset] [(.int (0 : Int32)), (.long (2 : Int64)), (.long (4 : Int64)), (.long (3 : Int64)), (.ref a)])
  refine go_st (fun _ kq => XT.i2l X274.here hx rfl (hb hby d9_25) rfl kq) ?_
  rw [show (0 : Int32).toInt64 = (0 : Int64) from by decide +kernel]
  show Go p e below s _ _ _ T274 (mkF m 26 #[.val (.ref a), .val (.long xq), .second, .val (.long (3 : Int64)), .second, .unset] [(.long (0 : Int64)), (.long (2 : Int64)), (.long (4 : Int64)), (.long (3 : Int64)), (.ref a)])
  refine go_st (fun _ kq => XT.lmul X274.here hx rfl (hb hby d9_26) rfl kq) ?_
  rw [show ((2 : Int64) * (0 : Int64)) = (0 : Int64) from by decide +kernel]
  show Go p e below s _ _ _ T274 (mkF m 27 #[.val (.ref a), .val (.long xq), .second, .val (.long (3 : Int64)), .second, .unset] [(.long (0 : Int64)), (.long (4 : Int64)), (.long (3 : Int64)), (.ref a)])
  refine go_callS X274 hx hZ hml hown (hw _ (List.mem_of_getElem? (i := 52) rfl)) (hw _ (List.mem_of_getElem? (i := 53) rfl)) (hw _ (List.mem_of_getElem? (i := 38) rfl)) (hw _ (List.mem_of_getElem? (i := 54) rfl)) e274 (argsL := [(.long (4 : Int64)), (.long (0 : Int64))]) (rest := [(.long (3 : Int64)), (.ref a)]) (W := 3) (met_10 l Z a0 hw (4 : Int64) (0 : Int64) h0 n0) (hb hby d9_27) rfl rfl rfl (lenOf pd4 rfl) (by show 2 * 0 + _ ≤ _; exact Nat.le_of_eq rfl) (by decide) (by decide) (by decide) (by decide) (by decide) ?_
  intro T275 v275 L275 X275 q275
  obtain ⟨rfl, M275, e275⟩ := q275
  have N275 := Fr.app N0 M275
  rw [show (fMaxJ (4 : Int64) (0 : Int64)) = (4 : Int64) from by decide +kernel]
  show Go p e below s _ _ _ T275 (mkF m 30 #[.val (.ref a), .val (.long xq), .second, .val (.long (3 : Int64)), .second, .unset] [(.long (4 : Int64)), (.long (3 : Int64)), (.ref a)])
  refine go_callS X275 hx hZ hml hown (hw _ (List.mem_of_getElem? (i := 55) rfl)) (hw _ (List.mem_of_getElem? (i := 56) rfl)) (hw _ (List.mem_of_getElem? (i := 38) rfl)) (hw _ (List.mem_of_getElem? (i := 57) rfl)) e275 (argsL := [(.long (3 : Int64)), (.long (4 : Int64))]) (rest := [(.ref a)]) (W := 1) (met_11 l Z a0 hw (3 : Int64) (4 : Int64) h0 n0) (hb hby d9_30) rfl rfl rfl (lenOf pd4 rfl) (by show 2 * 0 + _ ≤ _; exact Nat.le_of_eq rfl) (by decide) (by decide) (by decide) (by decide) (by decide) ?_
  intro T276 v276 L276 X276 q276
  obtain ⟨rfl, M276, e276⟩ := q276
  have N276 := Fr.app N275 M276
  rw [show (fMinJ (3 : Int64) (4 : Int64)) = (3 : Int64) from by decide +kernel]
  show Go p e below s _ _ _ T276 (mkF m 33 #[.val (.ref a), .val (.long xq), .second, .val (.long (3 : Int64)), .second, .unset] [(.long (3 : Int64)), (.ref a)])
  refine go_st (fun _ kq => XT.l2i X276.here hx rfl (hb hby d9_33) rfl kq) ?_
  rw [show (3 : Int64).toInt32 = (3 : Int32) from by decide +kernel]
  show Go p e below s _ _ _ T276 (mkF m 34 #[.val (.ref a), .val (.long xq), .second, .val (.long (3 : Int64)), .second, .unset] [(.int (3 : Int32)), (.ref a)])
  refine go_callP X276 hx hZ hml hown (hw _ (List.mem_of_getElem? (i := 58) rfl)) (hw _ (List.mem_of_getElem? (i := 60) rfl)) (hw _ (List.mem_of_getElem? (i := 1) rfl)) (hw _ (List.mem_of_getElem? (i := 59) rfl)) (hw _ (List.mem_of_getElem? (i := 61) rfl)) (hw _ (List.mem_of_getElem? (i := 2) rfl)) e276 P0 (argsL := [(.int (3 : Int32))]) (rest := []) (W := 0) (met_rsz l Z a0 hw a tq fq h0 n0 Z0 P0 P1 P2 P3 P4 P5 P6) (hb hby d9_34) rfl rfl rfl (lenOf pd5 rfl) (by show 2 * 0 + _ ≤ _; exact Nat.le_of_eq rfl) (by decide) (by decide) (by decide) (by decide) (by decide) ?_
  intro T277 v277 L277 X277 q277
  obtain ⟨uq_277, rfl, M277, K277, fz277_uq, f277_0, f277_1, f277_2, f277_3, f277_4⟩ := q277
  have N277 := Fr.app N276 M277
  have ne278 : a ≠ uq_277 := Nat.ne_of_lt (Nat.lt_of_lt_of_le lt_a fz277_uq)
  have ne279 : tq ≠ uq_277 := Nat.ne_of_lt (Nat.lt_of_lt_of_le lt_tq fz277_uq)
  have nw_uq_277 : n0 ≤ uq_277 := Nat.le_trans Z0 fz277_uq
  have lt_uq_277 : uq_277 < T277.heap.size := f277_4.lt
  show Go p e below s _ _ _ T277 (mkF m 37 #[.val (.ref a), .val (.long xq), .second, .val (.long (3 : Int64)), .second, .unset] [])
  refine go_st (fun _ kq => XS.aloadN X277.here hx rfl (hb hby d9_37) rfl rfl kq) ?_
  show Go p e below s _ _ _ T277 (mkF m 38 #[.val (.ref a), .val (.long xq), .second, .val (.long (3 : Int64)), .second, .unset] [(.ref a)])
  refine go_getF X277 hx hZ hown (host := "") (Or.inl (hw _ (List.mem_of_getElem? (i := 34) rfl))) Via.refl rfl f277_2 (hb hby d9_38) rfl rfl ?_
  intro T280 X280 e280
  show Go p e below s _ _ _ T280 (mkF m 41 #[.val (.ref a), .val (.long xq), .second, .val (.long (3 : Int64)), .second, .unset] [(.int (0 : Int32))])
  refine go_st (fun _ kq => XS.istore X280.here hx rfl (hb hby d9_41) rfl (l' := #[.val (.ref a), .val (.long xq), .second, .val (.long (3 : Int64)), .second, .val (.int (0 : Int32))]) rfl kq) ?_
  show Go p e below s _ _ _ T280 (mkF m 43 #[.val (.ref a), .val (.long xq), .second, .val (.long (3 : Int64)), .second, .val (.int (0 : Int32))] [])
  refine go_st (fun _ kq => XS.iload X280.here hx rfl (hb hby d9_43) rfl kq) ?_
  show Go p e below s _ _ _ T280 (mkF m 45 #[.val (.ref a), .val (.long xq), .second, .val (.long (3 : Int64)), .second, .val (.int (0 : Int32))] [(.int (0 : Int32))])
  refine go_st (fun _ kq => XS.ifYes X280.here hx rfl (pc0 := 45) (pc' := 86) rfl (hb hby d9_45) rfl (XT.i0_le_t (by decide)) (by decide) (by decide) kq) ?_
  show Go p e below s _ _ _ T280 (mkF m 86 #[.val (.ref a), .val (.long xq), .second, .val (.long (3 : Int64)), .second, .val (.int (0 : Int32))] [])
  refine go_st (fun _ kq => XS.aloadN X280.here hx rfl (hb hby d9_86) rfl rfl kq) ?_
  show Go p e below s _ _ _ T280 (mkF m 87 #[.val (.ref a), .val (.long xq), .second, .val (.long (3 : Int64)), .second, .val (.int (0 : Int32))] [(.ref a)])
  refine go_getF X280 hx hZ hown (host := "") (Or.inl (hw _ (List.mem_of_getElem? (i := 16) rfl))) Via.refl e280 f277_3 (hb hby d9_87) rfl rfl ?_
  intro T281 X281 e281
  show Go p e below s _ _ _ T281 (mkF m 90 #[.val (.ref a), .val (.long xq), .second, .val (.long (3 : Int64)), .second, .val (.int (0 : Int32))] [(.ref uq_277)])
  refine go_st (fun _ kq => XS.aloadN X281.here hx rfl (hb hby d9_90) rfl rfl kq) ?_
  show Go p e below s _ _ _ T281 (mkF m 91 #[.val (.ref a), .val (.long xq), .second, .val (.long (3 : Int64)), .second, .val (.int (0 : Int32))] [(.ref a), (.ref uq_277)])
  refine go_st (fun _ kq => XS.iload X281.here hx rfl (hb hby d9_91) rfl kq) ?_
  show Go p e below s _ _ _ T281 (mkF m 93 #[.val (.ref a), .val (.long xq), .second, .val (.long (3 : Int64)), .second, .val (.int (0 : Int32))] [(.int (0 : Int32)), (.ref a), (.ref uq_277)])
  have z283 : n0 ≤ T277.heap.size := Nat.le_trans Z0 K277.1
  refine go_callP X281 hx hZ hml hown (hw _ (List.mem_of_getElem? (i := 40) rfl)) (hw _ (List.mem_of_getElem? (i := 42) rfl)) (hw _ (List.mem_of_getElem? (i := 1) rfl)) (hw _ (List.mem_of_getElem? (i := 41) rfl)) (hw _ (List.mem_of_getElem? (i := 43) rfl)) (hw _ (List.mem_of_getElem? (i := 2) rfl)) e281 f277_0 (argsL := [(.int (0 : Int32))]) (rest := [(.ref uq_277)]) (W := 1) (met_8 l Z a0 hw a 0 0 uq_277 own_z T277.heap n0 z283 f277_1 f277_3 f277_4) (hb hby d9_93) rfl rfl rfl (lenOf pd0 rfl) (by show 2 * 0 + _ ≤ _; exact Nat.le_of_eq rfl) (by decide) (by decide) (by decide) (by decide) (by decide) ?_
  intro T282 v282 L282 X282 q282
  obtain ⟨rfl, M282, e282⟩ := q282
  have N282 := Fr.app N277 M282
  rw [own_slot (h := 0) (k := 0) (by omega) (by omega)]
  show Go p e below s _ _ _ T282 (mkF m 96 #[.val (.ref a), .val (.long xq), .second, .val (.long (3 : Int64)), .second, .val (.int (0 : Int32))] [(.int (0 : Int32)), (.ref uq_277)])
  refine go_st (fun _ kq => XT.lloadN X282.here hx rfl (hb hby d9_96) rfl kq) ?_
  show Go p e below s _ _ _ T282 (mkF m 97 #[.val (.ref a), .val (.long xq), .second, .val (.long (3 : Int64)), .second, .val (.int (0 : Int32))] [(.long xq), (.int (0 : Int32)), (.ref uq_277)])
  refine go_last X282 hx hZ e282 f277_4 (hb hby d9_97) rfl rfl (by decide) ?_
  intro T284 h284 X284 e284 W284 G284
  have N284 := Fr.snoc X284 N282 nw_uq_277
  have A284 : GA Z h284 uq_277 .long 3 (fun i => .long ((upd own_z 0 xq) i)) := (own_gl (by decide) G284)
  show Go p e below s _ _ _ T284 (mkF m 98 #[.val (.ref a), .val (.long xq), .second, .val (.long (3 : Int64)), .second, .val (.int (0 : Int32))] [])
  refine go_st (fun _ kq => XS.aloadN X284.here hx rfl (hb hby d9_98) rfl rfl kq) ?_
  show Go p e below s _ _ _ T284 (mkF m 99 #[.val (.ref a), .val (.long xq), .second, .val (.long (3 : Int64)), .second, .val (.int (0 : Int32))] [(.ref a)])
  refine go_st (fun _ kq => XS.dup X284.here hx rfl (hb hby d9_99) rfl rfl kq) ?_
  show Go p e below s _ _ _ T284 (mkF m 100 #[.val (.ref a), .val (.long xq), .second, .val (.long (3 : Int64)), .second, .val (.int (0 : Int32))] [(.ref a), (.ref a)])
  have c285 := Fld.other W284 f277_2 (Or.inl ne278)
  refine go_getF X284 hx hZ hown (host := "") (Or.inl (hw _ (List.mem_of_getElem? (i := 34) rfl))) Via.refl e284 c285 (hb hby d9_100) rfl rfl ?_
  intro T286 X286 e286
  show Go p e below s _ _ _ T286 (mkF m 103 #[.val (.ref a), .val (.long xq), .second, .val (.long (3 : Int64)), .second, .val (.int (0 : Int32))] [(.int (0 : Int32)), (.ref a)])
  refine go_st (fun _ kq => XT.iconstV X286.here hx rfl (1 : Int32) (hb hby d9_103) (by decide) kq) ?_
  show Go p e below s _ _ _ T286 (mkF m 104 #[.val (.ref a), .val (.long xq), .second, .val (.long (3 : Int64)), .second, .val (.int (0 : Int32))] [(.int (1 : Int32)), (.int (0 : Int32)), (.ref a)])
  refine go_st (fun _ kq => XS.iadd X286.here hx rfl (hb hby d9_104) rfl kq) ?_
  rw [show ((0 : Int32) + (1 : Int32)) = (1 : Int32) from by decide +kernel]
  show Go p e below s _ _ _ T286 (mkF m 105 #[.val (.ref a), .val (.long xq), .second, .val (.long (3 : Int64)), .second, .val (.int (0 : Int32))] [(.int (1 : Int32)), (.ref a)])
  have c287 := Exa.wr W284 f277_0
  refine go_putF X286 hx hZ hown (host := "") (Or.inl (hw _ (List.mem_of_getElem? (i := 34) rfl))) Via.refl e286 c285 c287 (Or.inl (hw _ (List.mem_of_getElem? (i := 35) rfl))) (hw _ (List.mem_of_getElem? (i := 1) rfl)) (ty := .int) (by decide) rfl rfl (hb hby d9_105) rfl rfl ?_
  intro T288 h288 X288 e288 W288
  have N288 := Fr.snoc X288 N284 P6
  have F288 : Fld Z h288 a "com/example/aforo/aforo/SlidingLog" "size" "I" (.int (1 : Int32)) := Fld.same W288 c285
  show Go p e below s _ _ _ T288 (mkF m 108 #[.val (.ref a), .val (.long xq), .second, .val (.long (3 : Int64)), .second, .val (.int (0 : Int32))] [])
  have c289 := Exa.wr W288 c287
  have c290 := Fld.other W284 f277_1 (Or.inl ne278)
  have c291 := Fld.other W288 c290 (Or.inr (slot_ne (a0 := a0) (t := .int) (t' := .int) (Or.inl (hw _ (List.mem_of_getElem? (i := 45) rfl))) (Or.inl (hw _ (List.mem_of_getElem? (i := 35) rfl))) (by decide) (by decide) (by decide)))
  have c292 := Fld.other W284 f277_3 (Or.inl ne278)
  have c293 := Fld.other W288 c292 (Or.inr (slot_ne (a0 := a0) (t := (.array .long)) (t' := .int) (Or.inl (hw _ (List.mem_of_getElem? (i := 17) rfl))) (Or.inl (hw _ (List.mem_of_getElem? (i := 35) rfl))) (by decide) (by decide) (by decide)))
  have c294 := A284.other W288 (Ne.symm ne278)
  exact go_ret0 X288 hx hlk hret (hb hby d9_108) (by decide) (by decide) (by rw [e288]; exact ⟨uq_277, (upd own_z 0 xq), rfl, N288, (Keep.wr (Keep.wr (Keep.trans (Keep.refl h0 [a]) K277 (allS (Or.inl (by simp)) all0)) W284 (Or.inr (Nat.le_trans (Nat.le_refl _) fz277_uq))) W288 (Or.inl (by simp))), (Nat.le_trans (Nat.le_refl _) fz277_uq), own_us, c289, c291, F288, c293, c294⟩)
theorem d13_0 : decode prog_17_method_5_code 0 = .ok (.aload_n 0, 1) := by decide +kernel
theorem d13_1 : decode prog_17_method_5_code 1 = .ok (.aload_n 0, 1) := by decide +kernel
theorem d13_2 : decode prog_17_method_5_code 2 = .ok (.getfield 20, 3) := by decide +kernel
theorem d13_5 : decode prog_17_method_5_code 5 = .ok (.iconst 1, 1) := by decide +kernel
theorem d13_6 : decode prog_17_method_5_code 6 = .ok (.isub, 1) := by decide +kernel
theorem d13_7 : decode prog_17_method_5_code 7 = .ok (.invokevirtual 38, 3) := by decide +kernel
theorem d13_10 : decode prog_17_method_5_code 10 = .ok (.lload_n 3, 1) := by decide +kernel
theorem d13_11 : decode prog_17_method_5_code 11 = .ok (.ladd, 1) := by decide +kernel
theorem d13_12 : decode prog_17_method_5_code 12 = .ok (.lload_n 1, 1) := by decide +kernel
theorem d13_13 : decode prog_17_method_5_code 13 = .ok (.lsub, 1) := by decide +kernel
theorem d13_14 : decode prog_17_method_5_code 14 = .ok (.lreturn, 1) := by decide +kernel
theorem pn9 : plainFor (⟨"com/example/aforo/aforo/SlidingLog", "untilFree", "(JJ)J"⟩ : MethodName) = true := by first | (refine plainFor_of_name ?_; simp [plainName, overriddenIn]; done) | (refine plainFor_of_name ?_; decide +kernel) | decide +kernel
def fUnt1 (fq : Nat → Int64) (hq : Nat) (xq : Int64) (wq : Int64) : Int64 := (((fq ((hq + 0) % 3)) + wq) - xq)
theorem ef_unt1 (m : MethodId) (a : Addr) (xq : Int64) (wq : Int64) (hq : Nat) (tq : Addr) (fq : Nat → Int64) : entryFrame m #[(.ref a), (.long xq), (.long wq)] 5 = mkF m 0 #[.val (.ref a), .val (.long xq), .second, .val (.long wq), .second] [] := by first | (simp [entryFrame, mkF, argsToLocals, Value.category]; done) | rfl
abbrev rm_unt1 : Room := ({ frames := 2, cells := 0, slots := 0, locals := 28 } : Room)
set_option maxRecDepth 65536 in
set_option maxHeartbeats 4000000 in
theorem met_unt1 (l : Launch) (Z : State) (a0 : Array Value) (hw : ∀ d ∈ tables_1, d.before a0 Z = true) (a : Addr) (xq : Int64) (wq : Int64) (hq : Nat) (tq : Addr) (fq : Nat → Int64) (h0 : Heap) (n0 : Nat) (Z0 : n0 ≤ h0.size) (P0 : Exa Z h0 a "com/example/aforo/aforo/SlidingLog") (P1 : Fld Z h0 a "com/example/aforo/aforo/SlidingLog" "head" "I" (.int (Int32.ofNat hq))) (P2 : Fld Z h0 a "com/example/aforo/aforo/SlidingLog" "times" "[J" (.ref tq)) (P3 : GA Z h0 tq .long 3 (fun i => .long (fq i))) (P4 : hq < 3) (P5 : Fld Z h0 a "com/example/aforo/aforo/SlidingLog" "size" "I" (.int (1 : Int32))) :
    Met l (⟨"com/example/aforo/aforo/SlidingLog", "untilFree", "(JJ)J"⟩ : MethodName) prog_17_method_5_code 5 (some FieldType.long) [] rm_unt1 Z #[(.ref a), (.long xq), (.long wq)] h0 (QV (some (.long (fUnt1 fq hq xq wq))) h0 n0) 0 0 := by
  refine own_body pn9 ?_
  intro p e s m below meth c s₁ ct X0 e0
  have ct0 := ct
  obtain ⟨hx, hZ, hown, hby, hml, hret, hlk, hnm⟩ := ct
  have N0 := Fr.nil n0
  refine castGo (ef_unt1 m a xq wq hq tq fq) ?_
  unfold fUnt1
  show Go p e below s _ _ _ s₁ (mkF m 0 #[.val (.ref a), .val (.long xq), .second, .val (.long wq), .second] [])
  refine go_st (fun _ kq => XS.aloadN X0.here hx rfl (hb hby d13_0) rfl rfl kq) ?_
  show Go p e below s _ _ _ s₁ (mkF m 1 #[.val (.ref a), .val (.long xq), .second, .val (.long wq), .second] [(.ref a)])
  refine go_st (fun _ kq => XS.aloadN X0.here hx rfl (hb hby d13_1) rfl rfl kq) ?_
  show Go p e below s _ _ _ s₁ (mkF m 2 #[.val (.ref a), .val (.long xq), .second, .val (.long wq), .second] [(.ref a), (.ref a)])
  refine go_getF X0 hx hZ hown (host := "") (Or.inl (hw _ (List.mem_of_getElem? (i := 34) rfl))) Via.refl e0 P5 (hb hby d13_2) rfl rfl ?_
  intro T295 X295 e295
  show Go p e below s _ _ _ T295 (mkF m 5 #[.val (.ref a), .val (.long xq), .second, .val (.long wq), .second] [(.int (1 : Int32)), (.ref a)])
  refine go_st (fun _ kq => XT.iconstV X295.here hx rfl (1 : Int32) (hb hby d13_5) (by decide) kq) ?_
  show Go p e below s _ _ _ T295 (mkF m 6 #[.val (.ref a), .val (.long xq), .second, .val (.long wq), .second] [(.int (1 : Int32)), (.int (1 : Int32)), (.ref a)])
  refine go_st (fun _ kq => XS.isub X295.here hx rfl (hb hby d13_6) rfl kq) ?_
  rw [show ((1 : Int32) - (1 : Int32)) = (0 : Int32) from by decide +kernel]
  show Go p e below s _ _ _ T295 (mkF m 7 #[.val (.ref a), .val (.long xq), .second, .val (.long wq), .second] [(.int (0 : Int32)), (.ref a)])
  refine go_callP X295 hx hZ hml hown (hw _ (List.mem_of_getElem? (i := 71) rfl)) (hw _ (List.mem_of_getElem? (i := 73) rfl)) (hw _ (List.mem_of_getElem? (i := 1) rfl)) (hw _ (List.mem_of_getElem? (i := 72) rfl)) (hw _ (List.mem_of_getElem? (i := 74) rfl)) (hw _ (List.mem_of_getElem? (i := 2) rfl)) e295 P0 (argsL := [(.int (0 : Int32))]) (rest := []) (W := 0) (met_14 l Z a0 hw a 0 hq tq fq h0 n0 Z0 P0 P1 P2 P3 P4 (by first | assumption | decide | omega)) (hb hby d13_7) rfl rfl rfl (lenOf pd1 rfl) (by show 2 * 0 + _ ≤ _; exact Nat.le_of_eq rfl) (by decide) (by decide) (by decide) (by decide) (by decide) ?_
  intro T296 v296 L296 X296 q296
  obtain ⟨rfl, M296, e296⟩ := q296
  have N296 := Fr.app N0 M296
  show Go p e below s _ _ _ T296 (mkF m 10 #[.val (.ref a), .val (.long xq), .second, .val (.long wq), .second] [(.long (fq ((hq + 0) % 3)))])
  refine go_st (fun _ kq => XT.lloadN X296.here hx rfl (hb hby d13_10) rfl kq) ?_
  show Go p e below s _ _ _ T296 (mkF m 11 #[.val (.ref a), .val (.long xq), .second, .val (.long wq), .second] [(.long wq), (.long (fq ((hq + 0) % 3)))])
  refine go_st (fun _ kq => XT.ladd X296.here hx rfl (hb hby d13_11) rfl kq) ?_
  show Go p e below s _ _ _ T296 (mkF m 12 #[.val (.ref a), .val (.long xq), .second, .val (.long wq), .second] [(.long ((fq ((hq + 0) % 3)) + wq))])
  refine go_st (fun _ kq => XT.lloadN X296.here hx rfl (hb hby d13_12) rfl kq) ?_
  show Go p e below s _ _ _ T296 (mkF m 13 #[.val (.ref a), .val (.long xq), .second, .val (.long wq), .second] [(.long xq), (.long ((fq ((hq + 0) % 3)) + wq))])
  refine go_st (fun _ kq => XT.lsub X296.here hx rfl (hb hby d13_13) rfl kq) ?_
  show Go p e below s _ _ _ T296 (mkF m 14 #[.val (.ref a), .val (.long xq), .second, .val (.long wq), .second] [(.long (((fq ((hq + 0) % 3)) + wq) - xq))])
  exact go_retL X296 hx hlk hret (hb hby d13_14) (by decide) (by decide) ⟨rfl, N296, e296⟩
def fUnt2 (fq : Nat → Int64) (hq : Nat) (xq : Int64) (wq : Int64) : Int64 := (((fq ((hq + 1) % 3)) + wq) - xq)
theorem ef_unt2 (m : MethodId) (a : Addr) (xq : Int64) (wq : Int64) (hq : Nat) (tq : Addr) (fq : Nat → Int64) : entryFrame m #[(.ref a), (.long xq), (.long wq)] 5 = mkF m 0 #[.val (.ref a), .val (.long xq), .second, .val (.long wq), .second] [] := by first | (simp [entryFrame, mkF, argsToLocals, Value.category]; done) | rfl
abbrev rm_unt2 : Room := ({ frames := 2, cells := 0, slots := 0, locals := 28 } : Room)
set_option maxRecDepth 65536 in
set_option maxHeartbeats 4000000 in
theorem met_unt2 (l : Launch) (Z : State) (a0 : Array Value) (hw : ∀ d ∈ tables_1, d.before a0 Z = true) (a : Addr) (xq : Int64) (wq : Int64) (hq : Nat) (tq : Addr) (fq : Nat → Int64) (h0 : Heap) (n0 : Nat) (Z0 : n0 ≤ h0.size) (P0 : Exa Z h0 a "com/example/aforo/aforo/SlidingLog") (P1 : Fld Z h0 a "com/example/aforo/aforo/SlidingLog" "head" "I" (.int (Int32.ofNat hq))) (P2 : Fld Z h0 a "com/example/aforo/aforo/SlidingLog" "times" "[J" (.ref tq)) (P3 : GA Z h0 tq .long 3 (fun i => .long (fq i))) (P4 : hq < 3) (P5 : Fld Z h0 a "com/example/aforo/aforo/SlidingLog" "size" "I" (.int (2 : Int32))) :
    Met l (⟨"com/example/aforo/aforo/SlidingLog", "untilFree", "(JJ)J"⟩ : MethodName) prog_17_method_5_code 5 (some FieldType.long) [] rm_unt2 Z #[(.ref a), (.long xq), (.long wq)] h0 (QV (some (.long (fUnt2 fq hq xq wq))) h0 n0) 0 0 := by
  refine own_body pn9 ?_
  intro p e s m below meth c s₁ ct X0 e0
  have ct0 := ct
  obtain ⟨hx, hZ, hown, hby, hml, hret, hlk, hnm⟩ := ct
  have N0 := Fr.nil n0
  refine castGo (ef_unt2 m a xq wq hq tq fq) ?_
  unfold fUnt2
  show Go p e below s _ _ _ s₁ (mkF m 0 #[.val (.ref a), .val (.long xq), .second, .val (.long wq), .second] [])
  refine go_st (fun _ kq => XS.aloadN X0.here hx rfl (hb hby d13_0) rfl rfl kq) ?_
  show Go p e below s _ _ _ s₁ (mkF m 1 #[.val (.ref a), .val (.long xq), .second, .val (.long wq), .second] [(.ref a)])
  refine go_st (fun _ kq => XS.aloadN X0.here hx rfl (hb hby d13_1) rfl rfl kq) ?_
  show Go p e below s _ _ _ s₁ (mkF m 2 #[.val (.ref a), .val (.long xq), .second, .val (.long wq), .second] [(.ref a), (.ref a)])
  refine go_getF X0 hx hZ hown (host := "") (Or.inl (hw _ (List.mem_of_getElem? (i := 34) rfl))) Via.refl e0 P5 (hb hby d13_2) rfl rfl ?_
  intro T297 X297 e297
  show Go p e below s _ _ _ T297 (mkF m 5 #[.val (.ref a), .val (.long xq), .second, .val (.long wq), .second] [(.int (2 : Int32)), (.ref a)])
  refine go_st (fun _ kq => XT.iconstV X297.here hx rfl (1 : Int32) (hb hby d13_5) (by decide) kq) ?_
  show Go p e below s _ _ _ T297 (mkF m 6 #[.val (.ref a), .val (.long xq), .second, .val (.long wq), .second] [(.int (1 : Int32)), (.int (2 : Int32)), (.ref a)])
  refine go_st (fun _ kq => XS.isub X297.here hx rfl (hb hby d13_6) rfl kq) ?_
  rw [show ((2 : Int32) - (1 : Int32)) = (1 : Int32) from by decide +kernel]
  show Go p e below s _ _ _ T297 (mkF m 7 #[.val (.ref a), .val (.long xq), .second, .val (.long wq), .second] [(.int (1 : Int32)), (.ref a)])
  refine go_callP X297 hx hZ hml hown (hw _ (List.mem_of_getElem? (i := 71) rfl)) (hw _ (List.mem_of_getElem? (i := 73) rfl)) (hw _ (List.mem_of_getElem? (i := 1) rfl)) (hw _ (List.mem_of_getElem? (i := 72) rfl)) (hw _ (List.mem_of_getElem? (i := 74) rfl)) (hw _ (List.mem_of_getElem? (i := 2) rfl)) e297 P0 (argsL := [(.int (1 : Int32))]) (rest := []) (W := 0) (met_14 l Z a0 hw a 1 hq tq fq h0 n0 Z0 P0 P1 P2 P3 P4 (by first | assumption | decide | omega)) (hb hby d13_7) rfl rfl rfl (lenOf pd1 rfl) (by show 2 * 0 + _ ≤ _; exact Nat.le_of_eq rfl) (by decide) (by decide) (by decide) (by decide) (by decide) ?_
  intro T298 v298 L298 X298 q298
  obtain ⟨rfl, M298, e298⟩ := q298
  have N298 := Fr.app N0 M298
  show Go p e below s _ _ _ T298 (mkF m 10 #[.val (.ref a), .val (.long xq), .second, .val (.long wq), .second] [(.long (fq ((hq + 1) % 3)))])
  refine go_st (fun _ kq => XT.lloadN X298.here hx rfl (hb hby d13_10) rfl kq) ?_
  show Go p e below s _ _ _ T298 (mkF m 11 #[.val (.ref a), .val (.long xq), .second, .val (.long wq), .second] [(.long wq), (.long (fq ((hq + 1) % 3)))])
  refine go_st (fun _ kq => XT.ladd X298.here hx rfl (hb hby d13_11) rfl kq) ?_
  show Go p e below s _ _ _ T298 (mkF m 12 #[.val (.ref a), .val (.long xq), .second, .val (.long wq), .second] [(.long ((fq ((hq + 1) % 3)) + wq))])
  refine go_st (fun _ kq => XT.lloadN X298.here hx rfl (hb hby d13_12) rfl kq) ?_
  show Go p e below s _ _ _ T298 (mkF m 13 #[.val (.ref a), .val (.long xq), .second, .val (.long wq), .second] [(.long xq), (.long ((fq ((hq + 1) % 3)) + wq))])
  refine go_st (fun _ kq => XT.lsub X298.here hx rfl (hb hby d13_13) rfl kq) ?_
  show Go p e below s _ _ _ T298 (mkF m 14 #[.val (.ref a), .val (.long xq), .second, .val (.long wq), .second] [(.long (((fq ((hq + 1) % 3)) + wq) - xq))])
  exact go_retL X298 hx hlk hret (hb hby d13_14) (by decide) (by decide) ⟨rfl, N298, e298⟩
def fUnt3 (fq : Nat → Int64) (hq : Nat) (xq : Int64) (wq : Int64) : Int64 := (((fq ((hq + 2) % 3)) + wq) - xq)
theorem ef_unt3 (m : MethodId) (a : Addr) (xq : Int64) (wq : Int64) (hq : Nat) (tq : Addr) (fq : Nat → Int64) : entryFrame m #[(.ref a), (.long xq), (.long wq)] 5 = mkF m 0 #[.val (.ref a), .val (.long xq), .second, .val (.long wq), .second] [] := by first | (simp [entryFrame, mkF, argsToLocals, Value.category]; done) | rfl
abbrev rm_unt3 : Room := ({ frames := 2, cells := 0, slots := 0, locals := 28 } : Room)
set_option maxRecDepth 65536 in
set_option maxHeartbeats 4000000 in
theorem met_unt3 (l : Launch) (Z : State) (a0 : Array Value) (hw : ∀ d ∈ tables_1, d.before a0 Z = true) (a : Addr) (xq : Int64) (wq : Int64) (hq : Nat) (tq : Addr) (fq : Nat → Int64) (h0 : Heap) (n0 : Nat) (Z0 : n0 ≤ h0.size) (P0 : Exa Z h0 a "com/example/aforo/aforo/SlidingLog") (P1 : Fld Z h0 a "com/example/aforo/aforo/SlidingLog" "head" "I" (.int (Int32.ofNat hq))) (P2 : Fld Z h0 a "com/example/aforo/aforo/SlidingLog" "times" "[J" (.ref tq)) (P3 : GA Z h0 tq .long 3 (fun i => .long (fq i))) (P4 : hq < 3) (P5 : Fld Z h0 a "com/example/aforo/aforo/SlidingLog" "size" "I" (.int (3 : Int32))) :
    Met l (⟨"com/example/aforo/aforo/SlidingLog", "untilFree", "(JJ)J"⟩ : MethodName) prog_17_method_5_code 5 (some FieldType.long) [] rm_unt3 Z #[(.ref a), (.long xq), (.long wq)] h0 (QV (some (.long (fUnt3 fq hq xq wq))) h0 n0) 0 0 := by
  refine own_body pn9 ?_
  intro p e s m below meth c s₁ ct X0 e0
  have ct0 := ct
  obtain ⟨hx, hZ, hown, hby, hml, hret, hlk, hnm⟩ := ct
  have N0 := Fr.nil n0
  refine castGo (ef_unt3 m a xq wq hq tq fq) ?_
  unfold fUnt3
  show Go p e below s _ _ _ s₁ (mkF m 0 #[.val (.ref a), .val (.long xq), .second, .val (.long wq), .second] [])
  refine go_st (fun _ kq => XS.aloadN X0.here hx rfl (hb hby d13_0) rfl rfl kq) ?_
  show Go p e below s _ _ _ s₁ (mkF m 1 #[.val (.ref a), .val (.long xq), .second, .val (.long wq), .second] [(.ref a)])
  refine go_st (fun _ kq => XS.aloadN X0.here hx rfl (hb hby d13_1) rfl rfl kq) ?_
  show Go p e below s _ _ _ s₁ (mkF m 2 #[.val (.ref a), .val (.long xq), .second, .val (.long wq), .second] [(.ref a), (.ref a)])
  refine go_getF X0 hx hZ hown (host := "") (Or.inl (hw _ (List.mem_of_getElem? (i := 34) rfl))) Via.refl e0 P5 (hb hby d13_2) rfl rfl ?_
  intro T299 X299 e299
  show Go p e below s _ _ _ T299 (mkF m 5 #[.val (.ref a), .val (.long xq), .second, .val (.long wq), .second] [(.int (3 : Int32)), (.ref a)])
  refine go_st (fun _ kq => XT.iconstV X299.here hx rfl (1 : Int32) (hb hby d13_5) (by decide) kq) ?_
  show Go p e below s _ _ _ T299 (mkF m 6 #[.val (.ref a), .val (.long xq), .second, .val (.long wq), .second] [(.int (1 : Int32)), (.int (3 : Int32)), (.ref a)])
  refine go_st (fun _ kq => XS.isub X299.here hx rfl (hb hby d13_6) rfl kq) ?_
  rw [show ((3 : Int32) - (1 : Int32)) = (2 : Int32) from by decide +kernel]
  show Go p e below s _ _ _ T299 (mkF m 7 #[.val (.ref a), .val (.long xq), .second, .val (.long wq), .second] [(.int (2 : Int32)), (.ref a)])
  refine go_callP X299 hx hZ hml hown (hw _ (List.mem_of_getElem? (i := 71) rfl)) (hw _ (List.mem_of_getElem? (i := 73) rfl)) (hw _ (List.mem_of_getElem? (i := 1) rfl)) (hw _ (List.mem_of_getElem? (i := 72) rfl)) (hw _ (List.mem_of_getElem? (i := 74) rfl)) (hw _ (List.mem_of_getElem? (i := 2) rfl)) e299 P0 (argsL := [(.int (2 : Int32))]) (rest := []) (W := 0) (met_14 l Z a0 hw a 2 hq tq fq h0 n0 Z0 P0 P1 P2 P3 P4 (by first | assumption | decide | omega)) (hb hby d13_7) rfl rfl rfl (lenOf pd1 rfl) (by show 2 * 0 + _ ≤ _; exact Nat.le_of_eq rfl) (by decide) (by decide) (by decide) (by decide) (by decide) ?_
  intro T300 v300 L300 X300 q300
  obtain ⟨rfl, M300, e300⟩ := q300
  have N300 := Fr.app N0 M300
  show Go p e below s _ _ _ T300 (mkF m 10 #[.val (.ref a), .val (.long xq), .second, .val (.long wq), .second] [(.long (fq ((hq + 2) % 3)))])
  refine go_st (fun _ kq => XT.lloadN X300.here hx rfl (hb hby d13_10) rfl kq) ?_
  show Go p e below s _ _ _ T300 (mkF m 11 #[.val (.ref a), .val (.long xq), .second, .val (.long wq), .second] [(.long wq), (.long (fq ((hq + 2) % 3)))])
  refine go_st (fun _ kq => XT.ladd X300.here hx rfl (hb hby d13_11) rfl kq) ?_
  show Go p e below s _ _ _ T300 (mkF m 12 #[.val (.ref a), .val (.long xq), .second, .val (.long wq), .second] [(.long ((fq ((hq + 2) % 3)) + wq))])
  refine go_st (fun _ kq => XT.lloadN X300.here hx rfl (hb hby d13_12) rfl kq) ?_
  show Go p e below s _ _ _ T300 (mkF m 13 #[.val (.ref a), .val (.long xq), .second, .val (.long wq), .second] [(.long xq), (.long ((fq ((hq + 2) % 3)) + wq))])
  refine go_st (fun _ kq => XT.lsub X300.here hx rfl (hb hby d13_13) rfl kq) ?_
  show Go p e below s _ _ _ T300 (mkF m 14 #[.val (.ref a), .val (.long xq), .second, .val (.long wq), .second] [(.long (((fq ((hq + 2) % 3)) + wq) - xq))])
  exact go_retL X300 hx hlk hret (hb hby d13_14) (by decide) (by decide) ⟨rfl, N300, e300⟩
theorem d16_0 : decode prog_4_method_1_code 0 = .ok (.aload_n 0, 1) := by decide +kernel
theorem d16_1 : decode prog_4_method_1_code 1 = .ok (.invokespecial 1, 3) := by decide +kernel
theorem d16_4 : decode prog_4_method_1_code 4 = .ok (.aload_n 0, 1) := by decide +kernel
theorem d16_5 : decode prog_4_method_1_code 5 = .ok (.lload_n 1, 1) := by decide +kernel
theorem d16_6 : decode prog_4_method_1_code 6 = .ok (.putfield 7, 3) := by decide +kernel
theorem d16_9 : decode prog_4_method_1_code 9 = .ok (.aload_n 0, 1) := by decide +kernel
theorem d16_10 : decode prog_4_method_1_code 10 = .ok (.lload_n 3, 1) := by decide +kernel
theorem d16_11 : decode prog_4_method_1_code 11 = .ok (.putfield 13, 3) := by decide +kernel
theorem d16_14 : decode prog_4_method_1_code 14 = .ok (.aload_n 0, 1) := by decide +kernel
theorem d16_15 : decode prog_4_method_1_code 15 = .ok (.lload 5, 2) := by decide +kernel
theorem d16_17 : decode prog_4_method_1_code 17 = .ok (.putfield 16, 3) := by decide +kernel
theorem d16_20 : decode prog_4_method_1_code 20 = .ok (.aload_n 0, 1) := by decide +kernel
theorem d16_21 : decode prog_4_method_1_code 21 = .ok (.iload 7, 2) := by decide +kernel
theorem d16_23 : decode prog_4_method_1_code 23 = .ok (.putfield 19, 3) := by decide +kernel
theorem d16_26 : decode prog_4_method_1_code 26 = .ok (.return_, 1) := by decide +kernel
theorem pn10 : plainFor (⟨"com/example/aforo/aforo/Decision", "<init>", "(JJJZ)V"⟩ : MethodName) = true := by first | (refine plainFor_of_name ?_; simp [plainName, overriddenIn]; done) | (refine plainFor_of_name ?_; decide +kernel) | decide +kernel
def Q_dini (Z : State) (a : Addr) (rq : Int64) (zq : Int64) (h0 : Heap) (n0 : Nat) (v : Option Value) (h : Heap) (L : List Loc) : Prop := v = none ∧ Fr n0 L ∧ Keep h0 h [a] ∧ Exa Z h a "com/example/aforo/aforo/Decision"
theorem ef_dini (m : MethodId) (a : Addr) (rq : Int64) (zq : Int64) : entryFrame m #[(.ref a), (.long rq), (.long (0 : Int64)), (.long zq), (.int (0 : Int32))] 8 = mkF m 0 #[.val (.ref a), .val (.long rq), .second, .val (.long (0 : Int64)), .second, .val (.long zq), .second, .val (.int (0 : Int32))] [] := by first | (simp [entryFrame, mkF, argsToLocals, Value.category]; done) | rfl
abbrev rm_dini : Room := ({ frames := 1, cells := 0, slots := 0, locals := 12 } : Room)
set_option maxRecDepth 65536 in
set_option maxHeartbeats 4000000 in
theorem met_dini (l : Launch) (Z : State) (a0 : Array Value) (hw : ∀ d ∈ tables_1, d.before a0 Z = true) (a : Addr) (rq : Int64) (zq : Int64) (h0 : Heap) (n0 : Nat) (Z0 : n0 ≤ h0.size) (P0 : Fld Z h0 a "com/example/aforo/aforo/Decision" "remaining" "J" (.long (0 : Int64))) (P1 : Fld Z h0 a "com/example/aforo/aforo/Decision" "retryAfterMillis" "J" (.long (0 : Int64))) (P2 : Fld Z h0 a "com/example/aforo/aforo/Decision" "resetAfterMillis" "J" (.long (0 : Int64))) (P3 : Fld Z h0 a "com/example/aforo/aforo/Decision" "degraded" "Z" (.int (0 : Int32))) (P4 : Exa Z h0 a "com/example/aforo/aforo/Decision") (P5 : n0 ≤ a) :
    Met l (⟨"com/example/aforo/aforo/Decision", "<init>", "(JJJZ)V"⟩ : MethodName) prog_4_method_1_code 8 none [] rm_dini Z #[(.ref a), (.long rq), (.long (0 : Int64)), (.long zq), (.int (0 : Int32))] h0 (Q_dini Z a rq zq h0 n0) rm_dini.cells rm_dini.slots := by
  refine own_body pn10 ?_
  intro p e s m below meth c s₁ ct X0 e0
  have ct0 := ct
  obtain ⟨hx, hZ, hown, hby, hml, hret, hlk, hnm⟩ := ct
  have lt_a : a < h0.size := P4.lt
  have N0 := Fr.nil n0
  refine castGo (ef_dini m a rq zq) ?_
  show Go p e below s _ _ _ s₁ (mkF m 0 #[.val (.ref a), .val (.long rq), .second, .val (.long (0 : Int64)), .second, .val (.long zq), .second, .val (.int (0 : Int32))] [])
  refine go_st (fun _ kq => XS.aloadN X0.here hx rfl (hb hby d16_0) rfl rfl kq) ?_
  show Go p e below s _ _ _ s₁ (mkF m 1 #[.val (.ref a), .val (.long rq), .second, .val (.long (0 : Int64)), .second, .val (.long zq), .second, .val (.int (0 : Int32))] [(.ref a)])
  refine go_initO X0 hx hZ hml hown (hw _ (List.mem_of_getElem? (i := 84) rfl)) (hw _ (List.mem_of_getElem? (i := 12) rfl)) (hw _ (List.mem_of_getElem? (i := 13) rfl)) e0 (hb hby d16_1) rfl rfl rfl (by decide) (W := 0) (by show 2 * 0 + _ ≤ _; exact Nat.le_of_eq rfl) (by decide) ?_
  intro T301 X301 e301
  show Go p e below s _ _ _ T301 (mkF m 4 #[.val (.ref a), .val (.long rq), .second, .val (.long (0 : Int64)), .second, .val (.long zq), .second, .val (.int (0 : Int32))] [])
  refine go_st (fun _ kq => XS.aloadN X301.here hx rfl (hb hby d16_4) rfl rfl kq) ?_
  show Go p e below s _ _ _ T301 (mkF m 5 #[.val (.ref a), .val (.long rq), .second, .val (.long (0 : Int64)), .second, .val (.long zq), .second, .val (.int (0 : Int32))] [(.ref a)])
  refine go_st (fun _ kq => XT.lloadN X301.here hx rfl (hb hby d16_5) rfl kq) ?_
  show Go p e below s _ _ _ T301 (mkF m 6 #[.val (.ref a), .val (.long rq), .second, .val (.long (0 : Int64)), .second, .val (.long zq), .second, .val (.int (0 : Int32))] [(.long rq), (.ref a)])
  refine go_putF X301 hx hZ hown (host := "") (Or.inl (hw _ (List.mem_of_getElem? (i := 85) rfl))) Via.refl e301 P0 P4 (Or.inr ⟨(hw _ (List.mem_of_getElem? (i := 86) rfl)), rfl, hnm⟩) (hw _ (List.mem_of_getElem? (i := 80) rfl)) (ty := .long) (by decide) rfl rfl (hb hby d16_6) rfl rfl ?_
  intro T302 h302 X302 e302 W302
  have N302 := Fr.snoc X302 N0 P5
  have F302 : Fld Z h302 a "com/example/aforo/aforo/Decision" "remaining" "J" (.long rq) := Fld.same W302 P0
  show Go p e below s _ _ _ T302 (mkF m 9 #[.val (.ref a), .val (.long rq), .second, .val (.long (0 : Int64)), .second, .val (.long zq), .second, .val (.int (0 : Int32))] [])
  refine go_st (fun _ kq => XS.aloadN X302.here hx rfl (hb hby d16_9) rfl rfl kq) ?_
  show Go p e below s _ _ _ T302 (mkF m 10 #[.val (.ref a), .val (.long rq), .second, .val (.long (0 : Int64)), .second, .val (.long zq), .second, .val (.int (0 : Int32))] [(.ref a)])
  refine go_st (fun _ kq => XT.lloadN X302.here hx rfl (hb hby d16_10) rfl kq) ?_
  show Go p e below s _ _ _ T302 (mkF m 11 #[.val (.ref a), .val (.long rq), .second, .val (.long (0 : Int64)), .second, .val (.long zq), .second, .val (.int (0 : Int32))] [(.long (0 : Int64)), (.ref a)])
  have c303 := Fld.other W302 P1 (Or.inr (slot_ne (a0 := a0) (t := .long) (t' := .long) (Or.inr (hw _ (List.mem_of_getElem? (i := 88) rfl))) (Or.inr (hw _ (List.mem_of_getElem? (i := 86) rfl))) (by decide) (by decide) (by decide)))
  have c304 := Exa.wr W302 P4
  refine go_putF X302 hx hZ hown (host := "") (Or.inl (hw _ (List.mem_of_getElem? (i := 87) rfl))) Via.refl e302 c303 c304 (Or.inr ⟨(hw _ (List.mem_of_getElem? (i := 88) rfl)), rfl, hnm⟩) (hw _ (List.mem_of_getElem? (i := 80) rfl)) (ty := .long) (by decide) rfl rfl (hb hby d16_11) rfl rfl ?_
  intro T305 h305 X305 e305 W305
  have N305 := Fr.snoc X305 N302 P5
  have F305 : Fld Z h305 a "com/example/aforo/aforo/Decision" "retryAfterMillis" "J" (.long (0 : Int64)) := Fld.same W305 c303
  show Go p e below s _ _ _ T305 (mkF m 14 #[.val (.ref a), .val (.long rq), .second, .val (.long (0 : Int64)), .second, .val (.long zq), .second, .val (.int (0 : Int32))] [])
  refine go_st (fun _ kq => XS.aloadN X305.here hx rfl (hb hby d16_14) rfl rfl kq) ?_
  show Go p e below s _ _ _ T305 (mkF m 15 #[.val (.ref a), .val (.long rq), .second, .val (.long (0 : Int64)), .second, .val (.long zq), .second, .val (.int (0 : Int32))] [(.ref a)])
  refine go_st (fun _ kq => XT.lload X305.here hx rfl (hb hby d16_15) rfl kq) ?_
  show Go p e below s _ _ _ T305 (mkF m 17 #[.val (.ref a), .val (.long rq), .second, .val (.long (0 : Int64)), .second, .val (.long zq), .second, .val (.int (0 : Int32))] [(.long zq), (.ref a)])
  have c306 := Fld.other W302 P2 (Or.inr (slot_ne (a0 := a0) (t := .long) (t' := .long) (Or.inr (hw _ (List.mem_of_getElem? (i := 90) rfl))) (Or.inr (hw _ (List.mem_of_getElem? (i := 86) rfl))) (by decide) (by decide) (by decide)))
  have c307 := Fld.other W305 c306 (Or.inr (slot_ne (a0 := a0) (t := .long) (t' := .long) (Or.inr (hw _ (List.mem_of_getElem? (i := 90) rfl))) (Or.inr (hw _ (List.mem_of_getElem? (i := 88) rfl))) (by decide) (by decide) (by decide)))
  have c308 := Exa.wr W305 c304
  refine go_putF X305 hx hZ hown (host := "") (Or.inl (hw _ (List.mem_of_getElem? (i := 89) rfl))) Via.refl e305 c307 c308 (Or.inr ⟨(hw _ (List.mem_of_getElem? (i := 90) rfl)), rfl, hnm⟩) (hw _ (List.mem_of_getElem? (i := 80) rfl)) (ty := .long) (by decide) rfl rfl (hb hby d16_17) rfl rfl ?_
  intro T309 h309 X309 e309 W309
  have N309 := Fr.snoc X309 N305 P5
  have F309 : Fld Z h309 a "com/example/aforo/aforo/Decision" "resetAfterMillis" "J" (.long zq) := Fld.same W309 c307
  show Go p e below s _ _ _ T309 (mkF m 20 #[.val (.ref a), .val (.long rq), .second, .val (.long (0 : Int64)), .second, .val (.long zq), .second, .val (.int (0 : Int32))] [])
  refine go_st (fun _ kq => XS.aloadN X309.here hx rfl (hb hby d16_20) rfl rfl kq) ?_
  show Go p e below s _ _ _ T309 (mkF m 21 #[.val (.ref a), .val (.long rq), .second, .val (.long (0 : Int64)), .second, .val (.long zq), .second, .val (.int (0 : Int32))] [(.ref a)])
  refine go_st (fun _ kq => XS.iload X309.here hx rfl (hb hby d16_21) rfl kq) ?_
  show Go p e below s _ _ _ T309 (mkF m 23 #[.val (.ref a), .val (.long rq), .second, .val (.long (0 : Int64)), .second, .val (.long zq), .second, .val (.int (0 : Int32))] [(.int (0 : Int32)), (.ref a)])
  have c310 := Fld.other W302 P3 (Or.inr (slot_ne (a0 := a0) (t := .boolean) (t' := .long) (Or.inr (hw _ (List.mem_of_getElem? (i := 92) rfl))) (Or.inr (hw _ (List.mem_of_getElem? (i := 86) rfl))) (by decide) (by decide) (by decide)))
  have c311 := Fld.other W305 c310 (Or.inr (slot_ne (a0 := a0) (t := .boolean) (t' := .long) (Or.inr (hw _ (List.mem_of_getElem? (i := 92) rfl))) (Or.inr (hw _ (List.mem_of_getElem? (i := 88) rfl))) (by decide) (by decide) (by decide)))
  have c312 := Fld.other W309 c311 (Or.inr (slot_ne (a0 := a0) (t := .boolean) (t' := .long) (Or.inr (hw _ (List.mem_of_getElem? (i := 92) rfl))) (Or.inr (hw _ (List.mem_of_getElem? (i := 90) rfl))) (by decide) (by decide) (by decide)))
  have c313 := Exa.wr W309 c308
  refine go_putF X309 hx hZ hown (host := "") (Or.inl (hw _ (List.mem_of_getElem? (i := 91) rfl))) Via.refl e309 c312 c313 (Or.inr ⟨(hw _ (List.mem_of_getElem? (i := 92) rfl)), rfl, hnm⟩) (hw _ (List.mem_of_getElem? (i := 80) rfl)) (ty := .boolean) (by decide) (by decide) (by decide) (hb hby d16_23) rfl rfl ?_
  intro T314 h314 X314 e314 W314
  have N314 := Fr.snoc X314 N309 P5
  have F314 : Fld Z h314 a "com/example/aforo/aforo/Decision" "degraded" "Z" (.int (0 : Int32)) := Fld.same W314 c312
  show Go p e below s _ _ _ T314 (mkF m 26 #[.val (.ref a), .val (.long rq), .second, .val (.long (0 : Int64)), .second, .val (.long zq), .second, .val (.int (0 : Int32))] [])
  have c315 := Exa.wr W314 c313
  exact go_ret0 X314 hx hlk hret (hb hby d16_26) (by decide) (by decide) (by rw [e314]; exact ⟨rfl, N314, (Keep.wr (Keep.wr (Keep.wr (Keep.wr (Keep.refl h0 [a]) W302 (Or.inl (by simp))) W305 (Or.inl (by simp))) W309 (Or.inl (by simp))) W314 (Or.inl (by simp))), c315⟩)
theorem d15_0 : decode prog_4_method_2_code 0 = .ok (.lload_n 0, 1) := by decide +kernel
theorem d15_1 : decode prog_4_method_2_code 1 = .ok (.lconst 0, 1) := by decide +kernel
theorem d15_2 : decode prog_4_method_2_code 2 = .ok (.lcmp, 1) := by decide +kernel
theorem d15_3 : decode prog_4_method_2_code 3 = .ok (.ifCond .ge 17, 3) := by decide +kernel
theorem d15_6 : decode prog_4_method_2_code 6 = .ok (.new 23, 3) := by decide +kernel
theorem d15_9 : decode prog_4_method_2_code 9 = .ok (.dup, 1) := by decide +kernel
theorem d15_10 : decode prog_4_method_2_code 10 = .ok (.lload_n 0, 1) := by decide +kernel
theorem d15_11 : decode prog_4_method_2_code 11 = .ok (.invokedynamic 25, 5) := by decide +kernel
theorem d15_16 : decode prog_4_method_2_code 16 = .ok (.invokespecial 29, 3) := by decide +kernel
theorem d15_19 : decode prog_4_method_2_code 19 = .ok (.athrow, 1) := by decide +kernel
theorem d15_20 : decode prog_4_method_2_code 20 = .ok (.lload_n 2, 1) := by decide +kernel
theorem d15_21 : decode prog_4_method_2_code 21 = .ok (.lconst 1, 1) := by decide +kernel
theorem d15_22 : decode prog_4_method_2_code 22 = .ok (.lcmp, 1) := by decide +kernel
theorem d15_23 : decode prog_4_method_2_code 23 = .ok (.ifCond .ge 17, 3) := by decide +kernel
theorem d15_26 : decode prog_4_method_2_code 26 = .ok (.new 23, 3) := by decide +kernel
theorem d15_29 : decode prog_4_method_2_code 29 = .ok (.dup, 1) := by decide +kernel
theorem d15_30 : decode prog_4_method_2_code 30 = .ok (.lload_n 2, 1) := by decide +kernel
theorem d15_31 : decode prog_4_method_2_code 31 = .ok (.invokedynamic 32, 5) := by decide +kernel
theorem d15_36 : decode prog_4_method_2_code 36 = .ok (.invokespecial 29, 3) := by decide +kernel
theorem d15_39 : decode prog_4_method_2_code 39 = .ok (.athrow, 1) := by decide +kernel
theorem d15_40 : decode prog_4_method_2_code 40 = .ok (.new 8, 3) := by decide +kernel
theorem d15_43 : decode prog_4_method_2_code 43 = .ok (.dup, 1) := by decide +kernel
theorem d15_44 : decode prog_4_method_2_code 44 = .ok (.lload_n 0, 1) := by decide +kernel
theorem d15_45 : decode prog_4_method_2_code 45 = .ok (.lconst 0, 1) := by decide +kernel
theorem d15_46 : decode prog_4_method_2_code 46 = .ok (.lload_n 2, 1) := by decide +kernel
theorem d15_47 : decode prog_4_method_2_code 47 = .ok (.iconst 0, 1) := by decide +kernel
theorem d15_48 : decode prog_4_method_2_code 48 = .ok (.invokespecial 33, 3) := by decide +kernel
theorem d15_51 : decode prog_4_method_2_code 51 = .ok (.areturn, 1) := by decide +kernel
theorem pn11 : plainFor (⟨"com/example/aforo/aforo/Decision", "admit", "(JJ)Lcom/example/aforo/aforo/Decision;"⟩ : MethodName) = true := by first | (refine plainFor_of_name ?_; simp [plainName, overriddenIn]; done) | (refine plainFor_of_name ?_; decide +kernel) | decide +kernel
def Q_adm (Z : State) (rq : Int64) (zq : Int64) (h0 : Heap) (n0 : Nat) (v : Option Value) (h : Heap) (L : List Loc) : Prop := ∃ dq : Addr, v = some (.ref dq) ∧ Fr n0 L ∧ Keep h0 h [] ∧ h0.size ≤ dq ∧ Exa Z h dq "com/example/aforo/aforo/Decision"
theorem pd6 : parseMethodDescriptor "(JJJZ)V" = some ⟨[.long, .long, .long, .boolean], none⟩ := by decide +kernel
theorem ef_adm (m : MethodId) (rq : Int64) (zq : Int64) : entryFrame m #[(.long rq), (.long zq)] 4 = mkF m 0 #[.val (.long rq), .second, .val (.long zq), .second] [] := by first | (simp [entryFrame, mkF, argsToLocals, Value.category]; done) | rfl
abbrev rm_adm : Room := ({ frames := 2, cells := 1, slots := 4, locals := 32 } : Room)
set_option maxRecDepth 65536 in
set_option maxHeartbeats 4000000 in
theorem met_adm (l : Launch) (Z : State) (a0 : Array Value) (hw : ∀ d ∈ tables_1, d.before a0 Z = true) (rq : Int64) (zq : Int64) (h0 : Heap) (n0 : Nat) (Z0 : n0 ≤ h0.size) (P0 : ¬ (rq < (0 : Int64))) (P1 : ¬ (zq < (1 : Int64))) :
    Met l (⟨"com/example/aforo/aforo/Decision", "admit", "(JJ)Lcom/example/aforo/aforo/Decision;"⟩ : MethodName) prog_4_method_2_code 4 (some (FieldType.object "com/example/aforo/aforo/Decision")) [] rm_adm Z #[(.long rq), (.long zq)] h0 (Q_adm Z rq zq h0 n0) rm_adm.cells rm_adm.slots := by
  refine own_body pn11 ?_
  intro p e s m below meth c s₁ ct X0 e0
  have ct0 := ct
  obtain ⟨hx, hZ, hown, hby, hml, hret, hlk, hnm⟩ := ct
  have N0 := Fr.nil n0
  refine castGo (ef_adm m rq zq) ?_
  show Go p e below s _ _ _ s₁ (mkF m 0 #[.val (.long rq), .second, .val (.long zq), .second] [])
  refine go_st (fun _ kq => XT.lloadN X0.here hx rfl (hb hby d15_0) rfl kq) ?_
  show Go p e below s _ _ _ s₁ (mkF m 1 #[.val (.long rq), .second, .val (.long zq), .second] [(.long rq)])
  refine go_st (fun _ kq => XT.lconstV X0.here hx rfl (0 : Int64) (hb hby d15_1) (by decide) kq) ?_
  show Go p e below s _ _ _ s₁ (mkF m 2 #[.val (.long rq), .second, .val (.long zq), .second] [(.long (0 : Int64)), (.long rq)])
  refine go_st (fun _ kq => XT.lcmp X0.here hx rfl (hb hby d15_2) rfl kq) ?_
  show Go p e below s _ _ _ s₁ (mkF m 3 #[.val (.long rq), .second, .val (.long zq), .second] [(.int (XT.cmpL rq (0 : Int64)))])
  refine go_st (fun _ kq => XS.ifYes X0.here hx rfl (pc0 := 3) (pc' := 20) rfl (hb hby d15_3) rfl (XT.ll_ge_t P0) (by decide) (by decide) kq) ?_
  show Go p e below s _ _ _ s₁ (mkF m 20 #[.val (.long rq), .second, .val (.long zq), .second] [])
  refine go_st (fun _ kq => XT.lloadN X0.here hx rfl (hb hby d15_20) rfl kq) ?_
  show Go p e below s _ _ _ s₁ (mkF m 21 #[.val (.long rq), .second, .val (.long zq), .second] [(.long zq)])
  refine go_st (fun _ kq => XT.lconstV X0.here hx rfl (1 : Int64) (hb hby d15_21) (by decide) kq) ?_
  show Go p e below s _ _ _ s₁ (mkF m 22 #[.val (.long rq), .second, .val (.long zq), .second] [(.long (1 : Int64)), (.long zq)])
  refine go_st (fun _ kq => XT.lcmp X0.here hx rfl (hb hby d15_22) rfl kq) ?_
  show Go p e below s _ _ _ s₁ (mkF m 23 #[.val (.long rq), .second, .val (.long zq), .second] [(.int (XT.cmpL zq (1 : Int64)))])
  refine go_st (fun _ kq => XS.ifYes X0.here hx rfl (pc0 := 23) (pc' := 40) rfl (hb hby d15_23) rfl (XT.ll_ge_t P1) (by decide) (by decide) kq) ?_
  show Go p e below s _ _ _ s₁ (mkF m 40 #[.val (.long rq), .second, .val (.long zq), .second] [])
  refine go_newO X0 hx hZ hown (hw _ (List.mem_of_getElem? (i := 79) rfl)) (hw _ (List.mem_of_getElem? (i := 80) rfl)) (hw _ (List.mem_of_getElem? (i := 77) rfl)) e0 (hb hby d15_40) rfl (by decide) (by decide) ?_
  intro T316 h316 a316 g316 X316 e316 E316 A316 D316
  have nw_a316 : n0 ≤ a316 := Nat.le_trans Z0 (Nat.le_of_eq g316.symm)
  have lt_a316 : a316 < h316.size := A316.lt
  have F317 : Fld Z h316 a316 "com/example/aforo/aforo/Decision" "remaining" "J" (.long (0 : Int64)) := D316 (Or.inr (hw _ (List.mem_of_getElem? (i := 86) rfl))) (ty := .long) (by decide)
  have F318 : Fld Z h316 a316 "com/example/aforo/aforo/Decision" "retryAfterMillis" "J" (.long (0 : Int64)) := D316 (Or.inr (hw _ (List.mem_of_getElem? (i := 88) rfl))) (ty := .long) (by decide)
  have F319 : Fld Z h316 a316 "com/example/aforo/aforo/Decision" "resetAfterMillis" "J" (.long (0 : Int64)) := D316 (Or.inr (hw _ (List.mem_of_getElem? (i := 90) rfl))) (ty := .long) (by decide)
  have F320 : Fld Z h316 a316 "com/example/aforo/aforo/Decision" "degraded" "Z" (.int (0 : Int32)) := D316 (Or.inr (hw _ (List.mem_of_getElem? (i := 92) rfl))) (ty := .boolean) (by decide)
  show Go p e below s _ _ _ T316 (mkF m 43 #[.val (.long rq), .second, .val (.long zq), .second] [(.ref a316)])
  refine go_st (fun _ kq => XS.dup X316.here hx rfl (hb hby d15_43) rfl rfl kq) ?_
  show Go p e below s _ _ _ T316 (mkF m 44 #[.val (.long rq), .second, .val (.long zq), .second] [(.ref a316), (.ref a316)])
  refine go_st (fun _ kq => XT.lloadN X316.here hx rfl (hb hby d15_44) rfl kq) ?_
  show Go p e below s _ _ _ T316 (mkF m 45 #[.val (.long rq), .second, .val (.long zq), .second] [(.long rq), (.ref a316), (.ref a316)])
  refine go_st (fun _ kq => XT.lconstV X316.here hx rfl (0 : Int64) (hb hby d15_45) (by decide) kq) ?_
  show Go p e below s _ _ _ T316 (mkF m 46 #[.val (.long rq), .second, .val (.long zq), .second] [(.long (0 : Int64)), (.long rq), (.ref a316), (.ref a316)])
  refine go_st (fun _ kq => XT.lloadN X316.here hx rfl (hb hby d15_46) rfl kq) ?_
  show Go p e below s _ _ _ T316 (mkF m 47 #[.val (.long rq), .second, .val (.long zq), .second] [(.long zq), (.long (0 : Int64)), (.long rq), (.ref a316), (.ref a316)])
  refine go_st (fun _ kq => XT.iconstV X316.here hx rfl (0 : Int32) (hb hby d15_47) (by decide) kq) ?_
  show Go p e below s _ _ _ T316 (mkF m 48 #[.val (.long rq), .second, .val (.long zq), .second] [(.int (0 : Int32)), (.long zq), (.long (0 : Int64)), (.long rq), (.ref a316), (.ref a316)])
  have z322 : n0 ≤ h316.size := Nat.le_trans Z0 E316.1
  refine go_callI X316 hx hZ hml hown rfl (hw _ (List.mem_of_getElem? (i := 81) rfl)) (hw _ (List.mem_of_getElem? (i := 82) rfl)) (hw _ (List.mem_of_getElem? (i := 83) rfl)) (hw _ (List.mem_of_getElem? (i := 77) rfl)) e316 (argsL := [(.long rq), (.long (0 : Int64)), (.long zq), (.int (0 : Int32))]) (rest := [(.ref a316)]) (W := 1) (met_dini l Z a0 hw a316 rq zq h316 n0 z322 F317 F318 F319 F320 A316 nw_a316) (hb hby d15_48) rfl rfl rfl (lenOf pd6 rfl) (by show 2 * 0 + _ ≤ _; exact Nat.le_of_eq rfl) (by decide) (by decide) (by decide) (by decide) (by decide) ?_
  intro T321 v321 L321 X321 q321
  obtain ⟨rfl, M321, K321, f321_0⟩ := q321
  have N321 := Fr.app N0 M321
  show Go p e below s _ _ _ T321 (mkF m 51 #[.val (.long rq), .second, .val (.long zq), .second] [(.ref a316)])
  exact go_retA X321 hx hlk hret rfl rfl (hb hby d15_51) (by decide) (by decide) ⟨a316, rfl, N321, (Keep.trans (Keep.ext (Keep.refl h0 []) E316) K321 (allS (Or.inr (Nat.le_trans (Nat.le_refl _) (Nat.le_of_eq g316.symm))) all0)), (Nat.le_trans (Nat.le_refl _) (Nat.le_of_eq g316.symm)), f321_0⟩
theorem d4_0 : decode prog_17_method_2_code 0 = .ok (.aload_n 0, 1) := by decide +kernel
theorem d4_1 : decode prog_17_method_2_code 1 = .ok (.lload_n 1, 1) := by decide +kernel
theorem d4_2 : decode prog_17_method_2_code 2 = .ok (.lload 5, 2) := by decide +kernel
theorem d4_4 : decode prog_17_method_2_code 4 = .ok (.lsub, 1) := by decide +kernel
theorem d4_5 : decode prog_17_method_2_code 5 = .ok (.invokevirtual 16, 3) := by decide +kernel
theorem d4_8 : decode prog_17_method_2_code 8 = .ok (.aload_n 0, 1) := by decide +kernel
theorem d4_9 : decode prog_17_method_2_code 9 = .ok (.getfield 20, 3) := by decide +kernel
theorem d4_12 : decode prog_17_method_2_code 12 = .ok (.i2l, 1) := by decide +kernel
theorem d4_13 : decode prog_17_method_2_code 13 = .ok (.lload_n 3, 1) := by decide +kernel
theorem d4_14 : decode prog_17_method_2_code 14 = .ok (.lcmp, 1) := by decide +kernel
theorem d4_15 : decode prog_17_method_2_code 15 = .ok (.ifCond .ge 31, 3) := by decide +kernel
theorem d4_18 : decode prog_17_method_2_code 18 = .ok (.aload_n 0, 1) := by decide +kernel
theorem d4_19 : decode prog_17_method_2_code 19 = .ok (.lload_n 1, 1) := by decide +kernel
theorem d4_20 : decode prog_17_method_2_code 20 = .ok (.lload_n 3, 1) := by decide +kernel
theorem d4_21 : decode prog_17_method_2_code 21 = .ok (.invokevirtual 24, 3) := by decide +kernel
theorem d4_24 : decode prog_17_method_2_code 24 = .ok (.lload_n 3, 1) := by decide +kernel
theorem d4_25 : decode prog_17_method_2_code 25 = .ok (.aload_n 0, 1) := by decide +kernel
theorem d4_26 : decode prog_17_method_2_code 26 = .ok (.getfield 20, 3) := by decide +kernel
theorem d4_29 : decode prog_17_method_2_code 29 = .ok (.i2l, 1) := by decide +kernel
theorem d4_30 : decode prog_17_method_2_code 30 = .ok (.lsub, 1) := by decide +kernel
theorem d4_31 : decode prog_17_method_2_code 31 = .ok (.aload_n 0, 1) := by decide +kernel
theorem d4_32 : decode prog_17_method_2_code 32 = .ok (.lload_n 1, 1) := by decide +kernel
theorem d4_33 : decode prog_17_method_2_code 33 = .ok (.lload 5, 2) := by decide +kernel
theorem d4_35 : decode prog_17_method_2_code 35 = .ok (.invokevirtual 28, 3) := by decide +kernel
theorem d4_38 : decode prog_17_method_2_code 38 = .ok (.invokestatic 32, 3) := by decide +kernel
theorem d4_41 : decode prog_17_method_2_code 41 = .ok (.astore 7, 2) := by decide +kernel
theorem d4_43 : decode prog_17_method_2_code 43 = .ok (.goto 36, 3) := by decide +kernel
theorem d4_46 : decode prog_17_method_2_code 46 = .ok (.aload_n 0, 1) := by decide +kernel
theorem d4_47 : decode prog_17_method_2_code 47 = .ok (.aload_n 0, 1) := by decide +kernel
theorem d4_48 : decode prog_17_method_2_code 48 = .ok (.getfield 20, 3) := by decide +kernel
theorem d4_51 : decode prog_17_method_2_code 51 = .ok (.i2l, 1) := by decide +kernel
theorem d4_52 : decode prog_17_method_2_code 52 = .ok (.lload_n 3, 1) := by decide +kernel
theorem d4_53 : decode prog_17_method_2_code 53 = .ok (.lsub, 1) := by decide +kernel
theorem d4_54 : decode prog_17_method_2_code 54 = .ok (.l2i, 1) := by decide +kernel
theorem d4_55 : decode prog_17_method_2_code 55 = .ok (.invokevirtual 38, 3) := by decide +kernel
theorem d4_58 : decode prog_17_method_2_code 58 = .ok (.lload 5, 2) := by decide +kernel
theorem d4_60 : decode prog_17_method_2_code 60 = .ok (.ladd, 1) := by decide +kernel
theorem d4_61 : decode prog_17_method_2_code 61 = .ok (.lstore 8, 2) := by decide +kernel
theorem d4_63 : decode prog_17_method_2_code 63 = .ok (.lload 8, 2) := by decide +kernel
theorem d4_65 : decode prog_17_method_2_code 65 = .ok (.lload_n 1, 1) := by decide +kernel
theorem d4_66 : decode prog_17_method_2_code 66 = .ok (.lsub, 1) := by decide +kernel
theorem d4_67 : decode prog_17_method_2_code 67 = .ok (.aload_n 0, 1) := by decide +kernel
theorem d4_68 : decode prog_17_method_2_code 68 = .ok (.lload_n 1, 1) := by decide +kernel
theorem d4_69 : decode prog_17_method_2_code 69 = .ok (.lload 5, 2) := by decide +kernel
theorem d4_71 : decode prog_17_method_2_code 71 = .ok (.invokevirtual 28, 3) := by decide +kernel
theorem d4_74 : decode prog_17_method_2_code 74 = .ok (.invokestatic 42, 3) := by decide +kernel
theorem d4_77 : decode prog_17_method_2_code 77 = .ok (.astore 7, 2) := by decide +kernel
theorem d4_79 : decode prog_17_method_2_code 79 = .ok (.aload 7, 2) := by decide +kernel
theorem d4_81 : decode prog_17_method_2_code 81 = .ok (.areturn, 1) := by decide +kernel
theorem pn12 : plainFor (⟨"com/example/aforo/aforo/SlidingLog", "acquire", "(JJJ)Lcom/example/aforo/aforo/Decision;"⟩ : MethodName) = true := by first | (refine plainFor_of_name ?_; simp [plainName, overriddenIn]; done) | (refine plainFor_of_name ?_; decide +kernel) | decide +kernel
def Q_acq1 (Z : State) (a : Addr) (xq : Int64) (wq : Int64) (hq : Nat) (tq : Addr) (fq : Nat → Int64) (Nq : Int64) (h0 : Heap) (n0 : Nat) (v : Option Value) (h : Heap) (L : List Loc) : Prop := ∃ jq : Nat, ∃ gq : Nat → Int64, ∃ dq : Addr, v = some (.ref dq) ∧ Fr n0 L ∧ Keep h0 h [a, tq] ∧ h0.size ≤ dq ∧ (jq ≤ 1) ∧ (gq (((hq + jq) % 3 + (1 - jq)) % 3) = fMaxJ Nq xq) ∧ Exa Z h a "com/example/aforo/aforo/SlidingLog" ∧ Fld Z h a "com/example/aforo/aforo/SlidingLog" "head" "I" (.int (Int32.ofNat ((hq + jq) % 3))) ∧ Fld Z h a "com/example/aforo/aforo/SlidingLog" "size" "I" (.int (Int32.ofNat (1 - jq + 1))) ∧ Fld Z h a "com/example/aforo/aforo/SlidingLog" "times" "[J" (.ref tq) ∧ GA Z h tq .long 3 (fun i => .long (gq i))
theorem pd7 : parseMethodDescriptor "(J)V" = some ⟨[.long], none⟩ := by decide +kernel
theorem pd8 : parseMethodDescriptor "(JJ)V" = some ⟨[.long, .long], none⟩ := by decide +kernel
theorem pd9 : parseMethodDescriptor "(JJ)Lcom/example/aforo/aforo/Decision;" = some ⟨[.long, .long], (some (.object "com/example/aforo/aforo/Decision"))⟩ := by decide +kernel
theorem ef_acq1 (m : MethodId) (a : Addr) (xq : Int64) (wq : Int64) (hq : Nat) (tq : Addr) (fq : Nat → Int64) (Nq : Int64) : entryFrame m #[(.ref a), (.long xq), (.long (3 : Int64)), (.long wq)] 10 = mkF m 0 #[.val (.ref a), .val (.long xq), .second, .val (.long (3 : Int64)), .second, .val (.long wq), .second, .unset, .unset, .unset] [] := by first | (simp [entryFrame, mkF, argsToLocals, Value.category]; done) | rfl
abbrev rm_acq1 : Room := ({ frames := 4, cells := 1, slots := 4, locals := 62 } : Room)
set_option maxRecDepth 65536 in
set_option maxHeartbeats 4000000 in
theorem met_acq1 (l : Launch) (Z : State) (a0 : Array Value) (hw : ∀ d ∈ tables_1, d.before a0 Z = true) (a : Addr) (xq : Int64) (wq : Int64) (hq : Nat) (tq : Addr) (fq : Nat → Int64) (Nq : Int64) (h0 : Heap) (n0 : Nat) (Z0 : n0 ≤ h0.size) (P0 : Exa Z h0 a "com/example/aforo/aforo/SlidingLog") (P1 : Fld Z h0 a "com/example/aforo/aforo/SlidingLog" "head" "I" (.int (Int32.ofNat hq))) (P2 : Fld Z h0 a "com/example/aforo/aforo/SlidingLog" "times" "[J" (.ref tq)) (P3 : GA Z h0 tq .long 3 (fun i => .long (fq i))) (P4 : hq < 3) (P5 : Fld Z h0 a "com/example/aforo/aforo/SlidingLog" "size" "I" (.int (1 : Int32))) (P6 : a ≠ tq) (P7 : n0 ≤ a) (P8 : n0 ≤ tq) (P9 : fq ((hq + 0) % 3) = Nq) (P10 : R32 Nq) (P11 : R32 xq) (P12 : RW wq) :
    Met l (⟨"com/example/aforo/aforo/SlidingLog", "acquire", "(JJJ)Lcom/example/aforo/aforo/Decision;"⟩ : MethodName) prog_17_method_2_code 10 (some (FieldType.object "com/example/aforo/aforo/Decision")) [] rm_acq1 Z #[(.ref a), (.long xq), (.long (3 : Int64)), (.long wq)] h0 (Q_acq1 Z a xq wq hq tq fq Nq h0 n0) rm_acq1.cells rm_acq1.slots := by
  refine own_body pn12 ?_
  intro p e s m below meth c s₁ ct X0 e0
  have ct0 := ct
  obtain ⟨hx, hZ, hown, hby, hml, hret, hlk, hnm⟩ := ct
  have lt_a : a < h0.size := P0.lt
  have lt_tq : tq < h0.size := P3.lt
  have N0 := Fr.nil n0
  refine castGo (ef_acq1 m a xq wq hq tq fq Nq) ?_
  show Go p e below s _ _ _ s₁ (mkF m 0 #[.val (.ref a), .val (.long xq), .second, .val (.long (3 : Int64)), .second, .val (.long wq), .second, .unset, .unset, .unset] [])
  have PN := P9
  have P_N := P10
  have P_x := P11
  have P_w := P12
  refine go_st (fun _ kq => XS.aloadN X0.here hx rfl (hb hby d4_0) rfl rfl kq) ?_
  show Go p e below s _ _ _ s₁ (mkF m 1 #[.val (.ref a), .val (.long xq), .second, .val (.long (3 : Int64)), .second, .val (.long wq), .second, .unset, .unset, .unset] [(.ref a)])
  refine go_st (fun _ kq => XT.lloadN X0.here hx rfl (hb hby d4_1) rfl kq) ?_
  show Go p e below s _ _ _ s₁ (mkF m 2 #[.val (.ref a), .val (.long xq), .second, .val (.long (3 : Int64)), .second, .val (.long wq), .second, .unset, .unset, .unset] [(.long xq), (.ref a)])
  refine go_st (fun _ kq => XT.lload X0.here hx rfl (hb hby d4_2) rfl kq) ?_
  show Go p e below s _ _ _ s₁ (mkF m 4 #[.val (.ref a), .val (.long xq), .second, .val (.long (3 : Int64)), .second, .val (.long wq), .second, .unset, .unset, .unset] [(.long wq), (.long xq), (.ref a)])
  refine go_st (fun _ kq => XT.lsub X0.here hx rfl (hb hby d4_4) rfl kq) ?_
  show Go p e below s _ _ _ s₁ (mkF m 5 #[.val (.ref a), .val (.long xq), .second, .val (.long (3 : Int64)), .second, .val (.long wq), .second, .unset, .unset, .unset] [(.long (xq - wq)), (.ref a)])
  refine go_callP X0 hx hZ hml hown (hw _ (List.mem_of_getElem? (i := 26) rfl)) (hw _ (List.mem_of_getElem? (i := 28) rfl)) (hw _ (List.mem_of_getElem? (i := 1) rfl)) (hw _ (List.mem_of_getElem? (i := 27) rfl)) (hw _ (List.mem_of_getElem? (i := 29) rfl)) (hw _ (List.mem_of_getElem? (i := 2) rfl)) e0 P0 (argsL := [(.long (xq - wq))]) (rest := []) (W := 0) (met_fgt1 l Z a0 hw a (xq - wq) hq tq fq h0 n0 Z0 P0 P1 P2 P3 P4 P5 P6 P7) (hb hby d4_5) rfl rfl rfl (lenOf pd7 rfl) (by show 2 * 0 + _ ≤ _; exact Nat.le_of_eq rfl) (by decide) (by decide) (by decide) (by decide) (by decide) ?_
  intro T323 v323 L323 X323 q323
  obtain ⟨jq_323, rfl, M323, K323, p323_0, p323_1, f323_0, f323_1, f323_2, f323_3⟩ := q323
  have N323 := Fr.app N0 M323
  show Go p e below s _ _ _ T323 (mkF m 8 #[.val (.ref a), .val (.long xq), .second, .val (.long (3 : Int64)), .second, .val (.long wq), .second, .unset, .unset, .unset] [])
  rcases own_le1 p323_0 with hj324 | hj325
  · subst hj324
    have hd326 : Fld Z T323.heap a "com/example/aforo/aforo/SlidingLog" "head" "I" (.int (Int32.ofNat ((hq + 0) % 3))) := f323_1
    have sz326 : Fld Z T323.heap a "com/example/aforo/aforo/SlidingLog" "size" "I" (.int (1 : Int32)) := f323_2
    show Go p e below s _ _ _ T323 (mkF m 8 #[.val (.ref a), .val (.long xq), .second, .val (.long (3 : Int64)), .second, .val (.long wq), .second, .unset, .unset, .unset] [])
    refine go_st (fun _ kq => XS.aloadN X323.here hx rfl (hb hby d4_8) rfl rfl kq) ?_
    show Go p e below s _ _ _ T323 (mkF m 9 #[.val (.ref a), .val (.long xq), .second, .val (.long (3 : Int64)), .second, .val (.long wq), .second, .unset, .unset, .unset] [(.ref a)])
    refine go_getF X323 hx hZ hown (host := "") (Or.inl (hw _ (List.mem_of_getElem? (i := 34) rfl))) Via.refl rfl sz326 (hb hby d4_9) rfl rfl ?_
    intro T327 X327 e327
    show Go p e below s _ _ _ T327 (mkF m 12 #[.val (.ref a), .val (.long xq), .second, .val (.long (3 : Int64)), .second, .val (.long wq), .second, .unset, .unset, .unset] [(.int (1 : Int32))])
    refine go_st (fun _ kq => XT.i2l X327.here hx rfl (hb hby d4_12) rfl kq) ?_
    rw [show (1 : Int32).toInt64 = (1 : Int64) from by decide +kernel]
    show Go p e below s _ _ _ T327 (mkF m 13 #[.val (.ref a), .val (.long xq), .second, .val (.long (3 : Int64)), .second, .val (.long wq), .second, .unset, .unset, .unset] [(.long (1 : Int64))])
    refine go_st (fun _ kq => XT.lloadN X327.here hx rfl (hb hby d4_13) rfl kq) ?_
    show Go p e below s _ _ _ T327 (mkF m 14 #[.val (.ref a), .val (.long xq), .second, .val (.long (3 : Int64)), .second, .val (.long wq), .second, .unset, .unset, .unset] [(.long (3 : Int64)), (.long (1 : Int64))])
    refine go_st (fun _ kq => XT.lcmp X327.here hx rfl (hb hby d4_14) rfl kq) ?_
    show Go p e below s _ _ _ T327 (mkF m 15 #[.val (.ref a), .val (.long xq), .second, .val (.long (3 : Int64)), .second, .val (.long wq), .second, .unset, .unset, .unset] [(.int (XT.cmpL (1 : Int64) (3 : Int64)))])
    refine go_st (fun _ kq => XS.ifNo X327.here hx rfl (hb hby d4_15) rfl (XT.ll_ge_f (by decide)) kq) ?_
    show Go p e below s _ _ _ T327 (mkF m 18 #[.val (.ref a), .val (.long xq), .second, .val (.long (3 : Int64)), .second, .val (.long wq), .second, .unset, .unset, .unset] [])
    refine go_st (fun _ kq => XS.aloadN X327.here hx rfl (hb hby d4_18) rfl rfl kq) ?_
    show Go p e below s _ _ _ T327 (mkF m 19 #[.val (.ref a), .val (.long xq), .second, .val (.long (3 : Int64)), .second, .val (.long wq), .second, .unset, .unset, .unset] [(.ref a)])
    refine go_st (fun _ kq => XT.lloadN X327.here hx rfl (hb hby d4_19) rfl kq) ?_
    show Go p e below s _ _ _ T327 (mkF m 20 #[.val (.ref a), .val (.long xq), .second, .val (.long (3 : Int64)), .second, .val (.long wq), .second, .unset, .unset, .unset] [(.long xq), (.ref a)])
    refine go_st (fun _ kq => XT.lloadN X327.here hx rfl (hb hby d4_20) rfl kq) ?_
    show Go p e below s _ _ _ T327 (mkF m 21 #[.val (.ref a), .val (.long xq), .second, .val (.long (3 : Int64)), .second, .val (.long wq), .second, .unset, .unset, .unset] [(.long (3 : Int64)), (.long xq), (.ref a)])
    have c329 := GA.keep P3 K323 (ninS (Ne.symm P6) nin0)
    have z330 : n0 ≤ T323.heap.size := Nat.le_trans Z0 K323.1
    refine go_callP X327 hx hZ hml hown (hw _ (List.mem_of_getElem? (i := 46) rfl)) (hw _ (List.mem_of_getElem? (i := 48) rfl)) (hw _ (List.mem_of_getElem? (i := 1) rfl)) (hw _ (List.mem_of_getElem? (i := 47) rfl)) (hw _ (List.mem_of_getElem? (i := 49) rfl)) (hw _ (List.mem_of_getElem? (i := 2) rfl)) e327 f323_0 (argsL := [(.long xq), (.long (3 : Int64))]) (rest := []) (W := 0) (met_ins1 l Z a0 hw a xq ((hq + 0) % 3) tq fq T323.heap n0 z330 f323_0 hd326 f323_3 c329 (by first | assumption | decide | omega) sz326 P6 P7 P8) (hb hby d4_21) rfl rfl rfl (lenOf pd8 rfl) (by show 2 * 0 + _ ≤ _; exact Nat.le_of_eq rfl) (by decide) (by decide) (by decide) (by decide) (by decide) ?_
    intro T328 v328 L328 X328 q328
    obtain ⟨gq_328, rfl, M328, K328, p328_0, f328_0, f328_1, f328_2, f328_3, f328_4⟩ := q328
    have N328 := Fr.app N323 M328
    show Go p e below s _ _ _ T328 (mkF m 24 #[.val (.ref a), .val (.long xq), .second, .val (.long (3 : Int64)), .second, .val (.long wq), .second, .unset, .unset, .unset] [])
    have eN331 : gq_328 ((((hq + 0) % 3) + 1) % 3) = fMaxJ Nq xq := p328_0.trans (by rw [show (((hq + 0) % 3) + 0) % 3 = (hq + 0) % 3 from by omega, PN])
    refine go_st (fun _ kq => XT.lloadN X328.here hx rfl (hb hby d4_24) rfl kq) ?_
    show Go p e below s _ _ _ T328 (mkF m 25 #[.val (.ref a), .val (.long xq), .second, .val (.long (3 : Int64)), .second, .val (.long wq), .second, .unset, .unset, .unset] [(.long (3 : Int64))])
    refine go_st (fun _ kq => XS.aloadN X328.here hx rfl (hb hby d4_25) rfl rfl kq) ?_
    show Go p e below s _ _ _ T328 (mkF m 26 #[.val (.ref a), .val (.long xq), .second, .val (.long (3 : Int64)), .second, .val (.long wq), .second, .unset, .unset, .unset] [(.ref a), (.long (3 : Int64))])
    refine go_getF X328 hx hZ hown (host := "") (Or.inl (hw _ (List.mem_of_getElem? (i := 34) rfl))) Via.refl rfl f328_2 (hb hby d4_26) rfl rfl ?_
    intro T332 X332 e332
    show Go p e below s _ _ _ T332 (mkF m 29 #[.val (.ref a), .val (.long xq), .second, .val (.long (3 : Int64)), .second, .val (.long wq), .second, .unset, .unset, .unset] [(.int (2 : Int32)), (.long (3 : Int64))])
    refine go_st (fun _ kq => XT.i2l X332.here hx rfl (hb hby d4_29) rfl kq) ?_
    rw [show (2 : Int32).toInt64 = (2 : Int64) from by decide +kernel]
    show Go p e below s _ _ _ T332 (mkF m 30 #[.val (.ref a), .val (.long xq), .second, .val (.long (3 : Int64)), .second, .val (.long wq), .second, .unset, .unset, .unset] [(.long (2 : Int64)), (.long (3 : Int64))])
    refine go_st (fun _ kq => XT.lsub X332.here hx rfl (hb hby d4_30) rfl kq) ?_
    rw [show ((3 : Int64) - (2 : Int64)) = (1 : Int64) from by decide +kernel]
    show Go p e below s _ _ _ T332 (mkF m 31 #[.val (.ref a), .val (.long xq), .second, .val (.long (3 : Int64)), .second, .val (.long wq), .second, .unset, .unset, .unset] [(.long (1 : Int64))])
    refine go_st (fun _ kq => XS.aloadN X332.here hx rfl (hb hby d4_31) rfl rfl kq) ?_
    show Go p e below s _ _ _ T332 (mkF m 32 #[.val (.ref a), .val (.long xq), .second, .val (.long (3 : Int64)), .second, .val (.long wq), .second, .unset, .unset, .unset] [(.ref a), (.long (1 : Int64))])
    refine go_st (fun _ kq => XT.lloadN X332.here hx rfl (hb hby d4_32) rfl kq) ?_
    show Go p e below s _ _ _ T332 (mkF m 33 #[.val (.ref a), .val (.long xq), .second, .val (.long (3 : Int64)), .second, .val (.long wq), .second, .unset, .unset, .unset] [(.long xq), (.ref a), (.long (1 : Int64))])
    refine go_st (fun _ kq => XT.lload X332.here hx rfl (hb hby d4_33) rfl kq) ?_
    show Go p e below s _ _ _ T332 (mkF m 35 #[.val (.ref a), .val (.long xq), .second, .val (.long (3 : Int64)), .second, .val (.long wq), .second, .unset, .unset, .unset] [(.long wq), (.long xq), (.ref a), (.long (1 : Int64))])
    have z334 : n0 ≤ T328.heap.size := Nat.le_trans z330 K328.1
    refine go_callP X332 hx hZ hml hown (hw _ (List.mem_of_getElem? (i := 67) rfl)) (hw _ (List.mem_of_getElem? (i := 69) rfl)) (hw _ (List.mem_of_getElem? (i := 1) rfl)) (hw _ (List.mem_of_getElem? (i := 68) rfl)) (hw _ (List.mem_of_getElem? (i := 70) rfl)) (hw _ (List.mem_of_getElem? (i := 2) rfl)) e332 f328_0 (argsL := [(.long xq), (.long wq)]) (rest := [(.long (1 : Int64))]) (W := 2) (met_unt2 l Z a0 hw a xq wq ((hq + 0) % 3) tq gq_328 T328.heap n0 z334 f328_0 f328_1 f328_3 f328_4 (by first | assumption | decide | omega) f328_2) (hb hby d4_35) rfl rfl rfl (lenOf pd4 rfl) (by show 2 * 0 + _ ≤ _; exact Nat.le_of_eq rfl) (by decide) (by decide) (by decide) (by decide) (by decide) ?_
    intro T333 v333 L333 X333 q333
    obtain ⟨rfl, M333, e333⟩ := q333
    have N333 := Fr.app N328 M333
    show Go p e below s _ _ _ T333 (mkF m 38 #[.val (.ref a), .val (.long xq), .second, .val (.long (3 : Int64)), .second, .val (.long wq), .second, .unset, .unset, .unset] [(.long ((gq_328 ((((hq + 0) % 3) + 1) % 3)) + wq - xq)), (.long (1 : Int64))])
    refine go_callS X333 hx hZ hml hown (hw _ (List.mem_of_getElem? (i := 75) rfl)) (hw _ (List.mem_of_getElem? (i := 76) rfl)) (hw _ (List.mem_of_getElem? (i := 77) rfl)) (hw _ (List.mem_of_getElem? (i := 78) rfl)) e333 (argsL := [(.long (1 : Int64)), (.long ((gq_328 ((((hq + 0) % 3) + 1) % 3)) + wq - xq))]) (rest := []) (W := 0) (met_adm l Z a0 hw (1 : Int64) ((gq_328 ((((hq + 0) % 3) + 1) % 3)) + wq - xq) T328.heap n0 z334 (by first | assumption | decide | omega) (own_reset eN331 P_N P_x P_w)) (hb hby d4_38) rfl rfl rfl (lenOf pd9 rfl) (by show 2 * 0 + _ ≤ _; exact Nat.le_of_eq rfl) (by decide) (by decide) (by decide) (by decide) (by decide) ?_
    intro T335 v335 L335 X335 q335
    obtain ⟨dq_335, rfl, M335, K335, fz335_dq, f335_0⟩ := q335
    have N335 := Fr.app N333 M335
    have c336 : a < T323.heap.size := Nat.lt_of_lt_of_le lt_a K323.1
    have c337 : a < T328.heap.size := Nat.lt_of_lt_of_le c336 K328.1
    have ne338 : a ≠ dq_335 := Nat.ne_of_lt (Nat.lt_of_lt_of_le c337 fz335_dq)
    have c339 : tq < T323.heap.size := Nat.lt_of_lt_of_le lt_tq K323.1
    have c340 : tq < T328.heap.size := Nat.lt_of_lt_of_le c339 K328.1
    have ne341 : tq ≠ dq_335 := Nat.ne_of_lt (Nat.lt_of_lt_of_le c340 fz335_dq)
    have nw_dq_335 : n0 ≤ dq_335 := Nat.le_trans z334 fz335_dq
    have y342 : h0.size ≤ T323.heap.size := Nat.le_trans (Nat.le_refl _) K323.1
    have y343 : h0.size ≤ T328.heap.size := Nat.le_trans y342 K328.1
    have lt_dq_335 : dq_335 < T335.heap.size := f335_0.lt
    show Go p e below s _ _ _ T335 (mkF m 41 #[.val (.ref a), .val (.long xq), .second, .val (.long (3 : Int64)), .second, .val (.long wq), .second, .unset, .unset, .unset] [(.ref dq_335)])
    refine go_st (fun _ kq => XS.astore X335.here hx rfl (hb hby d4_41) rfl rfl (l' := #[.val (.ref a), .val (.long xq), .second, .val (.long (3 : Int64)), .second, .val (.long wq), .second, .val (.ref dq_335), .unset, .unset]) rfl kq) ?_
    show Go p e below s _ _ _ T335 (mkF m 43 #[.val (.ref a), .val (.long xq), .second, .val (.long (3 : Int64)), .second, .val (.long wq), .second, .val (.ref dq_335), .unset, .unset] [])
    refine go_st (fun _ kq => XS.goto X335.here hx rfl (pc0 := 43) (pc' := 79) rfl (hb hby d4_43) (by decide) (by decide) kq) ?_
    show Go p e below s _ _ _ T335 (mkF m 79 #[.val (.ref a), .val (.long xq), .second, .val (.long (3 : Int64)), .second, .val (.long wq), .second, .val (.ref dq_335), .unset, .unset] [])
    refine go_st (fun _ kq => XS.aload X335.here hx rfl (hb hby d4_79) rfl rfl kq) ?_
    show Go p e below s _ _ _ T335 (mkF m 81 #[.val (.ref a), .val (.long xq), .second, .val (.long (3 : Int64)), .second, .val (.long wq), .second, .val (.ref dq_335), .unset, .unset] [(.ref dq_335)])
    have c344 := Exa.keep f328_0 K335
    have c345 := Fld.keep f328_1 K335 nin0
    have c346 := Fld.keep f328_2 K335 nin0
    have c347 := Fld.keep f328_3 K335 nin0
    have c348 := GA.keep f328_4 K335 nin0
    exact go_retA X335 hx hlk hret rfl rfl (hb hby d4_81) (by decide) (by decide) ⟨0, gq_328, dq_335, rfl, N335, (Keep.trans (Keep.trans (Keep.trans (Keep.refl h0 [a, tq]) K323 (allS (Or.inl (by simp)) all0)) K328 (allS (Or.inl (by simp)) (allS (Or.inl (by simp)) all0))) K335 all0), (Nat.le_trans y343 fz335_dq), (by decide), eN331, c344, c345, c346, c347, c348⟩
  · subst hj325
    have hd349 : Fld Z T323.heap a "com/example/aforo/aforo/SlidingLog" "head" "I" (.int (Int32.ofNat ((hq + 1) % 3))) := f323_1
    have sz349 : Fld Z T323.heap a "com/example/aforo/aforo/SlidingLog" "size" "I" (.int (0 : Int32)) := f323_2
    show Go p e below s _ _ _ T323 (mkF m 8 #[.val (.ref a), .val (.long xq), .second, .val (.long (3 : Int64)), .second, .val (.long wq), .second, .unset, .unset, .unset] [])
    refine go_st (fun _ kq => XS.aloadN X323.here hx rfl (hb hby d4_8) rfl rfl kq) ?_
    show Go p e below s _ _ _ T323 (mkF m 9 #[.val (.ref a), .val (.long xq), .second, .val (.long (3 : Int64)), .second, .val (.long wq), .second, .unset, .unset, .unset] [(.ref a)])
    refine go_getF X323 hx hZ hown (host := "") (Or.inl (hw _ (List.mem_of_getElem? (i := 34) rfl))) Via.refl rfl sz349 (hb hby d4_9) rfl rfl ?_
    intro T350 X350 e350
    show Go p e below s _ _ _ T350 (mkF m 12 #[.val (.ref a), .val (.long xq), .second, .val (.long (3 : Int64)), .second, .val (.long wq), .second, .unset, .unset, .unset] [(.int (0 : Int32))])
    refine go_st (fun _ kq => XT.i2l X350.here hx rfl (hb hby d4_12) rfl kq) ?_
    rw [show (0 : Int32).toInt64 = (0 : Int64) from by decide +kernel]
    show Go p e below s _ _ _ T350 (mkF m 13 #[.val (.ref a), .val (.long xq), .second, .val (.long (3 : Int64)), .second, .val (.long wq), .second, .unset, .unset, .unset] [(.long (0 : Int64))])
    refine go_st (fun _ kq => XT.lloadN X350.here hx rfl (hb hby d4_13) rfl kq) ?_
    show Go p e below s _ _ _ T350 (mkF m 14 #[.val (.ref a), .val (.long xq), .second, .val (.long (3 : Int64)), .second, .val (.long wq), .second, .unset, .unset, .unset] [(.long (3 : Int64)), (.long (0 : Int64))])
    refine go_st (fun _ kq => XT.lcmp X350.here hx rfl (hb hby d4_14) rfl kq) ?_
    show Go p e below s _ _ _ T350 (mkF m 15 #[.val (.ref a), .val (.long xq), .second, .val (.long (3 : Int64)), .second, .val (.long wq), .second, .unset, .unset, .unset] [(.int (XT.cmpL (0 : Int64) (3 : Int64)))])
    refine go_st (fun _ kq => XS.ifNo X350.here hx rfl (hb hby d4_15) rfl (XT.ll_ge_f (by decide)) kq) ?_
    show Go p e below s _ _ _ T350 (mkF m 18 #[.val (.ref a), .val (.long xq), .second, .val (.long (3 : Int64)), .second, .val (.long wq), .second, .unset, .unset, .unset] [])
    refine go_st (fun _ kq => XS.aloadN X350.here hx rfl (hb hby d4_18) rfl rfl kq) ?_
    show Go p e below s _ _ _ T350 (mkF m 19 #[.val (.ref a), .val (.long xq), .second, .val (.long (3 : Int64)), .second, .val (.long wq), .second, .unset, .unset, .unset] [(.ref a)])
    refine go_st (fun _ kq => XT.lloadN X350.here hx rfl (hb hby d4_19) rfl kq) ?_
    show Go p e below s _ _ _ T350 (mkF m 20 #[.val (.ref a), .val (.long xq), .second, .val (.long (3 : Int64)), .second, .val (.long wq), .second, .unset, .unset, .unset] [(.long xq), (.ref a)])
    refine go_st (fun _ kq => XT.lloadN X350.here hx rfl (hb hby d4_20) rfl kq) ?_
    show Go p e below s _ _ _ T350 (mkF m 21 #[.val (.ref a), .val (.long xq), .second, .val (.long (3 : Int64)), .second, .val (.long wq), .second, .unset, .unset, .unset] [(.long (3 : Int64)), (.long xq), (.ref a)])
    have c352 := GA.keep P3 K323 (ninS (Ne.symm P6) nin0)
    have z353 : n0 ≤ T323.heap.size := Nat.le_trans Z0 K323.1
    refine go_callP X350 hx hZ hml hown (hw _ (List.mem_of_getElem? (i := 46) rfl)) (hw _ (List.mem_of_getElem? (i := 48) rfl)) (hw _ (List.mem_of_getElem? (i := 1) rfl)) (hw _ (List.mem_of_getElem? (i := 47) rfl)) (hw _ (List.mem_of_getElem? (i := 49) rfl)) (hw _ (List.mem_of_getElem? (i := 2) rfl)) e350 f323_0 (argsL := [(.long xq), (.long (3 : Int64))]) (rest := []) (W := 0) (met_ins0 l Z a0 hw a xq ((hq + 1) % 3) tq fq T323.heap n0 z353 f323_0 hd349 f323_3 c352 (by first | assumption | decide | omega) sz349 P6 P7 P8) (hb hby d4_21) rfl rfl rfl (lenOf pd8 rfl) (by show 2 * 0 + _ ≤ _; exact Nat.le_of_eq rfl) (by decide) (by decide) (by decide) (by decide) (by decide) ?_
    intro T351 v351 L351 X351 q351
    obtain ⟨gq_351, rfl, M351, K351, p351_0, f351_0, f351_1, f351_2, f351_3, f351_4⟩ := q351
    have N351 := Fr.app N323 M351
    show Go p e below s _ _ _ T351 (mkF m 24 #[.val (.ref a), .val (.long xq), .second, .val (.long (3 : Int64)), .second, .val (.long wq), .second, .unset, .unset, .unset] [])
    have eN354 : gq_351 ((((hq + 1) % 3) + 0) % 3) = fMaxJ Nq xq := p351_0.trans (own_mxT (Eq.mp (congrArg (fun z => ¬ (xq - wq < z)) PN) (p323_1 rfl)) P_x P_N P_w)
    refine go_st (fun _ kq => XT.lloadN X351.here hx rfl (hb hby d4_24) rfl kq) ?_
    show Go p e below s _ _ _ T351 (mkF m 25 #[.val (.ref a), .val (.long xq), .second, .val (.long (3 : Int64)), .second, .val (.long wq), .second, .unset, .unset, .unset] [(.long (3 : Int64))])
    refine go_st (fun _ kq => XS.aloadN X351.here hx rfl (hb hby d4_25) rfl rfl kq) ?_
    show Go p e below s _ _ _ T351 (mkF m 26 #[.val (.ref a), .val (.long xq), .second, .val (.long (3 : Int64)), .second, .val (.long wq), .second, .unset, .unset, .unset] [(.ref a), (.long (3 : Int64))])
    refine go_getF X351 hx hZ hown (host := "") (Or.inl (hw _ (List.mem_of_getElem? (i := 34) rfl))) Via.refl rfl f351_2 (hb hby d4_26) rfl rfl ?_
    intro T355 X355 e355
    show Go p e below s _ _ _ T355 (mkF m 29 #[.val (.ref a), .val (.long xq), .second, .val (.long (3 : Int64)), .second, .val (.long wq), .second, .unset, .unset, .unset] [(.int (1 : Int32)), (.long (3 : Int64))])
    refine go_st (fun _ kq => XT.i2l X355.here hx rfl (hb hby d4_29) rfl kq) ?_
    rw [show (1 : Int32).toInt64 = (1 : Int64) from by decide +kernel]
    show Go p e below s _ _ _ T355 (mkF m 30 #[.val (.ref a), .val (.long xq), .second, .val (.long (3 : Int64)), .second, .val (.long wq), .second, .unset, .unset, .unset] [(.long (1 : Int64)), (.long (3 : Int64))])
    refine go_st (fun _ kq => XT.lsub X355.here hx rfl (hb hby d4_30) rfl kq) ?_
    rw [show ((3 : Int64) - (1 : Int64)) = (2 : Int64) from by decide +kernel]
    show Go p e below s _ _ _ T355 (mkF m 31 #[.val (.ref a), .val (.long xq), .second, .val (.long (3 : Int64)), .second, .val (.long wq), .second, .unset, .unset, .unset] [(.long (2 : Int64))])
    refine go_st (fun _ kq => XS.aloadN X355.here hx rfl (hb hby d4_31) rfl rfl kq) ?_
    show Go p e below s _ _ _ T355 (mkF m 32 #[.val (.ref a), .val (.long xq), .second, .val (.long (3 : Int64)), .second, .val (.long wq), .second, .unset, .unset, .unset] [(.ref a), (.long (2 : Int64))])
    refine go_st (fun _ kq => XT.lloadN X355.here hx rfl (hb hby d4_32) rfl kq) ?_
    show Go p e below s _ _ _ T355 (mkF m 33 #[.val (.ref a), .val (.long xq), .second, .val (.long (3 : Int64)), .second, .val (.long wq), .second, .unset, .unset, .unset] [(.long xq), (.ref a), (.long (2 : Int64))])
    refine go_st (fun _ kq => XT.lload X355.here hx rfl (hb hby d4_33) rfl kq) ?_
    show Go p e below s _ _ _ T355 (mkF m 35 #[.val (.ref a), .val (.long xq), .second, .val (.long (3 : Int64)), .second, .val (.long wq), .second, .unset, .unset, .unset] [(.long wq), (.long xq), (.ref a), (.long (2 : Int64))])
    have z357 : n0 ≤ T351.heap.size := Nat.le_trans z353 K351.1
    refine go_callP X355 hx hZ hml hown (hw _ (List.mem_of_getElem? (i := 67) rfl)) (hw _ (List.mem_of_getElem? (i := 69) rfl)) (hw _ (List.mem_of_getElem? (i := 1) rfl)) (hw _ (List.mem_of_getElem? (i := 68) rfl)) (hw _ (List.mem_of_getElem? (i := 70) rfl)) (hw _ (List.mem_of_getElem? (i := 2) rfl)) e355 f351_0 (argsL := [(.long xq), (.long wq)]) (rest := [(.long (2 : Int64))]) (W := 2) (met_unt1 l Z a0 hw a xq wq ((hq + 1) % 3) tq gq_351 T351.heap n0 z357 f351_0 f351_1 f351_3 f351_4 (by first | assumption | decide | omega) f351_2) (hb hby d4_35) rfl rfl rfl (lenOf pd4 rfl) (by show 2 * 0 + _ ≤ _; exact Nat.le_of_eq rfl) (by decide) (by decide) (by decide) (by decide) (by decide) ?_
    intro T356 v356 L356 X356 q356
    obtain ⟨rfl, M356, e356⟩ := q356
    have N356 := Fr.app N351 M356
    show Go p e below s _ _ _ T356 (mkF m 38 #[.val (.ref a), .val (.long xq), .second, .val (.long (3 : Int64)), .second, .val (.long wq), .second, .unset, .unset, .unset] [(.long ((gq_351 ((((hq + 1) % 3) + 0) % 3)) + wq - xq)), (.long (2 : Int64))])
    refine go_callS X356 hx hZ hml hown (hw _ (List.mem_of_getElem? (i := 75) rfl)) (hw _ (List.mem_of_getElem? (i := 76) rfl)) (hw _ (List.mem_of_getElem? (i := 77) rfl)) (hw _ (List.mem_of_getElem? (i := 78) rfl)) e356 (argsL := [(.long (2 : Int64)), (.long ((gq_351 ((((hq + 1) % 3) + 0) % 3)) + wq - xq))]) (rest := []) (W := 0) (met_adm l Z a0 hw (2 : Int64) ((gq_351 ((((hq + 1) % 3) + 0) % 3)) + wq - xq) T351.heap n0 z357 (by first | assumption | decide | omega) (own_reset eN354 P_N P_x P_w)) (hb hby d4_38) rfl rfl rfl (lenOf pd9 rfl) (by show 2 * 0 + _ ≤ _; exact Nat.le_of_eq rfl) (by decide) (by decide) (by decide) (by decide) (by decide) ?_
    intro T358 v358 L358 X358 q358
    obtain ⟨dq_358, rfl, M358, K358, fz358_dq, f358_0⟩ := q358
    have N358 := Fr.app N356 M358
    have c359 : a < T323.heap.size := Nat.lt_of_lt_of_le lt_a K323.1
    have c360 : a < T351.heap.size := Nat.lt_of_lt_of_le c359 K351.1
    have ne361 : a ≠ dq_358 := Nat.ne_of_lt (Nat.lt_of_lt_of_le c360 fz358_dq)
    have c362 : tq < T323.heap.size := Nat.lt_of_lt_of_le lt_tq K323.1
    have c363 : tq < T351.heap.size := Nat.lt_of_lt_of_le c362 K351.1
    have ne364 : tq ≠ dq_358 := Nat.ne_of_lt (Nat.lt_of_lt_of_le c363 fz358_dq)
    have nw_dq_358 : n0 ≤ dq_358 := Nat.le_trans z357 fz358_dq
    have y365 : h0.size ≤ T323.heap.size := Nat.le_trans (Nat.le_refl _) K323.1
    have y366 : h0.size ≤ T351.heap.size := Nat.le_trans y365 K351.1
    have lt_dq_358 : dq_358 < T358.heap.size := f358_0.lt
    show Go p e below s _ _ _ T358 (mkF m 41 #[.val (.ref a), .val (.long xq), .second, .val (.long (3 : Int64)), .second, .val (.long wq), .second, .unset, .unset, .unset] [(.ref dq_358)])
    refine go_st (fun _ kq => XS.astore X358.here hx rfl (hb hby d4_41) rfl rfl (l' := #[.val (.ref a), .val (.long xq), .second, .val (.long (3 : Int64)), .second, .val (.long wq), .second, .val (.ref dq_358), .unset, .unset]) rfl kq) ?_
    show Go p e below s _ _ _ T358 (mkF m 43 #[.val (.ref a), .val (.long xq), .second, .val (.long (3 : Int64)), .second, .val (.long wq), .second, .val (.ref dq_358), .unset, .unset] [])
    refine go_st (fun _ kq => XS.goto X358.here hx rfl (pc0 := 43) (pc' := 79) rfl (hb hby d4_43) (by decide) (by decide) kq) ?_
    show Go p e below s _ _ _ T358 (mkF m 79 #[.val (.ref a), .val (.long xq), .second, .val (.long (3 : Int64)), .second, .val (.long wq), .second, .val (.ref dq_358), .unset, .unset] [])
    refine go_st (fun _ kq => XS.aload X358.here hx rfl (hb hby d4_79) rfl rfl kq) ?_
    show Go p e below s _ _ _ T358 (mkF m 81 #[.val (.ref a), .val (.long xq), .second, .val (.long (3 : Int64)), .second, .val (.long wq), .second, .val (.ref dq_358), .unset, .unset] [(.ref dq_358)])
    have c367 := Exa.keep f351_0 K358
    have c368 := Fld.keep f351_1 K358 nin0
    have c369 := Fld.keep f351_2 K358 nin0
    have c370 := Fld.keep f351_3 K358 nin0
    have c371 := GA.keep f351_4 K358 nin0
    exact go_retA X358 hx hlk hret rfl rfl (hb hby d4_81) (by decide) (by decide) ⟨1, gq_351, dq_358, rfl, N358, (Keep.trans (Keep.trans (Keep.trans (Keep.refl h0 [a, tq]) K323 (allS (Or.inl (by simp)) all0)) K351 (allS (Or.inl (by simp)) (allS (Or.inl (by simp)) all0))) K358 all0), (Nat.le_trans y366 fz358_dq), (by decide), eN354, c367, c368, c369, c370, c371⟩
def Q_acq2 (Z : State) (a : Addr) (xq : Int64) (wq : Int64) (hq : Nat) (tq : Addr) (fq : Nat → Int64) (Nq : Int64) (h0 : Heap) (n0 : Nat) (v : Option Value) (h : Heap) (L : List Loc) : Prop := ∃ jq : Nat, ∃ gq : Nat → Int64, ∃ dq : Addr, v = some (.ref dq) ∧ Fr n0 L ∧ Keep h0 h [a, tq] ∧ h0.size ≤ dq ∧ (jq ≤ 2) ∧ (gq (((hq + jq) % 3 + (2 - jq)) % 3) = fMaxJ Nq xq) ∧ Exa Z h a "com/example/aforo/aforo/SlidingLog" ∧ Fld Z h a "com/example/aforo/aforo/SlidingLog" "head" "I" (.int (Int32.ofNat ((hq + jq) % 3))) ∧ Fld Z h a "com/example/aforo/aforo/SlidingLog" "size" "I" (.int (Int32.ofNat (2 - jq + 1))) ∧ Fld Z h a "com/example/aforo/aforo/SlidingLog" "times" "[J" (.ref tq) ∧ GA Z h tq .long 3 (fun i => .long (gq i))
theorem ef_acq2 (m : MethodId) (a : Addr) (xq : Int64) (wq : Int64) (hq : Nat) (tq : Addr) (fq : Nat → Int64) (Nq : Int64) : entryFrame m #[(.ref a), (.long xq), (.long (3 : Int64)), (.long wq)] 10 = mkF m 0 #[.val (.ref a), .val (.long xq), .second, .val (.long (3 : Int64)), .second, .val (.long wq), .second, .unset, .unset, .unset] [] := by first | (simp [entryFrame, mkF, argsToLocals, Value.category]; done) | rfl
abbrev rm_acq2 : Room := ({ frames := 4, cells := 1, slots := 4, locals := 62 } : Room)
set_option maxRecDepth 65536 in
set_option maxHeartbeats 4000000 in
theorem met_acq2 (l : Launch) (Z : State) (a0 : Array Value) (hw : ∀ d ∈ tables_1, d.before a0 Z = true) (a : Addr) (xq : Int64) (wq : Int64) (hq : Nat) (tq : Addr) (fq : Nat → Int64) (Nq : Int64) (h0 : Heap) (n0 : Nat) (Z0 : n0 ≤ h0.size) (P0 : Exa Z h0 a "com/example/aforo/aforo/SlidingLog") (P1 : Fld Z h0 a "com/example/aforo/aforo/SlidingLog" "head" "I" (.int (Int32.ofNat hq))) (P2 : Fld Z h0 a "com/example/aforo/aforo/SlidingLog" "times" "[J" (.ref tq)) (P3 : GA Z h0 tq .long 3 (fun i => .long (fq i))) (P4 : hq < 3) (P5 : Fld Z h0 a "com/example/aforo/aforo/SlidingLog" "size" "I" (.int (2 : Int32))) (P6 : a ≠ tq) (P7 : n0 ≤ a) (P8 : n0 ≤ tq) (P9 : fq ((hq + 1) % 3) = Nq) (P10 : R32 Nq) (P11 : R32 xq) (P12 : RW wq) :
    Met l (⟨"com/example/aforo/aforo/SlidingLog", "acquire", "(JJJ)Lcom/example/aforo/aforo/Decision;"⟩ : MethodName) prog_17_method_2_code 10 (some (FieldType.object "com/example/aforo/aforo/Decision")) [] rm_acq2 Z #[(.ref a), (.long xq), (.long (3 : Int64)), (.long wq)] h0 (Q_acq2 Z a xq wq hq tq fq Nq h0 n0) rm_acq2.cells rm_acq2.slots := by
  refine own_body pn12 ?_
  intro p e s m below meth c s₁ ct X0 e0
  have ct0 := ct
  obtain ⟨hx, hZ, hown, hby, hml, hret, hlk, hnm⟩ := ct
  have lt_a : a < h0.size := P0.lt
  have lt_tq : tq < h0.size := P3.lt
  have N0 := Fr.nil n0
  refine castGo (ef_acq2 m a xq wq hq tq fq Nq) ?_
  show Go p e below s _ _ _ s₁ (mkF m 0 #[.val (.ref a), .val (.long xq), .second, .val (.long (3 : Int64)), .second, .val (.long wq), .second, .unset, .unset, .unset] [])
  have PN := P9
  have P_N := P10
  have P_x := P11
  have P_w := P12
  refine go_st (fun _ kq => XS.aloadN X0.here hx rfl (hb hby d4_0) rfl rfl kq) ?_
  show Go p e below s _ _ _ s₁ (mkF m 1 #[.val (.ref a), .val (.long xq), .second, .val (.long (3 : Int64)), .second, .val (.long wq), .second, .unset, .unset, .unset] [(.ref a)])
  refine go_st (fun _ kq => XT.lloadN X0.here hx rfl (hb hby d4_1) rfl kq) ?_
  show Go p e below s _ _ _ s₁ (mkF m 2 #[.val (.ref a), .val (.long xq), .second, .val (.long (3 : Int64)), .second, .val (.long wq), .second, .unset, .unset, .unset] [(.long xq), (.ref a)])
  refine go_st (fun _ kq => XT.lload X0.here hx rfl (hb hby d4_2) rfl kq) ?_
  show Go p e below s _ _ _ s₁ (mkF m 4 #[.val (.ref a), .val (.long xq), .second, .val (.long (3 : Int64)), .second, .val (.long wq), .second, .unset, .unset, .unset] [(.long wq), (.long xq), (.ref a)])
  refine go_st (fun _ kq => XT.lsub X0.here hx rfl (hb hby d4_4) rfl kq) ?_
  show Go p e below s _ _ _ s₁ (mkF m 5 #[.val (.ref a), .val (.long xq), .second, .val (.long (3 : Int64)), .second, .val (.long wq), .second, .unset, .unset, .unset] [(.long (xq - wq)), (.ref a)])
  refine go_callP X0 hx hZ hml hown (hw _ (List.mem_of_getElem? (i := 26) rfl)) (hw _ (List.mem_of_getElem? (i := 28) rfl)) (hw _ (List.mem_of_getElem? (i := 1) rfl)) (hw _ (List.mem_of_getElem? (i := 27) rfl)) (hw _ (List.mem_of_getElem? (i := 29) rfl)) (hw _ (List.mem_of_getElem? (i := 2) rfl)) e0 P0 (argsL := [(.long (xq - wq))]) (rest := []) (W := 0) (met_fgt2 l Z a0 hw a (xq - wq) hq tq fq h0 n0 Z0 P0 P1 P2 P3 P4 P5 P6 P7) (hb hby d4_5) rfl rfl rfl (lenOf pd7 rfl) (by show 2 * 0 + _ ≤ _; exact Nat.le_of_eq rfl) (by decide) (by decide) (by decide) (by decide) (by decide) ?_
  intro T372 v372 L372 X372 q372
  obtain ⟨jq_372, rfl, M372, K372, p372_0, p372_1, f372_0, f372_1, f372_2, f372_3⟩ := q372
  have N372 := Fr.app N0 M372
  show Go p e below s _ _ _ T372 (mkF m 8 #[.val (.ref a), .val (.long xq), .second, .val (.long (3 : Int64)), .second, .val (.long wq), .second, .unset, .unset, .unset] [])
  rcases own_le2 p372_0 with hj373 | hj374 | hj375
  · subst hj373
    have hd376 : Fld Z T372.heap a "com/example/aforo/aforo/SlidingLog" "head" "I" (.int (Int32.ofNat ((hq + 0) % 3))) := f372_1
    have sz376 : Fld Z T372.heap a "com/example/aforo/aforo/SlidingLog" "size" "I" (.int (2 : Int32)) := f372_2
    show Go p e below s _ _ _ T372 (mkF m 8 #[.val (.ref a), .val (.long xq), .second, .val (.long (3 : Int64)), .second, .val (.long wq), .second, .unset, .unset, .unset] [])
    refine go_st (fun _ kq => XS.aloadN X372.here hx rfl (hb hby d4_8) rfl rfl kq) ?_
    show Go p e below s _ _ _ T372 (mkF m 9 #[.val (.ref a), .val (.long xq), .second, .val (.long (3 : Int64)), .second, .val (.long wq), .second, .unset, .unset, .unset] [(.ref a)])
    refine go_getF X372 hx hZ hown (host := "") (Or.inl (hw _ (List.mem_of_getElem? (i := 34) rfl))) Via.refl rfl sz376 (hb hby d4_9) rfl rfl ?_
    intro T377 X377 e377
    show Go p e below s _ _ _ T377 (mkF m 12 #[.val (.ref a), .val (.long xq), .second, .val (.long (3 : Int64)), .second, .val (.long wq), .second, .unset, .unset, .unset] [(.int (2 : Int32))])
    refine go_st (fun _ kq => XT.i2l X377.here hx rfl (hb hby d4_12) rfl kq) ?_
    rw [show (2 : Int32).toInt64 = (2 : Int64) from by decide +kernel]
    show Go p e below s _ _ _ T377 (mkF m 13 #[.val (.ref a), .val (.long xq), .second, .val (.long (3 : Int64)), .second, .val (.long wq), .second, .unset, .unset, .unset] [(.long (2 : Int64))])
    refine go_st (fun _ kq => XT.lloadN X377.here hx rfl (hb hby d4_13) rfl kq) ?_
    show Go p e below s _ _ _ T377 (mkF m 14 #[.val (.ref a), .val (.long xq), .second, .val (.long (3 : Int64)), .second, .val (.long wq), .second, .unset, .unset, .unset] [(.long (3 : Int64)), (.long (2 : Int64))])
    refine go_st (fun _ kq => XT.lcmp X377.here hx rfl (hb hby d4_14) rfl kq) ?_
    show Go p e below s _ _ _ T377 (mkF m 15 #[.val (.ref a), .val (.long xq), .second, .val (.long (3 : Int64)), .second, .val (.long wq), .second, .unset, .unset, .unset] [(.int (XT.cmpL (2 : Int64) (3 : Int64)))])
    refine go_st (fun _ kq => XS.ifNo X377.here hx rfl (hb hby d4_15) rfl (XT.ll_ge_f (by decide)) kq) ?_
    show Go p e below s _ _ _ T377 (mkF m 18 #[.val (.ref a), .val (.long xq), .second, .val (.long (3 : Int64)), .second, .val (.long wq), .second, .unset, .unset, .unset] [])
    refine go_st (fun _ kq => XS.aloadN X377.here hx rfl (hb hby d4_18) rfl rfl kq) ?_
    show Go p e below s _ _ _ T377 (mkF m 19 #[.val (.ref a), .val (.long xq), .second, .val (.long (3 : Int64)), .second, .val (.long wq), .second, .unset, .unset, .unset] [(.ref a)])
    refine go_st (fun _ kq => XT.lloadN X377.here hx rfl (hb hby d4_19) rfl kq) ?_
    show Go p e below s _ _ _ T377 (mkF m 20 #[.val (.ref a), .val (.long xq), .second, .val (.long (3 : Int64)), .second, .val (.long wq), .second, .unset, .unset, .unset] [(.long xq), (.ref a)])
    refine go_st (fun _ kq => XT.lloadN X377.here hx rfl (hb hby d4_20) rfl kq) ?_
    show Go p e below s _ _ _ T377 (mkF m 21 #[.val (.ref a), .val (.long xq), .second, .val (.long (3 : Int64)), .second, .val (.long wq), .second, .unset, .unset, .unset] [(.long (3 : Int64)), (.long xq), (.ref a)])
    have c379 := GA.keep P3 K372 (ninS (Ne.symm P6) nin0)
    have z380 : n0 ≤ T372.heap.size := Nat.le_trans Z0 K372.1
    refine go_callP X377 hx hZ hml hown (hw _ (List.mem_of_getElem? (i := 46) rfl)) (hw _ (List.mem_of_getElem? (i := 48) rfl)) (hw _ (List.mem_of_getElem? (i := 1) rfl)) (hw _ (List.mem_of_getElem? (i := 47) rfl)) (hw _ (List.mem_of_getElem? (i := 49) rfl)) (hw _ (List.mem_of_getElem? (i := 2) rfl)) e377 f372_0 (argsL := [(.long xq), (.long (3 : Int64))]) (rest := []) (W := 0) (met_ins2 l Z a0 hw a xq ((hq + 0) % 3) tq fq T372.heap n0 z380 f372_0 hd376 f372_3 c379 (by first | assumption | decide | omega) sz376 P6 P7 P8) (hb hby d4_21) rfl rfl rfl (lenOf pd8 rfl) (by show 2 * 0 + _ ≤ _; exact Nat.le_of_eq rfl) (by decide) (by decide) (by decide) (by decide) (by decide) ?_
    intro T378 v378 L378 X378 q378
    obtain ⟨gq_378, rfl, M378, K378, p378_0, f378_0, f378_1, f378_2, f378_3, f378_4⟩ := q378
    have N378 := Fr.app N372 M378
    show Go p e below s _ _ _ T378 (mkF m 24 #[.val (.ref a), .val (.long xq), .second, .val (.long (3 : Int64)), .second, .val (.long wq), .second, .unset, .unset, .unset] [])
    have eN381 : gq_378 ((((hq + 0) % 3) + 2) % 3) = fMaxJ Nq xq := p378_0.trans (by rw [show (((hq + 0) % 3) + 1) % 3 = (hq + 1) % 3 from by omega, PN])
    refine go_st (fun _ kq => XT.lloadN X378.here hx rfl (hb hby d4_24) rfl kq) ?_
    show Go p e below s _ _ _ T378 (mkF m 25 #[.val (.ref a), .val (.long xq), .second, .val (.long (3 : Int64)), .second, .val (.long wq), .second, .unset, .unset, .unset] [(.long (3 : Int64))])
    refine go_st (fun _ kq => XS.aloadN X378.here hx rfl (hb hby d4_25) rfl rfl kq) ?_
    show Go p e below s _ _ _ T378 (mkF m 26 #[.val (.ref a), .val (.long xq), .second, .val (.long (3 : Int64)), .second, .val (.long wq), .second, .unset, .unset, .unset] [(.ref a), (.long (3 : Int64))])
    refine go_getF X378 hx hZ hown (host := "") (Or.inl (hw _ (List.mem_of_getElem? (i := 34) rfl))) Via.refl rfl f378_2 (hb hby d4_26) rfl rfl ?_
    intro T382 X382 e382
    show Go p e below s _ _ _ T382 (mkF m 29 #[.val (.ref a), .val (.long xq), .second, .val (.long (3 : Int64)), .second, .val (.long wq), .second, .unset, .unset, .unset] [(.int (3 : Int32)), (.long (3 : Int64))])
    refine go_st (fun _ kq => XT.i2l X382.here hx rfl (hb hby d4_29) rfl kq) ?_
    rw [show (3 : Int32).toInt64 = (3 : Int64) from by decide +kernel]
    show Go p e below s _ _ _ T382 (mkF m 30 #[.val (.ref a), .val (.long xq), .second, .val (.long (3 : Int64)), .second, .val (.long wq), .second, .unset, .unset, .unset] [(.long (3 : Int64)), (.long (3 : Int64))])
    refine go_st (fun _ kq => XT.lsub X382.here hx rfl (hb hby d4_30) rfl kq) ?_
    rw [show ((3 : Int64) - (3 : Int64)) = (0 : Int64) from by decide +kernel]
    show Go p e below s _ _ _ T382 (mkF m 31 #[.val (.ref a), .val (.long xq), .second, .val (.long (3 : Int64)), .second, .val (.long wq), .second, .unset, .unset, .unset] [(.long (0 : Int64))])
    refine go_st (fun _ kq => XS.aloadN X382.here hx rfl (hb hby d4_31) rfl rfl kq) ?_
    show Go p e below s _ _ _ T382 (mkF m 32 #[.val (.ref a), .val (.long xq), .second, .val (.long (3 : Int64)), .second, .val (.long wq), .second, .unset, .unset, .unset] [(.ref a), (.long (0 : Int64))])
    refine go_st (fun _ kq => XT.lloadN X382.here hx rfl (hb hby d4_32) rfl kq) ?_
    show Go p e below s _ _ _ T382 (mkF m 33 #[.val (.ref a), .val (.long xq), .second, .val (.long (3 : Int64)), .second, .val (.long wq), .second, .unset, .unset, .unset] [(.long xq), (.ref a), (.long (0 : Int64))])
    refine go_st (fun _ kq => XT.lload X382.here hx rfl (hb hby d4_33) rfl kq) ?_
    show Go p e below s _ _ _ T382 (mkF m 35 #[.val (.ref a), .val (.long xq), .second, .val (.long (3 : Int64)), .second, .val (.long wq), .second, .unset, .unset, .unset] [(.long wq), (.long xq), (.ref a), (.long (0 : Int64))])
    have z384 : n0 ≤ T378.heap.size := Nat.le_trans z380 K378.1
    refine go_callP X382 hx hZ hml hown (hw _ (List.mem_of_getElem? (i := 67) rfl)) (hw _ (List.mem_of_getElem? (i := 69) rfl)) (hw _ (List.mem_of_getElem? (i := 1) rfl)) (hw _ (List.mem_of_getElem? (i := 68) rfl)) (hw _ (List.mem_of_getElem? (i := 70) rfl)) (hw _ (List.mem_of_getElem? (i := 2) rfl)) e382 f378_0 (argsL := [(.long xq), (.long wq)]) (rest := [(.long (0 : Int64))]) (W := 2) (met_unt3 l Z a0 hw a xq wq ((hq + 0) % 3) tq gq_378 T378.heap n0 z384 f378_0 f378_1 f378_3 f378_4 (by first | assumption | decide | omega) f378_2) (hb hby d4_35) rfl rfl rfl (lenOf pd4 rfl) (by show 2 * 0 + _ ≤ _; exact Nat.le_of_eq rfl) (by decide) (by decide) (by decide) (by decide) (by decide) ?_
    intro T383 v383 L383 X383 q383
    obtain ⟨rfl, M383, e383⟩ := q383
    have N383 := Fr.app N378 M383
    show Go p e below s _ _ _ T383 (mkF m 38 #[.val (.ref a), .val (.long xq), .second, .val (.long (3 : Int64)), .second, .val (.long wq), .second, .unset, .unset, .unset] [(.long ((gq_378 ((((hq + 0) % 3) + 2) % 3)) + wq - xq)), (.long (0 : Int64))])
    refine go_callS X383 hx hZ hml hown (hw _ (List.mem_of_getElem? (i := 75) rfl)) (hw _ (List.mem_of_getElem? (i := 76) rfl)) (hw _ (List.mem_of_getElem? (i := 77) rfl)) (hw _ (List.mem_of_getElem? (i := 78) rfl)) e383 (argsL := [(.long (0 : Int64)), (.long ((gq_378 ((((hq + 0) % 3) + 2) % 3)) + wq - xq))]) (rest := []) (W := 0) (met_adm l Z a0 hw (0 : Int64) ((gq_378 ((((hq + 0) % 3) + 2) % 3)) + wq - xq) T378.heap n0 z384 (by first | assumption | decide | omega) (own_reset eN381 P_N P_x P_w)) (hb hby d4_38) rfl rfl rfl (lenOf pd9 rfl) (by show 2 * 0 + _ ≤ _; exact Nat.le_of_eq rfl) (by decide) (by decide) (by decide) (by decide) (by decide) ?_
    intro T385 v385 L385 X385 q385
    obtain ⟨dq_385, rfl, M385, K385, fz385_dq, f385_0⟩ := q385
    have N385 := Fr.app N383 M385
    have c386 : a < T372.heap.size := Nat.lt_of_lt_of_le lt_a K372.1
    have c387 : a < T378.heap.size := Nat.lt_of_lt_of_le c386 K378.1
    have ne388 : a ≠ dq_385 := Nat.ne_of_lt (Nat.lt_of_lt_of_le c387 fz385_dq)
    have c389 : tq < T372.heap.size := Nat.lt_of_lt_of_le lt_tq K372.1
    have c390 : tq < T378.heap.size := Nat.lt_of_lt_of_le c389 K378.1
    have ne391 : tq ≠ dq_385 := Nat.ne_of_lt (Nat.lt_of_lt_of_le c390 fz385_dq)
    have nw_dq_385 : n0 ≤ dq_385 := Nat.le_trans z384 fz385_dq
    have y392 : h0.size ≤ T372.heap.size := Nat.le_trans (Nat.le_refl _) K372.1
    have y393 : h0.size ≤ T378.heap.size := Nat.le_trans y392 K378.1
    have lt_dq_385 : dq_385 < T385.heap.size := f385_0.lt
    show Go p e below s _ _ _ T385 (mkF m 41 #[.val (.ref a), .val (.long xq), .second, .val (.long (3 : Int64)), .second, .val (.long wq), .second, .unset, .unset, .unset] [(.ref dq_385)])
    refine go_st (fun _ kq => XS.astore X385.here hx rfl (hb hby d4_41) rfl rfl (l' := #[.val (.ref a), .val (.long xq), .second, .val (.long (3 : Int64)), .second, .val (.long wq), .second, .val (.ref dq_385), .unset, .unset]) rfl kq) ?_
    show Go p e below s _ _ _ T385 (mkF m 43 #[.val (.ref a), .val (.long xq), .second, .val (.long (3 : Int64)), .second, .val (.long wq), .second, .val (.ref dq_385), .unset, .unset] [])
    refine go_st (fun _ kq => XS.goto X385.here hx rfl (pc0 := 43) (pc' := 79) rfl (hb hby d4_43) (by decide) (by decide) kq) ?_
    show Go p e below s _ _ _ T385 (mkF m 79 #[.val (.ref a), .val (.long xq), .second, .val (.long (3 : Int64)), .second, .val (.long wq), .second, .val (.ref dq_385), .unset, .unset] [])
    refine go_st (fun _ kq => XS.aload X385.here hx rfl (hb hby d4_79) rfl rfl kq) ?_
    show Go p e below s _ _ _ T385 (mkF m 81 #[.val (.ref a), .val (.long xq), .second, .val (.long (3 : Int64)), .second, .val (.long wq), .second, .val (.ref dq_385), .unset, .unset] [(.ref dq_385)])
    have c394 := Exa.keep f378_0 K385
    have c395 := Fld.keep f378_1 K385 nin0
    have c396 := Fld.keep f378_2 K385 nin0
    have c397 := Fld.keep f378_3 K385 nin0
    have c398 := GA.keep f378_4 K385 nin0
    exact go_retA X385 hx hlk hret rfl rfl (hb hby d4_81) (by decide) (by decide) ⟨0, gq_378, dq_385, rfl, N385, (Keep.trans (Keep.trans (Keep.trans (Keep.refl h0 [a, tq]) K372 (allS (Or.inl (by simp)) all0)) K378 (allS (Or.inl (by simp)) (allS (Or.inl (by simp)) all0))) K385 all0), (Nat.le_trans y393 fz385_dq), (by decide), eN381, c394, c395, c396, c397, c398⟩
  · subst hj374
    have hd399 : Fld Z T372.heap a "com/example/aforo/aforo/SlidingLog" "head" "I" (.int (Int32.ofNat ((hq + 1) % 3))) := f372_1
    have sz399 : Fld Z T372.heap a "com/example/aforo/aforo/SlidingLog" "size" "I" (.int (1 : Int32)) := f372_2
    show Go p e below s _ _ _ T372 (mkF m 8 #[.val (.ref a), .val (.long xq), .second, .val (.long (3 : Int64)), .second, .val (.long wq), .second, .unset, .unset, .unset] [])
    refine go_st (fun _ kq => XS.aloadN X372.here hx rfl (hb hby d4_8) rfl rfl kq) ?_
    show Go p e below s _ _ _ T372 (mkF m 9 #[.val (.ref a), .val (.long xq), .second, .val (.long (3 : Int64)), .second, .val (.long wq), .second, .unset, .unset, .unset] [(.ref a)])
    refine go_getF X372 hx hZ hown (host := "") (Or.inl (hw _ (List.mem_of_getElem? (i := 34) rfl))) Via.refl rfl sz399 (hb hby d4_9) rfl rfl ?_
    intro T400 X400 e400
    show Go p e below s _ _ _ T400 (mkF m 12 #[.val (.ref a), .val (.long xq), .second, .val (.long (3 : Int64)), .second, .val (.long wq), .second, .unset, .unset, .unset] [(.int (1 : Int32))])
    refine go_st (fun _ kq => XT.i2l X400.here hx rfl (hb hby d4_12) rfl kq) ?_
    rw [show (1 : Int32).toInt64 = (1 : Int64) from by decide +kernel]
    show Go p e below s _ _ _ T400 (mkF m 13 #[.val (.ref a), .val (.long xq), .second, .val (.long (3 : Int64)), .second, .val (.long wq), .second, .unset, .unset, .unset] [(.long (1 : Int64))])
    refine go_st (fun _ kq => XT.lloadN X400.here hx rfl (hb hby d4_13) rfl kq) ?_
    show Go p e below s _ _ _ T400 (mkF m 14 #[.val (.ref a), .val (.long xq), .second, .val (.long (3 : Int64)), .second, .val (.long wq), .second, .unset, .unset, .unset] [(.long (3 : Int64)), (.long (1 : Int64))])
    refine go_st (fun _ kq => XT.lcmp X400.here hx rfl (hb hby d4_14) rfl kq) ?_
    show Go p e below s _ _ _ T400 (mkF m 15 #[.val (.ref a), .val (.long xq), .second, .val (.long (3 : Int64)), .second, .val (.long wq), .second, .unset, .unset, .unset] [(.int (XT.cmpL (1 : Int64) (3 : Int64)))])
    refine go_st (fun _ kq => XS.ifNo X400.here hx rfl (hb hby d4_15) rfl (XT.ll_ge_f (by decide)) kq) ?_
    show Go p e below s _ _ _ T400 (mkF m 18 #[.val (.ref a), .val (.long xq), .second, .val (.long (3 : Int64)), .second, .val (.long wq), .second, .unset, .unset, .unset] [])
    refine go_st (fun _ kq => XS.aloadN X400.here hx rfl (hb hby d4_18) rfl rfl kq) ?_
    show Go p e below s _ _ _ T400 (mkF m 19 #[.val (.ref a), .val (.long xq), .second, .val (.long (3 : Int64)), .second, .val (.long wq), .second, .unset, .unset, .unset] [(.ref a)])
    refine go_st (fun _ kq => XT.lloadN X400.here hx rfl (hb hby d4_19) rfl kq) ?_
    show Go p e below s _ _ _ T400 (mkF m 20 #[.val (.ref a), .val (.long xq), .second, .val (.long (3 : Int64)), .second, .val (.long wq), .second, .unset, .unset, .unset] [(.long xq), (.ref a)])
    refine go_st (fun _ kq => XT.lloadN X400.here hx rfl (hb hby d4_20) rfl kq) ?_
    show Go p e below s _ _ _ T400 (mkF m 21 #[.val (.ref a), .val (.long xq), .second, .val (.long (3 : Int64)), .second, .val (.long wq), .second, .unset, .unset, .unset] [(.long (3 : Int64)), (.long xq), (.ref a)])
    have c402 := GA.keep P3 K372 (ninS (Ne.symm P6) nin0)
    have z403 : n0 ≤ T372.heap.size := Nat.le_trans Z0 K372.1
    refine go_callP X400 hx hZ hml hown (hw _ (List.mem_of_getElem? (i := 46) rfl)) (hw _ (List.mem_of_getElem? (i := 48) rfl)) (hw _ (List.mem_of_getElem? (i := 1) rfl)) (hw _ (List.mem_of_getElem? (i := 47) rfl)) (hw _ (List.mem_of_getElem? (i := 49) rfl)) (hw _ (List.mem_of_getElem? (i := 2) rfl)) e400 f372_0 (argsL := [(.long xq), (.long (3 : Int64))]) (rest := []) (W := 0) (met_ins1 l Z a0 hw a xq ((hq + 1) % 3) tq fq T372.heap n0 z403 f372_0 hd399 f372_3 c402 (by first | assumption | decide | omega) sz399 P6 P7 P8) (hb hby d4_21) rfl rfl rfl (lenOf pd8 rfl) (by show 2 * 0 + _ ≤ _; exact Nat.le_of_eq rfl) (by decide) (by decide) (by decide) (by decide) (by decide) ?_
    intro T401 v401 L401 X401 q401
    obtain ⟨gq_401, rfl, M401, K401, p401_0, f401_0, f401_1, f401_2, f401_3, f401_4⟩ := q401
    have N401 := Fr.app N372 M401
    show Go p e below s _ _ _ T401 (mkF m 24 #[.val (.ref a), .val (.long xq), .second, .val (.long (3 : Int64)), .second, .val (.long wq), .second, .unset, .unset, .unset] [])
    have eN404 : gq_401 ((((hq + 1) % 3) + 1) % 3) = fMaxJ Nq xq := p401_0.trans (by rw [show (((hq + 1) % 3) + 0) % 3 = (hq + 1) % 3 from by omega, PN])
    refine go_st (fun _ kq => XT.lloadN X401.here hx rfl (hb hby d4_24) rfl kq) ?_
    show Go p e below s _ _ _ T401 (mkF m 25 #[.val (.ref a), .val (.long xq), .second, .val (.long (3 : Int64)), .second, .val (.long wq), .second, .unset, .unset, .unset] [(.long (3 : Int64))])
    refine go_st (fun _ kq => XS.aloadN X401.here hx rfl (hb hby d4_25) rfl rfl kq) ?_
    show Go p e below s _ _ _ T401 (mkF m 26 #[.val (.ref a), .val (.long xq), .second, .val (.long (3 : Int64)), .second, .val (.long wq), .second, .unset, .unset, .unset] [(.ref a), (.long (3 : Int64))])
    refine go_getF X401 hx hZ hown (host := "") (Or.inl (hw _ (List.mem_of_getElem? (i := 34) rfl))) Via.refl rfl f401_2 (hb hby d4_26) rfl rfl ?_
    intro T405 X405 e405
    show Go p e below s _ _ _ T405 (mkF m 29 #[.val (.ref a), .val (.long xq), .second, .val (.long (3 : Int64)), .second, .val (.long wq), .second, .unset, .unset, .unset] [(.int (2 : Int32)), (.long (3 : Int64))])
    refine go_st (fun _ kq => XT.i2l X405.here hx rfl (hb hby d4_29) rfl kq) ?_
    rw [show (2 : Int32).toInt64 = (2 : Int64) from by decide +kernel]
    show Go p e below s _ _ _ T405 (mkF m 30 #[.val (.ref a), .val (.long xq), .second, .val (.long (3 : Int64)), .second, .val (.long wq), .second, .unset, .unset, .unset] [(.long (2 : Int64)), (.long (3 : Int64))])
    refine go_st (fun _ kq => XT.lsub X405.here hx rfl (hb hby d4_30) rfl kq) ?_
    rw [show ((3 : Int64) - (2 : Int64)) = (1 : Int64) from by decide +kernel]
    show Go p e below s _ _ _ T405 (mkF m 31 #[.val (.ref a), .val (.long xq), .second, .val (.long (3 : Int64)), .second, .val (.long wq), .second, .unset, .unset, .unset] [(.long (1 : Int64))])
    refine go_st (fun _ kq => XS.aloadN X405.here hx rfl (hb hby d4_31) rfl rfl kq) ?_
    show Go p e below s _ _ _ T405 (mkF m 32 #[.val (.ref a), .val (.long xq), .second, .val (.long (3 : Int64)), .second, .val (.long wq), .second, .unset, .unset, .unset] [(.ref a), (.long (1 : Int64))])
    refine go_st (fun _ kq => XT.lloadN X405.here hx rfl (hb hby d4_32) rfl kq) ?_
    show Go p e below s _ _ _ T405 (mkF m 33 #[.val (.ref a), .val (.long xq), .second, .val (.long (3 : Int64)), .second, .val (.long wq), .second, .unset, .unset, .unset] [(.long xq), (.ref a), (.long (1 : Int64))])
    refine go_st (fun _ kq => XT.lload X405.here hx rfl (hb hby d4_33) rfl kq) ?_
    show Go p e below s _ _ _ T405 (mkF m 35 #[.val (.ref a), .val (.long xq), .second, .val (.long (3 : Int64)), .second, .val (.long wq), .second, .unset, .unset, .unset] [(.long wq), (.long xq), (.ref a), (.long (1 : Int64))])
    have z407 : n0 ≤ T401.heap.size := Nat.le_trans z403 K401.1
    refine go_callP X405 hx hZ hml hown (hw _ (List.mem_of_getElem? (i := 67) rfl)) (hw _ (List.mem_of_getElem? (i := 69) rfl)) (hw _ (List.mem_of_getElem? (i := 1) rfl)) (hw _ (List.mem_of_getElem? (i := 68) rfl)) (hw _ (List.mem_of_getElem? (i := 70) rfl)) (hw _ (List.mem_of_getElem? (i := 2) rfl)) e405 f401_0 (argsL := [(.long xq), (.long wq)]) (rest := [(.long (1 : Int64))]) (W := 2) (met_unt2 l Z a0 hw a xq wq ((hq + 1) % 3) tq gq_401 T401.heap n0 z407 f401_0 f401_1 f401_3 f401_4 (by first | assumption | decide | omega) f401_2) (hb hby d4_35) rfl rfl rfl (lenOf pd4 rfl) (by show 2 * 0 + _ ≤ _; exact Nat.le_of_eq rfl) (by decide) (by decide) (by decide) (by decide) (by decide) ?_
    intro T406 v406 L406 X406 q406
    obtain ⟨rfl, M406, e406⟩ := q406
    have N406 := Fr.app N401 M406
    show Go p e below s _ _ _ T406 (mkF m 38 #[.val (.ref a), .val (.long xq), .second, .val (.long (3 : Int64)), .second, .val (.long wq), .second, .unset, .unset, .unset] [(.long ((gq_401 ((((hq + 1) % 3) + 1) % 3)) + wq - xq)), (.long (1 : Int64))])
    refine go_callS X406 hx hZ hml hown (hw _ (List.mem_of_getElem? (i := 75) rfl)) (hw _ (List.mem_of_getElem? (i := 76) rfl)) (hw _ (List.mem_of_getElem? (i := 77) rfl)) (hw _ (List.mem_of_getElem? (i := 78) rfl)) e406 (argsL := [(.long (1 : Int64)), (.long ((gq_401 ((((hq + 1) % 3) + 1) % 3)) + wq - xq))]) (rest := []) (W := 0) (met_adm l Z a0 hw (1 : Int64) ((gq_401 ((((hq + 1) % 3) + 1) % 3)) + wq - xq) T401.heap n0 z407 (by first | assumption | decide | omega) (own_reset eN404 P_N P_x P_w)) (hb hby d4_38) rfl rfl rfl (lenOf pd9 rfl) (by show 2 * 0 + _ ≤ _; exact Nat.le_of_eq rfl) (by decide) (by decide) (by decide) (by decide) (by decide) ?_
    intro T408 v408 L408 X408 q408
    obtain ⟨dq_408, rfl, M408, K408, fz408_dq, f408_0⟩ := q408
    have N408 := Fr.app N406 M408
    have c409 : a < T372.heap.size := Nat.lt_of_lt_of_le lt_a K372.1
    have c410 : a < T401.heap.size := Nat.lt_of_lt_of_le c409 K401.1
    have ne411 : a ≠ dq_408 := Nat.ne_of_lt (Nat.lt_of_lt_of_le c410 fz408_dq)
    have c412 : tq < T372.heap.size := Nat.lt_of_lt_of_le lt_tq K372.1
    have c413 : tq < T401.heap.size := Nat.lt_of_lt_of_le c412 K401.1
    have ne414 : tq ≠ dq_408 := Nat.ne_of_lt (Nat.lt_of_lt_of_le c413 fz408_dq)
    have nw_dq_408 : n0 ≤ dq_408 := Nat.le_trans z407 fz408_dq
    have y415 : h0.size ≤ T372.heap.size := Nat.le_trans (Nat.le_refl _) K372.1
    have y416 : h0.size ≤ T401.heap.size := Nat.le_trans y415 K401.1
    have lt_dq_408 : dq_408 < T408.heap.size := f408_0.lt
    show Go p e below s _ _ _ T408 (mkF m 41 #[.val (.ref a), .val (.long xq), .second, .val (.long (3 : Int64)), .second, .val (.long wq), .second, .unset, .unset, .unset] [(.ref dq_408)])
    refine go_st (fun _ kq => XS.astore X408.here hx rfl (hb hby d4_41) rfl rfl (l' := #[.val (.ref a), .val (.long xq), .second, .val (.long (3 : Int64)), .second, .val (.long wq), .second, .val (.ref dq_408), .unset, .unset]) rfl kq) ?_
    show Go p e below s _ _ _ T408 (mkF m 43 #[.val (.ref a), .val (.long xq), .second, .val (.long (3 : Int64)), .second, .val (.long wq), .second, .val (.ref dq_408), .unset, .unset] [])
    refine go_st (fun _ kq => XS.goto X408.here hx rfl (pc0 := 43) (pc' := 79) rfl (hb hby d4_43) (by decide) (by decide) kq) ?_
    show Go p e below s _ _ _ T408 (mkF m 79 #[.val (.ref a), .val (.long xq), .second, .val (.long (3 : Int64)), .second, .val (.long wq), .second, .val (.ref dq_408), .unset, .unset] [])
    refine go_st (fun _ kq => XS.aload X408.here hx rfl (hb hby d4_79) rfl rfl kq) ?_
    show Go p e below s _ _ _ T408 (mkF m 81 #[.val (.ref a), .val (.long xq), .second, .val (.long (3 : Int64)), .second, .val (.long wq), .second, .val (.ref dq_408), .unset, .unset] [(.ref dq_408)])
    have c417 := Exa.keep f401_0 K408
    have c418 := Fld.keep f401_1 K408 nin0
    have c419 := Fld.keep f401_2 K408 nin0
    have c420 := Fld.keep f401_3 K408 nin0
    have c421 := GA.keep f401_4 K408 nin0
    exact go_retA X408 hx hlk hret rfl rfl (hb hby d4_81) (by decide) (by decide) ⟨1, gq_401, dq_408, rfl, N408, (Keep.trans (Keep.trans (Keep.trans (Keep.refl h0 [a, tq]) K372 (allS (Or.inl (by simp)) all0)) K401 (allS (Or.inl (by simp)) (allS (Or.inl (by simp)) all0))) K408 all0), (Nat.le_trans y416 fz408_dq), (by decide), eN404, c417, c418, c419, c420, c421⟩
  · subst hj375
    have hd422 : Fld Z T372.heap a "com/example/aforo/aforo/SlidingLog" "head" "I" (.int (Int32.ofNat ((hq + 2) % 3))) := f372_1
    have sz422 : Fld Z T372.heap a "com/example/aforo/aforo/SlidingLog" "size" "I" (.int (0 : Int32)) := f372_2
    show Go p e below s _ _ _ T372 (mkF m 8 #[.val (.ref a), .val (.long xq), .second, .val (.long (3 : Int64)), .second, .val (.long wq), .second, .unset, .unset, .unset] [])
    refine go_st (fun _ kq => XS.aloadN X372.here hx rfl (hb hby d4_8) rfl rfl kq) ?_
    show Go p e below s _ _ _ T372 (mkF m 9 #[.val (.ref a), .val (.long xq), .second, .val (.long (3 : Int64)), .second, .val (.long wq), .second, .unset, .unset, .unset] [(.ref a)])
    refine go_getF X372 hx hZ hown (host := "") (Or.inl (hw _ (List.mem_of_getElem? (i := 34) rfl))) Via.refl rfl sz422 (hb hby d4_9) rfl rfl ?_
    intro T423 X423 e423
    show Go p e below s _ _ _ T423 (mkF m 12 #[.val (.ref a), .val (.long xq), .second, .val (.long (3 : Int64)), .second, .val (.long wq), .second, .unset, .unset, .unset] [(.int (0 : Int32))])
    refine go_st (fun _ kq => XT.i2l X423.here hx rfl (hb hby d4_12) rfl kq) ?_
    rw [show (0 : Int32).toInt64 = (0 : Int64) from by decide +kernel]
    show Go p e below s _ _ _ T423 (mkF m 13 #[.val (.ref a), .val (.long xq), .second, .val (.long (3 : Int64)), .second, .val (.long wq), .second, .unset, .unset, .unset] [(.long (0 : Int64))])
    refine go_st (fun _ kq => XT.lloadN X423.here hx rfl (hb hby d4_13) rfl kq) ?_
    show Go p e below s _ _ _ T423 (mkF m 14 #[.val (.ref a), .val (.long xq), .second, .val (.long (3 : Int64)), .second, .val (.long wq), .second, .unset, .unset, .unset] [(.long (3 : Int64)), (.long (0 : Int64))])
    refine go_st (fun _ kq => XT.lcmp X423.here hx rfl (hb hby d4_14) rfl kq) ?_
    show Go p e below s _ _ _ T423 (mkF m 15 #[.val (.ref a), .val (.long xq), .second, .val (.long (3 : Int64)), .second, .val (.long wq), .second, .unset, .unset, .unset] [(.int (XT.cmpL (0 : Int64) (3 : Int64)))])
    refine go_st (fun _ kq => XS.ifNo X423.here hx rfl (hb hby d4_15) rfl (XT.ll_ge_f (by decide)) kq) ?_
    show Go p e below s _ _ _ T423 (mkF m 18 #[.val (.ref a), .val (.long xq), .second, .val (.long (3 : Int64)), .second, .val (.long wq), .second, .unset, .unset, .unset] [])
    refine go_st (fun _ kq => XS.aloadN X423.here hx rfl (hb hby d4_18) rfl rfl kq) ?_
    show Go p e below s _ _ _ T423 (mkF m 19 #[.val (.ref a), .val (.long xq), .second, .val (.long (3 : Int64)), .second, .val (.long wq), .second, .unset, .unset, .unset] [(.ref a)])
    refine go_st (fun _ kq => XT.lloadN X423.here hx rfl (hb hby d4_19) rfl kq) ?_
    show Go p e below s _ _ _ T423 (mkF m 20 #[.val (.ref a), .val (.long xq), .second, .val (.long (3 : Int64)), .second, .val (.long wq), .second, .unset, .unset, .unset] [(.long xq), (.ref a)])
    refine go_st (fun _ kq => XT.lloadN X423.here hx rfl (hb hby d4_20) rfl kq) ?_
    show Go p e below s _ _ _ T423 (mkF m 21 #[.val (.ref a), .val (.long xq), .second, .val (.long (3 : Int64)), .second, .val (.long wq), .second, .unset, .unset, .unset] [(.long (3 : Int64)), (.long xq), (.ref a)])
    have c425 := GA.keep P3 K372 (ninS (Ne.symm P6) nin0)
    have z426 : n0 ≤ T372.heap.size := Nat.le_trans Z0 K372.1
    refine go_callP X423 hx hZ hml hown (hw _ (List.mem_of_getElem? (i := 46) rfl)) (hw _ (List.mem_of_getElem? (i := 48) rfl)) (hw _ (List.mem_of_getElem? (i := 1) rfl)) (hw _ (List.mem_of_getElem? (i := 47) rfl)) (hw _ (List.mem_of_getElem? (i := 49) rfl)) (hw _ (List.mem_of_getElem? (i := 2) rfl)) e423 f372_0 (argsL := [(.long xq), (.long (3 : Int64))]) (rest := []) (W := 0) (met_ins0 l Z a0 hw a xq ((hq + 2) % 3) tq fq T372.heap n0 z426 f372_0 hd422 f372_3 c425 (by first | assumption | decide | omega) sz422 P6 P7 P8) (hb hby d4_21) rfl rfl rfl (lenOf pd8 rfl) (by show 2 * 0 + _ ≤ _; exact Nat.le_of_eq rfl) (by decide) (by decide) (by decide) (by decide) (by decide) ?_
    intro T424 v424 L424 X424 q424
    obtain ⟨gq_424, rfl, M424, K424, p424_0, f424_0, f424_1, f424_2, f424_3, f424_4⟩ := q424
    have N424 := Fr.app N372 M424
    show Go p e below s _ _ _ T424 (mkF m 24 #[.val (.ref a), .val (.long xq), .second, .val (.long (3 : Int64)), .second, .val (.long wq), .second, .unset, .unset, .unset] [])
    have eN427 : gq_424 ((((hq + 2) % 3) + 0) % 3) = fMaxJ Nq xq := p424_0.trans (own_mxT (Eq.mp (congrArg (fun z => ¬ (xq - wq < z)) PN) (p372_1 rfl)) P_x P_N P_w)
    refine go_st (fun _ kq => XT.lloadN X424.here hx rfl (hb hby d4_24) rfl kq) ?_
    show Go p e below s _ _ _ T424 (mkF m 25 #[.val (.ref a), .val (.long xq), .second, .val (.long (3 : Int64)), .second, .val (.long wq), .second, .unset, .unset, .unset] [(.long (3 : Int64))])
    refine go_st (fun _ kq => XS.aloadN X424.here hx rfl (hb hby d4_25) rfl rfl kq) ?_
    show Go p e below s _ _ _ T424 (mkF m 26 #[.val (.ref a), .val (.long xq), .second, .val (.long (3 : Int64)), .second, .val (.long wq), .second, .unset, .unset, .unset] [(.ref a), (.long (3 : Int64))])
    refine go_getF X424 hx hZ hown (host := "") (Or.inl (hw _ (List.mem_of_getElem? (i := 34) rfl))) Via.refl rfl f424_2 (hb hby d4_26) rfl rfl ?_
    intro T428 X428 e428
    show Go p e below s _ _ _ T428 (mkF m 29 #[.val (.ref a), .val (.long xq), .second, .val (.long (3 : Int64)), .second, .val (.long wq), .second, .unset, .unset, .unset] [(.int (1 : Int32)), (.long (3 : Int64))])
    refine go_st (fun _ kq => XT.i2l X428.here hx rfl (hb hby d4_29) rfl kq) ?_
    rw [show (1 : Int32).toInt64 = (1 : Int64) from by decide +kernel]
    show Go p e below s _ _ _ T428 (mkF m 30 #[.val (.ref a), .val (.long xq), .second, .val (.long (3 : Int64)), .second, .val (.long wq), .second, .unset, .unset, .unset] [(.long (1 : Int64)), (.long (3 : Int64))])
    refine go_st (fun _ kq => XT.lsub X428.here hx rfl (hb hby d4_30) rfl kq) ?_
    rw [show ((3 : Int64) - (1 : Int64)) = (2 : Int64) from by decide +kernel]
    show Go p e below s _ _ _ T428 (mkF m 31 #[.val (.ref a), .val (.long xq), .second, .val (.long (3 : Int64)), .second, .val (.long wq), .second, .unset, .unset, .unset] [(.long (2 : Int64))])
    refine go_st (fun _ kq => XS.aloadN X428.here hx rfl (hb hby d4_31) rfl rfl kq) ?_
    show Go p e below s _ _ _ T428 (mkF m 32 #[.val (.ref a), .val (.long xq), .second, .val (.long (3 : Int64)), .second, .val (.long wq), .second, .unset, .unset, .unset] [(.ref a), (.long (2 : Int64))])
    refine go_st (fun _ kq => XT.lloadN X428.here hx rfl (hb hby d4_32) rfl kq) ?_
    show Go p e below s _ _ _ T428 (mkF m 33 #[.val (.ref a), .val (.long xq), .second, .val (.long (3 : Int64)), .second, .val (.long wq), .second, .unset, .unset, .unset] [(.long xq), (.ref a), (.long (2 : Int64))])
    refine go_st (fun _ kq => XT.lload X428.here hx rfl (hb hby d4_33) rfl kq) ?_
    show Go p e below s _ _ _ T428 (mkF m 35 #[.val (.ref a), .val (.long xq), .second, .val (.long (3 : Int64)), .second, .val (.long wq), .second, .unset, .unset, .unset] [(.long wq), (.long xq), (.ref a), (.long (2 : Int64))])
    have z430 : n0 ≤ T424.heap.size := Nat.le_trans z426 K424.1
    refine go_callP X428 hx hZ hml hown (hw _ (List.mem_of_getElem? (i := 67) rfl)) (hw _ (List.mem_of_getElem? (i := 69) rfl)) (hw _ (List.mem_of_getElem? (i := 1) rfl)) (hw _ (List.mem_of_getElem? (i := 68) rfl)) (hw _ (List.mem_of_getElem? (i := 70) rfl)) (hw _ (List.mem_of_getElem? (i := 2) rfl)) e428 f424_0 (argsL := [(.long xq), (.long wq)]) (rest := [(.long (2 : Int64))]) (W := 2) (met_unt1 l Z a0 hw a xq wq ((hq + 2) % 3) tq gq_424 T424.heap n0 z430 f424_0 f424_1 f424_3 f424_4 (by first | assumption | decide | omega) f424_2) (hb hby d4_35) rfl rfl rfl (lenOf pd4 rfl) (by show 2 * 0 + _ ≤ _; exact Nat.le_of_eq rfl) (by decide) (by decide) (by decide) (by decide) (by decide) ?_
    intro T429 v429 L429 X429 q429
    obtain ⟨rfl, M429, e429⟩ := q429
    have N429 := Fr.app N424 M429
    show Go p e below s _ _ _ T429 (mkF m 38 #[.val (.ref a), .val (.long xq), .second, .val (.long (3 : Int64)), .second, .val (.long wq), .second, .unset, .unset, .unset] [(.long ((gq_424 ((((hq + 2) % 3) + 0) % 3)) + wq - xq)), (.long (2 : Int64))])
    refine go_callS X429 hx hZ hml hown (hw _ (List.mem_of_getElem? (i := 75) rfl)) (hw _ (List.mem_of_getElem? (i := 76) rfl)) (hw _ (List.mem_of_getElem? (i := 77) rfl)) (hw _ (List.mem_of_getElem? (i := 78) rfl)) e429 (argsL := [(.long (2 : Int64)), (.long ((gq_424 ((((hq + 2) % 3) + 0) % 3)) + wq - xq))]) (rest := []) (W := 0) (met_adm l Z a0 hw (2 : Int64) ((gq_424 ((((hq + 2) % 3) + 0) % 3)) + wq - xq) T424.heap n0 z430 (by first | assumption | decide | omega) (own_reset eN427 P_N P_x P_w)) (hb hby d4_38) rfl rfl rfl (lenOf pd9 rfl) (by show 2 * 0 + _ ≤ _; exact Nat.le_of_eq rfl) (by decide) (by decide) (by decide) (by decide) (by decide) ?_
    intro T431 v431 L431 X431 q431
    obtain ⟨dq_431, rfl, M431, K431, fz431_dq, f431_0⟩ := q431
    have N431 := Fr.app N429 M431
    have c432 : a < T372.heap.size := Nat.lt_of_lt_of_le lt_a K372.1
    have c433 : a < T424.heap.size := Nat.lt_of_lt_of_le c432 K424.1
    have ne434 : a ≠ dq_431 := Nat.ne_of_lt (Nat.lt_of_lt_of_le c433 fz431_dq)
    have c435 : tq < T372.heap.size := Nat.lt_of_lt_of_le lt_tq K372.1
    have c436 : tq < T424.heap.size := Nat.lt_of_lt_of_le c435 K424.1
    have ne437 : tq ≠ dq_431 := Nat.ne_of_lt (Nat.lt_of_lt_of_le c436 fz431_dq)
    have nw_dq_431 : n0 ≤ dq_431 := Nat.le_trans z430 fz431_dq
    have y438 : h0.size ≤ T372.heap.size := Nat.le_trans (Nat.le_refl _) K372.1
    have y439 : h0.size ≤ T424.heap.size := Nat.le_trans y438 K424.1
    have lt_dq_431 : dq_431 < T431.heap.size := f431_0.lt
    show Go p e below s _ _ _ T431 (mkF m 41 #[.val (.ref a), .val (.long xq), .second, .val (.long (3 : Int64)), .second, .val (.long wq), .second, .unset, .unset, .unset] [(.ref dq_431)])
    refine go_st (fun _ kq => XS.astore X431.here hx rfl (hb hby d4_41) rfl rfl (l' := #[.val (.ref a), .val (.long xq), .second, .val (.long (3 : Int64)), .second, .val (.long wq), .second, .val (.ref dq_431), .unset, .unset]) rfl kq) ?_
    show Go p e below s _ _ _ T431 (mkF m 43 #[.val (.ref a), .val (.long xq), .second, .val (.long (3 : Int64)), .second, .val (.long wq), .second, .val (.ref dq_431), .unset, .unset] [])
    refine go_st (fun _ kq => XS.goto X431.here hx rfl (pc0 := 43) (pc' := 79) rfl (hb hby d4_43) (by decide) (by decide) kq) ?_
    show Go p e below s _ _ _ T431 (mkF m 79 #[.val (.ref a), .val (.long xq), .second, .val (.long (3 : Int64)), .second, .val (.long wq), .second, .val (.ref dq_431), .unset, .unset] [])
    refine go_st (fun _ kq => XS.aload X431.here hx rfl (hb hby d4_79) rfl rfl kq) ?_
    show Go p e below s _ _ _ T431 (mkF m 81 #[.val (.ref a), .val (.long xq), .second, .val (.long (3 : Int64)), .second, .val (.long wq), .second, .val (.ref dq_431), .unset, .unset] [(.ref dq_431)])
    have c440 := Exa.keep f424_0 K431
    have c441 := Fld.keep f424_1 K431 nin0
    have c442 := Fld.keep f424_2 K431 nin0
    have c443 := Fld.keep f424_3 K431 nin0
    have c444 := GA.keep f424_4 K431 nin0
    exact go_retA X431 hx hlk hret rfl rfl (hb hby d4_81) (by decide) (by decide) ⟨2, gq_424, dq_431, rfl, N431, (Keep.trans (Keep.trans (Keep.trans (Keep.refl h0 [a, tq]) K372 (allS (Or.inl (by simp)) all0)) K424 (allS (Or.inl (by simp)) (allS (Or.inl (by simp)) all0))) K431 all0), (Nat.le_trans y439 fz431_dq), (by decide), eN427, c440, c441, c442, c443, c444⟩
def Q_acqz (Z : State) (a : Addr) (xq : Int64) (wq : Int64) (tq : Addr) (fq : Nat → Int64) (h0 : Heap) (n0 : Nat) (v : Option Value) (h : Heap) (L : List Loc) : Prop := ∃ uq : Addr, ∃ gq : Nat → Int64, ∃ dq : Addr, v = some (.ref dq) ∧ Fr n0 L ∧ Keep h0 h [a] ∧ h0.size ≤ uq ∧ h0.size ≤ dq ∧ (gq 0 = xq) ∧ Exa Z h a "com/example/aforo/aforo/SlidingLog" ∧ Fld Z h a "com/example/aforo/aforo/SlidingLog" "head" "I" (.int (0 : Int32)) ∧ Fld Z h a "com/example/aforo/aforo/SlidingLog" "size" "I" (.int (1 : Int32)) ∧ Fld Z h a "com/example/aforo/aforo/SlidingLog" "times" "[J" (.ref uq) ∧ GA Z h uq .long 3 (fun i => .long (gq i))
theorem ef_acqz (m : MethodId) (a : Addr) (xq : Int64) (wq : Int64) (tq : Addr) (fq : Nat → Int64) : entryFrame m #[(.ref a), (.long xq), (.long (3 : Int64)), (.long wq)] 10 = mkF m 0 #[.val (.ref a), .val (.long xq), .second, .val (.long (3 : Int64)), .second, .val (.long wq), .second, .unset, .unset, .unset] [] := by first | (simp [entryFrame, mkF, argsToLocals, Value.category]; done) | rfl
abbrev rm_acqz : Room := ({ frames := 3, cells := 2, slots := 7, locals := 62 } : Room)
set_option maxRecDepth 65536 in
set_option maxHeartbeats 4000000 in
theorem met_acqz (l : Launch) (Z : State) (a0 : Array Value) (hw : ∀ d ∈ tables_1, d.before a0 Z = true) (a : Addr) (xq : Int64) (wq : Int64) (tq : Addr) (fq : Nat → Int64) (h0 : Heap) (n0 : Nat) (Z0 : n0 ≤ h0.size) (P0 : Exa Z h0 a "com/example/aforo/aforo/SlidingLog") (P1 : Fld Z h0 a "com/example/aforo/aforo/SlidingLog" "head" "I" (.int (0 : Int32))) (P2 : Fld Z h0 a "com/example/aforo/aforo/SlidingLog" "size" "I" (.int (0 : Int32))) (P3 : Fld Z h0 a "com/example/aforo/aforo/SlidingLog" "times" "[J" (.ref tq)) (P4 : GA Z h0 tq .long 0 (fun i => .long (fq i))) (P5 : a ≠ tq) (P6 : n0 ≤ a) (P7 : R32 xq) (P8 : RW wq) :
    Met l (⟨"com/example/aforo/aforo/SlidingLog", "acquire", "(JJJ)Lcom/example/aforo/aforo/Decision;"⟩ : MethodName) prog_17_method_2_code 10 (some (FieldType.object "com/example/aforo/aforo/Decision")) [] rm_acqz Z #[(.ref a), (.long xq), (.long (3 : Int64)), (.long wq)] h0 (Q_acqz Z a xq wq tq fq h0 n0) rm_acqz.cells rm_acqz.slots := by
  refine own_body pn12 ?_
  intro p e s m below meth c s₁ ct X0 e0
  have ct0 := ct
  obtain ⟨hx, hZ, hown, hby, hml, hret, hlk, hnm⟩ := ct
  have lt_a : a < h0.size := P0.lt
  have lt_tq : tq < h0.size := P4.lt
  have N0 := Fr.nil n0
  refine castGo (ef_acqz m a xq wq tq fq) ?_
  show Go p e below s _ _ _ s₁ (mkF m 0 #[.val (.ref a), .val (.long xq), .second, .val (.long (3 : Int64)), .second, .val (.long wq), .second, .unset, .unset, .unset] [])
  refine go_st (fun _ kq => XS.aloadN X0.here hx rfl (hb hby d4_0) rfl rfl kq) ?_
  show Go p e below s _ _ _ s₁ (mkF m 1 #[.val (.ref a), .val (.long xq), .second, .val (.long (3 : Int64)), .second, .val (.long wq), .second, .unset, .unset, .unset] [(.ref a)])
  refine go_st (fun _ kq => XT.lloadN X0.here hx rfl (hb hby d4_1) rfl kq) ?_
  show Go p e below s _ _ _ s₁ (mkF m 2 #[.val (.ref a), .val (.long xq), .second, .val (.long (3 : Int64)), .second, .val (.long wq), .second, .unset, .unset, .unset] [(.long xq), (.ref a)])
  refine go_st (fun _ kq => XT.lload X0.here hx rfl (hb hby d4_2) rfl kq) ?_
  show Go p e below s _ _ _ s₁ (mkF m 4 #[.val (.ref a), .val (.long xq), .second, .val (.long (3 : Int64)), .second, .val (.long wq), .second, .unset, .unset, .unset] [(.long wq), (.long xq), (.ref a)])
  refine go_st (fun _ kq => XT.lsub X0.here hx rfl (hb hby d4_4) rfl kq) ?_
  show Go p e below s _ _ _ s₁ (mkF m 5 #[.val (.ref a), .val (.long xq), .second, .val (.long (3 : Int64)), .second, .val (.long wq), .second, .unset, .unset, .unset] [(.long (xq - wq)), (.ref a)])
  refine go_callP X0 hx hZ hml hown (hw _ (List.mem_of_getElem? (i := 26) rfl)) (hw _ (List.mem_of_getElem? (i := 28) rfl)) (hw _ (List.mem_of_getElem? (i := 1) rfl)) (hw _ (List.mem_of_getElem? (i := 27) rfl)) (hw _ (List.mem_of_getElem? (i := 29) rfl)) (hw _ (List.mem_of_getElem? (i := 2) rfl)) e0 P0 (argsL := [(.long (xq - wq))]) (rest := []) (W := 0) (met_fgtz l Z a0 hw a (xq - wq) tq fq h0 n0 Z0 P0 P1 P2 P3 P4 P5 P6) (hb hby d4_5) rfl rfl rfl (lenOf pd7 rfl) (by show 2 * 0 + _ ≤ _; exact Nat.le_of_eq rfl) (by decide) (by decide) (by decide) (by decide) (by decide) ?_
  intro T445 v445 L445 X445 q445
  obtain ⟨rfl, M445, K445, f445_0, f445_1, f445_2, f445_3⟩ := q445
  have N445 := Fr.app N0 M445
  show Go p e below s _ _ _ T445 (mkF m 8 #[.val (.ref a), .val (.long xq), .second, .val (.long (3 : Int64)), .second, .val (.long wq), .second, .unset, .unset, .unset] [])
  refine go_st (fun _ kq => XS.aloadN X445.here hx rfl (hb hby d4_8) rfl rfl kq) ?_
  show Go p e below s _ _ _ T445 (mkF m 9 #[.val (.ref a), .val (.long xq), .second, .val (.long (3 : Int64)), .second, .val (.long wq), .second, .unset, .unset, .unset] [(.ref a)])
  refine go_getF X445 hx hZ hown (host := "") (Or.inl (hw _ (List.mem_of_getElem? (i := 34) rfl))) Via.refl rfl f445_2 (hb hby d4_9) rfl rfl ?_
  intro T446 X446 e446
  show Go p e below s _ _ _ T446 (mkF m 12 #[.val (.ref a), .val (.long xq), .second, .val (.long (3 : Int64)), .second, .val (.long wq), .second, .unset, .unset, .unset] [(.int (0 : Int32))])
  refine go_st (fun _ kq => XT.i2l X446.here hx rfl (hb hby d4_12) rfl kq) ?_
  rw [show (0 : Int32).toInt64 = (0 : Int64) from by decide +kernel]
  show Go p e below s _ _ _ T446 (mkF m 13 #[.val (.ref a), .val (.long xq), .second, .val (.long (3 : Int64)), .second, .val (.long wq), .second, .unset, .unset, .unset] [(.long (0 : Int64))])
  refine go_st (fun _ kq => XT.lloadN X446.here hx rfl (hb hby d4_13) rfl kq) ?_
  show Go p e below s _ _ _ T446 (mkF m 14 #[.val (.ref a), .val (.long xq), .second, .val (.long (3 : Int64)), .second, .val (.long wq), .second, .unset, .unset, .unset] [(.long (3 : Int64)), (.long (0 : Int64))])
  refine go_st (fun _ kq => XT.lcmp X446.here hx rfl (hb hby d4_14) rfl kq) ?_
  show Go p e below s _ _ _ T446 (mkF m 15 #[.val (.ref a), .val (.long xq), .second, .val (.long (3 : Int64)), .second, .val (.long wq), .second, .unset, .unset, .unset] [(.int (XT.cmpL (0 : Int64) (3 : Int64)))])
  refine go_st (fun _ kq => XS.ifNo X446.here hx rfl (hb hby d4_15) rfl (XT.ll_ge_f (by decide)) kq) ?_
  show Go p e below s _ _ _ T446 (mkF m 18 #[.val (.ref a), .val (.long xq), .second, .val (.long (3 : Int64)), .second, .val (.long wq), .second, .unset, .unset, .unset] [])
  refine go_st (fun _ kq => XS.aloadN X446.here hx rfl (hb hby d4_18) rfl rfl kq) ?_
  show Go p e below s _ _ _ T446 (mkF m 19 #[.val (.ref a), .val (.long xq), .second, .val (.long (3 : Int64)), .second, .val (.long wq), .second, .unset, .unset, .unset] [(.ref a)])
  refine go_st (fun _ kq => XT.lloadN X446.here hx rfl (hb hby d4_19) rfl kq) ?_
  show Go p e below s _ _ _ T446 (mkF m 20 #[.val (.ref a), .val (.long xq), .second, .val (.long (3 : Int64)), .second, .val (.long wq), .second, .unset, .unset, .unset] [(.long xq), (.ref a)])
  refine go_st (fun _ kq => XT.lloadN X446.here hx rfl (hb hby d4_20) rfl kq) ?_
  show Go p e below s _ _ _ T446 (mkF m 21 #[.val (.ref a), .val (.long xq), .second, .val (.long (3 : Int64)), .second, .val (.long wq), .second, .unset, .unset, .unset] [(.long (3 : Int64)), (.long xq), (.ref a)])
  have c448 := GA.keep P4 K445 (ninS (Ne.symm P5) nin0)
  have z449 : n0 ≤ T445.heap.size := Nat.le_trans Z0 K445.1
  refine go_callP X446 hx hZ hml hown (hw _ (List.mem_of_getElem? (i := 46) rfl)) (hw _ (List.mem_of_getElem? (i := 48) rfl)) (hw _ (List.mem_of_getElem? (i := 1) rfl)) (hw _ (List.mem_of_getElem? (i := 47) rfl)) (hw _ (List.mem_of_getElem? (i := 49) rfl)) (hw _ (List.mem_of_getElem? (i := 2) rfl)) e446 f445_0 (argsL := [(.long xq), (.long (3 : Int64))]) (rest := []) (W := 0) (met_insz l Z a0 hw a xq tq fq T445.heap n0 z449 f445_0 f445_1 f445_2 f445_3 c448 P5 P6) (hb hby d4_21) rfl rfl rfl (lenOf pd8 rfl) (by show 2 * 0 + _ ≤ _; exact Nat.le_of_eq rfl) (by decide) (by decide) (by decide) (by decide) (by decide) ?_
  intro T447 v447 L447 X447 q447
  obtain ⟨uq_447, gq_447, rfl, M447, K447, fz447_uq, p447_0, f447_0, f447_1, f447_2, f447_3, f447_4⟩ := q447
  have N447 := Fr.app N445 M447
  have c450 : a < T445.heap.size := Nat.lt_of_lt_of_le lt_a K445.1
  have ne451 : a ≠ uq_447 := Nat.ne_of_lt (Nat.lt_of_lt_of_le c450 fz447_uq)
  have c452 : tq < T445.heap.size := Nat.lt_of_lt_of_le lt_tq K445.1
  have ne453 : tq ≠ uq_447 := Nat.ne_of_lt (Nat.lt_of_lt_of_le c452 fz447_uq)
  have nw_uq_447 : n0 ≤ uq_447 := Nat.le_trans z449 fz447_uq
  have y454 : h0.size ≤ T445.heap.size := Nat.le_trans (Nat.le_refl _) K445.1
  have lt_uq_447 : uq_447 < T447.heap.size := f447_4.lt
  show Go p e below s _ _ _ T447 (mkF m 24 #[.val (.ref a), .val (.long xq), .second, .val (.long (3 : Int64)), .second, .val (.long wq), .second, .unset, .unset, .unset] [])
  refine go_st (fun _ kq => XT.lloadN X447.here hx rfl (hb hby d4_24) rfl kq) ?_
  show Go p e below s _ _ _ T447 (mkF m 25 #[.val (.ref a), .val (.long xq), .second, .val (.long (3 : Int64)), .second, .val (.long wq), .second, .unset, .unset, .unset] [(.long (3 : Int64))])
  refine go_st (fun _ kq => XS.aloadN X447.here hx rfl (hb hby d4_25) rfl rfl kq) ?_
  show Go p e below s _ _ _ T447 (mkF m 26 #[.val (.ref a), .val (.long xq), .second, .val (.long (3 : Int64)), .second, .val (.long wq), .second, .unset, .unset, .unset] [(.ref a), (.long (3 : Int64))])
  refine go_getF X447 hx hZ hown (host := "") (Or.inl (hw _ (List.mem_of_getElem? (i := 34) rfl))) Via.refl rfl f447_2 (hb hby d4_26) rfl rfl ?_
  intro T455 X455 e455
  show Go p e below s _ _ _ T455 (mkF m 29 #[.val (.ref a), .val (.long xq), .second, .val (.long (3 : Int64)), .second, .val (.long wq), .second, .unset, .unset, .unset] [(.int (1 : Int32)), (.long (3 : Int64))])
  refine go_st (fun _ kq => XT.i2l X455.here hx rfl (hb hby d4_29) rfl kq) ?_
  rw [show (1 : Int32).toInt64 = (1 : Int64) from by decide +kernel]
  show Go p e below s _ _ _ T455 (mkF m 30 #[.val (.ref a), .val (.long xq), .second, .val (.long (3 : Int64)), .second, .val (.long wq), .second, .unset, .unset, .unset] [(.long (1 : Int64)), (.long (3 : Int64))])
  refine go_st (fun _ kq => XT.lsub X455.here hx rfl (hb hby d4_30) rfl kq) ?_
  rw [show ((3 : Int64) - (1 : Int64)) = (2 : Int64) from by decide +kernel]
  show Go p e below s _ _ _ T455 (mkF m 31 #[.val (.ref a), .val (.long xq), .second, .val (.long (3 : Int64)), .second, .val (.long wq), .second, .unset, .unset, .unset] [(.long (2 : Int64))])
  refine go_st (fun _ kq => XS.aloadN X455.here hx rfl (hb hby d4_31) rfl rfl kq) ?_
  show Go p e below s _ _ _ T455 (mkF m 32 #[.val (.ref a), .val (.long xq), .second, .val (.long (3 : Int64)), .second, .val (.long wq), .second, .unset, .unset, .unset] [(.ref a), (.long (2 : Int64))])
  refine go_st (fun _ kq => XT.lloadN X455.here hx rfl (hb hby d4_32) rfl kq) ?_
  show Go p e below s _ _ _ T455 (mkF m 33 #[.val (.ref a), .val (.long xq), .second, .val (.long (3 : Int64)), .second, .val (.long wq), .second, .unset, .unset, .unset] [(.long xq), (.ref a), (.long (2 : Int64))])
  refine go_st (fun _ kq => XT.lload X455.here hx rfl (hb hby d4_33) rfl kq) ?_
  show Go p e below s _ _ _ T455 (mkF m 35 #[.val (.ref a), .val (.long xq), .second, .val (.long (3 : Int64)), .second, .val (.long wq), .second, .unset, .unset, .unset] [(.long wq), (.long xq), (.ref a), (.long (2 : Int64))])
  have z457 : n0 ≤ T447.heap.size := Nat.le_trans z449 K447.1
  refine go_callP X455 hx hZ hml hown (hw _ (List.mem_of_getElem? (i := 67) rfl)) (hw _ (List.mem_of_getElem? (i := 69) rfl)) (hw _ (List.mem_of_getElem? (i := 1) rfl)) (hw _ (List.mem_of_getElem? (i := 68) rfl)) (hw _ (List.mem_of_getElem? (i := 70) rfl)) (hw _ (List.mem_of_getElem? (i := 2) rfl)) e455 f447_0 (argsL := [(.long xq), (.long wq)]) (rest := [(.long (2 : Int64))]) (W := 2) (met_unt1 l Z a0 hw a xq wq 0 uq_447 gq_447 T447.heap n0 z457 f447_0 f447_1 f447_3 f447_4 (by first | assumption | decide | omega) f447_2) (hb hby d4_35) rfl rfl rfl (lenOf pd4 rfl) (by show 2 * 0 + _ ≤ _; exact Nat.le_of_eq rfl) (by decide) (by decide) (by decide) (by decide) (by decide) ?_
  intro T456 v456 L456 X456 q456
  obtain ⟨rfl, M456, e456⟩ := q456
  have N456 := Fr.app N447 M456
  show Go p e below s _ _ _ T456 (mkF m 38 #[.val (.ref a), .val (.long xq), .second, .val (.long (3 : Int64)), .second, .val (.long wq), .second, .unset, .unset, .unset] [(.long ((gq_447 0) + wq - xq)), (.long (2 : Int64))])
  refine go_callS X456 hx hZ hml hown (hw _ (List.mem_of_getElem? (i := 75) rfl)) (hw _ (List.mem_of_getElem? (i := 76) rfl)) (hw _ (List.mem_of_getElem? (i := 77) rfl)) (hw _ (List.mem_of_getElem? (i := 78) rfl)) e456 (argsL := [(.long (2 : Int64)), (.long ((gq_447 0) + wq - xq))]) (rest := []) (W := 0) (met_adm l Z a0 hw (2 : Int64) ((gq_447 0) + wq - xq) T447.heap n0 z457 (by first | assumption | decide | omega) (own_reset0 p447_0 P7 P8)) (hb hby d4_38) rfl rfl rfl (lenOf pd9 rfl) (by show 2 * 0 + _ ≤ _; exact Nat.le_of_eq rfl) (by decide) (by decide) (by decide) (by decide) (by decide) ?_
  intro T458 v458 L458 X458 q458
  obtain ⟨dq_458, rfl, M458, K458, fz458_dq, f458_0⟩ := q458
  have N458 := Fr.app N456 M458
  have c459 : a < T447.heap.size := Nat.lt_of_lt_of_le c450 K447.1
  have ne460 : a ≠ dq_458 := Nat.ne_of_lt (Nat.lt_of_lt_of_le c459 fz458_dq)
  have c461 : tq < T447.heap.size := Nat.lt_of_lt_of_le c452 K447.1
  have ne462 : tq ≠ dq_458 := Nat.ne_of_lt (Nat.lt_of_lt_of_le c461 fz458_dq)
  have ne463 : uq_447 ≠ dq_458 := Nat.ne_of_lt (Nat.lt_of_lt_of_le lt_uq_447 fz458_dq)
  have nw_dq_458 : n0 ≤ dq_458 := Nat.le_trans z457 fz458_dq
  have y464 : h0.size ≤ T447.heap.size := Nat.le_trans y454 K447.1
  have lt_dq_458 : dq_458 < T458.heap.size := f458_0.lt
  show Go p e below s _ _ _ T458 (mkF m 41 #[.val (.ref a), .val (.long xq), .second, .val (.long (3 : Int64)), .second, .val (.long wq), .second, .unset, .unset, .unset] [(.ref dq_458)])
  refine go_st (fun _ kq => XS.astore X458.here hx rfl (hb hby d4_41) rfl rfl (l' := #[.val (.ref a), .val (.long xq), .second, .val (.long (3 : Int64)), .second, .val (.long wq), .second, .val (.ref dq_458), .unset, .unset]) rfl kq) ?_
  show Go p e below s _ _ _ T458 (mkF m 43 #[.val (.ref a), .val (.long xq), .second, .val (.long (3 : Int64)), .second, .val (.long wq), .second, .val (.ref dq_458), .unset, .unset] [])
  refine go_st (fun _ kq => XS.goto X458.here hx rfl (pc0 := 43) (pc' := 79) rfl (hb hby d4_43) (by decide) (by decide) kq) ?_
  show Go p e below s _ _ _ T458 (mkF m 79 #[.val (.ref a), .val (.long xq), .second, .val (.long (3 : Int64)), .second, .val (.long wq), .second, .val (.ref dq_458), .unset, .unset] [])
  refine go_st (fun _ kq => XS.aload X458.here hx rfl (hb hby d4_79) rfl rfl kq) ?_
  show Go p e below s _ _ _ T458 (mkF m 81 #[.val (.ref a), .val (.long xq), .second, .val (.long (3 : Int64)), .second, .val (.long wq), .second, .val (.ref dq_458), .unset, .unset] [(.ref dq_458)])
  have c465 := Exa.keep f447_0 K458
  have c466 := Fld.keep f447_1 K458 nin0
  have c467 := Fld.keep f447_2 K458 nin0
  have c468 := Fld.keep f447_3 K458 nin0
  have c469 := GA.keep f447_4 K458 nin0
  exact go_retA X458 hx hlk hret rfl rfl (hb hby d4_81) (by decide) (by decide) ⟨uq_447, gq_447, dq_458, rfl, N458, (Keep.trans (Keep.trans (Keep.trans (Keep.refl h0 [a]) K445 (allS (Or.inl (by simp)) all0)) K447 (allS (Or.inl (by simp)) all0)) K458 all0), (Nat.le_trans y454 fz447_uq), (Nat.le_trans y464 fz458_dq), p447_0, c465, c466, c467, c468, c469⟩
theorem d17_0 : decode prog_17_method_4_code 0 = .ok (.aload_n 0, 1) := by decide +kernel
theorem d17_1 : decode prog_17_method_4_code 1 = .ok (.getfield 20, 3) := by decide +kernel
theorem d17_4 : decode prog_17_method_4_code 4 = .ok (.ifCond .eq 20, 3) := by decide +kernel
theorem d17_7 : decode prog_17_method_4_code 7 = .ok (.aload_n 0, 1) := by decide +kernel
theorem d17_8 : decode prog_17_method_4_code 8 = .ok (.aload_n 0, 1) := by decide +kernel
theorem d17_9 : decode prog_17_method_4_code 9 = .ok (.getfield 20, 3) := by decide +kernel
theorem d17_12 : decode prog_17_method_4_code 12 = .ok (.iconst 1, 1) := by decide +kernel
theorem d17_13 : decode prog_17_method_4_code 13 = .ok (.isub, 1) := by decide +kernel
theorem d17_14 : decode prog_17_method_4_code 14 = .ok (.invokevirtual 38, 3) := by decide +kernel
theorem d17_17 : decode prog_17_method_4_code 17 = .ok (.lload_n 1, 1) := by decide +kernel
theorem d17_18 : decode prog_17_method_4_code 18 = .ok (.lload_n 3, 1) := by decide +kernel
theorem d17_19 : decode prog_17_method_4_code 19 = .ok (.lsub, 1) := by decide +kernel
theorem d17_20 : decode prog_17_method_4_code 20 = .ok (.lcmp, 1) := by decide +kernel
theorem d17_21 : decode prog_17_method_4_code 21 = .ok (.ifCond .gt 7, 3) := by decide +kernel
theorem d17_24 : decode prog_17_method_4_code 24 = .ok (.iconst 1, 1) := by decide +kernel
theorem d17_25 : decode prog_17_method_4_code 25 = .ok (.goto 4, 3) := by decide +kernel
theorem d17_28 : decode prog_17_method_4_code 28 = .ok (.iconst 0, 1) := by decide +kernel
theorem d17_29 : decode prog_17_method_4_code 29 = .ok (.ireturn, 1) := by decide +kernel
theorem pn13 : plainFor (⟨"com/example/aforo/aforo/SlidingLog", "isIdle", "(JJ)Z"⟩ : MethodName) = true := by first | (refine plainFor_of_name ?_; simp [plainName, overriddenIn]; done) | (refine plainFor_of_name ?_; decide +kernel) | decide +kernel
def fIdl1 (fq : Nat → Int64) (hq : Nat) (xq : Int64) (yq : Int64) : Int32 := (if (xq - yq) < (fq ((hq + 0) % 3)) then (0 : Int32) else (1 : Int32))
theorem ef_idl1 (m : MethodId) (a : Addr) (xq : Int64) (yq : Int64) (hq : Nat) (tq : Addr) (fq : Nat → Int64) : entryFrame m #[(.ref a), (.long xq), (.long yq)] 5 = mkF m 0 #[.val (.ref a), .val (.long xq), .second, .val (.long yq), .second] [] := by first | (simp [entryFrame, mkF, argsToLocals, Value.category]; done) | rfl
abbrev rm_idl1 : Room := ({ frames := 2, cells := 0, slots := 0, locals := 28 } : Room)
set_option maxRecDepth 65536 in
set_option maxHeartbeats 4000000 in
theorem met_idl1 (l : Launch) (Z : State) (a0 : Array Value) (hw : ∀ d ∈ tables_1, d.before a0 Z = true) (a : Addr) (xq : Int64) (yq : Int64) (hq : Nat) (tq : Addr) (fq : Nat → Int64) (h0 : Heap) (n0 : Nat) (Z0 : n0 ≤ h0.size) (P0 : Exa Z h0 a "com/example/aforo/aforo/SlidingLog") (P1 : Fld Z h0 a "com/example/aforo/aforo/SlidingLog" "head" "I" (.int (Int32.ofNat hq))) (P2 : Fld Z h0 a "com/example/aforo/aforo/SlidingLog" "times" "[J" (.ref tq)) (P3 : GA Z h0 tq .long 3 (fun i => .long (fq i))) (P4 : hq < 3) (P5 : Fld Z h0 a "com/example/aforo/aforo/SlidingLog" "size" "I" (.int (1 : Int32))) :
    Met l (⟨"com/example/aforo/aforo/SlidingLog", "isIdle", "(JJ)Z"⟩ : MethodName) prog_17_method_4_code 5 (some FieldType.boolean) [] rm_idl1 Z #[(.ref a), (.long xq), (.long yq)] h0 (QV (some (.int (fIdl1 fq hq xq yq))) h0 n0) 0 0 := by
  refine own_body pn13 ?_
  intro p e s m below meth c s₁ ct X0 e0
  have ct0 := ct
  obtain ⟨hx, hZ, hown, hby, hml, hret, hlk, hnm⟩ := ct
  have N0 := Fr.nil n0
  refine castGo (ef_idl1 m a xq yq hq tq fq) ?_
  unfold fIdl1
  show Go p e below s _ _ _ s₁ (mkF m 0 #[.val (.ref a), .val (.long xq), .second, .val (.long yq), .second] [])
  refine go_st (fun _ kq => XS.aloadN X0.here hx rfl (hb hby d17_0) rfl rfl kq) ?_
  show Go p e below s _ _ _ s₁ (mkF m 1 #[.val (.ref a), .val (.long xq), .second, .val (.long yq), .second] [(.ref a)])
  refine go_getF X0 hx hZ hown (host := "") (Or.inl (hw _ (List.mem_of_getElem? (i := 34) rfl))) Via.refl e0 P5 (hb hby d17_1) rfl rfl ?_
  intro T470 X470 e470
  show Go p e below s _ _ _ T470 (mkF m 4 #[.val (.ref a), .val (.long xq), .second, .val (.long yq), .second] [(.int (1 : Int32))])
  refine go_st (fun _ kq => XS.ifNo X470.here hx rfl (hb hby d17_4) rfl (XT.i0_eq_f (by decide)) kq) ?_
  show Go p e below s _ _ _ T470 (mkF m 7 #[.val (.ref a), .val (.long xq), .second, .val (.long yq), .second] [])
  refine go_st (fun _ kq => XS.aloadN X470.here hx rfl (hb hby d17_7) rfl rfl kq) ?_
  show Go p e below s _ _ _ T470 (mkF m 8 #[.val (.ref a), .val (.long xq), .second, .val (.long yq), .second] [(.ref a)])
  refine go_st (fun _ kq => XS.aloadN X470.here hx rfl (hb hby d17_8) rfl rfl kq) ?_
  show Go p e below s _ _ _ T470 (mkF m 9 #[.val (.ref a), .val (.long xq), .second, .val (.long yq), .second] [(.ref a), (.ref a)])
  refine go_getF X470 hx hZ hown (host := "") (Or.inl (hw _ (List.mem_of_getElem? (i := 34) rfl))) Via.refl e470 P5 (hb hby d17_9) rfl rfl ?_
  intro T471 X471 e471
  show Go p e below s _ _ _ T471 (mkF m 12 #[.val (.ref a), .val (.long xq), .second, .val (.long yq), .second] [(.int (1 : Int32)), (.ref a)])
  refine go_st (fun _ kq => XT.iconstV X471.here hx rfl (1 : Int32) (hb hby d17_12) (by decide) kq) ?_
  show Go p e below s _ _ _ T471 (mkF m 13 #[.val (.ref a), .val (.long xq), .second, .val (.long yq), .second] [(.int (1 : Int32)), (.int (1 : Int32)), (.ref a)])
  refine go_st (fun _ kq => XS.isub X471.here hx rfl (hb hby d17_13) rfl kq) ?_
  rw [show ((1 : Int32) - (1 : Int32)) = (0 : Int32) from by decide +kernel]
  show Go p e below s _ _ _ T471 (mkF m 14 #[.val (.ref a), .val (.long xq), .second, .val (.long yq), .second] [(.int (0 : Int32)), (.ref a)])
  refine go_callP X471 hx hZ hml hown (hw _ (List.mem_of_getElem? (i := 71) rfl)) (hw _ (List.mem_of_getElem? (i := 73) rfl)) (hw _ (List.mem_of_getElem? (i := 1) rfl)) (hw _ (List.mem_of_getElem? (i := 72) rfl)) (hw _ (List.mem_of_getElem? (i := 74) rfl)) (hw _ (List.mem_of_getElem? (i := 2) rfl)) e471 P0 (argsL := [(.int (0 : Int32))]) (rest := []) (W := 0) (met_14 l Z a0 hw a 0 hq tq fq h0 n0 Z0 P0 P1 P2 P3 P4 (by first | assumption | decide | omega)) (hb hby d17_14) rfl rfl rfl (lenOf pd1 rfl) (by show 2 * 0 + _ ≤ _; exact Nat.le_of_eq rfl) (by decide) (by decide) (by decide) (by decide) (by decide) ?_
  intro T472 v472 L472 X472 q472
  obtain ⟨rfl, M472, e472⟩ := q472
  have N472 := Fr.app N0 M472
  show Go p e below s _ _ _ T472 (mkF m 17 #[.val (.ref a), .val (.long xq), .second, .val (.long yq), .second] [(.long (fq ((hq + 0) % 3)))])
  refine go_st (fun _ kq => XT.lloadN X472.here hx rfl (hb hby d17_17) rfl kq) ?_
  show Go p e below s _ _ _ T472 (mkF m 18 #[.val (.ref a), .val (.long xq), .second, .val (.long yq), .second] [(.long xq), (.long (fq ((hq + 0) % 3)))])
  refine go_st (fun _ kq => XT.lloadN X472.here hx rfl (hb hby d17_18) rfl kq) ?_
  show Go p e below s _ _ _ T472 (mkF m 19 #[.val (.ref a), .val (.long xq), .second, .val (.long yq), .second] [(.long yq), (.long xq), (.long (fq ((hq + 0) % 3)))])
  refine go_st (fun _ kq => XT.lsub X472.here hx rfl (hb hby d17_19) rfl kq) ?_
  show Go p e below s _ _ _ T472 (mkF m 20 #[.val (.ref a), .val (.long xq), .second, .val (.long yq), .second] [(.long (xq - yq)), (.long (fq ((hq + 0) % 3)))])
  refine go_st (fun _ kq => XT.lcmp X472.here hx rfl (hb hby d17_20) rfl kq) ?_
  show Go p e below s _ _ _ T472 (mkF m 21 #[.val (.ref a), .val (.long xq), .second, .val (.long yq), .second] [(.int (XT.cmpL (fq ((hq + 0) % 3)) (xq - yq)))])
  by_cases hc473 : (xq - yq) < (fq ((hq + 0) % 3))
  · rw [if_pos hc473]
    refine go_st (fun _ kq => XS.ifYes X472.here hx rfl (pc0 := 21) (pc' := 28) rfl (hb hby d17_21) rfl (XT.ll_gt_t hc473) (by decide) (by decide) kq) ?_
    show Go p e below s _ _ _ T472 (mkF m 28 #[.val (.ref a), .val (.long xq), .second, .val (.long yq), .second] [])
    refine go_st (fun _ kq => XT.iconstV X472.here hx rfl (0 : Int32) (hb hby d17_28) (by decide) kq) ?_
    show Go p e below s _ _ _ T472 (mkF m 29 #[.val (.ref a), .val (.long xq), .second, .val (.long yq), .second] [(.int (0 : Int32))])
    exact go_retB (w := (0 : Int32)) X472 hx hlk hret (hb hby d17_29) (by decide) (by decide) (by decide) ⟨rfl, N472, e472⟩
  · rw [if_neg hc473]
    refine go_st (fun _ kq => XS.ifNo X472.here hx rfl (hb hby d17_21) rfl (XT.ll_gt_f hc473) kq) ?_
    show Go p e below s _ _ _ T472 (mkF m 24 #[.val (.ref a), .val (.long xq), .second, .val (.long yq), .second] [])
    refine go_st (fun _ kq => XT.iconstV X472.here hx rfl (1 : Int32) (hb hby d17_24) (by decide) kq) ?_
    show Go p e below s _ _ _ T472 (mkF m 25 #[.val (.ref a), .val (.long xq), .second, .val (.long yq), .second] [(.int (1 : Int32))])
    refine go_st (fun _ kq => XS.goto X472.here hx rfl (pc0 := 25) (pc' := 29) rfl (hb hby d17_25) (by decide) (by decide) kq) ?_
    show Go p e below s _ _ _ T472 (mkF m 29 #[.val (.ref a), .val (.long xq), .second, .val (.long yq), .second] [(.int (1 : Int32))])
    exact go_retB (w := (1 : Int32)) X472 hx hlk hret (hb hby d17_29) (by decide) (by decide) (by decide) ⟨rfl, N472, e472⟩
def fIdl2 (fq : Nat → Int64) (hq : Nat) (xq : Int64) (yq : Int64) : Int32 := (if (xq - yq) < (fq ((hq + 1) % 3)) then (0 : Int32) else (1 : Int32))
theorem ef_idl2 (m : MethodId) (a : Addr) (xq : Int64) (yq : Int64) (hq : Nat) (tq : Addr) (fq : Nat → Int64) : entryFrame m #[(.ref a), (.long xq), (.long yq)] 5 = mkF m 0 #[.val (.ref a), .val (.long xq), .second, .val (.long yq), .second] [] := by first | (simp [entryFrame, mkF, argsToLocals, Value.category]; done) | rfl
abbrev rm_idl2 : Room := ({ frames := 2, cells := 0, slots := 0, locals := 28 } : Room)
set_option maxRecDepth 65536 in
set_option maxHeartbeats 4000000 in
theorem met_idl2 (l : Launch) (Z : State) (a0 : Array Value) (hw : ∀ d ∈ tables_1, d.before a0 Z = true) (a : Addr) (xq : Int64) (yq : Int64) (hq : Nat) (tq : Addr) (fq : Nat → Int64) (h0 : Heap) (n0 : Nat) (Z0 : n0 ≤ h0.size) (P0 : Exa Z h0 a "com/example/aforo/aforo/SlidingLog") (P1 : Fld Z h0 a "com/example/aforo/aforo/SlidingLog" "head" "I" (.int (Int32.ofNat hq))) (P2 : Fld Z h0 a "com/example/aforo/aforo/SlidingLog" "times" "[J" (.ref tq)) (P3 : GA Z h0 tq .long 3 (fun i => .long (fq i))) (P4 : hq < 3) (P5 : Fld Z h0 a "com/example/aforo/aforo/SlidingLog" "size" "I" (.int (2 : Int32))) :
    Met l (⟨"com/example/aforo/aforo/SlidingLog", "isIdle", "(JJ)Z"⟩ : MethodName) prog_17_method_4_code 5 (some FieldType.boolean) [] rm_idl2 Z #[(.ref a), (.long xq), (.long yq)] h0 (QV (some (.int (fIdl2 fq hq xq yq))) h0 n0) 0 0 := by
  refine own_body pn13 ?_
  intro p e s m below meth c s₁ ct X0 e0
  have ct0 := ct
  obtain ⟨hx, hZ, hown, hby, hml, hret, hlk, hnm⟩ := ct
  have N0 := Fr.nil n0
  refine castGo (ef_idl2 m a xq yq hq tq fq) ?_
  unfold fIdl2
  show Go p e below s _ _ _ s₁ (mkF m 0 #[.val (.ref a), .val (.long xq), .second, .val (.long yq), .second] [])
  refine go_st (fun _ kq => XS.aloadN X0.here hx rfl (hb hby d17_0) rfl rfl kq) ?_
  show Go p e below s _ _ _ s₁ (mkF m 1 #[.val (.ref a), .val (.long xq), .second, .val (.long yq), .second] [(.ref a)])
  refine go_getF X0 hx hZ hown (host := "") (Or.inl (hw _ (List.mem_of_getElem? (i := 34) rfl))) Via.refl e0 P5 (hb hby d17_1) rfl rfl ?_
  intro T474 X474 e474
  show Go p e below s _ _ _ T474 (mkF m 4 #[.val (.ref a), .val (.long xq), .second, .val (.long yq), .second] [(.int (2 : Int32))])
  refine go_st (fun _ kq => XS.ifNo X474.here hx rfl (hb hby d17_4) rfl (XT.i0_eq_f (by decide)) kq) ?_
  show Go p e below s _ _ _ T474 (mkF m 7 #[.val (.ref a), .val (.long xq), .second, .val (.long yq), .second] [])
  refine go_st (fun _ kq => XS.aloadN X474.here hx rfl (hb hby d17_7) rfl rfl kq) ?_
  show Go p e below s _ _ _ T474 (mkF m 8 #[.val (.ref a), .val (.long xq), .second, .val (.long yq), .second] [(.ref a)])
  refine go_st (fun _ kq => XS.aloadN X474.here hx rfl (hb hby d17_8) rfl rfl kq) ?_
  show Go p e below s _ _ _ T474 (mkF m 9 #[.val (.ref a), .val (.long xq), .second, .val (.long yq), .second] [(.ref a), (.ref a)])
  refine go_getF X474 hx hZ hown (host := "") (Or.inl (hw _ (List.mem_of_getElem? (i := 34) rfl))) Via.refl e474 P5 (hb hby d17_9) rfl rfl ?_
  intro T475 X475 e475
  show Go p e below s _ _ _ T475 (mkF m 12 #[.val (.ref a), .val (.long xq), .second, .val (.long yq), .second] [(.int (2 : Int32)), (.ref a)])
  refine go_st (fun _ kq => XT.iconstV X475.here hx rfl (1 : Int32) (hb hby d17_12) (by decide) kq) ?_
  show Go p e below s _ _ _ T475 (mkF m 13 #[.val (.ref a), .val (.long xq), .second, .val (.long yq), .second] [(.int (1 : Int32)), (.int (2 : Int32)), (.ref a)])
  refine go_st (fun _ kq => XS.isub X475.here hx rfl (hb hby d17_13) rfl kq) ?_
  rw [show ((2 : Int32) - (1 : Int32)) = (1 : Int32) from by decide +kernel]
  show Go p e below s _ _ _ T475 (mkF m 14 #[.val (.ref a), .val (.long xq), .second, .val (.long yq), .second] [(.int (1 : Int32)), (.ref a)])
  refine go_callP X475 hx hZ hml hown (hw _ (List.mem_of_getElem? (i := 71) rfl)) (hw _ (List.mem_of_getElem? (i := 73) rfl)) (hw _ (List.mem_of_getElem? (i := 1) rfl)) (hw _ (List.mem_of_getElem? (i := 72) rfl)) (hw _ (List.mem_of_getElem? (i := 74) rfl)) (hw _ (List.mem_of_getElem? (i := 2) rfl)) e475 P0 (argsL := [(.int (1 : Int32))]) (rest := []) (W := 0) (met_14 l Z a0 hw a 1 hq tq fq h0 n0 Z0 P0 P1 P2 P3 P4 (by first | assumption | decide | omega)) (hb hby d17_14) rfl rfl rfl (lenOf pd1 rfl) (by show 2 * 0 + _ ≤ _; exact Nat.le_of_eq rfl) (by decide) (by decide) (by decide) (by decide) (by decide) ?_
  intro T476 v476 L476 X476 q476
  obtain ⟨rfl, M476, e476⟩ := q476
  have N476 := Fr.app N0 M476
  show Go p e below s _ _ _ T476 (mkF m 17 #[.val (.ref a), .val (.long xq), .second, .val (.long yq), .second] [(.long (fq ((hq + 1) % 3)))])
  refine go_st (fun _ kq => XT.lloadN X476.here hx rfl (hb hby d17_17) rfl kq) ?_
  show Go p e below s _ _ _ T476 (mkF m 18 #[.val (.ref a), .val (.long xq), .second, .val (.long yq), .second] [(.long xq), (.long (fq ((hq + 1) % 3)))])
  refine go_st (fun _ kq => XT.lloadN X476.here hx rfl (hb hby d17_18) rfl kq) ?_
  show Go p e below s _ _ _ T476 (mkF m 19 #[.val (.ref a), .val (.long xq), .second, .val (.long yq), .second] [(.long yq), (.long xq), (.long (fq ((hq + 1) % 3)))])
  refine go_st (fun _ kq => XT.lsub X476.here hx rfl (hb hby d17_19) rfl kq) ?_
  show Go p e below s _ _ _ T476 (mkF m 20 #[.val (.ref a), .val (.long xq), .second, .val (.long yq), .second] [(.long (xq - yq)), (.long (fq ((hq + 1) % 3)))])
  refine go_st (fun _ kq => XT.lcmp X476.here hx rfl (hb hby d17_20) rfl kq) ?_
  show Go p e below s _ _ _ T476 (mkF m 21 #[.val (.ref a), .val (.long xq), .second, .val (.long yq), .second] [(.int (XT.cmpL (fq ((hq + 1) % 3)) (xq - yq)))])
  by_cases hc477 : (xq - yq) < (fq ((hq + 1) % 3))
  · rw [if_pos hc477]
    refine go_st (fun _ kq => XS.ifYes X476.here hx rfl (pc0 := 21) (pc' := 28) rfl (hb hby d17_21) rfl (XT.ll_gt_t hc477) (by decide) (by decide) kq) ?_
    show Go p e below s _ _ _ T476 (mkF m 28 #[.val (.ref a), .val (.long xq), .second, .val (.long yq), .second] [])
    refine go_st (fun _ kq => XT.iconstV X476.here hx rfl (0 : Int32) (hb hby d17_28) (by decide) kq) ?_
    show Go p e below s _ _ _ T476 (mkF m 29 #[.val (.ref a), .val (.long xq), .second, .val (.long yq), .second] [(.int (0 : Int32))])
    exact go_retB (w := (0 : Int32)) X476 hx hlk hret (hb hby d17_29) (by decide) (by decide) (by decide) ⟨rfl, N476, e476⟩
  · rw [if_neg hc477]
    refine go_st (fun _ kq => XS.ifNo X476.here hx rfl (hb hby d17_21) rfl (XT.ll_gt_f hc477) kq) ?_
    show Go p e below s _ _ _ T476 (mkF m 24 #[.val (.ref a), .val (.long xq), .second, .val (.long yq), .second] [])
    refine go_st (fun _ kq => XT.iconstV X476.here hx rfl (1 : Int32) (hb hby d17_24) (by decide) kq) ?_
    show Go p e below s _ _ _ T476 (mkF m 25 #[.val (.ref a), .val (.long xq), .second, .val (.long yq), .second] [(.int (1 : Int32))])
    refine go_st (fun _ kq => XS.goto X476.here hx rfl (pc0 := 25) (pc' := 29) rfl (hb hby d17_25) (by decide) (by decide) kq) ?_
    show Go p e below s _ _ _ T476 (mkF m 29 #[.val (.ref a), .val (.long xq), .second, .val (.long yq), .second] [(.int (1 : Int32))])
    exact go_retB (w := (1 : Int32)) X476 hx hlk hret (hb hby d17_29) (by decide) (by decide) (by decide) ⟨rfl, N476, e476⟩
def fIdl3 (fq : Nat → Int64) (hq : Nat) (xq : Int64) (yq : Int64) : Int32 := (if (xq - yq) < (fq ((hq + 2) % 3)) then (0 : Int32) else (1 : Int32))
theorem ef_idl3 (m : MethodId) (a : Addr) (xq : Int64) (yq : Int64) (hq : Nat) (tq : Addr) (fq : Nat → Int64) : entryFrame m #[(.ref a), (.long xq), (.long yq)] 5 = mkF m 0 #[.val (.ref a), .val (.long xq), .second, .val (.long yq), .second] [] := by first | (simp [entryFrame, mkF, argsToLocals, Value.category]; done) | rfl
abbrev rm_idl3 : Room := ({ frames := 2, cells := 0, slots := 0, locals := 28 } : Room)
set_option maxRecDepth 65536 in
set_option maxHeartbeats 4000000 in
theorem met_idl3 (l : Launch) (Z : State) (a0 : Array Value) (hw : ∀ d ∈ tables_1, d.before a0 Z = true) (a : Addr) (xq : Int64) (yq : Int64) (hq : Nat) (tq : Addr) (fq : Nat → Int64) (h0 : Heap) (n0 : Nat) (Z0 : n0 ≤ h0.size) (P0 : Exa Z h0 a "com/example/aforo/aforo/SlidingLog") (P1 : Fld Z h0 a "com/example/aforo/aforo/SlidingLog" "head" "I" (.int (Int32.ofNat hq))) (P2 : Fld Z h0 a "com/example/aforo/aforo/SlidingLog" "times" "[J" (.ref tq)) (P3 : GA Z h0 tq .long 3 (fun i => .long (fq i))) (P4 : hq < 3) (P5 : Fld Z h0 a "com/example/aforo/aforo/SlidingLog" "size" "I" (.int (3 : Int32))) :
    Met l (⟨"com/example/aforo/aforo/SlidingLog", "isIdle", "(JJ)Z"⟩ : MethodName) prog_17_method_4_code 5 (some FieldType.boolean) [] rm_idl3 Z #[(.ref a), (.long xq), (.long yq)] h0 (QV (some (.int (fIdl3 fq hq xq yq))) h0 n0) 0 0 := by
  refine own_body pn13 ?_
  intro p e s m below meth c s₁ ct X0 e0
  have ct0 := ct
  obtain ⟨hx, hZ, hown, hby, hml, hret, hlk, hnm⟩ := ct
  have N0 := Fr.nil n0
  refine castGo (ef_idl3 m a xq yq hq tq fq) ?_
  unfold fIdl3
  show Go p e below s _ _ _ s₁ (mkF m 0 #[.val (.ref a), .val (.long xq), .second, .val (.long yq), .second] [])
  refine go_st (fun _ kq => XS.aloadN X0.here hx rfl (hb hby d17_0) rfl rfl kq) ?_
  show Go p e below s _ _ _ s₁ (mkF m 1 #[.val (.ref a), .val (.long xq), .second, .val (.long yq), .second] [(.ref a)])
  refine go_getF X0 hx hZ hown (host := "") (Or.inl (hw _ (List.mem_of_getElem? (i := 34) rfl))) Via.refl e0 P5 (hb hby d17_1) rfl rfl ?_
  intro T478 X478 e478
  show Go p e below s _ _ _ T478 (mkF m 4 #[.val (.ref a), .val (.long xq), .second, .val (.long yq), .second] [(.int (3 : Int32))])
  refine go_st (fun _ kq => XS.ifNo X478.here hx rfl (hb hby d17_4) rfl (XT.i0_eq_f (by decide)) kq) ?_
  show Go p e below s _ _ _ T478 (mkF m 7 #[.val (.ref a), .val (.long xq), .second, .val (.long yq), .second] [])
  refine go_st (fun _ kq => XS.aloadN X478.here hx rfl (hb hby d17_7) rfl rfl kq) ?_
  show Go p e below s _ _ _ T478 (mkF m 8 #[.val (.ref a), .val (.long xq), .second, .val (.long yq), .second] [(.ref a)])
  refine go_st (fun _ kq => XS.aloadN X478.here hx rfl (hb hby d17_8) rfl rfl kq) ?_
  show Go p e below s _ _ _ T478 (mkF m 9 #[.val (.ref a), .val (.long xq), .second, .val (.long yq), .second] [(.ref a), (.ref a)])
  refine go_getF X478 hx hZ hown (host := "") (Or.inl (hw _ (List.mem_of_getElem? (i := 34) rfl))) Via.refl e478 P5 (hb hby d17_9) rfl rfl ?_
  intro T479 X479 e479
  show Go p e below s _ _ _ T479 (mkF m 12 #[.val (.ref a), .val (.long xq), .second, .val (.long yq), .second] [(.int (3 : Int32)), (.ref a)])
  refine go_st (fun _ kq => XT.iconstV X479.here hx rfl (1 : Int32) (hb hby d17_12) (by decide) kq) ?_
  show Go p e below s _ _ _ T479 (mkF m 13 #[.val (.ref a), .val (.long xq), .second, .val (.long yq), .second] [(.int (1 : Int32)), (.int (3 : Int32)), (.ref a)])
  refine go_st (fun _ kq => XS.isub X479.here hx rfl (hb hby d17_13) rfl kq) ?_
  rw [show ((3 : Int32) - (1 : Int32)) = (2 : Int32) from by decide +kernel]
  show Go p e below s _ _ _ T479 (mkF m 14 #[.val (.ref a), .val (.long xq), .second, .val (.long yq), .second] [(.int (2 : Int32)), (.ref a)])
  refine go_callP X479 hx hZ hml hown (hw _ (List.mem_of_getElem? (i := 71) rfl)) (hw _ (List.mem_of_getElem? (i := 73) rfl)) (hw _ (List.mem_of_getElem? (i := 1) rfl)) (hw _ (List.mem_of_getElem? (i := 72) rfl)) (hw _ (List.mem_of_getElem? (i := 74) rfl)) (hw _ (List.mem_of_getElem? (i := 2) rfl)) e479 P0 (argsL := [(.int (2 : Int32))]) (rest := []) (W := 0) (met_14 l Z a0 hw a 2 hq tq fq h0 n0 Z0 P0 P1 P2 P3 P4 (by first | assumption | decide | omega)) (hb hby d17_14) rfl rfl rfl (lenOf pd1 rfl) (by show 2 * 0 + _ ≤ _; exact Nat.le_of_eq rfl) (by decide) (by decide) (by decide) (by decide) (by decide) ?_
  intro T480 v480 L480 X480 q480
  obtain ⟨rfl, M480, e480⟩ := q480
  have N480 := Fr.app N0 M480
  show Go p e below s _ _ _ T480 (mkF m 17 #[.val (.ref a), .val (.long xq), .second, .val (.long yq), .second] [(.long (fq ((hq + 2) % 3)))])
  refine go_st (fun _ kq => XT.lloadN X480.here hx rfl (hb hby d17_17) rfl kq) ?_
  show Go p e below s _ _ _ T480 (mkF m 18 #[.val (.ref a), .val (.long xq), .second, .val (.long yq), .second] [(.long xq), (.long (fq ((hq + 2) % 3)))])
  refine go_st (fun _ kq => XT.lloadN X480.here hx rfl (hb hby d17_18) rfl kq) ?_
  show Go p e below s _ _ _ T480 (mkF m 19 #[.val (.ref a), .val (.long xq), .second, .val (.long yq), .second] [(.long yq), (.long xq), (.long (fq ((hq + 2) % 3)))])
  refine go_st (fun _ kq => XT.lsub X480.here hx rfl (hb hby d17_19) rfl kq) ?_
  show Go p e below s _ _ _ T480 (mkF m 20 #[.val (.ref a), .val (.long xq), .second, .val (.long yq), .second] [(.long (xq - yq)), (.long (fq ((hq + 2) % 3)))])
  refine go_st (fun _ kq => XT.lcmp X480.here hx rfl (hb hby d17_20) rfl kq) ?_
  show Go p e below s _ _ _ T480 (mkF m 21 #[.val (.ref a), .val (.long xq), .second, .val (.long yq), .second] [(.int (XT.cmpL (fq ((hq + 2) % 3)) (xq - yq)))])
  by_cases hc481 : (xq - yq) < (fq ((hq + 2) % 3))
  · rw [if_pos hc481]
    refine go_st (fun _ kq => XS.ifYes X480.here hx rfl (pc0 := 21) (pc' := 28) rfl (hb hby d17_21) rfl (XT.ll_gt_t hc481) (by decide) (by decide) kq) ?_
    show Go p e below s _ _ _ T480 (mkF m 28 #[.val (.ref a), .val (.long xq), .second, .val (.long yq), .second] [])
    refine go_st (fun _ kq => XT.iconstV X480.here hx rfl (0 : Int32) (hb hby d17_28) (by decide) kq) ?_
    show Go p e below s _ _ _ T480 (mkF m 29 #[.val (.ref a), .val (.long xq), .second, .val (.long yq), .second] [(.int (0 : Int32))])
    exact go_retB (w := (0 : Int32)) X480 hx hlk hret (hb hby d17_29) (by decide) (by decide) (by decide) ⟨rfl, N480, e480⟩
  · rw [if_neg hc481]
    refine go_st (fun _ kq => XS.ifNo X480.here hx rfl (hb hby d17_21) rfl (XT.ll_gt_f hc481) kq) ?_
    show Go p e below s _ _ _ T480 (mkF m 24 #[.val (.ref a), .val (.long xq), .second, .val (.long yq), .second] [])
    refine go_st (fun _ kq => XT.iconstV X480.here hx rfl (1 : Int32) (hb hby d17_24) (by decide) kq) ?_
    show Go p e below s _ _ _ T480 (mkF m 25 #[.val (.ref a), .val (.long xq), .second, .val (.long yq), .second] [(.int (1 : Int32))])
    refine go_st (fun _ kq => XS.goto X480.here hx rfl (pc0 := 25) (pc' := 29) rfl (hb hby d17_25) (by decide) (by decide) kq) ?_
    show Go p e below s _ _ _ T480 (mkF m 29 #[.val (.ref a), .val (.long xq), .second, .val (.long yq), .second] [(.int (1 : Int32))])
    exact go_retB (w := (1 : Int32)) X480 hx hlk hret (hb hby d17_29) (by decide) (by decide) (by decide) ⟨rfl, N480, e480⟩
def fIdlZ  : Int32 := (1 : Int32)
theorem ef_idlz (m : MethodId) (a : Addr) (xq : Int64) (yq : Int64) : entryFrame m #[(.ref a), (.long xq), (.long yq)] 5 = mkF m 0 #[.val (.ref a), .val (.long xq), .second, .val (.long yq), .second] [] := by first | (simp [entryFrame, mkF, argsToLocals, Value.category]; done) | rfl
abbrev rm_idlz : Room := ({ frames := 0, cells := 0, slots := 0, locals := 0 } : Room)
set_option maxRecDepth 65536 in
set_option maxHeartbeats 4000000 in
theorem met_idlz (l : Launch) (Z : State) (a0 : Array Value) (hw : ∀ d ∈ tables_1, d.before a0 Z = true) (a : Addr) (xq : Int64) (yq : Int64) (h0 : Heap) (n0 : Nat) (Z0 : n0 ≤ h0.size) (P0 : Exa Z h0 a "com/example/aforo/aforo/SlidingLog") (P1 : Fld Z h0 a "com/example/aforo/aforo/SlidingLog" "size" "I" (.int (0 : Int32))) :
    Met l (⟨"com/example/aforo/aforo/SlidingLog", "isIdle", "(JJ)Z"⟩ : MethodName) prog_17_method_4_code 5 (some FieldType.boolean) [] rm_idlz Z #[(.ref a), (.long xq), (.long yq)] h0 (QV (some (.int (fIdlZ ))) h0 n0) 0 0 := by
  refine own_body pn13 ?_
  intro p e s m below meth c s₁ ct X0 e0
  have ct0 := ct
  obtain ⟨hx, hZ, hown, hby, hml, hret, hlk, hnm⟩ := ct
  have N0 := Fr.nil n0
  refine castGo (ef_idlz m a xq yq) ?_
  unfold fIdlZ
  show Go p e below s _ _ _ s₁ (mkF m 0 #[.val (.ref a), .val (.long xq), .second, .val (.long yq), .second] [])
  refine go_st (fun _ kq => XS.aloadN X0.here hx rfl (hb hby d17_0) rfl rfl kq) ?_
  show Go p e below s _ _ _ s₁ (mkF m 1 #[.val (.ref a), .val (.long xq), .second, .val (.long yq), .second] [(.ref a)])
  refine go_getF X0 hx hZ hown (host := "") (Or.inl (hw _ (List.mem_of_getElem? (i := 34) rfl))) Via.refl e0 P1 (hb hby d17_1) rfl rfl ?_
  intro T482 X482 e482
  show Go p e below s _ _ _ T482 (mkF m 4 #[.val (.ref a), .val (.long xq), .second, .val (.long yq), .second] [(.int (0 : Int32))])
  refine go_st (fun _ kq => XS.ifYes X482.here hx rfl (pc0 := 4) (pc' := 24) rfl (hb hby d17_4) rfl (XT.i0_eq_t (by decide)) (by decide) (by decide) kq) ?_
  show Go p e below s _ _ _ T482 (mkF m 24 #[.val (.ref a), .val (.long xq), .second, .val (.long yq), .second] [])
  refine go_st (fun _ kq => XT.iconstV X482.here hx rfl (1 : Int32) (hb hby d17_24) (by decide) kq) ?_
  show Go p e below s _ _ _ T482 (mkF m 25 #[.val (.ref a), .val (.long xq), .second, .val (.long yq), .second] [(.int (1 : Int32))])
  refine go_st (fun _ kq => XS.goto X482.here hx rfl (pc0 := 25) (pc' := 29) rfl (hb hby d17_25) (by decide) (by decide) kq) ?_
  show Go p e below s _ _ _ T482 (mkF m 29 #[.val (.ref a), .val (.long xq), .second, .val (.long yq), .second] [(.int (1 : Int32))])
  exact go_retB (w := (1 : Int32)) X482 hx hlk hret (hb hby d17_29) (by decide) (by decide) (by decide) ⟨rfl, N0, e482⟩
theorem own_idl1 {f : Nat → Int64} {h : Nat} {x y N : Int64} (e : f ((h + 0) % 3) = N) (rN : R32 N) (rx : R32 x) (ry : RW y) : (¬ x < N + y → fIdl1 f h x y = 1) ∧ (x < N + y → fIdl1 f h x y = 0) := by
  unfold fIdl1
  rw [e]
  have q := own_cmp rN rx ry
  constructor
  · intro hc
    rw [if_neg (fun z => hc (q.mp z))]
  · intro hc
    rw [if_pos (q.mpr hc)]
theorem own_idl2 {f : Nat → Int64} {h : Nat} {x y N : Int64} (e : f ((h + 1) % 3) = N) (rN : R32 N) (rx : R32 x) (ry : RW y) : (¬ x < N + y → fIdl2 f h x y = 1) ∧ (x < N + y → fIdl2 f h x y = 0) := by
  unfold fIdl2
  rw [e]
  have q := own_cmp rN rx ry
  constructor
  · intro hc
    rw [if_neg (fun z => hc (q.mp z))]
  · intro hc
    rw [if_pos (q.mpr hc)]
theorem own_idl3 {f : Nat → Int64} {h : Nat} {x y N : Int64} (e : f ((h + 2) % 3) = N) (rN : R32 N) (rx : R32 x) (ry : RW y) : (¬ x < N + y → fIdl3 f h x y = 1) ∧ (x < N + y → fIdl3 f h x y = 0) := by
  unfold fIdl3
  rw [e]
  have q := own_cmp rN rx ry
  constructor
  · intro hc
    rw [if_neg (fun z => hc (q.mp z))]
  · intro hc
    rw [if_pos (q.mpr hc)]
theorem d2_0 : decode prog_10_method_1_code 0 = .ok (.aload_n 0, 1) := by decide +kernel
theorem d2_1 : decode prog_10_method_1_code 1 = .ok (.invokespecial 1, 3) := by decide +kernel
theorem d2_4 : decode prog_10_method_1_code 4 = .ok (.return_, 1) := by decide +kernel
theorem pn14 : plainFor (⟨"com/example/aforo/aforo/KeyState", "<init>", "()V"⟩ : MethodName) = true := by first | (refine plainFor_of_name ?_; simp [plainName, overriddenIn]; done) | (refine plainFor_of_name ?_; decide +kernel) | decide +kernel
def Q_ksi (Z : State) (a : Addr) (h0 : Heap) (n0 : Nat) (v : Option Value) (h : Heap) (L : List Loc) : Prop := v = none ∧ Fr n0 L ∧ Keep h0 h []
theorem ef_ksi (m : MethodId) (a : Addr) : entryFrame m #[(.ref a)] 1 = mkF m 0 #[.val (.ref a)] [] := by first | (simp [entryFrame, mkF, argsToLocals, Value.category]; done) | rfl
abbrev rm_ksi : Room := ({ frames := 1, cells := 0, slots := 0, locals := 12 } : Room)
set_option maxRecDepth 65536 in
set_option maxHeartbeats 4000000 in
theorem met_ksi (l : Launch) (Z : State) (a0 : Array Value) (hw : ∀ d ∈ tables_1, d.before a0 Z = true) (a : Addr) (h0 : Heap) (n0 : Nat) (Z0 : n0 ≤ h0.size)  :
    Met l (⟨"com/example/aforo/aforo/KeyState", "<init>", "()V"⟩ : MethodName) prog_10_method_1_code 1 none [] rm_ksi Z #[(.ref a)] h0 (Q_ksi Z a h0 n0) rm_ksi.cells rm_ksi.slots := by
  refine own_body pn14 ?_
  intro p e s m below meth c s₁ ct X0 e0
  have ct0 := ct
  obtain ⟨hx, hZ, hown, hby, hml, hret, hlk, hnm⟩ := ct
  have N0 := Fr.nil n0
  refine castGo (ef_ksi m a) ?_
  show Go p e below s _ _ _ s₁ (mkF m 0 #[.val (.ref a)] [])
  refine go_st (fun _ kq => XS.aloadN X0.here hx rfl (hb hby d2_0) rfl rfl kq) ?_
  show Go p e below s _ _ _ s₁ (mkF m 1 #[.val (.ref a)] [(.ref a)])
  refine go_initO X0 hx hZ hml hown (hw _ (List.mem_of_getElem? (i := 11) rfl)) (hw _ (List.mem_of_getElem? (i := 12) rfl)) (hw _ (List.mem_of_getElem? (i := 13) rfl)) e0 (hb hby d2_1) rfl rfl rfl (by decide) (W := 0) (by show 2 * 0 + _ ≤ _; exact Nat.le_of_eq rfl) (by decide) ?_
  intro T483 X483 e483
  show Go p e below s _ _ _ T483 (mkF m 4 #[.val (.ref a)] [])
  exact go_ret0 X483 hx hlk hret (hb hby d2_4) (by decide) (by decide) (by rw [e483]; exact ⟨rfl, N0, (Keep.refl h0 [])⟩)
theorem d1_0 : decode prog_17_method_1_code 0 = .ok (.aload_n 0, 1) := by decide +kernel
theorem d1_1 : decode prog_17_method_1_code 1 = .ok (.invokespecial 3, 3) := by decide +kernel
theorem d1_4 : decode prog_17_method_1_code 4 = .ok (.aload_n 0, 1) := by decide +kernel
theorem d1_5 : decode prog_17_method_1_code 5 = .ok (.getstatic 9, 3) := by decide +kernel
theorem d1_8 : decode prog_17_method_1_code 8 = .ok (.putfield 13, 3) := by decide +kernel
theorem d1_11 : decode prog_17_method_1_code 11 = .ok (.return_, 1) := by decide +kernel
theorem pn15 : plainFor (⟨"com/example/aforo/aforo/SlidingLog", "<init>", "()V"⟩ : MethodName) = true := by first | (refine plainFor_of_name ?_; simp [plainName, overriddenIn]; done) | (refine plainFor_of_name ?_; decide +kernel) | decide +kernel
def Q_sli (Z : State) (a : Addr) (zq : Addr) (h0 : Heap) (n0 : Nat) (v : Option Value) (h : Heap) (L : List Loc) : Prop := v = none ∧ Fr n0 L ∧ Keep h0 h [a] ∧ Exa Z h a "com/example/aforo/aforo/SlidingLog" ∧ Fld Z h a "com/example/aforo/aforo/SlidingLog" "times" "[J" (.ref zq) ∧ Fld Z h a "com/example/aforo/aforo/SlidingLog" "head" "I" (.int (0 : Int32)) ∧ Fld Z h a "com/example/aforo/aforo/SlidingLog" "size" "I" (.int (0 : Int32))
theorem pd10 : parseMethodDescriptor "()V" = some ⟨[], none⟩ := by decide +kernel
theorem ef_sli (m : MethodId) (a : Addr) (zq : Addr) : entryFrame m #[(.ref a)] 1 = mkF m 0 #[.val (.ref a)] [] := by first | (simp [entryFrame, mkF, argsToLocals, Value.category]; done) | rfl
abbrev rm_sli : Room := ({ frames := 2, cells := 0, slots := 0, locals := 24 } : Room)
set_option maxRecDepth 65536 in
set_option maxHeartbeats 4000000 in
theorem met_sli (l : Launch) (Z : State) (a0 : Array Value) (hw : ∀ d ∈ tables_1, d.before a0 Z = true) (a : Addr) (zq : Addr) (h0 : Heap) (n0 : Nat) (Z0 : n0 ≤ h0.size) (P0 : Fld Z h0 a "com/example/aforo/aforo/SlidingLog" "times" "[J" .null) (P1 : Exa Z h0 a "com/example/aforo/aforo/SlidingLog") (P2 : n0 ≤ a) (P3 : Sta Z h0 "com/example/aforo/aforo/SlidingLog" "NO_TIMES" "[J" (.ref zq)) (P4 : Fld Z h0 a "com/example/aforo/aforo/SlidingLog" "head" "I" (.int (0 : Int32))) (P5 : Fld Z h0 a "com/example/aforo/aforo/SlidingLog" "size" "I" (.int (0 : Int32))) :
    Met l (⟨"com/example/aforo/aforo/SlidingLog", "<init>", "()V"⟩ : MethodName) prog_17_method_1_code 1 none [] rm_sli Z #[(.ref a)] h0 (Q_sli Z a zq h0 n0) rm_sli.cells rm_sli.slots := by
  refine own_body pn15 ?_
  intro p e s m below meth c s₁ ct X0 e0
  have ct0 := ct
  obtain ⟨hx, hZ, hown, hby, hml, hret, hlk, hnm⟩ := ct
  have lt_a : a < h0.size := P1.lt
  have N0 := Fr.nil n0
  refine castGo (ef_sli m a zq) ?_
  show Go p e below s _ _ _ s₁ (mkF m 0 #[.val (.ref a)] [])
  refine go_st (fun _ kq => XS.aloadN X0.here hx rfl (hb hby d1_0) rfl rfl kq) ?_
  show Go p e below s _ _ _ s₁ (mkF m 1 #[.val (.ref a)] [(.ref a)])
  refine go_callI X0 hx hZ hml hown rfl (hw _ (List.mem_of_getElem? (i := 6) rfl)) (hw _ (List.mem_of_getElem? (i := 7) rfl)) (hw _ (List.mem_of_getElem? (i := 10) rfl)) (hw _ (List.mem_of_getElem? (i := 9) rfl)) e0 (argsL := []) (rest := []) (W := 0) (met_ksi l Z a0 hw a h0 n0 Z0 ) (hb hby d1_1) rfl rfl rfl (lenOf pd10 rfl) (by show 2 * 0 + _ ≤ _; exact Nat.le_of_eq rfl) (by decide) (by decide) (by decide) (by decide) (by decide) ?_
  intro T484 v484 L484 X484 q484
  obtain ⟨rfl, M484, K484⟩ := q484
  have N484 := Fr.app N0 M484
  show Go p e below s _ _ _ T484 (mkF m 4 #[.val (.ref a)] [])
  refine go_st (fun _ kq => XS.aloadN X484.here hx rfl (hb hby d1_4) rfl rfl kq) ?_
  show Go p e below s _ _ _ T484 (mkF m 5 #[.val (.ref a)] [(.ref a)])
  have c485 := Sta.ext (own_kx K484) P3
  refine go_getS X484 hx hZ hown (host := "") (Or.inl (hw _ (List.mem_of_getElem? (i := 14) rfl))) Via.refl rfl c485 (hb hby d1_5) rfl ?_
  intro T486 X486 e486
  show Go p e below s _ _ _ T486 (mkF m 8 #[.val (.ref a)] [(.ref zq), (.ref a)])
  have c487 := Fld.keep P0 K484 nin0
  have c488 := Exa.keep P1 K484
  refine go_putF X486 hx hZ hown (host := "") (Or.inl (hw _ (List.mem_of_getElem? (i := 16) rfl))) Via.refl e486 c487 c488 (Or.inl (hw _ (List.mem_of_getElem? (i := 17) rfl))) (hw _ (List.mem_of_getElem? (i := 1) rfl)) (ty := (.array .long)) (by decide) rfl rfl (hb hby d1_8) rfl rfl ?_
  intro T489 h489 X489 e489 W489
  have N489 := Fr.snoc X489 N484 P2
  have F489 : Fld Z h489 a "com/example/aforo/aforo/SlidingLog" "times" "[J" (.ref zq) := Fld.same W489 c487
  show Go p e below s _ _ _ T489 (mkF m 11 #[.val (.ref a)] [])
  have c490 := Exa.wr W489 c488
  have c491 := Fld.keep P4 K484 nin0
  have c492 := Fld.other W489 c491 (Or.inr (slot_ne (a0 := a0) (t := .int) (t' := (.array .long)) (Or.inl (hw _ (List.mem_of_getElem? (i := 45) rfl))) (Or.inl (hw _ (List.mem_of_getElem? (i := 17) rfl))) (by decide) (by decide) (by decide)))
  have c493 := Fld.keep P5 K484 nin0
  have c494 := Fld.other W489 c493 (Or.inr (slot_ne (a0 := a0) (t := .int) (t' := (.array .long)) (Or.inl (hw _ (List.mem_of_getElem? (i := 35) rfl))) (Or.inl (hw _ (List.mem_of_getElem? (i := 17) rfl))) (by decide) (by decide) (by decide)))
  exact go_ret0 X489 hx hlk hret (hb hby d1_11) (by decide) (by decide) (by rw [e489]; exact ⟨rfl, N489, (Keep.wr (Keep.trans (Keep.refl h0 [a]) K484 all0) W489 (Or.inl (by simp))), c490, F489, c492, c494⟩)
theorem pn16 : plainFor x = true := by first | (refine plainFor_of_name ?_; simp [plainName, overriddenIn]; done) | (refine plainFor_of_name ?_; decide +kernel) | decide +kernel
theorem pd11 : parseMethodDescriptor "(JJ)Z" = some ⟨[.long, .long], (some .boolean)⟩ := by decide +kernel
theorem pd12 : parseMethodDescriptor "(JJJ)Lcom/example/aforo/aforo/Decision;" = some ⟨[.long, .long, .long], (some (.object "com/example/aforo/aforo/Decision"))⟩ := by decide +kernel
theorem ef_law (m : MethodId) (x0 : Int32) (x1 : Int32) (x2 : Int32) (x3 : Int32) (x4 : Int64) (x5 : Int32) : entryFrame m #[(.int x0), (.int x1), (.int x2), (.int x3), (.long x4), (.int x5)] maxLocals = mkF m 0 #[.val (.int x0), .val (.int x1), .val (.int x2), .val (.int x3), .val (.long x4), .second, .val (.int x5), .unset, .unset, .unset, .unset, .unset, .unset, .unset, .unset, .unset] [] := by first | (simp [entryFrame, mkF, argsToLocals, Value.category, maxLocals]; done) | rfl
set_option maxRecDepth 65536 in
set_option maxHeartbeats 4000000 in
theorem met_law (l : Launch) (Z : State) (a0 : Array Value) (hw : ∀ d ∈ tables_1, d.before a0 Z = true) (x0 : Int32) (x1 : Int32) (x2 : Int32) (x3 : Int32) (x4 : Int64) (x5 : Int32) (h0 : Heap) (n0 : Nat) (Z0 : n0 ≤ h0.size) (zq : Addr) (S0 : Sta Z h0 "com/example/aforo/aforo/SlidingLog" "NO_TIMES" "[J" (.ref zq)) (G0 : GA Z h0 zq .long 0 (fun i => .long (own_z i))) :
    Met l x code maxLocals ret tables_1 room_1 Z #[(.int x0), (.int x1), (.int x2), (.int x3), (.long x4), (.int x5)] h0 (QF (some (.int (1 : Int32))) n0) 24 128 := by
  refine own_body pn16 ?_
  intro p e s m below meth c s₁ ct X0 e0
  have ct0 := ct
  obtain ⟨hx, hZ, hown, hby, hml, hret, hlk, hnm⟩ := ct
  have lt_zq := G0.lt
  have N0 := Fr.nil n0
  refine castGo (ef_law m x0 x1 x2 x3 x4 x5) ?_
  show Go p e below s _ _ _ s₁ (mkF m 0 #[.val (.int x0), .val (.int x1), .val (.int x2), .val (.int x3), .val (.long x4), .second, .val (.int x5), .unset, .unset, .unset, .unset, .unset, .unset, .unset, .unset, .unset] [])
  refine go_newO X0 hx hZ hown (hw _ (List.mem_of_getElem? (i := 0) rfl)) (hw _ (List.mem_of_getElem? (i := 1) rfl)) (hw _ (List.mem_of_getElem? (i := 2) rfl)) e0 (hb hby at_0) rfl (by decide) (by decide) ?_
  intro T495 h495 a495 g495 X495 e495 E495 A495 D495
  have ne496 : zq ≠ a495 := fun q => Nat.lt_irrefl _ (Nat.lt_of_lt_of_le lt_zq (Nat.le_of_eq (g495.symm.trans q.symm)))
  have nw_a495 : n0 ≤ a495 := Nat.le_trans Z0 (Nat.le_of_eq g495.symm)
  have lt_a495 : a495 < h495.size := A495.lt
  have F497 : Fld Z h495 a495 "com/example/aforo/aforo/SlidingLog" "times" "[J" .null := D495 (Or.inl (hw _ (List.mem_of_getElem? (i := 17) rfl))) (ty := (.array .long)) (by decide)
  have F498 : Fld Z h495 a495 "com/example/aforo/aforo/SlidingLog" "size" "I" (.int (0 : Int32)) := D495 (Or.inl (hw _ (List.mem_of_getElem? (i := 35) rfl))) (ty := .int) (by decide)
  have F499 : Fld Z h495 a495 "com/example/aforo/aforo/SlidingLog" "head" "I" (.int (0 : Int32)) := D495 (Or.inl (hw _ (List.mem_of_getElem? (i := 45) rfl))) (ty := .int) (by decide)
  show Go p e below s _ _ _ T495 (mkF m 3 #[.val (.int x0), .val (.int x1), .val (.int x2), .val (.int x3), .val (.long x4), .second, .val (.int x5), .unset, .unset, .unset, .unset, .unset, .unset, .unset, .unset, .unset] [(.ref a495)])
  refine go_st (fun _ kq => XS.dup X495.here hx rfl (hb hby at_3) rfl rfl kq) ?_
  show Go p e below s _ _ _ T495 (mkF m 4 #[.val (.int x0), .val (.int x1), .val (.int x2), .val (.int x3), .val (.long x4), .second, .val (.int x5), .unset, .unset, .unset, .unset, .unset, .unset, .unset, .unset, .unset] [(.ref a495), (.ref a495)])
  have c501 := Sta.ext E495 S0
  have z502 : n0 ≤ h495.size := Nat.le_trans Z0 E495.1
  refine go_callI X495 hx hZ hml hown rfl (hw _ (List.mem_of_getElem? (i := 3) rfl)) (hw _ (List.mem_of_getElem? (i := 4) rfl)) (hw _ (List.mem_of_getElem? (i := 5) rfl)) (hw _ (List.mem_of_getElem? (i := 2) rfl)) e495 (argsL := []) (rest := [(.ref a495)]) (W := 1) (met_sli l Z a0 hw a495 zq h495 n0 z502 F497 A495 nw_a495 c501 F499 F498) (hb hby at_4) rfl rfl rfl (lenOf pd10 rfl) (by show 2 * 0 + _ ≤ _; exact Nat.le_of_eq rfl) (by decide) (by decide) (by decide) (by decide) (by decide) ?_
  intro T500 v500 L500 X500 q500
  obtain ⟨rfl, M500, K500, f500_0, f500_1, f500_2, f500_3⟩ := q500
  have N500 := Fr.app N0 M500
  show Go p e below s _ _ _ T500 (mkF m 7 #[.val (.int x0), .val (.int x1), .val (.int x2), .val (.int x3), .val (.long x4), .second, .val (.int x5), .unset, .unset, .unset, .unset, .unset, .unset, .unset, .unset, .unset] [(.ref a495)])
  refine go_st (fun _ kq => XS.astore X500.here hx rfl (hb hby at_7) rfl rfl (l' := #[.val (.int x0), .val (.int x1), .val (.int x2), .val (.int x3), .val (.long x4), .second, .val (.int x5), .val (.ref a495), .unset, .unset, .unset, .unset, .unset, .unset, .unset, .unset]) rfl kq) ?_
  show Go p e below s _ _ _ T500 (mkF m 9 #[.val (.int x0), .val (.int x1), .val (.int x2), .val (.int x3), .val (.long x4), .second, .val (.int x5), .val (.ref a495), .unset, .unset, .unset, .unset, .unset, .unset, .unset, .unset] [])
  refine go_st (fun _ kq => XT.lload X500.here hx rfl (hb hby at_9) rfl kq) ?_
  show Go p e below s _ _ _ T500 (mkF m 11 #[.val (.int x0), .val (.int x1), .val (.int x2), .val (.int x3), .val (.long x4), .second, .val (.int x5), .val (.ref a495), .unset, .unset, .unset, .unset, .unset, .unset, .unset, .unset] [(.long x4)])
  refine go_st (fun _ kq => Jvm.Stand.ldc2J X500 hx hown (mvT hZ (hw _ (List.mem_of_getElem? (i := 18) rfl))) rfl (hb hby at_11) kq) ?_
  show Go p e below s _ _ _ T500 (mkF m 14 #[.val (.int x0), .val (.int x1), .val (.int x2), .val (.int x3), .val (.long x4), .second, .val (.int x5), .val (.ref a495), .unset, .unset, .unset, .unset, .unset, .unset, .unset, .unset] [(.long (2147483647 : Int64)), (.long x4)])
  refine go_st (fun _ kq => XT.land X500.here hx rfl (hb hby at_14) rfl kq) ?_
  show Go p e below s _ _ _ T500 (mkF m 15 #[.val (.int x0), .val (.int x1), .val (.int x2), .val (.int x3), .val (.long x4), .second, .val (.int x5), .val (.ref a495), .unset, .unset, .unset, .unset, .unset, .unset, .unset, .unset] [(.long (x4 &&& (2147483647 : Int64)))])
  refine go_st (fun _ kq => XT.lconstV X500.here hx rfl (1 : Int64) (hb hby at_15) (by decide) kq) ?_
  show Go p e below s _ _ _ T500 (mkF m 16 #[.val (.int x0), .val (.int x1), .val (.int x2), .val (.int x3), .val (.long x4), .second, .val (.int x5), .val (.ref a495), .unset, .unset, .unset, .unset, .unset, .unset, .unset, .unset] [(.long (1 : Int64)), (.long (x4 &&& (2147483647 : Int64)))])
  refine go_st (fun _ kq => XT.ladd X500.here hx rfl (hb hby at_16) rfl kq) ?_
  show Go p e below s _ _ _ T500 (mkF m 17 #[.val (.int x0), .val (.int x1), .val (.int x2), .val (.int x3), .val (.long x4), .second, .val (.int x5), .val (.ref a495), .unset, .unset, .unset, .unset, .unset, .unset, .unset, .unset] [(.long ((x4 &&& (2147483647 : Int64)) + (1 : Int64)))])
  refine go_st (fun _ kq => XT.lstore X500.here hx rfl (hb hby at_17) rfl (l' := #[.val (.int x0), .val (.int x1), .val (.int x2), .val (.int x3), .val (.long x4), .second, .val (.int x5), .val (.ref a495), .val (.long ((x4 &&& (2147483647 : Int64)) + (1 : Int64))), .second, .unset, .unset, .unset, .unset, .unset, .unset]) rfl kq) ?_
  show Go p e below s _ _ _ T500 (mkF m 19 #[.val (.int x0), .val (.int x1), .val (.int x2), .val (.int x3), .val (.long x4), .second, .val (.int x5), .val (.ref a495), .val (.long ((x4 &&& (2147483647 : Int64)) + (1 : Int64))), .second, .unset, .unset, .unset, .unset, .unset, .unset] [])
  refine go_st (fun _ kq => XT.lload X500.here hx rfl (hb hby at_19) rfl kq) ?_
  show Go p e below s _ _ _ T500 (mkF m 21 #[.val (.int x0), .val (.int x1), .val (.int x2), .val (.int x3), .val (.long x4), .second, .val (.int x5), .val (.ref a495), .val (.long ((x4 &&& (2147483647 : Int64)) + (1 : Int64))), .second, .unset, .unset, .unset, .unset, .unset, .unset] [(.long x4)])
  refine go_st (fun _ kq => XT.bipushV X500.here hx rfl (32 : Int32) (hb hby at_21) (by decide) kq) ?_
  show Go p e below s _ _ _ T500 (mkF m 23 #[.val (.int x0), .val (.int x1), .val (.int x2), .val (.int x3), .val (.long x4), .second, .val (.int x5), .val (.ref a495), .val (.long ((x4 &&& (2147483647 : Int64)) + (1 : Int64))), .second, .unset, .unset, .unset, .unset, .unset, .unset] [(.int (32 : Int32)), (.long x4)])
  refine go_st (fun _ kq => XT.lushr X500.here hx rfl (hb hby at_23) rfl kq) ?_
  show Go p e below s _ _ _ T500 (mkF m 24 #[.val (.int x0), .val (.int x1), .val (.int x2), .val (.int x3), .val (.long x4), .second, .val (.int x5), .val (.ref a495), .val (.long ((x4 &&& (2147483647 : Int64)) + (1 : Int64))), .second, .unset, .unset, .unset, .unset, .unset, .unset] [(.long (XT.ushrL x4 (32 : Int32)))])
  refine go_st (fun _ kq => Jvm.Stand.ldc2J X500 hx hown (mvT hZ (hw _ (List.mem_of_getElem? (i := 18) rfl))) rfl (hb hby at_24) kq) ?_
  show Go p e below s _ _ _ T500 (mkF m 27 #[.val (.int x0), .val (.int x1), .val (.int x2), .val (.int x3), .val (.long x4), .second, .val (.int x5), .val (.ref a495), .val (.long ((x4 &&& (2147483647 : Int64)) + (1 : Int64))), .second, .unset, .unset, .unset, .unset, .unset, .unset] [(.long (2147483647 : Int64)), (.long (XT.ushrL x4 (32 : Int32)))])
  refine go_st (fun _ kq => XT.land X500.here hx rfl (hb hby at_27) rfl kq) ?_
  show Go p e below s _ _ _ T500 (mkF m 28 #[.val (.int x0), .val (.int x1), .val (.int x2), .val (.int x3), .val (.long x4), .second, .val (.int x5), .val (.ref a495), .val (.long ((x4 &&& (2147483647 : Int64)) + (1 : Int64))), .second, .unset, .unset, .unset, .unset, .unset, .unset] [(.long ((XT.ushrL x4 (32 : Int32)) &&& (2147483647 : Int64)))])
  refine go_st (fun _ kq => XT.lconstV X500.here hx rfl (1 : Int64) (hb hby at_28) (by decide) kq) ?_
  show Go p e below s _ _ _ T500 (mkF m 29 #[.val (.int x0), .val (.int x1), .val (.int x2), .val (.int x3), .val (.long x4), .second, .val (.int x5), .val (.ref a495), .val (.long ((x4 &&& (2147483647 : Int64)) + (1 : Int64))), .second, .unset, .unset, .unset, .unset, .unset, .unset] [(.long (1 : Int64)), (.long ((XT.ushrL x4 (32 : Int32)) &&& (2147483647 : Int64)))])
  refine go_st (fun _ kq => XT.ladd X500.here hx rfl (hb hby at_29) rfl kq) ?_
  show Go p e below s _ _ _ T500 (mkF m 30 #[.val (.int x0), .val (.int x1), .val (.int x2), .val (.int x3), .val (.long x4), .second, .val (.int x5), .val (.ref a495), .val (.long ((x4 &&& (2147483647 : Int64)) + (1 : Int64))), .second, .unset, .unset, .unset, .unset, .unset, .unset] [(.long (((XT.ushrL x4 (32 : Int32)) &&& (2147483647 : Int64)) + (1 : Int64)))])
  refine go_st (fun _ kq => XT.lstore X500.here hx rfl (hb hby at_30) rfl (l' := #[.val (.int x0), .val (.int x1), .val (.int x2), .val (.int x3), .val (.long x4), .second, .val (.int x5), .val (.ref a495), .val (.long ((x4 &&& (2147483647 : Int64)) + (1 : Int64))), .second, .val (.long (((XT.ushrL x4 (32 : Int32)) &&& (2147483647 : Int64)) + (1 : Int64))), .second, .unset, .unset, .unset, .unset]) rfl kq) ?_
  show Go p e below s _ _ _ T500 (mkF m 32 #[.val (.int x0), .val (.int x1), .val (.int x2), .val (.int x3), .val (.long x4), .second, .val (.int x5), .val (.ref a495), .val (.long ((x4 &&& (2147483647 : Int64)) + (1 : Int64))), .second, .val (.long (((XT.ushrL x4 (32 : Int32)) &&& (2147483647 : Int64)) + (1 : Int64))), .second, .unset, .unset, .unset, .unset] [])
  refine go_st (fun _ kq => XS.iload X500.here hx rfl (hb hby at_32) rfl kq) ?_
  show Go p e below s _ _ _ T500 (mkF m 34 #[.val (.int x0), .val (.int x1), .val (.int x2), .val (.int x3), .val (.long x4), .second, .val (.int x5), .val (.ref a495), .val (.long ((x4 &&& (2147483647 : Int64)) + (1 : Int64))), .second, .val (.long (((XT.ushrL x4 (32 : Int32)) &&& (2147483647 : Int64)) + (1 : Int64))), .second, .unset, .unset, .unset, .unset] [(.int x5)])
  refine go_st (fun _ kq => XT.iconstV X500.here hx rfl (3 : Int32) (hb hby at_34) (by decide) kq) ?_
  show Go p e below s _ _ _ T500 (mkF m 35 #[.val (.int x0), .val (.int x1), .val (.int x2), .val (.int x3), .val (.long x4), .second, .val (.int x5), .val (.ref a495), .val (.long ((x4 &&& (2147483647 : Int64)) + (1 : Int64))), .second, .val (.long (((XT.ushrL x4 (32 : Int32)) &&& (2147483647 : Int64)) + (1 : Int64))), .second, .unset, .unset, .unset, .unset] [(.int (3 : Int32)), (.int x5)])
  refine go_st (fun _ kq => XS.iand X500.here hx rfl (hb hby at_35) rfl kq) ?_
  show Go p e below s _ _ _ T500 (mkF m 36 #[.val (.int x0), .val (.int x1), .val (.int x2), .val (.int x3), .val (.long x4), .second, .val (.int x5), .val (.ref a495), .val (.long ((x4 &&& (2147483647 : Int64)) + (1 : Int64))), .second, .val (.long (((XT.ushrL x4 (32 : Int32)) &&& (2147483647 : Int64)) + (1 : Int64))), .second, .unset, .unset, .unset, .unset] [(.int (x5 &&& (3 : Int32)))])
  refine go_st (fun _ kq => XS.istore X500.here hx rfl (hb hby at_36) rfl (l' := #[.val (.int x0), .val (.int x1), .val (.int x2), .val (.int x3), .val (.long x4), .second, .val (.int x5), .val (.ref a495), .val (.long ((x4 &&& (2147483647 : Int64)) + (1 : Int64))), .second, .val (.long (((XT.ushrL x4 (32 : Int32)) &&& (2147483647 : Int64)) + (1 : Int64))), .second, .val (.int (x5 &&& (3 : Int32))), .unset, .unset, .unset]) rfl kq) ?_
  show Go p e below s _ _ _ T500 (mkF m 38 #[.val (.int x0), .val (.int x1), .val (.int x2), .val (.int x3), .val (.long x4), .second, .val (.int x5), .val (.ref a495), .val (.long ((x4 &&& (2147483647 : Int64)) + (1 : Int64))), .second, .val (.long (((XT.ushrL x4 (32 : Int32)) &&& (2147483647 : Int64)) + (1 : Int64))), .second, .val (.int (x5 &&& (3 : Int32))), .unset, .unset, .unset] [])
  refine go_st (fun _ kq => Jvm.Stand.ldc2J X500 hx hown (mvT hZ (hw _ (List.mem_of_getElem? (i := 19) rfl))) rfl (hb hby at_38) kq) ?_
  show Go p e below s _ _ _ T500 (mkF m 41 #[.val (.int x0), .val (.int x1), .val (.int x2), .val (.int x3), .val (.long x4), .second, .val (.int x5), .val (.ref a495), .val (.long ((x4 &&& (2147483647 : Int64)) + (1 : Int64))), .second, .val (.long (((XT.ushrL x4 (32 : Int32)) &&& (2147483647 : Int64)) + (1 : Int64))), .second, .val (.int (x5 &&& (3 : Int32))), .unset, .unset, .unset] [(.long (-9223372036854775808 : Int64))])
  refine go_st (fun _ kq => XT.lstore X500.here hx rfl (hb hby at_41) rfl (l' := #[.val (.int x0), .val (.int x1), .val (.int x2), .val (.int x3), .val (.long x4), .second, .val (.int x5), .val (.ref a495), .val (.long ((x4 &&& (2147483647 : Int64)) + (1 : Int64))), .second, .val (.long (((XT.ushrL x4 (32 : Int32)) &&& (2147483647 : Int64)) + (1 : Int64))), .second, .val (.int (x5 &&& (3 : Int32))), .val (.long (-9223372036854775808 : Int64)), .second, .unset]) rfl kq) ?_
  show Go p e below s _ _ _ T500 (mkF m 43 #[.val (.int x0), .val (.int x1), .val (.int x2), .val (.int x3), .val (.long x4), .second, .val (.int x5), .val (.ref a495), .val (.long ((x4 &&& (2147483647 : Int64)) + (1 : Int64))), .second, .val (.long (((XT.ushrL x4 (32 : Int32)) &&& (2147483647 : Int64)) + (1 : Int64))), .second, .val (.int (x5 &&& (3 : Int32))), .val (.long (-9223372036854775808 : Int64)), .second, .unset] [])
  refine go_st (fun _ kq => XS.iload X500.here hx rfl (hb hby at_43) rfl kq) ?_
  show Go p e below s _ _ _ T500 (mkF m 45 #[.val (.int x0), .val (.int x1), .val (.int x2), .val (.int x3), .val (.long x4), .second, .val (.int x5), .val (.ref a495), .val (.long ((x4 &&& (2147483647 : Int64)) + (1 : Int64))), .second, .val (.long (((XT.ushrL x4 (32 : Int32)) &&& (2147483647 : Int64)) + (1 : Int64))), .second, .val (.int (x5 &&& (3 : Int32))), .val (.long (-9223372036854775808 : Int64)), .second, .unset] [(.int (x5 &&& (3 : Int32)))])
  refine go_st (fun _ kq => XT.iconstV X500.here hx rfl (1 : Int32) (hb hby at_45) (by decide) kq) ?_
  show Go p e below s _ _ _ T500 (mkF m 46 #[.val (.int x0), .val (.int x1), .val (.int x2), .val (.int x3), .val (.long x4), .second, .val (.int x5), .val (.ref a495), .val (.long ((x4 &&& (2147483647 : Int64)) + (1 : Int64))), .second, .val (.long (((XT.ushrL x4 (32 : Int32)) &&& (2147483647 : Int64)) + (1 : Int64))), .second, .val (.int (x5 &&& (3 : Int32))), .val (.long (-9223372036854775808 : Int64)), .second, .unset] [(.int (1 : Int32)), (.int (x5 &&& (3 : Int32)))])
  by_cases hc503 : (x5 &&& (3 : Int32)) < (1 : Int32)
  · refine go_st (fun _ kq => XS.icmpYes X500.here hx rfl (pc0 := 46) (pc' := 71) rfl (hb hby at_46) rfl (XT.ii_lt_t hc503) (by decide) (by decide) kq) ?_
    show Go p e below s _ _ _ T500 (mkF m 71 #[.val (.int x0), .val (.int x1), .val (.int x2), .val (.int x3), .val (.long x4), .second, .val (.int x5), .val (.ref a495), .val (.long ((x4 &&& (2147483647 : Int64)) + (1 : Int64))), .second, .val (.long (((XT.ushrL x4 (32 : Int32)) &&& (2147483647 : Int64)) + (1 : Int64))), .second, .val (.int (x5 &&& (3 : Int32))), .val (.long (-9223372036854775808 : Int64)), .second, .unset] [])
    refine go_st (fun _ kq => XS.iload X500.here hx rfl (hb hby at_71) rfl kq) ?_
    show Go p e below s _ _ _ T500 (mkF m 73 #[.val (.int x0), .val (.int x1), .val (.int x2), .val (.int x3), .val (.long x4), .second, .val (.int x5), .val (.ref a495), .val (.long ((x4 &&& (2147483647 : Int64)) + (1 : Int64))), .second, .val (.long (((XT.ushrL x4 (32 : Int32)) &&& (2147483647 : Int64)) + (1 : Int64))), .second, .val (.int (x5 &&& (3 : Int32))), .val (.long (-9223372036854775808 : Int64)), .second, .unset] [(.int (x5 &&& (3 : Int32)))])
    refine go_st (fun _ kq => XT.iconstV X500.here hx rfl (2 : Int32) (hb hby at_73) (by decide) kq) ?_
    show Go p e below s _ _ _ T500 (mkF m 74 #[.val (.int x0), .val (.int x1), .val (.int x2), .val (.int x3), .val (.long x4), .second, .val (.int x5), .val (.ref a495), .val (.long ((x4 &&& (2147483647 : Int64)) + (1 : Int64))), .second, .val (.long (((XT.ushrL x4 (32 : Int32)) &&& (2147483647 : Int64)) + (1 : Int64))), .second, .val (.int (x5 &&& (3 : Int32))), .val (.long (-9223372036854775808 : Int64)), .second, .unset] [(.int (2 : Int32)), (.int (x5 &&& (3 : Int32)))])
    have hb504 : (x5 &&& (3 : Int32)) < (2 : Int32) := by exact own_mono hc503 (by decide)
    refine go_st (fun _ kq => XS.icmpYes X500.here hx rfl (pc0 := 74) (pc' := 99) rfl (hb hby at_74) rfl (XT.ii_lt_t hb504) (by decide) (by decide) kq) ?_
    show Go p e below s _ _ _ T500 (mkF m 99 #[.val (.int x0), .val (.int x1), .val (.int x2), .val (.int x3), .val (.long x4), .second, .val (.int x5), .val (.ref a495), .val (.long ((x4 &&& (2147483647 : Int64)) + (1 : Int64))), .second, .val (.long (((XT.ushrL x4 (32 : Int32)) &&& (2147483647 : Int64)) + (1 : Int64))), .second, .val (.int (x5 &&& (3 : Int32))), .val (.long (-9223372036854775808 : Int64)), .second, .unset] [])
    refine go_st (fun _ kq => XS.iload X500.here hx rfl (hb hby at_99) rfl kq) ?_
    show Go p e below s _ _ _ T500 (mkF m 101 #[.val (.int x0), .val (.int x1), .val (.int x2), .val (.int x3), .val (.long x4), .second, .val (.int x5), .val (.ref a495), .val (.long ((x4 &&& (2147483647 : Int64)) + (1 : Int64))), .second, .val (.long (((XT.ushrL x4 (32 : Int32)) &&& (2147483647 : Int64)) + (1 : Int64))), .second, .val (.int (x5 &&& (3 : Int32))), .val (.long (-9223372036854775808 : Int64)), .second, .unset] [(.int (x5 &&& (3 : Int32)))])
    refine go_st (fun _ kq => XT.iconstV X500.here hx rfl (3 : Int32) (hb hby at_101) (by decide) kq) ?_
    show Go p e below s _ _ _ T500 (mkF m 102 #[.val (.int x0), .val (.int x1), .val (.int x2), .val (.int x3), .val (.long x4), .second, .val (.int x5), .val (.ref a495), .val (.long ((x4 &&& (2147483647 : Int64)) + (1 : Int64))), .second, .val (.long (((XT.ushrL x4 (32 : Int32)) &&& (2147483647 : Int64)) + (1 : Int64))), .second, .val (.int (x5 &&& (3 : Int32))), .val (.long (-9223372036854775808 : Int64)), .second, .unset] [(.int (3 : Int32)), (.int (x5 &&& (3 : Int32)))])
    have hb505 : (x5 &&& (3 : Int32)) < (3 : Int32) := by exact own_mono hc503 (by decide)
    refine go_st (fun _ kq => XS.icmpYes X500.here hx rfl (pc0 := 102) (pc' := 127) rfl (hb hby at_102) rfl (XT.ii_lt_t hb505) (by decide) (by decide) kq) ?_
    show Go p e below s _ _ _ T500 (mkF m 127 #[.val (.int x0), .val (.int x1), .val (.int x2), .val (.int x3), .val (.long x4), .second, .val (.int x5), .val (.ref a495), .val (.long ((x4 &&& (2147483647 : Int64)) + (1 : Int64))), .second, .val (.long (((XT.ushrL x4 (32 : Int32)) &&& (2147483647 : Int64)) + (1 : Int64))), .second, .val (.int (x5 &&& (3 : Int32))), .val (.long (-9223372036854775808 : Int64)), .second, .unset] [])
    refine go_st (fun _ kq => XS.iload X500.here hx rfl (hb hby at_127) rfl kq) ?_
    show Go p e below s _ _ _ T500 (mkF m 129 #[.val (.int x0), .val (.int x1), .val (.int x2), .val (.int x3), .val (.long x4), .second, .val (.int x5), .val (.ref a495), .val (.long ((x4 &&& (2147483647 : Int64)) + (1 : Int64))), .second, .val (.long (((XT.ushrL x4 (32 : Int32)) &&& (2147483647 : Int64)) + (1 : Int64))), .second, .val (.int (x5 &&& (3 : Int32))), .val (.long (-9223372036854775808 : Int64)), .second, .unset] [(.int (x5 &&& (3 : Int32)))])
    have hb506 : (x5 &&& (3 : Int32)) = (0 : Int32) := by exact own_nz0 hc503
    refine go_st (fun _ kq => XS.ifYes X500.here hx rfl (pc0 := 129) (pc' := 143) rfl (hb hby at_129) rfl (XT.i0_eq_t hb506) (by decide) (by decide) kq) ?_
    show Go p e below s _ _ _ T500 (mkF m 143 #[.val (.int x0), .val (.int x1), .val (.int x2), .val (.int x3), .val (.long x4), .second, .val (.int x5), .val (.ref a495), .val (.long ((x4 &&& (2147483647 : Int64)) + (1 : Int64))), .second, .val (.long (((XT.ushrL x4 (32 : Int32)) &&& (2147483647 : Int64)) + (1 : Int64))), .second, .val (.int (x5 &&& (3 : Int32))), .val (.long (-9223372036854775808 : Int64)), .second, .unset] [])
    refine go_st (fun _ kq => XT.iconstV X500.here hx rfl (1 : Int32) (hb hby at_143) (by decide) kq) ?_
    show Go p e below s _ _ _ T500 (mkF m 144 #[.val (.int x0), .val (.int x1), .val (.int x2), .val (.int x3), .val (.long x4), .second, .val (.int x5), .val (.ref a495), .val (.long ((x4 &&& (2147483647 : Int64)) + (1 : Int64))), .second, .val (.long (((XT.ushrL x4 (32 : Int32)) &&& (2147483647 : Int64)) + (1 : Int64))), .second, .val (.int (x5 &&& (3 : Int32))), .val (.long (-9223372036854775808 : Int64)), .second, .unset] [(.int (1 : Int32))])
    refine go_st (fun _ kq => XS.goto X500.here hx rfl (pc0 := 144) (pc' := 148) rfl (hb hby at_144) (by decide) (by decide) kq) ?_
    show Go p e below s _ _ _ T500 (mkF m 148 #[.val (.int x0), .val (.int x1), .val (.int x2), .val (.int x3), .val (.long x4), .second, .val (.int x5), .val (.ref a495), .val (.long ((x4 &&& (2147483647 : Int64)) + (1 : Int64))), .second, .val (.long (((XT.ushrL x4 (32 : Int32)) &&& (2147483647 : Int64)) + (1 : Int64))), .second, .val (.int (x5 &&& (3 : Int32))), .val (.long (-9223372036854775808 : Int64)), .second, .unset] [(.int (1 : Int32))])
    refine go_st (fun _ kq => XS.istore X500.here hx rfl (hb hby at_148) rfl (l' := #[.val (.int x0), .val (.int x1), .val (.int x2), .val (.int x3), .val (.long x4), .second, .val (.int x5), .val (.ref a495), .val (.long ((x4 &&& (2147483647 : Int64)) + (1 : Int64))), .second, .val (.long (((XT.ushrL x4 (32 : Int32)) &&& (2147483647 : Int64)) + (1 : Int64))), .second, .val (.int (x5 &&& (3 : Int32))), .val (.long (-9223372036854775808 : Int64)), .second, .val (.int (1 : Int32))]) rfl kq) ?_
    show Go p e below s _ _ _ T500 (mkF m 150 #[.val (.int x0), .val (.int x1), .val (.int x2), .val (.int x3), .val (.long x4), .second, .val (.int x5), .val (.ref a495), .val (.long ((x4 &&& (2147483647 : Int64)) + (1 : Int64))), .second, .val (.long (((XT.ushrL x4 (32 : Int32)) &&& (2147483647 : Int64)) + (1 : Int64))), .second, .val (.int (x5 &&& (3 : Int32))), .val (.long (-9223372036854775808 : Int64)), .second, .val (.int (1 : Int32))] [])
    refine go_st (fun _ kq => XS.aload X500.here hx rfl (hb hby at_150) rfl rfl kq) ?_
    show Go p e below s _ _ _ T500 (mkF m 152 #[.val (.int x0), .val (.int x1), .val (.int x2), .val (.int x3), .val (.long x4), .second, .val (.int x5), .val (.ref a495), .val (.long ((x4 &&& (2147483647 : Int64)) + (1 : Int64))), .second, .val (.long (((XT.ushrL x4 (32 : Int32)) &&& (2147483647 : Int64)) + (1 : Int64))), .second, .val (.int (x5 &&& (3 : Int32))), .val (.long (-9223372036854775808 : Int64)), .second, .val (.int (1 : Int32))] [(.ref a495)])
    refine go_st (fun _ kq => XS.iloadN X500.here hx rfl (hb hby at_152) rfl kq) ?_
    show Go p e below s _ _ _ T500 (mkF m 153 #[.val (.int x0), .val (.int x1), .val (.int x2), .val (.int x3), .val (.long x4), .second, .val (.int x5), .val (.ref a495), .val (.long ((x4 &&& (2147483647 : Int64)) + (1 : Int64))), .second, .val (.long (((XT.ushrL x4 (32 : Int32)) &&& (2147483647 : Int64)) + (1 : Int64))), .second, .val (.int (x5 &&& (3 : Int32))), .val (.long (-9223372036854775808 : Int64)), .second, .val (.int (1 : Int32))] [(.int x3), (.ref a495)])
    refine go_st (fun _ kq => XT.i2l X500.here hx rfl (hb hby at_153) rfl kq) ?_
    show Go p e below s _ _ _ T500 (mkF m 154 #[.val (.int x0), .val (.int x1), .val (.int x2), .val (.int x3), .val (.long x4), .second, .val (.int x5), .val (.ref a495), .val (.long ((x4 &&& (2147483647 : Int64)) + (1 : Int64))), .second, .val (.long (((XT.ushrL x4 (32 : Int32)) &&& (2147483647 : Int64)) + (1 : Int64))), .second, .val (.int (x5 &&& (3 : Int32))), .val (.long (-9223372036854775808 : Int64)), .second, .val (.int (1 : Int32))] [(.long x3.toInt64), (.ref a495)])
    refine go_st (fun _ kq => XT.lload X500.here hx rfl (hb hby at_154) rfl kq) ?_
    show Go p e below s _ _ _ T500 (mkF m 156 #[.val (.int x0), .val (.int x1), .val (.int x2), .val (.int x3), .val (.long x4), .second, .val (.int x5), .val (.ref a495), .val (.long ((x4 &&& (2147483647 : Int64)) + (1 : Int64))), .second, .val (.long (((XT.ushrL x4 (32 : Int32)) &&& (2147483647 : Int64)) + (1 : Int64))), .second, .val (.int (x5 &&& (3 : Int32))), .val (.long (-9223372036854775808 : Int64)), .second, .val (.int (1 : Int32))] [(.long (((XT.ushrL x4 (32 : Int32)) &&& (2147483647 : Int64)) + (1 : Int64))), (.long x3.toInt64), (.ref a495)])
    have z508 : n0 ≤ T500.heap.size := Nat.le_trans z502 K500.1
    refine go_callV X500 hx hZ hml hown (hw _ (List.mem_of_getElem? (i := 94) rfl)) (hw _ (List.mem_of_getElem? (i := 95) rfl)) (notFace_of_selects (args := #[]) (mvT hZ (hw _ (List.mem_of_getElem? (i := 97) rfl)))) (hw _ (List.mem_of_getElem? (i := 97) rfl)) (hw _ (List.mem_of_getElem? (i := 96) rfl)) (hw _ (List.mem_of_getElem? (i := 98) rfl)) (hw _ (List.mem_of_getElem? (i := 2) rfl)) rfl f500_0 (argsL := [(.long x3.toInt64), (.long (((XT.ushrL x4 (32 : Int32)) &&& (2147483647 : Int64)) + (1 : Int64)))]) (rest := []) (W := 0) (met_idlz l Z a0 hw a495 x3.toInt64 (((XT.ushrL x4 (32 : Int32)) &&& (2147483647 : Int64)) + (1 : Int64)) T500.heap n0 z508 f500_0 f500_3) (hb hby at_156) rfl rfl rfl (lenOf pd11 rfl) (by show 2 * 0 + _ ≤ _; exact Nat.le_of_eq rfl) (by decide) (by decide) (by decide) (by decide) (by decide) ?_
    intro T507 v507 L507 X507 q507
    obtain ⟨rfl, M507, e507⟩ := q507
    have N507 := Fr.app N500 M507
    rw [show fIdlZ = (1 : Int32) from rfl]
    show Go p e below s _ _ _ T507 (mkF m 159 #[.val (.int x0), .val (.int x1), .val (.int x2), .val (.int x3), .val (.long x4), .second, .val (.int x5), .val (.ref a495), .val (.long ((x4 &&& (2147483647 : Int64)) + (1 : Int64))), .second, .val (.long (((XT.ushrL x4 (32 : Int32)) &&& (2147483647 : Int64)) + (1 : Int64))), .second, .val (.int (x5 &&& (3 : Int32))), .val (.long (-9223372036854775808 : Int64)), .second, .val (.int (1 : Int32))] [(.int (1 : Int32))])
    refine go_st (fun _ kq => XS.iload X507.here hx rfl (hb hby at_159) rfl kq) ?_
    show Go p e below s _ _ _ T507 (mkF m 161 #[.val (.int x0), .val (.int x1), .val (.int x2), .val (.int x3), .val (.long x4), .second, .val (.int x5), .val (.ref a495), .val (.long ((x4 &&& (2147483647 : Int64)) + (1 : Int64))), .second, .val (.long (((XT.ushrL x4 (32 : Int32)) &&& (2147483647 : Int64)) + (1 : Int64))), .second, .val (.int (x5 &&& (3 : Int32))), .val (.long (-9223372036854775808 : Int64)), .second, .val (.int (1 : Int32))] [(.int (1 : Int32)), (.int (1 : Int32))])
    refine go_st (fun _ kq => XS.icmpNo X507.here hx rfl (hb hby at_161) rfl (XT.ii_ne_f (by decide)) kq) ?_
    show Go p e below s _ _ _ T507 (mkF m 164 #[.val (.int x0), .val (.int x1), .val (.int x2), .val (.int x3), .val (.long x4), .second, .val (.int x5), .val (.ref a495), .val (.long ((x4 &&& (2147483647 : Int64)) + (1 : Int64))), .second, .val (.long (((XT.ushrL x4 (32 : Int32)) &&& (2147483647 : Int64)) + (1 : Int64))), .second, .val (.int (x5 &&& (3 : Int32))), .val (.long (-9223372036854775808 : Int64)), .second, .val (.int (1 : Int32))] [])
    refine go_st (fun _ kq => XT.iconstV X507.here hx rfl (1 : Int32) (hb hby at_164) (by decide) kq) ?_
    show Go p e below s _ _ _ T507 (mkF m 165 #[.val (.int x0), .val (.int x1), .val (.int x2), .val (.int x3), .val (.long x4), .second, .val (.int x5), .val (.ref a495), .val (.long ((x4 &&& (2147483647 : Int64)) + (1 : Int64))), .second, .val (.long (((XT.ushrL x4 (32 : Int32)) &&& (2147483647 : Int64)) + (1 : Int64))), .second, .val (.int (x5 &&& (3 : Int32))), .val (.long (-9223372036854775808 : Int64)), .second, .val (.int (1 : Int32))] [(.int (1 : Int32))])
    refine go_st (fun _ kq => XS.goto X507.here hx rfl (pc0 := 165) (pc' := 169) rfl (hb hby at_165) (by decide) (by decide) kq) ?_
    show Go p e below s _ _ _ T507 (mkF m 169 #[.val (.int x0), .val (.int x1), .val (.int x2), .val (.int x3), .val (.long x4), .second, .val (.int x5), .val (.ref a495), .val (.long ((x4 &&& (2147483647 : Int64)) + (1 : Int64))), .second, .val (.long (((XT.ushrL x4 (32 : Int32)) &&& (2147483647 : Int64)) + (1 : Int64))), .second, .val (.int (x5 &&& (3 : Int32))), .val (.long (-9223372036854775808 : Int64)), .second, .val (.int (1 : Int32))] [(.int (1 : Int32))])
    exact go_retB (w := (1 : Int32)) X507 hx hlk hret (hb hby at_169) (by decide) (by decide) (by decide) ⟨rfl, N507⟩
  · refine go_st (fun _ kq => XS.icmpNo X500.here hx rfl (hb hby at_46) rfl (XT.ii_lt_f hc503) kq) ?_
    show Go p e below s _ _ _ T500 (mkF m 49 #[.val (.int x0), .val (.int x1), .val (.int x2), .val (.int x3), .val (.long x4), .second, .val (.int x5), .val (.ref a495), .val (.long ((x4 &&& (2147483647 : Int64)) + (1 : Int64))), .second, .val (.long (((XT.ushrL x4 (32 : Int32)) &&& (2147483647 : Int64)) + (1 : Int64))), .second, .val (.int (x5 &&& (3 : Int32))), .val (.long (-9223372036854775808 : Int64)), .second, .unset] [])
    refine go_st (fun _ kq => XS.aload X500.here hx rfl (hb hby at_49) rfl rfl kq) ?_
    show Go p e below s _ _ _ T500 (mkF m 51 #[.val (.int x0), .val (.int x1), .val (.int x2), .val (.int x3), .val (.long x4), .second, .val (.int x5), .val (.ref a495), .val (.long ((x4 &&& (2147483647 : Int64)) + (1 : Int64))), .second, .val (.long (((XT.ushrL x4 (32 : Int32)) &&& (2147483647 : Int64)) + (1 : Int64))), .second, .val (.int (x5 &&& (3 : Int32))), .val (.long (-9223372036854775808 : Int64)), .second, .unset] [(.ref a495)])
    refine go_st (fun _ kq => XS.iloadN X500.here hx rfl (hb hby at_51) rfl kq) ?_
    show Go p e below s _ _ _ T500 (mkF m 52 #[.val (.int x0), .val (.int x1), .val (.int x2), .val (.int x3), .val (.long x4), .second, .val (.int x5), .val (.ref a495), .val (.long ((x4 &&& (2147483647 : Int64)) + (1 : Int64))), .second, .val (.long (((XT.ushrL x4 (32 : Int32)) &&& (2147483647 : Int64)) + (1 : Int64))), .second, .val (.int (x5 &&& (3 : Int32))), .val (.long (-9223372036854775808 : Int64)), .second, .unset] [(.int x0), (.ref a495)])
    refine go_st (fun _ kq => XT.i2l X500.here hx rfl (hb hby at_52) rfl kq) ?_
    show Go p e below s _ _ _ T500 (mkF m 53 #[.val (.int x0), .val (.int x1), .val (.int x2), .val (.int x3), .val (.long x4), .second, .val (.int x5), .val (.ref a495), .val (.long ((x4 &&& (2147483647 : Int64)) + (1 : Int64))), .second, .val (.long (((XT.ushrL x4 (32 : Int32)) &&& (2147483647 : Int64)) + (1 : Int64))), .second, .val (.int (x5 &&& (3 : Int32))), .val (.long (-9223372036854775808 : Int64)), .second, .unset] [(.long x0.toInt64), (.ref a495)])
    refine go_st (fun _ kq => Jvm.Stand.ldc2J X500 hx hown (mvT hZ (hw _ (List.mem_of_getElem? (i := 20) rfl))) rfl (hb hby at_53) kq) ?_
    show Go p e below s _ _ _ T500 (mkF m 56 #[.val (.int x0), .val (.int x1), .val (.int x2), .val (.int x3), .val (.long x4), .second, .val (.int x5), .val (.ref a495), .val (.long ((x4 &&& (2147483647 : Int64)) + (1 : Int64))), .second, .val (.long (((XT.ushrL x4 (32 : Int32)) &&& (2147483647 : Int64)) + (1 : Int64))), .second, .val (.int (x5 &&& (3 : Int32))), .val (.long (-9223372036854775808 : Int64)), .second, .unset] [(.long (3 : Int64)), (.long x0.toInt64), (.ref a495)])
    refine go_st (fun _ kq => XT.lload X500.here hx rfl (hb hby at_56) rfl kq) ?_
    show Go p e below s _ _ _ T500 (mkF m 58 #[.val (.int x0), .val (.int x1), .val (.int x2), .val (.int x3), .val (.long x4), .second, .val (.int x5), .val (.ref a495), .val (.long ((x4 &&& (2147483647 : Int64)) + (1 : Int64))), .second, .val (.long (((XT.ushrL x4 (32 : Int32)) &&& (2147483647 : Int64)) + (1 : Int64))), .second, .val (.int (x5 &&& (3 : Int32))), .val (.long (-9223372036854775808 : Int64)), .second, .unset] [(.long ((x4 &&& (2147483647 : Int64)) + (1 : Int64))), (.long (3 : Int64)), (.long x0.toInt64), (.ref a495)])
    have c510 := G0.ext E495
    have c511 := GA.keep c510 K500 (ninS ne496 nin0)
    have z512 : n0 ≤ T500.heap.size := Nat.le_trans z502 K500.1
    refine go_callV X500 hx hZ hml hown (hw _ (List.mem_of_getElem? (i := 21) rfl)) (hw _ (List.mem_of_getElem? (i := 22) rfl)) (notFace_of_selects (args := #[]) (mvT hZ (hw _ (List.mem_of_getElem? (i := 24) rfl)))) (hw _ (List.mem_of_getElem? (i := 24) rfl)) (hw _ (List.mem_of_getElem? (i := 23) rfl)) (hw _ (List.mem_of_getElem? (i := 25) rfl)) (hw _ (List.mem_of_getElem? (i := 2) rfl)) rfl f500_0 (argsL := [(.long x0.toInt64), (.long (3 : Int64)), (.long ((x4 &&& (2147483647 : Int64)) + (1 : Int64)))]) (rest := []) (W := 0) (met_acqz l Z a0 hw a495 x0.toInt64 ((x4 &&& (2147483647 : Int64)) + (1 : Int64)) zq own_z T500.heap n0 z512 f500_0 f500_2 f500_3 f500_1 c511 (Ne.symm ne496) nw_a495 (own_r32 _) (own_rw _)) (hb hby at_58) rfl rfl rfl (lenOf pd12 rfl) (by show 2 * 0 + _ ≤ _; exact Nat.le_of_eq rfl) (by decide) (by decide) (by decide) (by decide) (by decide) ?_
    intro T509 v509 L509 X509 q509
    obtain ⟨uq_509, gq_509, dq_509, rfl, M509, K509, fz509_uq, fz509_dq, p509_0, f509_0, f509_1, f509_2, f509_3, f509_4⟩ := q509
    have N509 := Fr.app N500 M509
    have c513 : zq < h495.size := Nat.lt_of_lt_of_le lt_zq E495.1
    have c514 : zq < T500.heap.size := Nat.lt_of_lt_of_le c513 K500.1
    have ne515 : zq ≠ uq_509 := Nat.ne_of_lt (Nat.lt_of_lt_of_le c514 fz509_uq)
    have c516 : a495 < T500.heap.size := Nat.lt_of_lt_of_le lt_a495 K500.1
    have ne517 : a495 ≠ uq_509 := Nat.ne_of_lt (Nat.lt_of_lt_of_le c516 fz509_uq)
    have nw_uq_509 : n0 ≤ uq_509 := Nat.le_trans z512 fz509_uq
    have y518 : h0.size ≤ h495.size := Nat.le_trans (Nat.le_refl _) E495.1
    have y519 : h0.size ≤ T500.heap.size := Nat.le_trans y518 K500.1
    have ne520 : zq ≠ dq_509 := Nat.ne_of_lt (Nat.lt_of_lt_of_le c514 fz509_dq)
    have ne521 : a495 ≠ dq_509 := Nat.ne_of_lt (Nat.lt_of_lt_of_le c516 fz509_dq)
    have nw_dq_509 : n0 ≤ dq_509 := Nat.le_trans z512 fz509_dq
    have lt_uq_509 : uq_509 < T509.heap.size := f509_4.lt
    show Go p e below s _ _ _ T509 (mkF m 61 #[.val (.int x0), .val (.int x1), .val (.int x2), .val (.int x3), .val (.long x4), .second, .val (.int x5), .val (.ref a495), .val (.long ((x4 &&& (2147483647 : Int64)) + (1 : Int64))), .second, .val (.long (((XT.ushrL x4 (32 : Int32)) &&& (2147483647 : Int64)) + (1 : Int64))), .second, .val (.int (x5 &&& (3 : Int32))), .val (.long (-9223372036854775808 : Int64)), .second, .unset] [(.ref dq_509)])
    refine go_st (fun _ kq => XT.pop X509.here hx rfl (hb hby at_61) rfl rfl kq) ?_
    show Go p e below s _ _ _ T509 (mkF m 62 #[.val (.int x0), .val (.int x1), .val (.int x2), .val (.int x3), .val (.long x4), .second, .val (.int x5), .val (.ref a495), .val (.long ((x4 &&& (2147483647 : Int64)) + (1 : Int64))), .second, .val (.long (((XT.ushrL x4 (32 : Int32)) &&& (2147483647 : Int64)) + (1 : Int64))), .second, .val (.int (x5 &&& (3 : Int32))), .val (.long (-9223372036854775808 : Int64)), .second, .unset] [])
    refine go_st (fun _ kq => XT.lload X509.here hx rfl (hb hby at_62) rfl kq) ?_
    show Go p e below s _ _ _ T509 (mkF m 64 #[.val (.int x0), .val (.int x1), .val (.int x2), .val (.int x3), .val (.long x4), .second, .val (.int x5), .val (.ref a495), .val (.long ((x4 &&& (2147483647 : Int64)) + (1 : Int64))), .second, .val (.long (((XT.ushrL x4 (32 : Int32)) &&& (2147483647 : Int64)) + (1 : Int64))), .second, .val (.int (x5 &&& (3 : Int32))), .val (.long (-9223372036854775808 : Int64)), .second, .unset] [(.long (-9223372036854775808 : Int64))])
    refine go_st (fun _ kq => XS.iloadN X509.here hx rfl (hb hby at_64) rfl kq) ?_
    show Go p e below s _ _ _ T509 (mkF m 65 #[.val (.int x0), .val (.int x1), .val (.int x2), .val (.int x3), .val (.long x4), .second, .val (.int x5), .val (.ref a495), .val (.long ((x4 &&& (2147483647 : Int64)) + (1 : Int64))), .second, .val (.long (((XT.ushrL x4 (32 : Int32)) &&& (2147483647 : Int64)) + (1 : Int64))), .second, .val (.int (x5 &&& (3 : Int32))), .val (.long (-9223372036854775808 : Int64)), .second, .unset] [(.int x0), (.long (-9223372036854775808 : Int64))])
    refine go_st (fun _ kq => XT.i2l X509.here hx rfl (hb hby at_65) rfl kq) ?_
    show Go p e below s _ _ _ T509 (mkF m 66 #[.val (.int x0), .val (.int x1), .val (.int x2), .val (.int x3), .val (.long x4), .second, .val (.int x5), .val (.ref a495), .val (.long ((x4 &&& (2147483647 : Int64)) + (1 : Int64))), .second, .val (.long (((XT.ushrL x4 (32 : Int32)) &&& (2147483647 : Int64)) + (1 : Int64))), .second, .val (.int (x5 &&& (3 : Int32))), .val (.long (-9223372036854775808 : Int64)), .second, .unset] [(.long x0.toInt64), (.long (-9223372036854775808 : Int64))])
    refine go_callS X509 hx hZ hml hown (hw _ (List.mem_of_getElem? (i := 93) rfl)) (hw _ (List.mem_of_getElem? (i := 53) rfl)) (hw _ (List.mem_of_getElem? (i := 38) rfl)) (hw _ (List.mem_of_getElem? (i := 54) rfl)) rfl (argsL := [(.long (-9223372036854775808 : Int64)), (.long x0.toInt64)]) (rest := []) (W := 0) (met_10 l Z a0 hw (-9223372036854775808 : Int64) x0.toInt64 T509.heap n0) (hb hby at_66) rfl rfl rfl (lenOf pd4 rfl) (by show 2 * 0 + _ ≤ _; exact Nat.le_of_eq rfl) (by decide) (by decide) (by decide) (by decide) (by decide) ?_
    intro T522 v522 L522 X522 q522
    obtain ⟨rfl, M522, e522⟩ := q522
    have N522 := Fr.app N509 M522
    rw [own_maxmin]
    show Go p e below s _ _ _ T522 (mkF m 69 #[.val (.int x0), .val (.int x1), .val (.int x2), .val (.int x3), .val (.long x4), .second, .val (.int x5), .val (.ref a495), .val (.long ((x4 &&& (2147483647 : Int64)) + (1 : Int64))), .second, .val (.long (((XT.ushrL x4 (32 : Int32)) &&& (2147483647 : Int64)) + (1 : Int64))), .second, .val (.int (x5 &&& (3 : Int32))), .val (.long (-9223372036854775808 : Int64)), .second, .unset] [(.long x0.toInt64)])
    refine go_st (fun _ kq => XT.lstore X522.here hx rfl (hb hby at_69) rfl (l' := #[.val (.int x0), .val (.int x1), .val (.int x2), .val (.int x3), .val (.long x4), .second, .val (.int x5), .val (.ref a495), .val (.long ((x4 &&& (2147483647 : Int64)) + (1 : Int64))), .second, .val (.long (((XT.ushrL x4 (32 : Int32)) &&& (2147483647 : Int64)) + (1 : Int64))), .second, .val (.int (x5 &&& (3 : Int32))), .val (.long x0.toInt64), .second, .unset]) rfl kq) ?_
    show Go p e below s _ _ _ T522 (mkF m 71 #[.val (.int x0), .val (.int x1), .val (.int x2), .val (.int x3), .val (.long x4), .second, .val (.int x5), .val (.ref a495), .val (.long ((x4 &&& (2147483647 : Int64)) + (1 : Int64))), .second, .val (.long (((XT.ushrL x4 (32 : Int32)) &&& (2147483647 : Int64)) + (1 : Int64))), .second, .val (.int (x5 &&& (3 : Int32))), .val (.long x0.toInt64), .second, .unset] [])
    refine go_st (fun _ kq => XS.iload X522.here hx rfl (hb hby at_71) rfl kq) ?_
    show Go p e below s _ _ _ T522 (mkF m 73 #[.val (.int x0), .val (.int x1), .val (.int x2), .val (.int x3), .val (.long x4), .second, .val (.int x5), .val (.ref a495), .val (.long ((x4 &&& (2147483647 : Int64)) + (1 : Int64))), .second, .val (.long (((XT.ushrL x4 (32 : Int32)) &&& (2147483647 : Int64)) + (1 : Int64))), .second, .val (.int (x5 &&& (3 : Int32))), .val (.long x0.toInt64), .second, .unset] [(.int (x5 &&& (3 : Int32)))])
    refine go_st (fun _ kq => XT.iconstV X522.here hx rfl (2 : Int32) (hb hby at_73) (by decide) kq) ?_
    show Go p e below s _ _ _ T522 (mkF m 74 #[.val (.int x0), .val (.int x1), .val (.int x2), .val (.int x3), .val (.long x4), .second, .val (.int x5), .val (.ref a495), .val (.long ((x4 &&& (2147483647 : Int64)) + (1 : Int64))), .second, .val (.long (((XT.ushrL x4 (32 : Int32)) &&& (2147483647 : Int64)) + (1 : Int64))), .second, .val (.int (x5 &&& (3 : Int32))), .val (.long x0.toInt64), .second, .unset] [(.int (2 : Int32)), (.int (x5 &&& (3 : Int32)))])
    by_cases hc523 : (x5 &&& (3 : Int32)) < (2 : Int32)
    · refine go_st (fun _ kq => XS.icmpYes X522.here hx rfl (pc0 := 74) (pc' := 99) rfl (hb hby at_74) rfl (XT.ii_lt_t hc523) (by decide) (by decide) kq) ?_
      show Go p e below s _ _ _ T522 (mkF m 99 #[.val (.int x0), .val (.int x1), .val (.int x2), .val (.int x3), .val (.long x4), .second, .val (.int x5), .val (.ref a495), .val (.long ((x4 &&& (2147483647 : Int64)) + (1 : Int64))), .second, .val (.long (((XT.ushrL x4 (32 : Int32)) &&& (2147483647 : Int64)) + (1 : Int64))), .second, .val (.int (x5 &&& (3 : Int32))), .val (.long x0.toInt64), .second, .unset] [])
      refine go_st (fun _ kq => XS.iload X522.here hx rfl (hb hby at_99) rfl kq) ?_
      show Go p e below s _ _ _ T522 (mkF m 101 #[.val (.int x0), .val (.int x1), .val (.int x2), .val (.int x3), .val (.long x4), .second, .val (.int x5), .val (.ref a495), .val (.long ((x4 &&& (2147483647 : Int64)) + (1 : Int64))), .second, .val (.long (((XT.ushrL x4 (32 : Int32)) &&& (2147483647 : Int64)) + (1 : Int64))), .second, .val (.int (x5 &&& (3 : Int32))), .val (.long x0.toInt64), .second, .unset] [(.int (x5 &&& (3 : Int32)))])
      refine go_st (fun _ kq => XT.iconstV X522.here hx rfl (3 : Int32) (hb hby at_101) (by decide) kq) ?_
      show Go p e below s _ _ _ T522 (mkF m 102 #[.val (.int x0), .val (.int x1), .val (.int x2), .val (.int x3), .val (.long x4), .second, .val (.int x5), .val (.ref a495), .val (.long ((x4 &&& (2147483647 : Int64)) + (1 : Int64))), .second, .val (.long (((XT.ushrL x4 (32 : Int32)) &&& (2147483647 : Int64)) + (1 : Int64))), .second, .val (.int (x5 &&& (3 : Int32))), .val (.long x0.toInt64), .second, .unset] [(.int (3 : Int32)), (.int (x5 &&& (3 : Int32)))])
      have hb524 : (x5 &&& (3 : Int32)) < (3 : Int32) := by exact own_mono hc523 (by decide)
      refine go_st (fun _ kq => XS.icmpYes X522.here hx rfl (pc0 := 102) (pc' := 127) rfl (hb hby at_102) rfl (XT.ii_lt_t hb524) (by decide) (by decide) kq) ?_
      show Go p e below s _ _ _ T522 (mkF m 127 #[.val (.int x0), .val (.int x1), .val (.int x2), .val (.int x3), .val (.long x4), .second, .val (.int x5), .val (.ref a495), .val (.long ((x4 &&& (2147483647 : Int64)) + (1 : Int64))), .second, .val (.long (((XT.ushrL x4 (32 : Int32)) &&& (2147483647 : Int64)) + (1 : Int64))), .second, .val (.int (x5 &&& (3 : Int32))), .val (.long x0.toInt64), .second, .unset] [])
      refine go_st (fun _ kq => XS.iload X522.here hx rfl (hb hby at_127) rfl kq) ?_
      show Go p e below s _ _ _ T522 (mkF m 129 #[.val (.int x0), .val (.int x1), .val (.int x2), .val (.int x3), .val (.long x4), .second, .val (.int x5), .val (.ref a495), .val (.long ((x4 &&& (2147483647 : Int64)) + (1 : Int64))), .second, .val (.long (((XT.ushrL x4 (32 : Int32)) &&& (2147483647 : Int64)) + (1 : Int64))), .second, .val (.int (x5 &&& (3 : Int32))), .val (.long x0.toInt64), .second, .unset] [(.int (x5 &&& (3 : Int32)))])
      have hb525 : ¬ ((x5 &&& (3 : Int32)) = (0 : Int32)) := by exact own_nz1 hc503
      refine go_st (fun _ kq => XS.ifNo X522.here hx rfl (hb hby at_129) rfl (XT.i0_eq_f hb525) kq) ?_
      show Go p e below s _ _ _ T522 (mkF m 132 #[.val (.int x0), .val (.int x1), .val (.int x2), .val (.int x3), .val (.long x4), .second, .val (.int x5), .val (.ref a495), .val (.long ((x4 &&& (2147483647 : Int64)) + (1 : Int64))), .second, .val (.long (((XT.ushrL x4 (32 : Int32)) &&& (2147483647 : Int64)) + (1 : Int64))), .second, .val (.int (x5 &&& (3 : Int32))), .val (.long x0.toInt64), .second, .unset] [])
      refine go_st (fun _ kq => XT.lload X522.here hx rfl (hb hby at_132) rfl kq) ?_
      show Go p e below s _ _ _ T522 (mkF m 134 #[.val (.int x0), .val (.int x1), .val (.int x2), .val (.int x3), .val (.long x4), .second, .val (.int x5), .val (.ref a495), .val (.long ((x4 &&& (2147483647 : Int64)) + (1 : Int64))), .second, .val (.long (((XT.ushrL x4 (32 : Int32)) &&& (2147483647 : Int64)) + (1 : Int64))), .second, .val (.int (x5 &&& (3 : Int32))), .val (.long x0.toInt64), .second, .unset] [(.long x0.toInt64)])
      refine go_st (fun _ kq => XT.lload X522.here hx rfl (hb hby at_134) rfl kq) ?_
      show Go p e below s _ _ _ T522 (mkF m 136 #[.val (.int x0), .val (.int x1), .val (.int x2), .val (.int x3), .val (.long x4), .second, .val (.int x5), .val (.ref a495), .val (.long ((x4 &&& (2147483647 : Int64)) + (1 : Int64))), .second, .val (.long (((XT.ushrL x4 (32 : Int32)) &&& (2147483647 : Int64)) + (1 : Int64))), .second, .val (.int (x5 &&& (3 : Int32))), .val (.long x0.toInt64), .second, .unset] [(.long (((XT.ushrL x4 (32 : Int32)) &&& (2147483647 : Int64)) + (1 : Int64))), (.long x0.toInt64)])
      refine go_st (fun _ kq => XT.ladd X522.here hx rfl (hb hby at_136) rfl kq) ?_
      show Go p e below s _ _ _ T522 (mkF m 137 #[.val (.int x0), .val (.int x1), .val (.int x2), .val (.int x3), .val (.long x4), .second, .val (.int x5), .val (.ref a495), .val (.long ((x4 &&& (2147483647 : Int64)) + (1 : Int64))), .second, .val (.long (((XT.ushrL x4 (32 : Int32)) &&& (2147483647 : Int64)) + (1 : Int64))), .second, .val (.int (x5 &&& (3 : Int32))), .val (.long x0.toInt64), .second, .unset] [(.long (x0.toInt64 + (((XT.ushrL x4 (32 : Int32)) &&& (2147483647 : Int64)) + (1 : Int64))))])
      refine go_st (fun _ kq => XS.iloadN X522.here hx rfl (hb hby at_137) rfl kq) ?_
      show Go p e below s _ _ _ T522 (mkF m 138 #[.val (.int x0), .val (.int x1), .val (.int x2), .val (.int x3), .val (.long x4), .second, .val (.int x5), .val (.ref a495), .val (.long ((x4 &&& (2147483647 : Int64)) + (1 : Int64))), .second, .val (.long (((XT.ushrL x4 (32 : Int32)) &&& (2147483647 : Int64)) + (1 : Int64))), .second, .val (.int (x5 &&& (3 : Int32))), .val (.long x0.toInt64), .second, .unset] [(.int x3), (.long (x0.toInt64 + (((XT.ushrL x4 (32 : Int32)) &&& (2147483647 : Int64)) + (1 : Int64))))])
      refine go_st (fun _ kq => XT.i2l X522.here hx rfl (hb hby at_138) rfl kq) ?_
      show Go p e below s _ _ _ T522 (mkF m 139 #[.val (.int x0), .val (.int x1), .val (.int x2), .val (.int x3), .val (.long x4), .second, .val (.int x5), .val (.ref a495), .val (.long ((x4 &&& (2147483647 : Int64)) + (1 : Int64))), .second, .val (.long (((XT.ushrL x4 (32 : Int32)) &&& (2147483647 : Int64)) + (1 : Int64))), .second, .val (.int (x5 &&& (3 : Int32))), .val (.long x0.toInt64), .second, .unset] [(.long x3.toInt64), (.long (x0.toInt64 + (((XT.ushrL x4 (32 : Int32)) &&& (2147483647 : Int64)) + (1 : Int64))))])
      refine go_st (fun _ kq => XT.lcmp X522.here hx rfl (hb hby at_139) rfl kq) ?_
      show Go p e below s _ _ _ T522 (mkF m 140 #[.val (.int x0), .val (.int x1), .val (.int x2), .val (.int x3), .val (.long x4), .second, .val (.int x5), .val (.ref a495), .val (.long ((x4 &&& (2147483647 : Int64)) + (1 : Int64))), .second, .val (.long (((XT.ushrL x4 (32 : Int32)) &&& (2147483647 : Int64)) + (1 : Int64))), .second, .val (.int (x5 &&& (3 : Int32))), .val (.long x0.toInt64), .second, .unset] [(.int (XT.cmpL (x0.toInt64 + (((XT.ushrL x4 (32 : Int32)) &&& (2147483647 : Int64)) + (1 : Int64))) x3.toInt64))])
      by_cases hc526 : x3.toInt64 < (x0.toInt64 + (((XT.ushrL x4 (32 : Int32)) &&& (2147483647 : Int64)) + (1 : Int64)))
      · refine go_st (fun _ kq => XS.ifYes X522.here hx rfl (pc0 := 140) (pc' := 147) rfl (hb hby at_140) rfl (XT.ll_gt_t hc526) (by decide) (by decide) kq) ?_
        show Go p e below s _ _ _ T522 (mkF m 147 #[.val (.int x0), .val (.int x1), .val (.int x2), .val (.int x3), .val (.long x4), .second, .val (.int x5), .val (.ref a495), .val (.long ((x4 &&& (2147483647 : Int64)) + (1 : Int64))), .second, .val (.long (((XT.ushrL x4 (32 : Int32)) &&& (2147483647 : Int64)) + (1 : Int64))), .second, .val (.int (x5 &&& (3 : Int32))), .val (.long x0.toInt64), .second, .unset] [])
        refine go_st (fun _ kq => XT.iconstV X522.here hx rfl (0 : Int32) (hb hby at_147) (by decide) kq) ?_
        show Go p e below s _ _ _ T522 (mkF m 148 #[.val (.int x0), .val (.int x1), .val (.int x2), .val (.int x3), .val (.long x4), .second, .val (.int x5), .val (.ref a495), .val (.long ((x4 &&& (2147483647 : Int64)) + (1 : Int64))), .second, .val (.long (((XT.ushrL x4 (32 : Int32)) &&& (2147483647 : Int64)) + (1 : Int64))), .second, .val (.int (x5 &&& (3 : Int32))), .val (.long x0.toInt64), .second, .unset] [(.int (0 : Int32))])
        refine go_st (fun _ kq => XS.istore X522.here hx rfl (hb hby at_148) rfl (l' := #[.val (.int x0), .val (.int x1), .val (.int x2), .val (.int x3), .val (.long x4), .second, .val (.int x5), .val (.ref a495), .val (.long ((x4 &&& (2147483647 : Int64)) + (1 : Int64))), .second, .val (.long (((XT.ushrL x4 (32 : Int32)) &&& (2147483647 : Int64)) + (1 : Int64))), .second, .val (.int (x5 &&& (3 : Int32))), .val (.long x0.toInt64), .second, .val (.int (0 : Int32))]) rfl kq) ?_
        show Go p e below s _ _ _ T522 (mkF m 150 #[.val (.int x0), .val (.int x1), .val (.int x2), .val (.int x3), .val (.long x4), .second, .val (.int x5), .val (.ref a495), .val (.long ((x4 &&& (2147483647 : Int64)) + (1 : Int64))), .second, .val (.long (((XT.ushrL x4 (32 : Int32)) &&& (2147483647 : Int64)) + (1 : Int64))), .second, .val (.int (x5 &&& (3 : Int32))), .val (.long x0.toInt64), .second, .val (.int (0 : Int32))] [])
        refine go_st (fun _ kq => XS.aload X522.here hx rfl (hb hby at_150) rfl rfl kq) ?_
        show Go p e below s _ _ _ T522 (mkF m 152 #[.val (.int x0), .val (.int x1), .val (.int x2), .val (.int x3), .val (.long x4), .second, .val (.int x5), .val (.ref a495), .val (.long ((x4 &&& (2147483647 : Int64)) + (1 : Int64))), .second, .val (.long (((XT.ushrL x4 (32 : Int32)) &&& (2147483647 : Int64)) + (1 : Int64))), .second, .val (.int (x5 &&& (3 : Int32))), .val (.long x0.toInt64), .second, .val (.int (0 : Int32))] [(.ref a495)])
        refine go_st (fun _ kq => XS.iloadN X522.here hx rfl (hb hby at_152) rfl kq) ?_
        show Go p e below s _ _ _ T522 (mkF m 153 #[.val (.int x0), .val (.int x1), .val (.int x2), .val (.int x3), .val (.long x4), .second, .val (.int x5), .val (.ref a495), .val (.long ((x4 &&& (2147483647 : Int64)) + (1 : Int64))), .second, .val (.long (((XT.ushrL x4 (32 : Int32)) &&& (2147483647 : Int64)) + (1 : Int64))), .second, .val (.int (x5 &&& (3 : Int32))), .val (.long x0.toInt64), .second, .val (.int (0 : Int32))] [(.int x3), (.ref a495)])
        refine go_st (fun _ kq => XT.i2l X522.here hx rfl (hb hby at_153) rfl kq) ?_
        show Go p e below s _ _ _ T522 (mkF m 154 #[.val (.int x0), .val (.int x1), .val (.int x2), .val (.int x3), .val (.long x4), .second, .val (.int x5), .val (.ref a495), .val (.long ((x4 &&& (2147483647 : Int64)) + (1 : Int64))), .second, .val (.long (((XT.ushrL x4 (32 : Int32)) &&& (2147483647 : Int64)) + (1 : Int64))), .second, .val (.int (x5 &&& (3 : Int32))), .val (.long x0.toInt64), .second, .val (.int (0 : Int32))] [(.long x3.toInt64), (.ref a495)])
        refine go_st (fun _ kq => XT.lload X522.here hx rfl (hb hby at_154) rfl kq) ?_
        show Go p e below s _ _ _ T522 (mkF m 156 #[.val (.int x0), .val (.int x1), .val (.int x2), .val (.int x3), .val (.long x4), .second, .val (.int x5), .val (.ref a495), .val (.long ((x4 &&& (2147483647 : Int64)) + (1 : Int64))), .second, .val (.long (((XT.ushrL x4 (32 : Int32)) &&& (2147483647 : Int64)) + (1 : Int64))), .second, .val (.int (x5 &&& (3 : Int32))), .val (.long x0.toInt64), .second, .val (.int (0 : Int32))] [(.long (((XT.ushrL x4 (32 : Int32)) &&& (2147483647 : Int64)) + (1 : Int64))), (.long x3.toInt64), (.ref a495)])
        have z528 : n0 ≤ T509.heap.size := Nat.le_trans z512 K509.1
        refine go_callV X522 hx hZ hml hown (hw _ (List.mem_of_getElem? (i := 94) rfl)) (hw _ (List.mem_of_getElem? (i := 95) rfl)) (notFace_of_selects (args := #[]) (mvT hZ (hw _ (List.mem_of_getElem? (i := 97) rfl)))) (hw _ (List.mem_of_getElem? (i := 97) rfl)) (hw _ (List.mem_of_getElem? (i := 96) rfl)) (hw _ (List.mem_of_getElem? (i := 98) rfl)) (hw _ (List.mem_of_getElem? (i := 2) rfl)) e522 f509_0 (argsL := [(.long x3.toInt64), (.long (((XT.ushrL x4 (32 : Int32)) &&& (2147483647 : Int64)) + (1 : Int64)))]) (rest := []) (W := 0) (met_idl1 l Z a0 hw a495 x3.toInt64 (((XT.ushrL x4 (32 : Int32)) &&& (2147483647 : Int64)) + (1 : Int64)) 0 uq_509 gq_509 T509.heap n0 z528 f509_0 f509_1 f509_3 f509_4 (by first | assumption | decide | omega) f509_2) (hb hby at_156) rfl rfl rfl (lenOf pd11 rfl) (by show 2 * 0 + _ ≤ _; exact Nat.le_of_eq rfl) (by decide) (by decide) (by decide) (by decide) (by decide) ?_
        intro T527 v527 L527 X527 q527
        obtain ⟨rfl, M527, e527⟩ := q527
        have N527 := Fr.app N522 M527
        show Go p e below s _ _ _ T527 (mkF m 159 #[.val (.int x0), .val (.int x1), .val (.int x2), .val (.int x3), .val (.long x4), .second, .val (.int x5), .val (.ref a495), .val (.long ((x4 &&& (2147483647 : Int64)) + (1 : Int64))), .second, .val (.long (((XT.ushrL x4 (32 : Int32)) &&& (2147483647 : Int64)) + (1 : Int64))), .second, .val (.int (x5 &&& (3 : Int32))), .val (.long x0.toInt64), .second, .val (.int (0 : Int32))] [(.int (fIdl1 gq_509 0 x3.toInt64 (((XT.ushrL x4 (32 : Int32)) &&& (2147483647 : Int64)) + (1 : Int64))))])
        refine go_st (fun _ kq => XS.iload X527.here hx rfl (hb hby at_159) rfl kq) ?_
        show Go p e below s _ _ _ T527 (mkF m 161 #[.val (.int x0), .val (.int x1), .val (.int x2), .val (.int x3), .val (.long x4), .second, .val (.int x5), .val (.ref a495), .val (.long ((x4 &&& (2147483647 : Int64)) + (1 : Int64))), .second, .val (.long (((XT.ushrL x4 (32 : Int32)) &&& (2147483647 : Int64)) + (1 : Int64))), .second, .val (.int (x5 &&& (3 : Int32))), .val (.long x0.toInt64), .second, .val (.int (0 : Int32))] [(.int (0 : Int32)), (.int (fIdl1 gq_509 0 x3.toInt64 (((XT.ushrL x4 (32 : Int32)) &&& (2147483647 : Int64)) + (1 : Int64))))])
        have hb529 : (fIdl1 gq_509 0 x3.toInt64 (((XT.ushrL x4 (32 : Int32)) &&& (2147483647 : Int64)) + (1 : Int64))) = (0 : Int32) := by exact (own_idl1 p509_0 (own_r32 _) (own_r32 _) (own_rw _)).2 hc526
        refine go_st (fun _ kq => XS.icmpNo X527.here hx rfl (hb hby at_161) rfl (XT.ii_ne_f hb529) kq) ?_
        show Go p e below s _ _ _ T527 (mkF m 164 #[.val (.int x0), .val (.int x1), .val (.int x2), .val (.int x3), .val (.long x4), .second, .val (.int x5), .val (.ref a495), .val (.long ((x4 &&& (2147483647 : Int64)) + (1 : Int64))), .second, .val (.long (((XT.ushrL x4 (32 : Int32)) &&& (2147483647 : Int64)) + (1 : Int64))), .second, .val (.int (x5 &&& (3 : Int32))), .val (.long x0.toInt64), .second, .val (.int (0 : Int32))] [])
        refine go_st (fun _ kq => XT.iconstV X527.here hx rfl (1 : Int32) (hb hby at_164) (by decide) kq) ?_
        show Go p e below s _ _ _ T527 (mkF m 165 #[.val (.int x0), .val (.int x1), .val (.int x2), .val (.int x3), .val (.long x4), .second, .val (.int x5), .val (.ref a495), .val (.long ((x4 &&& (2147483647 : Int64)) + (1 : Int64))), .second, .val (.long (((XT.ushrL x4 (32 : Int32)) &&& (2147483647 : Int64)) + (1 : Int64))), .second, .val (.int (x5 &&& (3 : Int32))), .val (.long x0.toInt64), .second, .val (.int (0 : Int32))] [(.int (1 : Int32))])
        refine go_st (fun _ kq => XS.goto X527.here hx rfl (pc0 := 165) (pc' := 169) rfl (hb hby at_165) (by decide) (by decide) kq) ?_
        show Go p e below s _ _ _ T527 (mkF m 169 #[.val (.int x0), .val (.int x1), .val (.int x2), .val (.int x3), .val (.long x4), .second, .val (.int x5), .val (.ref a495), .val (.long ((x4 &&& (2147483647 : Int64)) + (1 : Int64))), .second, .val (.long (((XT.ushrL x4 (32 : Int32)) &&& (2147483647 : Int64)) + (1 : Int64))), .second, .val (.int (x5 &&& (3 : Int32))), .val (.long x0.toInt64), .second, .val (.int (0 : Int32))] [(.int (1 : Int32))])
        exact go_retB (w := (1 : Int32)) X527 hx hlk hret (hb hby at_169) (by decide) (by decide) (by decide) ⟨rfl, N527⟩
      · refine go_st (fun _ kq => XS.ifNo X522.here hx rfl (hb hby at_140) rfl (XT.ll_gt_f hc526) kq) ?_
        show Go p e below s _ _ _ T522 (mkF m 143 #[.val (.int x0), .val (.int x1), .val (.int x2), .val (.int x3), .val (.long x4), .second, .val (.int x5), .val (.ref a495), .val (.long ((x4 &&& (2147483647 : Int64)) + (1 : Int64))), .second, .val (.long (((XT.ushrL x4 (32 : Int32)) &&& (2147483647 : Int64)) + (1 : Int64))), .second, .val (.int (x5 &&& (3 : Int32))), .val (.long x0.toInt64), .second, .unset] [])
        refine go_st (fun _ kq => XT.iconstV X522.here hx rfl (1 : Int32) (hb hby at_143) (by decide) kq) ?_
        show Go p e below s _ _ _ T522 (mkF m 144 #[.val (.int x0), .val (.int x1), .val (.int x2), .val (.int x3), .val (.long x4), .second, .val (.int x5), .val (.ref a495), .val (.long ((x4 &&& (2147483647 : Int64)) + (1 : Int64))), .second, .val (.long (((XT.ushrL x4 (32 : Int32)) &&& (2147483647 : Int64)) + (1 : Int64))), .second, .val (.int (x5 &&& (3 : Int32))), .val (.long x0.toInt64), .second, .unset] [(.int (1 : Int32))])
        refine go_st (fun _ kq => XS.goto X522.here hx rfl (pc0 := 144) (pc' := 148) rfl (hb hby at_144) (by decide) (by decide) kq) ?_
        show Go p e below s _ _ _ T522 (mkF m 148 #[.val (.int x0), .val (.int x1), .val (.int x2), .val (.int x3), .val (.long x4), .second, .val (.int x5), .val (.ref a495), .val (.long ((x4 &&& (2147483647 : Int64)) + (1 : Int64))), .second, .val (.long (((XT.ushrL x4 (32 : Int32)) &&& (2147483647 : Int64)) + (1 : Int64))), .second, .val (.int (x5 &&& (3 : Int32))), .val (.long x0.toInt64), .second, .unset] [(.int (1 : Int32))])
        refine go_st (fun _ kq => XS.istore X522.here hx rfl (hb hby at_148) rfl (l' := #[.val (.int x0), .val (.int x1), .val (.int x2), .val (.int x3), .val (.long x4), .second, .val (.int x5), .val (.ref a495), .val (.long ((x4 &&& (2147483647 : Int64)) + (1 : Int64))), .second, .val (.long (((XT.ushrL x4 (32 : Int32)) &&& (2147483647 : Int64)) + (1 : Int64))), .second, .val (.int (x5 &&& (3 : Int32))), .val (.long x0.toInt64), .second, .val (.int (1 : Int32))]) rfl kq) ?_
        show Go p e below s _ _ _ T522 (mkF m 150 #[.val (.int x0), .val (.int x1), .val (.int x2), .val (.int x3), .val (.long x4), .second, .val (.int x5), .val (.ref a495), .val (.long ((x4 &&& (2147483647 : Int64)) + (1 : Int64))), .second, .val (.long (((XT.ushrL x4 (32 : Int32)) &&& (2147483647 : Int64)) + (1 : Int64))), .second, .val (.int (x5 &&& (3 : Int32))), .val (.long x0.toInt64), .second, .val (.int (1 : Int32))] [])
        refine go_st (fun _ kq => XS.aload X522.here hx rfl (hb hby at_150) rfl rfl kq) ?_
        show Go p e below s _ _ _ T522 (mkF m 152 #[.val (.int x0), .val (.int x1), .val (.int x2), .val (.int x3), .val (.long x4), .second, .val (.int x5), .val (.ref a495), .val (.long ((x4 &&& (2147483647 : Int64)) + (1 : Int64))), .second, .val (.long (((XT.ushrL x4 (32 : Int32)) &&& (2147483647 : Int64)) + (1 : Int64))), .second, .val (.int (x5 &&& (3 : Int32))), .val (.long x0.toInt64), .second, .val (.int (1 : Int32))] [(.ref a495)])
        refine go_st (fun _ kq => XS.iloadN X522.here hx rfl (hb hby at_152) rfl kq) ?_
        show Go p e below s _ _ _ T522 (mkF m 153 #[.val (.int x0), .val (.int x1), .val (.int x2), .val (.int x3), .val (.long x4), .second, .val (.int x5), .val (.ref a495), .val (.long ((x4 &&& (2147483647 : Int64)) + (1 : Int64))), .second, .val (.long (((XT.ushrL x4 (32 : Int32)) &&& (2147483647 : Int64)) + (1 : Int64))), .second, .val (.int (x5 &&& (3 : Int32))), .val (.long x0.toInt64), .second, .val (.int (1 : Int32))] [(.int x3), (.ref a495)])
        refine go_st (fun _ kq => XT.i2l X522.here hx rfl (hb hby at_153) rfl kq) ?_
        show Go p e below s _ _ _ T522 (mkF m 154 #[.val (.int x0), .val (.int x1), .val (.int x2), .val (.int x3), .val (.long x4), .second, .val (.int x5), .val (.ref a495), .val (.long ((x4 &&& (2147483647 : Int64)) + (1 : Int64))), .second, .val (.long (((XT.ushrL x4 (32 : Int32)) &&& (2147483647 : Int64)) + (1 : Int64))), .second, .val (.int (x5 &&& (3 : Int32))), .val (.long x0.toInt64), .second, .val (.int (1 : Int32))] [(.long x3.toInt64), (.ref a495)])
        refine go_st (fun _ kq => XT.lload X522.here hx rfl (hb hby at_154) rfl kq) ?_
        show Go p e below s _ _ _ T522 (mkF m 156 #[.val (.int x0), .val (.int x1), .val (.int x2), .val (.int x3), .val (.long x4), .second, .val (.int x5), .val (.ref a495), .val (.long ((x4 &&& (2147483647 : Int64)) + (1 : Int64))), .second, .val (.long (((XT.ushrL x4 (32 : Int32)) &&& (2147483647 : Int64)) + (1 : Int64))), .second, .val (.int (x5 &&& (3 : Int32))), .val (.long x0.toInt64), .second, .val (.int (1 : Int32))] [(.long (((XT.ushrL x4 (32 : Int32)) &&& (2147483647 : Int64)) + (1 : Int64))), (.long x3.toInt64), (.ref a495)])
        have z531 : n0 ≤ T509.heap.size := Nat.le_trans z512 K509.1
        refine go_callV X522 hx hZ hml hown (hw _ (List.mem_of_getElem? (i := 94) rfl)) (hw _ (List.mem_of_getElem? (i := 95) rfl)) (notFace_of_selects (args := #[]) (mvT hZ (hw _ (List.mem_of_getElem? (i := 97) rfl)))) (hw _ (List.mem_of_getElem? (i := 97) rfl)) (hw _ (List.mem_of_getElem? (i := 96) rfl)) (hw _ (List.mem_of_getElem? (i := 98) rfl)) (hw _ (List.mem_of_getElem? (i := 2) rfl)) e522 f509_0 (argsL := [(.long x3.toInt64), (.long (((XT.ushrL x4 (32 : Int32)) &&& (2147483647 : Int64)) + (1 : Int64)))]) (rest := []) (W := 0) (met_idl1 l Z a0 hw a495 x3.toInt64 (((XT.ushrL x4 (32 : Int32)) &&& (2147483647 : Int64)) + (1 : Int64)) 0 uq_509 gq_509 T509.heap n0 z531 f509_0 f509_1 f509_3 f509_4 (by first | assumption | decide | omega) f509_2) (hb hby at_156) rfl rfl rfl (lenOf pd11 rfl) (by show 2 * 0 + _ ≤ _; exact Nat.le_of_eq rfl) (by decide) (by decide) (by decide) (by decide) (by decide) ?_
        intro T530 v530 L530 X530 q530
        obtain ⟨rfl, M530, e530⟩ := q530
        have N530 := Fr.app N522 M530
        show Go p e below s _ _ _ T530 (mkF m 159 #[.val (.int x0), .val (.int x1), .val (.int x2), .val (.int x3), .val (.long x4), .second, .val (.int x5), .val (.ref a495), .val (.long ((x4 &&& (2147483647 : Int64)) + (1 : Int64))), .second, .val (.long (((XT.ushrL x4 (32 : Int32)) &&& (2147483647 : Int64)) + (1 : Int64))), .second, .val (.int (x5 &&& (3 : Int32))), .val (.long x0.toInt64), .second, .val (.int (1 : Int32))] [(.int (fIdl1 gq_509 0 x3.toInt64 (((XT.ushrL x4 (32 : Int32)) &&& (2147483647 : Int64)) + (1 : Int64))))])
        refine go_st (fun _ kq => XS.iload X530.here hx rfl (hb hby at_159) rfl kq) ?_
        show Go p e below s _ _ _ T530 (mkF m 161 #[.val (.int x0), .val (.int x1), .val (.int x2), .val (.int x3), .val (.long x4), .second, .val (.int x5), .val (.ref a495), .val (.long ((x4 &&& (2147483647 : Int64)) + (1 : Int64))), .second, .val (.long (((XT.ushrL x4 (32 : Int32)) &&& (2147483647 : Int64)) + (1 : Int64))), .second, .val (.int (x5 &&& (3 : Int32))), .val (.long x0.toInt64), .second, .val (.int (1 : Int32))] [(.int (1 : Int32)), (.int (fIdl1 gq_509 0 x3.toInt64 (((XT.ushrL x4 (32 : Int32)) &&& (2147483647 : Int64)) + (1 : Int64))))])
        have hb532 : (fIdl1 gq_509 0 x3.toInt64 (((XT.ushrL x4 (32 : Int32)) &&& (2147483647 : Int64)) + (1 : Int64))) = (1 : Int32) := by exact (own_idl1 p509_0 (own_r32 _) (own_r32 _) (own_rw _)).1 hc526
        refine go_st (fun _ kq => XS.icmpNo X530.here hx rfl (hb hby at_161) rfl (XT.ii_ne_f hb532) kq) ?_
        show Go p e below s _ _ _ T530 (mkF m 164 #[.val (.int x0), .val (.int x1), .val (.int x2), .val (.int x3), .val (.long x4), .second, .val (.int x5), .val (.ref a495), .val (.long ((x4 &&& (2147483647 : Int64)) + (1 : Int64))), .second, .val (.long (((XT.ushrL x4 (32 : Int32)) &&& (2147483647 : Int64)) + (1 : Int64))), .second, .val (.int (x5 &&& (3 : Int32))), .val (.long x0.toInt64), .second, .val (.int (1 : Int32))] [])
        refine go_st (fun _ kq => XT.iconstV X530.here hx rfl (1 : Int32) (hb hby at_164) (by decide) kq) ?_
        show Go p e below s _ _ _ T530 (mkF m 165 #[.val (.int x0), .val (.int x1), .val (.int x2), .val (.int x3), .val (.long x4), .second, .val (.int x5), .val (.ref a495), .val (.long ((x4 &&& (2147483647 : Int64)) + (1 : Int64))), .second, .val (.long (((XT.ushrL x4 (32 : Int32)) &&& (2147483647 : Int64)) + (1 : Int64))), .second, .val (.int (x5 &&& (3 : Int32))), .val (.long x0.toInt64), .second, .val (.int (1 : Int32))] [(.int (1 : Int32))])
        refine go_st (fun _ kq => XS.goto X530.here hx rfl (pc0 := 165) (pc' := 169) rfl (hb hby at_165) (by decide) (by decide) kq) ?_
        show Go p e below s _ _ _ T530 (mkF m 169 #[.val (.int x0), .val (.int x1), .val (.int x2), .val (.int x3), .val (.long x4), .second, .val (.int x5), .val (.ref a495), .val (.long ((x4 &&& (2147483647 : Int64)) + (1 : Int64))), .second, .val (.long (((XT.ushrL x4 (32 : Int32)) &&& (2147483647 : Int64)) + (1 : Int64))), .second, .val (.int (x5 &&& (3 : Int32))), .val (.long x0.toInt64), .second, .val (.int (1 : Int32))] [(.int (1 : Int32))])
        exact go_retB (w := (1 : Int32)) X530 hx hlk hret (hb hby at_169) (by decide) (by decide) (by decide) ⟨rfl, N530⟩
    · refine go_st (fun _ kq => XS.icmpNo X522.here hx rfl (hb hby at_74) rfl (XT.ii_lt_f hc523) kq) ?_
      show Go p e below s _ _ _ T522 (mkF m 77 #[.val (.int x0), .val (.int x1), .val (.int x2), .val (.int x3), .val (.long x4), .second, .val (.int x5), .val (.ref a495), .val (.long ((x4 &&& (2147483647 : Int64)) + (1 : Int64))), .second, .val (.long (((XT.ushrL x4 (32 : Int32)) &&& (2147483647 : Int64)) + (1 : Int64))), .second, .val (.int (x5 &&& (3 : Int32))), .val (.long x0.toInt64), .second, .unset] [])
      refine go_st (fun _ kq => XS.aload X522.here hx rfl (hb hby at_77) rfl rfl kq) ?_
      show Go p e below s _ _ _ T522 (mkF m 79 #[.val (.int x0), .val (.int x1), .val (.int x2), .val (.int x3), .val (.long x4), .second, .val (.int x5), .val (.ref a495), .val (.long ((x4 &&& (2147483647 : Int64)) + (1 : Int64))), .second, .val (.long (((XT.ushrL x4 (32 : Int32)) &&& (2147483647 : Int64)) + (1 : Int64))), .second, .val (.int (x5 &&& (3 : Int32))), .val (.long x0.toInt64), .second, .unset] [(.ref a495)])
      refine go_st (fun _ kq => XS.iloadN X522.here hx rfl (hb hby at_79) rfl kq) ?_
      show Go p e below s _ _ _ T522 (mkF m 80 #[.val (.int x0), .val (.int x1), .val (.int x2), .val (.int x3), .val (.long x4), .second, .val (.int x5), .val (.ref a495), .val (.long ((x4 &&& (2147483647 : Int64)) + (1 : Int64))), .second, .val (.long (((XT.ushrL x4 (32 : Int32)) &&& (2147483647 : Int64)) + (1 : Int64))), .second, .val (.int (x5 &&& (3 : Int32))), .val (.long x0.toInt64), .second, .unset] [(.int x1), (.ref a495)])
      refine go_st (fun _ kq => XT.i2l X522.here hx rfl (hb hby at_80) rfl kq) ?_
      show Go p e below s _ _ _ T522 (mkF m 81 #[.val (.int x0), .val (.int x1), .val (.int x2), .val (.int x3), .val (.long x4), .second, .val (.int x5), .val (.ref a495), .val (.long ((x4 &&& (2147483647 : Int64)) + (1 : Int64))), .second, .val (.long (((XT.ushrL x4 (32 : Int32)) &&& (2147483647 : Int64)) + (1 : Int64))), .second, .val (.int (x5 &&& (3 : Int32))), .val (.long x0.toInt64), .second, .unset] [(.long x1.toInt64), (.ref a495)])
      refine go_st (fun _ kq => Jvm.Stand.ldc2J X522 hx hown (mvT hZ (hw _ (List.mem_of_getElem? (i := 20) rfl))) rfl (hb hby at_81) kq) ?_
      show Go p e below s _ _ _ T522 (mkF m 84 #[.val (.int x0), .val (.int x1), .val (.int x2), .val (.int x3), .val (.long x4), .second, .val (.int x5), .val (.ref a495), .val (.long ((x4 &&& (2147483647 : Int64)) + (1 : Int64))), .second, .val (.long (((XT.ushrL x4 (32 : Int32)) &&& (2147483647 : Int64)) + (1 : Int64))), .second, .val (.int (x5 &&& (3 : Int32))), .val (.long x0.toInt64), .second, .unset] [(.long (3 : Int64)), (.long x1.toInt64), (.ref a495)])
      refine go_st (fun _ kq => XT.lload X522.here hx rfl (hb hby at_84) rfl kq) ?_
      show Go p e below s _ _ _ T522 (mkF m 86 #[.val (.int x0), .val (.int x1), .val (.int x2), .val (.int x3), .val (.long x4), .second, .val (.int x5), .val (.ref a495), .val (.long ((x4 &&& (2147483647 : Int64)) + (1 : Int64))), .second, .val (.long (((XT.ushrL x4 (32 : Int32)) &&& (2147483647 : Int64)) + (1 : Int64))), .second, .val (.int (x5 &&& (3 : Int32))), .val (.long x0.toInt64), .second, .unset] [(.long ((x4 &&& (2147483647 : Int64)) + (1 : Int64))), (.long (3 : Int64)), (.long x1.toInt64), (.ref a495)])
      have z534 : n0 ≤ T509.heap.size := Nat.le_trans z512 K509.1
      refine go_callV X522 hx hZ hml hown (hw _ (List.mem_of_getElem? (i := 21) rfl)) (hw _ (List.mem_of_getElem? (i := 22) rfl)) (notFace_of_selects (args := #[]) (mvT hZ (hw _ (List.mem_of_getElem? (i := 24) rfl)))) (hw _ (List.mem_of_getElem? (i := 24) rfl)) (hw _ (List.mem_of_getElem? (i := 23) rfl)) (hw _ (List.mem_of_getElem? (i := 25) rfl)) (hw _ (List.mem_of_getElem? (i := 2) rfl)) e522 f509_0 (argsL := [(.long x1.toInt64), (.long (3 : Int64)), (.long ((x4 &&& (2147483647 : Int64)) + (1 : Int64)))]) (rest := []) (W := 0) (met_acq1 l Z a0 hw a495 x1.toInt64 ((x4 &&& (2147483647 : Int64)) + (1 : Int64)) 0 uq_509 gq_509 x0.toInt64 T509.heap n0 z534 f509_0 f509_1 f509_3 f509_4 (by first | assumption | decide | omega) f509_2 ne517 nw_a495 nw_uq_509 p509_0 (own_r32 _) (own_r32 _) (own_rw _)) (hb hby at_86) rfl rfl rfl (lenOf pd12 rfl) (by show 2 * 0 + _ ≤ _; exact Nat.le_of_eq rfl) (by decide) (by decide) (by decide) (by decide) (by decide) ?_
      intro T533 v533 L533 X533 q533
      obtain ⟨jq_533, gq_533, dq_533, rfl, M533, K533, fz533_dq, p533_0, p533_1, f533_0, f533_1, f533_2, f533_3, f533_4⟩ := q533
      have N533 := Fr.app N522 M533
      have c535 : zq < T509.heap.size := Nat.lt_of_lt_of_le c514 K509.1
      have ne536 : zq ≠ dq_533 := Nat.ne_of_lt (Nat.lt_of_lt_of_le c535 fz533_dq)
      have c537 : a495 < T509.heap.size := Nat.lt_of_lt_of_le c516 K509.1
      have ne538 : a495 ≠ dq_533 := Nat.ne_of_lt (Nat.lt_of_lt_of_le c537 fz533_dq)
      have ne539 : uq_509 ≠ dq_533 := Nat.ne_of_lt (Nat.lt_of_lt_of_le lt_uq_509 fz533_dq)
      have nw_dq_533 : n0 ≤ dq_533 := Nat.le_trans z534 fz533_dq
      have y540 : h0.size ≤ T509.heap.size := Nat.le_trans y519 K509.1
      show Go p e below s _ _ _ T533 (mkF m 89 #[.val (.int x0), .val (.int x1), .val (.int x2), .val (.int x3), .val (.long x4), .second, .val (.int x5), .val (.ref a495), .val (.long ((x4 &&& (2147483647 : Int64)) + (1 : Int64))), .second, .val (.long (((XT.ushrL x4 (32 : Int32)) &&& (2147483647 : Int64)) + (1 : Int64))), .second, .val (.int (x5 &&& (3 : Int32))), .val (.long x0.toInt64), .second, .unset] [(.ref dq_533)])
      rcases own_le1 p533_0 with hj541 | hj542
      · subst hj541
        have hd543 : Fld Z T533.heap a495 "com/example/aforo/aforo/SlidingLog" "head" "I" (.int (0 : Int32)) := f533_1
        have sz543 : Fld Z T533.heap a495 "com/example/aforo/aforo/SlidingLog" "size" "I" (.int (2 : Int32)) := f533_2
        show Go p e below s _ _ _ T533 (mkF m 89 #[.val (.int x0), .val (.int x1), .val (.int x2), .val (.int x3), .val (.long x4), .second, .val (.int x5), .val (.ref a495), .val (.long ((x4 &&& (2147483647 : Int64)) + (1 : Int64))), .second, .val (.long (((XT.ushrL x4 (32 : Int32)) &&& (2147483647 : Int64)) + (1 : Int64))), .second, .val (.int (x5 &&& (3 : Int32))), .val (.long x0.toInt64), .second, .unset] [(.ref dq_533)])
        refine go_st (fun _ kq => XT.pop X533.here hx rfl (hb hby at_89) rfl rfl kq) ?_
        show Go p e below s _ _ _ T533 (mkF m 90 #[.val (.int x0), .val (.int x1), .val (.int x2), .val (.int x3), .val (.long x4), .second, .val (.int x5), .val (.ref a495), .val (.long ((x4 &&& (2147483647 : Int64)) + (1 : Int64))), .second, .val (.long (((XT.ushrL x4 (32 : Int32)) &&& (2147483647 : Int64)) + (1 : Int64))), .second, .val (.int (x5 &&& (3 : Int32))), .val (.long x0.toInt64), .second, .unset] [])
        refine go_st (fun _ kq => XT.lload X533.here hx rfl (hb hby at_90) rfl kq) ?_
        show Go p e below s _ _ _ T533 (mkF m 92 #[.val (.int x0), .val (.int x1), .val (.int x2), .val (.int x3), .val (.long x4), .second, .val (.int x5), .val (.ref a495), .val (.long ((x4 &&& (2147483647 : Int64)) + (1 : Int64))), .second, .val (.long (((XT.ushrL x4 (32 : Int32)) &&& (2147483647 : Int64)) + (1 : Int64))), .second, .val (.int (x5 &&& (3 : Int32))), .val (.long x0.toInt64), .second, .unset] [(.long x0.toInt64)])
        refine go_st (fun _ kq => XS.iloadN X533.here hx rfl (hb hby at_92) rfl kq) ?_
        show Go p e below s _ _ _ T533 (mkF m 93 #[.val (.int x0), .val (.int x1), .val (.int x2), .val (.int x3), .val (.long x4), .second, .val (.int x5), .val (.ref a495), .val (.long ((x4 &&& (2147483647 : Int64)) + (1 : Int64))), .second, .val (.long (((XT.ushrL x4 (32 : Int32)) &&& (2147483647 : Int64)) + (1 : Int64))), .second, .val (.int (x5 &&& (3 : Int32))), .val (.long x0.toInt64), .second, .unset] [(.int x1), (.long x0.toInt64)])
        refine go_st (fun _ kq => XT.i2l X533.here hx rfl (hb hby at_93) rfl kq) ?_
        show Go p e below s _ _ _ T533 (mkF m 94 #[.val (.int x0), .val (.int x1), .val (.int x2), .val (.int x3), .val (.long x4), .second, .val (.int x5), .val (.ref a495), .val (.long ((x4 &&& (2147483647 : Int64)) + (1 : Int64))), .second, .val (.long (((XT.ushrL x4 (32 : Int32)) &&& (2147483647 : Int64)) + (1 : Int64))), .second, .val (.int (x5 &&& (3 : Int32))), .val (.long x0.toInt64), .second, .unset] [(.long x1.toInt64), (.long x0.toInt64)])
        refine go_callS X533 hx hZ hml hown (hw _ (List.mem_of_getElem? (i := 93) rfl)) (hw _ (List.mem_of_getElem? (i := 53) rfl)) (hw _ (List.mem_of_getElem? (i := 38) rfl)) (hw _ (List.mem_of_getElem? (i := 54) rfl)) rfl (argsL := [(.long x0.toInt64), (.long x1.toInt64)]) (rest := []) (W := 0) (met_10 l Z a0 hw x0.toInt64 x1.toInt64 T533.heap n0) (hb hby at_94) rfl rfl rfl (lenOf pd4 rfl) (by show 2 * 0 + _ ≤ _; exact Nat.le_of_eq rfl) (by decide) (by decide) (by decide) (by decide) (by decide) ?_
        intro T544 v544 L544 X544 q544
        obtain ⟨rfl, M544, e544⟩ := q544
        have N544 := Fr.app N533 M544
        show Go p e below s _ _ _ T544 (mkF m 97 #[.val (.int x0), .val (.int x1), .val (.int x2), .val (.int x3), .val (.long x4), .second, .val (.int x5), .val (.ref a495), .val (.long ((x4 &&& (2147483647 : Int64)) + (1 : Int64))), .second, .val (.long (((XT.ushrL x4 (32 : Int32)) &&& (2147483647 : Int64)) + (1 : Int64))), .second, .val (.int (x5 &&& (3 : Int32))), .val (.long x0.toInt64), .second, .unset] [(.long (fMaxJ x0.toInt64 x1.toInt64))])
        refine go_st (fun _ kq => XT.lstore X544.here hx rfl (hb hby at_97) rfl (l' := #[.val (.int x0), .val (.int x1), .val (.int x2), .val (.int x3), .val (.long x4), .second, .val (.int x5), .val (.ref a495), .val (.long ((x4 &&& (2147483647 : Int64)) + (1 : Int64))), .second, .val (.long (((XT.ushrL x4 (32 : Int32)) &&& (2147483647 : Int64)) + (1 : Int64))), .second, .val (.int (x5 &&& (3 : Int32))), .val (.long (fMaxJ x0.toInt64 x1.toInt64)), .second, .unset]) rfl kq) ?_
        show Go p e below s _ _ _ T544 (mkF m 99 #[.val (.int x0), .val (.int x1), .val (.int x2), .val (.int x3), .val (.long x4), .second, .val (.int x5), .val (.ref a495), .val (.long ((x4 &&& (2147483647 : Int64)) + (1 : Int64))), .second, .val (.long (((XT.ushrL x4 (32 : Int32)) &&& (2147483647 : Int64)) + (1 : Int64))), .second, .val (.int (x5 &&& (3 : Int32))), .val (.long (fMaxJ x0.toInt64 x1.toInt64)), .second, .unset] [])
        refine go_st (fun _ kq => XS.iload X544.here hx rfl (hb hby at_99) rfl kq) ?_
        show Go p e below s _ _ _ T544 (mkF m 101 #[.val (.int x0), .val (.int x1), .val (.int x2), .val (.int x3), .val (.long x4), .second, .val (.int x5), .val (.ref a495), .val (.long ((x4 &&& (2147483647 : Int64)) + (1 : Int64))), .second, .val (.long (((XT.ushrL x4 (32 : Int32)) &&& (2147483647 : Int64)) + (1 : Int64))), .second, .val (.int (x5 &&& (3 : Int32))), .val (.long (fMaxJ x0.toInt64 x1.toInt64)), .second, .unset] [(.int (x5 &&& (3 : Int32)))])
        refine go_st (fun _ kq => XT.iconstV X544.here hx rfl (3 : Int32) (hb hby at_101) (by decide) kq) ?_
        show Go p e below s _ _ _ T544 (mkF m 102 #[.val (.int x0), .val (.int x1), .val (.int x2), .val (.int x3), .val (.long x4), .second, .val (.int x5), .val (.ref a495), .val (.long ((x4 &&& (2147483647 : Int64)) + (1 : Int64))), .second, .val (.long (((XT.ushrL x4 (32 : Int32)) &&& (2147483647 : Int64)) + (1 : Int64))), .second, .val (.int (x5 &&& (3 : Int32))), .val (.long (fMaxJ x0.toInt64 x1.toInt64)), .second, .unset] [(.int (3 : Int32)), (.int (x5 &&& (3 : Int32)))])
        by_cases hc545 : (x5 &&& (3 : Int32)) < (3 : Int32)
        · refine go_st (fun _ kq => XS.icmpYes X544.here hx rfl (pc0 := 102) (pc' := 127) rfl (hb hby at_102) rfl (XT.ii_lt_t hc545) (by decide) (by decide) kq) ?_
          show Go p e below s _ _ _ T544 (mkF m 127 #[.val (.int x0), .val (.int x1), .val (.int x2), .val (.int x3), .val (.long x4), .second, .val (.int x5), .val (.ref a495), .val (.long ((x4 &&& (2147483647 : Int64)) + (1 : Int64))), .second, .val (.long (((XT.ushrL x4 (32 : Int32)) &&& (2147483647 : Int64)) + (1 : Int64))), .second, .val (.int (x5 &&& (3 : Int32))), .val (.long (fMaxJ x0.toInt64 x1.toInt64)), .second, .unset] [])
          refine go_st (fun _ kq => XS.iload X544.here hx rfl (hb hby at_127) rfl kq) ?_
          show Go p e below s _ _ _ T544 (mkF m 129 #[.val (.int x0), .val (.int x1), .val (.int x2), .val (.int x3), .val (.long x4), .second, .val (.int x5), .val (.ref a495), .val (.long ((x4 &&& (2147483647 : Int64)) + (1 : Int64))), .second, .val (.long (((XT.ushrL x4 (32 : Int32)) &&& (2147483647 : Int64)) + (1 : Int64))), .second, .val (.int (x5 &&& (3 : Int32))), .val (.long (fMaxJ x0.toInt64 x1.toInt64)), .second, .unset] [(.int (x5 &&& (3 : Int32)))])
          have hb546 : ¬ ((x5 &&& (3 : Int32)) = (0 : Int32)) := by exact own_nz1 hc503
          refine go_st (fun _ kq => XS.ifNo X544.here hx rfl (hb hby at_129) rfl (XT.i0_eq_f hb546) kq) ?_
          show Go p e below s _ _ _ T544 (mkF m 132 #[.val (.int x0), .val (.int x1), .val (.int x2), .val (.int x3), .val (.long x4), .second, .val (.int x5), .val (.ref a495), .val (.long ((x4 &&& (2147483647 : Int64)) + (1 : Int64))), .second, .val (.long (((XT.ushrL x4 (32 : Int32)) &&& (2147483647 : Int64)) + (1 : Int64))), .second, .val (.int (x5 &&& (3 : Int32))), .val (.long (fMaxJ x0.toInt64 x1.toInt64)), .second, .unset] [])
          refine go_st (fun _ kq => XT.lload X544.here hx rfl (hb hby at_132) rfl kq) ?_
          show Go p e below s _ _ _ T544 (mkF m 134 #[.val (.int x0), .val (.int x1), .val (.int x2), .val (.int x3), .val (.long x4), .second, .val (.int x5), .val (.ref a495), .val (.long ((x4 &&& (2147483647 : Int64)) + (1 : Int64))), .second, .val (.long (((XT.ushrL x4 (32 : Int32)) &&& (2147483647 : Int64)) + (1 : Int64))), .second, .val (.int (x5 &&& (3 : Int32))), .val (.long (fMaxJ x0.toInt64 x1.toInt64)), .second, .unset] [(.long (fMaxJ x0.toInt64 x1.toInt64))])
          refine go_st (fun _ kq => XT.lload X544.here hx rfl (hb hby at_134) rfl kq) ?_
          show Go p e below s _ _ _ T544 (mkF m 136 #[.val (.int x0), .val (.int x1), .val (.int x2), .val (.int x3), .val (.long x4), .second, .val (.int x5), .val (.ref a495), .val (.long ((x4 &&& (2147483647 : Int64)) + (1 : Int64))), .second, .val (.long (((XT.ushrL x4 (32 : Int32)) &&& (2147483647 : Int64)) + (1 : Int64))), .second, .val (.int (x5 &&& (3 : Int32))), .val (.long (fMaxJ x0.toInt64 x1.toInt64)), .second, .unset] [(.long (((XT.ushrL x4 (32 : Int32)) &&& (2147483647 : Int64)) + (1 : Int64))), (.long (fMaxJ x0.toInt64 x1.toInt64))])
          refine go_st (fun _ kq => XT.ladd X544.here hx rfl (hb hby at_136) rfl kq) ?_
          show Go p e below s _ _ _ T544 (mkF m 137 #[.val (.int x0), .val (.int x1), .val (.int x2), .val (.int x3), .val (.long x4), .second, .val (.int x5), .val (.ref a495), .val (.long ((x4 &&& (2147483647 : Int64)) + (1 : Int64))), .second, .val (.long (((XT.ushrL x4 (32 : Int32)) &&& (2147483647 : Int64)) + (1 : Int64))), .second, .val (.int (x5 &&& (3 : Int32))), .val (.long (fMaxJ x0.toInt64 x1.toInt64)), .second, .unset] [(.long ((fMaxJ x0.toInt64 x1.toInt64) + (((XT.ushrL x4 (32 : Int32)) &&& (2147483647 : Int64)) + (1 : Int64))))])
          refine go_st (fun _ kq => XS.iloadN X544.here hx rfl (hb hby at_137) rfl kq) ?_
          show Go p e below s _ _ _ T544 (mkF m 138 #[.val (.int x0), .val (.int x1), .val (.int x2), .val (.int x3), .val (.long x4), .second, .val (.int x5), .val (.ref a495), .val (.long ((x4 &&& (2147483647 : Int64)) + (1 : Int64))), .second, .val (.long (((XT.ushrL x4 (32 : Int32)) &&& (2147483647 : Int64)) + (1 : Int64))), .second, .val (.int (x5 &&& (3 : Int32))), .val (.long (fMaxJ x0.toInt64 x1.toInt64)), .second, .unset] [(.int x3), (.long ((fMaxJ x0.toInt64 x1.toInt64) + (((XT.ushrL x4 (32 : Int32)) &&& (2147483647 : Int64)) + (1 : Int64))))])
          refine go_st (fun _ kq => XT.i2l X544.here hx rfl (hb hby at_138) rfl kq) ?_
          show Go p e below s _ _ _ T544 (mkF m 139 #[.val (.int x0), .val (.int x1), .val (.int x2), .val (.int x3), .val (.long x4), .second, .val (.int x5), .val (.ref a495), .val (.long ((x4 &&& (2147483647 : Int64)) + (1 : Int64))), .second, .val (.long (((XT.ushrL x4 (32 : Int32)) &&& (2147483647 : Int64)) + (1 : Int64))), .second, .val (.int (x5 &&& (3 : Int32))), .val (.long (fMaxJ x0.toInt64 x1.toInt64)), .second, .unset] [(.long x3.toInt64), (.long ((fMaxJ x0.toInt64 x1.toInt64) + (((XT.ushrL x4 (32 : Int32)) &&& (2147483647 : Int64)) + (1 : Int64))))])
          refine go_st (fun _ kq => XT.lcmp X544.here hx rfl (hb hby at_139) rfl kq) ?_
          show Go p e below s _ _ _ T544 (mkF m 140 #[.val (.int x0), .val (.int x1), .val (.int x2), .val (.int x3), .val (.long x4), .second, .val (.int x5), .val (.ref a495), .val (.long ((x4 &&& (2147483647 : Int64)) + (1 : Int64))), .second, .val (.long (((XT.ushrL x4 (32 : Int32)) &&& (2147483647 : Int64)) + (1 : Int64))), .second, .val (.int (x5 &&& (3 : Int32))), .val (.long (fMaxJ x0.toInt64 x1.toInt64)), .second, .unset] [(.int (XT.cmpL ((fMaxJ x0.toInt64 x1.toInt64) + (((XT.ushrL x4 (32 : Int32)) &&& (2147483647 : Int64)) + (1 : Int64))) x3.toInt64))])
          by_cases hc547 : x3.toInt64 < ((fMaxJ x0.toInt64 x1.toInt64) + (((XT.ushrL x4 (32 : Int32)) &&& (2147483647 : Int64)) + (1 : Int64)))
          · refine go_st (fun _ kq => XS.ifYes X544.here hx rfl (pc0 := 140) (pc' := 147) rfl (hb hby at_140) rfl (XT.ll_gt_t hc547) (by decide) (by decide) kq) ?_
            show Go p e below s _ _ _ T544 (mkF m 147 #[.val (.int x0), .val (.int x1), .val (.int x2), .val (.int x3), .val (.long x4), .second, .val (.int x5), .val (.ref a495), .val (.long ((x4 &&& (2147483647 : Int64)) + (1 : Int64))), .second, .val (.long (((XT.ushrL x4 (32 : Int32)) &&& (2147483647 : Int64)) + (1 : Int64))), .second, .val (.int (x5 &&& (3 : Int32))), .val (.long (fMaxJ x0.toInt64 x1.toInt64)), .second, .unset] [])
            refine go_st (fun _ kq => XT.iconstV X544.here hx rfl (0 : Int32) (hb hby at_147) (by decide) kq) ?_
            show Go p e below s _ _ _ T544 (mkF m 148 #[.val (.int x0), .val (.int x1), .val (.int x2), .val (.int x3), .val (.long x4), .second, .val (.int x5), .val (.ref a495), .val (.long ((x4 &&& (2147483647 : Int64)) + (1 : Int64))), .second, .val (.long (((XT.ushrL x4 (32 : Int32)) &&& (2147483647 : Int64)) + (1 : Int64))), .second, .val (.int (x5 &&& (3 : Int32))), .val (.long (fMaxJ x0.toInt64 x1.toInt64)), .second, .unset] [(.int (0 : Int32))])
            refine go_st (fun _ kq => XS.istore X544.here hx rfl (hb hby at_148) rfl (l' := #[.val (.int x0), .val (.int x1), .val (.int x2), .val (.int x3), .val (.long x4), .second, .val (.int x5), .val (.ref a495), .val (.long ((x4 &&& (2147483647 : Int64)) + (1 : Int64))), .second, .val (.long (((XT.ushrL x4 (32 : Int32)) &&& (2147483647 : Int64)) + (1 : Int64))), .second, .val (.int (x5 &&& (3 : Int32))), .val (.long (fMaxJ x0.toInt64 x1.toInt64)), .second, .val (.int (0 : Int32))]) rfl kq) ?_
            show Go p e below s _ _ _ T544 (mkF m 150 #[.val (.int x0), .val (.int x1), .val (.int x2), .val (.int x3), .val (.long x4), .second, .val (.int x5), .val (.ref a495), .val (.long ((x4 &&& (2147483647 : Int64)) + (1 : Int64))), .second, .val (.long (((XT.ushrL x4 (32 : Int32)) &&& (2147483647 : Int64)) + (1 : Int64))), .second, .val (.int (x5 &&& (3 : Int32))), .val (.long (fMaxJ x0.toInt64 x1.toInt64)), .second, .val (.int (0 : Int32))] [])
            refine go_st (fun _ kq => XS.aload X544.here hx rfl (hb hby at_150) rfl rfl kq) ?_
            show Go p e below s _ _ _ T544 (mkF m 152 #[.val (.int x0), .val (.int x1), .val (.int x2), .val (.int x3), .val (.long x4), .second, .val (.int x5), .val (.ref a495), .val (.long ((x4 &&& (2147483647 : Int64)) + (1 : Int64))), .second, .val (.long (((XT.ushrL x4 (32 : Int32)) &&& (2147483647 : Int64)) + (1 : Int64))), .second, .val (.int (x5 &&& (3 : Int32))), .val (.long (fMaxJ x0.toInt64 x1.toInt64)), .second, .val (.int (0 : Int32))] [(.ref a495)])
            refine go_st (fun _ kq => XS.iloadN X544.here hx rfl (hb hby at_152) rfl kq) ?_
            show Go p e below s _ _ _ T544 (mkF m 153 #[.val (.int x0), .val (.int x1), .val (.int x2), .val (.int x3), .val (.long x4), .second, .val (.int x5), .val (.ref a495), .val (.long ((x4 &&& (2147483647 : Int64)) + (1 : Int64))), .second, .val (.long (((XT.ushrL x4 (32 : Int32)) &&& (2147483647 : Int64)) + (1 : Int64))), .second, .val (.int (x5 &&& (3 : Int32))), .val (.long (fMaxJ x0.toInt64 x1.toInt64)), .second, .val (.int (0 : Int32))] [(.int x3), (.ref a495)])
            refine go_st (fun _ kq => XT.i2l X544.here hx rfl (hb hby at_153) rfl kq) ?_
            show Go p e below s _ _ _ T544 (mkF m 154 #[.val (.int x0), .val (.int x1), .val (.int x2), .val (.int x3), .val (.long x4), .second, .val (.int x5), .val (.ref a495), .val (.long ((x4 &&& (2147483647 : Int64)) + (1 : Int64))), .second, .val (.long (((XT.ushrL x4 (32 : Int32)) &&& (2147483647 : Int64)) + (1 : Int64))), .second, .val (.int (x5 &&& (3 : Int32))), .val (.long (fMaxJ x0.toInt64 x1.toInt64)), .second, .val (.int (0 : Int32))] [(.long x3.toInt64), (.ref a495)])
            refine go_st (fun _ kq => XT.lload X544.here hx rfl (hb hby at_154) rfl kq) ?_
            show Go p e below s _ _ _ T544 (mkF m 156 #[.val (.int x0), .val (.int x1), .val (.int x2), .val (.int x3), .val (.long x4), .second, .val (.int x5), .val (.ref a495), .val (.long ((x4 &&& (2147483647 : Int64)) + (1 : Int64))), .second, .val (.long (((XT.ushrL x4 (32 : Int32)) &&& (2147483647 : Int64)) + (1 : Int64))), .second, .val (.int (x5 &&& (3 : Int32))), .val (.long (fMaxJ x0.toInt64 x1.toInt64)), .second, .val (.int (0 : Int32))] [(.long (((XT.ushrL x4 (32 : Int32)) &&& (2147483647 : Int64)) + (1 : Int64))), (.long x3.toInt64), (.ref a495)])
            have z549 : n0 ≤ T533.heap.size := Nat.le_trans z534 K533.1
            refine go_callV X544 hx hZ hml hown (hw _ (List.mem_of_getElem? (i := 94) rfl)) (hw _ (List.mem_of_getElem? (i := 95) rfl)) (notFace_of_selects (args := #[]) (mvT hZ (hw _ (List.mem_of_getElem? (i := 97) rfl)))) (hw _ (List.mem_of_getElem? (i := 97) rfl)) (hw _ (List.mem_of_getElem? (i := 96) rfl)) (hw _ (List.mem_of_getElem? (i := 98) rfl)) (hw _ (List.mem_of_getElem? (i := 2) rfl)) e544 f533_0 (argsL := [(.long x3.toInt64), (.long (((XT.ushrL x4 (32 : Int32)) &&& (2147483647 : Int64)) + (1 : Int64)))]) (rest := []) (W := 0) (met_idl2 l Z a0 hw a495 x3.toInt64 (((XT.ushrL x4 (32 : Int32)) &&& (2147483647 : Int64)) + (1 : Int64)) 0 uq_509 gq_533 T533.heap n0 z549 f533_0 hd543 f533_3 f533_4 (by first | assumption | decide | omega) sz543) (hb hby at_156) rfl rfl rfl (lenOf pd11 rfl) (by show 2 * 0 + _ ≤ _; exact Nat.le_of_eq rfl) (by decide) (by decide) (by decide) (by decide) (by decide) ?_
            intro T548 v548 L548 X548 q548
            obtain ⟨rfl, M548, e548⟩ := q548
            have N548 := Fr.app N544 M548
            show Go p e below s _ _ _ T548 (mkF m 159 #[.val (.int x0), .val (.int x1), .val (.int x2), .val (.int x3), .val (.long x4), .second, .val (.int x5), .val (.ref a495), .val (.long ((x4 &&& (2147483647 : Int64)) + (1 : Int64))), .second, .val (.long (((XT.ushrL x4 (32 : Int32)) &&& (2147483647 : Int64)) + (1 : Int64))), .second, .val (.int (x5 &&& (3 : Int32))), .val (.long (fMaxJ x0.toInt64 x1.toInt64)), .second, .val (.int (0 : Int32))] [(.int (fIdl2 gq_533 0 x3.toInt64 (((XT.ushrL x4 (32 : Int32)) &&& (2147483647 : Int64)) + (1 : Int64))))])
            refine go_st (fun _ kq => XS.iload X548.here hx rfl (hb hby at_159) rfl kq) ?_
            show Go p e below s _ _ _ T548 (mkF m 161 #[.val (.int x0), .val (.int x1), .val (.int x2), .val (.int x3), .val (.long x4), .second, .val (.int x5), .val (.ref a495), .val (.long ((x4 &&& (2147483647 : Int64)) + (1 : Int64))), .second, .val (.long (((XT.ushrL x4 (32 : Int32)) &&& (2147483647 : Int64)) + (1 : Int64))), .second, .val (.int (x5 &&& (3 : Int32))), .val (.long (fMaxJ x0.toInt64 x1.toInt64)), .second, .val (.int (0 : Int32))] [(.int (0 : Int32)), (.int (fIdl2 gq_533 0 x3.toInt64 (((XT.ushrL x4 (32 : Int32)) &&& (2147483647 : Int64)) + (1 : Int64))))])
            have hb550 : (fIdl2 gq_533 0 x3.toInt64 (((XT.ushrL x4 (32 : Int32)) &&& (2147483647 : Int64)) + (1 : Int64))) = (0 : Int32) := by exact (own_idl2 p533_1 (own_r32m (own_r32 _) (own_r32 _)) (own_r32 _) (own_rw _)).2 hc547
            refine go_st (fun _ kq => XS.icmpNo X548.here hx rfl (hb hby at_161) rfl (XT.ii_ne_f hb550) kq) ?_
            show Go p e below s _ _ _ T548 (mkF m 164 #[.val (.int x0), .val (.int x1), .val (.int x2), .val (.int x3), .val (.long x4), .second, .val (.int x5), .val (.ref a495), .val (.long ((x4 &&& (2147483647 : Int64)) + (1 : Int64))), .second, .val (.long (((XT.ushrL x4 (32 : Int32)) &&& (2147483647 : Int64)) + (1 : Int64))), .second, .val (.int (x5 &&& (3 : Int32))), .val (.long (fMaxJ x0.toInt64 x1.toInt64)), .second, .val (.int (0 : Int32))] [])
            refine go_st (fun _ kq => XT.iconstV X548.here hx rfl (1 : Int32) (hb hby at_164) (by decide) kq) ?_
            show Go p e below s _ _ _ T548 (mkF m 165 #[.val (.int x0), .val (.int x1), .val (.int x2), .val (.int x3), .val (.long x4), .second, .val (.int x5), .val (.ref a495), .val (.long ((x4 &&& (2147483647 : Int64)) + (1 : Int64))), .second, .val (.long (((XT.ushrL x4 (32 : Int32)) &&& (2147483647 : Int64)) + (1 : Int64))), .second, .val (.int (x5 &&& (3 : Int32))), .val (.long (fMaxJ x0.toInt64 x1.toInt64)), .second, .val (.int (0 : Int32))] [(.int (1 : Int32))])
            refine go_st (fun _ kq => XS.goto X548.here hx rfl (pc0 := 165) (pc' := 169) rfl (hb hby at_165) (by decide) (by decide) kq) ?_
            show Go p e below s _ _ _ T548 (mkF m 169 #[.val (.int x0), .val (.int x1), .val (.int x2), .val (.int x3), .val (.long x4), .second, .val (.int x5), .val (.ref a495), .val (.long ((x4 &&& (2147483647 : Int64)) + (1 : Int64))), .second, .val (.long (((XT.ushrL x4 (32 : Int32)) &&& (2147483647 : Int64)) + (1 : Int64))), .second, .val (.int (x5 &&& (3 : Int32))), .val (.long (fMaxJ x0.toInt64 x1.toInt64)), .second, .val (.int (0 : Int32))] [(.int (1 : Int32))])
            exact go_retB (w := (1 : Int32)) X548 hx hlk hret (hb hby at_169) (by decide) (by decide) (by decide) ⟨rfl, N548⟩
          · refine go_st (fun _ kq => XS.ifNo X544.here hx rfl (hb hby at_140) rfl (XT.ll_gt_f hc547) kq) ?_
            show Go p e below s _ _ _ T544 (mkF m 143 #[.val (.int x0), .val (.int x1), .val (.int x2), .val (.int x3), .val (.long x4), .second, .val (.int x5), .val (.ref a495), .val (.long ((x4 &&& (2147483647 : Int64)) + (1 : Int64))), .second, .val (.long (((XT.ushrL x4 (32 : Int32)) &&& (2147483647 : Int64)) + (1 : Int64))), .second, .val (.int (x5 &&& (3 : Int32))), .val (.long (fMaxJ x0.toInt64 x1.toInt64)), .second, .unset] [])
            refine go_st (fun _ kq => XT.iconstV X544.here hx rfl (1 : Int32) (hb hby at_143) (by decide) kq) ?_
            show Go p e below s _ _ _ T544 (mkF m 144 #[.val (.int x0), .val (.int x1), .val (.int x2), .val (.int x3), .val (.long x4), .second, .val (.int x5), .val (.ref a495), .val (.long ((x4 &&& (2147483647 : Int64)) + (1 : Int64))), .second, .val (.long (((XT.ushrL x4 (32 : Int32)) &&& (2147483647 : Int64)) + (1 : Int64))), .second, .val (.int (x5 &&& (3 : Int32))), .val (.long (fMaxJ x0.toInt64 x1.toInt64)), .second, .unset] [(.int (1 : Int32))])
            refine go_st (fun _ kq => XS.goto X544.here hx rfl (pc0 := 144) (pc' := 148) rfl (hb hby at_144) (by decide) (by decide) kq) ?_
            show Go p e below s _ _ _ T544 (mkF m 148 #[.val (.int x0), .val (.int x1), .val (.int x2), .val (.int x3), .val (.long x4), .second, .val (.int x5), .val (.ref a495), .val (.long ((x4 &&& (2147483647 : Int64)) + (1 : Int64))), .second, .val (.long (((XT.ushrL x4 (32 : Int32)) &&& (2147483647 : Int64)) + (1 : Int64))), .second, .val (.int (x5 &&& (3 : Int32))), .val (.long (fMaxJ x0.toInt64 x1.toInt64)), .second, .unset] [(.int (1 : Int32))])
            refine go_st (fun _ kq => XS.istore X544.here hx rfl (hb hby at_148) rfl (l' := #[.val (.int x0), .val (.int x1), .val (.int x2), .val (.int x3), .val (.long x4), .second, .val (.int x5), .val (.ref a495), .val (.long ((x4 &&& (2147483647 : Int64)) + (1 : Int64))), .second, .val (.long (((XT.ushrL x4 (32 : Int32)) &&& (2147483647 : Int64)) + (1 : Int64))), .second, .val (.int (x5 &&& (3 : Int32))), .val (.long (fMaxJ x0.toInt64 x1.toInt64)), .second, .val (.int (1 : Int32))]) rfl kq) ?_
            show Go p e below s _ _ _ T544 (mkF m 150 #[.val (.int x0), .val (.int x1), .val (.int x2), .val (.int x3), .val (.long x4), .second, .val (.int x5), .val (.ref a495), .val (.long ((x4 &&& (2147483647 : Int64)) + (1 : Int64))), .second, .val (.long (((XT.ushrL x4 (32 : Int32)) &&& (2147483647 : Int64)) + (1 : Int64))), .second, .val (.int (x5 &&& (3 : Int32))), .val (.long (fMaxJ x0.toInt64 x1.toInt64)), .second, .val (.int (1 : Int32))] [])
            refine go_st (fun _ kq => XS.aload X544.here hx rfl (hb hby at_150) rfl rfl kq) ?_
            show Go p e below s _ _ _ T544 (mkF m 152 #[.val (.int x0), .val (.int x1), .val (.int x2), .val (.int x3), .val (.long x4), .second, .val (.int x5), .val (.ref a495), .val (.long ((x4 &&& (2147483647 : Int64)) + (1 : Int64))), .second, .val (.long (((XT.ushrL x4 (32 : Int32)) &&& (2147483647 : Int64)) + (1 : Int64))), .second, .val (.int (x5 &&& (3 : Int32))), .val (.long (fMaxJ x0.toInt64 x1.toInt64)), .second, .val (.int (1 : Int32))] [(.ref a495)])
            refine go_st (fun _ kq => XS.iloadN X544.here hx rfl (hb hby at_152) rfl kq) ?_
            show Go p e below s _ _ _ T544 (mkF m 153 #[.val (.int x0), .val (.int x1), .val (.int x2), .val (.int x3), .val (.long x4), .second, .val (.int x5), .val (.ref a495), .val (.long ((x4 &&& (2147483647 : Int64)) + (1 : Int64))), .second, .val (.long (((XT.ushrL x4 (32 : Int32)) &&& (2147483647 : Int64)) + (1 : Int64))), .second, .val (.int (x5 &&& (3 : Int32))), .val (.long (fMaxJ x0.toInt64 x1.toInt64)), .second, .val (.int (1 : Int32))] [(.int x3), (.ref a495)])
            refine go_st (fun _ kq => XT.i2l X544.here hx rfl (hb hby at_153) rfl kq) ?_
            show Go p e below s _ _ _ T544 (mkF m 154 #[.val (.int x0), .val (.int x1), .val (.int x2), .val (.int x3), .val (.long x4), .second, .val (.int x5), .val (.ref a495), .val (.long ((x4 &&& (2147483647 : Int64)) + (1 : Int64))), .second, .val (.long (((XT.ushrL x4 (32 : Int32)) &&& (2147483647 : Int64)) + (1 : Int64))), .second, .val (.int (x5 &&& (3 : Int32))), .val (.long (fMaxJ x0.toInt64 x1.toInt64)), .second, .val (.int (1 : Int32))] [(.long x3.toInt64), (.ref a495)])
            refine go_st (fun _ kq => XT.lload X544.here hx rfl (hb hby at_154) rfl kq) ?_
            show Go p e below s _ _ _ T544 (mkF m 156 #[.val (.int x0), .val (.int x1), .val (.int x2), .val (.int x3), .val (.long x4), .second, .val (.int x5), .val (.ref a495), .val (.long ((x4 &&& (2147483647 : Int64)) + (1 : Int64))), .second, .val (.long (((XT.ushrL x4 (32 : Int32)) &&& (2147483647 : Int64)) + (1 : Int64))), .second, .val (.int (x5 &&& (3 : Int32))), .val (.long (fMaxJ x0.toInt64 x1.toInt64)), .second, .val (.int (1 : Int32))] [(.long (((XT.ushrL x4 (32 : Int32)) &&& (2147483647 : Int64)) + (1 : Int64))), (.long x3.toInt64), (.ref a495)])
            have z552 : n0 ≤ T533.heap.size := Nat.le_trans z534 K533.1
            refine go_callV X544 hx hZ hml hown (hw _ (List.mem_of_getElem? (i := 94) rfl)) (hw _ (List.mem_of_getElem? (i := 95) rfl)) (notFace_of_selects (args := #[]) (mvT hZ (hw _ (List.mem_of_getElem? (i := 97) rfl)))) (hw _ (List.mem_of_getElem? (i := 97) rfl)) (hw _ (List.mem_of_getElem? (i := 96) rfl)) (hw _ (List.mem_of_getElem? (i := 98) rfl)) (hw _ (List.mem_of_getElem? (i := 2) rfl)) e544 f533_0 (argsL := [(.long x3.toInt64), (.long (((XT.ushrL x4 (32 : Int32)) &&& (2147483647 : Int64)) + (1 : Int64)))]) (rest := []) (W := 0) (met_idl2 l Z a0 hw a495 x3.toInt64 (((XT.ushrL x4 (32 : Int32)) &&& (2147483647 : Int64)) + (1 : Int64)) 0 uq_509 gq_533 T533.heap n0 z552 f533_0 hd543 f533_3 f533_4 (by first | assumption | decide | omega) sz543) (hb hby at_156) rfl rfl rfl (lenOf pd11 rfl) (by show 2 * 0 + _ ≤ _; exact Nat.le_of_eq rfl) (by decide) (by decide) (by decide) (by decide) (by decide) ?_
            intro T551 v551 L551 X551 q551
            obtain ⟨rfl, M551, e551⟩ := q551
            have N551 := Fr.app N544 M551
            show Go p e below s _ _ _ T551 (mkF m 159 #[.val (.int x0), .val (.int x1), .val (.int x2), .val (.int x3), .val (.long x4), .second, .val (.int x5), .val (.ref a495), .val (.long ((x4 &&& (2147483647 : Int64)) + (1 : Int64))), .second, .val (.long (((XT.ushrL x4 (32 : Int32)) &&& (2147483647 : Int64)) + (1 : Int64))), .second, .val (.int (x5 &&& (3 : Int32))), .val (.long (fMaxJ x0.toInt64 x1.toInt64)), .second, .val (.int (1 : Int32))] [(.int (fIdl2 gq_533 0 x3.toInt64 (((XT.ushrL x4 (32 : Int32)) &&& (2147483647 : Int64)) + (1 : Int64))))])
            refine go_st (fun _ kq => XS.iload X551.here hx rfl (hb hby at_159) rfl kq) ?_
            show Go p e below s _ _ _ T551 (mkF m 161 #[.val (.int x0), .val (.int x1), .val (.int x2), .val (.int x3), .val (.long x4), .second, .val (.int x5), .val (.ref a495), .val (.long ((x4 &&& (2147483647 : Int64)) + (1 : Int64))), .second, .val (.long (((XT.ushrL x4 (32 : Int32)) &&& (2147483647 : Int64)) + (1 : Int64))), .second, .val (.int (x5 &&& (3 : Int32))), .val (.long (fMaxJ x0.toInt64 x1.toInt64)), .second, .val (.int (1 : Int32))] [(.int (1 : Int32)), (.int (fIdl2 gq_533 0 x3.toInt64 (((XT.ushrL x4 (32 : Int32)) &&& (2147483647 : Int64)) + (1 : Int64))))])
            have hb553 : (fIdl2 gq_533 0 x3.toInt64 (((XT.ushrL x4 (32 : Int32)) &&& (2147483647 : Int64)) + (1 : Int64))) = (1 : Int32) := by exact (own_idl2 p533_1 (own_r32m (own_r32 _) (own_r32 _)) (own_r32 _) (own_rw _)).1 hc547
            refine go_st (fun _ kq => XS.icmpNo X551.here hx rfl (hb hby at_161) rfl (XT.ii_ne_f hb553) kq) ?_
            show Go p e below s _ _ _ T551 (mkF m 164 #[.val (.int x0), .val (.int x1), .val (.int x2), .val (.int x3), .val (.long x4), .second, .val (.int x5), .val (.ref a495), .val (.long ((x4 &&& (2147483647 : Int64)) + (1 : Int64))), .second, .val (.long (((XT.ushrL x4 (32 : Int32)) &&& (2147483647 : Int64)) + (1 : Int64))), .second, .val (.int (x5 &&& (3 : Int32))), .val (.long (fMaxJ x0.toInt64 x1.toInt64)), .second, .val (.int (1 : Int32))] [])
            refine go_st (fun _ kq => XT.iconstV X551.here hx rfl (1 : Int32) (hb hby at_164) (by decide) kq) ?_
            show Go p e below s _ _ _ T551 (mkF m 165 #[.val (.int x0), .val (.int x1), .val (.int x2), .val (.int x3), .val (.long x4), .second, .val (.int x5), .val (.ref a495), .val (.long ((x4 &&& (2147483647 : Int64)) + (1 : Int64))), .second, .val (.long (((XT.ushrL x4 (32 : Int32)) &&& (2147483647 : Int64)) + (1 : Int64))), .second, .val (.int (x5 &&& (3 : Int32))), .val (.long (fMaxJ x0.toInt64 x1.toInt64)), .second, .val (.int (1 : Int32))] [(.int (1 : Int32))])
            refine go_st (fun _ kq => XS.goto X551.here hx rfl (pc0 := 165) (pc' := 169) rfl (hb hby at_165) (by decide) (by decide) kq) ?_
            show Go p e below s _ _ _ T551 (mkF m 169 #[.val (.int x0), .val (.int x1), .val (.int x2), .val (.int x3), .val (.long x4), .second, .val (.int x5), .val (.ref a495), .val (.long ((x4 &&& (2147483647 : Int64)) + (1 : Int64))), .second, .val (.long (((XT.ushrL x4 (32 : Int32)) &&& (2147483647 : Int64)) + (1 : Int64))), .second, .val (.int (x5 &&& (3 : Int32))), .val (.long (fMaxJ x0.toInt64 x1.toInt64)), .second, .val (.int (1 : Int32))] [(.int (1 : Int32))])
            exact go_retB (w := (1 : Int32)) X551 hx hlk hret (hb hby at_169) (by decide) (by decide) (by decide) ⟨rfl, N551⟩
        · refine go_st (fun _ kq => XS.icmpNo X544.here hx rfl (hb hby at_102) rfl (XT.ii_lt_f hc545) kq) ?_
          show Go p e below s _ _ _ T544 (mkF m 105 #[.val (.int x0), .val (.int x1), .val (.int x2), .val (.int x3), .val (.long x4), .second, .val (.int x5), .val (.ref a495), .val (.long ((x4 &&& (2147483647 : Int64)) + (1 : Int64))), .second, .val (.long (((XT.ushrL x4 (32 : Int32)) &&& (2147483647 : Int64)) + (1 : Int64))), .second, .val (.int (x5 &&& (3 : Int32))), .val (.long (fMaxJ x0.toInt64 x1.toInt64)), .second, .unset] [])
          refine go_st (fun _ kq => XS.aload X544.here hx rfl (hb hby at_105) rfl rfl kq) ?_
          show Go p e below s _ _ _ T544 (mkF m 107 #[.val (.int x0), .val (.int x1), .val (.int x2), .val (.int x3), .val (.long x4), .second, .val (.int x5), .val (.ref a495), .val (.long ((x4 &&& (2147483647 : Int64)) + (1 : Int64))), .second, .val (.long (((XT.ushrL x4 (32 : Int32)) &&& (2147483647 : Int64)) + (1 : Int64))), .second, .val (.int (x5 &&& (3 : Int32))), .val (.long (fMaxJ x0.toInt64 x1.toInt64)), .second, .unset] [(.ref a495)])
          refine go_st (fun _ kq => XS.iloadN X544.here hx rfl (hb hby at_107) rfl kq) ?_
          show Go p e below s _ _ _ T544 (mkF m 108 #[.val (.int x0), .val (.int x1), .val (.int x2), .val (.int x3), .val (.long x4), .second, .val (.int x5), .val (.ref a495), .val (.long ((x4 &&& (2147483647 : Int64)) + (1 : Int64))), .second, .val (.long (((XT.ushrL x4 (32 : Int32)) &&& (2147483647 : Int64)) + (1 : Int64))), .second, .val (.int (x5 &&& (3 : Int32))), .val (.long (fMaxJ x0.toInt64 x1.toInt64)), .second, .unset] [(.int x2), (.ref a495)])
          refine go_st (fun _ kq => XT.i2l X544.here hx rfl (hb hby at_108) rfl kq) ?_
          show Go p e below s _ _ _ T544 (mkF m 109 #[.val (.int x0), .val (.int x1), .val (.int x2), .val (.int x3), .val (.long x4), .second, .val (.int x5), .val (.ref a495), .val (.long ((x4 &&& (2147483647 : Int64)) + (1 : Int64))), .second, .val (.long (((XT.ushrL x4 (32 : Int32)) &&& (2147483647 : Int64)) + (1 : Int64))), .second, .val (.int (x5 &&& (3 : Int32))), .val (.long (fMaxJ x0.toInt64 x1.toInt64)), .second, .unset] [(.long x2.toInt64), (.ref a495)])
          refine go_st (fun _ kq => Jvm.Stand.ldc2J X544 hx hown (mvT hZ (hw _ (List.mem_of_getElem? (i := 20) rfl))) rfl (hb hby at_109) kq) ?_
          show Go p e below s _ _ _ T544 (mkF m 112 #[.val (.int x0), .val (.int x1), .val (.int x2), .val (.int x3), .val (.long x4), .second, .val (.int x5), .val (.ref a495), .val (.long ((x4 &&& (2147483647 : Int64)) + (1 : Int64))), .second, .val (.long (((XT.ushrL x4 (32 : Int32)) &&& (2147483647 : Int64)) + (1 : Int64))), .second, .val (.int (x5 &&& (3 : Int32))), .val (.long (fMaxJ x0.toInt64 x1.toInt64)), .second, .unset] [(.long (3 : Int64)), (.long x2.toInt64), (.ref a495)])
          refine go_st (fun _ kq => XT.lload X544.here hx rfl (hb hby at_112) rfl kq) ?_
          show Go p e below s _ _ _ T544 (mkF m 114 #[.val (.int x0), .val (.int x1), .val (.int x2), .val (.int x3), .val (.long x4), .second, .val (.int x5), .val (.ref a495), .val (.long ((x4 &&& (2147483647 : Int64)) + (1 : Int64))), .second, .val (.long (((XT.ushrL x4 (32 : Int32)) &&& (2147483647 : Int64)) + (1 : Int64))), .second, .val (.int (x5 &&& (3 : Int32))), .val (.long (fMaxJ x0.toInt64 x1.toInt64)), .second, .unset] [(.long ((x4 &&& (2147483647 : Int64)) + (1 : Int64))), (.long (3 : Int64)), (.long x2.toInt64), (.ref a495)])
          have z555 : n0 ≤ T533.heap.size := Nat.le_trans z534 K533.1
          refine go_callV X544 hx hZ hml hown (hw _ (List.mem_of_getElem? (i := 21) rfl)) (hw _ (List.mem_of_getElem? (i := 22) rfl)) (notFace_of_selects (args := #[]) (mvT hZ (hw _ (List.mem_of_getElem? (i := 24) rfl)))) (hw _ (List.mem_of_getElem? (i := 24) rfl)) (hw _ (List.mem_of_getElem? (i := 23) rfl)) (hw _ (List.mem_of_getElem? (i := 25) rfl)) (hw _ (List.mem_of_getElem? (i := 2) rfl)) e544 f533_0 (argsL := [(.long x2.toInt64), (.long (3 : Int64)), (.long ((x4 &&& (2147483647 : Int64)) + (1 : Int64)))]) (rest := []) (W := 0) (met_acq2 l Z a0 hw a495 x2.toInt64 ((x4 &&& (2147483647 : Int64)) + (1 : Int64)) 0 uq_509 gq_533 (fMaxJ x0.toInt64 x1.toInt64) T533.heap n0 z555 f533_0 hd543 f533_3 f533_4 (by first | assumption | decide | omega) sz543 ne517 nw_a495 nw_uq_509 p533_1 (own_r32m (own_r32 _) (own_r32 _)) (own_r32 _) (own_rw _)) (hb hby at_114) rfl rfl rfl (lenOf pd12 rfl) (by show 2 * 0 + _ ≤ _; exact Nat.le_of_eq rfl) (by decide) (by decide) (by decide) (by decide) (by decide) ?_
          intro T554 v554 L554 X554 q554
          obtain ⟨jq_554, gq_554, dq_554, rfl, M554, K554, fz554_dq, p554_0, p554_1, f554_0, f554_1, f554_2, f554_3, f554_4⟩ := q554
          have N554 := Fr.app N544 M554
          have c556 : zq < T533.heap.size := Nat.lt_of_lt_of_le c535 K533.1
          have ne557 : zq ≠ dq_554 := Nat.ne_of_lt (Nat.lt_of_lt_of_le c556 fz554_dq)
          have c558 : a495 < T533.heap.size := Nat.lt_of_lt_of_le c537 K533.1
          have ne559 : a495 ≠ dq_554 := Nat.ne_of_lt (Nat.lt_of_lt_of_le c558 fz554_dq)
          have c560 : uq_509 < T533.heap.size := Nat.lt_of_lt_of_le lt_uq_509 K533.1
          have ne561 : uq_509 ≠ dq_554 := Nat.ne_of_lt (Nat.lt_of_lt_of_le c560 fz554_dq)
          have nw_dq_554 : n0 ≤ dq_554 := Nat.le_trans z555 fz554_dq
          have y562 : h0.size ≤ T533.heap.size := Nat.le_trans y540 K533.1
          show Go p e below s _ _ _ T554 (mkF m 117 #[.val (.int x0), .val (.int x1), .val (.int x2), .val (.int x3), .val (.long x4), .second, .val (.int x5), .val (.ref a495), .val (.long ((x4 &&& (2147483647 : Int64)) + (1 : Int64))), .second, .val (.long (((XT.ushrL x4 (32 : Int32)) &&& (2147483647 : Int64)) + (1 : Int64))), .second, .val (.int (x5 &&& (3 : Int32))), .val (.long (fMaxJ x0.toInt64 x1.toInt64)), .second, .unset] [(.ref dq_554)])
          rcases own_le2 p554_0 with hj563 | hj564 | hj565
          · subst hj563
            have hd566 : Fld Z T554.heap a495 "com/example/aforo/aforo/SlidingLog" "head" "I" (.int (0 : Int32)) := f554_1
            have sz566 : Fld Z T554.heap a495 "com/example/aforo/aforo/SlidingLog" "size" "I" (.int (3 : Int32)) := f554_2
            show Go p e below s _ _ _ T554 (mkF m 117 #[.val (.int x0), .val (.int x1), .val (.int x2), .val (.int x3), .val (.long x4), .second, .val (.int x5), .val (.ref a495), .val (.long ((x4 &&& (2147483647 : Int64)) + (1 : Int64))), .second, .val (.long (((XT.ushrL x4 (32 : Int32)) &&& (2147483647 : Int64)) + (1 : Int64))), .second, .val (.int (x5 &&& (3 : Int32))), .val (.long (fMaxJ x0.toInt64 x1.toInt64)), .second, .unset] [(.ref dq_554)])
            refine go_st (fun _ kq => XT.pop X554.here hx rfl (hb hby at_117) rfl rfl kq) ?_
            show Go p e below s _ _ _ T554 (mkF m 118 #[.val (.int x0), .val (.int x1), .val (.int x2), .val (.int x3), .val (.long x4), .second, .val (.int x5), .val (.ref a495), .val (.long ((x4 &&& (2147483647 : Int64)) + (1 : Int64))), .second, .val (.long (((XT.ushrL x4 (32 : Int32)) &&& (2147483647 : Int64)) + (1 : Int64))), .second, .val (.int (x5 &&& (3 : Int32))), .val (.long (fMaxJ x0.toInt64 x1.toInt64)), .second, .unset] [])
            refine go_st (fun _ kq => XT.lload X554.here hx rfl (hb hby at_118) rfl kq) ?_
            show Go p e below s _ _ _ T554 (mkF m 120 #[.val (.int x0), .val (.int x1), .val (.int x2), .val (.int x3), .val (.long x4), .second, .val (.int x5), .val (.ref a495), .val (.long ((x4 &&& (2147483647 : Int64)) + (1 : Int64))), .second, .val (.long (((XT.ushrL x4 (32 : Int32)) &&& (2147483647 : Int64)) + (1 : Int64))), .second, .val (.int (x5 &&& (3 : Int32))), .val (.long (fMaxJ x0.toInt64 x1.toInt64)), .second, .unset] [(.long (fMaxJ x0.toInt64 x1.toInt64))])
            refine go_st (fun _ kq => XS.iloadN X554.here hx rfl (hb hby at_120) rfl kq) ?_
            show Go p e below s _ _ _ T554 (mkF m 121 #[.val (.int x0), .val (.int x1), .val (.int x2), .val (.int x3), .val (.long x4), .second, .val (.int x5), .val (.ref a495), .val (.long ((x4 &&& (2147483647 : Int64)) + (1 : Int64))), .second, .val (.long (((XT.ushrL x4 (32 : Int32)) &&& (2147483647 : Int64)) + (1 : Int64))), .second, .val (.int (x5 &&& (3 : Int32))), .val (.long (fMaxJ x0.toInt64 x1.toInt64)), .second, .unset] [(.int x2), (.long (fMaxJ x0.toInt64 x1.toInt64))])
            refine go_st (fun _ kq => XT.i2l X554.here hx rfl (hb hby at_121) rfl kq) ?_
            show Go p e below s _ _ _ T554 (mkF m 122 #[.val (.int x0), .val (.int x1), .val (.int x2), .val (.int x3), .val (.long x4), .second, .val (.int x5), .val (.ref a495), .val (.long ((x4 &&& (2147483647 : Int64)) + (1 : Int64))), .second, .val (.long (((XT.ushrL x4 (32 : Int32)) &&& (2147483647 : Int64)) + (1 : Int64))), .second, .val (.int (x5 &&& (3 : Int32))), .val (.long (fMaxJ x0.toInt64 x1.toInt64)), .second, .unset] [(.long x2.toInt64), (.long (fMaxJ x0.toInt64 x1.toInt64))])
            refine go_callS X554 hx hZ hml hown (hw _ (List.mem_of_getElem? (i := 93) rfl)) (hw _ (List.mem_of_getElem? (i := 53) rfl)) (hw _ (List.mem_of_getElem? (i := 38) rfl)) (hw _ (List.mem_of_getElem? (i := 54) rfl)) rfl (argsL := [(.long (fMaxJ x0.toInt64 x1.toInt64)), (.long x2.toInt64)]) (rest := []) (W := 0) (met_10 l Z a0 hw (fMaxJ x0.toInt64 x1.toInt64) x2.toInt64 T554.heap n0) (hb hby at_122) rfl rfl rfl (lenOf pd4 rfl) (by show 2 * 0 + _ ≤ _; exact Nat.le_of_eq rfl) (by decide) (by decide) (by decide) (by decide) (by decide) ?_
            intro T567 v567 L567 X567 q567
            obtain ⟨rfl, M567, e567⟩ := q567
            have N567 := Fr.app N554 M567
            show Go p e below s _ _ _ T567 (mkF m 125 #[.val (.int x0), .val (.int x1), .val (.int x2), .val (.int x3), .val (.long x4), .second, .val (.int x5), .val (.ref a495), .val (.long ((x4 &&& (2147483647 : Int64)) + (1 : Int64))), .second, .val (.long (((XT.ushrL x4 (32 : Int32)) &&& (2147483647 : Int64)) + (1 : Int64))), .second, .val (.int (x5 &&& (3 : Int32))), .val (.long (fMaxJ x0.toInt64 x1.toInt64)), .second, .unset] [(.long (fMaxJ (fMaxJ x0.toInt64 x1.toInt64) x2.toInt64))])
            refine go_st (fun _ kq => XT.lstore X567.here hx rfl (hb hby at_125) rfl (l' := #[.val (.int x0), .val (.int x1), .val (.int x2), .val (.int x3), .val (.long x4), .second, .val (.int x5), .val (.ref a495), .val (.long ((x4 &&& (2147483647 : Int64)) + (1 : Int64))), .second, .val (.long (((XT.ushrL x4 (32 : Int32)) &&& (2147483647 : Int64)) + (1 : Int64))), .second, .val (.int (x5 &&& (3 : Int32))), .val (.long (fMaxJ (fMaxJ x0.toInt64 x1.toInt64) x2.toInt64)), .second, .unset]) rfl kq) ?_
            show Go p e below s _ _ _ T567 (mkF m 127 #[.val (.int x0), .val (.int x1), .val (.int x2), .val (.int x3), .val (.long x4), .second, .val (.int x5), .val (.ref a495), .val (.long ((x4 &&& (2147483647 : Int64)) + (1 : Int64))), .second, .val (.long (((XT.ushrL x4 (32 : Int32)) &&& (2147483647 : Int64)) + (1 : Int64))), .second, .val (.int (x5 &&& (3 : Int32))), .val (.long (fMaxJ (fMaxJ x0.toInt64 x1.toInt64) x2.toInt64)), .second, .unset] [])
            refine go_st (fun _ kq => XS.iload X567.here hx rfl (hb hby at_127) rfl kq) ?_
            show Go p e below s _ _ _ T567 (mkF m 129 #[.val (.int x0), .val (.int x1), .val (.int x2), .val (.int x3), .val (.long x4), .second, .val (.int x5), .val (.ref a495), .val (.long ((x4 &&& (2147483647 : Int64)) + (1 : Int64))), .second, .val (.long (((XT.ushrL x4 (32 : Int32)) &&& (2147483647 : Int64)) + (1 : Int64))), .second, .val (.int (x5 &&& (3 : Int32))), .val (.long (fMaxJ (fMaxJ x0.toInt64 x1.toInt64) x2.toInt64)), .second, .unset] [(.int (x5 &&& (3 : Int32)))])
            have hb568 : ¬ ((x5 &&& (3 : Int32)) = (0 : Int32)) := by exact own_nz1 hc503
            refine go_st (fun _ kq => XS.ifNo X567.here hx rfl (hb hby at_129) rfl (XT.i0_eq_f hb568) kq) ?_
            show Go p e below s _ _ _ T567 (mkF m 132 #[.val (.int x0), .val (.int x1), .val (.int x2), .val (.int x3), .val (.long x4), .second, .val (.int x5), .val (.ref a495), .val (.long ((x4 &&& (2147483647 : Int64)) + (1 : Int64))), .second, .val (.long (((XT.ushrL x4 (32 : Int32)) &&& (2147483647 : Int64)) + (1 : Int64))), .second, .val (.int (x5 &&& (3 : Int32))), .val (.long (fMaxJ (fMaxJ x0.toInt64 x1.toInt64) x2.toInt64)), .second, .unset] [])
            refine go_st (fun _ kq => XT.lload X567.here hx rfl (hb hby at_132) rfl kq) ?_
            show Go p e below s _ _ _ T567 (mkF m 134 #[.val (.int x0), .val (.int x1), .val (.int x2), .val (.int x3), .val (.long x4), .second, .val (.int x5), .val (.ref a495), .val (.long ((x4 &&& (2147483647 : Int64)) + (1 : Int64))), .second, .val (.long (((XT.ushrL x4 (32 : Int32)) &&& (2147483647 : Int64)) + (1 : Int64))), .second, .val (.int (x5 &&& (3 : Int32))), .val (.long (fMaxJ (fMaxJ x0.toInt64 x1.toInt64) x2.toInt64)), .second, .unset] [(.long (fMaxJ (fMaxJ x0.toInt64 x1.toInt64) x2.toInt64))])
            refine go_st (fun _ kq => XT.lload X567.here hx rfl (hb hby at_134) rfl kq) ?_
            show Go p e below s _ _ _ T567 (mkF m 136 #[.val (.int x0), .val (.int x1), .val (.int x2), .val (.int x3), .val (.long x4), .second, .val (.int x5), .val (.ref a495), .val (.long ((x4 &&& (2147483647 : Int64)) + (1 : Int64))), .second, .val (.long (((XT.ushrL x4 (32 : Int32)) &&& (2147483647 : Int64)) + (1 : Int64))), .second, .val (.int (x5 &&& (3 : Int32))), .val (.long (fMaxJ (fMaxJ x0.toInt64 x1.toInt64) x2.toInt64)), .second, .unset] [(.long (((XT.ushrL x4 (32 : Int32)) &&& (2147483647 : Int64)) + (1 : Int64))), (.long (fMaxJ (fMaxJ x0.toInt64 x1.toInt64) x2.toInt64))])
            refine go_st (fun _ kq => XT.ladd X567.here hx rfl (hb hby at_136) rfl kq) ?_
            show Go p e below s _ _ _ T567 (mkF m 137 #[.val (.int x0), .val (.int x1), .val (.int x2), .val (.int x3), .val (.long x4), .second, .val (.int x5), .val (.ref a495), .val (.long ((x4 &&& (2147483647 : Int64)) + (1 : Int64))), .second, .val (.long (((XT.ushrL x4 (32 : Int32)) &&& (2147483647 : Int64)) + (1 : Int64))), .second, .val (.int (x5 &&& (3 : Int32))), .val (.long (fMaxJ (fMaxJ x0.toInt64 x1.toInt64) x2.toInt64)), .second, .unset] [(.long ((fMaxJ (fMaxJ x0.toInt64 x1.toInt64) x2.toInt64) + (((XT.ushrL x4 (32 : Int32)) &&& (2147483647 : Int64)) + (1 : Int64))))])
            refine go_st (fun _ kq => XS.iloadN X567.here hx rfl (hb hby at_137) rfl kq) ?_
            show Go p e below s _ _ _ T567 (mkF m 138 #[.val (.int x0), .val (.int x1), .val (.int x2), .val (.int x3), .val (.long x4), .second, .val (.int x5), .val (.ref a495), .val (.long ((x4 &&& (2147483647 : Int64)) + (1 : Int64))), .second, .val (.long (((XT.ushrL x4 (32 : Int32)) &&& (2147483647 : Int64)) + (1 : Int64))), .second, .val (.int (x5 &&& (3 : Int32))), .val (.long (fMaxJ (fMaxJ x0.toInt64 x1.toInt64) x2.toInt64)), .second, .unset] [(.int x3), (.long ((fMaxJ (fMaxJ x0.toInt64 x1.toInt64) x2.toInt64) + (((XT.ushrL x4 (32 : Int32)) &&& (2147483647 : Int64)) + (1 : Int64))))])
            refine go_st (fun _ kq => XT.i2l X567.here hx rfl (hb hby at_138) rfl kq) ?_
            show Go p e below s _ _ _ T567 (mkF m 139 #[.val (.int x0), .val (.int x1), .val (.int x2), .val (.int x3), .val (.long x4), .second, .val (.int x5), .val (.ref a495), .val (.long ((x4 &&& (2147483647 : Int64)) + (1 : Int64))), .second, .val (.long (((XT.ushrL x4 (32 : Int32)) &&& (2147483647 : Int64)) + (1 : Int64))), .second, .val (.int (x5 &&& (3 : Int32))), .val (.long (fMaxJ (fMaxJ x0.toInt64 x1.toInt64) x2.toInt64)), .second, .unset] [(.long x3.toInt64), (.long ((fMaxJ (fMaxJ x0.toInt64 x1.toInt64) x2.toInt64) + (((XT.ushrL x4 (32 : Int32)) &&& (2147483647 : Int64)) + (1 : Int64))))])
            refine go_st (fun _ kq => XT.lcmp X567.here hx rfl (hb hby at_139) rfl kq) ?_
            show Go p e below s _ _ _ T567 (mkF m 140 #[.val (.int x0), .val (.int x1), .val (.int x2), .val (.int x3), .val (.long x4), .second, .val (.int x5), .val (.ref a495), .val (.long ((x4 &&& (2147483647 : Int64)) + (1 : Int64))), .second, .val (.long (((XT.ushrL x4 (32 : Int32)) &&& (2147483647 : Int64)) + (1 : Int64))), .second, .val (.int (x5 &&& (3 : Int32))), .val (.long (fMaxJ (fMaxJ x0.toInt64 x1.toInt64) x2.toInt64)), .second, .unset] [(.int (XT.cmpL ((fMaxJ (fMaxJ x0.toInt64 x1.toInt64) x2.toInt64) + (((XT.ushrL x4 (32 : Int32)) &&& (2147483647 : Int64)) + (1 : Int64))) x3.toInt64))])
            by_cases hc569 : x3.toInt64 < ((fMaxJ (fMaxJ x0.toInt64 x1.toInt64) x2.toInt64) + (((XT.ushrL x4 (32 : Int32)) &&& (2147483647 : Int64)) + (1 : Int64)))
            · refine go_st (fun _ kq => XS.ifYes X567.here hx rfl (pc0 := 140) (pc' := 147) rfl (hb hby at_140) rfl (XT.ll_gt_t hc569) (by decide) (by decide) kq) ?_
              show Go p e below s _ _ _ T567 (mkF m 147 #[.val (.int x0), .val (.int x1), .val (.int x2), .val (.int x3), .val (.long x4), .second, .val (.int x5), .val (.ref a495), .val (.long ((x4 &&& (2147483647 : Int64)) + (1 : Int64))), .second, .val (.long (((XT.ushrL x4 (32 : Int32)) &&& (2147483647 : Int64)) + (1 : Int64))), .second, .val (.int (x5 &&& (3 : Int32))), .val (.long (fMaxJ (fMaxJ x0.toInt64 x1.toInt64) x2.toInt64)), .second, .unset] [])
              refine go_st (fun _ kq => XT.iconstV X567.here hx rfl (0 : Int32) (hb hby at_147) (by decide) kq) ?_
              show Go p e below s _ _ _ T567 (mkF m 148 #[.val (.int x0), .val (.int x1), .val (.int x2), .val (.int x3), .val (.long x4), .second, .val (.int x5), .val (.ref a495), .val (.long ((x4 &&& (2147483647 : Int64)) + (1 : Int64))), .second, .val (.long (((XT.ushrL x4 (32 : Int32)) &&& (2147483647 : Int64)) + (1 : Int64))), .second, .val (.int (x5 &&& (3 : Int32))), .val (.long (fMaxJ (fMaxJ x0.toInt64 x1.toInt64) x2.toInt64)), .second, .unset] [(.int (0 : Int32))])
              refine go_st (fun _ kq => XS.istore X567.here hx rfl (hb hby at_148) rfl (l' := #[.val (.int x0), .val (.int x1), .val (.int x2), .val (.int x3), .val (.long x4), .second, .val (.int x5), .val (.ref a495), .val (.long ((x4 &&& (2147483647 : Int64)) + (1 : Int64))), .second, .val (.long (((XT.ushrL x4 (32 : Int32)) &&& (2147483647 : Int64)) + (1 : Int64))), .second, .val (.int (x5 &&& (3 : Int32))), .val (.long (fMaxJ (fMaxJ x0.toInt64 x1.toInt64) x2.toInt64)), .second, .val (.int (0 : Int32))]) rfl kq) ?_
              show Go p e below s _ _ _ T567 (mkF m 150 #[.val (.int x0), .val (.int x1), .val (.int x2), .val (.int x3), .val (.long x4), .second, .val (.int x5), .val (.ref a495), .val (.long ((x4 &&& (2147483647 : Int64)) + (1 : Int64))), .second, .val (.long (((XT.ushrL x4 (32 : Int32)) &&& (2147483647 : Int64)) + (1 : Int64))), .second, .val (.int (x5 &&& (3 : Int32))), .val (.long (fMaxJ (fMaxJ x0.toInt64 x1.toInt64) x2.toInt64)), .second, .val (.int (0 : Int32))] [])
              refine go_st (fun _ kq => XS.aload X567.here hx rfl (hb hby at_150) rfl rfl kq) ?_
              show Go p e below s _ _ _ T567 (mkF m 152 #[.val (.int x0), .val (.int x1), .val (.int x2), .val (.int x3), .val (.long x4), .second, .val (.int x5), .val (.ref a495), .val (.long ((x4 &&& (2147483647 : Int64)) + (1 : Int64))), .second, .val (.long (((XT.ushrL x4 (32 : Int32)) &&& (2147483647 : Int64)) + (1 : Int64))), .second, .val (.int (x5 &&& (3 : Int32))), .val (.long (fMaxJ (fMaxJ x0.toInt64 x1.toInt64) x2.toInt64)), .second, .val (.int (0 : Int32))] [(.ref a495)])
              refine go_st (fun _ kq => XS.iloadN X567.here hx rfl (hb hby at_152) rfl kq) ?_
              show Go p e below s _ _ _ T567 (mkF m 153 #[.val (.int x0), .val (.int x1), .val (.int x2), .val (.int x3), .val (.long x4), .second, .val (.int x5), .val (.ref a495), .val (.long ((x4 &&& (2147483647 : Int64)) + (1 : Int64))), .second, .val (.long (((XT.ushrL x4 (32 : Int32)) &&& (2147483647 : Int64)) + (1 : Int64))), .second, .val (.int (x5 &&& (3 : Int32))), .val (.long (fMaxJ (fMaxJ x0.toInt64 x1.toInt64) x2.toInt64)), .second, .val (.int (0 : Int32))] [(.int x3), (.ref a495)])
              refine go_st (fun _ kq => XT.i2l X567.here hx rfl (hb hby at_153) rfl kq) ?_
              show Go p e below s _ _ _ T567 (mkF m 154 #[.val (.int x0), .val (.int x1), .val (.int x2), .val (.int x3), .val (.long x4), .second, .val (.int x5), .val (.ref a495), .val (.long ((x4 &&& (2147483647 : Int64)) + (1 : Int64))), .second, .val (.long (((XT.ushrL x4 (32 : Int32)) &&& (2147483647 : Int64)) + (1 : Int64))), .second, .val (.int (x5 &&& (3 : Int32))), .val (.long (fMaxJ (fMaxJ x0.toInt64 x1.toInt64) x2.toInt64)), .second, .val (.int (0 : Int32))] [(.long x3.toInt64), (.ref a495)])
              refine go_st (fun _ kq => XT.lload X567.here hx rfl (hb hby at_154) rfl kq) ?_
              show Go p e below s _ _ _ T567 (mkF m 156 #[.val (.int x0), .val (.int x1), .val (.int x2), .val (.int x3), .val (.long x4), .second, .val (.int x5), .val (.ref a495), .val (.long ((x4 &&& (2147483647 : Int64)) + (1 : Int64))), .second, .val (.long (((XT.ushrL x4 (32 : Int32)) &&& (2147483647 : Int64)) + (1 : Int64))), .second, .val (.int (x5 &&& (3 : Int32))), .val (.long (fMaxJ (fMaxJ x0.toInt64 x1.toInt64) x2.toInt64)), .second, .val (.int (0 : Int32))] [(.long (((XT.ushrL x4 (32 : Int32)) &&& (2147483647 : Int64)) + (1 : Int64))), (.long x3.toInt64), (.ref a495)])
              have z571 : n0 ≤ T554.heap.size := Nat.le_trans z555 K554.1
              refine go_callV X567 hx hZ hml hown (hw _ (List.mem_of_getElem? (i := 94) rfl)) (hw _ (List.mem_of_getElem? (i := 95) rfl)) (notFace_of_selects (args := #[]) (mvT hZ (hw _ (List.mem_of_getElem? (i := 97) rfl)))) (hw _ (List.mem_of_getElem? (i := 97) rfl)) (hw _ (List.mem_of_getElem? (i := 96) rfl)) (hw _ (List.mem_of_getElem? (i := 98) rfl)) (hw _ (List.mem_of_getElem? (i := 2) rfl)) e567 f554_0 (argsL := [(.long x3.toInt64), (.long (((XT.ushrL x4 (32 : Int32)) &&& (2147483647 : Int64)) + (1 : Int64)))]) (rest := []) (W := 0) (met_idl3 l Z a0 hw a495 x3.toInt64 (((XT.ushrL x4 (32 : Int32)) &&& (2147483647 : Int64)) + (1 : Int64)) 0 uq_509 gq_554 T554.heap n0 z571 f554_0 hd566 f554_3 f554_4 (by first | assumption | decide | omega) sz566) (hb hby at_156) rfl rfl rfl (lenOf pd11 rfl) (by show 2 * 0 + _ ≤ _; exact Nat.le_of_eq rfl) (by decide) (by decide) (by decide) (by decide) (by decide) ?_
              intro T570 v570 L570 X570 q570
              obtain ⟨rfl, M570, e570⟩ := q570
              have N570 := Fr.app N567 M570
              show Go p e below s _ _ _ T570 (mkF m 159 #[.val (.int x0), .val (.int x1), .val (.int x2), .val (.int x3), .val (.long x4), .second, .val (.int x5), .val (.ref a495), .val (.long ((x4 &&& (2147483647 : Int64)) + (1 : Int64))), .second, .val (.long (((XT.ushrL x4 (32 : Int32)) &&& (2147483647 : Int64)) + (1 : Int64))), .second, .val (.int (x5 &&& (3 : Int32))), .val (.long (fMaxJ (fMaxJ x0.toInt64 x1.toInt64) x2.toInt64)), .second, .val (.int (0 : Int32))] [(.int (fIdl3 gq_554 0 x3.toInt64 (((XT.ushrL x4 (32 : Int32)) &&& (2147483647 : Int64)) + (1 : Int64))))])
              refine go_st (fun _ kq => XS.iload X570.here hx rfl (hb hby at_159) rfl kq) ?_
              show Go p e below s _ _ _ T570 (mkF m 161 #[.val (.int x0), .val (.int x1), .val (.int x2), .val (.int x3), .val (.long x4), .second, .val (.int x5), .val (.ref a495), .val (.long ((x4 &&& (2147483647 : Int64)) + (1 : Int64))), .second, .val (.long (((XT.ushrL x4 (32 : Int32)) &&& (2147483647 : Int64)) + (1 : Int64))), .second, .val (.int (x5 &&& (3 : Int32))), .val (.long (fMaxJ (fMaxJ x0.toInt64 x1.toInt64) x2.toInt64)), .second, .val (.int (0 : Int32))] [(.int (0 : Int32)), (.int (fIdl3 gq_554 0 x3.toInt64 (((XT.ushrL x4 (32 : Int32)) &&& (2147483647 : Int64)) + (1 : Int64))))])
              have hb572 : (fIdl3 gq_554 0 x3.toInt64 (((XT.ushrL x4 (32 : Int32)) &&& (2147483647 : Int64)) + (1 : Int64))) = (0 : Int32) := by exact (own_idl3 p554_1 (own_r32m (own_r32m (own_r32 _) (own_r32 _)) (own_r32 _)) (own_r32 _) (own_rw _)).2 hc569
              refine go_st (fun _ kq => XS.icmpNo X570.here hx rfl (hb hby at_161) rfl (XT.ii_ne_f hb572) kq) ?_
              show Go p e below s _ _ _ T570 (mkF m 164 #[.val (.int x0), .val (.int x1), .val (.int x2), .val (.int x3), .val (.long x4), .second, .val (.int x5), .val (.ref a495), .val (.long ((x4 &&& (2147483647 : Int64)) + (1 : Int64))), .second, .val (.long (((XT.ushrL x4 (32 : Int32)) &&& (2147483647 : Int64)) + (1 : Int64))), .second, .val (.int (x5 &&& (3 : Int32))), .val (.long (fMaxJ (fMaxJ x0.toInt64 x1.toInt64) x2.toInt64)), .second, .val (.int (0 : Int32))] [])
              refine go_st (fun _ kq => XT.iconstV X570.here hx rfl (1 : Int32) (hb hby at_164) (by decide) kq) ?_
              show Go p e below s _ _ _ T570 (mkF m 165 #[.val (.int x0), .val (.int x1), .val (.int x2), .val (.int x3), .val (.long x4), .second, .val (.int x5), .val (.ref a495), .val (.long ((x4 &&& (2147483647 : Int64)) + (1 : Int64))), .second, .val (.long (((XT.ushrL x4 (32 : Int32)) &&& (2147483647 : Int64)) + (1 : Int64))), .second, .val (.int (x5 &&& (3 : Int32))), .val (.long (fMaxJ (fMaxJ x0.toInt64 x1.toInt64) x2.toInt64)), .second, .val (.int (0 : Int32))] [(.int (1 : Int32))])
              refine go_st (fun _ kq => XS.goto X570.here hx rfl (pc0 := 165) (pc' := 169) rfl (hb hby at_165) (by decide) (by decide) kq) ?_
              show Go p e below s _ _ _ T570 (mkF m 169 #[.val (.int x0), .val (.int x1), .val (.int x2), .val (.int x3), .val (.long x4), .second, .val (.int x5), .val (.ref a495), .val (.long ((x4 &&& (2147483647 : Int64)) + (1 : Int64))), .second, .val (.long (((XT.ushrL x4 (32 : Int32)) &&& (2147483647 : Int64)) + (1 : Int64))), .second, .val (.int (x5 &&& (3 : Int32))), .val (.long (fMaxJ (fMaxJ x0.toInt64 x1.toInt64) x2.toInt64)), .second, .val (.int (0 : Int32))] [(.int (1 : Int32))])
              exact go_retB (w := (1 : Int32)) X570 hx hlk hret (hb hby at_169) (by decide) (by decide) (by decide) ⟨rfl, N570⟩
            · refine go_st (fun _ kq => XS.ifNo X567.here hx rfl (hb hby at_140) rfl (XT.ll_gt_f hc569) kq) ?_
              show Go p e below s _ _ _ T567 (mkF m 143 #[.val (.int x0), .val (.int x1), .val (.int x2), .val (.int x3), .val (.long x4), .second, .val (.int x5), .val (.ref a495), .val (.long ((x4 &&& (2147483647 : Int64)) + (1 : Int64))), .second, .val (.long (((XT.ushrL x4 (32 : Int32)) &&& (2147483647 : Int64)) + (1 : Int64))), .second, .val (.int (x5 &&& (3 : Int32))), .val (.long (fMaxJ (fMaxJ x0.toInt64 x1.toInt64) x2.toInt64)), .second, .unset] [])
              refine go_st (fun _ kq => XT.iconstV X567.here hx rfl (1 : Int32) (hb hby at_143) (by decide) kq) ?_
              show Go p e below s _ _ _ T567 (mkF m 144 #[.val (.int x0), .val (.int x1), .val (.int x2), .val (.int x3), .val (.long x4), .second, .val (.int x5), .val (.ref a495), .val (.long ((x4 &&& (2147483647 : Int64)) + (1 : Int64))), .second, .val (.long (((XT.ushrL x4 (32 : Int32)) &&& (2147483647 : Int64)) + (1 : Int64))), .second, .val (.int (x5 &&& (3 : Int32))), .val (.long (fMaxJ (fMaxJ x0.toInt64 x1.toInt64) x2.toInt64)), .second, .unset] [(.int (1 : Int32))])
              refine go_st (fun _ kq => XS.goto X567.here hx rfl (pc0 := 144) (pc' := 148) rfl (hb hby at_144) (by decide) (by decide) kq) ?_
              show Go p e below s _ _ _ T567 (mkF m 148 #[.val (.int x0), .val (.int x1), .val (.int x2), .val (.int x3), .val (.long x4), .second, .val (.int x5), .val (.ref a495), .val (.long ((x4 &&& (2147483647 : Int64)) + (1 : Int64))), .second, .val (.long (((XT.ushrL x4 (32 : Int32)) &&& (2147483647 : Int64)) + (1 : Int64))), .second, .val (.int (x5 &&& (3 : Int32))), .val (.long (fMaxJ (fMaxJ x0.toInt64 x1.toInt64) x2.toInt64)), .second, .unset] [(.int (1 : Int32))])
              refine go_st (fun _ kq => XS.istore X567.here hx rfl (hb hby at_148) rfl (l' := #[.val (.int x0), .val (.int x1), .val (.int x2), .val (.int x3), .val (.long x4), .second, .val (.int x5), .val (.ref a495), .val (.long ((x4 &&& (2147483647 : Int64)) + (1 : Int64))), .second, .val (.long (((XT.ushrL x4 (32 : Int32)) &&& (2147483647 : Int64)) + (1 : Int64))), .second, .val (.int (x5 &&& (3 : Int32))), .val (.long (fMaxJ (fMaxJ x0.toInt64 x1.toInt64) x2.toInt64)), .second, .val (.int (1 : Int32))]) rfl kq) ?_
              show Go p e below s _ _ _ T567 (mkF m 150 #[.val (.int x0), .val (.int x1), .val (.int x2), .val (.int x3), .val (.long x4), .second, .val (.int x5), .val (.ref a495), .val (.long ((x4 &&& (2147483647 : Int64)) + (1 : Int64))), .second, .val (.long (((XT.ushrL x4 (32 : Int32)) &&& (2147483647 : Int64)) + (1 : Int64))), .second, .val (.int (x5 &&& (3 : Int32))), .val (.long (fMaxJ (fMaxJ x0.toInt64 x1.toInt64) x2.toInt64)), .second, .val (.int (1 : Int32))] [])
              refine go_st (fun _ kq => XS.aload X567.here hx rfl (hb hby at_150) rfl rfl kq) ?_
              show Go p e below s _ _ _ T567 (mkF m 152 #[.val (.int x0), .val (.int x1), .val (.int x2), .val (.int x3), .val (.long x4), .second, .val (.int x5), .val (.ref a495), .val (.long ((x4 &&& (2147483647 : Int64)) + (1 : Int64))), .second, .val (.long (((XT.ushrL x4 (32 : Int32)) &&& (2147483647 : Int64)) + (1 : Int64))), .second, .val (.int (x5 &&& (3 : Int32))), .val (.long (fMaxJ (fMaxJ x0.toInt64 x1.toInt64) x2.toInt64)), .second, .val (.int (1 : Int32))] [(.ref a495)])
              refine go_st (fun _ kq => XS.iloadN X567.here hx rfl (hb hby at_152) rfl kq) ?_
              show Go p e below s _ _ _ T567 (mkF m 153 #[.val (.int x0), .val (.int x1), .val (.int x2), .val (.int x3), .val (.long x4), .second, .val (.int x5), .val (.ref a495), .val (.long ((x4 &&& (2147483647 : Int64)) + (1 : Int64))), .second, .val (.long (((XT.ushrL x4 (32 : Int32)) &&& (2147483647 : Int64)) + (1 : Int64))), .second, .val (.int (x5 &&& (3 : Int32))), .val (.long (fMaxJ (fMaxJ x0.toInt64 x1.toInt64) x2.toInt64)), .second, .val (.int (1 : Int32))] [(.int x3), (.ref a495)])
              refine go_st (fun _ kq => XT.i2l X567.here hx rfl (hb hby at_153) rfl kq) ?_
              show Go p e below s _ _ _ T567 (mkF m 154 #[.val (.int x0), .val (.int x1), .val (.int x2), .val (.int x3), .val (.long x4), .second, .val (.int x5), .val (.ref a495), .val (.long ((x4 &&& (2147483647 : Int64)) + (1 : Int64))), .second, .val (.long (((XT.ushrL x4 (32 : Int32)) &&& (2147483647 : Int64)) + (1 : Int64))), .second, .val (.int (x5 &&& (3 : Int32))), .val (.long (fMaxJ (fMaxJ x0.toInt64 x1.toInt64) x2.toInt64)), .second, .val (.int (1 : Int32))] [(.long x3.toInt64), (.ref a495)])
              refine go_st (fun _ kq => XT.lload X567.here hx rfl (hb hby at_154) rfl kq) ?_
              show Go p e below s _ _ _ T567 (mkF m 156 #[.val (.int x0), .val (.int x1), .val (.int x2), .val (.int x3), .val (.long x4), .second, .val (.int x5), .val (.ref a495), .val (.long ((x4 &&& (2147483647 : Int64)) + (1 : Int64))), .second, .val (.long (((XT.ushrL x4 (32 : Int32)) &&& (2147483647 : Int64)) + (1 : Int64))), .second, .val (.int (x5 &&& (3 : Int32))), .val (.long (fMaxJ (fMaxJ x0.toInt64 x1.toInt64) x2.toInt64)), .second, .val (.int (1 : Int32))] [(.long (((XT.ushrL x4 (32 : Int32)) &&& (2147483647 : Int64)) + (1 : Int64))), (.long x3.toInt64), (.ref a495)])
              have z574 : n0 ≤ T554.heap.size := Nat.le_trans z555 K554.1
              refine go_callV X567 hx hZ hml hown (hw _ (List.mem_of_getElem? (i := 94) rfl)) (hw _ (List.mem_of_getElem? (i := 95) rfl)) (notFace_of_selects (args := #[]) (mvT hZ (hw _ (List.mem_of_getElem? (i := 97) rfl)))) (hw _ (List.mem_of_getElem? (i := 97) rfl)) (hw _ (List.mem_of_getElem? (i := 96) rfl)) (hw _ (List.mem_of_getElem? (i := 98) rfl)) (hw _ (List.mem_of_getElem? (i := 2) rfl)) e567 f554_0 (argsL := [(.long x3.toInt64), (.long (((XT.ushrL x4 (32 : Int32)) &&& (2147483647 : Int64)) + (1 : Int64)))]) (rest := []) (W := 0) (met_idl3 l Z a0 hw a495 x3.toInt64 (((XT.ushrL x4 (32 : Int32)) &&& (2147483647 : Int64)) + (1 : Int64)) 0 uq_509 gq_554 T554.heap n0 z574 f554_0 hd566 f554_3 f554_4 (by first | assumption | decide | omega) sz566) (hb hby at_156) rfl rfl rfl (lenOf pd11 rfl) (by show 2 * 0 + _ ≤ _; exact Nat.le_of_eq rfl) (by decide) (by decide) (by decide) (by decide) (by decide) ?_
              intro T573 v573 L573 X573 q573
              obtain ⟨rfl, M573, e573⟩ := q573
              have N573 := Fr.app N567 M573
              show Go p e below s _ _ _ T573 (mkF m 159 #[.val (.int x0), .val (.int x1), .val (.int x2), .val (.int x3), .val (.long x4), .second, .val (.int x5), .val (.ref a495), .val (.long ((x4 &&& (2147483647 : Int64)) + (1 : Int64))), .second, .val (.long (((XT.ushrL x4 (32 : Int32)) &&& (2147483647 : Int64)) + (1 : Int64))), .second, .val (.int (x5 &&& (3 : Int32))), .val (.long (fMaxJ (fMaxJ x0.toInt64 x1.toInt64) x2.toInt64)), .second, .val (.int (1 : Int32))] [(.int (fIdl3 gq_554 0 x3.toInt64 (((XT.ushrL x4 (32 : Int32)) &&& (2147483647 : Int64)) + (1 : Int64))))])
              refine go_st (fun _ kq => XS.iload X573.here hx rfl (hb hby at_159) rfl kq) ?_
              show Go p e below s _ _ _ T573 (mkF m 161 #[.val (.int x0), .val (.int x1), .val (.int x2), .val (.int x3), .val (.long x4), .second, .val (.int x5), .val (.ref a495), .val (.long ((x4 &&& (2147483647 : Int64)) + (1 : Int64))), .second, .val (.long (((XT.ushrL x4 (32 : Int32)) &&& (2147483647 : Int64)) + (1 : Int64))), .second, .val (.int (x5 &&& (3 : Int32))), .val (.long (fMaxJ (fMaxJ x0.toInt64 x1.toInt64) x2.toInt64)), .second, .val (.int (1 : Int32))] [(.int (1 : Int32)), (.int (fIdl3 gq_554 0 x3.toInt64 (((XT.ushrL x4 (32 : Int32)) &&& (2147483647 : Int64)) + (1 : Int64))))])
              have hb575 : (fIdl3 gq_554 0 x3.toInt64 (((XT.ushrL x4 (32 : Int32)) &&& (2147483647 : Int64)) + (1 : Int64))) = (1 : Int32) := by exact (own_idl3 p554_1 (own_r32m (own_r32m (own_r32 _) (own_r32 _)) (own_r32 _)) (own_r32 _) (own_rw _)).1 hc569
              refine go_st (fun _ kq => XS.icmpNo X573.here hx rfl (hb hby at_161) rfl (XT.ii_ne_f hb575) kq) ?_
              show Go p e below s _ _ _ T573 (mkF m 164 #[.val (.int x0), .val (.int x1), .val (.int x2), .val (.int x3), .val (.long x4), .second, .val (.int x5), .val (.ref a495), .val (.long ((x4 &&& (2147483647 : Int64)) + (1 : Int64))), .second, .val (.long (((XT.ushrL x4 (32 : Int32)) &&& (2147483647 : Int64)) + (1 : Int64))), .second, .val (.int (x5 &&& (3 : Int32))), .val (.long (fMaxJ (fMaxJ x0.toInt64 x1.toInt64) x2.toInt64)), .second, .val (.int (1 : Int32))] [])
              refine go_st (fun _ kq => XT.iconstV X573.here hx rfl (1 : Int32) (hb hby at_164) (by decide) kq) ?_
              show Go p e below s _ _ _ T573 (mkF m 165 #[.val (.int x0), .val (.int x1), .val (.int x2), .val (.int x3), .val (.long x4), .second, .val (.int x5), .val (.ref a495), .val (.long ((x4 &&& (2147483647 : Int64)) + (1 : Int64))), .second, .val (.long (((XT.ushrL x4 (32 : Int32)) &&& (2147483647 : Int64)) + (1 : Int64))), .second, .val (.int (x5 &&& (3 : Int32))), .val (.long (fMaxJ (fMaxJ x0.toInt64 x1.toInt64) x2.toInt64)), .second, .val (.int (1 : Int32))] [(.int (1 : Int32))])
              refine go_st (fun _ kq => XS.goto X573.here hx rfl (pc0 := 165) (pc' := 169) rfl (hb hby at_165) (by decide) (by decide) kq) ?_
              show Go p e below s _ _ _ T573 (mkF m 169 #[.val (.int x0), .val (.int x1), .val (.int x2), .val (.int x3), .val (.long x4), .second, .val (.int x5), .val (.ref a495), .val (.long ((x4 &&& (2147483647 : Int64)) + (1 : Int64))), .second, .val (.long (((XT.ushrL x4 (32 : Int32)) &&& (2147483647 : Int64)) + (1 : Int64))), .second, .val (.int (x5 &&& (3 : Int32))), .val (.long (fMaxJ (fMaxJ x0.toInt64 x1.toInt64) x2.toInt64)), .second, .val (.int (1 : Int32))] [(.int (1 : Int32))])
              exact go_retB (w := (1 : Int32)) X573 hx hlk hret (hb hby at_169) (by decide) (by decide) (by decide) ⟨rfl, N573⟩
          · subst hj564
            have hd576 : Fld Z T554.heap a495 "com/example/aforo/aforo/SlidingLog" "head" "I" (.int (1 : Int32)) := f554_1
            have sz576 : Fld Z T554.heap a495 "com/example/aforo/aforo/SlidingLog" "size" "I" (.int (2 : Int32)) := f554_2
            show Go p e below s _ _ _ T554 (mkF m 117 #[.val (.int x0), .val (.int x1), .val (.int x2), .val (.int x3), .val (.long x4), .second, .val (.int x5), .val (.ref a495), .val (.long ((x4 &&& (2147483647 : Int64)) + (1 : Int64))), .second, .val (.long (((XT.ushrL x4 (32 : Int32)) &&& (2147483647 : Int64)) + (1 : Int64))), .second, .val (.int (x5 &&& (3 : Int32))), .val (.long (fMaxJ x0.toInt64 x1.toInt64)), .second, .unset] [(.ref dq_554)])
            refine go_st (fun _ kq => XT.pop X554.here hx rfl (hb hby at_117) rfl rfl kq) ?_
            show Go p e below s _ _ _ T554 (mkF m 118 #[.val (.int x0), .val (.int x1), .val (.int x2), .val (.int x3), .val (.long x4), .second, .val (.int x5), .val (.ref a495), .val (.long ((x4 &&& (2147483647 : Int64)) + (1 : Int64))), .second, .val (.long (((XT.ushrL x4 (32 : Int32)) &&& (2147483647 : Int64)) + (1 : Int64))), .second, .val (.int (x5 &&& (3 : Int32))), .val (.long (fMaxJ x0.toInt64 x1.toInt64)), .second, .unset] [])
            refine go_st (fun _ kq => XT.lload X554.here hx rfl (hb hby at_118) rfl kq) ?_
            show Go p e below s _ _ _ T554 (mkF m 120 #[.val (.int x0), .val (.int x1), .val (.int x2), .val (.int x3), .val (.long x4), .second, .val (.int x5), .val (.ref a495), .val (.long ((x4 &&& (2147483647 : Int64)) + (1 : Int64))), .second, .val (.long (((XT.ushrL x4 (32 : Int32)) &&& (2147483647 : Int64)) + (1 : Int64))), .second, .val (.int (x5 &&& (3 : Int32))), .val (.long (fMaxJ x0.toInt64 x1.toInt64)), .second, .unset] [(.long (fMaxJ x0.toInt64 x1.toInt64))])
            refine go_st (fun _ kq => XS.iloadN X554.here hx rfl (hb hby at_120) rfl kq) ?_
            show Go p e below s _ _ _ T554 (mkF m 121 #[.val (.int x0), .val (.int x1), .val (.int x2), .val (.int x3), .val (.long x4), .second, .val (.int x5), .val (.ref a495), .val (.long ((x4 &&& (2147483647 : Int64)) + (1 : Int64))), .second, .val (.long (((XT.ushrL x4 (32 : Int32)) &&& (2147483647 : Int64)) + (1 : Int64))), .second, .val (.int (x5 &&& (3 : Int32))), .val (.long (fMaxJ x0.toInt64 x1.toInt64)), .second, .unset] [(.int x2), (.long (fMaxJ x0.toInt64 x1.toInt64))])
            refine go_st (fun _ kq => XT.i2l X554.here hx rfl (hb hby at_121) rfl kq) ?_
            show Go p e below s _ _ _ T554 (mkF m 122 #[.val (.int x0), .val (.int x1), .val (.int x2), .val (.int x3), .val (.long x4), .second, .val (.int x5), .val (.ref a495), .val (.long ((x4 &&& (2147483647 : Int64)) + (1 : Int64))), .second, .val (.long (((XT.ushrL x4 (32 : Int32)) &&& (2147483647 : Int64)) + (1 : Int64))), .second, .val (.int (x5 &&& (3 : Int32))), .val (.long (fMaxJ x0.toInt64 x1.toInt64)), .second, .unset] [(.long x2.toInt64), (.long (fMaxJ x0.toInt64 x1.toInt64))])
            refine go_callS X554 hx hZ hml hown (hw _ (List.mem_of_getElem? (i := 93) rfl)) (hw _ (List.mem_of_getElem? (i := 53) rfl)) (hw _ (List.mem_of_getElem? (i := 38) rfl)) (hw _ (List.mem_of_getElem? (i := 54) rfl)) rfl (argsL := [(.long (fMaxJ x0.toInt64 x1.toInt64)), (.long x2.toInt64)]) (rest := []) (W := 0) (met_10 l Z a0 hw (fMaxJ x0.toInt64 x1.toInt64) x2.toInt64 T554.heap n0) (hb hby at_122) rfl rfl rfl (lenOf pd4 rfl) (by show 2 * 0 + _ ≤ _; exact Nat.le_of_eq rfl) (by decide) (by decide) (by decide) (by decide) (by decide) ?_
            intro T577 v577 L577 X577 q577
            obtain ⟨rfl, M577, e577⟩ := q577
            have N577 := Fr.app N554 M577
            show Go p e below s _ _ _ T577 (mkF m 125 #[.val (.int x0), .val (.int x1), .val (.int x2), .val (.int x3), .val (.long x4), .second, .val (.int x5), .val (.ref a495), .val (.long ((x4 &&& (2147483647 : Int64)) + (1 : Int64))), .second, .val (.long (((XT.ushrL x4 (32 : Int32)) &&& (2147483647 : Int64)) + (1 : Int64))), .second, .val (.int (x5 &&& (3 : Int32))), .val (.long (fMaxJ x0.toInt64 x1.toInt64)), .second, .unset] [(.long (fMaxJ (fMaxJ x0.toInt64 x1.toInt64) x2.toInt64))])
            refine go_st (fun _ kq => XT.lstore X577.here hx rfl (hb hby at_125) rfl (l' := #[.val (.int x0), .val (.int x1), .val (.int x2), .val (.int x3), .val (.long x4), .second, .val (.int x5), .val (.ref a495), .val (.long ((x4 &&& (2147483647 : Int64)) + (1 : Int64))), .second, .val (.long (((XT.ushrL x4 (32 : Int32)) &&& (2147483647 : Int64)) + (1 : Int64))), .second, .val (.int (x5 &&& (3 : Int32))), .val (.long (fMaxJ (fMaxJ x0.toInt64 x1.toInt64) x2.toInt64)), .second, .unset]) rfl kq) ?_
            show Go p e below s _ _ _ T577 (mkF m 127 #[.val (.int x0), .val (.int x1), .val (.int x2), .val (.int x3), .val (.long x4), .second, .val (.int x5), .val (.ref a495), .val (.long ((x4 &&& (2147483647 : Int64)) + (1 : Int64))), .second, .val (.long (((XT.ushrL x4 (32 : Int32)) &&& (2147483647 : Int64)) + (1 : Int64))), .second, .val (.int (x5 &&& (3 : Int32))), .val (.long (fMaxJ (fMaxJ x0.toInt64 x1.toInt64) x2.toInt64)), .second, .unset] [])
            refine go_st (fun _ kq => XS.iload X577.here hx rfl (hb hby at_127) rfl kq) ?_
            show Go p e below s _ _ _ T577 (mkF m 129 #[.val (.int x0), .val (.int x1), .val (.int x2), .val (.int x3), .val (.long x4), .second, .val (.int x5), .val (.ref a495), .val (.long ((x4 &&& (2147483647 : Int64)) + (1 : Int64))), .second, .val (.long (((XT.ushrL x4 (32 : Int32)) &&& (2147483647 : Int64)) + (1 : Int64))), .second, .val (.int (x5 &&& (3 : Int32))), .val (.long (fMaxJ (fMaxJ x0.toInt64 x1.toInt64) x2.toInt64)), .second, .unset] [(.int (x5 &&& (3 : Int32)))])
            have hb578 : ¬ ((x5 &&& (3 : Int32)) = (0 : Int32)) := by exact own_nz1 hc503
            refine go_st (fun _ kq => XS.ifNo X577.here hx rfl (hb hby at_129) rfl (XT.i0_eq_f hb578) kq) ?_
            show Go p e below s _ _ _ T577 (mkF m 132 #[.val (.int x0), .val (.int x1), .val (.int x2), .val (.int x3), .val (.long x4), .second, .val (.int x5), .val (.ref a495), .val (.long ((x4 &&& (2147483647 : Int64)) + (1 : Int64))), .second, .val (.long (((XT.ushrL x4 (32 : Int32)) &&& (2147483647 : Int64)) + (1 : Int64))), .second, .val (.int (x5 &&& (3 : Int32))), .val (.long (fMaxJ (fMaxJ x0.toInt64 x1.toInt64) x2.toInt64)), .second, .unset] [])
            refine go_st (fun _ kq => XT.lload X577.here hx rfl (hb hby at_132) rfl kq) ?_
            show Go p e below s _ _ _ T577 (mkF m 134 #[.val (.int x0), .val (.int x1), .val (.int x2), .val (.int x3), .val (.long x4), .second, .val (.int x5), .val (.ref a495), .val (.long ((x4 &&& (2147483647 : Int64)) + (1 : Int64))), .second, .val (.long (((XT.ushrL x4 (32 : Int32)) &&& (2147483647 : Int64)) + (1 : Int64))), .second, .val (.int (x5 &&& (3 : Int32))), .val (.long (fMaxJ (fMaxJ x0.toInt64 x1.toInt64) x2.toInt64)), .second, .unset] [(.long (fMaxJ (fMaxJ x0.toInt64 x1.toInt64) x2.toInt64))])
            refine go_st (fun _ kq => XT.lload X577.here hx rfl (hb hby at_134) rfl kq) ?_
            show Go p e below s _ _ _ T577 (mkF m 136 #[.val (.int x0), .val (.int x1), .val (.int x2), .val (.int x3), .val (.long x4), .second, .val (.int x5), .val (.ref a495), .val (.long ((x4 &&& (2147483647 : Int64)) + (1 : Int64))), .second, .val (.long (((XT.ushrL x4 (32 : Int32)) &&& (2147483647 : Int64)) + (1 : Int64))), .second, .val (.int (x5 &&& (3 : Int32))), .val (.long (fMaxJ (fMaxJ x0.toInt64 x1.toInt64) x2.toInt64)), .second, .unset] [(.long (((XT.ushrL x4 (32 : Int32)) &&& (2147483647 : Int64)) + (1 : Int64))), (.long (fMaxJ (fMaxJ x0.toInt64 x1.toInt64) x2.toInt64))])
            refine go_st (fun _ kq => XT.ladd X577.here hx rfl (hb hby at_136) rfl kq) ?_
            show Go p e below s _ _ _ T577 (mkF m 137 #[.val (.int x0), .val (.int x1), .val (.int x2), .val (.int x3), .val (.long x4), .second, .val (.int x5), .val (.ref a495), .val (.long ((x4 &&& (2147483647 : Int64)) + (1 : Int64))), .second, .val (.long (((XT.ushrL x4 (32 : Int32)) &&& (2147483647 : Int64)) + (1 : Int64))), .second, .val (.int (x5 &&& (3 : Int32))), .val (.long (fMaxJ (fMaxJ x0.toInt64 x1.toInt64) x2.toInt64)), .second, .unset] [(.long ((fMaxJ (fMaxJ x0.toInt64 x1.toInt64) x2.toInt64) + (((XT.ushrL x4 (32 : Int32)) &&& (2147483647 : Int64)) + (1 : Int64))))])
            refine go_st (fun _ kq => XS.iloadN X577.here hx rfl (hb hby at_137) rfl kq) ?_
            show Go p e below s _ _ _ T577 (mkF m 138 #[.val (.int x0), .val (.int x1), .val (.int x2), .val (.int x3), .val (.long x4), .second, .val (.int x5), .val (.ref a495), .val (.long ((x4 &&& (2147483647 : Int64)) + (1 : Int64))), .second, .val (.long (((XT.ushrL x4 (32 : Int32)) &&& (2147483647 : Int64)) + (1 : Int64))), .second, .val (.int (x5 &&& (3 : Int32))), .val (.long (fMaxJ (fMaxJ x0.toInt64 x1.toInt64) x2.toInt64)), .second, .unset] [(.int x3), (.long ((fMaxJ (fMaxJ x0.toInt64 x1.toInt64) x2.toInt64) + (((XT.ushrL x4 (32 : Int32)) &&& (2147483647 : Int64)) + (1 : Int64))))])
            refine go_st (fun _ kq => XT.i2l X577.here hx rfl (hb hby at_138) rfl kq) ?_
            show Go p e below s _ _ _ T577 (mkF m 139 #[.val (.int x0), .val (.int x1), .val (.int x2), .val (.int x3), .val (.long x4), .second, .val (.int x5), .val (.ref a495), .val (.long ((x4 &&& (2147483647 : Int64)) + (1 : Int64))), .second, .val (.long (((XT.ushrL x4 (32 : Int32)) &&& (2147483647 : Int64)) + (1 : Int64))), .second, .val (.int (x5 &&& (3 : Int32))), .val (.long (fMaxJ (fMaxJ x0.toInt64 x1.toInt64) x2.toInt64)), .second, .unset] [(.long x3.toInt64), (.long ((fMaxJ (fMaxJ x0.toInt64 x1.toInt64) x2.toInt64) + (((XT.ushrL x4 (32 : Int32)) &&& (2147483647 : Int64)) + (1 : Int64))))])
            refine go_st (fun _ kq => XT.lcmp X577.here hx rfl (hb hby at_139) rfl kq) ?_
            show Go p e below s _ _ _ T577 (mkF m 140 #[.val (.int x0), .val (.int x1), .val (.int x2), .val (.int x3), .val (.long x4), .second, .val (.int x5), .val (.ref a495), .val (.long ((x4 &&& (2147483647 : Int64)) + (1 : Int64))), .second, .val (.long (((XT.ushrL x4 (32 : Int32)) &&& (2147483647 : Int64)) + (1 : Int64))), .second, .val (.int (x5 &&& (3 : Int32))), .val (.long (fMaxJ (fMaxJ x0.toInt64 x1.toInt64) x2.toInt64)), .second, .unset] [(.int (XT.cmpL ((fMaxJ (fMaxJ x0.toInt64 x1.toInt64) x2.toInt64) + (((XT.ushrL x4 (32 : Int32)) &&& (2147483647 : Int64)) + (1 : Int64))) x3.toInt64))])
            by_cases hc579 : x3.toInt64 < ((fMaxJ (fMaxJ x0.toInt64 x1.toInt64) x2.toInt64) + (((XT.ushrL x4 (32 : Int32)) &&& (2147483647 : Int64)) + (1 : Int64)))
            · refine go_st (fun _ kq => XS.ifYes X577.here hx rfl (pc0 := 140) (pc' := 147) rfl (hb hby at_140) rfl (XT.ll_gt_t hc579) (by decide) (by decide) kq) ?_
              show Go p e below s _ _ _ T577 (mkF m 147 #[.val (.int x0), .val (.int x1), .val (.int x2), .val (.int x3), .val (.long x4), .second, .val (.int x5), .val (.ref a495), .val (.long ((x4 &&& (2147483647 : Int64)) + (1 : Int64))), .second, .val (.long (((XT.ushrL x4 (32 : Int32)) &&& (2147483647 : Int64)) + (1 : Int64))), .second, .val (.int (x5 &&& (3 : Int32))), .val (.long (fMaxJ (fMaxJ x0.toInt64 x1.toInt64) x2.toInt64)), .second, .unset] [])
              refine go_st (fun _ kq => XT.iconstV X577.here hx rfl (0 : Int32) (hb hby at_147) (by decide) kq) ?_
              show Go p e below s _ _ _ T577 (mkF m 148 #[.val (.int x0), .val (.int x1), .val (.int x2), .val (.int x3), .val (.long x4), .second, .val (.int x5), .val (.ref a495), .val (.long ((x4 &&& (2147483647 : Int64)) + (1 : Int64))), .second, .val (.long (((XT.ushrL x4 (32 : Int32)) &&& (2147483647 : Int64)) + (1 : Int64))), .second, .val (.int (x5 &&& (3 : Int32))), .val (.long (fMaxJ (fMaxJ x0.toInt64 x1.toInt64) x2.toInt64)), .second, .unset] [(.int (0 : Int32))])
              refine go_st (fun _ kq => XS.istore X577.here hx rfl (hb hby at_148) rfl (l' := #[.val (.int x0), .val (.int x1), .val (.int x2), .val (.int x3), .val (.long x4), .second, .val (.int x5), .val (.ref a495), .val (.long ((x4 &&& (2147483647 : Int64)) + (1 : Int64))), .second, .val (.long (((XT.ushrL x4 (32 : Int32)) &&& (2147483647 : Int64)) + (1 : Int64))), .second, .val (.int (x5 &&& (3 : Int32))), .val (.long (fMaxJ (fMaxJ x0.toInt64 x1.toInt64) x2.toInt64)), .second, .val (.int (0 : Int32))]) rfl kq) ?_
              show Go p e below s _ _ _ T577 (mkF m 150 #[.val (.int x0), .val (.int x1), .val (.int x2), .val (.int x3), .val (.long x4), .second, .val (.int x5), .val (.ref a495), .val (.long ((x4 &&& (2147483647 : Int64)) + (1 : Int64))), .second, .val (.long (((XT.ushrL x4 (32 : Int32)) &&& (2147483647 : Int64)) + (1 : Int64))), .second, .val (.int (x5 &&& (3 : Int32))), .val (.long (fMaxJ (fMaxJ x0.toInt64 x1.toInt64) x2.toInt64)), .second, .val (.int (0 : Int32))] [])
              refine go_st (fun _ kq => XS.aload X577.here hx rfl (hb hby at_150) rfl rfl kq) ?_
              show Go p e below s _ _ _ T577 (mkF m 152 #[.val (.int x0), .val (.int x1), .val (.int x2), .val (.int x3), .val (.long x4), .second, .val (.int x5), .val (.ref a495), .val (.long ((x4 &&& (2147483647 : Int64)) + (1 : Int64))), .second, .val (.long (((XT.ushrL x4 (32 : Int32)) &&& (2147483647 : Int64)) + (1 : Int64))), .second, .val (.int (x5 &&& (3 : Int32))), .val (.long (fMaxJ (fMaxJ x0.toInt64 x1.toInt64) x2.toInt64)), .second, .val (.int (0 : Int32))] [(.ref a495)])
              refine go_st (fun _ kq => XS.iloadN X577.here hx rfl (hb hby at_152) rfl kq) ?_
              show Go p e below s _ _ _ T577 (mkF m 153 #[.val (.int x0), .val (.int x1), .val (.int x2), .val (.int x3), .val (.long x4), .second, .val (.int x5), .val (.ref a495), .val (.long ((x4 &&& (2147483647 : Int64)) + (1 : Int64))), .second, .val (.long (((XT.ushrL x4 (32 : Int32)) &&& (2147483647 : Int64)) + (1 : Int64))), .second, .val (.int (x5 &&& (3 : Int32))), .val (.long (fMaxJ (fMaxJ x0.toInt64 x1.toInt64) x2.toInt64)), .second, .val (.int (0 : Int32))] [(.int x3), (.ref a495)])
              refine go_st (fun _ kq => XT.i2l X577.here hx rfl (hb hby at_153) rfl kq) ?_
              show Go p e below s _ _ _ T577 (mkF m 154 #[.val (.int x0), .val (.int x1), .val (.int x2), .val (.int x3), .val (.long x4), .second, .val (.int x5), .val (.ref a495), .val (.long ((x4 &&& (2147483647 : Int64)) + (1 : Int64))), .second, .val (.long (((XT.ushrL x4 (32 : Int32)) &&& (2147483647 : Int64)) + (1 : Int64))), .second, .val (.int (x5 &&& (3 : Int32))), .val (.long (fMaxJ (fMaxJ x0.toInt64 x1.toInt64) x2.toInt64)), .second, .val (.int (0 : Int32))] [(.long x3.toInt64), (.ref a495)])
              refine go_st (fun _ kq => XT.lload X577.here hx rfl (hb hby at_154) rfl kq) ?_
              show Go p e below s _ _ _ T577 (mkF m 156 #[.val (.int x0), .val (.int x1), .val (.int x2), .val (.int x3), .val (.long x4), .second, .val (.int x5), .val (.ref a495), .val (.long ((x4 &&& (2147483647 : Int64)) + (1 : Int64))), .second, .val (.long (((XT.ushrL x4 (32 : Int32)) &&& (2147483647 : Int64)) + (1 : Int64))), .second, .val (.int (x5 &&& (3 : Int32))), .val (.long (fMaxJ (fMaxJ x0.toInt64 x1.toInt64) x2.toInt64)), .second, .val (.int (0 : Int32))] [(.long (((XT.ushrL x4 (32 : Int32)) &&& (2147483647 : Int64)) + (1 : Int64))), (.long x3.toInt64), (.ref a495)])
              have z581 : n0 ≤ T554.heap.size := Nat.le_trans z555 K554.1
              refine go_callV X577 hx hZ hml hown (hw _ (List.mem_of_getElem? (i := 94) rfl)) (hw _ (List.mem_of_getElem? (i := 95) rfl)) (notFace_of_selects (args := #[]) (mvT hZ (hw _ (List.mem_of_getElem? (i := 97) rfl)))) (hw _ (List.mem_of_getElem? (i := 97) rfl)) (hw _ (List.mem_of_getElem? (i := 96) rfl)) (hw _ (List.mem_of_getElem? (i := 98) rfl)) (hw _ (List.mem_of_getElem? (i := 2) rfl)) e577 f554_0 (argsL := [(.long x3.toInt64), (.long (((XT.ushrL x4 (32 : Int32)) &&& (2147483647 : Int64)) + (1 : Int64)))]) (rest := []) (W := 0) (met_idl2 l Z a0 hw a495 x3.toInt64 (((XT.ushrL x4 (32 : Int32)) &&& (2147483647 : Int64)) + (1 : Int64)) 1 uq_509 gq_554 T554.heap n0 z581 f554_0 hd576 f554_3 f554_4 (by first | assumption | decide | omega) sz576) (hb hby at_156) rfl rfl rfl (lenOf pd11 rfl) (by show 2 * 0 + _ ≤ _; exact Nat.le_of_eq rfl) (by decide) (by decide) (by decide) (by decide) (by decide) ?_
              intro T580 v580 L580 X580 q580
              obtain ⟨rfl, M580, e580⟩ := q580
              have N580 := Fr.app N577 M580
              show Go p e below s _ _ _ T580 (mkF m 159 #[.val (.int x0), .val (.int x1), .val (.int x2), .val (.int x3), .val (.long x4), .second, .val (.int x5), .val (.ref a495), .val (.long ((x4 &&& (2147483647 : Int64)) + (1 : Int64))), .second, .val (.long (((XT.ushrL x4 (32 : Int32)) &&& (2147483647 : Int64)) + (1 : Int64))), .second, .val (.int (x5 &&& (3 : Int32))), .val (.long (fMaxJ (fMaxJ x0.toInt64 x1.toInt64) x2.toInt64)), .second, .val (.int (0 : Int32))] [(.int (fIdl2 gq_554 1 x3.toInt64 (((XT.ushrL x4 (32 : Int32)) &&& (2147483647 : Int64)) + (1 : Int64))))])
              refine go_st (fun _ kq => XS.iload X580.here hx rfl (hb hby at_159) rfl kq) ?_
              show Go p e below s _ _ _ T580 (mkF m 161 #[.val (.int x0), .val (.int x1), .val (.int x2), .val (.int x3), .val (.long x4), .second, .val (.int x5), .val (.ref a495), .val (.long ((x4 &&& (2147483647 : Int64)) + (1 : Int64))), .second, .val (.long (((XT.ushrL x4 (32 : Int32)) &&& (2147483647 : Int64)) + (1 : Int64))), .second, .val (.int (x5 &&& (3 : Int32))), .val (.long (fMaxJ (fMaxJ x0.toInt64 x1.toInt64) x2.toInt64)), .second, .val (.int (0 : Int32))] [(.int (0 : Int32)), (.int (fIdl2 gq_554 1 x3.toInt64 (((XT.ushrL x4 (32 : Int32)) &&& (2147483647 : Int64)) + (1 : Int64))))])
              have hb582 : (fIdl2 gq_554 1 x3.toInt64 (((XT.ushrL x4 (32 : Int32)) &&& (2147483647 : Int64)) + (1 : Int64))) = (0 : Int32) := by exact (own_idl2 p554_1 (own_r32m (own_r32m (own_r32 _) (own_r32 _)) (own_r32 _)) (own_r32 _) (own_rw _)).2 hc579
              refine go_st (fun _ kq => XS.icmpNo X580.here hx rfl (hb hby at_161) rfl (XT.ii_ne_f hb582) kq) ?_
              show Go p e below s _ _ _ T580 (mkF m 164 #[.val (.int x0), .val (.int x1), .val (.int x2), .val (.int x3), .val (.long x4), .second, .val (.int x5), .val (.ref a495), .val (.long ((x4 &&& (2147483647 : Int64)) + (1 : Int64))), .second, .val (.long (((XT.ushrL x4 (32 : Int32)) &&& (2147483647 : Int64)) + (1 : Int64))), .second, .val (.int (x5 &&& (3 : Int32))), .val (.long (fMaxJ (fMaxJ x0.toInt64 x1.toInt64) x2.toInt64)), .second, .val (.int (0 : Int32))] [])
              refine go_st (fun _ kq => XT.iconstV X580.here hx rfl (1 : Int32) (hb hby at_164) (by decide) kq) ?_
              show Go p e below s _ _ _ T580 (mkF m 165 #[.val (.int x0), .val (.int x1), .val (.int x2), .val (.int x3), .val (.long x4), .second, .val (.int x5), .val (.ref a495), .val (.long ((x4 &&& (2147483647 : Int64)) + (1 : Int64))), .second, .val (.long (((XT.ushrL x4 (32 : Int32)) &&& (2147483647 : Int64)) + (1 : Int64))), .second, .val (.int (x5 &&& (3 : Int32))), .val (.long (fMaxJ (fMaxJ x0.toInt64 x1.toInt64) x2.toInt64)), .second, .val (.int (0 : Int32))] [(.int (1 : Int32))])
              refine go_st (fun _ kq => XS.goto X580.here hx rfl (pc0 := 165) (pc' := 169) rfl (hb hby at_165) (by decide) (by decide) kq) ?_
              show Go p e below s _ _ _ T580 (mkF m 169 #[.val (.int x0), .val (.int x1), .val (.int x2), .val (.int x3), .val (.long x4), .second, .val (.int x5), .val (.ref a495), .val (.long ((x4 &&& (2147483647 : Int64)) + (1 : Int64))), .second, .val (.long (((XT.ushrL x4 (32 : Int32)) &&& (2147483647 : Int64)) + (1 : Int64))), .second, .val (.int (x5 &&& (3 : Int32))), .val (.long (fMaxJ (fMaxJ x0.toInt64 x1.toInt64) x2.toInt64)), .second, .val (.int (0 : Int32))] [(.int (1 : Int32))])
              exact go_retB (w := (1 : Int32)) X580 hx hlk hret (hb hby at_169) (by decide) (by decide) (by decide) ⟨rfl, N580⟩
            · refine go_st (fun _ kq => XS.ifNo X577.here hx rfl (hb hby at_140) rfl (XT.ll_gt_f hc579) kq) ?_
              show Go p e below s _ _ _ T577 (mkF m 143 #[.val (.int x0), .val (.int x1), .val (.int x2), .val (.int x3), .val (.long x4), .second, .val (.int x5), .val (.ref a495), .val (.long ((x4 &&& (2147483647 : Int64)) + (1 : Int64))), .second, .val (.long (((XT.ushrL x4 (32 : Int32)) &&& (2147483647 : Int64)) + (1 : Int64))), .second, .val (.int (x5 &&& (3 : Int32))), .val (.long (fMaxJ (fMaxJ x0.toInt64 x1.toInt64) x2.toInt64)), .second, .unset] [])
              refine go_st (fun _ kq => XT.iconstV X577.here hx rfl (1 : Int32) (hb hby at_143) (by decide) kq) ?_
              show Go p e below s _ _ _ T577 (mkF m 144 #[.val (.int x0), .val (.int x1), .val (.int x2), .val (.int x3), .val (.long x4), .second, .val (.int x5), .val (.ref a495), .val (.long ((x4 &&& (2147483647 : Int64)) + (1 : Int64))), .second, .val (.long (((XT.ushrL x4 (32 : Int32)) &&& (2147483647 : Int64)) + (1 : Int64))), .second, .val (.int (x5 &&& (3 : Int32))), .val (.long (fMaxJ (fMaxJ x0.toInt64 x1.toInt64) x2.toInt64)), .second, .unset] [(.int (1 : Int32))])
              refine go_st (fun _ kq => XS.goto X577.here hx rfl (pc0 := 144) (pc' := 148) rfl (hb hby at_144) (by decide) (by decide) kq) ?_
              show Go p e below s _ _ _ T577 (mkF m 148 #[.val (.int x0), .val (.int x1), .val (.int x2), .val (.int x3), .val (.long x4), .second, .val (.int x5), .val (.ref a495), .val (.long ((x4 &&& (2147483647 : Int64)) + (1 : Int64))), .second, .val (.long (((XT.ushrL x4 (32 : Int32)) &&& (2147483647 : Int64)) + (1 : Int64))), .second, .val (.int (x5 &&& (3 : Int32))), .val (.long (fMaxJ (fMaxJ x0.toInt64 x1.toInt64) x2.toInt64)), .second, .unset] [(.int (1 : Int32))])
              refine go_st (fun _ kq => XS.istore X577.here hx rfl (hb hby at_148) rfl (l' := #[.val (.int x0), .val (.int x1), .val (.int x2), .val (.int x3), .val (.long x4), .second, .val (.int x5), .val (.ref a495), .val (.long ((x4 &&& (2147483647 : Int64)) + (1 : Int64))), .second, .val (.long (((XT.ushrL x4 (32 : Int32)) &&& (2147483647 : Int64)) + (1 : Int64))), .second, .val (.int (x5 &&& (3 : Int32))), .val (.long (fMaxJ (fMaxJ x0.toInt64 x1.toInt64) x2.toInt64)), .second, .val (.int (1 : Int32))]) rfl kq) ?_
              show Go p e below s _ _ _ T577 (mkF m 150 #[.val (.int x0), .val (.int x1), .val (.int x2), .val (.int x3), .val (.long x4), .second, .val (.int x5), .val (.ref a495), .val (.long ((x4 &&& (2147483647 : Int64)) + (1 : Int64))), .second, .val (.long (((XT.ushrL x4 (32 : Int32)) &&& (2147483647 : Int64)) + (1 : Int64))), .second, .val (.int (x5 &&& (3 : Int32))), .val (.long (fMaxJ (fMaxJ x0.toInt64 x1.toInt64) x2.toInt64)), .second, .val (.int (1 : Int32))] [])
              refine go_st (fun _ kq => XS.aload X577.here hx rfl (hb hby at_150) rfl rfl kq) ?_
              show Go p e below s _ _ _ T577 (mkF m 152 #[.val (.int x0), .val (.int x1), .val (.int x2), .val (.int x3), .val (.long x4), .second, .val (.int x5), .val (.ref a495), .val (.long ((x4 &&& (2147483647 : Int64)) + (1 : Int64))), .second, .val (.long (((XT.ushrL x4 (32 : Int32)) &&& (2147483647 : Int64)) + (1 : Int64))), .second, .val (.int (x5 &&& (3 : Int32))), .val (.long (fMaxJ (fMaxJ x0.toInt64 x1.toInt64) x2.toInt64)), .second, .val (.int (1 : Int32))] [(.ref a495)])
              refine go_st (fun _ kq => XS.iloadN X577.here hx rfl (hb hby at_152) rfl kq) ?_
              show Go p e below s _ _ _ T577 (mkF m 153 #[.val (.int x0), .val (.int x1), .val (.int x2), .val (.int x3), .val (.long x4), .second, .val (.int x5), .val (.ref a495), .val (.long ((x4 &&& (2147483647 : Int64)) + (1 : Int64))), .second, .val (.long (((XT.ushrL x4 (32 : Int32)) &&& (2147483647 : Int64)) + (1 : Int64))), .second, .val (.int (x5 &&& (3 : Int32))), .val (.long (fMaxJ (fMaxJ x0.toInt64 x1.toInt64) x2.toInt64)), .second, .val (.int (1 : Int32))] [(.int x3), (.ref a495)])
              refine go_st (fun _ kq => XT.i2l X577.here hx rfl (hb hby at_153) rfl kq) ?_
              show Go p e below s _ _ _ T577 (mkF m 154 #[.val (.int x0), .val (.int x1), .val (.int x2), .val (.int x3), .val (.long x4), .second, .val (.int x5), .val (.ref a495), .val (.long ((x4 &&& (2147483647 : Int64)) + (1 : Int64))), .second, .val (.long (((XT.ushrL x4 (32 : Int32)) &&& (2147483647 : Int64)) + (1 : Int64))), .second, .val (.int (x5 &&& (3 : Int32))), .val (.long (fMaxJ (fMaxJ x0.toInt64 x1.toInt64) x2.toInt64)), .second, .val (.int (1 : Int32))] [(.long x3.toInt64), (.ref a495)])
              refine go_st (fun _ kq => XT.lload X577.here hx rfl (hb hby at_154) rfl kq) ?_
              show Go p e below s _ _ _ T577 (mkF m 156 #[.val (.int x0), .val (.int x1), .val (.int x2), .val (.int x3), .val (.long x4), .second, .val (.int x5), .val (.ref a495), .val (.long ((x4 &&& (2147483647 : Int64)) + (1 : Int64))), .second, .val (.long (((XT.ushrL x4 (32 : Int32)) &&& (2147483647 : Int64)) + (1 : Int64))), .second, .val (.int (x5 &&& (3 : Int32))), .val (.long (fMaxJ (fMaxJ x0.toInt64 x1.toInt64) x2.toInt64)), .second, .val (.int (1 : Int32))] [(.long (((XT.ushrL x4 (32 : Int32)) &&& (2147483647 : Int64)) + (1 : Int64))), (.long x3.toInt64), (.ref a495)])
              have z584 : n0 ≤ T554.heap.size := Nat.le_trans z555 K554.1
              refine go_callV X577 hx hZ hml hown (hw _ (List.mem_of_getElem? (i := 94) rfl)) (hw _ (List.mem_of_getElem? (i := 95) rfl)) (notFace_of_selects (args := #[]) (mvT hZ (hw _ (List.mem_of_getElem? (i := 97) rfl)))) (hw _ (List.mem_of_getElem? (i := 97) rfl)) (hw _ (List.mem_of_getElem? (i := 96) rfl)) (hw _ (List.mem_of_getElem? (i := 98) rfl)) (hw _ (List.mem_of_getElem? (i := 2) rfl)) e577 f554_0 (argsL := [(.long x3.toInt64), (.long (((XT.ushrL x4 (32 : Int32)) &&& (2147483647 : Int64)) + (1 : Int64)))]) (rest := []) (W := 0) (met_idl2 l Z a0 hw a495 x3.toInt64 (((XT.ushrL x4 (32 : Int32)) &&& (2147483647 : Int64)) + (1 : Int64)) 1 uq_509 gq_554 T554.heap n0 z584 f554_0 hd576 f554_3 f554_4 (by first | assumption | decide | omega) sz576) (hb hby at_156) rfl rfl rfl (lenOf pd11 rfl) (by show 2 * 0 + _ ≤ _; exact Nat.le_of_eq rfl) (by decide) (by decide) (by decide) (by decide) (by decide) ?_
              intro T583 v583 L583 X583 q583
              obtain ⟨rfl, M583, e583⟩ := q583
              have N583 := Fr.app N577 M583
              show Go p e below s _ _ _ T583 (mkF m 159 #[.val (.int x0), .val (.int x1), .val (.int x2), .val (.int x3), .val (.long x4), .second, .val (.int x5), .val (.ref a495), .val (.long ((x4 &&& (2147483647 : Int64)) + (1 : Int64))), .second, .val (.long (((XT.ushrL x4 (32 : Int32)) &&& (2147483647 : Int64)) + (1 : Int64))), .second, .val (.int (x5 &&& (3 : Int32))), .val (.long (fMaxJ (fMaxJ x0.toInt64 x1.toInt64) x2.toInt64)), .second, .val (.int (1 : Int32))] [(.int (fIdl2 gq_554 1 x3.toInt64 (((XT.ushrL x4 (32 : Int32)) &&& (2147483647 : Int64)) + (1 : Int64))))])
              refine go_st (fun _ kq => XS.iload X583.here hx rfl (hb hby at_159) rfl kq) ?_
              show Go p e below s _ _ _ T583 (mkF m 161 #[.val (.int x0), .val (.int x1), .val (.int x2), .val (.int x3), .val (.long x4), .second, .val (.int x5), .val (.ref a495), .val (.long ((x4 &&& (2147483647 : Int64)) + (1 : Int64))), .second, .val (.long (((XT.ushrL x4 (32 : Int32)) &&& (2147483647 : Int64)) + (1 : Int64))), .second, .val (.int (x5 &&& (3 : Int32))), .val (.long (fMaxJ (fMaxJ x0.toInt64 x1.toInt64) x2.toInt64)), .second, .val (.int (1 : Int32))] [(.int (1 : Int32)), (.int (fIdl2 gq_554 1 x3.toInt64 (((XT.ushrL x4 (32 : Int32)) &&& (2147483647 : Int64)) + (1 : Int64))))])
              have hb585 : (fIdl2 gq_554 1 x3.toInt64 (((XT.ushrL x4 (32 : Int32)) &&& (2147483647 : Int64)) + (1 : Int64))) = (1 : Int32) := by exact (own_idl2 p554_1 (own_r32m (own_r32m (own_r32 _) (own_r32 _)) (own_r32 _)) (own_r32 _) (own_rw _)).1 hc579
              refine go_st (fun _ kq => XS.icmpNo X583.here hx rfl (hb hby at_161) rfl (XT.ii_ne_f hb585) kq) ?_
              show Go p e below s _ _ _ T583 (mkF m 164 #[.val (.int x0), .val (.int x1), .val (.int x2), .val (.int x3), .val (.long x4), .second, .val (.int x5), .val (.ref a495), .val (.long ((x4 &&& (2147483647 : Int64)) + (1 : Int64))), .second, .val (.long (((XT.ushrL x4 (32 : Int32)) &&& (2147483647 : Int64)) + (1 : Int64))), .second, .val (.int (x5 &&& (3 : Int32))), .val (.long (fMaxJ (fMaxJ x0.toInt64 x1.toInt64) x2.toInt64)), .second, .val (.int (1 : Int32))] [])
              refine go_st (fun _ kq => XT.iconstV X583.here hx rfl (1 : Int32) (hb hby at_164) (by decide) kq) ?_
              show Go p e below s _ _ _ T583 (mkF m 165 #[.val (.int x0), .val (.int x1), .val (.int x2), .val (.int x3), .val (.long x4), .second, .val (.int x5), .val (.ref a495), .val (.long ((x4 &&& (2147483647 : Int64)) + (1 : Int64))), .second, .val (.long (((XT.ushrL x4 (32 : Int32)) &&& (2147483647 : Int64)) + (1 : Int64))), .second, .val (.int (x5 &&& (3 : Int32))), .val (.long (fMaxJ (fMaxJ x0.toInt64 x1.toInt64) x2.toInt64)), .second, .val (.int (1 : Int32))] [(.int (1 : Int32))])
              refine go_st (fun _ kq => XS.goto X583.here hx rfl (pc0 := 165) (pc' := 169) rfl (hb hby at_165) (by decide) (by decide) kq) ?_
              show Go p e below s _ _ _ T583 (mkF m 169 #[.val (.int x0), .val (.int x1), .val (.int x2), .val (.int x3), .val (.long x4), .second, .val (.int x5), .val (.ref a495), .val (.long ((x4 &&& (2147483647 : Int64)) + (1 : Int64))), .second, .val (.long (((XT.ushrL x4 (32 : Int32)) &&& (2147483647 : Int64)) + (1 : Int64))), .second, .val (.int (x5 &&& (3 : Int32))), .val (.long (fMaxJ (fMaxJ x0.toInt64 x1.toInt64) x2.toInt64)), .second, .val (.int (1 : Int32))] [(.int (1 : Int32))])
              exact go_retB (w := (1 : Int32)) X583 hx hlk hret (hb hby at_169) (by decide) (by decide) (by decide) ⟨rfl, N583⟩
          · subst hj565
            have hd586 : Fld Z T554.heap a495 "com/example/aforo/aforo/SlidingLog" "head" "I" (.int (2 : Int32)) := f554_1
            have sz586 : Fld Z T554.heap a495 "com/example/aforo/aforo/SlidingLog" "size" "I" (.int (1 : Int32)) := f554_2
            show Go p e below s _ _ _ T554 (mkF m 117 #[.val (.int x0), .val (.int x1), .val (.int x2), .val (.int x3), .val (.long x4), .second, .val (.int x5), .val (.ref a495), .val (.long ((x4 &&& (2147483647 : Int64)) + (1 : Int64))), .second, .val (.long (((XT.ushrL x4 (32 : Int32)) &&& (2147483647 : Int64)) + (1 : Int64))), .second, .val (.int (x5 &&& (3 : Int32))), .val (.long (fMaxJ x0.toInt64 x1.toInt64)), .second, .unset] [(.ref dq_554)])
            refine go_st (fun _ kq => XT.pop X554.here hx rfl (hb hby at_117) rfl rfl kq) ?_
            show Go p e below s _ _ _ T554 (mkF m 118 #[.val (.int x0), .val (.int x1), .val (.int x2), .val (.int x3), .val (.long x4), .second, .val (.int x5), .val (.ref a495), .val (.long ((x4 &&& (2147483647 : Int64)) + (1 : Int64))), .second, .val (.long (((XT.ushrL x4 (32 : Int32)) &&& (2147483647 : Int64)) + (1 : Int64))), .second, .val (.int (x5 &&& (3 : Int32))), .val (.long (fMaxJ x0.toInt64 x1.toInt64)), .second, .unset] [])
            refine go_st (fun _ kq => XT.lload X554.here hx rfl (hb hby at_118) rfl kq) ?_
            show Go p e below s _ _ _ T554 (mkF m 120 #[.val (.int x0), .val (.int x1), .val (.int x2), .val (.int x3), .val (.long x4), .second, .val (.int x5), .val (.ref a495), .val (.long ((x4 &&& (2147483647 : Int64)) + (1 : Int64))), .second, .val (.long (((XT.ushrL x4 (32 : Int32)) &&& (2147483647 : Int64)) + (1 : Int64))), .second, .val (.int (x5 &&& (3 : Int32))), .val (.long (fMaxJ x0.toInt64 x1.toInt64)), .second, .unset] [(.long (fMaxJ x0.toInt64 x1.toInt64))])
            refine go_st (fun _ kq => XS.iloadN X554.here hx rfl (hb hby at_120) rfl kq) ?_
            show Go p e below s _ _ _ T554 (mkF m 121 #[.val (.int x0), .val (.int x1), .val (.int x2), .val (.int x3), .val (.long x4), .second, .val (.int x5), .val (.ref a495), .val (.long ((x4 &&& (2147483647 : Int64)) + (1 : Int64))), .second, .val (.long (((XT.ushrL x4 (32 : Int32)) &&& (2147483647 : Int64)) + (1 : Int64))), .second, .val (.int (x5 &&& (3 : Int32))), .val (.long (fMaxJ x0.toInt64 x1.toInt64)), .second, .unset] [(.int x2), (.long (fMaxJ x0.toInt64 x1.toInt64))])
            refine go_st (fun _ kq => XT.i2l X554.here hx rfl (hb hby at_121) rfl kq) ?_
            show Go p e below s _ _ _ T554 (mkF m 122 #[.val (.int x0), .val (.int x1), .val (.int x2), .val (.int x3), .val (.long x4), .second, .val (.int x5), .val (.ref a495), .val (.long ((x4 &&& (2147483647 : Int64)) + (1 : Int64))), .second, .val (.long (((XT.ushrL x4 (32 : Int32)) &&& (2147483647 : Int64)) + (1 : Int64))), .second, .val (.int (x5 &&& (3 : Int32))), .val (.long (fMaxJ x0.toInt64 x1.toInt64)), .second, .unset] [(.long x2.toInt64), (.long (fMaxJ x0.toInt64 x1.toInt64))])
            refine go_callS X554 hx hZ hml hown (hw _ (List.mem_of_getElem? (i := 93) rfl)) (hw _ (List.mem_of_getElem? (i := 53) rfl)) (hw _ (List.mem_of_getElem? (i := 38) rfl)) (hw _ (List.mem_of_getElem? (i := 54) rfl)) rfl (argsL := [(.long (fMaxJ x0.toInt64 x1.toInt64)), (.long x2.toInt64)]) (rest := []) (W := 0) (met_10 l Z a0 hw (fMaxJ x0.toInt64 x1.toInt64) x2.toInt64 T554.heap n0) (hb hby at_122) rfl rfl rfl (lenOf pd4 rfl) (by show 2 * 0 + _ ≤ _; exact Nat.le_of_eq rfl) (by decide) (by decide) (by decide) (by decide) (by decide) ?_
            intro T587 v587 L587 X587 q587
            obtain ⟨rfl, M587, e587⟩ := q587
            have N587 := Fr.app N554 M587
            show Go p e below s _ _ _ T587 (mkF m 125 #[.val (.int x0), .val (.int x1), .val (.int x2), .val (.int x3), .val (.long x4), .second, .val (.int x5), .val (.ref a495), .val (.long ((x4 &&& (2147483647 : Int64)) + (1 : Int64))), .second, .val (.long (((XT.ushrL x4 (32 : Int32)) &&& (2147483647 : Int64)) + (1 : Int64))), .second, .val (.int (x5 &&& (3 : Int32))), .val (.long (fMaxJ x0.toInt64 x1.toInt64)), .second, .unset] [(.long (fMaxJ (fMaxJ x0.toInt64 x1.toInt64) x2.toInt64))])
            refine go_st (fun _ kq => XT.lstore X587.here hx rfl (hb hby at_125) rfl (l' := #[.val (.int x0), .val (.int x1), .val (.int x2), .val (.int x3), .val (.long x4), .second, .val (.int x5), .val (.ref a495), .val (.long ((x4 &&& (2147483647 : Int64)) + (1 : Int64))), .second, .val (.long (((XT.ushrL x4 (32 : Int32)) &&& (2147483647 : Int64)) + (1 : Int64))), .second, .val (.int (x5 &&& (3 : Int32))), .val (.long (fMaxJ (fMaxJ x0.toInt64 x1.toInt64) x2.toInt64)), .second, .unset]) rfl kq) ?_
            show Go p e below s _ _ _ T587 (mkF m 127 #[.val (.int x0), .val (.int x1), .val (.int x2), .val (.int x3), .val (.long x4), .second, .val (.int x5), .val (.ref a495), .val (.long ((x4 &&& (2147483647 : Int64)) + (1 : Int64))), .second, .val (.long (((XT.ushrL x4 (32 : Int32)) &&& (2147483647 : Int64)) + (1 : Int64))), .second, .val (.int (x5 &&& (3 : Int32))), .val (.long (fMaxJ (fMaxJ x0.toInt64 x1.toInt64) x2.toInt64)), .second, .unset] [])
            refine go_st (fun _ kq => XS.iload X587.here hx rfl (hb hby at_127) rfl kq) ?_
            show Go p e below s _ _ _ T587 (mkF m 129 #[.val (.int x0), .val (.int x1), .val (.int x2), .val (.int x3), .val (.long x4), .second, .val (.int x5), .val (.ref a495), .val (.long ((x4 &&& (2147483647 : Int64)) + (1 : Int64))), .second, .val (.long (((XT.ushrL x4 (32 : Int32)) &&& (2147483647 : Int64)) + (1 : Int64))), .second, .val (.int (x5 &&& (3 : Int32))), .val (.long (fMaxJ (fMaxJ x0.toInt64 x1.toInt64) x2.toInt64)), .second, .unset] [(.int (x5 &&& (3 : Int32)))])
            have hb588 : ¬ ((x5 &&& (3 : Int32)) = (0 : Int32)) := by exact own_nz1 hc503
            refine go_st (fun _ kq => XS.ifNo X587.here hx rfl (hb hby at_129) rfl (XT.i0_eq_f hb588) kq) ?_
            show Go p e below s _ _ _ T587 (mkF m 132 #[.val (.int x0), .val (.int x1), .val (.int x2), .val (.int x3), .val (.long x4), .second, .val (.int x5), .val (.ref a495), .val (.long ((x4 &&& (2147483647 : Int64)) + (1 : Int64))), .second, .val (.long (((XT.ushrL x4 (32 : Int32)) &&& (2147483647 : Int64)) + (1 : Int64))), .second, .val (.int (x5 &&& (3 : Int32))), .val (.long (fMaxJ (fMaxJ x0.toInt64 x1.toInt64) x2.toInt64)), .second, .unset] [])
            refine go_st (fun _ kq => XT.lload X587.here hx rfl (hb hby at_132) rfl kq) ?_
            show Go p e below s _ _ _ T587 (mkF m 134 #[.val (.int x0), .val (.int x1), .val (.int x2), .val (.int x3), .val (.long x4), .second, .val (.int x5), .val (.ref a495), .val (.long ((x4 &&& (2147483647 : Int64)) + (1 : Int64))), .second, .val (.long (((XT.ushrL x4 (32 : Int32)) &&& (2147483647 : Int64)) + (1 : Int64))), .second, .val (.int (x5 &&& (3 : Int32))), .val (.long (fMaxJ (fMaxJ x0.toInt64 x1.toInt64) x2.toInt64)), .second, .unset] [(.long (fMaxJ (fMaxJ x0.toInt64 x1.toInt64) x2.toInt64))])
            refine go_st (fun _ kq => XT.lload X587.here hx rfl (hb hby at_134) rfl kq) ?_
            show Go p e below s _ _ _ T587 (mkF m 136 #[.val (.int x0), .val (.int x1), .val (.int x2), .val (.int x3), .val (.long x4), .second, .val (.int x5), .val (.ref a495), .val (.long ((x4 &&& (2147483647 : Int64)) + (1 : Int64))), .second, .val (.long (((XT.ushrL x4 (32 : Int32)) &&& (2147483647 : Int64)) + (1 : Int64))), .second, .val (.int (x5 &&& (3 : Int32))), .val (.long (fMaxJ (fMaxJ x0.toInt64 x1.toInt64) x2.toInt64)), .second, .unset] [(.long (((XT.ushrL x4 (32 : Int32)) &&& (2147483647 : Int64)) + (1 : Int64))), (.long (fMaxJ (fMaxJ x0.toInt64 x1.toInt64) x2.toInt64))])
            refine go_st (fun _ kq => XT.ladd X587.here hx rfl (hb hby at_136) rfl kq) ?_
            show Go p e below s _ _ _ T587 (mkF m 137 #[.val (.int x0), .val (.int x1), .val (.int x2), .val (.int x3), .val (.long x4), .second, .val (.int x5), .val (.ref a495), .val (.long ((x4 &&& (2147483647 : Int64)) + (1 : Int64))), .second, .val (.long (((XT.ushrL x4 (32 : Int32)) &&& (2147483647 : Int64)) + (1 : Int64))), .second, .val (.int (x5 &&& (3 : Int32))), .val (.long (fMaxJ (fMaxJ x0.toInt64 x1.toInt64) x2.toInt64)), .second, .unset] [(.long ((fMaxJ (fMaxJ x0.toInt64 x1.toInt64) x2.toInt64) + (((XT.ushrL x4 (32 : Int32)) &&& (2147483647 : Int64)) + (1 : Int64))))])
            refine go_st (fun _ kq => XS.iloadN X587.here hx rfl (hb hby at_137) rfl kq) ?_
            show Go p e below s _ _ _ T587 (mkF m 138 #[.val (.int x0), .val (.int x1), .val (.int x2), .val (.int x3), .val (.long x4), .second, .val (.int x5), .val (.ref a495), .val (.long ((x4 &&& (2147483647 : Int64)) + (1 : Int64))), .second, .val (.long (((XT.ushrL x4 (32 : Int32)) &&& (2147483647 : Int64)) + (1 : Int64))), .second, .val (.int (x5 &&& (3 : Int32))), .val (.long (fMaxJ (fMaxJ x0.toInt64 x1.toInt64) x2.toInt64)), .second, .unset] [(.int x3), (.long ((fMaxJ (fMaxJ x0.toInt64 x1.toInt64) x2.toInt64) + (((XT.ushrL x4 (32 : Int32)) &&& (2147483647 : Int64)) + (1 : Int64))))])
            refine go_st (fun _ kq => XT.i2l X587.here hx rfl (hb hby at_138) rfl kq) ?_
            show Go p e below s _ _ _ T587 (mkF m 139 #[.val (.int x0), .val (.int x1), .val (.int x2), .val (.int x3), .val (.long x4), .second, .val (.int x5), .val (.ref a495), .val (.long ((x4 &&& (2147483647 : Int64)) + (1 : Int64))), .second, .val (.long (((XT.ushrL x4 (32 : Int32)) &&& (2147483647 : Int64)) + (1 : Int64))), .second, .val (.int (x5 &&& (3 : Int32))), .val (.long (fMaxJ (fMaxJ x0.toInt64 x1.toInt64) x2.toInt64)), .second, .unset] [(.long x3.toInt64), (.long ((fMaxJ (fMaxJ x0.toInt64 x1.toInt64) x2.toInt64) + (((XT.ushrL x4 (32 : Int32)) &&& (2147483647 : Int64)) + (1 : Int64))))])
            refine go_st (fun _ kq => XT.lcmp X587.here hx rfl (hb hby at_139) rfl kq) ?_
            show Go p e below s _ _ _ T587 (mkF m 140 #[.val (.int x0), .val (.int x1), .val (.int x2), .val (.int x3), .val (.long x4), .second, .val (.int x5), .val (.ref a495), .val (.long ((x4 &&& (2147483647 : Int64)) + (1 : Int64))), .second, .val (.long (((XT.ushrL x4 (32 : Int32)) &&& (2147483647 : Int64)) + (1 : Int64))), .second, .val (.int (x5 &&& (3 : Int32))), .val (.long (fMaxJ (fMaxJ x0.toInt64 x1.toInt64) x2.toInt64)), .second, .unset] [(.int (XT.cmpL ((fMaxJ (fMaxJ x0.toInt64 x1.toInt64) x2.toInt64) + (((XT.ushrL x4 (32 : Int32)) &&& (2147483647 : Int64)) + (1 : Int64))) x3.toInt64))])
            by_cases hc589 : x3.toInt64 < ((fMaxJ (fMaxJ x0.toInt64 x1.toInt64) x2.toInt64) + (((XT.ushrL x4 (32 : Int32)) &&& (2147483647 : Int64)) + (1 : Int64)))
            · refine go_st (fun _ kq => XS.ifYes X587.here hx rfl (pc0 := 140) (pc' := 147) rfl (hb hby at_140) rfl (XT.ll_gt_t hc589) (by decide) (by decide) kq) ?_
              show Go p e below s _ _ _ T587 (mkF m 147 #[.val (.int x0), .val (.int x1), .val (.int x2), .val (.int x3), .val (.long x4), .second, .val (.int x5), .val (.ref a495), .val (.long ((x4 &&& (2147483647 : Int64)) + (1 : Int64))), .second, .val (.long (((XT.ushrL x4 (32 : Int32)) &&& (2147483647 : Int64)) + (1 : Int64))), .second, .val (.int (x5 &&& (3 : Int32))), .val (.long (fMaxJ (fMaxJ x0.toInt64 x1.toInt64) x2.toInt64)), .second, .unset] [])
              refine go_st (fun _ kq => XT.iconstV X587.here hx rfl (0 : Int32) (hb hby at_147) (by decide) kq) ?_
              show Go p e below s _ _ _ T587 (mkF m 148 #[.val (.int x0), .val (.int x1), .val (.int x2), .val (.int x3), .val (.long x4), .second, .val (.int x5), .val (.ref a495), .val (.long ((x4 &&& (2147483647 : Int64)) + (1 : Int64))), .second, .val (.long (((XT.ushrL x4 (32 : Int32)) &&& (2147483647 : Int64)) + (1 : Int64))), .second, .val (.int (x5 &&& (3 : Int32))), .val (.long (fMaxJ (fMaxJ x0.toInt64 x1.toInt64) x2.toInt64)), .second, .unset] [(.int (0 : Int32))])
              refine go_st (fun _ kq => XS.istore X587.here hx rfl (hb hby at_148) rfl (l' := #[.val (.int x0), .val (.int x1), .val (.int x2), .val (.int x3), .val (.long x4), .second, .val (.int x5), .val (.ref a495), .val (.long ((x4 &&& (2147483647 : Int64)) + (1 : Int64))), .second, .val (.long (((XT.ushrL x4 (32 : Int32)) &&& (2147483647 : Int64)) + (1 : Int64))), .second, .val (.int (x5 &&& (3 : Int32))), .val (.long (fMaxJ (fMaxJ x0.toInt64 x1.toInt64) x2.toInt64)), .second, .val (.int (0 : Int32))]) rfl kq) ?_
              show Go p e below s _ _ _ T587 (mkF m 150 #[.val (.int x0), .val (.int x1), .val (.int x2), .val (.int x3), .val (.long x4), .second, .val (.int x5), .val (.ref a495), .val (.long ((x4 &&& (2147483647 : Int64)) + (1 : Int64))), .second, .val (.long (((XT.ushrL x4 (32 : Int32)) &&& (2147483647 : Int64)) + (1 : Int64))), .second, .val (.int (x5 &&& (3 : Int32))), .val (.long (fMaxJ (fMaxJ x0.toInt64 x1.toInt64) x2.toInt64)), .second, .val (.int (0 : Int32))] [])
              refine go_st (fun _ kq => XS.aload X587.here hx rfl (hb hby at_150) rfl rfl kq) ?_
              show Go p e below s _ _ _ T587 (mkF m 152 #[.val (.int x0), .val (.int x1), .val (.int x2), .val (.int x3), .val (.long x4), .second, .val (.int x5), .val (.ref a495), .val (.long ((x4 &&& (2147483647 : Int64)) + (1 : Int64))), .second, .val (.long (((XT.ushrL x4 (32 : Int32)) &&& (2147483647 : Int64)) + (1 : Int64))), .second, .val (.int (x5 &&& (3 : Int32))), .val (.long (fMaxJ (fMaxJ x0.toInt64 x1.toInt64) x2.toInt64)), .second, .val (.int (0 : Int32))] [(.ref a495)])
              refine go_st (fun _ kq => XS.iloadN X587.here hx rfl (hb hby at_152) rfl kq) ?_
              show Go p e below s _ _ _ T587 (mkF m 153 #[.val (.int x0), .val (.int x1), .val (.int x2), .val (.int x3), .val (.long x4), .second, .val (.int x5), .val (.ref a495), .val (.long ((x4 &&& (2147483647 : Int64)) + (1 : Int64))), .second, .val (.long (((XT.ushrL x4 (32 : Int32)) &&& (2147483647 : Int64)) + (1 : Int64))), .second, .val (.int (x5 &&& (3 : Int32))), .val (.long (fMaxJ (fMaxJ x0.toInt64 x1.toInt64) x2.toInt64)), .second, .val (.int (0 : Int32))] [(.int x3), (.ref a495)])
              refine go_st (fun _ kq => XT.i2l X587.here hx rfl (hb hby at_153) rfl kq) ?_
              show Go p e below s _ _ _ T587 (mkF m 154 #[.val (.int x0), .val (.int x1), .val (.int x2), .val (.int x3), .val (.long x4), .second, .val (.int x5), .val (.ref a495), .val (.long ((x4 &&& (2147483647 : Int64)) + (1 : Int64))), .second, .val (.long (((XT.ushrL x4 (32 : Int32)) &&& (2147483647 : Int64)) + (1 : Int64))), .second, .val (.int (x5 &&& (3 : Int32))), .val (.long (fMaxJ (fMaxJ x0.toInt64 x1.toInt64) x2.toInt64)), .second, .val (.int (0 : Int32))] [(.long x3.toInt64), (.ref a495)])
              refine go_st (fun _ kq => XT.lload X587.here hx rfl (hb hby at_154) rfl kq) ?_
              show Go p e below s _ _ _ T587 (mkF m 156 #[.val (.int x0), .val (.int x1), .val (.int x2), .val (.int x3), .val (.long x4), .second, .val (.int x5), .val (.ref a495), .val (.long ((x4 &&& (2147483647 : Int64)) + (1 : Int64))), .second, .val (.long (((XT.ushrL x4 (32 : Int32)) &&& (2147483647 : Int64)) + (1 : Int64))), .second, .val (.int (x5 &&& (3 : Int32))), .val (.long (fMaxJ (fMaxJ x0.toInt64 x1.toInt64) x2.toInt64)), .second, .val (.int (0 : Int32))] [(.long (((XT.ushrL x4 (32 : Int32)) &&& (2147483647 : Int64)) + (1 : Int64))), (.long x3.toInt64), (.ref a495)])
              have z591 : n0 ≤ T554.heap.size := Nat.le_trans z555 K554.1
              refine go_callV X587 hx hZ hml hown (hw _ (List.mem_of_getElem? (i := 94) rfl)) (hw _ (List.mem_of_getElem? (i := 95) rfl)) (notFace_of_selects (args := #[]) (mvT hZ (hw _ (List.mem_of_getElem? (i := 97) rfl)))) (hw _ (List.mem_of_getElem? (i := 97) rfl)) (hw _ (List.mem_of_getElem? (i := 96) rfl)) (hw _ (List.mem_of_getElem? (i := 98) rfl)) (hw _ (List.mem_of_getElem? (i := 2) rfl)) e587 f554_0 (argsL := [(.long x3.toInt64), (.long (((XT.ushrL x4 (32 : Int32)) &&& (2147483647 : Int64)) + (1 : Int64)))]) (rest := []) (W := 0) (met_idl1 l Z a0 hw a495 x3.toInt64 (((XT.ushrL x4 (32 : Int32)) &&& (2147483647 : Int64)) + (1 : Int64)) 2 uq_509 gq_554 T554.heap n0 z591 f554_0 hd586 f554_3 f554_4 (by first | assumption | decide | omega) sz586) (hb hby at_156) rfl rfl rfl (lenOf pd11 rfl) (by show 2 * 0 + _ ≤ _; exact Nat.le_of_eq rfl) (by decide) (by decide) (by decide) (by decide) (by decide) ?_
              intro T590 v590 L590 X590 q590
              obtain ⟨rfl, M590, e590⟩ := q590
              have N590 := Fr.app N587 M590
              show Go p e below s _ _ _ T590 (mkF m 159 #[.val (.int x0), .val (.int x1), .val (.int x2), .val (.int x3), .val (.long x4), .second, .val (.int x5), .val (.ref a495), .val (.long ((x4 &&& (2147483647 : Int64)) + (1 : Int64))), .second, .val (.long (((XT.ushrL x4 (32 : Int32)) &&& (2147483647 : Int64)) + (1 : Int64))), .second, .val (.int (x5 &&& (3 : Int32))), .val (.long (fMaxJ (fMaxJ x0.toInt64 x1.toInt64) x2.toInt64)), .second, .val (.int (0 : Int32))] [(.int (fIdl1 gq_554 2 x3.toInt64 (((XT.ushrL x4 (32 : Int32)) &&& (2147483647 : Int64)) + (1 : Int64))))])
              refine go_st (fun _ kq => XS.iload X590.here hx rfl (hb hby at_159) rfl kq) ?_
              show Go p e below s _ _ _ T590 (mkF m 161 #[.val (.int x0), .val (.int x1), .val (.int x2), .val (.int x3), .val (.long x4), .second, .val (.int x5), .val (.ref a495), .val (.long ((x4 &&& (2147483647 : Int64)) + (1 : Int64))), .second, .val (.long (((XT.ushrL x4 (32 : Int32)) &&& (2147483647 : Int64)) + (1 : Int64))), .second, .val (.int (x5 &&& (3 : Int32))), .val (.long (fMaxJ (fMaxJ x0.toInt64 x1.toInt64) x2.toInt64)), .second, .val (.int (0 : Int32))] [(.int (0 : Int32)), (.int (fIdl1 gq_554 2 x3.toInt64 (((XT.ushrL x4 (32 : Int32)) &&& (2147483647 : Int64)) + (1 : Int64))))])
              have hb592 : (fIdl1 gq_554 2 x3.toInt64 (((XT.ushrL x4 (32 : Int32)) &&& (2147483647 : Int64)) + (1 : Int64))) = (0 : Int32) := by exact (own_idl1 p554_1 (own_r32m (own_r32m (own_r32 _) (own_r32 _)) (own_r32 _)) (own_r32 _) (own_rw _)).2 hc589
              refine go_st (fun _ kq => XS.icmpNo X590.here hx rfl (hb hby at_161) rfl (XT.ii_ne_f hb592) kq) ?_
              show Go p e below s _ _ _ T590 (mkF m 164 #[.val (.int x0), .val (.int x1), .val (.int x2), .val (.int x3), .val (.long x4), .second, .val (.int x5), .val (.ref a495), .val (.long ((x4 &&& (2147483647 : Int64)) + (1 : Int64))), .second, .val (.long (((XT.ushrL x4 (32 : Int32)) &&& (2147483647 : Int64)) + (1 : Int64))), .second, .val (.int (x5 &&& (3 : Int32))), .val (.long (fMaxJ (fMaxJ x0.toInt64 x1.toInt64) x2.toInt64)), .second, .val (.int (0 : Int32))] [])
              refine go_st (fun _ kq => XT.iconstV X590.here hx rfl (1 : Int32) (hb hby at_164) (by decide) kq) ?_
              show Go p e below s _ _ _ T590 (mkF m 165 #[.val (.int x0), .val (.int x1), .val (.int x2), .val (.int x3), .val (.long x4), .second, .val (.int x5), .val (.ref a495), .val (.long ((x4 &&& (2147483647 : Int64)) + (1 : Int64))), .second, .val (.long (((XT.ushrL x4 (32 : Int32)) &&& (2147483647 : Int64)) + (1 : Int64))), .second, .val (.int (x5 &&& (3 : Int32))), .val (.long (fMaxJ (fMaxJ x0.toInt64 x1.toInt64) x2.toInt64)), .second, .val (.int (0 : Int32))] [(.int (1 : Int32))])
              refine go_st (fun _ kq => XS.goto X590.here hx rfl (pc0 := 165) (pc' := 169) rfl (hb hby at_165) (by decide) (by decide) kq) ?_
              show Go p e below s _ _ _ T590 (mkF m 169 #[.val (.int x0), .val (.int x1), .val (.int x2), .val (.int x3), .val (.long x4), .second, .val (.int x5), .val (.ref a495), .val (.long ((x4 &&& (2147483647 : Int64)) + (1 : Int64))), .second, .val (.long (((XT.ushrL x4 (32 : Int32)) &&& (2147483647 : Int64)) + (1 : Int64))), .second, .val (.int (x5 &&& (3 : Int32))), .val (.long (fMaxJ (fMaxJ x0.toInt64 x1.toInt64) x2.toInt64)), .second, .val (.int (0 : Int32))] [(.int (1 : Int32))])
              exact go_retB (w := (1 : Int32)) X590 hx hlk hret (hb hby at_169) (by decide) (by decide) (by decide) ⟨rfl, N590⟩
            · refine go_st (fun _ kq => XS.ifNo X587.here hx rfl (hb hby at_140) rfl (XT.ll_gt_f hc589) kq) ?_
              show Go p e below s _ _ _ T587 (mkF m 143 #[.val (.int x0), .val (.int x1), .val (.int x2), .val (.int x3), .val (.long x4), .second, .val (.int x5), .val (.ref a495), .val (.long ((x4 &&& (2147483647 : Int64)) + (1 : Int64))), .second, .val (.long (((XT.ushrL x4 (32 : Int32)) &&& (2147483647 : Int64)) + (1 : Int64))), .second, .val (.int (x5 &&& (3 : Int32))), .val (.long (fMaxJ (fMaxJ x0.toInt64 x1.toInt64) x2.toInt64)), .second, .unset] [])
              refine go_st (fun _ kq => XT.iconstV X587.here hx rfl (1 : Int32) (hb hby at_143) (by decide) kq) ?_
              show Go p e below s _ _ _ T587 (mkF m 144 #[.val (.int x0), .val (.int x1), .val (.int x2), .val (.int x3), .val (.long x4), .second, .val (.int x5), .val (.ref a495), .val (.long ((x4 &&& (2147483647 : Int64)) + (1 : Int64))), .second, .val (.long (((XT.ushrL x4 (32 : Int32)) &&& (2147483647 : Int64)) + (1 : Int64))), .second, .val (.int (x5 &&& (3 : Int32))), .val (.long (fMaxJ (fMaxJ x0.toInt64 x1.toInt64) x2.toInt64)), .second, .unset] [(.int (1 : Int32))])
              refine go_st (fun _ kq => XS.goto X587.here hx rfl (pc0 := 144) (pc' := 148) rfl (hb hby at_144) (by decide) (by decide) kq) ?_
              show Go p e below s _ _ _ T587 (mkF m 148 #[.val (.int x0), .val (.int x1), .val (.int x2), .val (.int x3), .val (.long x4), .second, .val (.int x5), .val (.ref a495), .val (.long ((x4 &&& (2147483647 : Int64)) + (1 : Int64))), .second, .val (.long (((XT.ushrL x4 (32 : Int32)) &&& (2147483647 : Int64)) + (1 : Int64))), .second, .val (.int (x5 &&& (3 : Int32))), .val (.long (fMaxJ (fMaxJ x0.toInt64 x1.toInt64) x2.toInt64)), .second, .unset] [(.int (1 : Int32))])
              refine go_st (fun _ kq => XS.istore X587.here hx rfl (hb hby at_148) rfl (l' := #[.val (.int x0), .val (.int x1), .val (.int x2), .val (.int x3), .val (.long x4), .second, .val (.int x5), .val (.ref a495), .val (.long ((x4 &&& (2147483647 : Int64)) + (1 : Int64))), .second, .val (.long (((XT.ushrL x4 (32 : Int32)) &&& (2147483647 : Int64)) + (1 : Int64))), .second, .val (.int (x5 &&& (3 : Int32))), .val (.long (fMaxJ (fMaxJ x0.toInt64 x1.toInt64) x2.toInt64)), .second, .val (.int (1 : Int32))]) rfl kq) ?_
              show Go p e below s _ _ _ T587 (mkF m 150 #[.val (.int x0), .val (.int x1), .val (.int x2), .val (.int x3), .val (.long x4), .second, .val (.int x5), .val (.ref a495), .val (.long ((x4 &&& (2147483647 : Int64)) + (1 : Int64))), .second, .val (.long (((XT.ushrL x4 (32 : Int32)) &&& (2147483647 : Int64)) + (1 : Int64))), .second, .val (.int (x5 &&& (3 : Int32))), .val (.long (fMaxJ (fMaxJ x0.toInt64 x1.toInt64) x2.toInt64)), .second, .val (.int (1 : Int32))] [])
              refine go_st (fun _ kq => XS.aload X587.here hx rfl (hb hby at_150) rfl rfl kq) ?_
              show Go p e below s _ _ _ T587 (mkF m 152 #[.val (.int x0), .val (.int x1), .val (.int x2), .val (.int x3), .val (.long x4), .second, .val (.int x5), .val (.ref a495), .val (.long ((x4 &&& (2147483647 : Int64)) + (1 : Int64))), .second, .val (.long (((XT.ushrL x4 (32 : Int32)) &&& (2147483647 : Int64)) + (1 : Int64))), .second, .val (.int (x5 &&& (3 : Int32))), .val (.long (fMaxJ (fMaxJ x0.toInt64 x1.toInt64) x2.toInt64)), .second, .val (.int (1 : Int32))] [(.ref a495)])
              refine go_st (fun _ kq => XS.iloadN X587.here hx rfl (hb hby at_152) rfl kq) ?_
              show Go p e below s _ _ _ T587 (mkF m 153 #[.val (.int x0), .val (.int x1), .val (.int x2), .val (.int x3), .val (.long x4), .second, .val (.int x5), .val (.ref a495), .val (.long ((x4 &&& (2147483647 : Int64)) + (1 : Int64))), .second, .val (.long (((XT.ushrL x4 (32 : Int32)) &&& (2147483647 : Int64)) + (1 : Int64))), .second, .val (.int (x5 &&& (3 : Int32))), .val (.long (fMaxJ (fMaxJ x0.toInt64 x1.toInt64) x2.toInt64)), .second, .val (.int (1 : Int32))] [(.int x3), (.ref a495)])
              refine go_st (fun _ kq => XT.i2l X587.here hx rfl (hb hby at_153) rfl kq) ?_
              show Go p e below s _ _ _ T587 (mkF m 154 #[.val (.int x0), .val (.int x1), .val (.int x2), .val (.int x3), .val (.long x4), .second, .val (.int x5), .val (.ref a495), .val (.long ((x4 &&& (2147483647 : Int64)) + (1 : Int64))), .second, .val (.long (((XT.ushrL x4 (32 : Int32)) &&& (2147483647 : Int64)) + (1 : Int64))), .second, .val (.int (x5 &&& (3 : Int32))), .val (.long (fMaxJ (fMaxJ x0.toInt64 x1.toInt64) x2.toInt64)), .second, .val (.int (1 : Int32))] [(.long x3.toInt64), (.ref a495)])
              refine go_st (fun _ kq => XT.lload X587.here hx rfl (hb hby at_154) rfl kq) ?_
              show Go p e below s _ _ _ T587 (mkF m 156 #[.val (.int x0), .val (.int x1), .val (.int x2), .val (.int x3), .val (.long x4), .second, .val (.int x5), .val (.ref a495), .val (.long ((x4 &&& (2147483647 : Int64)) + (1 : Int64))), .second, .val (.long (((XT.ushrL x4 (32 : Int32)) &&& (2147483647 : Int64)) + (1 : Int64))), .second, .val (.int (x5 &&& (3 : Int32))), .val (.long (fMaxJ (fMaxJ x0.toInt64 x1.toInt64) x2.toInt64)), .second, .val (.int (1 : Int32))] [(.long (((XT.ushrL x4 (32 : Int32)) &&& (2147483647 : Int64)) + (1 : Int64))), (.long x3.toInt64), (.ref a495)])
              have z594 : n0 ≤ T554.heap.size := Nat.le_trans z555 K554.1
              refine go_callV X587 hx hZ hml hown (hw _ (List.mem_of_getElem? (i := 94) rfl)) (hw _ (List.mem_of_getElem? (i := 95) rfl)) (notFace_of_selects (args := #[]) (mvT hZ (hw _ (List.mem_of_getElem? (i := 97) rfl)))) (hw _ (List.mem_of_getElem? (i := 97) rfl)) (hw _ (List.mem_of_getElem? (i := 96) rfl)) (hw _ (List.mem_of_getElem? (i := 98) rfl)) (hw _ (List.mem_of_getElem? (i := 2) rfl)) e587 f554_0 (argsL := [(.long x3.toInt64), (.long (((XT.ushrL x4 (32 : Int32)) &&& (2147483647 : Int64)) + (1 : Int64)))]) (rest := []) (W := 0) (met_idl1 l Z a0 hw a495 x3.toInt64 (((XT.ushrL x4 (32 : Int32)) &&& (2147483647 : Int64)) + (1 : Int64)) 2 uq_509 gq_554 T554.heap n0 z594 f554_0 hd586 f554_3 f554_4 (by first | assumption | decide | omega) sz586) (hb hby at_156) rfl rfl rfl (lenOf pd11 rfl) (by show 2 * 0 + _ ≤ _; exact Nat.le_of_eq rfl) (by decide) (by decide) (by decide) (by decide) (by decide) ?_
              intro T593 v593 L593 X593 q593
              obtain ⟨rfl, M593, e593⟩ := q593
              have N593 := Fr.app N587 M593
              show Go p e below s _ _ _ T593 (mkF m 159 #[.val (.int x0), .val (.int x1), .val (.int x2), .val (.int x3), .val (.long x4), .second, .val (.int x5), .val (.ref a495), .val (.long ((x4 &&& (2147483647 : Int64)) + (1 : Int64))), .second, .val (.long (((XT.ushrL x4 (32 : Int32)) &&& (2147483647 : Int64)) + (1 : Int64))), .second, .val (.int (x5 &&& (3 : Int32))), .val (.long (fMaxJ (fMaxJ x0.toInt64 x1.toInt64) x2.toInt64)), .second, .val (.int (1 : Int32))] [(.int (fIdl1 gq_554 2 x3.toInt64 (((XT.ushrL x4 (32 : Int32)) &&& (2147483647 : Int64)) + (1 : Int64))))])
              refine go_st (fun _ kq => XS.iload X593.here hx rfl (hb hby at_159) rfl kq) ?_
              show Go p e below s _ _ _ T593 (mkF m 161 #[.val (.int x0), .val (.int x1), .val (.int x2), .val (.int x3), .val (.long x4), .second, .val (.int x5), .val (.ref a495), .val (.long ((x4 &&& (2147483647 : Int64)) + (1 : Int64))), .second, .val (.long (((XT.ushrL x4 (32 : Int32)) &&& (2147483647 : Int64)) + (1 : Int64))), .second, .val (.int (x5 &&& (3 : Int32))), .val (.long (fMaxJ (fMaxJ x0.toInt64 x1.toInt64) x2.toInt64)), .second, .val (.int (1 : Int32))] [(.int (1 : Int32)), (.int (fIdl1 gq_554 2 x3.toInt64 (((XT.ushrL x4 (32 : Int32)) &&& (2147483647 : Int64)) + (1 : Int64))))])
              have hb595 : (fIdl1 gq_554 2 x3.toInt64 (((XT.ushrL x4 (32 : Int32)) &&& (2147483647 : Int64)) + (1 : Int64))) = (1 : Int32) := by exact (own_idl1 p554_1 (own_r32m (own_r32m (own_r32 _) (own_r32 _)) (own_r32 _)) (own_r32 _) (own_rw _)).1 hc589
              refine go_st (fun _ kq => XS.icmpNo X593.here hx rfl (hb hby at_161) rfl (XT.ii_ne_f hb595) kq) ?_
              show Go p e below s _ _ _ T593 (mkF m 164 #[.val (.int x0), .val (.int x1), .val (.int x2), .val (.int x3), .val (.long x4), .second, .val (.int x5), .val (.ref a495), .val (.long ((x4 &&& (2147483647 : Int64)) + (1 : Int64))), .second, .val (.long (((XT.ushrL x4 (32 : Int32)) &&& (2147483647 : Int64)) + (1 : Int64))), .second, .val (.int (x5 &&& (3 : Int32))), .val (.long (fMaxJ (fMaxJ x0.toInt64 x1.toInt64) x2.toInt64)), .second, .val (.int (1 : Int32))] [])
              refine go_st (fun _ kq => XT.iconstV X593.here hx rfl (1 : Int32) (hb hby at_164) (by decide) kq) ?_
              show Go p e below s _ _ _ T593 (mkF m 165 #[.val (.int x0), .val (.int x1), .val (.int x2), .val (.int x3), .val (.long x4), .second, .val (.int x5), .val (.ref a495), .val (.long ((x4 &&& (2147483647 : Int64)) + (1 : Int64))), .second, .val (.long (((XT.ushrL x4 (32 : Int32)) &&& (2147483647 : Int64)) + (1 : Int64))), .second, .val (.int (x5 &&& (3 : Int32))), .val (.long (fMaxJ (fMaxJ x0.toInt64 x1.toInt64) x2.toInt64)), .second, .val (.int (1 : Int32))] [(.int (1 : Int32))])
              refine go_st (fun _ kq => XS.goto X593.here hx rfl (pc0 := 165) (pc' := 169) rfl (hb hby at_165) (by decide) (by decide) kq) ?_
              show Go p e below s _ _ _ T593 (mkF m 169 #[.val (.int x0), .val (.int x1), .val (.int x2), .val (.int x3), .val (.long x4), .second, .val (.int x5), .val (.ref a495), .val (.long ((x4 &&& (2147483647 : Int64)) + (1 : Int64))), .second, .val (.long (((XT.ushrL x4 (32 : Int32)) &&& (2147483647 : Int64)) + (1 : Int64))), .second, .val (.int (x5 &&& (3 : Int32))), .val (.long (fMaxJ (fMaxJ x0.toInt64 x1.toInt64) x2.toInt64)), .second, .val (.int (1 : Int32))] [(.int (1 : Int32))])
              exact go_retB (w := (1 : Int32)) X593 hx hlk hret (hb hby at_169) (by decide) (by decide) (by decide) ⟨rfl, N593⟩
      · subst hj542
        have hd596 : Fld Z T533.heap a495 "com/example/aforo/aforo/SlidingLog" "head" "I" (.int (1 : Int32)) := f533_1
        have sz596 : Fld Z T533.heap a495 "com/example/aforo/aforo/SlidingLog" "size" "I" (.int (1 : Int32)) := f533_2
        show Go p e below s _ _ _ T533 (mkF m 89 #[.val (.int x0), .val (.int x1), .val (.int x2), .val (.int x3), .val (.long x4), .second, .val (.int x5), .val (.ref a495), .val (.long ((x4 &&& (2147483647 : Int64)) + (1 : Int64))), .second, .val (.long (((XT.ushrL x4 (32 : Int32)) &&& (2147483647 : Int64)) + (1 : Int64))), .second, .val (.int (x5 &&& (3 : Int32))), .val (.long x0.toInt64), .second, .unset] [(.ref dq_533)])
        refine go_st (fun _ kq => XT.pop X533.here hx rfl (hb hby at_89) rfl rfl kq) ?_
        show Go p e below s _ _ _ T533 (mkF m 90 #[.val (.int x0), .val (.int x1), .val (.int x2), .val (.int x3), .val (.long x4), .second, .val (.int x5), .val (.ref a495), .val (.long ((x4 &&& (2147483647 : Int64)) + (1 : Int64))), .second, .val (.long (((XT.ushrL x4 (32 : Int32)) &&& (2147483647 : Int64)) + (1 : Int64))), .second, .val (.int (x5 &&& (3 : Int32))), .val (.long x0.toInt64), .second, .unset] [])
        refine go_st (fun _ kq => XT.lload X533.here hx rfl (hb hby at_90) rfl kq) ?_
        show Go p e below s _ _ _ T533 (mkF m 92 #[.val (.int x0), .val (.int x1), .val (.int x2), .val (.int x3), .val (.long x4), .second, .val (.int x5), .val (.ref a495), .val (.long ((x4 &&& (2147483647 : Int64)) + (1 : Int64))), .second, .val (.long (((XT.ushrL x4 (32 : Int32)) &&& (2147483647 : Int64)) + (1 : Int64))), .second, .val (.int (x5 &&& (3 : Int32))), .val (.long x0.toInt64), .second, .unset] [(.long x0.toInt64)])
        refine go_st (fun _ kq => XS.iloadN X533.here hx rfl (hb hby at_92) rfl kq) ?_
        show Go p e below s _ _ _ T533 (mkF m 93 #[.val (.int x0), .val (.int x1), .val (.int x2), .val (.int x3), .val (.long x4), .second, .val (.int x5), .val (.ref a495), .val (.long ((x4 &&& (2147483647 : Int64)) + (1 : Int64))), .second, .val (.long (((XT.ushrL x4 (32 : Int32)) &&& (2147483647 : Int64)) + (1 : Int64))), .second, .val (.int (x5 &&& (3 : Int32))), .val (.long x0.toInt64), .second, .unset] [(.int x1), (.long x0.toInt64)])
        refine go_st (fun _ kq => XT.i2l X533.here hx rfl (hb hby at_93) rfl kq) ?_
        show Go p e below s _ _ _ T533 (mkF m 94 #[.val (.int x0), .val (.int x1), .val (.int x2), .val (.int x3), .val (.long x4), .second, .val (.int x5), .val (.ref a495), .val (.long ((x4 &&& (2147483647 : Int64)) + (1 : Int64))), .second, .val (.long (((XT.ushrL x4 (32 : Int32)) &&& (2147483647 : Int64)) + (1 : Int64))), .second, .val (.int (x5 &&& (3 : Int32))), .val (.long x0.toInt64), .second, .unset] [(.long x1.toInt64), (.long x0.toInt64)])
        refine go_callS X533 hx hZ hml hown (hw _ (List.mem_of_getElem? (i := 93) rfl)) (hw _ (List.mem_of_getElem? (i := 53) rfl)) (hw _ (List.mem_of_getElem? (i := 38) rfl)) (hw _ (List.mem_of_getElem? (i := 54) rfl)) rfl (argsL := [(.long x0.toInt64), (.long x1.toInt64)]) (rest := []) (W := 0) (met_10 l Z a0 hw x0.toInt64 x1.toInt64 T533.heap n0) (hb hby at_94) rfl rfl rfl (lenOf pd4 rfl) (by show 2 * 0 + _ ≤ _; exact Nat.le_of_eq rfl) (by decide) (by decide) (by decide) (by decide) (by decide) ?_
        intro T597 v597 L597 X597 q597
        obtain ⟨rfl, M597, e597⟩ := q597
        have N597 := Fr.app N533 M597
        show Go p e below s _ _ _ T597 (mkF m 97 #[.val (.int x0), .val (.int x1), .val (.int x2), .val (.int x3), .val (.long x4), .second, .val (.int x5), .val (.ref a495), .val (.long ((x4 &&& (2147483647 : Int64)) + (1 : Int64))), .second, .val (.long (((XT.ushrL x4 (32 : Int32)) &&& (2147483647 : Int64)) + (1 : Int64))), .second, .val (.int (x5 &&& (3 : Int32))), .val (.long x0.toInt64), .second, .unset] [(.long (fMaxJ x0.toInt64 x1.toInt64))])
        refine go_st (fun _ kq => XT.lstore X597.here hx rfl (hb hby at_97) rfl (l' := #[.val (.int x0), .val (.int x1), .val (.int x2), .val (.int x3), .val (.long x4), .second, .val (.int x5), .val (.ref a495), .val (.long ((x4 &&& (2147483647 : Int64)) + (1 : Int64))), .second, .val (.long (((XT.ushrL x4 (32 : Int32)) &&& (2147483647 : Int64)) + (1 : Int64))), .second, .val (.int (x5 &&& (3 : Int32))), .val (.long (fMaxJ x0.toInt64 x1.toInt64)), .second, .unset]) rfl kq) ?_
        show Go p e below s _ _ _ T597 (mkF m 99 #[.val (.int x0), .val (.int x1), .val (.int x2), .val (.int x3), .val (.long x4), .second, .val (.int x5), .val (.ref a495), .val (.long ((x4 &&& (2147483647 : Int64)) + (1 : Int64))), .second, .val (.long (((XT.ushrL x4 (32 : Int32)) &&& (2147483647 : Int64)) + (1 : Int64))), .second, .val (.int (x5 &&& (3 : Int32))), .val (.long (fMaxJ x0.toInt64 x1.toInt64)), .second, .unset] [])
        refine go_st (fun _ kq => XS.iload X597.here hx rfl (hb hby at_99) rfl kq) ?_
        show Go p e below s _ _ _ T597 (mkF m 101 #[.val (.int x0), .val (.int x1), .val (.int x2), .val (.int x3), .val (.long x4), .second, .val (.int x5), .val (.ref a495), .val (.long ((x4 &&& (2147483647 : Int64)) + (1 : Int64))), .second, .val (.long (((XT.ushrL x4 (32 : Int32)) &&& (2147483647 : Int64)) + (1 : Int64))), .second, .val (.int (x5 &&& (3 : Int32))), .val (.long (fMaxJ x0.toInt64 x1.toInt64)), .second, .unset] [(.int (x5 &&& (3 : Int32)))])
        refine go_st (fun _ kq => XT.iconstV X597.here hx rfl (3 : Int32) (hb hby at_101) (by decide) kq) ?_
        show Go p e below s _ _ _ T597 (mkF m 102 #[.val (.int x0), .val (.int x1), .val (.int x2), .val (.int x3), .val (.long x4), .second, .val (.int x5), .val (.ref a495), .val (.long ((x4 &&& (2147483647 : Int64)) + (1 : Int64))), .second, .val (.long (((XT.ushrL x4 (32 : Int32)) &&& (2147483647 : Int64)) + (1 : Int64))), .second, .val (.int (x5 &&& (3 : Int32))), .val (.long (fMaxJ x0.toInt64 x1.toInt64)), .second, .unset] [(.int (3 : Int32)), (.int (x5 &&& (3 : Int32)))])
        by_cases hc598 : (x5 &&& (3 : Int32)) < (3 : Int32)
        · refine go_st (fun _ kq => XS.icmpYes X597.here hx rfl (pc0 := 102) (pc' := 127) rfl (hb hby at_102) rfl (XT.ii_lt_t hc598) (by decide) (by decide) kq) ?_
          show Go p e below s _ _ _ T597 (mkF m 127 #[.val (.int x0), .val (.int x1), .val (.int x2), .val (.int x3), .val (.long x4), .second, .val (.int x5), .val (.ref a495), .val (.long ((x4 &&& (2147483647 : Int64)) + (1 : Int64))), .second, .val (.long (((XT.ushrL x4 (32 : Int32)) &&& (2147483647 : Int64)) + (1 : Int64))), .second, .val (.int (x5 &&& (3 : Int32))), .val (.long (fMaxJ x0.toInt64 x1.toInt64)), .second, .unset] [])
          refine go_st (fun _ kq => XS.iload X597.here hx rfl (hb hby at_127) rfl kq) ?_
          show Go p e below s _ _ _ T597 (mkF m 129 #[.val (.int x0), .val (.int x1), .val (.int x2), .val (.int x3), .val (.long x4), .second, .val (.int x5), .val (.ref a495), .val (.long ((x4 &&& (2147483647 : Int64)) + (1 : Int64))), .second, .val (.long (((XT.ushrL x4 (32 : Int32)) &&& (2147483647 : Int64)) + (1 : Int64))), .second, .val (.int (x5 &&& (3 : Int32))), .val (.long (fMaxJ x0.toInt64 x1.toInt64)), .second, .unset] [(.int (x5 &&& (3 : Int32)))])
          have hb599 : ¬ ((x5 &&& (3 : Int32)) = (0 : Int32)) := by exact own_nz1 hc503
          refine go_st (fun _ kq => XS.ifNo X597.here hx rfl (hb hby at_129) rfl (XT.i0_eq_f hb599) kq) ?_
          show Go p e below s _ _ _ T597 (mkF m 132 #[.val (.int x0), .val (.int x1), .val (.int x2), .val (.int x3), .val (.long x4), .second, .val (.int x5), .val (.ref a495), .val (.long ((x4 &&& (2147483647 : Int64)) + (1 : Int64))), .second, .val (.long (((XT.ushrL x4 (32 : Int32)) &&& (2147483647 : Int64)) + (1 : Int64))), .second, .val (.int (x5 &&& (3 : Int32))), .val (.long (fMaxJ x0.toInt64 x1.toInt64)), .second, .unset] [])
          refine go_st (fun _ kq => XT.lload X597.here hx rfl (hb hby at_132) rfl kq) ?_
          show Go p e below s _ _ _ T597 (mkF m 134 #[.val (.int x0), .val (.int x1), .val (.int x2), .val (.int x3), .val (.long x4), .second, .val (.int x5), .val (.ref a495), .val (.long ((x4 &&& (2147483647 : Int64)) + (1 : Int64))), .second, .val (.long (((XT.ushrL x4 (32 : Int32)) &&& (2147483647 : Int64)) + (1 : Int64))), .second, .val (.int (x5 &&& (3 : Int32))), .val (.long (fMaxJ x0.toInt64 x1.toInt64)), .second, .unset] [(.long (fMaxJ x0.toInt64 x1.toInt64))])
          refine go_st (fun _ kq => XT.lload X597.here hx rfl (hb hby at_134) rfl kq) ?_
          show Go p e below s _ _ _ T597 (mkF m 136 #[.val (.int x0), .val (.int x1), .val (.int x2), .val (.int x3), .val (.long x4), .second, .val (.int x5), .val (.ref a495), .val (.long ((x4 &&& (2147483647 : Int64)) + (1 : Int64))), .second, .val (.long (((XT.ushrL x4 (32 : Int32)) &&& (2147483647 : Int64)) + (1 : Int64))), .second, .val (.int (x5 &&& (3 : Int32))), .val (.long (fMaxJ x0.toInt64 x1.toInt64)), .second, .unset] [(.long (((XT.ushrL x4 (32 : Int32)) &&& (2147483647 : Int64)) + (1 : Int64))), (.long (fMaxJ x0.toInt64 x1.toInt64))])
          refine go_st (fun _ kq => XT.ladd X597.here hx rfl (hb hby at_136) rfl kq) ?_
          show Go p e below s _ _ _ T597 (mkF m 137 #[.val (.int x0), .val (.int x1), .val (.int x2), .val (.int x3), .val (.long x4), .second, .val (.int x5), .val (.ref a495), .val (.long ((x4 &&& (2147483647 : Int64)) + (1 : Int64))), .second, .val (.long (((XT.ushrL x4 (32 : Int32)) &&& (2147483647 : Int64)) + (1 : Int64))), .second, .val (.int (x5 &&& (3 : Int32))), .val (.long (fMaxJ x0.toInt64 x1.toInt64)), .second, .unset] [(.long ((fMaxJ x0.toInt64 x1.toInt64) + (((XT.ushrL x4 (32 : Int32)) &&& (2147483647 : Int64)) + (1 : Int64))))])
          refine go_st (fun _ kq => XS.iloadN X597.here hx rfl (hb hby at_137) rfl kq) ?_
          show Go p e below s _ _ _ T597 (mkF m 138 #[.val (.int x0), .val (.int x1), .val (.int x2), .val (.int x3), .val (.long x4), .second, .val (.int x5), .val (.ref a495), .val (.long ((x4 &&& (2147483647 : Int64)) + (1 : Int64))), .second, .val (.long (((XT.ushrL x4 (32 : Int32)) &&& (2147483647 : Int64)) + (1 : Int64))), .second, .val (.int (x5 &&& (3 : Int32))), .val (.long (fMaxJ x0.toInt64 x1.toInt64)), .second, .unset] [(.int x3), (.long ((fMaxJ x0.toInt64 x1.toInt64) + (((XT.ushrL x4 (32 : Int32)) &&& (2147483647 : Int64)) + (1 : Int64))))])
          refine go_st (fun _ kq => XT.i2l X597.here hx rfl (hb hby at_138) rfl kq) ?_
          show Go p e below s _ _ _ T597 (mkF m 139 #[.val (.int x0), .val (.int x1), .val (.int x2), .val (.int x3), .val (.long x4), .second, .val (.int x5), .val (.ref a495), .val (.long ((x4 &&& (2147483647 : Int64)) + (1 : Int64))), .second, .val (.long (((XT.ushrL x4 (32 : Int32)) &&& (2147483647 : Int64)) + (1 : Int64))), .second, .val (.int (x5 &&& (3 : Int32))), .val (.long (fMaxJ x0.toInt64 x1.toInt64)), .second, .unset] [(.long x3.toInt64), (.long ((fMaxJ x0.toInt64 x1.toInt64) + (((XT.ushrL x4 (32 : Int32)) &&& (2147483647 : Int64)) + (1 : Int64))))])
          refine go_st (fun _ kq => XT.lcmp X597.here hx rfl (hb hby at_139) rfl kq) ?_
          show Go p e below s _ _ _ T597 (mkF m 140 #[.val (.int x0), .val (.int x1), .val (.int x2), .val (.int x3), .val (.long x4), .second, .val (.int x5), .val (.ref a495), .val (.long ((x4 &&& (2147483647 : Int64)) + (1 : Int64))), .second, .val (.long (((XT.ushrL x4 (32 : Int32)) &&& (2147483647 : Int64)) + (1 : Int64))), .second, .val (.int (x5 &&& (3 : Int32))), .val (.long (fMaxJ x0.toInt64 x1.toInt64)), .second, .unset] [(.int (XT.cmpL ((fMaxJ x0.toInt64 x1.toInt64) + (((XT.ushrL x4 (32 : Int32)) &&& (2147483647 : Int64)) + (1 : Int64))) x3.toInt64))])
          by_cases hc600 : x3.toInt64 < ((fMaxJ x0.toInt64 x1.toInt64) + (((XT.ushrL x4 (32 : Int32)) &&& (2147483647 : Int64)) + (1 : Int64)))
          · refine go_st (fun _ kq => XS.ifYes X597.here hx rfl (pc0 := 140) (pc' := 147) rfl (hb hby at_140) rfl (XT.ll_gt_t hc600) (by decide) (by decide) kq) ?_
            show Go p e below s _ _ _ T597 (mkF m 147 #[.val (.int x0), .val (.int x1), .val (.int x2), .val (.int x3), .val (.long x4), .second, .val (.int x5), .val (.ref a495), .val (.long ((x4 &&& (2147483647 : Int64)) + (1 : Int64))), .second, .val (.long (((XT.ushrL x4 (32 : Int32)) &&& (2147483647 : Int64)) + (1 : Int64))), .second, .val (.int (x5 &&& (3 : Int32))), .val (.long (fMaxJ x0.toInt64 x1.toInt64)), .second, .unset] [])
            refine go_st (fun _ kq => XT.iconstV X597.here hx rfl (0 : Int32) (hb hby at_147) (by decide) kq) ?_
            show Go p e below s _ _ _ T597 (mkF m 148 #[.val (.int x0), .val (.int x1), .val (.int x2), .val (.int x3), .val (.long x4), .second, .val (.int x5), .val (.ref a495), .val (.long ((x4 &&& (2147483647 : Int64)) + (1 : Int64))), .second, .val (.long (((XT.ushrL x4 (32 : Int32)) &&& (2147483647 : Int64)) + (1 : Int64))), .second, .val (.int (x5 &&& (3 : Int32))), .val (.long (fMaxJ x0.toInt64 x1.toInt64)), .second, .unset] [(.int (0 : Int32))])
            refine go_st (fun _ kq => XS.istore X597.here hx rfl (hb hby at_148) rfl (l' := #[.val (.int x0), .val (.int x1), .val (.int x2), .val (.int x3), .val (.long x4), .second, .val (.int x5), .val (.ref a495), .val (.long ((x4 &&& (2147483647 : Int64)) + (1 : Int64))), .second, .val (.long (((XT.ushrL x4 (32 : Int32)) &&& (2147483647 : Int64)) + (1 : Int64))), .second, .val (.int (x5 &&& (3 : Int32))), .val (.long (fMaxJ x0.toInt64 x1.toInt64)), .second, .val (.int (0 : Int32))]) rfl kq) ?_
            show Go p e below s _ _ _ T597 (mkF m 150 #[.val (.int x0), .val (.int x1), .val (.int x2), .val (.int x3), .val (.long x4), .second, .val (.int x5), .val (.ref a495), .val (.long ((x4 &&& (2147483647 : Int64)) + (1 : Int64))), .second, .val (.long (((XT.ushrL x4 (32 : Int32)) &&& (2147483647 : Int64)) + (1 : Int64))), .second, .val (.int (x5 &&& (3 : Int32))), .val (.long (fMaxJ x0.toInt64 x1.toInt64)), .second, .val (.int (0 : Int32))] [])
            refine go_st (fun _ kq => XS.aload X597.here hx rfl (hb hby at_150) rfl rfl kq) ?_
            show Go p e below s _ _ _ T597 (mkF m 152 #[.val (.int x0), .val (.int x1), .val (.int x2), .val (.int x3), .val (.long x4), .second, .val (.int x5), .val (.ref a495), .val (.long ((x4 &&& (2147483647 : Int64)) + (1 : Int64))), .second, .val (.long (((XT.ushrL x4 (32 : Int32)) &&& (2147483647 : Int64)) + (1 : Int64))), .second, .val (.int (x5 &&& (3 : Int32))), .val (.long (fMaxJ x0.toInt64 x1.toInt64)), .second, .val (.int (0 : Int32))] [(.ref a495)])
            refine go_st (fun _ kq => XS.iloadN X597.here hx rfl (hb hby at_152) rfl kq) ?_
            show Go p e below s _ _ _ T597 (mkF m 153 #[.val (.int x0), .val (.int x1), .val (.int x2), .val (.int x3), .val (.long x4), .second, .val (.int x5), .val (.ref a495), .val (.long ((x4 &&& (2147483647 : Int64)) + (1 : Int64))), .second, .val (.long (((XT.ushrL x4 (32 : Int32)) &&& (2147483647 : Int64)) + (1 : Int64))), .second, .val (.int (x5 &&& (3 : Int32))), .val (.long (fMaxJ x0.toInt64 x1.toInt64)), .second, .val (.int (0 : Int32))] [(.int x3), (.ref a495)])
            refine go_st (fun _ kq => XT.i2l X597.here hx rfl (hb hby at_153) rfl kq) ?_
            show Go p e below s _ _ _ T597 (mkF m 154 #[.val (.int x0), .val (.int x1), .val (.int x2), .val (.int x3), .val (.long x4), .second, .val (.int x5), .val (.ref a495), .val (.long ((x4 &&& (2147483647 : Int64)) + (1 : Int64))), .second, .val (.long (((XT.ushrL x4 (32 : Int32)) &&& (2147483647 : Int64)) + (1 : Int64))), .second, .val (.int (x5 &&& (3 : Int32))), .val (.long (fMaxJ x0.toInt64 x1.toInt64)), .second, .val (.int (0 : Int32))] [(.long x3.toInt64), (.ref a495)])
            refine go_st (fun _ kq => XT.lload X597.here hx rfl (hb hby at_154) rfl kq) ?_
            show Go p e below s _ _ _ T597 (mkF m 156 #[.val (.int x0), .val (.int x1), .val (.int x2), .val (.int x3), .val (.long x4), .second, .val (.int x5), .val (.ref a495), .val (.long ((x4 &&& (2147483647 : Int64)) + (1 : Int64))), .second, .val (.long (((XT.ushrL x4 (32 : Int32)) &&& (2147483647 : Int64)) + (1 : Int64))), .second, .val (.int (x5 &&& (3 : Int32))), .val (.long (fMaxJ x0.toInt64 x1.toInt64)), .second, .val (.int (0 : Int32))] [(.long (((XT.ushrL x4 (32 : Int32)) &&& (2147483647 : Int64)) + (1 : Int64))), (.long x3.toInt64), (.ref a495)])
            have z602 : n0 ≤ T533.heap.size := Nat.le_trans z534 K533.1
            refine go_callV X597 hx hZ hml hown (hw _ (List.mem_of_getElem? (i := 94) rfl)) (hw _ (List.mem_of_getElem? (i := 95) rfl)) (notFace_of_selects (args := #[]) (mvT hZ (hw _ (List.mem_of_getElem? (i := 97) rfl)))) (hw _ (List.mem_of_getElem? (i := 97) rfl)) (hw _ (List.mem_of_getElem? (i := 96) rfl)) (hw _ (List.mem_of_getElem? (i := 98) rfl)) (hw _ (List.mem_of_getElem? (i := 2) rfl)) e597 f533_0 (argsL := [(.long x3.toInt64), (.long (((XT.ushrL x4 (32 : Int32)) &&& (2147483647 : Int64)) + (1 : Int64)))]) (rest := []) (W := 0) (met_idl1 l Z a0 hw a495 x3.toInt64 (((XT.ushrL x4 (32 : Int32)) &&& (2147483647 : Int64)) + (1 : Int64)) 1 uq_509 gq_533 T533.heap n0 z602 f533_0 hd596 f533_3 f533_4 (by first | assumption | decide | omega) sz596) (hb hby at_156) rfl rfl rfl (lenOf pd11 rfl) (by show 2 * 0 + _ ≤ _; exact Nat.le_of_eq rfl) (by decide) (by decide) (by decide) (by decide) (by decide) ?_
            intro T601 v601 L601 X601 q601
            obtain ⟨rfl, M601, e601⟩ := q601
            have N601 := Fr.app N597 M601
            show Go p e below s _ _ _ T601 (mkF m 159 #[.val (.int x0), .val (.int x1), .val (.int x2), .val (.int x3), .val (.long x4), .second, .val (.int x5), .val (.ref a495), .val (.long ((x4 &&& (2147483647 : Int64)) + (1 : Int64))), .second, .val (.long (((XT.ushrL x4 (32 : Int32)) &&& (2147483647 : Int64)) + (1 : Int64))), .second, .val (.int (x5 &&& (3 : Int32))), .val (.long (fMaxJ x0.toInt64 x1.toInt64)), .second, .val (.int (0 : Int32))] [(.int (fIdl1 gq_533 1 x3.toInt64 (((XT.ushrL x4 (32 : Int32)) &&& (2147483647 : Int64)) + (1 : Int64))))])
            refine go_st (fun _ kq => XS.iload X601.here hx rfl (hb hby at_159) rfl kq) ?_
            show Go p e below s _ _ _ T601 (mkF m 161 #[.val (.int x0), .val (.int x1), .val (.int x2), .val (.int x3), .val (.long x4), .second, .val (.int x5), .val (.ref a495), .val (.long ((x4 &&& (2147483647 : Int64)) + (1 : Int64))), .second, .val (.long (((XT.ushrL x4 (32 : Int32)) &&& (2147483647 : Int64)) + (1 : Int64))), .second, .val (.int (x5 &&& (3 : Int32))), .val (.long (fMaxJ x0.toInt64 x1.toInt64)), .second, .val (.int (0 : Int32))] [(.int (0 : Int32)), (.int (fIdl1 gq_533 1 x3.toInt64 (((XT.ushrL x4 (32 : Int32)) &&& (2147483647 : Int64)) + (1 : Int64))))])
            have hb603 : (fIdl1 gq_533 1 x3.toInt64 (((XT.ushrL x4 (32 : Int32)) &&& (2147483647 : Int64)) + (1 : Int64))) = (0 : Int32) := by exact (own_idl1 p533_1 (own_r32m (own_r32 _) (own_r32 _)) (own_r32 _) (own_rw _)).2 hc600
            refine go_st (fun _ kq => XS.icmpNo X601.here hx rfl (hb hby at_161) rfl (XT.ii_ne_f hb603) kq) ?_
            show Go p e below s _ _ _ T601 (mkF m 164 #[.val (.int x0), .val (.int x1), .val (.int x2), .val (.int x3), .val (.long x4), .second, .val (.int x5), .val (.ref a495), .val (.long ((x4 &&& (2147483647 : Int64)) + (1 : Int64))), .second, .val (.long (((XT.ushrL x4 (32 : Int32)) &&& (2147483647 : Int64)) + (1 : Int64))), .second, .val (.int (x5 &&& (3 : Int32))), .val (.long (fMaxJ x0.toInt64 x1.toInt64)), .second, .val (.int (0 : Int32))] [])
            refine go_st (fun _ kq => XT.iconstV X601.here hx rfl (1 : Int32) (hb hby at_164) (by decide) kq) ?_
            show Go p e below s _ _ _ T601 (mkF m 165 #[.val (.int x0), .val (.int x1), .val (.int x2), .val (.int x3), .val (.long x4), .second, .val (.int x5), .val (.ref a495), .val (.long ((x4 &&& (2147483647 : Int64)) + (1 : Int64))), .second, .val (.long (((XT.ushrL x4 (32 : Int32)) &&& (2147483647 : Int64)) + (1 : Int64))), .second, .val (.int (x5 &&& (3 : Int32))), .val (.long (fMaxJ x0.toInt64 x1.toInt64)), .second, .val (.int (0 : Int32))] [(.int (1 : Int32))])
            refine go_st (fun _ kq => XS.goto X601.here hx rfl (pc0 := 165) (pc' := 169) rfl (hb hby at_165) (by decide) (by decide) kq) ?_
            show Go p e below s _ _ _ T601 (mkF m 169 #[.val (.int x0), .val (.int x1), .val (.int x2), .val (.int x3), .val (.long x4), .second, .val (.int x5), .val (.ref a495), .val (.long ((x4 &&& (2147483647 : Int64)) + (1 : Int64))), .second, .val (.long (((XT.ushrL x4 (32 : Int32)) &&& (2147483647 : Int64)) + (1 : Int64))), .second, .val (.int (x5 &&& (3 : Int32))), .val (.long (fMaxJ x0.toInt64 x1.toInt64)), .second, .val (.int (0 : Int32))] [(.int (1 : Int32))])
            exact go_retB (w := (1 : Int32)) X601 hx hlk hret (hb hby at_169) (by decide) (by decide) (by decide) ⟨rfl, N601⟩
          · refine go_st (fun _ kq => XS.ifNo X597.here hx rfl (hb hby at_140) rfl (XT.ll_gt_f hc600) kq) ?_
            show Go p e below s _ _ _ T597 (mkF m 143 #[.val (.int x0), .val (.int x1), .val (.int x2), .val (.int x3), .val (.long x4), .second, .val (.int x5), .val (.ref a495), .val (.long ((x4 &&& (2147483647 : Int64)) + (1 : Int64))), .second, .val (.long (((XT.ushrL x4 (32 : Int32)) &&& (2147483647 : Int64)) + (1 : Int64))), .second, .val (.int (x5 &&& (3 : Int32))), .val (.long (fMaxJ x0.toInt64 x1.toInt64)), .second, .unset] [])
            refine go_st (fun _ kq => XT.iconstV X597.here hx rfl (1 : Int32) (hb hby at_143) (by decide) kq) ?_
            show Go p e below s _ _ _ T597 (mkF m 144 #[.val (.int x0), .val (.int x1), .val (.int x2), .val (.int x3), .val (.long x4), .second, .val (.int x5), .val (.ref a495), .val (.long ((x4 &&& (2147483647 : Int64)) + (1 : Int64))), .second, .val (.long (((XT.ushrL x4 (32 : Int32)) &&& (2147483647 : Int64)) + (1 : Int64))), .second, .val (.int (x5 &&& (3 : Int32))), .val (.long (fMaxJ x0.toInt64 x1.toInt64)), .second, .unset] [(.int (1 : Int32))])
            refine go_st (fun _ kq => XS.goto X597.here hx rfl (pc0 := 144) (pc' := 148) rfl (hb hby at_144) (by decide) (by decide) kq) ?_
            show Go p e below s _ _ _ T597 (mkF m 148 #[.val (.int x0), .val (.int x1), .val (.int x2), .val (.int x3), .val (.long x4), .second, .val (.int x5), .val (.ref a495), .val (.long ((x4 &&& (2147483647 : Int64)) + (1 : Int64))), .second, .val (.long (((XT.ushrL x4 (32 : Int32)) &&& (2147483647 : Int64)) + (1 : Int64))), .second, .val (.int (x5 &&& (3 : Int32))), .val (.long (fMaxJ x0.toInt64 x1.toInt64)), .second, .unset] [(.int (1 : Int32))])
            refine go_st (fun _ kq => XS.istore X597.here hx rfl (hb hby at_148) rfl (l' := #[.val (.int x0), .val (.int x1), .val (.int x2), .val (.int x3), .val (.long x4), .second, .val (.int x5), .val (.ref a495), .val (.long ((x4 &&& (2147483647 : Int64)) + (1 : Int64))), .second, .val (.long (((XT.ushrL x4 (32 : Int32)) &&& (2147483647 : Int64)) + (1 : Int64))), .second, .val (.int (x5 &&& (3 : Int32))), .val (.long (fMaxJ x0.toInt64 x1.toInt64)), .second, .val (.int (1 : Int32))]) rfl kq) ?_
            show Go p e below s _ _ _ T597 (mkF m 150 #[.val (.int x0), .val (.int x1), .val (.int x2), .val (.int x3), .val (.long x4), .second, .val (.int x5), .val (.ref a495), .val (.long ((x4 &&& (2147483647 : Int64)) + (1 : Int64))), .second, .val (.long (((XT.ushrL x4 (32 : Int32)) &&& (2147483647 : Int64)) + (1 : Int64))), .second, .val (.int (x5 &&& (3 : Int32))), .val (.long (fMaxJ x0.toInt64 x1.toInt64)), .second, .val (.int (1 : Int32))] [])
            refine go_st (fun _ kq => XS.aload X597.here hx rfl (hb hby at_150) rfl rfl kq) ?_
            show Go p e below s _ _ _ T597 (mkF m 152 #[.val (.int x0), .val (.int x1), .val (.int x2), .val (.int x3), .val (.long x4), .second, .val (.int x5), .val (.ref a495), .val (.long ((x4 &&& (2147483647 : Int64)) + (1 : Int64))), .second, .val (.long (((XT.ushrL x4 (32 : Int32)) &&& (2147483647 : Int64)) + (1 : Int64))), .second, .val (.int (x5 &&& (3 : Int32))), .val (.long (fMaxJ x0.toInt64 x1.toInt64)), .second, .val (.int (1 : Int32))] [(.ref a495)])
            refine go_st (fun _ kq => XS.iloadN X597.here hx rfl (hb hby at_152) rfl kq) ?_
            show Go p e below s _ _ _ T597 (mkF m 153 #[.val (.int x0), .val (.int x1), .val (.int x2), .val (.int x3), .val (.long x4), .second, .val (.int x5), .val (.ref a495), .val (.long ((x4 &&& (2147483647 : Int64)) + (1 : Int64))), .second, .val (.long (((XT.ushrL x4 (32 : Int32)) &&& (2147483647 : Int64)) + (1 : Int64))), .second, .val (.int (x5 &&& (3 : Int32))), .val (.long (fMaxJ x0.toInt64 x1.toInt64)), .second, .val (.int (1 : Int32))] [(.int x3), (.ref a495)])
            refine go_st (fun _ kq => XT.i2l X597.here hx rfl (hb hby at_153) rfl kq) ?_
            show Go p e below s _ _ _ T597 (mkF m 154 #[.val (.int x0), .val (.int x1), .val (.int x2), .val (.int x3), .val (.long x4), .second, .val (.int x5), .val (.ref a495), .val (.long ((x4 &&& (2147483647 : Int64)) + (1 : Int64))), .second, .val (.long (((XT.ushrL x4 (32 : Int32)) &&& (2147483647 : Int64)) + (1 : Int64))), .second, .val (.int (x5 &&& (3 : Int32))), .val (.long (fMaxJ x0.toInt64 x1.toInt64)), .second, .val (.int (1 : Int32))] [(.long x3.toInt64), (.ref a495)])
            refine go_st (fun _ kq => XT.lload X597.here hx rfl (hb hby at_154) rfl kq) ?_
            show Go p e below s _ _ _ T597 (mkF m 156 #[.val (.int x0), .val (.int x1), .val (.int x2), .val (.int x3), .val (.long x4), .second, .val (.int x5), .val (.ref a495), .val (.long ((x4 &&& (2147483647 : Int64)) + (1 : Int64))), .second, .val (.long (((XT.ushrL x4 (32 : Int32)) &&& (2147483647 : Int64)) + (1 : Int64))), .second, .val (.int (x5 &&& (3 : Int32))), .val (.long (fMaxJ x0.toInt64 x1.toInt64)), .second, .val (.int (1 : Int32))] [(.long (((XT.ushrL x4 (32 : Int32)) &&& (2147483647 : Int64)) + (1 : Int64))), (.long x3.toInt64), (.ref a495)])
            have z605 : n0 ≤ T533.heap.size := Nat.le_trans z534 K533.1
            refine go_callV X597 hx hZ hml hown (hw _ (List.mem_of_getElem? (i := 94) rfl)) (hw _ (List.mem_of_getElem? (i := 95) rfl)) (notFace_of_selects (args := #[]) (mvT hZ (hw _ (List.mem_of_getElem? (i := 97) rfl)))) (hw _ (List.mem_of_getElem? (i := 97) rfl)) (hw _ (List.mem_of_getElem? (i := 96) rfl)) (hw _ (List.mem_of_getElem? (i := 98) rfl)) (hw _ (List.mem_of_getElem? (i := 2) rfl)) e597 f533_0 (argsL := [(.long x3.toInt64), (.long (((XT.ushrL x4 (32 : Int32)) &&& (2147483647 : Int64)) + (1 : Int64)))]) (rest := []) (W := 0) (met_idl1 l Z a0 hw a495 x3.toInt64 (((XT.ushrL x4 (32 : Int32)) &&& (2147483647 : Int64)) + (1 : Int64)) 1 uq_509 gq_533 T533.heap n0 z605 f533_0 hd596 f533_3 f533_4 (by first | assumption | decide | omega) sz596) (hb hby at_156) rfl rfl rfl (lenOf pd11 rfl) (by show 2 * 0 + _ ≤ _; exact Nat.le_of_eq rfl) (by decide) (by decide) (by decide) (by decide) (by decide) ?_
            intro T604 v604 L604 X604 q604
            obtain ⟨rfl, M604, e604⟩ := q604
            have N604 := Fr.app N597 M604
            show Go p e below s _ _ _ T604 (mkF m 159 #[.val (.int x0), .val (.int x1), .val (.int x2), .val (.int x3), .val (.long x4), .second, .val (.int x5), .val (.ref a495), .val (.long ((x4 &&& (2147483647 : Int64)) + (1 : Int64))), .second, .val (.long (((XT.ushrL x4 (32 : Int32)) &&& (2147483647 : Int64)) + (1 : Int64))), .second, .val (.int (x5 &&& (3 : Int32))), .val (.long (fMaxJ x0.toInt64 x1.toInt64)), .second, .val (.int (1 : Int32))] [(.int (fIdl1 gq_533 1 x3.toInt64 (((XT.ushrL x4 (32 : Int32)) &&& (2147483647 : Int64)) + (1 : Int64))))])
            refine go_st (fun _ kq => XS.iload X604.here hx rfl (hb hby at_159) rfl kq) ?_
            show Go p e below s _ _ _ T604 (mkF m 161 #[.val (.int x0), .val (.int x1), .val (.int x2), .val (.int x3), .val (.long x4), .second, .val (.int x5), .val (.ref a495), .val (.long ((x4 &&& (2147483647 : Int64)) + (1 : Int64))), .second, .val (.long (((XT.ushrL x4 (32 : Int32)) &&& (2147483647 : Int64)) + (1 : Int64))), .second, .val (.int (x5 &&& (3 : Int32))), .val (.long (fMaxJ x0.toInt64 x1.toInt64)), .second, .val (.int (1 : Int32))] [(.int (1 : Int32)), (.int (fIdl1 gq_533 1 x3.toInt64 (((XT.ushrL x4 (32 : Int32)) &&& (2147483647 : Int64)) + (1 : Int64))))])
            have hb606 : (fIdl1 gq_533 1 x3.toInt64 (((XT.ushrL x4 (32 : Int32)) &&& (2147483647 : Int64)) + (1 : Int64))) = (1 : Int32) := by exact (own_idl1 p533_1 (own_r32m (own_r32 _) (own_r32 _)) (own_r32 _) (own_rw _)).1 hc600
            refine go_st (fun _ kq => XS.icmpNo X604.here hx rfl (hb hby at_161) rfl (XT.ii_ne_f hb606) kq) ?_
            show Go p e below s _ _ _ T604 (mkF m 164 #[.val (.int x0), .val (.int x1), .val (.int x2), .val (.int x3), .val (.long x4), .second, .val (.int x5), .val (.ref a495), .val (.long ((x4 &&& (2147483647 : Int64)) + (1 : Int64))), .second, .val (.long (((XT.ushrL x4 (32 : Int32)) &&& (2147483647 : Int64)) + (1 : Int64))), .second, .val (.int (x5 &&& (3 : Int32))), .val (.long (fMaxJ x0.toInt64 x1.toInt64)), .second, .val (.int (1 : Int32))] [])
            refine go_st (fun _ kq => XT.iconstV X604.here hx rfl (1 : Int32) (hb hby at_164) (by decide) kq) ?_
            show Go p e below s _ _ _ T604 (mkF m 165 #[.val (.int x0), .val (.int x1), .val (.int x2), .val (.int x3), .val (.long x4), .second, .val (.int x5), .val (.ref a495), .val (.long ((x4 &&& (2147483647 : Int64)) + (1 : Int64))), .second, .val (.long (((XT.ushrL x4 (32 : Int32)) &&& (2147483647 : Int64)) + (1 : Int64))), .second, .val (.int (x5 &&& (3 : Int32))), .val (.long (fMaxJ x0.toInt64 x1.toInt64)), .second, .val (.int (1 : Int32))] [(.int (1 : Int32))])
            refine go_st (fun _ kq => XS.goto X604.here hx rfl (pc0 := 165) (pc' := 169) rfl (hb hby at_165) (by decide) (by decide) kq) ?_
            show Go p e below s _ _ _ T604 (mkF m 169 #[.val (.int x0), .val (.int x1), .val (.int x2), .val (.int x3), .val (.long x4), .second, .val (.int x5), .val (.ref a495), .val (.long ((x4 &&& (2147483647 : Int64)) + (1 : Int64))), .second, .val (.long (((XT.ushrL x4 (32 : Int32)) &&& (2147483647 : Int64)) + (1 : Int64))), .second, .val (.int (x5 &&& (3 : Int32))), .val (.long (fMaxJ x0.toInt64 x1.toInt64)), .second, .val (.int (1 : Int32))] [(.int (1 : Int32))])
            exact go_retB (w := (1 : Int32)) X604 hx hlk hret (hb hby at_169) (by decide) (by decide) (by decide) ⟨rfl, N604⟩
        · refine go_st (fun _ kq => XS.icmpNo X597.here hx rfl (hb hby at_102) rfl (XT.ii_lt_f hc598) kq) ?_
          show Go p e below s _ _ _ T597 (mkF m 105 #[.val (.int x0), .val (.int x1), .val (.int x2), .val (.int x3), .val (.long x4), .second, .val (.int x5), .val (.ref a495), .val (.long ((x4 &&& (2147483647 : Int64)) + (1 : Int64))), .second, .val (.long (((XT.ushrL x4 (32 : Int32)) &&& (2147483647 : Int64)) + (1 : Int64))), .second, .val (.int (x5 &&& (3 : Int32))), .val (.long (fMaxJ x0.toInt64 x1.toInt64)), .second, .unset] [])
          refine go_st (fun _ kq => XS.aload X597.here hx rfl (hb hby at_105) rfl rfl kq) ?_
          show Go p e below s _ _ _ T597 (mkF m 107 #[.val (.int x0), .val (.int x1), .val (.int x2), .val (.int x3), .val (.long x4), .second, .val (.int x5), .val (.ref a495), .val (.long ((x4 &&& (2147483647 : Int64)) + (1 : Int64))), .second, .val (.long (((XT.ushrL x4 (32 : Int32)) &&& (2147483647 : Int64)) + (1 : Int64))), .second, .val (.int (x5 &&& (3 : Int32))), .val (.long (fMaxJ x0.toInt64 x1.toInt64)), .second, .unset] [(.ref a495)])
          refine go_st (fun _ kq => XS.iloadN X597.here hx rfl (hb hby at_107) rfl kq) ?_
          show Go p e below s _ _ _ T597 (mkF m 108 #[.val (.int x0), .val (.int x1), .val (.int x2), .val (.int x3), .val (.long x4), .second, .val (.int x5), .val (.ref a495), .val (.long ((x4 &&& (2147483647 : Int64)) + (1 : Int64))), .second, .val (.long (((XT.ushrL x4 (32 : Int32)) &&& (2147483647 : Int64)) + (1 : Int64))), .second, .val (.int (x5 &&& (3 : Int32))), .val (.long (fMaxJ x0.toInt64 x1.toInt64)), .second, .unset] [(.int x2), (.ref a495)])
          refine go_st (fun _ kq => XT.i2l X597.here hx rfl (hb hby at_108) rfl kq) ?_
          show Go p e below s _ _ _ T597 (mkF m 109 #[.val (.int x0), .val (.int x1), .val (.int x2), .val (.int x3), .val (.long x4), .second, .val (.int x5), .val (.ref a495), .val (.long ((x4 &&& (2147483647 : Int64)) + (1 : Int64))), .second, .val (.long (((XT.ushrL x4 (32 : Int32)) &&& (2147483647 : Int64)) + (1 : Int64))), .second, .val (.int (x5 &&& (3 : Int32))), .val (.long (fMaxJ x0.toInt64 x1.toInt64)), .second, .unset] [(.long x2.toInt64), (.ref a495)])
          refine go_st (fun _ kq => Jvm.Stand.ldc2J X597 hx hown (mvT hZ (hw _ (List.mem_of_getElem? (i := 20) rfl))) rfl (hb hby at_109) kq) ?_
          show Go p e below s _ _ _ T597 (mkF m 112 #[.val (.int x0), .val (.int x1), .val (.int x2), .val (.int x3), .val (.long x4), .second, .val (.int x5), .val (.ref a495), .val (.long ((x4 &&& (2147483647 : Int64)) + (1 : Int64))), .second, .val (.long (((XT.ushrL x4 (32 : Int32)) &&& (2147483647 : Int64)) + (1 : Int64))), .second, .val (.int (x5 &&& (3 : Int32))), .val (.long (fMaxJ x0.toInt64 x1.toInt64)), .second, .unset] [(.long (3 : Int64)), (.long x2.toInt64), (.ref a495)])
          refine go_st (fun _ kq => XT.lload X597.here hx rfl (hb hby at_112) rfl kq) ?_
          show Go p e below s _ _ _ T597 (mkF m 114 #[.val (.int x0), .val (.int x1), .val (.int x2), .val (.int x3), .val (.long x4), .second, .val (.int x5), .val (.ref a495), .val (.long ((x4 &&& (2147483647 : Int64)) + (1 : Int64))), .second, .val (.long (((XT.ushrL x4 (32 : Int32)) &&& (2147483647 : Int64)) + (1 : Int64))), .second, .val (.int (x5 &&& (3 : Int32))), .val (.long (fMaxJ x0.toInt64 x1.toInt64)), .second, .unset] [(.long ((x4 &&& (2147483647 : Int64)) + (1 : Int64))), (.long (3 : Int64)), (.long x2.toInt64), (.ref a495)])
          have z608 : n0 ≤ T533.heap.size := Nat.le_trans z534 K533.1
          refine go_callV X597 hx hZ hml hown (hw _ (List.mem_of_getElem? (i := 21) rfl)) (hw _ (List.mem_of_getElem? (i := 22) rfl)) (notFace_of_selects (args := #[]) (mvT hZ (hw _ (List.mem_of_getElem? (i := 24) rfl)))) (hw _ (List.mem_of_getElem? (i := 24) rfl)) (hw _ (List.mem_of_getElem? (i := 23) rfl)) (hw _ (List.mem_of_getElem? (i := 25) rfl)) (hw _ (List.mem_of_getElem? (i := 2) rfl)) e597 f533_0 (argsL := [(.long x2.toInt64), (.long (3 : Int64)), (.long ((x4 &&& (2147483647 : Int64)) + (1 : Int64)))]) (rest := []) (W := 0) (met_acq1 l Z a0 hw a495 x2.toInt64 ((x4 &&& (2147483647 : Int64)) + (1 : Int64)) 1 uq_509 gq_533 (fMaxJ x0.toInt64 x1.toInt64) T533.heap n0 z608 f533_0 hd596 f533_3 f533_4 (by first | assumption | decide | omega) sz596 ne517 nw_a495 nw_uq_509 p533_1 (own_r32m (own_r32 _) (own_r32 _)) (own_r32 _) (own_rw _)) (hb hby at_114) rfl rfl rfl (lenOf pd12 rfl) (by show 2 * 0 + _ ≤ _; exact Nat.le_of_eq rfl) (by decide) (by decide) (by decide) (by decide) (by decide) ?_
          intro T607 v607 L607 X607 q607
          obtain ⟨jq_607, gq_607, dq_607, rfl, M607, K607, fz607_dq, p607_0, p607_1, f607_0, f607_1, f607_2, f607_3, f607_4⟩ := q607
          have N607 := Fr.app N597 M607
          have c609 : zq < T533.heap.size := Nat.lt_of_lt_of_le c535 K533.1
          have ne610 : zq ≠ dq_607 := Nat.ne_of_lt (Nat.lt_of_lt_of_le c609 fz607_dq)
          have c611 : a495 < T533.heap.size := Nat.lt_of_lt_of_le c537 K533.1
          have ne612 : a495 ≠ dq_607 := Nat.ne_of_lt (Nat.lt_of_lt_of_le c611 fz607_dq)
          have c613 : uq_509 < T533.heap.size := Nat.lt_of_lt_of_le lt_uq_509 K533.1
          have ne614 : uq_509 ≠ dq_607 := Nat.ne_of_lt (Nat.lt_of_lt_of_le c613 fz607_dq)
          have nw_dq_607 : n0 ≤ dq_607 := Nat.le_trans z608 fz607_dq
          have y615 : h0.size ≤ T533.heap.size := Nat.le_trans y540 K533.1
          show Go p e below s _ _ _ T607 (mkF m 117 #[.val (.int x0), .val (.int x1), .val (.int x2), .val (.int x3), .val (.long x4), .second, .val (.int x5), .val (.ref a495), .val (.long ((x4 &&& (2147483647 : Int64)) + (1 : Int64))), .second, .val (.long (((XT.ushrL x4 (32 : Int32)) &&& (2147483647 : Int64)) + (1 : Int64))), .second, .val (.int (x5 &&& (3 : Int32))), .val (.long (fMaxJ x0.toInt64 x1.toInt64)), .second, .unset] [(.ref dq_607)])
          rcases own_le1 p607_0 with hj616 | hj617
          · subst hj616
            have hd618 : Fld Z T607.heap a495 "com/example/aforo/aforo/SlidingLog" "head" "I" (.int (1 : Int32)) := f607_1
            have sz618 : Fld Z T607.heap a495 "com/example/aforo/aforo/SlidingLog" "size" "I" (.int (2 : Int32)) := f607_2
            show Go p e below s _ _ _ T607 (mkF m 117 #[.val (.int x0), .val (.int x1), .val (.int x2), .val (.int x3), .val (.long x4), .second, .val (.int x5), .val (.ref a495), .val (.long ((x4 &&& (2147483647 : Int64)) + (1 : Int64))), .second, .val (.long (((XT.ushrL x4 (32 : Int32)) &&& (2147483647 : Int64)) + (1 : Int64))), .second, .val (.int (x5 &&& (3 : Int32))), .val (.long (fMaxJ x0.toInt64 x1.toInt64)), .second, .unset] [(.ref dq_607)])
            refine go_st (fun _ kq => XT.pop X607.here hx rfl (hb hby at_117) rfl rfl kq) ?_
            show Go p e below s _ _ _ T607 (mkF m 118 #[.val (.int x0), .val (.int x1), .val (.int x2), .val (.int x3), .val (.long x4), .second, .val (.int x5), .val (.ref a495), .val (.long ((x4 &&& (2147483647 : Int64)) + (1 : Int64))), .second, .val (.long (((XT.ushrL x4 (32 : Int32)) &&& (2147483647 : Int64)) + (1 : Int64))), .second, .val (.int (x5 &&& (3 : Int32))), .val (.long (fMaxJ x0.toInt64 x1.toInt64)), .second, .unset] [])
            refine go_st (fun _ kq => XT.lload X607.here hx rfl (hb hby at_118) rfl kq) ?_
            show Go p e below s _ _ _ T607 (mkF m 120 #[.val (.int x0), .val (.int x1), .val (.int x2), .val (.int x3), .val (.long x4), .second, .val (.int x5), .val (.ref a495), .val (.long ((x4 &&& (2147483647 : Int64)) + (1 : Int64))), .second, .val (.long (((XT.ushrL x4 (32 : Int32)) &&& (2147483647 : Int64)) + (1 : Int64))), .second, .val (.int (x5 &&& (3 : Int32))), .val (.long (fMaxJ x0.toInt64 x1.toInt64)), .second, .unset] [(.long (fMaxJ x0.toInt64 x1.toInt64))])
            refine go_st (fun _ kq => XS.iloadN X607.here hx rfl (hb hby at_120) rfl kq) ?_
            show Go p e below s _ _ _ T607 (mkF m 121 #[.val (.int x0), .val (.int x1), .val (.int x2), .val (.int x3), .val (.long x4), .second, .val (.int x5), .val (.ref a495), .val (.long ((x4 &&& (2147483647 : Int64)) + (1 : Int64))), .second, .val (.long (((XT.ushrL x4 (32 : Int32)) &&& (2147483647 : Int64)) + (1 : Int64))), .second, .val (.int (x5 &&& (3 : Int32))), .val (.long (fMaxJ x0.toInt64 x1.toInt64)), .second, .unset] [(.int x2), (.long (fMaxJ x0.toInt64 x1.toInt64))])
            refine go_st (fun _ kq => XT.i2l X607.here hx rfl (hb hby at_121) rfl kq) ?_
            show Go p e below s _ _ _ T607 (mkF m 122 #[.val (.int x0), .val (.int x1), .val (.int x2), .val (.int x3), .val (.long x4), .second, .val (.int x5), .val (.ref a495), .val (.long ((x4 &&& (2147483647 : Int64)) + (1 : Int64))), .second, .val (.long (((XT.ushrL x4 (32 : Int32)) &&& (2147483647 : Int64)) + (1 : Int64))), .second, .val (.int (x5 &&& (3 : Int32))), .val (.long (fMaxJ x0.toInt64 x1.toInt64)), .second, .unset] [(.long x2.toInt64), (.long (fMaxJ x0.toInt64 x1.toInt64))])
            refine go_callS X607 hx hZ hml hown (hw _ (List.mem_of_getElem? (i := 93) rfl)) (hw _ (List.mem_of_getElem? (i := 53) rfl)) (hw _ (List.mem_of_getElem? (i := 38) rfl)) (hw _ (List.mem_of_getElem? (i := 54) rfl)) rfl (argsL := [(.long (fMaxJ x0.toInt64 x1.toInt64)), (.long x2.toInt64)]) (rest := []) (W := 0) (met_10 l Z a0 hw (fMaxJ x0.toInt64 x1.toInt64) x2.toInt64 T607.heap n0) (hb hby at_122) rfl rfl rfl (lenOf pd4 rfl) (by show 2 * 0 + _ ≤ _; exact Nat.le_of_eq rfl) (by decide) (by decide) (by decide) (by decide) (by decide) ?_
            intro T619 v619 L619 X619 q619
            obtain ⟨rfl, M619, e619⟩ := q619
            have N619 := Fr.app N607 M619
            show Go p e below s _ _ _ T619 (mkF m 125 #[.val (.int x0), .val (.int x1), .val (.int x2), .val (.int x3), .val (.long x4), .second, .val (.int x5), .val (.ref a495), .val (.long ((x4 &&& (2147483647 : Int64)) + (1 : Int64))), .second, .val (.long (((XT.ushrL x4 (32 : Int32)) &&& (2147483647 : Int64)) + (1 : Int64))), .second, .val (.int (x5 &&& (3 : Int32))), .val (.long (fMaxJ x0.toInt64 x1.toInt64)), .second, .unset] [(.long (fMaxJ (fMaxJ x0.toInt64 x1.toInt64) x2.toInt64))])
            refine go_st (fun _ kq => XT.lstore X619.here hx rfl (hb hby at_125) rfl (l' := #[.val (.int x0), .val (.int x1), .val (.int x2), .val (.int x3), .val (.long x4), .second, .val (.int x5), .val (.ref a495), .val (.long ((x4 &&& (2147483647 : Int64)) + (1 : Int64))), .second, .val (.long (((XT.ushrL x4 (32 : Int32)) &&& (2147483647 : Int64)) + (1 : Int64))), .second, .val (.int (x5 &&& (3 : Int32))), .val (.long (fMaxJ (fMaxJ x0.toInt64 x1.toInt64) x2.toInt64)), .second, .unset]) rfl kq) ?_
            show Go p e below s _ _ _ T619 (mkF m 127 #[.val (.int x0), .val (.int x1), .val (.int x2), .val (.int x3), .val (.long x4), .second, .val (.int x5), .val (.ref a495), .val (.long ((x4 &&& (2147483647 : Int64)) + (1 : Int64))), .second, .val (.long (((XT.ushrL x4 (32 : Int32)) &&& (2147483647 : Int64)) + (1 : Int64))), .second, .val (.int (x5 &&& (3 : Int32))), .val (.long (fMaxJ (fMaxJ x0.toInt64 x1.toInt64) x2.toInt64)), .second, .unset] [])
            refine go_st (fun _ kq => XS.iload X619.here hx rfl (hb hby at_127) rfl kq) ?_
            show Go p e below s _ _ _ T619 (mkF m 129 #[.val (.int x0), .val (.int x1), .val (.int x2), .val (.int x3), .val (.long x4), .second, .val (.int x5), .val (.ref a495), .val (.long ((x4 &&& (2147483647 : Int64)) + (1 : Int64))), .second, .val (.long (((XT.ushrL x4 (32 : Int32)) &&& (2147483647 : Int64)) + (1 : Int64))), .second, .val (.int (x5 &&& (3 : Int32))), .val (.long (fMaxJ (fMaxJ x0.toInt64 x1.toInt64) x2.toInt64)), .second, .unset] [(.int (x5 &&& (3 : Int32)))])
            have hb620 : ¬ ((x5 &&& (3 : Int32)) = (0 : Int32)) := by exact own_nz1 hc503
            refine go_st (fun _ kq => XS.ifNo X619.here hx rfl (hb hby at_129) rfl (XT.i0_eq_f hb620) kq) ?_
            show Go p e below s _ _ _ T619 (mkF m 132 #[.val (.int x0), .val (.int x1), .val (.int x2), .val (.int x3), .val (.long x4), .second, .val (.int x5), .val (.ref a495), .val (.long ((x4 &&& (2147483647 : Int64)) + (1 : Int64))), .second, .val (.long (((XT.ushrL x4 (32 : Int32)) &&& (2147483647 : Int64)) + (1 : Int64))), .second, .val (.int (x5 &&& (3 : Int32))), .val (.long (fMaxJ (fMaxJ x0.toInt64 x1.toInt64) x2.toInt64)), .second, .unset] [])
            refine go_st (fun _ kq => XT.lload X619.here hx rfl (hb hby at_132) rfl kq) ?_
            show Go p e below s _ _ _ T619 (mkF m 134 #[.val (.int x0), .val (.int x1), .val (.int x2), .val (.int x3), .val (.long x4), .second, .val (.int x5), .val (.ref a495), .val (.long ((x4 &&& (2147483647 : Int64)) + (1 : Int64))), .second, .val (.long (((XT.ushrL x4 (32 : Int32)) &&& (2147483647 : Int64)) + (1 : Int64))), .second, .val (.int (x5 &&& (3 : Int32))), .val (.long (fMaxJ (fMaxJ x0.toInt64 x1.toInt64) x2.toInt64)), .second, .unset] [(.long (fMaxJ (fMaxJ x0.toInt64 x1.toInt64) x2.toInt64))])
            refine go_st (fun _ kq => XT.lload X619.here hx rfl (hb hby at_134) rfl kq) ?_
            show Go p e below s _ _ _ T619 (mkF m 136 #[.val (.int x0), .val (.int x1), .val (.int x2), .val (.int x3), .val (.long x4), .second, .val (.int x5), .val (.ref a495), .val (.long ((x4 &&& (2147483647 : Int64)) + (1 : Int64))), .second, .val (.long (((XT.ushrL x4 (32 : Int32)) &&& (2147483647 : Int64)) + (1 : Int64))), .second, .val (.int (x5 &&& (3 : Int32))), .val (.long (fMaxJ (fMaxJ x0.toInt64 x1.toInt64) x2.toInt64)), .second, .unset] [(.long (((XT.ushrL x4 (32 : Int32)) &&& (2147483647 : Int64)) + (1 : Int64))), (.long (fMaxJ (fMaxJ x0.toInt64 x1.toInt64) x2.toInt64))])
            refine go_st (fun _ kq => XT.ladd X619.here hx rfl (hb hby at_136) rfl kq) ?_
            show Go p e below s _ _ _ T619 (mkF m 137 #[.val (.int x0), .val (.int x1), .val (.int x2), .val (.int x3), .val (.long x4), .second, .val (.int x5), .val (.ref a495), .val (.long ((x4 &&& (2147483647 : Int64)) + (1 : Int64))), .second, .val (.long (((XT.ushrL x4 (32 : Int32)) &&& (2147483647 : Int64)) + (1 : Int64))), .second, .val (.int (x5 &&& (3 : Int32))), .val (.long (fMaxJ (fMaxJ x0.toInt64 x1.toInt64) x2.toInt64)), .second, .unset] [(.long ((fMaxJ (fMaxJ x0.toInt64 x1.toInt64) x2.toInt64) + (((XT.ushrL x4 (32 : Int32)) &&& (2147483647 : Int64)) + (1 : Int64))))])
            refine go_st (fun _ kq => XS.iloadN X619.here hx rfl (hb hby at_137) rfl kq) ?_
            show Go p e below s _ _ _ T619 (mkF m 138 #[.val (.int x0), .val (.int x1), .val (.int x2), .val (.int x3), .val (.long x4), .second, .val (.int x5), .val (.ref a495), .val (.long ((x4 &&& (2147483647 : Int64)) + (1 : Int64))), .second, .val (.long (((XT.ushrL x4 (32 : Int32)) &&& (2147483647 : Int64)) + (1 : Int64))), .second, .val (.int (x5 &&& (3 : Int32))), .val (.long (fMaxJ (fMaxJ x0.toInt64 x1.toInt64) x2.toInt64)), .second, .unset] [(.int x3), (.long ((fMaxJ (fMaxJ x0.toInt64 x1.toInt64) x2.toInt64) + (((XT.ushrL x4 (32 : Int32)) &&& (2147483647 : Int64)) + (1 : Int64))))])
            refine go_st (fun _ kq => XT.i2l X619.here hx rfl (hb hby at_138) rfl kq) ?_
            show Go p e below s _ _ _ T619 (mkF m 139 #[.val (.int x0), .val (.int x1), .val (.int x2), .val (.int x3), .val (.long x4), .second, .val (.int x5), .val (.ref a495), .val (.long ((x4 &&& (2147483647 : Int64)) + (1 : Int64))), .second, .val (.long (((XT.ushrL x4 (32 : Int32)) &&& (2147483647 : Int64)) + (1 : Int64))), .second, .val (.int (x5 &&& (3 : Int32))), .val (.long (fMaxJ (fMaxJ x0.toInt64 x1.toInt64) x2.toInt64)), .second, .unset] [(.long x3.toInt64), (.long ((fMaxJ (fMaxJ x0.toInt64 x1.toInt64) x2.toInt64) + (((XT.ushrL x4 (32 : Int32)) &&& (2147483647 : Int64)) + (1 : Int64))))])
            refine go_st (fun _ kq => XT.lcmp X619.here hx rfl (hb hby at_139) rfl kq) ?_
            show Go p e below s _ _ _ T619 (mkF m 140 #[.val (.int x0), .val (.int x1), .val (.int x2), .val (.int x3), .val (.long x4), .second, .val (.int x5), .val (.ref a495), .val (.long ((x4 &&& (2147483647 : Int64)) + (1 : Int64))), .second, .val (.long (((XT.ushrL x4 (32 : Int32)) &&& (2147483647 : Int64)) + (1 : Int64))), .second, .val (.int (x5 &&& (3 : Int32))), .val (.long (fMaxJ (fMaxJ x0.toInt64 x1.toInt64) x2.toInt64)), .second, .unset] [(.int (XT.cmpL ((fMaxJ (fMaxJ x0.toInt64 x1.toInt64) x2.toInt64) + (((XT.ushrL x4 (32 : Int32)) &&& (2147483647 : Int64)) + (1 : Int64))) x3.toInt64))])
            by_cases hc621 : x3.toInt64 < ((fMaxJ (fMaxJ x0.toInt64 x1.toInt64) x2.toInt64) + (((XT.ushrL x4 (32 : Int32)) &&& (2147483647 : Int64)) + (1 : Int64)))
            · refine go_st (fun _ kq => XS.ifYes X619.here hx rfl (pc0 := 140) (pc' := 147) rfl (hb hby at_140) rfl (XT.ll_gt_t hc621) (by decide) (by decide) kq) ?_
              show Go p e below s _ _ _ T619 (mkF m 147 #[.val (.int x0), .val (.int x1), .val (.int x2), .val (.int x3), .val (.long x4), .second, .val (.int x5), .val (.ref a495), .val (.long ((x4 &&& (2147483647 : Int64)) + (1 : Int64))), .second, .val (.long (((XT.ushrL x4 (32 : Int32)) &&& (2147483647 : Int64)) + (1 : Int64))), .second, .val (.int (x5 &&& (3 : Int32))), .val (.long (fMaxJ (fMaxJ x0.toInt64 x1.toInt64) x2.toInt64)), .second, .unset] [])
              refine go_st (fun _ kq => XT.iconstV X619.here hx rfl (0 : Int32) (hb hby at_147) (by decide) kq) ?_
              show Go p e below s _ _ _ T619 (mkF m 148 #[.val (.int x0), .val (.int x1), .val (.int x2), .val (.int x3), .val (.long x4), .second, .val (.int x5), .val (.ref a495), .val (.long ((x4 &&& (2147483647 : Int64)) + (1 : Int64))), .second, .val (.long (((XT.ushrL x4 (32 : Int32)) &&& (2147483647 : Int64)) + (1 : Int64))), .second, .val (.int (x5 &&& (3 : Int32))), .val (.long (fMaxJ (fMaxJ x0.toInt64 x1.toInt64) x2.toInt64)), .second, .unset] [(.int (0 : Int32))])
              refine go_st (fun _ kq => XS.istore X619.here hx rfl (hb hby at_148) rfl (l' := #[.val (.int x0), .val (.int x1), .val (.int x2), .val (.int x3), .val (.long x4), .second, .val (.int x5), .val (.ref a495), .val (.long ((x4 &&& (2147483647 : Int64)) + (1 : Int64))), .second, .val (.long (((XT.ushrL x4 (32 : Int32)) &&& (2147483647 : Int64)) + (1 : Int64))), .second, .val (.int (x5 &&& (3 : Int32))), .val (.long (fMaxJ (fMaxJ x0.toInt64 x1.toInt64) x2.toInt64)), .second, .val (.int (0 : Int32))]) rfl kq) ?_
              show Go p e below s _ _ _ T619 (mkF m 150 #[.val (.int x0), .val (.int x1), .val (.int x2), .val (.int x3), .val (.long x4), .second, .val (.int x5), .val (.ref a495), .val (.long ((x4 &&& (2147483647 : Int64)) + (1 : Int64))), .second, .val (.long (((XT.ushrL x4 (32 : Int32)) &&& (2147483647 : Int64)) + (1 : Int64))), .second, .val (.int (x5 &&& (3 : Int32))), .val (.long (fMaxJ (fMaxJ x0.toInt64 x1.toInt64) x2.toInt64)), .second, .val (.int (0 : Int32))] [])
              refine go_st (fun _ kq => XS.aload X619.here hx rfl (hb hby at_150) rfl rfl kq) ?_
              show Go p e below s _ _ _ T619 (mkF m 152 #[.val (.int x0), .val (.int x1), .val (.int x2), .val (.int x3), .val (.long x4), .second, .val (.int x5), .val (.ref a495), .val (.long ((x4 &&& (2147483647 : Int64)) + (1 : Int64))), .second, .val (.long (((XT.ushrL x4 (32 : Int32)) &&& (2147483647 : Int64)) + (1 : Int64))), .second, .val (.int (x5 &&& (3 : Int32))), .val (.long (fMaxJ (fMaxJ x0.toInt64 x1.toInt64) x2.toInt64)), .second, .val (.int (0 : Int32))] [(.ref a495)])
              refine go_st (fun _ kq => XS.iloadN X619.here hx rfl (hb hby at_152) rfl kq) ?_
              show Go p e below s _ _ _ T619 (mkF m 153 #[.val (.int x0), .val (.int x1), .val (.int x2), .val (.int x3), .val (.long x4), .second, .val (.int x5), .val (.ref a495), .val (.long ((x4 &&& (2147483647 : Int64)) + (1 : Int64))), .second, .val (.long (((XT.ushrL x4 (32 : Int32)) &&& (2147483647 : Int64)) + (1 : Int64))), .second, .val (.int (x5 &&& (3 : Int32))), .val (.long (fMaxJ (fMaxJ x0.toInt64 x1.toInt64) x2.toInt64)), .second, .val (.int (0 : Int32))] [(.int x3), (.ref a495)])
              refine go_st (fun _ kq => XT.i2l X619.here hx rfl (hb hby at_153) rfl kq) ?_
              show Go p e below s _ _ _ T619 (mkF m 154 #[.val (.int x0), .val (.int x1), .val (.int x2), .val (.int x3), .val (.long x4), .second, .val (.int x5), .val (.ref a495), .val (.long ((x4 &&& (2147483647 : Int64)) + (1 : Int64))), .second, .val (.long (((XT.ushrL x4 (32 : Int32)) &&& (2147483647 : Int64)) + (1 : Int64))), .second, .val (.int (x5 &&& (3 : Int32))), .val (.long (fMaxJ (fMaxJ x0.toInt64 x1.toInt64) x2.toInt64)), .second, .val (.int (0 : Int32))] [(.long x3.toInt64), (.ref a495)])
              refine go_st (fun _ kq => XT.lload X619.here hx rfl (hb hby at_154) rfl kq) ?_
              show Go p e below s _ _ _ T619 (mkF m 156 #[.val (.int x0), .val (.int x1), .val (.int x2), .val (.int x3), .val (.long x4), .second, .val (.int x5), .val (.ref a495), .val (.long ((x4 &&& (2147483647 : Int64)) + (1 : Int64))), .second, .val (.long (((XT.ushrL x4 (32 : Int32)) &&& (2147483647 : Int64)) + (1 : Int64))), .second, .val (.int (x5 &&& (3 : Int32))), .val (.long (fMaxJ (fMaxJ x0.toInt64 x1.toInt64) x2.toInt64)), .second, .val (.int (0 : Int32))] [(.long (((XT.ushrL x4 (32 : Int32)) &&& (2147483647 : Int64)) + (1 : Int64))), (.long x3.toInt64), (.ref a495)])
              have z623 : n0 ≤ T607.heap.size := Nat.le_trans z608 K607.1
              refine go_callV X619 hx hZ hml hown (hw _ (List.mem_of_getElem? (i := 94) rfl)) (hw _ (List.mem_of_getElem? (i := 95) rfl)) (notFace_of_selects (args := #[]) (mvT hZ (hw _ (List.mem_of_getElem? (i := 97) rfl)))) (hw _ (List.mem_of_getElem? (i := 97) rfl)) (hw _ (List.mem_of_getElem? (i := 96) rfl)) (hw _ (List.mem_of_getElem? (i := 98) rfl)) (hw _ (List.mem_of_getElem? (i := 2) rfl)) e619 f607_0 (argsL := [(.long x3.toInt64), (.long (((XT.ushrL x4 (32 : Int32)) &&& (2147483647 : Int64)) + (1 : Int64)))]) (rest := []) (W := 0) (met_idl2 l Z a0 hw a495 x3.toInt64 (((XT.ushrL x4 (32 : Int32)) &&& (2147483647 : Int64)) + (1 : Int64)) 1 uq_509 gq_607 T607.heap n0 z623 f607_0 hd618 f607_3 f607_4 (by first | assumption | decide | omega) sz618) (hb hby at_156) rfl rfl rfl (lenOf pd11 rfl) (by show 2 * 0 + _ ≤ _; exact Nat.le_of_eq rfl) (by decide) (by decide) (by decide) (by decide) (by decide) ?_
              intro T622 v622 L622 X622 q622
              obtain ⟨rfl, M622, e622⟩ := q622
              have N622 := Fr.app N619 M622
              show Go p e below s _ _ _ T622 (mkF m 159 #[.val (.int x0), .val (.int x1), .val (.int x2), .val (.int x3), .val (.long x4), .second, .val (.int x5), .val (.ref a495), .val (.long ((x4 &&& (2147483647 : Int64)) + (1 : Int64))), .second, .val (.long (((XT.ushrL x4 (32 : Int32)) &&& (2147483647 : Int64)) + (1 : Int64))), .second, .val (.int (x5 &&& (3 : Int32))), .val (.long (fMaxJ (fMaxJ x0.toInt64 x1.toInt64) x2.toInt64)), .second, .val (.int (0 : Int32))] [(.int (fIdl2 gq_607 1 x3.toInt64 (((XT.ushrL x4 (32 : Int32)) &&& (2147483647 : Int64)) + (1 : Int64))))])
              refine go_st (fun _ kq => XS.iload X622.here hx rfl (hb hby at_159) rfl kq) ?_
              show Go p e below s _ _ _ T622 (mkF m 161 #[.val (.int x0), .val (.int x1), .val (.int x2), .val (.int x3), .val (.long x4), .second, .val (.int x5), .val (.ref a495), .val (.long ((x4 &&& (2147483647 : Int64)) + (1 : Int64))), .second, .val (.long (((XT.ushrL x4 (32 : Int32)) &&& (2147483647 : Int64)) + (1 : Int64))), .second, .val (.int (x5 &&& (3 : Int32))), .val (.long (fMaxJ (fMaxJ x0.toInt64 x1.toInt64) x2.toInt64)), .second, .val (.int (0 : Int32))] [(.int (0 : Int32)), (.int (fIdl2 gq_607 1 x3.toInt64 (((XT.ushrL x4 (32 : Int32)) &&& (2147483647 : Int64)) + (1 : Int64))))])
              have hb624 : (fIdl2 gq_607 1 x3.toInt64 (((XT.ushrL x4 (32 : Int32)) &&& (2147483647 : Int64)) + (1 : Int64))) = (0 : Int32) := by exact (own_idl2 p607_1 (own_r32m (own_r32m (own_r32 _) (own_r32 _)) (own_r32 _)) (own_r32 _) (own_rw _)).2 hc621
              refine go_st (fun _ kq => XS.icmpNo X622.here hx rfl (hb hby at_161) rfl (XT.ii_ne_f hb624) kq) ?_
              show Go p e below s _ _ _ T622 (mkF m 164 #[.val (.int x0), .val (.int x1), .val (.int x2), .val (.int x3), .val (.long x4), .second, .val (.int x5), .val (.ref a495), .val (.long ((x4 &&& (2147483647 : Int64)) + (1 : Int64))), .second, .val (.long (((XT.ushrL x4 (32 : Int32)) &&& (2147483647 : Int64)) + (1 : Int64))), .second, .val (.int (x5 &&& (3 : Int32))), .val (.long (fMaxJ (fMaxJ x0.toInt64 x1.toInt64) x2.toInt64)), .second, .val (.int (0 : Int32))] [])
              refine go_st (fun _ kq => XT.iconstV X622.here hx rfl (1 : Int32) (hb hby at_164) (by decide) kq) ?_
              show Go p e below s _ _ _ T622 (mkF m 165 #[.val (.int x0), .val (.int x1), .val (.int x2), .val (.int x3), .val (.long x4), .second, .val (.int x5), .val (.ref a495), .val (.long ((x4 &&& (2147483647 : Int64)) + (1 : Int64))), .second, .val (.long (((XT.ushrL x4 (32 : Int32)) &&& (2147483647 : Int64)) + (1 : Int64))), .second, .val (.int (x5 &&& (3 : Int32))), .val (.long (fMaxJ (fMaxJ x0.toInt64 x1.toInt64) x2.toInt64)), .second, .val (.int (0 : Int32))] [(.int (1 : Int32))])
              refine go_st (fun _ kq => XS.goto X622.here hx rfl (pc0 := 165) (pc' := 169) rfl (hb hby at_165) (by decide) (by decide) kq) ?_
              show Go p e below s _ _ _ T622 (mkF m 169 #[.val (.int x0), .val (.int x1), .val (.int x2), .val (.int x3), .val (.long x4), .second, .val (.int x5), .val (.ref a495), .val (.long ((x4 &&& (2147483647 : Int64)) + (1 : Int64))), .second, .val (.long (((XT.ushrL x4 (32 : Int32)) &&& (2147483647 : Int64)) + (1 : Int64))), .second, .val (.int (x5 &&& (3 : Int32))), .val (.long (fMaxJ (fMaxJ x0.toInt64 x1.toInt64) x2.toInt64)), .second, .val (.int (0 : Int32))] [(.int (1 : Int32))])
              exact go_retB (w := (1 : Int32)) X622 hx hlk hret (hb hby at_169) (by decide) (by decide) (by decide) ⟨rfl, N622⟩
            · refine go_st (fun _ kq => XS.ifNo X619.here hx rfl (hb hby at_140) rfl (XT.ll_gt_f hc621) kq) ?_
              show Go p e below s _ _ _ T619 (mkF m 143 #[.val (.int x0), .val (.int x1), .val (.int x2), .val (.int x3), .val (.long x4), .second, .val (.int x5), .val (.ref a495), .val (.long ((x4 &&& (2147483647 : Int64)) + (1 : Int64))), .second, .val (.long (((XT.ushrL x4 (32 : Int32)) &&& (2147483647 : Int64)) + (1 : Int64))), .second, .val (.int (x5 &&& (3 : Int32))), .val (.long (fMaxJ (fMaxJ x0.toInt64 x1.toInt64) x2.toInt64)), .second, .unset] [])
              refine go_st (fun _ kq => XT.iconstV X619.here hx rfl (1 : Int32) (hb hby at_143) (by decide) kq) ?_
              show Go p e below s _ _ _ T619 (mkF m 144 #[.val (.int x0), .val (.int x1), .val (.int x2), .val (.int x3), .val (.long x4), .second, .val (.int x5), .val (.ref a495), .val (.long ((x4 &&& (2147483647 : Int64)) + (1 : Int64))), .second, .val (.long (((XT.ushrL x4 (32 : Int32)) &&& (2147483647 : Int64)) + (1 : Int64))), .second, .val (.int (x5 &&& (3 : Int32))), .val (.long (fMaxJ (fMaxJ x0.toInt64 x1.toInt64) x2.toInt64)), .second, .unset] [(.int (1 : Int32))])
              refine go_st (fun _ kq => XS.goto X619.here hx rfl (pc0 := 144) (pc' := 148) rfl (hb hby at_144) (by decide) (by decide) kq) ?_
              show Go p e below s _ _ _ T619 (mkF m 148 #[.val (.int x0), .val (.int x1), .val (.int x2), .val (.int x3), .val (.long x4), .second, .val (.int x5), .val (.ref a495), .val (.long ((x4 &&& (2147483647 : Int64)) + (1 : Int64))), .second, .val (.long (((XT.ushrL x4 (32 : Int32)) &&& (2147483647 : Int64)) + (1 : Int64))), .second, .val (.int (x5 &&& (3 : Int32))), .val (.long (fMaxJ (fMaxJ x0.toInt64 x1.toInt64) x2.toInt64)), .second, .unset] [(.int (1 : Int32))])
              refine go_st (fun _ kq => XS.istore X619.here hx rfl (hb hby at_148) rfl (l' := #[.val (.int x0), .val (.int x1), .val (.int x2), .val (.int x3), .val (.long x4), .second, .val (.int x5), .val (.ref a495), .val (.long ((x4 &&& (2147483647 : Int64)) + (1 : Int64))), .second, .val (.long (((XT.ushrL x4 (32 : Int32)) &&& (2147483647 : Int64)) + (1 : Int64))), .second, .val (.int (x5 &&& (3 : Int32))), .val (.long (fMaxJ (fMaxJ x0.toInt64 x1.toInt64) x2.toInt64)), .second, .val (.int (1 : Int32))]) rfl kq) ?_
              show Go p e below s _ _ _ T619 (mkF m 150 #[.val (.int x0), .val (.int x1), .val (.int x2), .val (.int x3), .val (.long x4), .second, .val (.int x5), .val (.ref a495), .val (.long ((x4 &&& (2147483647 : Int64)) + (1 : Int64))), .second, .val (.long (((XT.ushrL x4 (32 : Int32)) &&& (2147483647 : Int64)) + (1 : Int64))), .second, .val (.int (x5 &&& (3 : Int32))), .val (.long (fMaxJ (fMaxJ x0.toInt64 x1.toInt64) x2.toInt64)), .second, .val (.int (1 : Int32))] [])
              refine go_st (fun _ kq => XS.aload X619.here hx rfl (hb hby at_150) rfl rfl kq) ?_
              show Go p e below s _ _ _ T619 (mkF m 152 #[.val (.int x0), .val (.int x1), .val (.int x2), .val (.int x3), .val (.long x4), .second, .val (.int x5), .val (.ref a495), .val (.long ((x4 &&& (2147483647 : Int64)) + (1 : Int64))), .second, .val (.long (((XT.ushrL x4 (32 : Int32)) &&& (2147483647 : Int64)) + (1 : Int64))), .second, .val (.int (x5 &&& (3 : Int32))), .val (.long (fMaxJ (fMaxJ x0.toInt64 x1.toInt64) x2.toInt64)), .second, .val (.int (1 : Int32))] [(.ref a495)])
              refine go_st (fun _ kq => XS.iloadN X619.here hx rfl (hb hby at_152) rfl kq) ?_
              show Go p e below s _ _ _ T619 (mkF m 153 #[.val (.int x0), .val (.int x1), .val (.int x2), .val (.int x3), .val (.long x4), .second, .val (.int x5), .val (.ref a495), .val (.long ((x4 &&& (2147483647 : Int64)) + (1 : Int64))), .second, .val (.long (((XT.ushrL x4 (32 : Int32)) &&& (2147483647 : Int64)) + (1 : Int64))), .second, .val (.int (x5 &&& (3 : Int32))), .val (.long (fMaxJ (fMaxJ x0.toInt64 x1.toInt64) x2.toInt64)), .second, .val (.int (1 : Int32))] [(.int x3), (.ref a495)])
              refine go_st (fun _ kq => XT.i2l X619.here hx rfl (hb hby at_153) rfl kq) ?_
              show Go p e below s _ _ _ T619 (mkF m 154 #[.val (.int x0), .val (.int x1), .val (.int x2), .val (.int x3), .val (.long x4), .second, .val (.int x5), .val (.ref a495), .val (.long ((x4 &&& (2147483647 : Int64)) + (1 : Int64))), .second, .val (.long (((XT.ushrL x4 (32 : Int32)) &&& (2147483647 : Int64)) + (1 : Int64))), .second, .val (.int (x5 &&& (3 : Int32))), .val (.long (fMaxJ (fMaxJ x0.toInt64 x1.toInt64) x2.toInt64)), .second, .val (.int (1 : Int32))] [(.long x3.toInt64), (.ref a495)])
              refine go_st (fun _ kq => XT.lload X619.here hx rfl (hb hby at_154) rfl kq) ?_
              show Go p e below s _ _ _ T619 (mkF m 156 #[.val (.int x0), .val (.int x1), .val (.int x2), .val (.int x3), .val (.long x4), .second, .val (.int x5), .val (.ref a495), .val (.long ((x4 &&& (2147483647 : Int64)) + (1 : Int64))), .second, .val (.long (((XT.ushrL x4 (32 : Int32)) &&& (2147483647 : Int64)) + (1 : Int64))), .second, .val (.int (x5 &&& (3 : Int32))), .val (.long (fMaxJ (fMaxJ x0.toInt64 x1.toInt64) x2.toInt64)), .second, .val (.int (1 : Int32))] [(.long (((XT.ushrL x4 (32 : Int32)) &&& (2147483647 : Int64)) + (1 : Int64))), (.long x3.toInt64), (.ref a495)])
              have z626 : n0 ≤ T607.heap.size := Nat.le_trans z608 K607.1
              refine go_callV X619 hx hZ hml hown (hw _ (List.mem_of_getElem? (i := 94) rfl)) (hw _ (List.mem_of_getElem? (i := 95) rfl)) (notFace_of_selects (args := #[]) (mvT hZ (hw _ (List.mem_of_getElem? (i := 97) rfl)))) (hw _ (List.mem_of_getElem? (i := 97) rfl)) (hw _ (List.mem_of_getElem? (i := 96) rfl)) (hw _ (List.mem_of_getElem? (i := 98) rfl)) (hw _ (List.mem_of_getElem? (i := 2) rfl)) e619 f607_0 (argsL := [(.long x3.toInt64), (.long (((XT.ushrL x4 (32 : Int32)) &&& (2147483647 : Int64)) + (1 : Int64)))]) (rest := []) (W := 0) (met_idl2 l Z a0 hw a495 x3.toInt64 (((XT.ushrL x4 (32 : Int32)) &&& (2147483647 : Int64)) + (1 : Int64)) 1 uq_509 gq_607 T607.heap n0 z626 f607_0 hd618 f607_3 f607_4 (by first | assumption | decide | omega) sz618) (hb hby at_156) rfl rfl rfl (lenOf pd11 rfl) (by show 2 * 0 + _ ≤ _; exact Nat.le_of_eq rfl) (by decide) (by decide) (by decide) (by decide) (by decide) ?_
              intro T625 v625 L625 X625 q625
              obtain ⟨rfl, M625, e625⟩ := q625
              have N625 := Fr.app N619 M625
              show Go p e below s _ _ _ T625 (mkF m 159 #[.val (.int x0), .val (.int x1), .val (.int x2), .val (.int x3), .val (.long x4), .second, .val (.int x5), .val (.ref a495), .val (.long ((x4 &&& (2147483647 : Int64)) + (1 : Int64))), .second, .val (.long (((XT.ushrL x4 (32 : Int32)) &&& (2147483647 : Int64)) + (1 : Int64))), .second, .val (.int (x5 &&& (3 : Int32))), .val (.long (fMaxJ (fMaxJ x0.toInt64 x1.toInt64) x2.toInt64)), .second, .val (.int (1 : Int32))] [(.int (fIdl2 gq_607 1 x3.toInt64 (((XT.ushrL x4 (32 : Int32)) &&& (2147483647 : Int64)) + (1 : Int64))))])
              refine go_st (fun _ kq => XS.iload X625.here hx rfl (hb hby at_159) rfl kq) ?_
              show Go p e below s _ _ _ T625 (mkF m 161 #[.val (.int x0), .val (.int x1), .val (.int x2), .val (.int x3), .val (.long x4), .second, .val (.int x5), .val (.ref a495), .val (.long ((x4 &&& (2147483647 : Int64)) + (1 : Int64))), .second, .val (.long (((XT.ushrL x4 (32 : Int32)) &&& (2147483647 : Int64)) + (1 : Int64))), .second, .val (.int (x5 &&& (3 : Int32))), .val (.long (fMaxJ (fMaxJ x0.toInt64 x1.toInt64) x2.toInt64)), .second, .val (.int (1 : Int32))] [(.int (1 : Int32)), (.int (fIdl2 gq_607 1 x3.toInt64 (((XT.ushrL x4 (32 : Int32)) &&& (2147483647 : Int64)) + (1 : Int64))))])
              have hb627 : (fIdl2 gq_607 1 x3.toInt64 (((XT.ushrL x4 (32 : Int32)) &&& (2147483647 : Int64)) + (1 : Int64))) = (1 : Int32) := by exact (own_idl2 p607_1 (own_r32m (own_r32m (own_r32 _) (own_r32 _)) (own_r32 _)) (own_r32 _) (own_rw _)).1 hc621
              refine go_st (fun _ kq => XS.icmpNo X625.here hx rfl (hb hby at_161) rfl (XT.ii_ne_f hb627) kq) ?_
              show Go p e below s _ _ _ T625 (mkF m 164 #[.val (.int x0), .val (.int x1), .val (.int x2), .val (.int x3), .val (.long x4), .second, .val (.int x5), .val (.ref a495), .val (.long ((x4 &&& (2147483647 : Int64)) + (1 : Int64))), .second, .val (.long (((XT.ushrL x4 (32 : Int32)) &&& (2147483647 : Int64)) + (1 : Int64))), .second, .val (.int (x5 &&& (3 : Int32))), .val (.long (fMaxJ (fMaxJ x0.toInt64 x1.toInt64) x2.toInt64)), .second, .val (.int (1 : Int32))] [])
              refine go_st (fun _ kq => XT.iconstV X625.here hx rfl (1 : Int32) (hb hby at_164) (by decide) kq) ?_
              show Go p e below s _ _ _ T625 (mkF m 165 #[.val (.int x0), .val (.int x1), .val (.int x2), .val (.int x3), .val (.long x4), .second, .val (.int x5), .val (.ref a495), .val (.long ((x4 &&& (2147483647 : Int64)) + (1 : Int64))), .second, .val (.long (((XT.ushrL x4 (32 : Int32)) &&& (2147483647 : Int64)) + (1 : Int64))), .second, .val (.int (x5 &&& (3 : Int32))), .val (.long (fMaxJ (fMaxJ x0.toInt64 x1.toInt64) x2.toInt64)), .second, .val (.int (1 : Int32))] [(.int (1 : Int32))])
              refine go_st (fun _ kq => XS.goto X625.here hx rfl (pc0 := 165) (pc' := 169) rfl (hb hby at_165) (by decide) (by decide) kq) ?_
              show Go p e below s _ _ _ T625 (mkF m 169 #[.val (.int x0), .val (.int x1), .val (.int x2), .val (.int x3), .val (.long x4), .second, .val (.int x5), .val (.ref a495), .val (.long ((x4 &&& (2147483647 : Int64)) + (1 : Int64))), .second, .val (.long (((XT.ushrL x4 (32 : Int32)) &&& (2147483647 : Int64)) + (1 : Int64))), .second, .val (.int (x5 &&& (3 : Int32))), .val (.long (fMaxJ (fMaxJ x0.toInt64 x1.toInt64) x2.toInt64)), .second, .val (.int (1 : Int32))] [(.int (1 : Int32))])
              exact go_retB (w := (1 : Int32)) X625 hx hlk hret (hb hby at_169) (by decide) (by decide) (by decide) ⟨rfl, N625⟩
          · subst hj617
            have hd628 : Fld Z T607.heap a495 "com/example/aforo/aforo/SlidingLog" "head" "I" (.int (2 : Int32)) := f607_1
            have sz628 : Fld Z T607.heap a495 "com/example/aforo/aforo/SlidingLog" "size" "I" (.int (1 : Int32)) := f607_2
            show Go p e below s _ _ _ T607 (mkF m 117 #[.val (.int x0), .val (.int x1), .val (.int x2), .val (.int x3), .val (.long x4), .second, .val (.int x5), .val (.ref a495), .val (.long ((x4 &&& (2147483647 : Int64)) + (1 : Int64))), .second, .val (.long (((XT.ushrL x4 (32 : Int32)) &&& (2147483647 : Int64)) + (1 : Int64))), .second, .val (.int (x5 &&& (3 : Int32))), .val (.long (fMaxJ x0.toInt64 x1.toInt64)), .second, .unset] [(.ref dq_607)])
            refine go_st (fun _ kq => XT.pop X607.here hx rfl (hb hby at_117) rfl rfl kq) ?_
            show Go p e below s _ _ _ T607 (mkF m 118 #[.val (.int x0), .val (.int x1), .val (.int x2), .val (.int x3), .val (.long x4), .second, .val (.int x5), .val (.ref a495), .val (.long ((x4 &&& (2147483647 : Int64)) + (1 : Int64))), .second, .val (.long (((XT.ushrL x4 (32 : Int32)) &&& (2147483647 : Int64)) + (1 : Int64))), .second, .val (.int (x5 &&& (3 : Int32))), .val (.long (fMaxJ x0.toInt64 x1.toInt64)), .second, .unset] [])
            refine go_st (fun _ kq => XT.lload X607.here hx rfl (hb hby at_118) rfl kq) ?_
            show Go p e below s _ _ _ T607 (mkF m 120 #[.val (.int x0), .val (.int x1), .val (.int x2), .val (.int x3), .val (.long x4), .second, .val (.int x5), .val (.ref a495), .val (.long ((x4 &&& (2147483647 : Int64)) + (1 : Int64))), .second, .val (.long (((XT.ushrL x4 (32 : Int32)) &&& (2147483647 : Int64)) + (1 : Int64))), .second, .val (.int (x5 &&& (3 : Int32))), .val (.long (fMaxJ x0.toInt64 x1.toInt64)), .second, .unset] [(.long (fMaxJ x0.toInt64 x1.toInt64))])
            refine go_st (fun _ kq => XS.iloadN X607.here hx rfl (hb hby at_120) rfl kq) ?_
            show Go p e below s _ _ _ T607 (mkF m 121 #[.val (.int x0), .val (.int x1), .val (.int x2), .val (.int x3), .val (.long x4), .second, .val (.int x5), .val (.ref a495), .val (.long ((x4 &&& (2147483647 : Int64)) + (1 : Int64))), .second, .val (.long (((XT.ushrL x4 (32 : Int32)) &&& (2147483647 : Int64)) + (1 : Int64))), .second, .val (.int (x5 &&& (3 : Int32))), .val (.long (fMaxJ x0.toInt64 x1.toInt64)), .second, .unset] [(.int x2), (.long (fMaxJ x0.toInt64 x1.toInt64))])
            refine go_st (fun _ kq => XT.i2l X607.here hx rfl (hb hby at_121) rfl kq) ?_
            show Go p e below s _ _ _ T607 (mkF m 122 #[.val (.int x0), .val (.int x1), .val (.int x2), .val (.int x3), .val (.long x4), .second, .val (.int x5), .val (.ref a495), .val (.long ((x4 &&& (2147483647 : Int64)) + (1 : Int64))), .second, .val (.long (((XT.ushrL x4 (32 : Int32)) &&& (2147483647 : Int64)) + (1 : Int64))), .second, .val (.int (x5 &&& (3 : Int32))), .val (.long (fMaxJ x0.toInt64 x1.toInt64)), .second, .unset] [(.long x2.toInt64), (.long (fMaxJ x0.toInt64 x1.toInt64))])
            refine go_callS X607 hx hZ hml hown (hw _ (List.mem_of_getElem? (i := 93) rfl)) (hw _ (List.mem_of_getElem? (i := 53) rfl)) (hw _ (List.mem_of_getElem? (i := 38) rfl)) (hw _ (List.mem_of_getElem? (i := 54) rfl)) rfl (argsL := [(.long (fMaxJ x0.toInt64 x1.toInt64)), (.long x2.toInt64)]) (rest := []) (W := 0) (met_10 l Z a0 hw (fMaxJ x0.toInt64 x1.toInt64) x2.toInt64 T607.heap n0) (hb hby at_122) rfl rfl rfl (lenOf pd4 rfl) (by show 2 * 0 + _ ≤ _; exact Nat.le_of_eq rfl) (by decide) (by decide) (by decide) (by decide) (by decide) ?_
            intro T629 v629 L629 X629 q629
            obtain ⟨rfl, M629, e629⟩ := q629
            have N629 := Fr.app N607 M629
            show Go p e below s _ _ _ T629 (mkF m 125 #[.val (.int x0), .val (.int x1), .val (.int x2), .val (.int x3), .val (.long x4), .second, .val (.int x5), .val (.ref a495), .val (.long ((x4 &&& (2147483647 : Int64)) + (1 : Int64))), .second, .val (.long (((XT.ushrL x4 (32 : Int32)) &&& (2147483647 : Int64)) + (1 : Int64))), .second, .val (.int (x5 &&& (3 : Int32))), .val (.long (fMaxJ x0.toInt64 x1.toInt64)), .second, .unset] [(.long (fMaxJ (fMaxJ x0.toInt64 x1.toInt64) x2.toInt64))])
            refine go_st (fun _ kq => XT.lstore X629.here hx rfl (hb hby at_125) rfl (l' := #[.val (.int x0), .val (.int x1), .val (.int x2), .val (.int x3), .val (.long x4), .second, .val (.int x5), .val (.ref a495), .val (.long ((x4 &&& (2147483647 : Int64)) + (1 : Int64))), .second, .val (.long (((XT.ushrL x4 (32 : Int32)) &&& (2147483647 : Int64)) + (1 : Int64))), .second, .val (.int (x5 &&& (3 : Int32))), .val (.long (fMaxJ (fMaxJ x0.toInt64 x1.toInt64) x2.toInt64)), .second, .unset]) rfl kq) ?_
            show Go p e below s _ _ _ T629 (mkF m 127 #[.val (.int x0), .val (.int x1), .val (.int x2), .val (.int x3), .val (.long x4), .second, .val (.int x5), .val (.ref a495), .val (.long ((x4 &&& (2147483647 : Int64)) + (1 : Int64))), .second, .val (.long (((XT.ushrL x4 (32 : Int32)) &&& (2147483647 : Int64)) + (1 : Int64))), .second, .val (.int (x5 &&& (3 : Int32))), .val (.long (fMaxJ (fMaxJ x0.toInt64 x1.toInt64) x2.toInt64)), .second, .unset] [])
            refine go_st (fun _ kq => XS.iload X629.here hx rfl (hb hby at_127) rfl kq) ?_
            show Go p e below s _ _ _ T629 (mkF m 129 #[.val (.int x0), .val (.int x1), .val (.int x2), .val (.int x3), .val (.long x4), .second, .val (.int x5), .val (.ref a495), .val (.long ((x4 &&& (2147483647 : Int64)) + (1 : Int64))), .second, .val (.long (((XT.ushrL x4 (32 : Int32)) &&& (2147483647 : Int64)) + (1 : Int64))), .second, .val (.int (x5 &&& (3 : Int32))), .val (.long (fMaxJ (fMaxJ x0.toInt64 x1.toInt64) x2.toInt64)), .second, .unset] [(.int (x5 &&& (3 : Int32)))])
            have hb630 : ¬ ((x5 &&& (3 : Int32)) = (0 : Int32)) := by exact own_nz1 hc503
            refine go_st (fun _ kq => XS.ifNo X629.here hx rfl (hb hby at_129) rfl (XT.i0_eq_f hb630) kq) ?_
            show Go p e below s _ _ _ T629 (mkF m 132 #[.val (.int x0), .val (.int x1), .val (.int x2), .val (.int x3), .val (.long x4), .second, .val (.int x5), .val (.ref a495), .val (.long ((x4 &&& (2147483647 : Int64)) + (1 : Int64))), .second, .val (.long (((XT.ushrL x4 (32 : Int32)) &&& (2147483647 : Int64)) + (1 : Int64))), .second, .val (.int (x5 &&& (3 : Int32))), .val (.long (fMaxJ (fMaxJ x0.toInt64 x1.toInt64) x2.toInt64)), .second, .unset] [])
            refine go_st (fun _ kq => XT.lload X629.here hx rfl (hb hby at_132) rfl kq) ?_
            show Go p e below s _ _ _ T629 (mkF m 134 #[.val (.int x0), .val (.int x1), .val (.int x2), .val (.int x3), .val (.long x4), .second, .val (.int x5), .val (.ref a495), .val (.long ((x4 &&& (2147483647 : Int64)) + (1 : Int64))), .second, .val (.long (((XT.ushrL x4 (32 : Int32)) &&& (2147483647 : Int64)) + (1 : Int64))), .second, .val (.int (x5 &&& (3 : Int32))), .val (.long (fMaxJ (fMaxJ x0.toInt64 x1.toInt64) x2.toInt64)), .second, .unset] [(.long (fMaxJ (fMaxJ x0.toInt64 x1.toInt64) x2.toInt64))])
            refine go_st (fun _ kq => XT.lload X629.here hx rfl (hb hby at_134) rfl kq) ?_
            show Go p e below s _ _ _ T629 (mkF m 136 #[.val (.int x0), .val (.int x1), .val (.int x2), .val (.int x3), .val (.long x4), .second, .val (.int x5), .val (.ref a495), .val (.long ((x4 &&& (2147483647 : Int64)) + (1 : Int64))), .second, .val (.long (((XT.ushrL x4 (32 : Int32)) &&& (2147483647 : Int64)) + (1 : Int64))), .second, .val (.int (x5 &&& (3 : Int32))), .val (.long (fMaxJ (fMaxJ x0.toInt64 x1.toInt64) x2.toInt64)), .second, .unset] [(.long (((XT.ushrL x4 (32 : Int32)) &&& (2147483647 : Int64)) + (1 : Int64))), (.long (fMaxJ (fMaxJ x0.toInt64 x1.toInt64) x2.toInt64))])
            refine go_st (fun _ kq => XT.ladd X629.here hx rfl (hb hby at_136) rfl kq) ?_
            show Go p e below s _ _ _ T629 (mkF m 137 #[.val (.int x0), .val (.int x1), .val (.int x2), .val (.int x3), .val (.long x4), .second, .val (.int x5), .val (.ref a495), .val (.long ((x4 &&& (2147483647 : Int64)) + (1 : Int64))), .second, .val (.long (((XT.ushrL x4 (32 : Int32)) &&& (2147483647 : Int64)) + (1 : Int64))), .second, .val (.int (x5 &&& (3 : Int32))), .val (.long (fMaxJ (fMaxJ x0.toInt64 x1.toInt64) x2.toInt64)), .second, .unset] [(.long ((fMaxJ (fMaxJ x0.toInt64 x1.toInt64) x2.toInt64) + (((XT.ushrL x4 (32 : Int32)) &&& (2147483647 : Int64)) + (1 : Int64))))])
            refine go_st (fun _ kq => XS.iloadN X629.here hx rfl (hb hby at_137) rfl kq) ?_
            show Go p e below s _ _ _ T629 (mkF m 138 #[.val (.int x0), .val (.int x1), .val (.int x2), .val (.int x3), .val (.long x4), .second, .val (.int x5), .val (.ref a495), .val (.long ((x4 &&& (2147483647 : Int64)) + (1 : Int64))), .second, .val (.long (((XT.ushrL x4 (32 : Int32)) &&& (2147483647 : Int64)) + (1 : Int64))), .second, .val (.int (x5 &&& (3 : Int32))), .val (.long (fMaxJ (fMaxJ x0.toInt64 x1.toInt64) x2.toInt64)), .second, .unset] [(.int x3), (.long ((fMaxJ (fMaxJ x0.toInt64 x1.toInt64) x2.toInt64) + (((XT.ushrL x4 (32 : Int32)) &&& (2147483647 : Int64)) + (1 : Int64))))])
            refine go_st (fun _ kq => XT.i2l X629.here hx rfl (hb hby at_138) rfl kq) ?_
            show Go p e below s _ _ _ T629 (mkF m 139 #[.val (.int x0), .val (.int x1), .val (.int x2), .val (.int x3), .val (.long x4), .second, .val (.int x5), .val (.ref a495), .val (.long ((x4 &&& (2147483647 : Int64)) + (1 : Int64))), .second, .val (.long (((XT.ushrL x4 (32 : Int32)) &&& (2147483647 : Int64)) + (1 : Int64))), .second, .val (.int (x5 &&& (3 : Int32))), .val (.long (fMaxJ (fMaxJ x0.toInt64 x1.toInt64) x2.toInt64)), .second, .unset] [(.long x3.toInt64), (.long ((fMaxJ (fMaxJ x0.toInt64 x1.toInt64) x2.toInt64) + (((XT.ushrL x4 (32 : Int32)) &&& (2147483647 : Int64)) + (1 : Int64))))])
            refine go_st (fun _ kq => XT.lcmp X629.here hx rfl (hb hby at_139) rfl kq) ?_
            show Go p e below s _ _ _ T629 (mkF m 140 #[.val (.int x0), .val (.int x1), .val (.int x2), .val (.int x3), .val (.long x4), .second, .val (.int x5), .val (.ref a495), .val (.long ((x4 &&& (2147483647 : Int64)) + (1 : Int64))), .second, .val (.long (((XT.ushrL x4 (32 : Int32)) &&& (2147483647 : Int64)) + (1 : Int64))), .second, .val (.int (x5 &&& (3 : Int32))), .val (.long (fMaxJ (fMaxJ x0.toInt64 x1.toInt64) x2.toInt64)), .second, .unset] [(.int (XT.cmpL ((fMaxJ (fMaxJ x0.toInt64 x1.toInt64) x2.toInt64) + (((XT.ushrL x4 (32 : Int32)) &&& (2147483647 : Int64)) + (1 : Int64))) x3.toInt64))])
            by_cases hc631 : x3.toInt64 < ((fMaxJ (fMaxJ x0.toInt64 x1.toInt64) x2.toInt64) + (((XT.ushrL x4 (32 : Int32)) &&& (2147483647 : Int64)) + (1 : Int64)))
            · refine go_st (fun _ kq => XS.ifYes X629.here hx rfl (pc0 := 140) (pc' := 147) rfl (hb hby at_140) rfl (XT.ll_gt_t hc631) (by decide) (by decide) kq) ?_
              show Go p e below s _ _ _ T629 (mkF m 147 #[.val (.int x0), .val (.int x1), .val (.int x2), .val (.int x3), .val (.long x4), .second, .val (.int x5), .val (.ref a495), .val (.long ((x4 &&& (2147483647 : Int64)) + (1 : Int64))), .second, .val (.long (((XT.ushrL x4 (32 : Int32)) &&& (2147483647 : Int64)) + (1 : Int64))), .second, .val (.int (x5 &&& (3 : Int32))), .val (.long (fMaxJ (fMaxJ x0.toInt64 x1.toInt64) x2.toInt64)), .second, .unset] [])
              refine go_st (fun _ kq => XT.iconstV X629.here hx rfl (0 : Int32) (hb hby at_147) (by decide) kq) ?_
              show Go p e below s _ _ _ T629 (mkF m 148 #[.val (.int x0), .val (.int x1), .val (.int x2), .val (.int x3), .val (.long x4), .second, .val (.int x5), .val (.ref a495), .val (.long ((x4 &&& (2147483647 : Int64)) + (1 : Int64))), .second, .val (.long (((XT.ushrL x4 (32 : Int32)) &&& (2147483647 : Int64)) + (1 : Int64))), .second, .val (.int (x5 &&& (3 : Int32))), .val (.long (fMaxJ (fMaxJ x0.toInt64 x1.toInt64) x2.toInt64)), .second, .unset] [(.int (0 : Int32))])
              refine go_st (fun _ kq => XS.istore X629.here hx rfl (hb hby at_148) rfl (l' := #[.val (.int x0), .val (.int x1), .val (.int x2), .val (.int x3), .val (.long x4), .second, .val (.int x5), .val (.ref a495), .val (.long ((x4 &&& (2147483647 : Int64)) + (1 : Int64))), .second, .val (.long (((XT.ushrL x4 (32 : Int32)) &&& (2147483647 : Int64)) + (1 : Int64))), .second, .val (.int (x5 &&& (3 : Int32))), .val (.long (fMaxJ (fMaxJ x0.toInt64 x1.toInt64) x2.toInt64)), .second, .val (.int (0 : Int32))]) rfl kq) ?_
              show Go p e below s _ _ _ T629 (mkF m 150 #[.val (.int x0), .val (.int x1), .val (.int x2), .val (.int x3), .val (.long x4), .second, .val (.int x5), .val (.ref a495), .val (.long ((x4 &&& (2147483647 : Int64)) + (1 : Int64))), .second, .val (.long (((XT.ushrL x4 (32 : Int32)) &&& (2147483647 : Int64)) + (1 : Int64))), .second, .val (.int (x5 &&& (3 : Int32))), .val (.long (fMaxJ (fMaxJ x0.toInt64 x1.toInt64) x2.toInt64)), .second, .val (.int (0 : Int32))] [])
              refine go_st (fun _ kq => XS.aload X629.here hx rfl (hb hby at_150) rfl rfl kq) ?_
              show Go p e below s _ _ _ T629 (mkF m 152 #[.val (.int x0), .val (.int x1), .val (.int x2), .val (.int x3), .val (.long x4), .second, .val (.int x5), .val (.ref a495), .val (.long ((x4 &&& (2147483647 : Int64)) + (1 : Int64))), .second, .val (.long (((XT.ushrL x4 (32 : Int32)) &&& (2147483647 : Int64)) + (1 : Int64))), .second, .val (.int (x5 &&& (3 : Int32))), .val (.long (fMaxJ (fMaxJ x0.toInt64 x1.toInt64) x2.toInt64)), .second, .val (.int (0 : Int32))] [(.ref a495)])
              refine go_st (fun _ kq => XS.iloadN X629.here hx rfl (hb hby at_152) rfl kq) ?_
              show Go p e below s _ _ _ T629 (mkF m 153 #[.val (.int x0), .val (.int x1), .val (.int x2), .val (.int x3), .val (.long x4), .second, .val (.int x5), .val (.ref a495), .val (.long ((x4 &&& (2147483647 : Int64)) + (1 : Int64))), .second, .val (.long (((XT.ushrL x4 (32 : Int32)) &&& (2147483647 : Int64)) + (1 : Int64))), .second, .val (.int (x5 &&& (3 : Int32))), .val (.long (fMaxJ (fMaxJ x0.toInt64 x1.toInt64) x2.toInt64)), .second, .val (.int (0 : Int32))] [(.int x3), (.ref a495)])
              refine go_st (fun _ kq => XT.i2l X629.here hx rfl (hb hby at_153) rfl kq) ?_
              show Go p e below s _ _ _ T629 (mkF m 154 #[.val (.int x0), .val (.int x1), .val (.int x2), .val (.int x3), .val (.long x4), .second, .val (.int x5), .val (.ref a495), .val (.long ((x4 &&& (2147483647 : Int64)) + (1 : Int64))), .second, .val (.long (((XT.ushrL x4 (32 : Int32)) &&& (2147483647 : Int64)) + (1 : Int64))), .second, .val (.int (x5 &&& (3 : Int32))), .val (.long (fMaxJ (fMaxJ x0.toInt64 x1.toInt64) x2.toInt64)), .second, .val (.int (0 : Int32))] [(.long x3.toInt64), (.ref a495)])
              refine go_st (fun _ kq => XT.lload X629.here hx rfl (hb hby at_154) rfl kq) ?_
              show Go p e below s _ _ _ T629 (mkF m 156 #[.val (.int x0), .val (.int x1), .val (.int x2), .val (.int x3), .val (.long x4), .second, .val (.int x5), .val (.ref a495), .val (.long ((x4 &&& (2147483647 : Int64)) + (1 : Int64))), .second, .val (.long (((XT.ushrL x4 (32 : Int32)) &&& (2147483647 : Int64)) + (1 : Int64))), .second, .val (.int (x5 &&& (3 : Int32))), .val (.long (fMaxJ (fMaxJ x0.toInt64 x1.toInt64) x2.toInt64)), .second, .val (.int (0 : Int32))] [(.long (((XT.ushrL x4 (32 : Int32)) &&& (2147483647 : Int64)) + (1 : Int64))), (.long x3.toInt64), (.ref a495)])
              have z633 : n0 ≤ T607.heap.size := Nat.le_trans z608 K607.1
              refine go_callV X629 hx hZ hml hown (hw _ (List.mem_of_getElem? (i := 94) rfl)) (hw _ (List.mem_of_getElem? (i := 95) rfl)) (notFace_of_selects (args := #[]) (mvT hZ (hw _ (List.mem_of_getElem? (i := 97) rfl)))) (hw _ (List.mem_of_getElem? (i := 97) rfl)) (hw _ (List.mem_of_getElem? (i := 96) rfl)) (hw _ (List.mem_of_getElem? (i := 98) rfl)) (hw _ (List.mem_of_getElem? (i := 2) rfl)) e629 f607_0 (argsL := [(.long x3.toInt64), (.long (((XT.ushrL x4 (32 : Int32)) &&& (2147483647 : Int64)) + (1 : Int64)))]) (rest := []) (W := 0) (met_idl1 l Z a0 hw a495 x3.toInt64 (((XT.ushrL x4 (32 : Int32)) &&& (2147483647 : Int64)) + (1 : Int64)) 2 uq_509 gq_607 T607.heap n0 z633 f607_0 hd628 f607_3 f607_4 (by first | assumption | decide | omega) sz628) (hb hby at_156) rfl rfl rfl (lenOf pd11 rfl) (by show 2 * 0 + _ ≤ _; exact Nat.le_of_eq rfl) (by decide) (by decide) (by decide) (by decide) (by decide) ?_
              intro T632 v632 L632 X632 q632
              obtain ⟨rfl, M632, e632⟩ := q632
              have N632 := Fr.app N629 M632
              show Go p e below s _ _ _ T632 (mkF m 159 #[.val (.int x0), .val (.int x1), .val (.int x2), .val (.int x3), .val (.long x4), .second, .val (.int x5), .val (.ref a495), .val (.long ((x4 &&& (2147483647 : Int64)) + (1 : Int64))), .second, .val (.long (((XT.ushrL x4 (32 : Int32)) &&& (2147483647 : Int64)) + (1 : Int64))), .second, .val (.int (x5 &&& (3 : Int32))), .val (.long (fMaxJ (fMaxJ x0.toInt64 x1.toInt64) x2.toInt64)), .second, .val (.int (0 : Int32))] [(.int (fIdl1 gq_607 2 x3.toInt64 (((XT.ushrL x4 (32 : Int32)) &&& (2147483647 : Int64)) + (1 : Int64))))])
              refine go_st (fun _ kq => XS.iload X632.here hx rfl (hb hby at_159) rfl kq) ?_
              show Go p e below s _ _ _ T632 (mkF m 161 #[.val (.int x0), .val (.int x1), .val (.int x2), .val (.int x3), .val (.long x4), .second, .val (.int x5), .val (.ref a495), .val (.long ((x4 &&& (2147483647 : Int64)) + (1 : Int64))), .second, .val (.long (((XT.ushrL x4 (32 : Int32)) &&& (2147483647 : Int64)) + (1 : Int64))), .second, .val (.int (x5 &&& (3 : Int32))), .val (.long (fMaxJ (fMaxJ x0.toInt64 x1.toInt64) x2.toInt64)), .second, .val (.int (0 : Int32))] [(.int (0 : Int32)), (.int (fIdl1 gq_607 2 x3.toInt64 (((XT.ushrL x4 (32 : Int32)) &&& (2147483647 : Int64)) + (1 : Int64))))])
              have hb634 : (fIdl1 gq_607 2 x3.toInt64 (((XT.ushrL x4 (32 : Int32)) &&& (2147483647 : Int64)) + (1 : Int64))) = (0 : Int32) := by exact (own_idl1 p607_1 (own_r32m (own_r32m (own_r32 _) (own_r32 _)) (own_r32 _)) (own_r32 _) (own_rw _)).2 hc631
              refine go_st (fun _ kq => XS.icmpNo X632.here hx rfl (hb hby at_161) rfl (XT.ii_ne_f hb634) kq) ?_
              show Go p e below s _ _ _ T632 (mkF m 164 #[.val (.int x0), .val (.int x1), .val (.int x2), .val (.int x3), .val (.long x4), .second, .val (.int x5), .val (.ref a495), .val (.long ((x4 &&& (2147483647 : Int64)) + (1 : Int64))), .second, .val (.long (((XT.ushrL x4 (32 : Int32)) &&& (2147483647 : Int64)) + (1 : Int64))), .second, .val (.int (x5 &&& (3 : Int32))), .val (.long (fMaxJ (fMaxJ x0.toInt64 x1.toInt64) x2.toInt64)), .second, .val (.int (0 : Int32))] [])
              refine go_st (fun _ kq => XT.iconstV X632.here hx rfl (1 : Int32) (hb hby at_164) (by decide) kq) ?_
              show Go p e below s _ _ _ T632 (mkF m 165 #[.val (.int x0), .val (.int x1), .val (.int x2), .val (.int x3), .val (.long x4), .second, .val (.int x5), .val (.ref a495), .val (.long ((x4 &&& (2147483647 : Int64)) + (1 : Int64))), .second, .val (.long (((XT.ushrL x4 (32 : Int32)) &&& (2147483647 : Int64)) + (1 : Int64))), .second, .val (.int (x5 &&& (3 : Int32))), .val (.long (fMaxJ (fMaxJ x0.toInt64 x1.toInt64) x2.toInt64)), .second, .val (.int (0 : Int32))] [(.int (1 : Int32))])
              refine go_st (fun _ kq => XS.goto X632.here hx rfl (pc0 := 165) (pc' := 169) rfl (hb hby at_165) (by decide) (by decide) kq) ?_
              show Go p e below s _ _ _ T632 (mkF m 169 #[.val (.int x0), .val (.int x1), .val (.int x2), .val (.int x3), .val (.long x4), .second, .val (.int x5), .val (.ref a495), .val (.long ((x4 &&& (2147483647 : Int64)) + (1 : Int64))), .second, .val (.long (((XT.ushrL x4 (32 : Int32)) &&& (2147483647 : Int64)) + (1 : Int64))), .second, .val (.int (x5 &&& (3 : Int32))), .val (.long (fMaxJ (fMaxJ x0.toInt64 x1.toInt64) x2.toInt64)), .second, .val (.int (0 : Int32))] [(.int (1 : Int32))])
              exact go_retB (w := (1 : Int32)) X632 hx hlk hret (hb hby at_169) (by decide) (by decide) (by decide) ⟨rfl, N632⟩
            · refine go_st (fun _ kq => XS.ifNo X629.here hx rfl (hb hby at_140) rfl (XT.ll_gt_f hc631) kq) ?_
              show Go p e below s _ _ _ T629 (mkF m 143 #[.val (.int x0), .val (.int x1), .val (.int x2), .val (.int x3), .val (.long x4), .second, .val (.int x5), .val (.ref a495), .val (.long ((x4 &&& (2147483647 : Int64)) + (1 : Int64))), .second, .val (.long (((XT.ushrL x4 (32 : Int32)) &&& (2147483647 : Int64)) + (1 : Int64))), .second, .val (.int (x5 &&& (3 : Int32))), .val (.long (fMaxJ (fMaxJ x0.toInt64 x1.toInt64) x2.toInt64)), .second, .unset] [])
              refine go_st (fun _ kq => XT.iconstV X629.here hx rfl (1 : Int32) (hb hby at_143) (by decide) kq) ?_
              show Go p e below s _ _ _ T629 (mkF m 144 #[.val (.int x0), .val (.int x1), .val (.int x2), .val (.int x3), .val (.long x4), .second, .val (.int x5), .val (.ref a495), .val (.long ((x4 &&& (2147483647 : Int64)) + (1 : Int64))), .second, .val (.long (((XT.ushrL x4 (32 : Int32)) &&& (2147483647 : Int64)) + (1 : Int64))), .second, .val (.int (x5 &&& (3 : Int32))), .val (.long (fMaxJ (fMaxJ x0.toInt64 x1.toInt64) x2.toInt64)), .second, .unset] [(.int (1 : Int32))])
              refine go_st (fun _ kq => XS.goto X629.here hx rfl (pc0 := 144) (pc' := 148) rfl (hb hby at_144) (by decide) (by decide) kq) ?_
              show Go p e below s _ _ _ T629 (mkF m 148 #[.val (.int x0), .val (.int x1), .val (.int x2), .val (.int x3), .val (.long x4), .second, .val (.int x5), .val (.ref a495), .val (.long ((x4 &&& (2147483647 : Int64)) + (1 : Int64))), .second, .val (.long (((XT.ushrL x4 (32 : Int32)) &&& (2147483647 : Int64)) + (1 : Int64))), .second, .val (.int (x5 &&& (3 : Int32))), .val (.long (fMaxJ (fMaxJ x0.toInt64 x1.toInt64) x2.toInt64)), .second, .unset] [(.int (1 : Int32))])
              refine go_st (fun _ kq => XS.istore X629.here hx rfl (hb hby at_148) rfl (l' := #[.val (.int x0), .val (.int x1), .val (.int x2), .val (.int x3), .val (.long x4), .second, .val (.int x5), .val (.ref a495), .val (.long ((x4 &&& (2147483647 : Int64)) + (1 : Int64))), .second, .val (.long (((XT.ushrL x4 (32 : Int32)) &&& (2147483647 : Int64)) + (1 : Int64))), .second, .val (.int (x5 &&& (3 : Int32))), .val (.long (fMaxJ (fMaxJ x0.toInt64 x1.toInt64) x2.toInt64)), .second, .val (.int (1 : Int32))]) rfl kq) ?_
              show Go p e below s _ _ _ T629 (mkF m 150 #[.val (.int x0), .val (.int x1), .val (.int x2), .val (.int x3), .val (.long x4), .second, .val (.int x5), .val (.ref a495), .val (.long ((x4 &&& (2147483647 : Int64)) + (1 : Int64))), .second, .val (.long (((XT.ushrL x4 (32 : Int32)) &&& (2147483647 : Int64)) + (1 : Int64))), .second, .val (.int (x5 &&& (3 : Int32))), .val (.long (fMaxJ (fMaxJ x0.toInt64 x1.toInt64) x2.toInt64)), .second, .val (.int (1 : Int32))] [])
              refine go_st (fun _ kq => XS.aload X629.here hx rfl (hb hby at_150) rfl rfl kq) ?_
              show Go p e below s _ _ _ T629 (mkF m 152 #[.val (.int x0), .val (.int x1), .val (.int x2), .val (.int x3), .val (.long x4), .second, .val (.int x5), .val (.ref a495), .val (.long ((x4 &&& (2147483647 : Int64)) + (1 : Int64))), .second, .val (.long (((XT.ushrL x4 (32 : Int32)) &&& (2147483647 : Int64)) + (1 : Int64))), .second, .val (.int (x5 &&& (3 : Int32))), .val (.long (fMaxJ (fMaxJ x0.toInt64 x1.toInt64) x2.toInt64)), .second, .val (.int (1 : Int32))] [(.ref a495)])
              refine go_st (fun _ kq => XS.iloadN X629.here hx rfl (hb hby at_152) rfl kq) ?_
              show Go p e below s _ _ _ T629 (mkF m 153 #[.val (.int x0), .val (.int x1), .val (.int x2), .val (.int x3), .val (.long x4), .second, .val (.int x5), .val (.ref a495), .val (.long ((x4 &&& (2147483647 : Int64)) + (1 : Int64))), .second, .val (.long (((XT.ushrL x4 (32 : Int32)) &&& (2147483647 : Int64)) + (1 : Int64))), .second, .val (.int (x5 &&& (3 : Int32))), .val (.long (fMaxJ (fMaxJ x0.toInt64 x1.toInt64) x2.toInt64)), .second, .val (.int (1 : Int32))] [(.int x3), (.ref a495)])
              refine go_st (fun _ kq => XT.i2l X629.here hx rfl (hb hby at_153) rfl kq) ?_
              show Go p e below s _ _ _ T629 (mkF m 154 #[.val (.int x0), .val (.int x1), .val (.int x2), .val (.int x3), .val (.long x4), .second, .val (.int x5), .val (.ref a495), .val (.long ((x4 &&& (2147483647 : Int64)) + (1 : Int64))), .second, .val (.long (((XT.ushrL x4 (32 : Int32)) &&& (2147483647 : Int64)) + (1 : Int64))), .second, .val (.int (x5 &&& (3 : Int32))), .val (.long (fMaxJ (fMaxJ x0.toInt64 x1.toInt64) x2.toInt64)), .second, .val (.int (1 : Int32))] [(.long x3.toInt64), (.ref a495)])
              refine go_st (fun _ kq => XT.lload X629.here hx rfl (hb hby at_154) rfl kq) ?_
              show Go p e below s _ _ _ T629 (mkF m 156 #[.val (.int x0), .val (.int x1), .val (.int x2), .val (.int x3), .val (.long x4), .second, .val (.int x5), .val (.ref a495), .val (.long ((x4 &&& (2147483647 : Int64)) + (1 : Int64))), .second, .val (.long (((XT.ushrL x4 (32 : Int32)) &&& (2147483647 : Int64)) + (1 : Int64))), .second, .val (.int (x5 &&& (3 : Int32))), .val (.long (fMaxJ (fMaxJ x0.toInt64 x1.toInt64) x2.toInt64)), .second, .val (.int (1 : Int32))] [(.long (((XT.ushrL x4 (32 : Int32)) &&& (2147483647 : Int64)) + (1 : Int64))), (.long x3.toInt64), (.ref a495)])
              have z636 : n0 ≤ T607.heap.size := Nat.le_trans z608 K607.1
              refine go_callV X629 hx hZ hml hown (hw _ (List.mem_of_getElem? (i := 94) rfl)) (hw _ (List.mem_of_getElem? (i := 95) rfl)) (notFace_of_selects (args := #[]) (mvT hZ (hw _ (List.mem_of_getElem? (i := 97) rfl)))) (hw _ (List.mem_of_getElem? (i := 97) rfl)) (hw _ (List.mem_of_getElem? (i := 96) rfl)) (hw _ (List.mem_of_getElem? (i := 98) rfl)) (hw _ (List.mem_of_getElem? (i := 2) rfl)) e629 f607_0 (argsL := [(.long x3.toInt64), (.long (((XT.ushrL x4 (32 : Int32)) &&& (2147483647 : Int64)) + (1 : Int64)))]) (rest := []) (W := 0) (met_idl1 l Z a0 hw a495 x3.toInt64 (((XT.ushrL x4 (32 : Int32)) &&& (2147483647 : Int64)) + (1 : Int64)) 2 uq_509 gq_607 T607.heap n0 z636 f607_0 hd628 f607_3 f607_4 (by first | assumption | decide | omega) sz628) (hb hby at_156) rfl rfl rfl (lenOf pd11 rfl) (by show 2 * 0 + _ ≤ _; exact Nat.le_of_eq rfl) (by decide) (by decide) (by decide) (by decide) (by decide) ?_
              intro T635 v635 L635 X635 q635
              obtain ⟨rfl, M635, e635⟩ := q635
              have N635 := Fr.app N629 M635
              show Go p e below s _ _ _ T635 (mkF m 159 #[.val (.int x0), .val (.int x1), .val (.int x2), .val (.int x3), .val (.long x4), .second, .val (.int x5), .val (.ref a495), .val (.long ((x4 &&& (2147483647 : Int64)) + (1 : Int64))), .second, .val (.long (((XT.ushrL x4 (32 : Int32)) &&& (2147483647 : Int64)) + (1 : Int64))), .second, .val (.int (x5 &&& (3 : Int32))), .val (.long (fMaxJ (fMaxJ x0.toInt64 x1.toInt64) x2.toInt64)), .second, .val (.int (1 : Int32))] [(.int (fIdl1 gq_607 2 x3.toInt64 (((XT.ushrL x4 (32 : Int32)) &&& (2147483647 : Int64)) + (1 : Int64))))])
              refine go_st (fun _ kq => XS.iload X635.here hx rfl (hb hby at_159) rfl kq) ?_
              show Go p e below s _ _ _ T635 (mkF m 161 #[.val (.int x0), .val (.int x1), .val (.int x2), .val (.int x3), .val (.long x4), .second, .val (.int x5), .val (.ref a495), .val (.long ((x4 &&& (2147483647 : Int64)) + (1 : Int64))), .second, .val (.long (((XT.ushrL x4 (32 : Int32)) &&& (2147483647 : Int64)) + (1 : Int64))), .second, .val (.int (x5 &&& (3 : Int32))), .val (.long (fMaxJ (fMaxJ x0.toInt64 x1.toInt64) x2.toInt64)), .second, .val (.int (1 : Int32))] [(.int (1 : Int32)), (.int (fIdl1 gq_607 2 x3.toInt64 (((XT.ushrL x4 (32 : Int32)) &&& (2147483647 : Int64)) + (1 : Int64))))])
              have hb637 : (fIdl1 gq_607 2 x3.toInt64 (((XT.ushrL x4 (32 : Int32)) &&& (2147483647 : Int64)) + (1 : Int64))) = (1 : Int32) := by exact (own_idl1 p607_1 (own_r32m (own_r32m (own_r32 _) (own_r32 _)) (own_r32 _)) (own_r32 _) (own_rw _)).1 hc631
              refine go_st (fun _ kq => XS.icmpNo X635.here hx rfl (hb hby at_161) rfl (XT.ii_ne_f hb637) kq) ?_
              show Go p e below s _ _ _ T635 (mkF m 164 #[.val (.int x0), .val (.int x1), .val (.int x2), .val (.int x3), .val (.long x4), .second, .val (.int x5), .val (.ref a495), .val (.long ((x4 &&& (2147483647 : Int64)) + (1 : Int64))), .second, .val (.long (((XT.ushrL x4 (32 : Int32)) &&& (2147483647 : Int64)) + (1 : Int64))), .second, .val (.int (x5 &&& (3 : Int32))), .val (.long (fMaxJ (fMaxJ x0.toInt64 x1.toInt64) x2.toInt64)), .second, .val (.int (1 : Int32))] [])
              refine go_st (fun _ kq => XT.iconstV X635.here hx rfl (1 : Int32) (hb hby at_164) (by decide) kq) ?_
              show Go p e below s _ _ _ T635 (mkF m 165 #[.val (.int x0), .val (.int x1), .val (.int x2), .val (.int x3), .val (.long x4), .second, .val (.int x5), .val (.ref a495), .val (.long ((x4 &&& (2147483647 : Int64)) + (1 : Int64))), .second, .val (.long (((XT.ushrL x4 (32 : Int32)) &&& (2147483647 : Int64)) + (1 : Int64))), .second, .val (.int (x5 &&& (3 : Int32))), .val (.long (fMaxJ (fMaxJ x0.toInt64 x1.toInt64) x2.toInt64)), .second, .val (.int (1 : Int32))] [(.int (1 : Int32))])
              refine go_st (fun _ kq => XS.goto X635.here hx rfl (pc0 := 165) (pc' := 169) rfl (hb hby at_165) (by decide) (by decide) kq) ?_
              show Go p e below s _ _ _ T635 (mkF m 169 #[.val (.int x0), .val (.int x1), .val (.int x2), .val (.int x3), .val (.long x4), .second, .val (.int x5), .val (.ref a495), .val (.long ((x4 &&& (2147483647 : Int64)) + (1 : Int64))), .second, .val (.long (((XT.ushrL x4 (32 : Int32)) &&& (2147483647 : Int64)) + (1 : Int64))), .second, .val (.int (x5 &&& (3 : Int32))), .val (.long (fMaxJ (fMaxJ x0.toInt64 x1.toInt64) x2.toInt64)), .second, .val (.int (1 : Int32))] [(.int (1 : Int32))])
              exact go_retB (w := (1 : Int32)) X635 hx hlk hret (hb hby at_169) (by decide) (by decide) (by decide) ⟨rfl, N635⟩
set_option maxRecDepth 65536 in
set_option maxHeartbeats 4000000 in
theorem comes_1 {Post : Tables → Env → Array Value → State → Outcome → State → Prop} (hpost : ∀ tb e args s v u, (limb_1_1.after args s (.returned v) u = true ∧ limb_1_2.after args s (.returned v) u = true ∧ True) → FrameEnd s (.returned v) u (Jvm.fieldLocs frame_1_writes args s ++ Jvm.arrayLocs frame_1_arrays args s ++ Jvm.staticLocs frame_1_statics s) 24 128 → Post tb e args s (.returned v) u) :
    ArmFor flags0 classFile x code maxLocals ret World_1 tables_1 room_1 Calls_1 rest_1 Pre_1 Post := by
  intro l hfl _ _ p e ha hc hk s m args below hf hA hF happ hP
  obtain ⟨hcalls, hrest, hpre⟩ := hP
  obtain ⟨-, -, -, hnamed, -, -, -, hat⟩ := (Spec.applies_iff hf).mp happ
  obtain ⟨hg, hn⟩ := and_e (Cond.before_iff.mp (show (Jvm.Cond.and given_1 narrow_1).before args s = true from hpre))
  obtain ⟨k1, r1⟩ := and_e hg
  obtain ⟨g0, r2⟩ := and_e r1
  obtain ⟨g1, r3⟩ := and_e r2
  obtain ⟨g2, r4⟩ := and_e r3
  obtain ⟨g3, r5⟩ := and_e r4
  obtain ⟨g4, r6⟩ := and_e r5
  have g5 := r6
  obtain ⟨w0, w1, w2, w3, w4, w5, rfl⟩ : ∃ w0 w1 w2 w3 w4 w5 : Value, args = #[w0, w1, w2, w3, w4, w5] := by
    have hs : args.size = 6 := by simpa [Cond.value, given_1] using k1
    obtain ⟨L⟩ := args
    match L, hs with
    | [w0, w1, w2, w3, w4, w5], _ => exact ⟨w0, w1, w2, w3, w4, w5, rfl⟩
  have hw := fun d (hd : d ∈ tables_1) => atoms_spec (ws := Jvm.Cond.code x code maxLocals ret :: tables_1) hat d (List.mem_cons_of_mem _ hd)
  have hfit : Fit s := fun {y c} hc i hi => by
    obtain ⟨ha, rfl⟩ := Array.getElem?_eq_some_iff.mp hc
    have q := List.all_eq_true.mp ((Array.all_eq_true_iff_forall_mem.mp hF) _ (Array.getElem_mem ha)) i (List.mem_range.mpr hi)
    simpa [Array.getElem?_eq_getElem hi] using q
  obtain ⟨i0, f0⟩ := is_v g0
  obtain rfl : w0 = (.int i0) := Option.some.inj f0
  obtain ⟨i1, f1⟩ := is_v g1
  obtain rfl : w1 = (.int i1) := Option.some.inj f1
  obtain ⟨i2, f2⟩ := is_v g2
  obtain rfl : w2 = (.int i2) := Option.some.inj f2
  obtain ⟨i3, f3⟩ := is_v g3
  obtain rfl : w3 = (.int i3) := Option.some.inj f3
  obtain ⟨i4, f4⟩ := isL_v g4
  obtain rfl : w4 = (.long i4) := Option.some.inj f4
  obtain ⟨i5, f5⟩ := is_v g5
  obtain rfl : w5 = (.int i5) := Option.some.inj f5
  obtain ⟨c0, q1⟩ := and_e hn
  obtain ⟨c1, c2⟩ := and_e q1
  obtain ⟨zq, vz⟩ := exa_v c1
  have S0 : Sta s s.heap "com/example/aforo/aforo/SlidingLog" "NO_TIMES" "[J" (.ref zq) := Sta.start vz (Or.inr ⟨(hw _ (List.mem_of_getElem? (i := 2) rfl)), (hw _ (List.mem_of_getElem? (i := 15) rfl))⟩)
  have G0 : GA s s.heap zq .long 0 (fun i => .long (own_z i)) := own_ga0 vz c0 c2
  have hm := met_law l s _ hw i0 i1 i2 i3 i4 i5 s.heap s.heap.size (Nat.le_refl _) zq S0 G0
  obtain ⟨n, o, h1, h2, h3, _, L, rfl, ⟨rfl, N⟩, hq⟩ := hm p e ha hc hk s m _ below hf ((Spec.applies_iff_loose hf).mp happ).1 ⟨rfl, State.Warmed39.refl s, rfl⟩ trivial
  refine ⟨n, _, h1, h2, h3, hpost _ _ _ _ _ _ ⟨Cond.after_iff.mpr rfl, Cond.after_iff.mpr (eq_i res_at (Term.int_eval (1)) rfl), trivial⟩ ⟨hq.1, hq.2.1, (hq.2.2.sift fun y hy => Or.inr (N y hy)).mono (by decide) (by decide)⟩⟩
theorem main_1_1 : Claimed_1_1 := comes_1 fun _ _ _ _ _ _ h hF => ⟨h.1, hF⟩
theorem main_1_2 : Claimed_1_2 := comes_1 fun _ _ _ _ _ _ h hF => ⟨h.2.1, hF⟩
end Jvm.Pilot.@@N@@
namespace Jvm.Pilot.@@N@@
open Jvm Jvm.ClassFile Sem Op Lib Jvm.Free Jvm.Stand Jvm.Pilot.@@N@@.Jvm.D
/-! MADE BY PROGRAM (witnessworld.py) out of the Statement's table words and the real class files: 15 classes; the members and pool entries that the words name. The judged class is class 1, her method 1. -/
namespace start1
open Jvm.ClassFile
def u (s : String) : CpInfo := .utf8 (stringToUtf16 s)
/-- a pool by its gaps: so many unusable entries, then the entry; so many at the end -/
def gap : Nat → List CpInfo → List CpInfo
  | 0, r => r
  | n + 1, r => .unusable :: gap n r
def poolList (es : List (Nat × CpInfo)) (last : Nat) : List CpInfo := es.foldr (fun e r => gap e.1 (e.2 :: r)) (gap last [])
def pool (es : List (Nat × CpInfo)) (last : Nat) : Array CpInfo := ⟨poolList es last⟩
def fileOf (pool : Array CpInfo) (this : Nat) (attrs : Array Attribute := #[]) (ms : Array MethodInfo := #[]) (fl : Nat := 33) (sup : Nat := 0) (ifs : Array Nat := #[]) (fds : Array FieldInfo := #[]) : ClassFile where
  minorVersion := 0
  majorVersion := 65
  constantPool := pool
  accessFlags := fl
  thisClass := this
  superClass := sup
  interfaces := ifs
  fields := fds
  methods := ms
  attributes := attrs
def plain (name : String) (sup : Option ClassId) : Class where
  name := name
  kind := .ordinary
  loader := none
  accessFlags := 33
  super := sup
  interfaces := #[]
  cf := none
  fields := #[]
  methods := #[]
  instanceTypes := #[]
  staticTypes := #[]
  resolved := #[]
  callSites := []
  init := .initialized
  statics := none
  mirror := none

def pool0 : Array CpInfo := pool [(5, u "<init>"), (0, u "()V"), (1, .class_ 10), (1, u "java/lang/Object")] 113

def k0c0 : Code := { maxStack := 0, maxLocals := 1, code := object_method_1_code, exceptionTable := #[], attributes := #[] }
def k0m0 : Method := { name := "<init>", desc := "()V", sig := { parameters := [], returnType := none }, accessFlags := 1, code := some k0c0 }
/-- java/lang/Object -/
def k0 : Class := { plain "java/lang/Object" none with
  accessFlags := 33
  interfaces := #[]
  cf := some (fileOf pool0 8 #[] #[{ accessFlags := 1, nameIndex := 5, descriptorIndex := 6, attributes := #[] }] 33 0 #[] #[])
  fields := #[]
  methods := #[k0m0]
  instanceTypes := #[]
  staticTypes := #[]
  resolved := Array.replicate 124 none
  statics := none }

def pool1 : Array CpInfo := pool [(2, .class_ 4), (0, .nameAndType 5 6), (0, u "java/lang/Object"), (0, u "<init>"), (0, u "()V"), (0, .class_ 8), (0, u "com/example/aforo/aforo/SlidingLog"), (0, .methodref 7 3), (0, .long 2147483647), (3, .long 9223372036854775808), (1, .long 3), (1, .methodref 7 19), (0, .nameAndType 20 21), (0, u "acquire"), (0, u "(JJJ)Lcom/example/aforo/aforo/Decision;"), (0, .methodref 23 24), (0, .class_ 25), (0, .nameAndType 26 27), (0, u "java/lang/Math"), (0, u "max"), (0, u "(JJ)J"), (0, .methodref 7 29), (0, .nameAndType 30 31), (0, u "isIdle"), (0, u "(JJ)Z"), (0, .class_ 33), (0, u "com/example/aforo/aforo/SlidingLogIsIdlePinLaw"), (2, u "law"), (0, u "(IIIIJI)Z")] 3

def k1m0 : Method := { name := "<init>", desc := "()V", sig := { parameters := [], returnType := none }, accessFlags := 1, code := none }
def k1c1 : Code := { maxStack := 7, maxLocals := 16, code := code, exceptionTable := #[], attributes := #[] }
def k1m1 : Method := { name := "law", desc := "(IIIIJI)Z", sig := { parameters := [.int, .int, .int, .int, .long, .int], returnType := some .boolean }, accessFlags := 9, code := some k1c1 }
/-- com/example/aforo/aforo/SlidingLogIsIdlePinLaw -/
def k1 : Class := { plain "com/example/aforo/aforo/SlidingLogIsIdlePinLaw" (some 0) with
  accessFlags := 49
  interfaces := #[]
  cf := some (fileOf pool1 32 #[] #[{ accessFlags := 1, nameIndex := 5, descriptorIndex := 6, attributes := #[] }, { accessFlags := 9, nameIndex := 36, descriptorIndex := 37, attributes := #[] }] 49 2 #[] #[])
  fields := #[]
  methods := #[k1m0, k1m1]
  instanceTypes := #[]
  staticTypes := #[]
  resolved := Array.replicate 41 none
  statics := none }

def pool2 : Array CpInfo := pool [(1, .methodref 2 3), (0, .class_ 4), (0, .nameAndType 5 6), (0, u "java/lang/Object"), (0, u "<init>"), (0, u "()V"), (1, .class_ 10), (1, u "com/example/aforo/aforo/KeyState"), (4, u "dropped"), (0, u "Z")] 12

def k2c0 : Code := { maxStack := 1, maxLocals := 1, code := prog_10_method_1_code, exceptionTable := #[], attributes := #[] }
def k2m0 : Method := { name := "<init>", desc := "()V", sig := { parameters := [], returnType := none }, accessFlags := 0, code := some k2c0 }
/-- com/example/aforo/aforo/KeyState -/
def k2 : Class := { plain "com/example/aforo/aforo/KeyState" (some 0) with
  accessFlags := 1056
  interfaces := #[]
  cf := some (fileOf pool2 8 #[] #[{ accessFlags := 0, nameIndex := 5, descriptorIndex := 6, attributes := #[] }] 1056 2 #[] #[{ accessFlags := 2, nameIndex := 15, descriptorIndex := 16, attributes := #[] }])
  fields := #[{ name := "dropped", type := .boolean, accessFlags := 2, slot := 0, constantValue := 0 }]
  methods := #[k2m0]
  instanceTypes := #[.boolean]
  staticTypes := #[]
  resolved := Array.replicate 29 none
  statics := none }

def pool3 : Array CpInfo := pool [(1, .class_ 2), (0, u "com/example/aforo/aforo/SlidingLog"), (0, .methodref 4 5), (0, .class_ 6), (0, .nameAndType 7 8), (0, u "com/example/aforo/aforo/KeyState"), (0, u "<init>"), (0, u "()V"), (0, .fieldref 1 10), (0, .nameAndType 11 12), (0, u "NO_TIMES"), (0, u "[J"), (0, .fieldref 1 14), (0, .nameAndType 15 12), (0, u "times"), (0, .methodref 1 17), (0, .nameAndType 18 19), (0, u "forgetUpTo"), (0, u "(J)V"), (0, .fieldref 1 21), (0, .nameAndType 22 23), (0, u "size"), (0, u "I"), (0, .methodref 1 25), (0, .nameAndType 26 27), (0, u "insert"), (0, u "(JJ)V"), (0, .methodref 1 29), (0, .nameAndType 30 31), (0, u "untilFree"), (0, u "(JJ)J"), (0, .methodref 33 34), (0, .class_ 35), (0, .nameAndType 36 37), (0, u "com/example/aforo/aforo/Decision"), (0, u "admit"), (0, u "(JJ)Lcom/example/aforo/aforo/Decision;"), (0, .methodref 1 39), (0, .nameAndType 40 41), (0, u "timeAt"), (0, u "(I)J"), (3, .methodref 1 46), (0, .nameAndType 47 48), (0, u "countedUpTo"), (0, u "(J)I"), (0, .methodref 50 51), (0, .class_ 52), (0, .nameAndType 53 31), (0, u "java/lang/Math"), (0, u "max"), (0, .methodref 1 55), (0, .nameAndType 56 57), (0, u "slot"), (0, u "(I)I"), (0, .fieldref 1 59), (0, .nameAndType 60 23), (0, u "head"), (2, u "(II)I"), (0, .methodref 1 65), (0, .nameAndType 66 67), (0, u "resize"), (0, u "(I)V"), (0, .methodref 50 69), (0, .nameAndType 70 63), (0, u "min"), (0, .long 4), (1, .long 2), (1, .methodref 50 76), (0, .nameAndType 70 31), (0, .methodref 78 79), (0, .class_ 80), (0, .nameAndType 81 82), (0, u "java/lang/System"), (0, u "arraycopy"), (0, u "(Ljava/lang/Object;ILjava/lang/Object;II)V"), (0, u "LOG_IN_REDIS"), (0, u "Ljava/lang/String;"), (3, u "ACQUIRE_IN_REDIS"), (2, u "REMAINING_IN_REDIS"), (2, u "MIN_CAPACITY"), (3, u "acquire"), (0, u "(JJJ)Lcom/example/aforo/aforo/Decision;"), (3, u "isIdle"), (0, u "(JJ)Z")] 3

def k3c0 : Code := { maxStack := 2, maxLocals := 1, code := prog_17_method_1_code, exceptionTable := #[], attributes := #[] }
def k3m0 : Method := { name := "<init>", desc := "()V", sig := { parameters := [], returnType := none }, accessFlags := 0, code := some k3c0 }
def k3c1 : Code := { maxStack := 7, maxLocals := 10, code := prog_17_method_2_code, exceptionTable := #[], attributes := #[] }
def k3m1 : Method := { name := "acquire", desc := "(JJJ)Lcom/example/aforo/aforo/Decision;", sig := { parameters := [.long, .long, .long], returnType := some (.object "com/example/aforo/aforo/Decision") }, accessFlags := 0, code := some k3c1 }
def k3c2 : Code := { maxStack := 6, maxLocals := 5, code := prog_17_method_4_code, exceptionTable := #[], attributes := #[] }
def k3m2 : Method := { name := "isIdle", desc := "(JJ)Z", sig := { parameters := [.long, .long], returnType := some .boolean }, accessFlags := 0, code := some k3c2 }
def k3c3 : Code := { maxStack := 4, maxLocals := 5, code := prog_17_method_5_code, exceptionTable := #[], attributes := #[] }
def k3m3 : Method := { name := "untilFree", desc := "(JJ)J", sig := { parameters := [.long, .long], returnType := some .long }, accessFlags := 2, code := some k3c3 }
def k3c4 : Code := { maxStack := 4, maxLocals := 4, code := prog_17_method_6_code, exceptionTable := #[], attributes := #[] }
def k3m4 : Method := { name := "forgetUpTo", desc := "(J)V", sig := { parameters := [.long], returnType := none }, accessFlags := 2, code := some k3c4 }
def k3c5 : Code := { maxStack := 4, maxLocals := 8, code := prog_17_method_7_code, exceptionTable := #[], attributes := #[] }
def k3m5 : Method := { name := "countedUpTo", desc := "(J)I", sig := { parameters := [.long], returnType := some .int }, accessFlags := 2, code := some k3c5 }
def k3c6 : Code := { maxStack := 9, maxLocals := 6, code := prog_17_method_8_code, exceptionTable := #[], attributes := #[] }
def k3m6 : Method := { name := "insert", desc := "(JJ)V", sig := { parameters := [.long, .long], returnType := none }, accessFlags := 2, code := some k3c6 }
def k3c7 : Code := { maxStack := 6, maxLocals := 4, code := prog_17_method_9_code, exceptionTable := #[], attributes := #[] }
def k3m7 : Method := { name := "resize", desc := "(I)V", sig := { parameters := [.int], returnType := none }, accessFlags := 2, code := some k3c7 }
def k3c8 : Code := { maxStack := 3, maxLocals := 2, code := prog_17_method_10_code, exceptionTable := #[], attributes := #[] }
def k3m8 : Method := { name := "timeAt", desc := "(I)J", sig := { parameters := [.int], returnType := some .long }, accessFlags := 2, code := some k3c8 }
def k3c9 : Code := { maxStack := 2, maxLocals := 3, code := prog_17_method_11_code, exceptionTable := #[], attributes := #[] }
def k3m9 : Method := { name := "slot", desc := "(I)I", sig := { parameters := [.int], returnType := some .int }, accessFlags := 2, code := some k3c9 }
/-- com/example/aforo/aforo/SlidingLog -/
def k3 : Class := { plain "com/example/aforo/aforo/SlidingLog" (some 2) with
  accessFlags := 48
  interfaces := #[]
  cf := some (fileOf pool3 1 #[] #[{ accessFlags := 0, nameIndex := 7, descriptorIndex := 8, attributes := #[] }, { accessFlags := 0, nameIndex := 98, descriptorIndex := 99, attributes := #[] }, { accessFlags := 0, nameIndex := 103, descriptorIndex := 104, attributes := #[] }, { accessFlags := 2, nameIndex := 30, descriptorIndex := 31, attributes := #[] }, { accessFlags := 2, nameIndex := 18, descriptorIndex := 19, attributes := #[] }, { accessFlags := 2, nameIndex := 47, descriptorIndex := 48, attributes := #[] }, { accessFlags := 2, nameIndex := 26, descriptorIndex := 27, attributes := #[] }, { accessFlags := 2, nameIndex := 66, descriptorIndex := 67, attributes := #[] }, { accessFlags := 2, nameIndex := 40, descriptorIndex := 41, attributes := #[] }, { accessFlags := 2, nameIndex := 56, descriptorIndex := 57, attributes := #[] }] 48 4 #[] #[{ accessFlags := 26, nameIndex := 83, descriptorIndex := 84, attributes := #[] }, { accessFlags := 24, nameIndex := 88, descriptorIndex := 84, attributes := #[] }, { accessFlags := 24, nameIndex := 91, descriptorIndex := 84, attributes := #[] }, { accessFlags := 26, nameIndex := 11, descriptorIndex := 12, attributes := #[] }, { accessFlags := 26, nameIndex := 94, descriptorIndex := 23, attributes := #[] }, { accessFlags := 2, nameIndex := 15, descriptorIndex := 12, attributes := #[] }, { accessFlags := 2, nameIndex := 60, descriptorIndex := 23, attributes := #[] }, { accessFlags := 2, nameIndex := 22, descriptorIndex := 23, attributes := #[] }])
  fields := #[{ name := "LOG_IN_REDIS", type := (.object "java/lang/String"), accessFlags := 26, slot := 0, constantValue := 0 }, { name := "ACQUIRE_IN_REDIS", type := (.object "java/lang/String"), accessFlags := 24, slot := 1, constantValue := 0 }, { name := "REMAINING_IN_REDIS", type := (.object "java/lang/String"), accessFlags := 24, slot := 2, constantValue := 0 }, { name := "NO_TIMES", type := (.array .long), accessFlags := 26, slot := 3, constantValue := 0 }, { name := "MIN_CAPACITY", type := .int, accessFlags := 26, slot := 4, constantValue := 0 }, { name := "times", type := (.array .long), accessFlags := 2, slot := 1, constantValue := 0 }, { name := "head", type := .int, accessFlags := 2, slot := 2, constantValue := 0 }, { name := "size", type := .int, accessFlags := 2, slot := 3, constantValue := 0 }]
  methods := #[k3m0, k3m1, k3m2, k3m3, k3m4, k3m5, k3m6, k3m7, k3m8, k3m9]
  instanceTypes := #[.boolean, (.array .long), .int, .int]
  staticTypes := #[(.object "java/lang/String"), (.object "java/lang/String"), (.object "java/lang/String"), (.array .long), .int]
  resolved := Array.replicate 108 none
  statics := some 0 }

def pool4 : Array CpInfo := pool [(1, .class_ 2), (0, u "java/lang/Math"), (1, .class_ 6), (1, u "java/lang/Object"), (0, u "<init>"), (0, u "()V"), (89, .class_ 100), (1, u "java/lang/Math$RandomNumberGeneratorHolder"), (20, u "(JJ)J"), (50, u "negativeZeroFloatBits"), (0, u "J"), (2, u "negativeZeroDoubleBits"), (21, u "max"), (2, u "min"), (43, u "$assertionsDisabled"), (0, u "Z"), (88, u "(II)I"), (2, u "twoToTheDoubleScaleDown"), (0, u "D"), (4, u "twoToTheDoubleScaleUp"), (9, u "E"), (3, u "PI"), (2, u "TAU"), (2, u "DEGREES_TO_RADIANS"), (0, u "RADIANS_TO_DEGREES")] 94

def k4m0 : Method := { name := "<init>", desc := "()V", sig := { parameters := [], returnType := none }, accessFlags := 2, code := none }
def k4c1 : Code := { maxStack := 4, maxLocals := 4, code := jdk_29_method_66_code, exceptionTable := #[], attributes := #[] }
def k4m1 : Method := { name := "max", desc := "(JJ)J", sig := { parameters := [.long, .long], returnType := some .long }, accessFlags := 9, code := some k4c1 }
def k4c2 : Code := { maxStack := 2, maxLocals := 2, code := jdk_29_method_69_code, exceptionTable := #[], attributes := #[] }
def k4m2 : Method := { name := "min", desc := "(II)I", sig := { parameters := [.int, .int], returnType := some .int }, accessFlags := 9, code := some k4c2 }
def k4c3 : Code := { maxStack := 4, maxLocals := 4, code := jdk_29_method_70_code, exceptionTable := #[], attributes := #[] }
def k4m3 : Method := { name := "min", desc := "(JJ)J", sig := { parameters := [.long, .long], returnType := some .long }, accessFlags := 9, code := some k4c3 }
/-- java/lang/Math -/
def k4 : Class := { plain "java/lang/Math" (some 0) with
  accessFlags := 49
  interfaces := #[]
  cf := some (fileOf pool4 1 #[.nestMembers #[98]] #[{ accessFlags := 2, nameIndex := 7, descriptorIndex := 8, attributes := #[] }, { accessFlags := 9, nameIndex := 198, descriptorIndex := 121, attributes := #[] }, { accessFlags := 9, nameIndex := 201, descriptorIndex := 335, attributes := #[] }, { accessFlags := 9, nameIndex := 201, descriptorIndex := 121, attributes := #[] }] 49 4 #[] #[{ accessFlags := 25, nameIndex := 354, descriptorIndex := 339, attributes := #[] }, { accessFlags := 25, nameIndex := 358, descriptorIndex := 339, attributes := #[] }, { accessFlags := 25, nameIndex := 361, descriptorIndex := 339, attributes := #[] }, { accessFlags := 26, nameIndex := 364, descriptorIndex := 339, attributes := #[] }, { accessFlags := 26, nameIndex := 365, descriptorIndex := 339, attributes := #[] }, { accessFlags := 26, nameIndex := 172, descriptorIndex := 173, attributes := #[] }, { accessFlags := 26, nameIndex := 176, descriptorIndex := 173, attributes := #[] }, { accessFlags := 8, nameIndex := 344, descriptorIndex := 339, attributes := #[] }, { accessFlags := 8, nameIndex := 338, descriptorIndex := 339, attributes := #[] }, { accessFlags := 4120, nameIndex := 245, descriptorIndex := 246, attributes := #[] }])
  fields := #[{ name := "E", type := .double, accessFlags := 25, slot := 0, constantValue := 0 }, { name := "PI", type := .double, accessFlags := 25, slot := 1, constantValue := 0 }, { name := "TAU", type := .double, accessFlags := 25, slot := 2, constantValue := 0 }, { name := "DEGREES_TO_RADIANS", type := .double, accessFlags := 26, slot := 3, constantValue := 0 }, { name := "RADIANS_TO_DEGREES", type := .double, accessFlags := 26, slot := 4, constantValue := 0 }, { name := "negativeZeroFloatBits", type := .long, accessFlags := 26, slot := 5, constantValue := 0 }, { name := "negativeZeroDoubleBits", type := .long, accessFlags := 26, slot := 6, constantValue := 0 }, { name := "twoToTheDoubleScaleUp", type := .double, accessFlags := 8, slot := 7, constantValue := 0 }, { name := "twoToTheDoubleScaleDown", type := .double, accessFlags := 8, slot := 8, constantValue := 0 }, { name := "$assertionsDisabled", type := .boolean, accessFlags := 4120, slot := 9, constantValue := 0 }]
  methods := #[k4m0, k4m1, k4m2, k4m3]
  instanceTypes := #[]
  staticTypes := #[.double, .double, .double, .double, .double, .long, .long, .double, .double, .boolean]
  resolved := Array.replicate 460 none
  statics := none }

def pool5 : Array CpInfo := pool [(2, .class_ 4), (1, u "java/lang/Object"), (0, u "<init>"), (0, u "()V"), (1, .class_ 10), (1, u "java/lang/System"), (0, u "allowSecurityManager"), (0, u "I"), (16, u "cons"), (0, u "Ljava/io/Console;"), (77, .class_ 110), (1, u "java/lang/System$CallersHolder"), (43, u "initialErrStream"), (0, u "Ljava/io/PrintStream;"), (19, u "security"), (0, u "Ljava/lang/SecurityManager;"), (31, .class_ 209), (0, u "java/lang/System$1"), (7, u "props"), (0, u "Ljava/util/Properties;"), (2, u "lineSeparator"), (0, u "Ljava/lang/String;"), (96, .class_ 321), (1, u "java/lang/System$LoggerFinder"), (5, .class_ 328), (0, u "java/lang/System$Logger"), (67, u "err"), (2, u "out"), (91, u "notSupportedJnuEncoding"), (15, u "in"), (17, u "initialIn"), (0, u "Ljava/io/InputStream;"), (35, u "bootLayer"), (0, u "Ljava/lang/ModuleLayer;"), (99, .class_ 664), (0, u "java/lang/System$2"), (9, u "NEVER"), (2, u "MAYBE"), (49, u "arraycopy"), (0, u "(Ljava/lang/Object;ILjava/lang/Object;II)V"), (72, .class_ 802), (0, u "java/lang/System$Logger$Level")] 31

def k5m0 : Method := { name := "<init>", desc := "()V", sig := { parameters := [], returnType := none }, accessFlags := 2, code := none }
def k5m1 : Method := { name := "arraycopy", desc := "(Ljava/lang/Object;ILjava/lang/Object;II)V", sig := { parameters := [(.object "java/lang/Object"), .int, (.object "java/lang/Object"), .int, .int], returnType := none }, accessFlags := 265, code := none }
/-- java/lang/System -/
def k5 : Class := { plain "java/lang/System" (some 0) with
  accessFlags := 49
  interfaces := #[]
  cf := some (fileOf pool5 8 #[.nestMembers #[319, 327, 801, 108, 663, 208]] #[{ accessFlags := 2, nameIndex := 5, descriptorIndex := 6, attributes := #[] }, { accessFlags := 265, nameIndex := 727, descriptorIndex := 728, attributes := #[] }] 49 2 #[] #[{ accessFlags := 25, nameIndex := 507, descriptorIndex := 526, attributes := #[] }, { accessFlags := 25, nameIndex := 399, descriptorIndex := 155, attributes := #[] }, { accessFlags := 25, nameIndex := 396, descriptorIndex := 155, attributes := #[] }, { accessFlags := 10, nameIndex := 525, descriptorIndex := 526, attributes := #[] }, { accessFlags := 26, nameIndex := 674, descriptorIndex := 12, attributes := #[] }, { accessFlags := 26, nameIndex := 677, descriptorIndex := 12, attributes := #[] }, { accessFlags := 10, nameIndex := 11, descriptorIndex := 12, attributes := #[] }, { accessFlags := 74, nameIndex := 175, descriptorIndex := 176, attributes := #[] }, { accessFlags := 10, nameIndex := 491, descriptorIndex := 222, attributes := #[] }, { accessFlags := 74, nameIndex := 29, descriptorIndex := 30, attributes := #[] }, { accessFlags := 74, nameIndex := 154, descriptorIndex := 155, attributes := #[] }, { accessFlags := 10, nameIndex := 217, descriptorIndex := 218, attributes := #[] }, { accessFlags := 10, nameIndex := 221, descriptorIndex := 222, attributes := #[] }, { accessFlags := 8, nameIndex := 562, descriptorIndex := 563, attributes := #[] }])
  fields := #[{ name := "in", type := (.object "java/io/InputStream"), accessFlags := 25, slot := 0, constantValue := 0 }, { name := "out", type := (.object "java/io/PrintStream"), accessFlags := 25, slot := 1, constantValue := 0 }, { name := "err", type := (.object "java/io/PrintStream"), accessFlags := 25, slot := 2, constantValue := 0 }, { name := "initialIn", type := (.object "java/io/InputStream"), accessFlags := 10, slot := 3, constantValue := 0 }, { name := "NEVER", type := .int, accessFlags := 26, slot := 4, constantValue := 0 }, { name := "MAYBE", type := .int, accessFlags := 26, slot := 5, constantValue := 0 }, { name := "allowSecurityManager", type := .int, accessFlags := 10, slot := 6, constantValue := 0 }, { name := "security", type := (.object "java/lang/SecurityManager"), accessFlags := 74, slot := 7, constantValue := 0 }, { name := "notSupportedJnuEncoding", type := (.object "java/lang/String"), accessFlags := 10, slot := 8, constantValue := 0 }, { name := "cons", type := (.object "java/io/Console"), accessFlags := 74, slot := 9, constantValue := 0 }, { name := "initialErrStream", type := (.object "java/io/PrintStream"), accessFlags := 74, slot := 10, constantValue := 0 }, { name := "props", type := (.object "java/util/Properties"), accessFlags := 10, slot := 11, constantValue := 0 }, { name := "lineSeparator", type := (.object "java/lang/String"), accessFlags := 10, slot := 12, constantValue := 0 }, { name := "bootLayer", type := (.object "java/lang/ModuleLayer"), accessFlags := 8, slot := 13, constantValue := 0 }]
  methods := #[k5m0, k5m1]
  instanceTypes := #[]
  staticTypes := #[(.object "java/io/InputStream"), (.object "java/io/PrintStream"), (.object "java/io/PrintStream"), (.object "java/io/InputStream"), .int, .int, .int, (.object "java/lang/SecurityManager"), (.object "java/lang/String"), (.object "java/io/Console"), (.object "java/io/PrintStream"), (.object "java/util/Properties"), (.object "java/lang/String"), (.object "java/lang/ModuleLayer")]
  resolved := Array.replicate 834 none
  statics := none }

def pool6 : Array CpInfo := pool [(1, .methodref 2 3), (0, .class_ 4), (0, .nameAndType 5 6), (0, u "java/lang/Object"), (0, u "<init>"), (0, u "()V"), (0, .fieldref 8 9), (0, .class_ 10), (0, .nameAndType 11 12), (0, u "com/example/aforo/aforo/Decision"), (0, u "remaining"), (0, u "J"), (0, .fieldref 8 14), (0, .nameAndType 15 12), (0, u "retryAfterMillis"), (0, .fieldref 8 17), (0, .nameAndType 18 12), (0, u "resetAfterMillis"), (0, .fieldref 8 20), (0, .nameAndType 21 22), (0, u "degraded"), (0, u "Z"), (10, .methodref 8 34), (0, .nameAndType 5 35), (0, u "(JJJZ)V"), (47, u "MILLIS_PER_SECOND"), (3, u "admit"), (0, u "(JJ)Lcom/example/aforo/aforo/Decision;")] 36

def k6c0 : Code := { maxStack := 3, maxLocals := 8, code := prog_4_method_1_code, exceptionTable := #[], attributes := #[] }
def k6m0 : Method := { name := "<init>", desc := "(JJJZ)V", sig := { parameters := [.long, .long, .long, .boolean], returnType := none }, accessFlags := 2, code := some k6c0 }
def k6c1 : Code := { maxStack := 9, maxLocals := 4, code := prog_4_method_2_code, exceptionTable := #[], attributes := #[] }
def k6m1 : Method := { name := "admit", desc := "(JJ)Lcom/example/aforo/aforo/Decision;", sig := { parameters := [.long, .long], returnType := some (.object "com/example/aforo/aforo/Decision") }, accessFlags := 8, code := some k6c1 }
/-- com/example/aforo/aforo/Decision -/
def k6 : Class := { plain "com/example/aforo/aforo/Decision" (some 0) with
  accessFlags := 49
  interfaces := #[]
  cf := some (fileOf pool6 8 #[] #[{ accessFlags := 2, nameIndex := 5, descriptorIndex := 35, attributes := #[] }, { accessFlags := 8, nameIndex := 87, descriptorIndex := 88, attributes := #[] }] 49 2 #[] #[{ accessFlags := 26, nameIndex := 83, descriptorIndex := 12, attributes := #[] }, { accessFlags := 18, nameIndex := 11, descriptorIndex := 12, attributes := #[] }, { accessFlags := 18, nameIndex := 15, descriptorIndex := 12, attributes := #[] }, { accessFlags := 18, nameIndex := 18, descriptorIndex := 12, attributes := #[] }, { accessFlags := 18, nameIndex := 21, descriptorIndex := 22, attributes := #[] }])
  fields := #[{ name := "MILLIS_PER_SECOND", type := .long, accessFlags := 26, slot := 0, constantValue := 0 }, { name := "remaining", type := .long, accessFlags := 18, slot := 0, constantValue := 0 }, { name := "retryAfterMillis", type := .long, accessFlags := 18, slot := 1, constantValue := 0 }, { name := "resetAfterMillis", type := .long, accessFlags := 18, slot := 2, constantValue := 0 }, { name := "degraded", type := .boolean, accessFlags := 18, slot := 3, constantValue := 0 }]
  methods := #[k6m0, k6m1]
  instanceTypes := #[.long, .long, .long, .boolean]
  staticTypes := #[.long]
  resolved := Array.replicate 125 none
  statics := none }

def pool7 : Array CpInfo := pool [(1, u "java/lang/Cloneable"), (0, .class_ 1), (0, u "java/lang/Object"), (0, .class_ 3)] 3

/-- java/lang/Cloneable -/
def k7 : Class := { plain "java/lang/Cloneable" (some 0) with
  accessFlags := 1537
  interfaces := #[]
  cf := some (fileOf pool7 2 #[] #[] 1537 4 #[] #[])
  fields := #[]
  methods := #[]
  instanceTypes := #[]
  staticTypes := #[]
  resolved := Array.replicate 8 none
  statics := none }

def pool8 : Array CpInfo := pool [(1, u "java/io/Serializable"), (0, .class_ 1), (0, u "java/lang/Object"), (0, .class_ 3)] 3

/-- java/io/Serializable -/
def k8 : Class := { plain "java/io/Serializable" (some 0) with
  accessFlags := 1537
  interfaces := #[]
  cf := some (fileOf pool8 2 #[] #[] 1537 4 #[] #[])
  fields := #[]
  methods := #[]
  instanceTypes := #[]
  staticTypes := #[]
  resolved := Array.replicate 8 none
  statics := none }

/-- the primitive byte -/
def k9 : Class := { plain "byte" none with kind := .primitive 'B', accessFlags := 0x411 }
/-- [B -/
def k10 : Class := { plain "[B" (some 0) with kind := .array 9 .byte, interfaces := #[7, 8], accessFlags := 1041 }

/-- the primitive int -/
def k11 : Class := { plain "int" none with kind := .primitive 'I', accessFlags := 0x411 }
/-- [I -/
def k12 : Class := { plain "[I" (some 0) with kind := .array 11 .int, interfaces := #[7, 8], accessFlags := 1041 }

/-- the primitive long -/
def k13 : Class := { plain "long" none with kind := .primitive 'J', accessFlags := 0x411 }
/-- [J -/
def k14 : Class := { plain "[J" (some 0) with kind := .array 13 .long, interfaces := #[7, 8], accessFlags := 1041 }

def heap : Heap := #[{ cls := 3, slots := #[.null, .null, .null, .ref 1, .int 0], vm := .statics 3 },
  { cls := 14, slots := #[], vm := .none }]
def classes : Array Class := #[k0, k1, k2, k3, k4, k5, k6, k7, k8, k9, k10, k11, k12, k13, k14]
def interned : List (Array UInt16 × Addr) := []
def slotsUsed : Nat := 5
def theMethod : MethodId := ⟨1, 1⟩
def args0 : Array Value := #[.int 5, .int 1, .int 2, .int 3, .long 4, .int 5]
def aboutOver (below : List Frame) : State where
  vm := { classes := classes, interned := interned.toArray }
  heap := heap
  slotsUsed := slotsUsed
  threads := #[{ frames := .invoking theMethod args0 :: below }]
def below0 : List Frame := [.native { method := ⟨0, 0⟩, args := #[] }]
def about1 : State := aboutOver below0
def p0 : Program := .bare "" "" ""
def e0 : Env := launch0.env 0 0 0
theorem w_frames : about1.frames = Frame.invoking theMethod args0 :: below0 := rfl
set_option maxRecDepth 65536 in
theorem w_args : argsFit about1.vm theMethod args0 = true := by decide +kernel
set_option maxRecDepth 65536 in
theorem w_heap : heapFits about1 = true := by decide +kernel
set_option maxRecDepth 65536 in
theorem w_runnable : about1.curStatus? = some .runnable := by decide +kernel
set_option maxRecDepth 65536 in
theorem w_alone : about1.alone = true := by decide +kernel
set_option maxRecDepth 65536 in
theorem w_named : about1.methodNamed? x = some theMethod := by decide +kernel
set_option maxRecDepth 65536 in
theorem w_hears : about1.hears theMethod below0 = true := by decide +kernel
set_option maxRecDepth 65536 in
theorem w_ripe : about1.ripe theMethod args0 below0 = true := by decide +kernel
theorem w_running : about1.status = .running := rfl
set_option maxRecDepth 65536 in
theorem w_room : about1.hasRoom e0.platform room_1 = true :=
  launch0.hasRoom_least _ room_1 (by decide +kernel) (by decide +kernel) (by decide +kernel) (by decide +kernel) (by decide +kernel) (by decide +kernel)
theorem allAtoms_all (ts : List Jvm.Cond) (a : Array Jvm.Value) (st : Jvm.State) : (allAtoms ts).before a st = ts.all (fun c => c.before a st) := by
  induction ts with
  | nil => rfl
  | cons c t ih =>
    show (Jvm.Cond.and c (allAtoms t)).before a st = _
    rw [Jvm.Cond.before_and, ih, List.all_cons]
def words1 : List Jvm.Cond := Jvm.Cond.code x code maxLocals ret :: tables_1
/-- a 'code' word, met by the world's own term for the bytes: nothing is compared byte by byte -/
theorem code_word {y : MethodName} {bytes : ByteArray} {mx : Nat} {rt : Option FieldType} {a : Array Value} {s : State} {m : MethodId} {meth : Method} {c : Code} (h1 : s.methodNamed? y = some m) (h2 : s.vm.method? m = some meth) (h3 : meth.code = some c) (h4 : c.code = bytes)
    (h5 : (c.maxLocals == mx && c.exceptionTable.isEmpty && decide (c.maxStack ≤ mostOperands) && decide (meth.sig.returnType = rt) && !meth.locks && decide (parseMethodDescriptor y.desc = some meth.sig)) = true) : (Jvm.Cond.code y bytes mx rt).before a s = true := by
  simp only [Bool.and_eq_true, beq_iff_eq, Bool.not_eq_true', decide_eq_true_eq] at h5
  obtain ⟨⟨⟨⟨⟨g1, g2⟩, g3⟩, g4⟩, g5⟩, g6⟩ := h5
  simp [Cond.before, Cond.holds, Cond.value, h1, h2, h3, h4, g1, g2, g3, g4, g5, g6]
def isCode : Jvm.Cond → Bool
  | .code _ _ _ _ => true
  | _ => false
theorem all_split {L : List Jvm.Cond} {P : Jvm.Cond → Bool} (h1 : L.all (fun c => isCode c || P c) = true) (h2 : ∀ c ∈ L.filter isCode, P c = true) : L.all P = true := by
  refine List.all_eq_true.mpr fun c hc => ?_
  have h := List.all_eq_true.mp h1 c hc
  rcases Bool.eq_false_or_eq_true (isCode c) with hi | hi
  · exact h2 c (List.mem_filter.mpr ⟨hc, hi⟩)
  · simpa [hi] using h
set_option maxRecDepth 65536 in
theorem w_c0 : (Jvm.Cond.code x code maxLocals ret).before args0 about1 = true := code_word (m := ⟨1, 1⟩) (meth := k1m1) (c := k1c1) (by decide +kernel) rfl rfl rfl (by decide +kernel)
set_option maxRecDepth 65536 in
theorem w_c1 : (Jvm.Cond.code ({ cls := "com/example/aforo/aforo/SlidingLog", name := "<init>", desc := "()V" } : Jvm.MethodName) prog_17_method_1_code (1 : Nat) (Option.none : Option Jvm.ClassFile.FieldType)).before args0 about1 = true := code_word (m := ⟨3, 0⟩) (meth := k3m0) (c := k3c0) (by decide +kernel) rfl rfl rfl (by decide +kernel)
set_option maxRecDepth 65536 in
theorem w_c2 : (Jvm.Cond.code ({ cls := "com/example/aforo/aforo/KeyState", name := "<init>", desc := "()V" } : Jvm.MethodName) prog_10_method_1_code (1 : Nat) (Option.none : Option Jvm.ClassFile.FieldType)).before args0 about1 = true := code_word (m := ⟨2, 0⟩) (meth := k2m0) (c := k2c0) (by decide +kernel) rfl rfl rfl (by decide +kernel)
set_option maxRecDepth 65536 in
theorem w_c3 : (Jvm.Cond.code ({ cls := "java/lang/Object", name := "<init>", desc := "()V" } : Jvm.MethodName) object_method_1_code (1 : Nat) (Option.none : Option Jvm.ClassFile.FieldType)).before args0 about1 = true := code_word (m := ⟨0, 0⟩) (meth := k0m0) (c := k0c0) (by decide +kernel) rfl rfl rfl (by decide +kernel)
set_option maxRecDepth 65536 in
theorem w_c4 : (Jvm.Cond.code ({ cls := "com/example/aforo/aforo/SlidingLog", name := "acquire", desc := "(JJJ)Lcom/example/aforo/aforo/Decision;" } : Jvm.MethodName) prog_17_method_2_code (10 : Nat) (Option.some (Jvm.ClassFile.FieldType.object "com/example/aforo/aforo/Decision"))).before args0 about1 = true := code_word (m := ⟨3, 1⟩) (meth := k3m1) (c := k3c1) (by decide +kernel) rfl rfl rfl (by decide +kernel)
set_option maxRecDepth 65536 in
theorem w_c5 : (Jvm.Cond.code ({ cls := "com/example/aforo/aforo/SlidingLog", name := "forgetUpTo", desc := "(J)V" } : Jvm.MethodName) prog_17_method_6_code (4 : Nat) (Option.none : Option Jvm.ClassFile.FieldType)).before args0 about1 = true := code_word (m := ⟨3, 4⟩) (meth := k3m4) (c := k3c4) (by decide +kernel) rfl rfl rfl (by decide +kernel)
set_option maxRecDepth 65536 in
theorem w_c6 : (Jvm.Cond.code ({ cls := "com/example/aforo/aforo/SlidingLog", name := "countedUpTo", desc := "(J)I" } : Jvm.MethodName) prog_17_method_7_code (8 : Nat) (Option.some Jvm.ClassFile.FieldType.int)).before args0 about1 = true := code_word (m := ⟨3, 5⟩) (meth := k3m5) (c := k3c5) (by decide +kernel) rfl rfl rfl (by decide +kernel)
set_option maxRecDepth 65536 in
theorem w_c7 : (Jvm.Cond.code ({ cls := "java/lang/Math", name := "min", desc := "(II)I" } : Jvm.MethodName) jdk_29_method_69_code (2 : Nat) (Option.some Jvm.ClassFile.FieldType.int)).before args0 about1 = true := code_word (m := ⟨4, 2⟩) (meth := k4m2) (c := k4c2) (by decide +kernel) rfl rfl rfl (by decide +kernel)
set_option maxRecDepth 65536 in
theorem w_c8 : (Jvm.Cond.code ({ cls := "com/example/aforo/aforo/SlidingLog", name := "slot", desc := "(I)I" } : Jvm.MethodName) prog_17_method_11_code (3 : Nat) (Option.some Jvm.ClassFile.FieldType.int)).before args0 about1 = true := code_word (m := ⟨3, 9⟩) (meth := k3m9) (c := k3c9) (by decide +kernel) rfl rfl rfl (by decide +kernel)
set_option maxRecDepth 65536 in
theorem w_c9 : (Jvm.Cond.code ({ cls := "com/example/aforo/aforo/SlidingLog", name := "insert", desc := "(JJ)V" } : Jvm.MethodName) prog_17_method_8_code (6 : Nat) (Option.none : Option Jvm.ClassFile.FieldType)).before args0 about1 = true := code_word (m := ⟨3, 6⟩) (meth := k3m6) (c := k3c6) (by decide +kernel) rfl rfl rfl (by decide +kernel)
set_option maxRecDepth 65536 in
theorem w_c10 : (Jvm.Cond.code ({ cls := "java/lang/Math", name := "max", desc := "(JJ)J" } : Jvm.MethodName) jdk_29_method_66_code (4 : Nat) (Option.some Jvm.ClassFile.FieldType.long)).before args0 about1 = true := code_word (m := ⟨4, 1⟩) (meth := k4m1) (c := k4c1) (by decide +kernel) rfl rfl rfl (by decide +kernel)
set_option maxRecDepth 65536 in
theorem w_c11 : (Jvm.Cond.code ({ cls := "java/lang/Math", name := "min", desc := "(JJ)J" } : Jvm.MethodName) jdk_29_method_70_code (4 : Nat) (Option.some Jvm.ClassFile.FieldType.long)).before args0 about1 = true := code_word (m := ⟨4, 3⟩) (meth := k4m3) (c := k4c3) (by decide +kernel) rfl rfl rfl (by decide +kernel)
set_option maxRecDepth 65536 in
theorem w_c12 : (Jvm.Cond.code ({ cls := "com/example/aforo/aforo/SlidingLog", name := "resize", desc := "(I)V" } : Jvm.MethodName) prog_17_method_9_code (4 : Nat) (Option.none : Option Jvm.ClassFile.FieldType)).before args0 about1 = true := code_word (m := ⟨3, 7⟩) (meth := k3m7) (c := k3c7) (by decide +kernel) rfl rfl rfl (by decide +kernel)
set_option maxRecDepth 65536 in
theorem w_c13 : (Jvm.Cond.code ({ cls := "com/example/aforo/aforo/SlidingLog", name := "untilFree", desc := "(JJ)J" } : Jvm.MethodName) prog_17_method_5_code (5 : Nat) (Option.some Jvm.ClassFile.FieldType.long)).before args0 about1 = true := code_word (m := ⟨3, 3⟩) (meth := k3m3) (c := k3c3) (by decide +kernel) rfl rfl rfl (by decide +kernel)
set_option maxRecDepth 65536 in
theorem w_c14 : (Jvm.Cond.code ({ cls := "com/example/aforo/aforo/SlidingLog", name := "timeAt", desc := "(I)J" } : Jvm.MethodName) prog_17_method_10_code (2 : Nat) (Option.some Jvm.ClassFile.FieldType.long)).before args0 about1 = true := code_word (m := ⟨3, 8⟩) (meth := k3m8) (c := k3c8) (by decide +kernel) rfl rfl rfl (by decide +kernel)
set_option maxRecDepth 65536 in
theorem w_c15 : (Jvm.Cond.code ({ cls := "com/example/aforo/aforo/Decision", name := "admit", desc := "(JJ)Lcom/example/aforo/aforo/Decision;" } : Jvm.MethodName) prog_4_method_2_code (4 : Nat) (Option.some (Jvm.ClassFile.FieldType.object "com/example/aforo/aforo/Decision"))).before args0 about1 = true := code_word (m := ⟨6, 1⟩) (meth := k6m1) (c := k6c1) (by decide +kernel) rfl rfl rfl (by decide +kernel)
set_option maxRecDepth 65536 in
theorem w_c16 : (Jvm.Cond.code ({ cls := "com/example/aforo/aforo/Decision", name := "<init>", desc := "(JJJZ)V" } : Jvm.MethodName) prog_4_method_1_code (8 : Nat) (Option.none : Option Jvm.ClassFile.FieldType)).before args0 about1 = true := code_word (m := ⟨6, 0⟩) (meth := k6m0) (c := k6c0) (by decide +kernel) rfl rfl rfl (by decide +kernel)
set_option maxRecDepth 65536 in
theorem w_c17 : (Jvm.Cond.code ({ cls := "com/example/aforo/aforo/SlidingLog", name := "isIdle", desc := "(JJ)Z" } : Jvm.MethodName) prog_17_method_4_code (5 : Nat) (Option.some Jvm.ClassFile.FieldType.boolean)).before args0 about1 = true := code_word (m := ⟨3, 2⟩) (meth := k3m2) (c := k3c2) (by decide +kernel) rfl rfl rfl (by decide +kernel)
def codes1 : List Jvm.Cond := [Jvm.Cond.code x code maxLocals ret, Jvm.Cond.code ({ cls := "com/example/aforo/aforo/SlidingLog", name := "<init>", desc := "()V" } : Jvm.MethodName) prog_17_method_1_code (1 : Nat) (Option.none : Option Jvm.ClassFile.FieldType), Jvm.Cond.code ({ cls := "com/example/aforo/aforo/KeyState", name := "<init>", desc := "()V" } : Jvm.MethodName) prog_10_method_1_code (1 : Nat) (Option.none : Option Jvm.ClassFile.FieldType), Jvm.Cond.code ({ cls := "java/lang/Object", name := "<init>", desc := "()V" } : Jvm.MethodName) object_method_1_code (1 : Nat) (Option.none : Option Jvm.ClassFile.FieldType), Jvm.Cond.code ({ cls := "com/example/aforo/aforo/SlidingLog", name := "acquire", desc := "(JJJ)Lcom/example/aforo/aforo/Decision;" } : Jvm.MethodName) prog_17_method_2_code (10 : Nat) (Option.some (Jvm.ClassFile.FieldType.object "com/example/aforo/aforo/Decision")), Jvm.Cond.code ({ cls := "com/example/aforo/aforo/SlidingLog", name := "forgetUpTo", desc := "(J)V" } : Jvm.MethodName) prog_17_method_6_code (4 : Nat) (Option.none : Option Jvm.ClassFile.FieldType), Jvm.Cond.code ({ cls := "com/example/aforo/aforo/SlidingLog", name := "countedUpTo", desc := "(J)I" } : Jvm.MethodName) prog_17_method_7_code (8 : Nat) (Option.some Jvm.ClassFile.FieldType.int), Jvm.Cond.code ({ cls := "java/lang/Math", name := "min", desc := "(II)I" } : Jvm.MethodName) jdk_29_method_69_code (2 : Nat) (Option.some Jvm.ClassFile.FieldType.int), Jvm.Cond.code ({ cls := "com/example/aforo/aforo/SlidingLog", name := "slot", desc := "(I)I" } : Jvm.MethodName) prog_17_method_11_code (3 : Nat) (Option.some Jvm.ClassFile.FieldType.int), Jvm.Cond.code ({ cls := "com/example/aforo/aforo/SlidingLog", name := "insert", desc := "(JJ)V" } : Jvm.MethodName) prog_17_method_8_code (6 : Nat) (Option.none : Option Jvm.ClassFile.FieldType), Jvm.Cond.code ({ cls := "java/lang/Math", name := "max", desc := "(JJ)J" } : Jvm.MethodName) jdk_29_method_66_code (4 : Nat) (Option.some Jvm.ClassFile.FieldType.long), Jvm.Cond.code ({ cls := "java/lang/Math", name := "min", desc := "(JJ)J" } : Jvm.MethodName) jdk_29_method_70_code (4 : Nat) (Option.some Jvm.ClassFile.FieldType.long), Jvm.Cond.code ({ cls := "com/example/aforo/aforo/SlidingLog", name := "resize", desc := "(I)V" } : Jvm.MethodName) prog_17_method_9_code (4 : Nat) (Option.none : Option Jvm.ClassFile.FieldType), Jvm.Cond.code ({ cls := "com/example/aforo/aforo/SlidingLog", name := "untilFree", desc := "(JJ)J" } : Jvm.MethodName) prog_17_method_5_code (5 : Nat) (Option.some Jvm.ClassFile.FieldType.long), Jvm.Cond.code ({ cls := "com/example/aforo/aforo/SlidingLog", name := "timeAt", desc := "(I)J" } : Jvm.MethodName) prog_17_method_10_code (2 : Nat) (Option.some Jvm.ClassFile.FieldType.long), Jvm.Cond.code ({ cls := "com/example/aforo/aforo/Decision", name := "admit", desc := "(JJ)Lcom/example/aforo/aforo/Decision;" } : Jvm.MethodName) prog_4_method_2_code (4 : Nat) (Option.some (Jvm.ClassFile.FieldType.object "com/example/aforo/aforo/Decision")), Jvm.Cond.code ({ cls := "com/example/aforo/aforo/Decision", name := "<init>", desc := "(JJJZ)V" } : Jvm.MethodName) prog_4_method_1_code (8 : Nat) (Option.none : Option Jvm.ClassFile.FieldType), Jvm.Cond.code ({ cls := "com/example/aforo/aforo/SlidingLog", name := "isIdle", desc := "(JJ)Z" } : Jvm.MethodName) prog_17_method_4_code (5 : Nat) (Option.some Jvm.ClassFile.FieldType.boolean)]
set_option maxRecDepth 65536 in
theorem codes_eq : words1.filter isCode = codes1 := rfl
theorem w_codes : ∀ c ∈ words1.filter isCode, c.before args0 about1 = true := by
  rw [codes_eq]
  intro c hc
  simp only [codes1, List.mem_cons, List.not_mem_nil, or_false] at hc
  rcases hc with rfl | rfl | rfl | rfl | rfl | rfl | rfl | rfl | rfl | rfl | rfl | rfl | rfl | rfl | rfl | rfl | rfl | rfl
  · exact w_c0
  · exact w_c1
  · exact w_c2
  · exact w_c3
  · exact w_c4
  · exact w_c5
  · exact w_c6
  · exact w_c7
  · exact w_c8
  · exact w_c9
  · exact w_c10
  · exact w_c11
  · exact w_c12
  · exact w_c13
  · exact w_c14
  · exact w_c15
  · exact w_c16
  · exact w_c17
set_option maxRecDepth 65536 in
theorem w_t1 : (words1.take 24).all (fun c => isCode c || c.before args0 about1) = true := by decide +kernel
set_option maxRecDepth 65536 in
theorem w_t2 : ((words1.drop 24).take 24).all (fun c => isCode c || c.before args0 about1) = true := by decide +kernel
set_option maxRecDepth 65536 in
theorem w_t3 : (((words1.drop 24).drop 24).take 24).all (fun c => isCode c || c.before args0 about1) = true := by decide +kernel
set_option maxRecDepth 65536 in
theorem w_t4 : ((((words1.drop 24).drop 24).drop 24).take 24).all (fun c => isCode c || c.before args0 about1) = true := by decide +kernel
set_option maxRecDepth 65536 in
theorem w_t5 : ((((words1.drop 24).drop 24).drop 24).drop 24).all (fun c => isCode c || c.before args0 about1) = true := by decide +kernel
theorem w_tables : (allAtoms (Jvm.Cond.code x code maxLocals ret :: tables_1)).before args0 about1 = true := by
  rw [allAtoms_all]
  show words1.all (fun c => c.before args0 about1) = true
  refine all_split ?_ w_codes
  rw [← List.take_append_drop 24 words1, List.all_append, w_t1, ← List.take_append_drop 24 (words1.drop 24), List.all_append, w_t2, ← List.take_append_drop 24 ((words1.drop 24).drop 24), List.all_append, w_t3, ← List.take_append_drop 24 (((words1.drop 24).drop 24).drop 24), List.all_append, w_t4, w_t5]
  rfl
set_option maxRecDepth 65536 in
theorem w_case : (Jvm.Cond.and given_1 narrow_1).before args0 about1 = true := by decide +kernel
theorem w_applies : (headSpec (Jvm.Cond.code x code maxLocals ret :: tables_1) room_1).applies x e0.platform about1 = true :=
  (Spec.applies_iff w_frames).mpr ⟨w_running, w_runnable, w_alone, w_named, w_hears, w_ripe, w_room, w_tables⟩
theorem atStart : AtStart classFile x code maxLocals ret World_1 tables_1 room_1 Calls_1 rest_1 Pre_1 launch0 p0 e0 about1 theMethod args0 below0 :=
  ⟨lists_1, trivial, launch0.admits_env _ _ _, launch0.least_env, fairChoices_fair.cas, fairChoices_fair.clock, w_frames, w_args, w_heap, w_applies, trivial, trivial, w_case⟩
end start1
theorem witness_1 : WitnessClaimed_1 := ⟨start1.p0, start1.e0, start1.about1, start1.theMethod, start1.args0, start1.below0, start1.atStart⟩
end Jvm.Pilot.@@N@@
