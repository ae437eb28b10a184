import JvmDerived
import JvmDerived.Pilot.@@N@@Statement
import JvmDerived.Pilot.@@N@@Code
set_option linter.unusedVariables false
set_option linter.unusedSimpArgs false
namespace Jvm.Pilot.@@N@@
open Jvm Jvm.ClassFile Sem Op Lib Jvm.Free Jvm.Stand Jvm.LawKit Jvm.RoadKit Bundle Jvm.Pilot.@@N@@.Jvm.D
/-! own layer: a run that ends well, said backwards -/
section OwnGo
variable {p : Program} {l : Launch} {e : Env} {R : Room} {s : State} {m : MethodId} {args : Array Value} {below : List Frame} {meth : Method} {c : Code} {T T' : State} {locs : List Loc} {cells slots : Nat} {Z : State} {a0 : Array Value} {h : Heap} {Q : Option Value → Heap → List Loc → Prop} {C S maxL0 : Nat} {g g' : JFrame}
def Go (p : Program) (e : Env) (below : List Frame) (s : State) (Q : Option Value → Heap → List Loc → Prop) (C S : Nat) (T : State) (g : JFrame) : Prop :=
  ∃ s₂ o, Steps p.tables e below (T.setTop g) s₂ ∧ s₂.status = .running ∧ Ended s₂ below o ∧ ∃ v L, o = .returned v ∧ Q v s₂.heap L ∧ FrameEnd s o s₂ L C S
def Ct (p : Program) (s : State) (m : MethodId) (meth : Method) (c : Code) (Z : State) (own nm : String) (bytes : ByteArray) (maxL : Nat) (ret : Option FieldType) : Prop :=
  p.tables.exec = Jvm.exec ∧ Z.Warmed39 s.vm ∧ s.vm.findClass own = some m.cls ∧ c.code = bytes ∧ c.maxLocals = maxL ∧ meth.sig.returnType = ret ∧ meth.locks = false ∧ meth.name = nm
theorem go_st (k : ∀ t, Steps p.tables e below (T'.setTop g') t → Steps p.tables e below (T.setTop g) t) (q : Go p e below s Q C S T' g') : Go p e below s Q C S T g := by
  obtain ⟨s2, o, q1, q2⟩ := q
  exact ⟨s2, o, k _ q1, q2⟩
theorem castGo (q : g = g') (k : Go p e below s Q C S T g') : Go p e below s Q C S T g := by rw [q]; exact k
theorem go_tr (k : Steps p.tables e below (T.setTop g) (T'.setTop g')) (q : Go p e below s Q C S T' g') : Go p e below s Q C S T g := by
  obtain ⟨s2, o, q1, q2⟩ := q
  exact ⟨s2, o, k.trans q1, q2⟩
theorem go_end (X : Stand p l e R s m args below meth c T locs cells slots) (hlk : meth.locks = false) {v : Option Value} (hv : meth.sig.returnType = none → v = none)
    (hr : ∀ fs, (∀ (f : JFrame) (acts : List Action), f.method = m → f.locked = none → f.entered = [] → (doReturn e (T.setTop f) acts v).1 = T.setFrames fs) → Steps p.tables e below (T.setTop g) (T.setFrames fs))
    (hC : cells ≤ C) (hS : slots ≤ S) (hQ : Q v T.heap locs) : Go p e below s Q C S T g := by
  obtain ⟨fs, h1, hrun, hended, hW, hsame⟩ := X.leave (v := v) hv hlk
  exact ⟨_, _, hr fs h1, hrun, hended, _, _, rfl, hQ, ⟨_, rfl⟩, hW, hsame.mono hC hS⟩
theorem go_retI (X : Stand p l e R s m args below meth c T locs cells slots) (hx : p.tables.exec = Jvm.exec) (hlk : meth.locks = false) (hret : meth.sig.returnType = some .int) {pc : Nat} {Ls : Array Slot} {z : Int32} {rest : List Value} (hd : decode c.code pc = .ok (.ireturn, 1))
    (hC : cells ≤ C) (hS : slots ≤ S) (hQ : Q (some (.int z)) T.heap locs) : Go p e below s Q C S T (mkF m pc Ls (.int z :: rest)) :=
  go_end X hlk (fun h => by rw [hret] at h; cases h) (fun fs h1 => retOut X hx hret rfl (Or.inl ⟨rfl, Or.inl rfl, _, rfl⟩) hd h1) hC hS hQ
theorem go_retL (X : Stand p l e R s m args below meth c T locs cells slots) (hx : p.tables.exec = Jvm.exec) (hlk : meth.locks = false) (hret : meth.sig.returnType = some .long) {pc : Nat} {Ls : Array Slot} {z : Int64} {rest : List Value} (hd : decode c.code pc = .ok (.lreturn, 1))
    (hC : cells ≤ C) (hS : slots ≤ S) (hQ : Q (some (.long z)) T.heap locs) : Go p e below s Q C S T (mkF m pc Ls (.long z :: rest)) :=
  go_end X hlk (fun h => by rw [hret] at h; cases h) (fun fs h1 => retOut X hx hret rfl (Or.inr (Or.inl ⟨rfl, rfl, _, rfl⟩)) hd h1) hC hS hQ
theorem go_retD (X : Stand p l e R s m args below meth c T locs cells slots) (hx : p.tables.exec = Jvm.exec) (hlk : meth.locks = false) (hret : meth.sig.returnType = some .double) {pc : Nat} {Ls : Array Slot} {z : UInt64} {rest : List Value} (hd : decode c.code pc = .ok (.dreturn, 1))
    (hC : cells ≤ C) (hS : slots ≤ S) (hQ : Q (some (.double z)) T.heap locs) : Go p e below s Q C S T (mkF m pc Ls (.double z :: rest)) :=
  go_end X hlk (fun h => by rw [hret] at h; cases h) (fun fs h1 => retOut X hx hret rfl (Or.inr (Or.inr (Or.inl ⟨rfl, rfl, _, rfl⟩))) hd h1) hC hS hQ
theorem go_retA (X : Stand p l e R s m args below meth c T locs cells slots) (hx : p.tables.exec = Jvm.exec) (hlk : meth.locks = false) {t : FieldType} (hret : meth.sig.returnType = some t) (ht : t.isReference = true) {w : Value} (hw : w.isRef = true) {pc : Nat} {Ls : Array Slot} {rest : List Value} (hd : decode c.code pc = .ok (.areturn, 1))
    (hC : cells ≤ C) (hS : slots ≤ S) (hQ : Q (some w) T.heap locs) : Go p e below s Q C S T (mkF m pc Ls (w :: rest)) :=
  go_end X hlk (fun h => by rw [hret] at h; cases h) (fun fs h1 => retOut X hx hret (by cases t <;> simp_all [FieldType.isReference, narrow] <;> cases w <;> simp_all [Value.isRef, narrow]) (Or.inr (Or.inr (Or.inr (Or.inr ⟨rfl, ht, hw⟩)))) hd h1) hC hS hQ
theorem go_retB (X : Stand p l e R s m args below meth c T locs cells slots) (hx : p.tables.exec = Jvm.exec) (hlk : meth.locks = false) (hret : meth.sig.returnType = some .boolean) {pc : Nat} {Ls : Array Slot} {z w : Int32} {rest : List Value} (hd : decode c.code pc = .ok (.ireturn, 1)) (hw : z &&& 1 = w)
    (hC : cells ≤ C) (hS : slots ≤ S) (hQ : Q (some (.int w)) T.heap locs) : Go p e below s Q C S T (mkF m pc Ls (.int z :: rest)) := by
  subst hw
  exact go_end X hlk (fun h => by rw [hret] at h; cases h) (fun fs h1 => retN X hx (t := .boolean) hret (by simp) hd h1) hC hS hQ
theorem go_ret0 (X : Stand p l e R s m args below meth c T locs cells slots) (hx : p.tables.exec = Jvm.exec) (hlk : meth.locks = false) (hret : meth.sig.returnType = none) {pc : Nat} {Ls : Array Slot} (hd : decode c.code pc = .ok (.return_, 1))
    (hC : cells ≤ C) (hS : slots ≤ S) (hQ : Q none T.heap locs) : Go p e below s Q C S T (mkF m pc Ls []) :=
  go_end X hlk (fun _ => rfl) (fun fs h1 => X.returnOut hx hret hd h1) hC hS hQ
def Met (l : Launch) (y : MethodName) (bytes : ByteArray) (maxL : Nat) (ret : Option FieldType) (ws : List Cond) (rm : Room) (Z : State) (as' : Array Value) (h0 : Heap) (Q : Option Value → Heap → List Loc → Prop) (C S : Nat) : Prop :=
  MetFree l y (head1 (Jvm.Cond.code y bytes maxL ret :: ws) rm) (fun a U => a = as' ∧ Z.Warmed39 U.vm ∧ U.heap = h0) (fun _ _ _ _ _ => True) (fun _ U o U' => ∃ v L, o = .returned v ∧ Q v U'.heap L ∧ FrameEnd U o U' L C S)
def QV (w : Option Value) (h0 : Heap) (n0 : Nat) (v : Option Value) (h : Heap) (L : List Loc) : Prop := v = w ∧ Fr n0 L ∧ h = h0
def QF (w : Option Value) (n0 : Nat) (v : Option Value) (h : Heap) (L : List Loc) : Prop := v = w ∧ Fr n0 L
theorem own_body {y : MethodName} {bytes : ByteArray} {maxL : Nat} {ret : Option FieldType} {rm : Room} {as' : Array Value} {h0 : Heap} {ws : List Cond} (hn : plainFor y = true) {C S : Nat}
    (H : ∀ p e s m below meth c s₁, Ct p s m meth c Z y.cls y.name bytes maxL ret → Stand p l e rm s m as' below meth c s₁ [] 0 0 → s₁.heap = h0 → Go p e below s Q C S s₁ (entryFrame m as' maxL)) :
    Met l y bytes maxL ret ws rm Z as' h0 Q C S := by
  refine MetFree.of_bodySF hn hisR ?_
  intro p e s m args below meth c s₁ Bd hml0 hP hK
  obtain ⟨rfl, hZ, hh⟩ := hP
  have hown : s.vm.findClass y.cls = some m.cls := findClass_of_methodNamed Bd.named
  have hnm := (name_of_methodNamed Bd.named Bd.method).1
  have X0 : Stand p l e rm s m args below meth c s₁ [] 0 0 := Stand.of_body Bd
  have e0 : s₁.heap = h0 := by rw [← hh, Bd.state]; rfl
  exact H p e s m below meth c s₁ ⟨Bd.exec, hZ, hown, Bd.bytes, hml0, Bd.returns, Bd.notSynchronized, hnm⟩ X0 e0
theorem go_callS (X : Stand p l e R s m args below meth c T locs cells slots) (hx : p.tables.exec = Jvm.exec) (hZ : Z.Warmed39 s.vm) (hml : c.maxLocals = maxL0) {own : String} {index : Nat} {y : MethodName} {bytes : ByteArray} {maxL : Nat} {ret : Option FieldType} (hown : s.vm.findClass own = some m.cls)
    (w1 : (Cond.methodLink own index y).before a0 Z = true) (w2 : (Cond.static y).before a0 Z = true) (w3 : (Cond.initialized y.cls).before a0 Z = true) (w4 : (Cond.code y bytes maxL ret).before a0 Z = true) (eT : T.heap = h) {argsL rest : List Value} {rm : Room} {Q' : Option Value → Heap → List Loc → Prop} {W : Nat}
    (hM : Met l y bytes maxL ret [] rm Z argsL.toArray h Q' rm.cells rm.slots)
    (hd : decode c.code g.pc = .ok (.invokestatic index, 3)) (hs : g.stack = argsL.reverse ++ rest) (hg : g.method = m) (hsz : g.locals.size = maxL0) (hlen : ∀ sig, parseMethodDescriptor y.desc = some sig → argsL.length = sig.parameters.length) (hW : 2 * g.monitorRoom + (rest.map fun v => v.category).sum ≤ W)
    (hy : y.cls ≠ "java/lang/invoke/MethodHandle" ∧ y.cls ≠ "java/lang/invoke/VarHandle") (hf : rm.frames + 1 ≤ R.frames) (hl : W + (maxL + 11) + rm.locals ≤ R.locals) (hc : cells + rm.cells ≤ R.cells) (hsl : slots + rm.slots ≤ R.slots)
    (k : ∀ T' v L, Stand p l e R s m args below meth c T' (locs ++ L) (cells + rm.cells) (slots + rm.slots) → Q' v T'.heap L → Go p e below s Q C S T' { g with pc := g.pc + 3, stack := v.toList ++ rest }) : Go p e below s Q C S T g := by
  obtain ⟨v, _, ⟨T1, L1, k1, n1⟩, -, X1, ⟨Lc, hQ, l1, y1, z1⟩, st⟩ := Jvm.LawKit.callS X hx (y := y) hown (mvT hZ w1) (mvT hZ w2) (mvT hZ w3) (mvT hZ w4) hy (backOf (W := W) hM hZ w4 w3 hf hl) (g := g) hg (hsz.trans hml.symm) (argsL := argsL) (rest := rest) hlen hs hW hd (fun _ _ => ⟨rfl, eT, hc, hsl⟩)
  dsimp only [Pt.U, Pt.locs, Pt.cells, Pt.slots] at X1 l1 y1 z1 st hQ
  subst l1 y1 z1
  exact go_st st (k _ _ _ X1 hQ)
theorem go_callV (X : Stand p l e R s m args below meth c T locs cells slots) (hx : p.tables.exec = Jvm.exec) (hZ : Z.Warmed39 s.vm) (hml : c.maxLocals = maxL0) {own K : String} {index : Nat} {y z : MethodName} {bytes : ByteArray} {maxL : Nat} {ret : Option FieldType} (hown : s.vm.findClass own = some m.cls)
    (w1 : (Cond.methodLink own index y).before a0 Z = true) (w2 : (Cond.declares y).before a0 Z = true) (w2' : NotFace s y) (w3 : (Cond.selects K y z).before a0 Z = true) (w3' : (Cond.instanceMethod z).before a0 Z = true) (w4 : (Cond.code z bytes maxL ret).before a0 Z = true) (w5 : (Cond.initialized z.cls).before a0 Z = true) (eT : T.heap = h) {a : Addr} (E : Exa Z h a K) {argsL rest : List Value} {rm : Room} {Q' : Option Value → Heap → List Loc → Prop} {W : Nat}
    (hM : Met l z bytes maxL ret [] rm Z (.ref a :: argsL).toArray h Q' rm.cells rm.slots)
    (hd : decode c.code g.pc = .ok (.invokevirtual index, 3)) (hs : g.stack = argsL.reverse ++ .ref a :: rest) (hg : g.method = m) (hsz : g.locals.size = maxL0) (hlen : ∀ sig, parseMethodDescriptor y.desc = some sig → argsL.length = sig.parameters.length) (hW : 2 * g.monitorRoom + (rest.map fun v => v.category).sum ≤ W)
    (hy : y.cls ≠ "java/lang/invoke/MethodHandle" ∧ y.cls ≠ "java/lang/invoke/VarHandle") (hf : rm.frames + 1 ≤ R.frames) (hl : W + (maxL + 11) + rm.locals ≤ R.locals) (hc : cells + rm.cells ≤ R.cells) (hsl : slots + rm.slots ≤ R.slots)
    (k : ∀ T' v L, Stand p l e R s m args below meth c T' (locs ++ L) (cells + rm.cells) (slots + rm.slots) → Q' v T'.heap L → Go p e below s Q C S T' { g with pc := g.pc + 3, stack := v.toList ++ rest }) : Go p e below s Q C S T g := by
  obtain ⟨cB, kB, q1, q2, q3⟩ := isOf hZ eT E
  obtain ⟨v, _, ⟨T1, L1, k1, n1⟩, -, X1, ⟨Lc, hQ, l1, y1, z1⟩, st⟩ := X.virtualBack hx (y := y) (z := z) hown (mvT hZ w1) (mvT hZ w2) w2' (mvT hZ w3) (mvT hZ w3') hy (backOf (W := W) hM hZ w4 w5 hf hl) q1 q3 (g := g) hg (hsz.trans hml.symm) (Steps.refl _) (argsL := argsL) (rest := rest) hlen hs hW hd (fun _ _ => ⟨rfl, eT, hc, hsl⟩)
  dsimp only [Pt.U, Pt.locs, Pt.cells, Pt.slots] at X1 l1 y1 z1 st hQ
  subst l1 y1 z1
  exact go_tr st (k _ _ _ X1 hQ)
theorem go_callU (X : Stand p l e R s m args below meth c T locs cells slots) (hx : p.tables.exec = Jvm.exec) (hZ : Z.Warmed39 s.vm) (hml : c.maxLocals = maxL0) {own K owner : String} {index : Nat} {y z : MethodName} {bytes : ByteArray} {maxL : Nat} {ret : Option FieldType} (hown : s.vm.findClass own = some m.cls)
    (w1 : (Cond.methodLink own index y).before a0 Z = true) (w2 : (Cond.sameMethod y.cls owner y.name y.desc).before a0 Z = true) (w2' : (Cond.declares ⟨owner, y.name, y.desc⟩).before a0 Z = true) (ho : owner ≠ "java/lang/invoke/MethodHandle" ∧ owner ≠ "java/lang/invoke/VarHandle") (w3 : (Cond.selects K y z).before a0 Z = true) (w3' : (Cond.instanceMethod z).before a0 Z = true) (w4 : (Cond.code z bytes maxL ret).before a0 Z = true) (w5 : (Cond.initialized z.cls).before a0 Z = true) (eT : T.heap = h) {a : Addr} (E : Exa Z h a K) {argsL rest : List Value} {rm : Room} {Q' : Option Value → Heap → List Loc → Prop} {W : Nat}
    (hM : Met l z bytes maxL ret [] rm Z (.ref a :: argsL).toArray h Q' rm.cells rm.slots)
    (hd : decode c.code g.pc = .ok (.invokevirtual index, 3)) (hs : g.stack = argsL.reverse ++ .ref a :: rest) (hg : g.method = m) (hsz : g.locals.size = maxL0) (hlen : ∀ sig, parseMethodDescriptor y.desc = some sig → argsL.length = sig.parameters.length) (hW : 2 * g.monitorRoom + (rest.map fun v => v.category).sum ≤ W)
    (hf : rm.frames + 1 ≤ R.frames) (hl : W + (maxL + 11) + rm.locals ≤ R.locals) (hc : cells + rm.cells ≤ R.cells) (hsl : slots + rm.slots ≤ R.slots)
    (k : ∀ T' v L, Stand p l e R s m args below meth c T' (locs ++ L) (cells + rm.cells) (slots + rm.slots) → Q' v T'.heap L → Go p e below s Q C S T' { g with pc := g.pc + 3, stack := v.toList ++ rest }) : Go p e below s Q C S T g := by
  obtain ⟨cB, kB, q1, q2, q3⟩ := isOf hZ eT E
  obtain ⟨v, _, ⟨T1, L1, k1, n1⟩, -, X1, ⟨Lc, hQ, l1, y1, z1⟩, st⟩ := X.virtualBackUp hx (x := y) (y := z) hown (mvT hZ w1) (mvT hZ w2) (mvT hZ w2') ho (mvT hZ w3) (mvT hZ w3') (backOf (W := W) hM hZ w4 w5 hf hl) q1 q3 (g := g) hg (hsz.trans hml.symm) (Steps.refl _) (argsL := argsL) (rest := rest) hlen hs hW hd (fun _ _ => ⟨rfl, eT, hc, hsl⟩)
  dsimp only [Pt.U, Pt.locs, Pt.cells, Pt.slots] at X1 l1 y1 z1 st hQ
  subst l1 y1 z1
  exact go_tr st (k _ _ _ X1 hQ)
theorem go_callI (X : Stand p l e R s m args below meth c T locs cells slots) (hx : p.tables.exec = Jvm.exec) (hZ : Z.Warmed39 s.vm) (hml : c.maxLocals = maxL0) {own : String} {index : Nat} {y : MethodName} {bytes : ByteArray} {maxL : Nat} (hown : s.vm.findClass own = some m.cls) (hy1 : y.name = "<init>")
    (w1 : (Cond.methodLink own index y).before a0 Z = true) (w2 : (Cond.instanceMethod y).before a0 Z = true) (w4 : (Cond.code y bytes maxL none).before a0 Z = true) (w5 : (Cond.initialized y.cls).before a0 Z = true) (eT : T.heap = h) {a : Addr} {argsL rest : List Value} {rm : Room} {Q' : Option Value → Heap → List Loc → Prop} {W : Nat}
    (hM : Met l y bytes maxL none [] rm Z (.ref a :: argsL).toArray h Q' rm.cells rm.slots)
    (hd : decode c.code g.pc = .ok (.invokespecial index, 3)) (hs : g.stack = argsL.reverse ++ .ref a :: rest) (hg : g.method = m) (hsz : g.locals.size = maxL0) (hlen : ∀ sig, parseMethodDescriptor y.desc = some sig → argsL.length = sig.parameters.length) (hW : 2 * g.monitorRoom + (rest.map fun v => v.category).sum ≤ W)
    (hy : y.cls ≠ "java/lang/invoke/MethodHandle" ∧ y.cls ≠ "java/lang/invoke/VarHandle") (hf : rm.frames + 1 ≤ R.frames) (hl : W + (maxL + 11) + rm.locals ≤ R.locals) (hc : cells + rm.cells ≤ R.cells) (hsl : slots + rm.slots ≤ R.slots)
    (k : ∀ T' v L, Stand p l e R s m args below meth c T' (locs ++ L) (cells + rm.cells) (slots + rm.slots) → Q' v T'.heap L → Go p e below s Q C S T' { g with pc := g.pc + 3, stack := v.toList ++ rest }) : Go p e below s Q C S T g := by
  obtain ⟨v, _, ⟨T1, L1, k1, n1⟩, -, X1, ⟨Lc, hQ, l1, y1, z1⟩, st⟩ := X.specialBack hx (y := y) hy1 hown (mvT hZ w1) (mvT hZ w2) (mvT hZ w4) hy (backOf (W := W) hM hZ w4 w5 hf hl) (g := g) hg (hsz.trans hml.symm) (Steps.refl _) (a := a) (argsL := argsL) (rest := rest) hlen hs hW hd (fun _ _ => ⟨rfl, eT, hc, hsl⟩)
  dsimp only [Pt.U, Pt.locs, Pt.cells, Pt.slots] at X1 l1 y1 z1 st hQ
  subst l1 y1 z1
  exact go_tr st (k _ _ _ X1 hQ)
theorem go_getF (X : Stand p l e R s m args below meth c T locs cells slots) (hx : p.tables.exec = Jvm.exec) (hZ : Z.Warmed39 s.vm) {own R0 O n d host : String} {index : Nat} (hown : s.vm.findClass own = some m.cls) (w : (Cond.fieldLink own index R0 n d).before a0 Z = true ∨ (Cond.fieldLinkNest own index R0 n d host).before a0 Z = true) (via : Via Z R0 O n d)
    (eT : T.heap = h) {a : Addr} {v : Value} (F : Fld Z h a O n d v) {rest : List Value} (hd : decode c.code g.pc = .ok (.getfield index, 3)) (hg : g.method = m) (hs : g.stack = .ref a :: rest)
    (k : ∀ T', Stand p l e R s m args below meth c T' locs cells slots → T'.heap = h → Go p e below s Q C S T' { g with pc := g.pc + 3, stack := v :: rest }) : Go p e below s Q C S T g := by
  obtain ⟨T1, X1, e1, st⟩ := getF X hx hZ hown w via eT F hg hs hd
  exact go_st st (k _ X1 e1)
theorem go_getS (X : Stand p l e R s m args below meth c T locs cells slots) (hx : p.tables.exec = Jvm.exec) (hZ : Z.Warmed39 s.vm) {own R0 O n d host : String} {index : Nat} (hown : s.vm.findClass own = some m.cls) (w : (Cond.fieldLink own index R0 n d).before a0 Z = true ∨ (Cond.fieldLinkNest own index R0 n d host).before a0 Z = true) (via : Via Z R0 O n d)
    (eT : T.heap = h) {v : Value} (F : Sta Z h O n d v) (hd : decode c.code g.pc = .ok (.getstatic index, 3)) (hg : g.method = m)
    (k : ∀ T', Stand p l e R s m args below meth c T' locs cells slots → T'.heap = h → Go p e below s Q C S T' { g with pc := g.pc + 3, stack := v :: g.stack }) : Go p e below s Q C S T g := by
  obtain ⟨T1, X1, e1, st⟩ := getS2 X hx hZ hown w via eT F hg hd
  exact go_st st (k _ X1 e1)
theorem go_putF (X : Stand p l e R s m args below meth c T locs cells slots) (hx : p.tables.exec = Jvm.exec) (hZ : Z.Warmed39 s.vm) {own R0 O n d host K : String} {index kk : Nat} {ty : FieldType} (hown : s.vm.findClass own = some m.cls) (w : (Cond.fieldLink own index R0 n d).before a0 Z = true ∨ (Cond.fieldLinkNest own index R0 n d host).before a0 Z = true) (via : Via Z R0 O n d)
    (eT : T.heap = h) {a : Addr} {v old : Value} (F : Fld Z h a O n d old) (E : Exa Z h a K) (L : (Cond.lays K O n d).before a0 Z = true ∨ ((Cond.laysFinal K O n d).before a0 Z = true ∧ own = O ∧ meth.name = "<init>")) (wi : (Cond.instantiable K kk).before a0 Z = true)
    (hty : parseFieldDescriptor d = some ty) (hn : narrow ty v = v) (hf : fits ty v = true) {rest : List Value} (hd : decode c.code g.pc = .ok (.putfield index, 3)) (hg : g.method = m) (hs : g.stack = v :: .ref a :: rest)
    (k : ∀ T' h', Stand p l e R s m args below meth c T' (locs ++ [⟨a, Jvm.RoadKit.slotOf Z O n d⟩]) cells slots → T'.heap = h' → Wr h h' a (Jvm.RoadKit.slotOf Z O n d) v → Go p e below s Q C S T' { g with pc := g.pc + 3, stack := rest }) : Go p e below s Q C S T g := by
  obtain ⟨T1, h1, X1, e1, W1, st⟩ := putF X hx hZ hown w via eT F E L wi hty hn hf hg hs hd
  exact go_st st (k _ _ X1 e1 W1)
theorem go_newO (X : Stand p l e R s m args below meth c T locs cells slots) (hx : p.tables.exec = Jvm.exec) (hZ : Z.Warmed39 s.vm) {own K : String} {index n : Nat} (hown : s.vm.findClass own = some m.cls) (w : (Cond.classLink own index K).before a0 Z = true) (wi : (Cond.instantiable K n).before a0 Z = true) (wz : (Cond.initialized K).before a0 Z = true) (eT : T.heap = h)
    (hd : decode c.code g.pc = .ok (.new index, 3)) (hg : g.method = m) (hc : cells + 1 ≤ R.cells) (hl : slots + n ≤ R.slots)
    (k : ∀ T' h' a, a = h.size → Stand p l e R s m args below meth c T' locs (cells + 1) (slots + n) → T'.heap = h' → Ext h h' → Exa Z h' a K → (∀ {O nm d : String} {ty : FieldType}, Laid Z a0 K O nm d → parseFieldDescriptor d = some ty → Fld Z h' a O nm d (defaultValue ty)) → Go p e below s Q C S T' { g with pc := g.pc + 3, stack := .ref a :: g.stack }) : Go p e below s Q C S T g := by
  obtain ⟨T1, h1, X1, e1, E1, A1, D1, -, st⟩ := newO X hx hZ hown w wi wz eT hg hd hc hl
  exact go_st st (k _ _ _ rfl X1 e1 E1 A1 D1)
theorem go_initO (X : Stand p l e R s m args below meth c T locs cells slots) (hx : p.tables.exec = Jvm.exec) (hZ : Z.Warmed39 s.vm) (hml : c.maxLocals = maxL0) {own : String} {idx : Nat} (hown : s.vm.findClass own = some m.cls) (w1 : (Cond.methodLink own idx Lib.objectInit).before a0 Z = true) (w2 : (Cond.instanceMethod Lib.objectInit).before a0 Z = true)
    (w3 : (Cond.code Lib.objectInit ⟨#[0xb1]⟩ 1 none).before a0 Z = true) (eT : T.heap = h) {a : Addr} {rest : List Value} (hd : decode c.code g.pc = .ok (.invokespecial idx, 3)) (hg : g.method = m) (hsz : g.locals.size = maxL0) (hs : g.stack = .ref a :: rest)
    (hf : 1 ≤ R.frames) {W : Nat} (hW : 2 * g.monitorRoom + (rest.map fun v => v.category).sum ≤ W) (hl : W + 12 ≤ R.locals)
    (k : ∀ T', Stand p l e R s m args below meth c T' locs cells slots → T'.heap = h → Go p e below s Q C S T' { g with pc := g.pc + 3, stack := rest }) : Go p e below s Q C S T g := by
  obtain ⟨T1, X1, e1, st⟩ := initO X hx hZ hown w1 w2 w3 eT hg (hsz.trans hml.symm) hs hd hf hW hl
  exact go_st st (k _ X1 e1)
theorem own_lrem {tb : Tables} [Ours tb] {target : State} (hh : At T m c below) (hx : tb.exec = Jvm.exec) (hg : g.method = m) {x y : Int64} {rest : List Value} (hd : decode c.code g.pc = .ok (.lrem, 1)) (hs : g.stack = .long y :: .long x :: rest) (hy : y ≠ 0)
    (hr : Steps tb e below (T.setTop { g with pc := g.pc + 1, stack := .long (x % y) :: rest }) target) : Steps tb e below (T.setTop g) target :=
  XT.lrem hh hx hg hd hs hy (by rw [lrem_mod]; exact hr)
/-! arrays, their places by a function -/
def GA (Z : State) (h : Heap) (a : Addr) (ty : FieldType) (n : Nat) (f : Nat → Value) : Prop := ∃ cl : Cell, Arr Z h a cl ty ∧ cl.slots.size = n ∧ n < 2 ^ 31 ∧ ∀ i, i < n → cl.slots[i]? = some (f i)
theorem GA.lt {a : Addr} {ty : FieldType} {n : Nat} {f : Nat → Value} (A : GA Z h a ty n f) : a < h.size := by
  obtain ⟨cl, A1, -⟩ := A
  exact A1.lt
theorem GA.ext {a : Addr} {ty : FieldType} {n : Nat} {f : Nat → Value} {h' : Heap} (A : GA Z h a ty n f) (E : Ext h h') : GA Z h' a ty n f := by
  obtain ⟨cl, A1, r⟩ := A
  exact ⟨cl, A1.ext E, r⟩
theorem GA.other {a b : Addr} {ty : FieldType} {n sl : Nat} {v : Value} {f : Nat → Value} {h' : Heap} (A : GA Z h b ty n f) (W : Wr h h' a sl v) (q : b ≠ a) : GA Z h' b ty n f := by
  obtain ⟨cl, A1, r⟩ := A
  exact ⟨cl, A1.other W q, r⟩
theorem GA.keep {a : Addr} {ty : FieldType} {n : Nat} {f : Nat → Value} {h' : Heap} {ws : List Addr} (A : GA Z h a ty n f) (K : Keep h h' ws) (q : a ∉ ws) : GA Z h' a ty n f := by
  obtain ⟨cl, A1, r⟩ := A
  exact ⟨cl, ⟨K.2.1 _ _ A1.1 q, A1.2⟩, r⟩
theorem GA.congr {a : Addr} {ty : FieldType} {n : Nat} {f f' : Nat → Value} (A : GA Z h a ty n f) (q : ∀ i, i < n → f i = f' i) : GA Z h a ty n f' := by
  obtain ⟨cl, A1, A2, A3, A4⟩ := A
  exact ⟨cl, A1, A2, A3, fun i hi => (A4 i hi).trans (by rw [q i hi])⟩
theorem GA.set {a : Addr} {ty : FieldType} {n j : Nat} {v : Value} {f : Nat → Value} {h' : Heap} (A : GA Z h a ty n f) (W : Wr h h' a j v) : GA Z h' a ty n (fun i => if i = j then v else f i) := by
  obtain ⟨cl, A1, A2, A3, A4⟩ := A
  obtain ⟨c2, w1, w2, w3, w4⟩ := W
  obtain rfl : cl = c2 := Option.some.inj (A1.1.symm.trans w1)
  refine ⟨cl.setSlot j v, A1.same ⟨cl, w1, w2, w3, w4⟩, (sz_set cl j v).trans A2, A3, fun i hi => ?_⟩
  show (cl.slots.setIfInBounds j v)[i]? = _
  rw [Array.getElem?_setIfInBounds]
  by_cases q : i = j
  · subst q
    rw [if_pos rfl, if_pos w3]
    simp only [if_true]
  · rw [if_neg (fun h => q h.symm)]
    simp only [if_neg q]
    exact A4 i hi
theorem GA.len {a : Addr} {ty : FieldType} {n : Nat} {f : Nat → Value} (A : GA Z h a ty n f) : n < 2 ^ 31 := by
  obtain ⟨cl, -, -, A3, -⟩ := A
  exact A3
def OC (Z : State) (h : Heap) (a : Addr) (ty : FieldType) (K : String) : Prop := ∃ cl : Cell, Arr Z h a cl ty ∧ Ovr Z cl.cls K
theorem OC.ext {a : Addr} {ty : FieldType} {K : String} {h' : Heap} (A : OC Z h a ty K) (E : Ext h h') : OC Z h' a ty K := by
  obtain ⟨cl, A1, A2⟩ := A
  exact ⟨cl, A1.ext E, A2⟩
theorem OC.wr {a b : Addr} {ty : FieldType} {K : String} {sl : Nat} {v : Value} {h' : Heap} (A : OC Z h b ty K) (W : Wr h h' a sl v) : OC Z h' b ty K := by
  obtain ⟨cl, A1, A2⟩ := A
  by_cases q : b = a
  · subst q
    exact ⟨_, A1.same W, A2⟩
  · exact ⟨cl, A1.other W q, A2⟩
theorem OC.keep {b : Addr} {ty : FieldType} {K : String} {h' : Heap} {ws : List Addr} (A : OC Z h b ty K) (Kp : Keep h h' ws) : OC Z h' b ty K := by
  obtain ⟨cl, ⟨A1, A3, A4⟩, A2⟩ := A
  obtain ⟨c', q1, q2, q3, q4⟩ := Kp.2.2 _ _ A1
  refine ⟨c', ⟨q1, ?_, by rw [q3]; exact A4⟩, by rw [q2]; exact A2⟩
  unfold State.isArrayOf at A3 ⊢
  rw [q2, q3]
  exact A3
theorem OC.sto {a y : Addr} {ty : FieldType} {K : String} (A : OC Z h a ty K) (I : Ins Z h y K true) : Sto Z h a (.ref y) := by
  obtain ⟨cl, A1, A2⟩ := A
  exact Sto.of A1 A2 I
theorem own_in {j : Int32} {n : Nat} (q : 0 ≤ j.toInt ∧ j.toInt < n) : ¬ (j < 0 ∨ n ≤ j.toNatClampNeg) := by
  have h1 : (j.toNatClampNeg : Int) = j.toInt := by have := q.1; simp only [Int32.toNatClampNeg]; omega
  rw [Int32.lt_iff_toInt_lt]
  have : (0 : Int32).toInt = 0 := rfl
  omega
theorem go_alen (X : Stand p l e R s m args below meth c T locs cells slots) (hx : p.tables.exec = Jvm.exec) (hZ : Z.Warmed39 s.vm) (eT : T.heap = h) {a : Addr} {ty : FieldType} {n : Nat} {f : Nat → Value} (A : GA Z h a ty n f) {rest : List Value}
    (hd : decode c.code g.pc = .ok (.arraylength, 1)) (hg : g.method = m) (hs : g.stack = .ref a :: rest) (w : Int32) (hw : Nat.toInt32 n = w) (k : Go p e below s Q C S T { g with pc := g.pc + 1, stack := .int w :: rest }) : Go p e below s Q C S T g := by
  obtain ⟨cl, A1, rfl, -, -⟩ := A
  subst hw
  exact go_st (fun t => X.arraylength hx (by rw [eT]; exact A1.1) (State.isArrayOf_alike hZ.alike A1.2.1) hg hs hd t) k
theorem go_iald (X : Stand p l e R s m args below meth c T locs cells slots) (hx : p.tables.exec = Jvm.exec) (hZ : Z.Warmed39 s.vm) (eT : T.heap = h) {a : Addr} {n : Nat} {f : Nat → Value} (A : GA Z h a .int n f) {j : Int32} {rest : List Value}
    (hd : decode c.code g.pc = .ok (.iaload, 1)) (hg : g.method = m) (hs : g.stack = .int j :: .ref a :: rest) (q : 0 ≤ j.toInt ∧ j.toInt < n) (w : Value) (hw : f j.toNatClampNeg = w) (k : Go p e below s Q C S T { g with pc := g.pc + 1, stack := w :: rest }) : Go p e below s Q C S T g := by
  obtain ⟨cl, A1, rfl, -, A4⟩ := A
  have q2 := own_in q
  refine go_st (fun t => X.iaload hx (j := j) (v := w) (by rw [eT]; exact A1.1) (State.isArrayOf_alike hZ.alike A1.2.1) A1.2.2 q2 ?_ hg hs hd t) k
  rw [A4 _ (by omega), hw]
theorem go_lald (X : Stand p l e R s m args below meth c T locs cells slots) (hx : p.tables.exec = Jvm.exec) (hZ : Z.Warmed39 s.vm) (eT : T.heap = h) {a : Addr} {n : Nat} {f : Nat → Value} (A : GA Z h a .long n f) {j : Int32} {rest : List Value}
    (hd : decode c.code g.pc = .ok (.laload, 1)) (hg : g.method = m) (hs : g.stack = .int j :: .ref a :: rest) (q : 0 ≤ j.toInt ∧ j.toInt < n) (w : Value) (hw : f j.toNatClampNeg = w) (k : Go p e below s Q C S T { g with pc := g.pc + 1, stack := w :: rest }) : Go p e below s Q C S T g := by
  obtain ⟨cl, A1, rfl, -, A4⟩ := A
  have q2 := own_in q
  refine go_st (fun t => X.laload hx (j := j) (v := w) (by rw [eT]; exact A1.1) (State.isArrayOf_alike hZ.alike A1.2.1) A1.2.2 q2 ?_ hg hs hd t) k
  rw [A4 _ (by omega), hw]
theorem go_bald (X : Stand p l e R s m args below meth c T locs cells slots) (hx : p.tables.exec = Jvm.exec) (hZ : Z.Warmed39 s.vm) (eT : T.heap = h) {a : Addr} {n : Nat} {f : Nat → Value} (A : GA Z h a .byte n f) {j : Int32} {rest : List Value}
    (hd : decode c.code g.pc = .ok (.baload, 1)) (hg : g.method = m) (hs : g.stack = .int j :: .ref a :: rest) (q : 0 ≤ j.toInt ∧ j.toInt < n) (w : Value) (hw : f j.toNatClampNeg = w) (k : Go p e below s Q C S T { g with pc := g.pc + 1, stack := w :: rest }) : Go p e below s Q C S T g := by
  obtain ⟨cl, A1, rfl, -, A4⟩ := A
  have q2 := own_in q
  refine go_st (fun t => X.baloadBytes hx (j := j) (v := w) (by rw [eT]; exact A1.1) (State.isArrayOf_alike hZ.alike A1.2.1) A1.2.2 q2 ?_ hg hs hd t) k
  rw [A4 _ (by omega), hw]
theorem go_cald (X : Stand p l e R s m args below meth c T locs cells slots) (hx : p.tables.exec = Jvm.exec) (hZ : Z.Warmed39 s.vm) (eT : T.heap = h) {a : Addr} {n : Nat} {f : Nat → Value} (A : GA Z h a .char n f) {j : Int32} {rest : List Value}
    (hd : decode c.code g.pc = .ok (.caload, 1)) (hg : g.method = m) (hs : g.stack = .int j :: .ref a :: rest) (q : 0 ≤ j.toInt ∧ j.toInt < n) (w : Value) (hw : f j.toNatClampNeg = w) (k : Go p e below s Q C S T { g with pc := g.pc + 1, stack := w :: rest }) : Go p e below s Q C S T g := by
  obtain ⟨cl, A1, rfl, -, A4⟩ := A
  have q2 := own_in q
  refine go_st (fun t => X.caload hx (j := j) (v := w) (by rw [eT]; exact A1.1) (State.isArrayOf_alike hZ.alike A1.2.1) A1.2.2 q2 ?_ hg hs hd t) k
  rw [A4 _ (by omega), hw]
theorem go_aald (X : Stand p l e R s m args below meth c T locs cells slots) (hx : p.tables.exec = Jvm.exec) (hZ : Z.Warmed39 s.vm) (eT : T.heap = h) {a : Addr} {ty : FieldType} {n : Nat} {f : Nat → Value} (A : GA Z h a ty n f) (hty : ty.isReference = true) {j : Int32} {rest : List Value}
    (hd : decode c.code g.pc = .ok (.aaload, 1)) (hg : g.method = m) (hs : g.stack = .int j :: .ref a :: rest) (q : 0 ≤ j.toInt ∧ j.toInt < n) (w : Value) (hw : f j.toNatClampNeg = w) (k : Go p e below s Q C S T { g with pc := g.pc + 1, stack := w :: rest }) : Go p e below s Q C S T g := by
  obtain ⟨cl, A1, rfl, -, A4⟩ := A
  have q2 := own_in q
  refine go_st (fun t => X.aaload hx (j := j) (v := w) (by rw [eT]; exact A1.1) (State.isArrayOf_alike hZ.alike A1.2.1) hty A1.2.2 q2 ?_ hg hs hd t) k
  rw [A4 _ (by omega), hw]
theorem go_iast (X : Stand p l e R s m args below meth c T locs cells slots) (hx : p.tables.exec = Jvm.exec) (hZ : Z.Warmed39 s.vm) (eT : T.heap = h) {a : Addr} {n : Nat} {f : Nat → Value} (A : GA Z h a .int n f) {j x : Int32} {rest : List Value}
    (hd : decode c.code g.pc = .ok (.iastore, 1)) (hg : g.method = m) (hs : g.stack = .int x :: .int j :: .ref a :: rest) (q : 0 ≤ j.toInt ∧ j.toInt < n)
    (k : ∀ T' h', Stand p l e R s m args below meth c T' (locs ++ [⟨a, j.toNatClampNeg⟩]) cells slots → T'.heap = h' → Wr h h' a j.toNatClampNeg (.int x) → GA Z h' a .int n (fun i => if i = j.toNatClampNeg then .int x else f i) → Go p e below s Q C S T' { g with pc := g.pc + 1, stack := rest }) : Go p e below s Q C S T g := by
  have A' := A
  obtain ⟨cl, A1, rfl, -, A4⟩ := A
  obtain ⟨T1, h1, X1, e1, W1, st⟩ := stI X hx hZ eT A1 (own_in q) hg hs hd
  exact go_st st (k _ _ X1 e1 W1 (A'.set W1))
theorem go_last (X : Stand p l e R s m args below meth c T locs cells slots) (hx : p.tables.exec = Jvm.exec) (hZ : Z.Warmed39 s.vm) (eT : T.heap = h) {a : Addr} {n : Nat} {f : Nat → Value} (A : GA Z h a .long n f) {j : Int32} {x : Int64} {rest : List Value}
    (hd : decode c.code g.pc = .ok (.lastore, 1)) (hg : g.method = m) (hs : g.stack = .long x :: .int j :: .ref a :: rest) (q : 0 ≤ j.toInt ∧ j.toInt < n)
    (k : ∀ T' h', Stand p l e R s m args below meth c T' (locs ++ [⟨a, j.toNatClampNeg⟩]) cells slots → T'.heap = h' → Wr h h' a j.toNatClampNeg (.long x) → GA Z h' a .long n (fun i => if i = j.toNatClampNeg then .long x else f i) → Go p e below s Q C S T' { g with pc := g.pc + 1, stack := rest }) : Go p e below s Q C S T g := by
  have A' := A
  obtain ⟨cl, A1, rfl, -, A4⟩ := A
  obtain ⟨T1, h1, X1, e1, W1, st⟩ := stJ X hx hZ eT A1 (own_in q) hg hs hd
  exact go_st st (k _ _ X1 e1 W1 (A'.set W1))
theorem go_bast (X : Stand p l e R s m args below meth c T locs cells slots) (hx : p.tables.exec = Jvm.exec) (hZ : Z.Warmed39 s.vm) (eT : T.heap = h) {a : Addr} {n : Nat} {f : Nat → Value} (A : GA Z h a .byte n f) {j x : Int32} {rest : List Value}
    (hd : decode c.code g.pc = .ok (.bastore, 1)) (hg : g.method = m) (hs : g.stack = .int x :: .int j :: .ref a :: rest) (q : 0 ≤ j.toInt ∧ j.toInt < n)
    (k : ∀ T' h', Stand p l e R s m args below meth c T' (locs ++ [⟨a, j.toNatClampNeg⟩]) cells slots → T'.heap = h' → Wr h h' a j.toNatClampNeg (.int x.toInt8.toInt32) → GA Z h' a .byte n (fun i => if i = j.toNatClampNeg then .int x.toInt8.toInt32 else f i) → Go p e below s Q C S T' { g with pc := g.pc + 1, stack := rest }) : Go p e below s Q C S T g := by
  have A' := A
  obtain ⟨cl, A1, rfl, -, A4⟩ := A
  obtain ⟨T1, h1, X1, e1, W1, st⟩ := stB X hx hZ eT A1 (own_in q) hg hs hd
  exact go_st st (k _ _ X1 e1 W1 (A'.set W1))
theorem go_cast (X : Stand p l e R s m args below meth c T locs cells slots) (hx : p.tables.exec = Jvm.exec) (hZ : Z.Warmed39 s.vm) (eT : T.heap = h) {a : Addr} {n : Nat} {f : Nat → Value} (A : GA Z h a .char n f) {j x : Int32} {rest : List Value}
    (hd : decode c.code g.pc = .ok (.castore, 1)) (hg : g.method = m) (hs : g.stack = .int x :: .int j :: .ref a :: rest) (q : 0 ≤ j.toInt ∧ j.toInt < n)
    (k : ∀ T' h', Stand p l e R s m args below meth c T' (locs ++ [⟨a, j.toNatClampNeg⟩]) cells slots → T'.heap = h' → Wr h h' a j.toNatClampNeg (.int (nar .char x)) → GA Z h' a .char n (fun i => if i = j.toNatClampNeg then .int (nar .char x) else f i) → Go p e below s Q C S T' { g with pc := g.pc + 1, stack := rest }) : Go p e below s Q C S T g := by
  have A' := A
  obtain ⟨cl, A1, rfl, -, A4⟩ := A
  obtain ⟨T1, h1, X1, e1, W1, st⟩ := stC X hx hZ eT A1 (own_in q) hg hs hd
  exact go_st st (k _ _ X1 e1 W1 (A'.set W1))
theorem go_aast (X : Stand p l e R s m args below meth c T locs cells slots) (hx : p.tables.exec = Jvm.exec) (hZ : Z.Warmed39 s.vm) (eT : T.heap = h) {a : Addr} {ty : FieldType} {n : Nat} {f : Nat → Value} (A : GA Z h a ty n f) (hty : ty.isReference = true) {j : Int32} {v : Value} (F : Sto Z h a v) {rest : List Value}
    (hd : decode c.code g.pc = .ok (.aastore, 1)) (hg : g.method = m) (hs : g.stack = v :: .int j :: .ref a :: rest) (q : 0 ≤ j.toInt ∧ j.toInt < n)
    (k : ∀ T' h', Stand p l e R s m args below meth c T' (locs ++ [⟨a, j.toNatClampNeg⟩]) cells slots → T'.heap = h' → Wr h h' a j.toNatClampNeg v → GA Z h' a ty n (fun i => if i = j.toNatClampNeg then v else f i) → Go p e below s Q C S T' { g with pc := g.pc + 1, stack := rest }) : Go p e below s Q C S T g := by
  have A' := A
  obtain ⟨cl, A1, rfl, -, A4⟩ := A
  obtain ⟨T1, h1, X1, e1, W1, st⟩ := stR X hx hZ eT A1 (own_in q) hty F hg hs hd
  exact go_st st (k _ _ X1 e1 W1 (A'.set W1))
theorem own_clamp {n : Int32} {N : Nat} (q : n.toInt = N) : n.toNatClampNeg = N := by simp only [Int32.toNatClampNeg]; omega
theorem own_nneg {n : Int32} {N : Nat} (q : n.toInt = N) : ¬ n < 0 := by
  rw [Int32.lt_iff_toInt_lt]
  have : (0 : Int32).toInt = 0 := rfl
  omega
theorem go_newP (X : Stand p l e R s m args below meth c T locs cells slots) (hx : p.tables.exec = Jvm.exec) (hZ : Z.Warmed39 s.vm) {aty : ArrayType} (w : (Cond.arrayClass (newarray.typeOf aty)).before a0 Z = true) (eT : T.heap = h) {n : Int32} {rest : List Value} (hd : decode c.code g.pc = .ok (.newarray aty, 2)) (hg : g.method = m) (hs : g.stack = .int n :: rest)
    (N : Nat) (hn : n.toInt = N) (cap : Nat) (hcap : N ≤ cap) (hb : cap * 8 ≤ 536870912) (hc : cells + 1 ≤ R.cells) (hl : slots + cap ≤ R.slots)
    (k : ∀ T' h' a, a = h.size → Stand p l e R s m args below meth c T' locs (cells + 1) (slots + cap) → T'.heap = h' → Ext h h' → GA Z h' a (newarray.typeOf aty) N (fun _ => defaultValue (newarray.typeOf aty)) → Go p e below s Q C S T' { g with pc := g.pc + 2, stack := .ref a :: rest }) : Go p e below s Q C S T g := by
  have hN := own_clamp hn
  have hn0 := own_nneg hn
  obtain ⟨T1, h1, cA, X1, e1, E1, A1, st⟩ := newP X hx hZ w eT hg hd hs hn0 (cap := cap) (by omega) hb hc hl
  refine go_st st (k _ _ _ rfl X1 e1 E1 ⟨_, A1, (sz_new _ _ _).trans hN, ?_, fun i hi => ?_⟩)
  · have := (rng32 n).2
    omega
  · show (Array.replicate n.toNatClampNeg (defaultValue _))[i]? = _
    rw [hN, Array.getElem?_replicate, if_pos hi]
theorem go_newR (X : Stand p l e R s m args below meth c T locs cells slots) (hx : p.tables.exec = Jvm.exec) (hZ : Z.Warmed39 s.vm) {own K : String} {index : Nat} (hown : s.vm.findClass own = some m.cls) (w1 : (Cond.classLink own index K).before a0 Z = true) (w2 : (Cond.arrayOver (.object K)).before a0 Z = true) (eT : T.heap = h) {n : Int32} {rest : List Value} (hd : decode c.code g.pc = .ok (.anewarray index, 3)) (hg : g.method = m) (hs : g.stack = .int n :: rest)
    (N : Nat) (hn : n.toInt = N) (cap : Nat) (hcap : N ≤ cap) (hb : cap * 8 ≤ 536870912) (hc : cells + 1 ≤ R.cells) (hl : slots + cap ≤ R.slots)
    (k : ∀ T' h' a, a = h.size → Stand p l e R s m args below meth c T' locs (cells + 1) (slots + cap) → T'.heap = h' → Ext h h' → GA Z h' a (.object K) N (fun _ => .null) → OC Z h' a (.object K) K → Go p e below s Q C S T' { g with pc := g.pc + 3, stack := .ref a :: rest }) : Go p e below s Q C S T g := by
  have hN := own_clamp hn
  have hn0 := own_nneg hn
  obtain ⟨T1, h1, cA, X1, e1, E1, A1, O1, st⟩ := newR X hx hZ hown w1 w2 eT hg hd hs hn0 (cap := cap) (by omega) hb hc hl
  refine go_st st (k _ _ _ rfl X1 e1 E1 ⟨_, A1, (sz_new _ _ _).trans hN, ?_, fun i hi => ?_⟩ ⟨_, A1, O1⟩)
  · have := (rng32 n).2
    omega
  · show (Array.replicate n.toNatClampNeg (defaultValue _))[i]? = _
    rw [hN, Array.getElem?_replicate, if_pos hi]
    rfl
end OwnGo
def RR (V : Int64) : Nat → Int64
  | 0 => V
  | k + 1 => XT.ushrL (RR V k) (7 : Int32)
def UU (x : Int64) : Nat := x.toBitVec.toNat
def FF (f : Nat → Int32) (o : Nat) (V : Int64) (k j : Nat) : Int32 := if o ≤ j ∧ j < o + k then ((((RR V (j - o)) &&& (127 : Int64)) ||| (128 : Int64)).toInt32).toInt8.toInt32 else f j
def FE (f : Nat → Int32) (o : Nat) (V : Int64) (k j : Nat) : Int32 := if j = o + k then ((RR V k).toInt32).toInt8.toInt32 else FF f o V k j
theorem own_n16 {n : Nat} (h : n < 100) : (Int32.ofNat n).toInt = n := by
  exact Int32.toInt_ofNat_of_lt (by omega)
theorem own_and3 (x : Int32) : ∃ n : Nat, n < 4 ∧ x &&& 3 = Int32.ofNat n := by
  have h := c_mask x 3 2 (by decide) (by decide)
  refine ⟨(x &&& 3).toInt.toNat, by omega, ?_⟩
  rw [← Int32.toInt_inj, own_n16 (by omega)]
  omega
theorem own_inb {o k : Nat} (ho : o < 4) (hk : k < 10) : 0 ≤ (Int32.ofNat (o + k)).toInt ∧ (Int32.ofNat (o + k)).toInt < (16 : Nat) := by
  rw [own_n16 (by omega)]
  omega
theorem own_next {o k : Nat} (ho : o < 4) (hk : k < 10) : (Int32.ofNat (o + k)) + (1 : Int32) = Int32.ofNat (o + (k + 1)) := by
  rw [← Int32.toInt_inj, own_n16 (by omega)]
  have h := c_iadd (Int32.ofNat (o + k)) 1
  have h2 := rng32 (Int32.ofNat (o + k) + 1)
  rw [own_n16 (by omega)] at h
  have e1 : (1 : Int32).toInt = 1 := rfl
  omega
theorem own_cl16 {n : Nat} (h : n < 100) : (Int32.ofNat n).toNatClampNeg = n := own_clamp (own_n16 h)
theorem own_i8 (x : Int32) : x.toInt8.toInt32.toInt8.toInt32 = x.toInt8.toInt32 := by simp
theorem own_b8 (x : Int32) : x.toInt8.toInt32.toInt8.toInt32 = x.toInt8.toInt32 := own_i8 x
theorem own_st1 {Z : State} {h : Heap} {a : Addr} {f : Nat → Int32} {o k : Nat} {V : Int64} (ho : o < 4) (hk : k < 10)
    (G : GA Z h a .byte 16 (fun i => if i = (Int32.ofNat (o + k)).toNatClampNeg then .int (((((RR V k) &&& (127 : Int64)) ||| (128 : Int64)).toInt32).toInt8.toInt32).toInt8.toInt32 else (fun j => Value.int (FF f o V k j)) i)) : GA Z h a .byte 16 (fun j => .int (FF f o V (k + 1) j)) := by
  refine G.congr fun i hi => ?_
  rw [own_cl16 (by omega), own_i8]
  unfold FF
  by_cases q : i = o + k
  · subst q
    rw [if_pos rfl, if_pos (by omega), show o + k - o = k by omega]
  · rw [if_neg q]
    by_cases z : o ≤ i ∧ i < o + k
    · show Value.int _ = _
      rw [if_pos z, if_pos (by omega)]
    · show Value.int _ = _
      rw [if_neg z, if_neg (by omega)]
theorem own_st2 {Z : State} {h : Heap} {a : Addr} {f : Nat → Int32} {o k : Nat} {V : Int64} (ho : o < 4) (hk : k < 10)
    (G : GA Z h a .byte 16 (fun i => if i = (Int32.ofNat (o + k)).toNatClampNeg then .int (((RR V k).toInt32).toInt8.toInt32).toInt8.toInt32 else (fun j => Value.int (FF f o V k j)) i)) : GA Z h a .byte 16 (fun j => .int (FE f o V k j)) := by
  refine G.congr fun i hi => ?_
  rw [own_cl16 (by omega), own_i8]
  unfold FE
  by_cases q : i = o + k
  · rw [if_pos q, if_pos q]
  · rw [if_neg q, if_neg q]
theorem own_fill {Z : State} {h : Heap} {a : Addr} {x : Int32} {k jj : Nat} (hx : x.toInt8.toInt32 = x) (hj : jj = k) (G : GA Z h a .byte 16 (fun i => if i = jj then .int x.toInt8.toInt32 else Value.int (if i < k then x else 0))) : GA Z h a .byte 16 (fun j => .int ((fun i => if i < k + 1 then x else 0) j)) := by
  subst hj
  refine G.congr fun i hi => ?_
  rw [hx]
  by_cases q : i = jj
  · have z : i < jj + 1 := by omega
    simp only [q, if_true] at *
    simp
  · rw [if_neg q]
    by_cases z : i < jj
    · have z2 : i < jj + 1 := by omega
      simp only [z, z2, if_true]
    · have z2 : ¬ i < jj + 1 := by omega
      simp only [z, z2, if_false]
theorem own_F0 {Z : State} {h : Heap} {a : Addr} {f : Nat → Int32} {o : Nat} {V : Int64} (G : GA Z h a .byte 16 (fun j => .int (f j))) : GA Z h a .byte 16 (fun j => .int (FF f o V 0 j)) := by
  refine G.congr fun i hi => ?_
  unfold FF
  rw [if_neg (by omega)]
theorem UU_lt (x : Int64) : UU x < 2 ^ 64 := x.toBitVec.isLt
theorem UU_inj {x y : Int64} (h : UU x = UU y) : x = y := by
  apply Int64.toBitVec_inj.mp
  exact BitVec.eq_of_toNat_eq h
theorem UU_ushrK (x : Int64) (y : Int32) (k : Nat) (hs : (y.toInt64.toUInt64 &&& Int64.toUInt64 63) = UInt64.ofNat k) (hk : k < 64) : UU (XT.ushrL x y) = UU x / 2 ^ k := by
  unfold UU XT.ushrL
  rw [hs]
  show (x.toUInt64 >>> UInt64.ofNat k).toNat = x.toUInt64.toNat / 2 ^ k
  rw [UInt64.toNat_shiftRight, UInt64.toNat_ofNat', Nat.mod_eq_of_lt (by omega : k < 2 ^ 64), Nat.mod_eq_of_lt hk, Nat.shiftRight_eq_div_pow]
theorem own_and128 (x : Int64) : UU (x &&& (-128 : Int64)) = UU x / 128 * 128 := by
  have hlt := x.toBitVec.isLt
  unfold UU
  rw [Int64.toBitVec_and, BitVec.toNat_and]
  have e : (-128 : Int64).toBitVec.toNat = 18446744073709551488 := by decide
  rw [e]
  generalize x.toBitVec.toNat = n at *
  have h1 : (n &&& 18446744073709551488) / 2 ^ 7 = n / 2 ^ 7 := by
    rw [Nat.and_div_two_pow]
    have e2 : (18446744073709551488 : Nat) / 2 ^ 7 = 2 ^ 57 - 1 := by decide
    rw [e2, Nat.and_two_pow_sub_one_eq_mod]
    omega
  have h2 : (n &&& 18446744073709551488) % 2 ^ 7 = 0 := by
    rw [Nat.and_mod_two_pow]
    have e2 : (18446744073709551488 : Nat) % 2 ^ 7 = 0 := by decide
    rw [e2, Nat.and_zero]
  omega
theorem own_big {x : Int64} (h : ¬ (x &&& (-128 : Int64)) = (0 : Int64)) : 128 ≤ UU x := by
  rcases Nat.lt_or_ge (UU x) 128 with z | z
  · exact absurd (UU_inj (by rw [own_and128]; show _ = 0; omega)) h
  · exact z
theorem own_small {x : Int64} (h : (x &&& (-128 : Int64)) = (0 : Int64)) : UU x < 128 := by
  have h2 := own_and128 x
  rw [h] at h2
  have e : UU 0 = 0 := by decide
  rw [e] at h2
  omega
theorem UU_RR (V : Int64) : ∀ k, UU (RR V k) = UU V / 128 ^ k
  | 0 => by simp [RR]
  | k + 1 => by
    show UU (XT.ushrL (RR V k) (7 : Int32)) = _
    rw [UU_ushrK _ 7 7 (by decide) (by decide), UU_RR V k, Nat.pow_succ 128 k, Nat.div_div_eq_div_mul]
theorem own_k9 {V : Int64} {k : Nat} (hall : ∀ i, i < k → 128 ≤ UU (RR V i)) (hb : 128 ≤ UU (RR V k)) : k < 9 := by
  rcases Nat.lt_or_ge k 9 with h | h
  · exact h
  · have h9 : 128 ≤ UU (RR V 9) := by
      rcases Nat.lt_or_ge 9 k with z | z
      · exact hall 9 z
      · have : k = 9 := by omega
        rw [← this]; exact hb
    rw [UU_RR] at h9
    have := UU_lt V
    have e : (128 : Nat) ^ 9 = 9223372036854775808 := by decide
    rw [e] at h9
    omega
theorem own_all2 {V : Int64} {k : Nat} (hall : ∀ i, i < k → 128 ≤ UU (RR V i)) (hb : 128 ≤ UU (RR V k)) : ∀ i, i < k + 1 → 128 ≤ UU (RR V i) := by
  intro i hi
  rcases Nat.lt_or_ge i k with z | z
  · exact hall i z
  · have : i = k := by omega
    rw [this]; exact hb
theorem own_end {o k : Nat} (ho : o < 4) (hk : k < 10) : Int32.ofNat (o + (k + 1)) = Int32.ofNat o + Int32.ofNat (k + 1) := by
  rw [← Int32.toInt_inj, own_n16 (by omega)]
  have h := c_iadd (Int32.ofNat o) (Int32.ofNat (k + 1))
  have h2 := rng32 (Int32.ofNat o + Int32.ofNat (k + 1))
  rw [own_n16 (by omega), own_n16 (by omega)] at h
  omega

theorem d2_0 : decode method_3_code 0 = .ok (.lload_n 0, 1) := by decide +kernel
theorem d2_1 : decode method_3_code 1 = .ok (.bipush 7, 2) := by decide +kernel
theorem d2_3 : decode method_3_code 3 = .ok (.lushr, 1) := by decide +kernel
theorem d2_4 : decode method_3_code 4 = .ok (.lconst 0, 1) := by decide +kernel
theorem d2_5 : decode method_3_code 5 = .ok (.lcmp, 1) := by decide +kernel
theorem d2_6 : decode method_3_code 6 = .ok (.ifCond .ne 5, 3) := by decide +kernel
theorem d2_9 : decode method_3_code 9 = .ok (.iconst 1, 1) := by decide +kernel
theorem d2_10 : decode method_3_code 10 = .ok (.ireturn, 1) := by decide +kernel
theorem d2_11 : decode method_3_code 11 = .ok (.lload_n 0, 1) := by decide +kernel
theorem d2_12 : decode method_3_code 12 = .ok (.bipush 14, 2) := by decide +kernel
theorem d2_14 : decode method_3_code 14 = .ok (.lushr, 1) := by decide +kernel
theorem d2_15 : decode method_3_code 15 = .ok (.lconst 0, 1) := by decide +kernel
theorem d2_16 : decode method_3_code 16 = .ok (.lcmp, 1) := by decide +kernel
theorem d2_17 : decode method_3_code 17 = .ok (.ifCond .ne 5, 3) := by decide +kernel
theorem d2_20 : decode method_3_code 20 = .ok (.iconst 2, 1) := by decide +kernel
theorem d2_21 : decode method_3_code 21 = .ok (.ireturn, 1) := by decide +kernel
theorem d2_22 : decode method_3_code 22 = .ok (.lload_n 0, 1) := by decide +kernel
theorem d2_23 : decode method_3_code 23 = .ok (.bipush 21, 2) := by decide +kernel
theorem d2_25 : decode method_3_code 25 = .ok (.lushr, 1) := by decide +kernel
theorem d2_26 : decode method_3_code 26 = .ok (.lconst 0, 1) := by decide +kernel
theorem d2_27 : decode method_3_code 27 = .ok (.lcmp, 1) := by decide +kernel
theorem d2_28 : decode method_3_code 28 = .ok (.ifCond .ne 5, 3) := by decide +kernel
theorem d2_31 : decode method_3_code 31 = .ok (.iconst 3, 1) := by decide +kernel
theorem d2_32 : decode method_3_code 32 = .ok (.ireturn, 1) := by decide +kernel
theorem d2_33 : decode method_3_code 33 = .ok (.lload_n 0, 1) := by decide +kernel
theorem d2_34 : decode method_3_code 34 = .ok (.bipush 28, 2) := by decide +kernel
theorem d2_36 : decode method_3_code 36 = .ok (.lushr, 1) := by decide +kernel
theorem d2_37 : decode method_3_code 37 = .ok (.lconst 0, 1) := by decide +kernel
theorem d2_38 : decode method_3_code 38 = .ok (.lcmp, 1) := by decide +kernel
theorem d2_39 : decode method_3_code 39 = .ok (.ifCond .ne 5, 3) := by decide +kernel
theorem d2_42 : decode method_3_code 42 = .ok (.iconst 4, 1) := by decide +kernel
theorem d2_43 : decode method_3_code 43 = .ok (.ireturn, 1) := by decide +kernel
theorem d2_44 : decode method_3_code 44 = .ok (.lload_n 0, 1) := by decide +kernel
theorem d2_45 : decode method_3_code 45 = .ok (.bipush 35, 2) := by decide +kernel
theorem d2_47 : decode method_3_code 47 = .ok (.lushr, 1) := by decide +kernel
theorem d2_48 : decode method_3_code 48 = .ok (.lconst 0, 1) := by decide +kernel
theorem d2_49 : decode method_3_code 49 = .ok (.lcmp, 1) := by decide +kernel
theorem d2_50 : decode method_3_code 50 = .ok (.ifCond .ne 5, 3) := by decide +kernel
theorem d2_53 : decode method_3_code 53 = .ok (.iconst 5, 1) := by decide +kernel
theorem d2_54 : decode method_3_code 54 = .ok (.ireturn, 1) := by decide +kernel
theorem d2_55 : decode method_3_code 55 = .ok (.lload_n 0, 1) := by decide +kernel
theorem d2_56 : decode method_3_code 56 = .ok (.bipush 42, 2) := by decide +kernel
theorem d2_58 : decode method_3_code 58 = .ok (.lushr, 1) := by decide +kernel
theorem d2_59 : decode method_3_code 59 = .ok (.lconst 0, 1) := by decide +kernel
theorem d2_60 : decode method_3_code 60 = .ok (.lcmp, 1) := by decide +kernel
theorem d2_61 : decode method_3_code 61 = .ok (.ifCond .ne 6, 3) := by decide +kernel
theorem d2_64 : decode method_3_code 64 = .ok (.bipush 6, 2) := by decide +kernel
theorem d2_66 : decode method_3_code 66 = .ok (.ireturn, 1) := by decide +kernel
theorem d2_67 : decode method_3_code 67 = .ok (.lload_n 0, 1) := by decide +kernel
theorem d2_68 : decode method_3_code 68 = .ok (.bipush 49, 2) := by decide +kernel
theorem d2_70 : decode method_3_code 70 = .ok (.lushr, 1) := by decide +kernel
theorem d2_71 : decode method_3_code 71 = .ok (.lconst 0, 1) := by decide +kernel
theorem d2_72 : decode method_3_code 72 = .ok (.lcmp, 1) := by decide +kernel
theorem d2_73 : decode method_3_code 73 = .ok (.ifCond .ne 6, 3) := by decide +kernel
theorem d2_76 : decode method_3_code 76 = .ok (.bipush 7, 2) := by decide +kernel
theorem d2_78 : decode method_3_code 78 = .ok (.ireturn, 1) := by decide +kernel
theorem d2_79 : decode method_3_code 79 = .ok (.lload_n 0, 1) := by decide +kernel
theorem d2_80 : decode method_3_code 80 = .ok (.bipush 56, 2) := by decide +kernel
theorem d2_82 : decode method_3_code 82 = .ok (.lushr, 1) := by decide +kernel
theorem d2_83 : decode method_3_code 83 = .ok (.lconst 0, 1) := by decide +kernel
theorem d2_84 : decode method_3_code 84 = .ok (.lcmp, 1) := by decide +kernel
theorem d2_85 : decode method_3_code 85 = .ok (.ifCond .ne 6, 3) := by decide +kernel
theorem d2_88 : decode method_3_code 88 = .ok (.bipush 8, 2) := by decide +kernel
theorem d2_90 : decode method_3_code 90 = .ok (.ireturn, 1) := by decide +kernel
theorem d2_91 : decode method_3_code 91 = .ok (.lload_n 0, 1) := by decide +kernel
theorem d2_92 : decode method_3_code 92 = .ok (.bipush 63, 2) := by decide +kernel
theorem d2_94 : decode method_3_code 94 = .ok (.lushr, 1) := by decide +kernel
theorem d2_95 : decode method_3_code 95 = .ok (.lconst 0, 1) := by decide +kernel
theorem d2_96 : decode method_3_code 96 = .ok (.lcmp, 1) := by decide +kernel
theorem d2_97 : decode method_3_code 97 = .ok (.ifCond .ne 6, 3) := by decide +kernel
theorem d2_100 : decode method_3_code 100 = .ok (.bipush 9, 2) := by decide +kernel
theorem d2_102 : decode method_3_code 102 = .ok (.ireturn, 1) := by decide +kernel
theorem d2_103 : decode method_3_code 103 = .ok (.bipush 10, 2) := by decide +kernel
theorem d2_105 : decode method_3_code 105 = .ok (.ireturn, 1) := by decide +kernel
theorem pn0 : plainFor (⟨"com/example/query_likelihood_ranker/querylikelihoodranker/index/IndexFormatPutNumberPinLaw", "length", "(J)I"⟩ : MethodName) = true := by first | (refine plainFor_of_name ?_; simp [plainName, overriddenIn]; done) | (refine plainFor_of_name ?_; decide +kernel) | decide +kernel
def fLen (x0 : Int64) : Int32 := (if (XT.ushrL x0 (7 : Int32)) = (0 : Int64) then (1 : Int32) else (if (XT.ushrL x0 (14 : Int32)) = (0 : Int64) then (2 : Int32) else (if (XT.ushrL x0 (21 : Int32)) = (0 : Int64) then (3 : Int32) else (if (XT.ushrL x0 (28 : Int32)) = (0 : Int64) then (4 : Int32) else (if (XT.ushrL x0 (35 : Int32)) = (0 : Int64) then (5 : Int32) else (if (XT.ushrL x0 (42 : Int32)) = (0 : Int64) then (6 : Int32) else (if (XT.ushrL x0 (49 : Int32)) = (0 : Int64) then (7 : Int32) else (if (XT.ushrL x0 (56 : Int32)) = (0 : Int64) then (8 : Int32) else (if (XT.ushrL x0 (63 : Int32)) = (0 : Int64) then (9 : Int32) else (10 : Int32))))))))))
theorem ef_2 (m : MethodId) (x0 : Int64) : entryFrame m #[(.long x0)] 2 = mkF m 0 #[.val (.long x0), .second] [] := by first | (simp [entryFrame, mkF, argsToLocals, Value.category]; done) | rfl
abbrev rm_2 : Room := ({ frames := 0, cells := 0, slots := 0, locals := 0 } : Room)
set_option maxRecDepth 65536 in
set_option maxHeartbeats 4000000 in
theorem met_2 (l : Launch) (Z : State) (a0 : Array Value) (hw : ∀ d ∈ tables_1, d.before a0 Z = true) (x0 : Int64) (h0 : Heap) (n0 : Nat) :
    Met l (⟨"com/example/query_likelihood_ranker/querylikelihoodranker/index/IndexFormatPutNumberPinLaw", "length", "(J)I"⟩ : MethodName) method_3_code 2 (some FieldType.int) [] rm_2 Z #[(.long x0)] h0 (QV (some (.int (fLen x0))) h0 n0) 0 0 := by
  refine own_body pn0 ?_
  intro p e s m below meth c s₁ ct X0 e0
  have ct0 := ct
  obtain ⟨hx, hZ, hown, hby, hml, hret, hlk, hnm⟩ := ct
  have N0 := Fr.nil n0
  refine castGo (ef_2 m x0) ?_
  unfold fLen
  show Go p e below s _ _ _ s₁ (mkF m 0 #[.val (.long x0), .second] [])
  refine go_st (fun _ kq => XT.lloadN X0.here hx rfl (hb hby d2_0) rfl kq) ?_
  show Go p e below s _ _ _ s₁ (mkF m 1 #[.val (.long x0), .second] [(.long x0)])
  refine go_st (fun _ kq => XT.bipushV X0.here hx rfl (7 : Int32) (hb hby d2_1) (by decide) kq) ?_
  show Go p e below s _ _ _ s₁ (mkF m 3 #[.val (.long x0), .second] [(.int (7 : Int32)), (.long x0)])
  refine go_st (fun _ kq => XT.lushr X0.here hx rfl (hb hby d2_3) rfl kq) ?_
  show Go p e below s _ _ _ s₁ (mkF m 4 #[.val (.long x0), .second] [(.long (XT.ushrL x0 (7 : Int32)))])
  refine go_st (fun _ kq => XT.lconstV X0.here hx rfl (0 : Int64) (hb hby d2_4) (by decide) kq) ?_
  show Go p e below s _ _ _ s₁ (mkF m 5 #[.val (.long x0), .second] [(.long (0 : Int64)), (.long (XT.ushrL x0 (7 : Int32)))])
  refine go_st (fun _ kq => XT.lcmp X0.here hx rfl (hb hby d2_5) rfl kq) ?_
  show Go p e below s _ _ _ s₁ (mkF m 6 #[.val (.long x0), .second] [(.int (XT.cmpL (XT.ushrL x0 (7 : Int32)) (0 : Int64)))])
  by_cases hc1 : (XT.ushrL x0 (7 : Int32)) = (0 : Int64)
  · rw [if_pos hc1]
    refine go_st (fun _ kq => XS.ifNo X0.here hx rfl (hb hby d2_6) rfl (XT.ll_ne_f hc1) kq) ?_
    show Go p e below s _ _ _ s₁ (mkF m 9 #[.val (.long x0), .second] [])
    refine go_st (fun _ kq => XT.iconstV X0.here hx rfl (1 : Int32) (hb hby d2_9) (by decide) kq) ?_
    show Go p e below s _ _ _ s₁ (mkF m 10 #[.val (.long x0), .second] [(.int (1 : Int32))])
    exact go_retI X0 hx hlk hret (hb hby d2_10) (by decide) (by decide) ⟨rfl, N0, e0⟩
  · rw [if_neg hc1]
    refine go_st (fun _ kq => XS.ifYes X0.here hx rfl (pc0 := 6) (pc' := 11) rfl (hb hby d2_6) rfl (XT.ll_ne_t hc1) (by decide) (by decide) kq) ?_
    show Go p e below s _ _ _ s₁ (mkF m 11 #[.val (.long x0), .second] [])
    refine go_st (fun _ kq => XT.lloadN X0.here hx rfl (hb hby d2_11) rfl kq) ?_
    show Go p e below s _ _ _ s₁ (mkF m 12 #[.val (.long x0), .second] [(.long x0)])
    refine go_st (fun _ kq => XT.bipushV X0.here hx rfl (14 : Int32) (hb hby d2_12) (by decide) kq) ?_
    show Go p e below s _ _ _ s₁ (mkF m 14 #[.val (.long x0), .second] [(.int (14 : Int32)), (.long x0)])
    refine go_st (fun _ kq => XT.lushr X0.here hx rfl (hb hby d2_14) rfl kq) ?_
    show Go p e below s _ _ _ s₁ (mkF m 15 #[.val (.long x0), .second] [(.long (XT.ushrL x0 (14 : Int32)))])
    refine go_st (fun _ kq => XT.lconstV X0.here hx rfl (0 : Int64) (hb hby d2_15) (by decide) kq) ?_
    show Go p e below s _ _ _ s₁ (mkF m 16 #[.val (.long x0), .second] [(.long (0 : Int64)), (.long (XT.ushrL x0 (14 : Int32)))])
    refine go_st (fun _ kq => XT.lcmp X0.here hx rfl (hb hby d2_16) rfl kq) ?_
    show Go p e below s _ _ _ s₁ (mkF m 17 #[.val (.long x0), .second] [(.int (XT.cmpL (XT.ushrL x0 (14 : Int32)) (0 : Int64)))])
    by_cases hc2 : (XT.ushrL x0 (14 : Int32)) = (0 : Int64)
    · rw [if_pos hc2]
      refine go_st (fun _ kq => XS.ifNo X0.here hx rfl (hb hby d2_17) rfl (XT.ll_ne_f hc2) kq) ?_
      show Go p e below s _ _ _ s₁ (mkF m 20 #[.val (.long x0), .second] [])
      refine go_st (fun _ kq => XT.iconstV X0.here hx rfl (2 : Int32) (hb hby d2_20) (by decide) kq) ?_
      show Go p e below s _ _ _ s₁ (mkF m 21 #[.val (.long x0), .second] [(.int (2 : Int32))])
      exact go_retI X0 hx hlk hret (hb hby d2_21) (by decide) (by decide) ⟨rfl, N0, e0⟩
    · rw [if_neg hc2]
      refine go_st (fun _ kq => XS.ifYes X0.here hx rfl (pc0 := 17) (pc' := 22) rfl (hb hby d2_17) rfl (XT.ll_ne_t hc2) (by decide) (by decide) kq) ?_
      show Go p e below s _ _ _ s₁ (mkF m 22 #[.val (.long x0), .second] [])
      refine go_st (fun _ kq => XT.lloadN X0.here hx rfl (hb hby d2_22) rfl kq) ?_
      show Go p e below s _ _ _ s₁ (mkF m 23 #[.val (.long x0), .second] [(.long x0)])
      refine go_st (fun _ kq => XT.bipushV X0.here hx rfl (21 : Int32) (hb hby d2_23) (by decide) kq) ?_
      show Go p e below s _ _ _ s₁ (mkF m 25 #[.val (.long x0), .second] [(.int (21 : Int32)), (.long x0)])
      refine go_st (fun _ kq => XT.lushr X0.here hx rfl (hb hby d2_25) rfl kq) ?_
      show Go p e below s _ _ _ s₁ (mkF m 26 #[.val (.long x0), .second] [(.long (XT.ushrL x0 (21 : Int32)))])
      refine go_st (fun _ kq => XT.lconstV X0.here hx rfl (0 : Int64) (hb hby d2_26) (by decide) kq) ?_
      show Go p e below s _ _ _ s₁ (mkF m 27 #[.val (.long x0), .second] [(.long (0 : Int64)), (.long (XT.ushrL x0 (21 : Int32)))])
      refine go_st (fun _ kq => XT.lcmp X0.here hx rfl (hb hby d2_27) rfl kq) ?_
      show Go p e below s _ _ _ s₁ (mkF m 28 #[.val (.long x0), .second] [(.int (XT.cmpL (XT.ushrL x0 (21 : Int32)) (0 : Int64)))])
      by_cases hc3 : (XT.ushrL x0 (21 : Int32)) = (0 : Int64)
      · rw [if_pos hc3]
        refine go_st (fun _ kq => XS.ifNo X0.here hx rfl (hb hby d2_28) rfl (XT.ll_ne_f hc3) kq) ?_
        show Go p e below s _ _ _ s₁ (mkF m 31 #[.val (.long x0), .second] [])
        refine go_st (fun _ kq => XT.iconstV X0.here hx rfl (3 : Int32) (hb hby d2_31) (by decide) kq) ?_
        show Go p e below s _ _ _ s₁ (mkF m 32 #[.val (.long x0), .second] [(.int (3 : Int32))])
        exact go_retI X0 hx hlk hret (hb hby d2_32) (by decide) (by decide) ⟨rfl, N0, e0⟩
      · rw [if_neg hc3]
        refine go_st (fun _ kq => XS.ifYes X0.here hx rfl (pc0 := 28) (pc' := 33) rfl (hb hby d2_28) rfl (XT.ll_ne_t hc3) (by decide) (by decide) kq) ?_
        show Go p e below s _ _ _ s₁ (mkF m 33 #[.val (.long x0), .second] [])
        refine go_st (fun _ kq => XT.lloadN X0.here hx rfl (hb hby d2_33) rfl kq) ?_
        show Go p e below s _ _ _ s₁ (mkF m 34 #[.val (.long x0), .second] [(.long x0)])
        refine go_st (fun _ kq => XT.bipushV X0.here hx rfl (28 : Int32) (hb hby d2_34) (by decide) kq) ?_
        show Go p e below s _ _ _ s₁ (mkF m 36 #[.val (.long x0), .second] [(.int (28 : Int32)), (.long x0)])
        refine go_st (fun _ kq => XT.lushr X0.here hx rfl (hb hby d2_36) rfl kq) ?_
        show Go p e below s _ _ _ s₁ (mkF m 37 #[.val (.long x0), .second] [(.long (XT.ushrL x0 (28 : Int32)))])
        refine go_st (fun _ kq => XT.lconstV X0.here hx rfl (0 : Int64) (hb hby d2_37) (by decide) kq) ?_
        show Go p e below s _ _ _ s₁ (mkF m 38 #[.val (.long x0), .second] [(.long (0 : Int64)), (.long (XT.ushrL x0 (28 : Int32)))])
        refine go_st (fun _ kq => XT.lcmp X0.here hx rfl (hb hby d2_38) rfl kq) ?_
        show Go p e below s _ _ _ s₁ (mkF m 39 #[.val (.long x0), .second] [(.int (XT.cmpL (XT.ushrL x0 (28 : Int32)) (0 : Int64)))])
        by_cases hc4 : (XT.ushrL x0 (28 : Int32)) = (0 : Int64)
        · rw [if_pos hc4]
          refine go_st (fun _ kq => XS.ifNo X0.here hx rfl (hb hby d2_39) rfl (XT.ll_ne_f hc4) kq) ?_
          show Go p e below s _ _ _ s₁ (mkF m 42 #[.val (.long x0), .second] [])
          refine go_st (fun _ kq => XT.iconstV X0.here hx rfl (4 : Int32) (hb hby d2_42) (by decide) kq) ?_
          show Go p e below s _ _ _ s₁ (mkF m 43 #[.val (.long x0), .second] [(.int (4 : Int32))])
          exact go_retI X0 hx hlk hret (hb hby d2_43) (by decide) (by decide) ⟨rfl, N0, e0⟩
        · rw [if_neg hc4]
          refine go_st (fun _ kq => XS.ifYes X0.here hx rfl (pc0 := 39) (pc' := 44) rfl (hb hby d2_39) rfl (XT.ll_ne_t hc4) (by decide) (by decide) kq) ?_
          show Go p e below s _ _ _ s₁ (mkF m 44 #[.val (.long x0), .second] [])
          refine go_st (fun _ kq => XT.lloadN X0.here hx rfl (hb hby d2_44) rfl kq) ?_
          show Go p e below s _ _ _ s₁ (mkF m 45 #[.val (.long x0), .second] [(.long x0)])
          refine go_st (fun _ kq => XT.bipushV X0.here hx rfl (35 : Int32) (hb hby d2_45) (by decide) kq) ?_
          show Go p e below s _ _ _ s₁ (mkF m 47 #[.val (.long x0), .second] [(.int (35 : Int32)), (.long x0)])
          refine go_st (fun _ kq => XT.lushr X0.here hx rfl (hb hby d2_47) rfl kq) ?_
          show Go p e below s _ _ _ s₁ (mkF m 48 #[.val (.long x0), .second] [(.long (XT.ushrL x0 (35 : Int32)))])
          refine go_st (fun _ kq => XT.lconstV X0.here hx rfl (0 : Int64) (hb hby d2_48) (by decide) kq) ?_
          show Go p e below s _ _ _ s₁ (mkF m 49 #[.val (.long x0), .second] [(.long (0 : Int64)), (.long (XT.ushrL x0 (35 : Int32)))])
          refine go_st (fun _ kq => XT.lcmp X0.here hx rfl (hb hby d2_49) rfl kq) ?_
          show Go p e below s _ _ _ s₁ (mkF m 50 #[.val (.long x0), .second] [(.int (XT.cmpL (XT.ushrL x0 (35 : Int32)) (0 : Int64)))])
          by_cases hc5 : (XT.ushrL x0 (35 : Int32)) = (0 : Int64)
          · rw [if_pos hc5]
            refine go_st (fun _ kq => XS.ifNo X0.here hx rfl (hb hby d2_50) rfl (XT.ll_ne_f hc5) kq) ?_
            show Go p e below s _ _ _ s₁ (mkF m 53 #[.val (.long x0), .second] [])
            refine go_st (fun _ kq => XT.iconstV X0.here hx rfl (5 : Int32) (hb hby d2_53) (by decide) kq) ?_
            show Go p e below s _ _ _ s₁ (mkF m 54 #[.val (.long x0), .second] [(.int (5 : Int32))])
            exact go_retI X0 hx hlk hret (hb hby d2_54) (by decide) (by decide) ⟨rfl, N0, e0⟩
          · rw [if_neg hc5]
            refine go_st (fun _ kq => XS.ifYes X0.here hx rfl (pc0 := 50) (pc' := 55) rfl (hb hby d2_50) rfl (XT.ll_ne_t hc5) (by decide) (by decide) kq) ?_
            show Go p e below s _ _ _ s₁ (mkF m 55 #[.val (.long x0), .second] [])
            refine go_st (fun _ kq => XT.lloadN X0.here hx rfl (hb hby d2_55) rfl kq) ?_
            show Go p e below s _ _ _ s₁ (mkF m 56 #[.val (.long x0), .second] [(.long x0)])
            refine go_st (fun _ kq => XT.bipushV X0.here hx rfl (42 : Int32) (hb hby d2_56) (by decide) kq) ?_
            show Go p e below s _ _ _ s₁ (mkF m 58 #[.val (.long x0), .second] [(.int (42 : Int32)), (.long x0)])
            refine go_st (fun _ kq => XT.lushr X0.here hx rfl (hb hby d2_58) rfl kq) ?_
            show Go p e below s _ _ _ s₁ (mkF m 59 #[.val (.long x0), .second] [(.long (XT.ushrL x0 (42 : Int32)))])
            refine go_st (fun _ kq => XT.lconstV X0.here hx rfl (0 : Int64) (hb hby d2_59) (by decide) kq) ?_
            show Go p e below s _ _ _ s₁ (mkF m 60 #[.val (.long x0), .second] [(.long (0 : Int64)), (.long (XT.ushrL x0 (42 : Int32)))])
            refine go_st (fun _ kq => XT.lcmp X0.here hx rfl (hb hby d2_60) rfl kq) ?_
            show Go p e below s _ _ _ s₁ (mkF m 61 #[.val (.long x0), .second] [(.int (XT.cmpL (XT.ushrL x0 (42 : Int32)) (0 : Int64)))])
            by_cases hc6 : (XT.ushrL x0 (42 : Int32)) = (0 : Int64)
            · rw [if_pos hc6]
              refine go_st (fun _ kq => XS.ifNo X0.here hx rfl (hb hby d2_61) rfl (XT.ll_ne_f hc6) kq) ?_
              show Go p e below s _ _ _ s₁ (mkF m 64 #[.val (.long x0), .second] [])
              refine go_st (fun _ kq => XT.bipushV X0.here hx rfl (6 : Int32) (hb hby d2_64) (by decide) kq) ?_
              show Go p e below s _ _ _ s₁ (mkF m 66 #[.val (.long x0), .second] [(.int (6 : Int32))])
              exact go_retI X0 hx hlk hret (hb hby d2_66) (by decide) (by decide) ⟨rfl, N0, e0⟩
            · rw [if_neg hc6]
              refine go_st (fun _ kq => XS.ifYes X0.here hx rfl (pc0 := 61) (pc' := 67) rfl (hb hby d2_61) rfl (XT.ll_ne_t hc6) (by decide) (by decide) kq) ?_
              show Go p e below s _ _ _ s₁ (mkF m 67 #[.val (.long x0), .second] [])
              refine go_st (fun _ kq => XT.lloadN X0.here hx rfl (hb hby d2_67) rfl kq) ?_
              show Go p e below s _ _ _ s₁ (mkF m 68 #[.val (.long x0), .second] [(.long x0)])
              refine go_st (fun _ kq => XT.bipushV X0.here hx rfl (49 : Int32) (hb hby d2_68) (by decide) kq) ?_
              show Go p e below s _ _ _ s₁ (mkF m 70 #[.val (.long x0), .second] [(.int (49 : Int32)), (.long x0)])
              refine go_st (fun _ kq => XT.lushr X0.here hx rfl (hb hby d2_70) rfl kq) ?_
              show Go p e below s _ _ _ s₁ (mkF m 71 #[.val (.long x0), .second] [(.long (XT.ushrL x0 (49 : Int32)))])
              refine go_st (fun _ kq => XT.lconstV X0.here hx rfl (0 : Int64) (hb hby d2_71) (by decide) kq) ?_
              show Go p e below s _ _ _ s₁ (mkF m 72 #[.val (.long x0), .second] [(.long (0 : Int64)), (.long (XT.ushrL x0 (49 : Int32)))])
              refine go_st (fun _ kq => XT.lcmp X0.here hx rfl (hb hby d2_72) rfl kq) ?_
              show Go p e below s _ _ _ s₁ (mkF m 73 #[.val (.long x0), .second] [(.int (XT.cmpL (XT.ushrL x0 (49 : Int32)) (0 : Int64)))])
              by_cases hc7 : (XT.ushrL x0 (49 : Int32)) = (0 : Int64)
              · rw [if_pos hc7]
                refine go_st (fun _ kq => XS.ifNo X0.here hx rfl (hb hby d2_73) rfl (XT.ll_ne_f hc7) kq) ?_
                show Go p e below s _ _ _ s₁ (mkF m 76 #[.val (.long x0), .second] [])
                refine go_st (fun _ kq => XT.bipushV X0.here hx rfl (7 : Int32) (hb hby d2_76) (by decide) kq) ?_
                show Go p e below s _ _ _ s₁ (mkF m 78 #[.val (.long x0), .second] [(.int (7 : Int32))])
                exact go_retI X0 hx hlk hret (hb hby d2_78) (by decide) (by decide) ⟨rfl, N0, e0⟩
              · rw [if_neg hc7]
                refine go_st (fun _ kq => XS.ifYes X0.here hx rfl (pc0 := 73) (pc' := 79) rfl (hb hby d2_73) rfl (XT.ll_ne_t hc7) (by decide) (by decide) kq) ?_
                show Go p e below s _ _ _ s₁ (mkF m 79 #[.val (.long x0), .second] [])
                refine go_st (fun _ kq => XT.lloadN X0.here hx rfl (hb hby d2_79) rfl kq) ?_
                show Go p e below s _ _ _ s₁ (mkF m 80 #[.val (.long x0), .second] [(.long x0)])
                refine go_st (fun _ kq => XT.bipushV X0.here hx rfl (56 : Int32) (hb hby d2_80) (by decide) kq) ?_
                show Go p e below s _ _ _ s₁ (mkF m 82 #[.val (.long x0), .second] [(.int (56 : Int32)), (.long x0)])
                refine go_st (fun _ kq => XT.lushr X0.here hx rfl (hb hby d2_82) rfl kq) ?_
                show Go p e below s _ _ _ s₁ (mkF m 83 #[.val (.long x0), .second] [(.long (XT.ushrL x0 (56 : Int32)))])
                refine go_st (fun _ kq => XT.lconstV X0.here hx rfl (0 : Int64) (hb hby d2_83) (by decide) kq) ?_
                show Go p e below s _ _ _ s₁ (mkF m 84 #[.val (.long x0), .second] [(.long (0 : Int64)), (.long (XT.ushrL x0 (56 : Int32)))])
                refine go_st (fun _ kq => XT.lcmp X0.here hx rfl (hb hby d2_84) rfl kq) ?_
                show Go p e below s _ _ _ s₁ (mkF m 85 #[.val (.long x0), .second] [(.int (XT.cmpL (XT.ushrL x0 (56 : Int32)) (0 : Int64)))])
                by_cases hc8 : (XT.ushrL x0 (56 : Int32)) = (0 : Int64)
                · rw [if_pos hc8]
                  refine go_st (fun _ kq => XS.ifNo X0.here hx rfl (hb hby d2_85) rfl (XT.ll_ne_f hc8) kq) ?_
                  show Go p e below s _ _ _ s₁ (mkF m 88 #[.val (.long x0), .second] [])
                  refine go_st (fun _ kq => XT.bipushV X0.here hx rfl (8 : Int32) (hb hby d2_88) (by decide) kq) ?_
                  show Go p e below s _ _ _ s₁ (mkF m 90 #[.val (.long x0), .second] [(.int (8 : Int32))])
                  exact go_retI X0 hx hlk hret (hb hby d2_90) (by decide) (by decide) ⟨rfl, N0, e0⟩
                · rw [if_neg hc8]
                  refine go_st (fun _ kq => XS.ifYes X0.here hx rfl (pc0 := 85) (pc' := 91) rfl (hb hby d2_85) rfl (XT.ll_ne_t hc8) (by decide) (by decide) kq) ?_
                  show Go p e below s _ _ _ s₁ (mkF m 91 #[.val (.long x0), .second] [])
                  refine go_st (fun _ kq => XT.lloadN X0.here hx rfl (hb hby d2_91) rfl kq) ?_
                  show Go p e below s _ _ _ s₁ (mkF m 92 #[.val (.long x0), .second] [(.long x0)])
                  refine go_st (fun _ kq => XT.bipushV X0.here hx rfl (63 : Int32) (hb hby d2_92) (by decide) kq) ?_
                  show Go p e below s _ _ _ s₁ (mkF m 94 #[.val (.long x0), .second] [(.int (63 : Int32)), (.long x0)])
                  refine go_st (fun _ kq => XT.lushr X0.here hx rfl (hb hby d2_94) rfl kq) ?_
                  show Go p e below s _ _ _ s₁ (mkF m 95 #[.val (.long x0), .second] [(.long (XT.ushrL x0 (63 : Int32)))])
                  refine go_st (fun _ kq => XT.lconstV X0.here hx rfl (0 : Int64) (hb hby d2_95) (by decide) kq) ?_
                  show Go p e below s _ _ _ s₁ (mkF m 96 #[.val (.long x0), .second] [(.long (0 : Int64)), (.long (XT.ushrL x0 (63 : Int32)))])
                  refine go_st (fun _ kq => XT.lcmp X0.here hx rfl (hb hby d2_96) rfl kq) ?_
                  show Go p e below s _ _ _ s₁ (mkF m 97 #[.val (.long x0), .second] [(.int (XT.cmpL (XT.ushrL x0 (63 : Int32)) (0 : Int64)))])
                  by_cases hc9 : (XT.ushrL x0 (63 : Int32)) = (0 : Int64)
                  · rw [if_pos hc9]
                    refine go_st (fun _ kq => XS.ifNo X0.here hx rfl (hb hby d2_97) rfl (XT.ll_ne_f hc9) kq) ?_
                    show Go p e below s _ _ _ s₁ (mkF m 100 #[.val (.long x0), .second] [])
                    refine go_st (fun _ kq => XT.bipushV X0.here hx rfl (9 : Int32) (hb hby d2_100) (by decide) kq) ?_
                    show Go p e below s _ _ _ s₁ (mkF m 102 #[.val (.long x0), .second] [(.int (9 : Int32))])
                    exact go_retI X0 hx hlk hret (hb hby d2_102) (by decide) (by decide) ⟨rfl, N0, e0⟩
                  · rw [if_neg hc9]
                    refine go_st (fun _ kq => XS.ifYes X0.here hx rfl (pc0 := 97) (pc' := 103) rfl (hb hby d2_97) rfl (XT.ll_ne_t hc9) (by decide) (by decide) kq) ?_
                    show Go p e below s _ _ _ s₁ (mkF m 103 #[.val (.long x0), .second] [])
                    refine go_st (fun _ kq => XT.bipushV X0.here hx rfl (10 : Int32) (hb hby d2_103) (by decide) kq) ?_
                    show Go p e below s _ _ _ s₁ (mkF m 105 #[.val (.long x0), .second] [(.int (10 : Int32))])
                    exact go_retI X0 hx hlk hret (hb hby d2_105) (by decide) (by decide) ⟨rfl, N0, e0⟩
theorem d1_0 : decode prog_27_method_5_code 0 = .ok (.iload_n 1, 1) := by decide +kernel
theorem d1_1 : decode prog_27_method_5_code 1 = .ok (.istore 4, 2) := by decide +kernel
theorem d1_3 : decode prog_27_method_5_code 3 = .ok (.lload_n 2, 1) := by decide +kernel
theorem d1_4 : decode prog_27_method_5_code 4 = .ok (.lstore 5, 2) := by decide +kernel
theorem d1_6 : decode prog_27_method_5_code 6 = .ok (.lload 5, 2) := by decide +kernel
theorem d1_8 : decode prog_27_method_5_code 8 = .ok (.ldc2_w 77, 3) := by decide +kernel
theorem d1_11 : decode prog_27_method_5_code 11 = .ok (.land, 1) := by decide +kernel
theorem d1_12 : decode prog_27_method_5_code 12 = .ok (.lconst 0, 1) := by decide +kernel
theorem d1_13 : decode prog_27_method_5_code 13 = .ok (.lcmp, 1) := by decide +kernel
theorem d1_14 : decode prog_27_method_5_code 14 = .ok (.ifCond .eq 32, 3) := by decide +kernel
theorem d1_17 : decode prog_27_method_5_code 17 = .ok (.aload_n 0, 1) := by decide +kernel
theorem d1_18 : decode prog_27_method_5_code 18 = .ok (.iload 4, 2) := by decide +kernel
theorem d1_20 : decode prog_27_method_5_code 20 = .ok (.lload 5, 2) := by decide +kernel
theorem d1_22 : decode prog_27_method_5_code 22 = .ok (.ldc2_w 79, 3) := by decide +kernel
theorem d1_25 : decode prog_27_method_5_code 25 = .ok (.land, 1) := by decide +kernel
theorem d1_26 : decode prog_27_method_5_code 26 = .ok (.ldc2_w 81, 3) := by decide +kernel
theorem d1_29 : decode prog_27_method_5_code 29 = .ok (.lor, 1) := by decide +kernel
theorem d1_30 : decode prog_27_method_5_code 30 = .ok (.l2i, 1) := by decide +kernel
theorem d1_31 : decode prog_27_method_5_code 31 = .ok (.i2b, 1) := by decide +kernel
theorem d1_32 : decode prog_27_method_5_code 32 = .ok (.bastore, 1) := by decide +kernel
theorem d1_33 : decode prog_27_method_5_code 33 = .ok (.iinc 4 1, 3) := by decide +kernel
theorem d1_36 : decode prog_27_method_5_code 36 = .ok (.lload 5, 2) := by decide +kernel
theorem d1_38 : decode prog_27_method_5_code 38 = .ok (.bipush 7, 2) := by decide +kernel
theorem d1_40 : decode prog_27_method_5_code 40 = .ok (.lushr, 1) := by decide +kernel
theorem d1_41 : decode prog_27_method_5_code 41 = .ok (.lstore 5, 2) := by decide +kernel
theorem d1_43 : decode prog_27_method_5_code 43 = .ok (.goto (-37), 3) := by decide +kernel
theorem d1_46 : decode prog_27_method_5_code 46 = .ok (.aload_n 0, 1) := by decide +kernel
theorem d1_47 : decode prog_27_method_5_code 47 = .ok (.iload 4, 2) := by decide +kernel
theorem d1_49 : decode prog_27_method_5_code 49 = .ok (.lload 5, 2) := by decide +kernel
theorem d1_51 : decode prog_27_method_5_code 51 = .ok (.l2i, 1) := by decide +kernel
theorem d1_52 : decode prog_27_method_5_code 52 = .ok (.i2b, 1) := by decide +kernel
theorem d1_53 : decode prog_27_method_5_code 53 = .ok (.bastore, 1) := by decide +kernel
theorem d1_54 : decode prog_27_method_5_code 54 = .ok (.iload 4, 2) := by decide +kernel
theorem d1_56 : decode prog_27_method_5_code 56 = .ok (.iconst 1, 1) := by decide +kernel
theorem d1_57 : decode prog_27_method_5_code 57 = .ok (.iadd, 1) := by decide +kernel
theorem d1_58 : decode prog_27_method_5_code 58 = .ok (.ireturn, 1) := by decide +kernel
theorem pn1 : plainFor (⟨"com/example/query_likelihood_ranker/querylikelihoodranker/index/IndexFormat", "putNumber", "([BIJ)I"⟩ : MethodName) = true := by first | (refine plainFor_of_name ?_; simp [plainName, overriddenIn]; done) | (refine plainFor_of_name ?_; decide +kernel) | decide +kernel
def Q_put (Z : State) (a : Addr) (o : Nat) (V : Int64) (f : Nat → Int32) (h0 : Heap) (n0 : Nat) (v : Option Value) (h : Heap) (L : List Loc) : Prop := ∃ k : Nat, v = some (.int (Int32.ofNat (o + (k + 1)))) ∧ Fr n0 L ∧ Keep h0 h [a] ∧ (k < 10) ∧ (∀ i, i < k → 128 ≤ UU (RR V i)) ∧ (UU (RR V k) < 128) ∧ GA Z h a .byte 16 (fun j => .int (FE f o V k j))
theorem ef_put (m : MethodId) (a : Addr) (o : Nat) (V : Int64) (f : Nat → Int32) : entryFrame m #[(.ref a), (.int (Int32.ofNat o)), (.long V)] 7 = mkF m 0 #[.val (.ref a), .val (.int (Int32.ofNat o)), .val (.long V), .second, .unset, .unset, .unset] [] := by first | (simp [entryFrame, mkF, argsToLocals, Value.category]; done) | rfl
abbrev rm_put : Room := ({ frames := 0, cells := 0, slots := 0, locals := 0 } : Room)
set_option maxRecDepth 65536 in
set_option maxHeartbeats 4000000 in
theorem put_loop (l : Launch) (Z : State) (a0 : Array Value) (hw : ∀ d ∈ tables_1, d.before a0 Z = true) {p : Program} {e : Env} {s : State} {m : MethodId} {args : Array Value} {below : List Frame} {meth : Method} {c : Code} (ct : Ct p s m meth c Z "com/example/query_likelihood_ranker/querylikelihoodranker/index/IndexFormat" "putNumber" prog_27_method_5_code 7 (some FieldType.int)) {a : Addr} {n0 : Nat} (hnew : n0 ≤ a) {h0 : Heap} {V : Int64} {f : Nat → Int32} {o : Nat} (ho : o < 4) : ∀ (d k : Nat), k < 10 → 10 ≤ k + d → (∀ i, i < k → 128 ≤ UU (RR V i)) →
    ∀ {T0 : State} {locs : List Loc} {h1 : Heap}, Stand p l e rm_put s m args below meth c T0 locs 0 0 → T0.heap = h1 → Fr n0 locs → GA Z h1 a .byte 16 (fun j => .int (FF f o V k j)) → Keep h0 h1 [a] →
    Go p e below s (Q_put Z a o V f h0 n0) 0 0 T0 (mkF m 6 #[.val (.ref a), .val (.int (Int32.ofNat o)), .val (.long V), .second, .val (.int (Int32.ofNat (o + k))), .val (.long (RR V k)), .second] [])
  | 0, k, hk, hd, _, _, _, _, _, _, _, _, _ => absurd hd (by omega)
  | d + 1, k, hk, hd, hall, T0, locs, h1, X0, e0, N0, G, K0 => by
    have ct0 := ct
    obtain ⟨hx, hZ, hown, hby, hml, hret, hlk, hnm⟩ := ct
    show Go p e below s _ _ _ T0 (mkF m 6 #[.val (.ref a), .val (.int (Int32.ofNat o)), .val (.long V), .second, .val (.int (Int32.ofNat (o + k))), .val (.long (RR V k)), .second] [])
    refine go_st (fun _ kq => XT.lload X0.here hx rfl (hb hby d1_6) rfl kq) ?_
    show Go p e below s _ _ _ T0 (mkF m 8 #[.val (.ref a), .val (.int (Int32.ofNat o)), .val (.long V), .second, .val (.int (Int32.ofNat (o + k))), .val (.long (RR V k)), .second] [(.long (RR V k))])
    refine go_st (fun _ kq => Jvm.Stand.ldc2J X0 hx hown (mvT hZ (hw _ (List.mem_of_getElem? (i := 5) rfl))) rfl (hb hby d1_8) kq) ?_
    show Go p e below s _ _ _ T0 (mkF m 11 #[.val (.ref a), .val (.int (Int32.ofNat o)), .val (.long V), .second, .val (.int (Int32.ofNat (o + k))), .val (.long (RR V k)), .second] [(.long (-128 : Int64)), (.long (RR V k))])
    refine go_st (fun _ kq => XT.land X0.here hx rfl (hb hby d1_11) rfl kq) ?_
    show Go p e below s _ _ _ T0 (mkF m 12 #[.val (.ref a), .val (.int (Int32.ofNat o)), .val (.long V), .second, .val (.int (Int32.ofNat (o + k))), .val (.long (RR V k)), .second] [(.long ((RR V k) &&& (-128 : Int64)))])
    refine go_st (fun _ kq => XT.lconstV X0.here hx rfl (0 : Int64) (hb hby d1_12) (by decide) kq) ?_
    show Go p e below s _ _ _ T0 (mkF m 13 #[.val (.ref a), .val (.int (Int32.ofNat o)), .val (.long V), .second, .val (.int (Int32.ofNat (o + k))), .val (.long (RR V k)), .second] [(.long (0 : Int64)), (.long ((RR V k) &&& (-128 : Int64)))])
    refine go_st (fun _ kq => XT.lcmp X0.here hx rfl (hb hby d1_13) rfl kq) ?_
    show Go p e below s _ _ _ T0 (mkF m 14 #[.val (.ref a), .val (.int (Int32.ofNat o)), .val (.long V), .second, .val (.int (Int32.ofNat (o + k))), .val (.long (RR V k)), .second] [(.int (XT.cmpL ((RR V k) &&& (-128 : Int64)) (0 : Int64)))])
    by_cases hc10 : ((RR V k) &&& (-128 : Int64)) = (0 : Int64)
    · refine go_st (fun _ kq => XS.ifYes X0.here hx rfl (pc0 := 14) (pc' := 46) rfl (hb hby d1_14) rfl (XT.ll_eq_t hc10) (by decide) (by decide) kq) ?_
      show Go p e below s _ _ _ T0 (mkF m 46 #[.val (.ref a), .val (.int (Int32.ofNat o)), .val (.long V), .second, .val (.int (Int32.ofNat (o + k))), .val (.long (RR V k)), .second] [])
      refine go_st (fun _ kq => XS.aloadN X0.here hx rfl (hb hby d1_46) rfl rfl kq) ?_
      show Go p e below s _ _ _ T0 (mkF m 47 #[.val (.ref a), .val (.int (Int32.ofNat o)), .val (.long V), .second, .val (.int (Int32.ofNat (o + k))), .val (.long (RR V k)), .second] [(.ref a)])
      refine go_st (fun _ kq => XS.iload X0.here hx rfl (hb hby d1_47) rfl kq) ?_
      show Go p e below s _ _ _ T0 (mkF m 49 #[.val (.ref a), .val (.int (Int32.ofNat o)), .val (.long V), .second, .val (.int (Int32.ofNat (o + k))), .val (.long (RR V k)), .second] [(.int (Int32.ofNat (o + k))), (.ref a)])
      refine go_st (fun _ kq => XT.lload X0.here hx rfl (hb hby d1_49) rfl kq) ?_
      show Go p e below s _ _ _ T0 (mkF m 51 #[.val (.ref a), .val (.int (Int32.ofNat o)), .val (.long V), .second, .val (.int (Int32.ofNat (o + k))), .val (.long (RR V k)), .second] [(.long (RR V k)), (.int (Int32.ofNat (o + k))), (.ref a)])
      refine go_st (fun _ kq => XT.l2i X0.here hx rfl (hb hby d1_51) rfl kq) ?_
      show Go p e below s _ _ _ T0 (mkF m 52 #[.val (.ref a), .val (.int (Int32.ofNat o)), .val (.long V), .second, .val (.int (Int32.ofNat (o + k))), .val (.long (RR V k)), .second] [(.int (RR V k).toInt32), (.int (Int32.ofNat (o + k))), (.ref a)])
      refine go_st (fun _ kq => XT.i2b X0.here hx rfl (hb hby d1_52) rfl kq) ?_
      show Go p e below s _ _ _ T0 (mkF m 53 #[.val (.ref a), .val (.int (Int32.ofNat o)), .val (.long V), .second, .val (.int (Int32.ofNat (o + k))), .val (.long (RR V k)), .second] [(.int (RR V k).toInt32.toInt8.toInt32), (.int (Int32.ofNat (o + k))), (.ref a)])
      refine go_bast X0 hx hZ e0 G (hb hby d1_53) rfl rfl (own_inb ho hk) ?_
      intro T11 h11 X11 e11 W11 G11
      have N11 := Fr.snoc X11 N0 hnew
      have A11 : GA Z h11 a .byte 16 (fun j => .int (FE f o V k j)) := (own_st2 ho hk G11)
      show Go p e below s _ _ _ T11 (mkF m 54 #[.val (.ref a), .val (.int (Int32.ofNat o)), .val (.long V), .second, .val (.int (Int32.ofNat (o + k))), .val (.long (RR V k)), .second] [])
      refine go_st (fun _ kq => XS.iload X11.here hx rfl (hb hby d1_54) rfl kq) ?_
      show Go p e below s _ _ _ T11 (mkF m 56 #[.val (.ref a), .val (.int (Int32.ofNat o)), .val (.long V), .second, .val (.int (Int32.ofNat (o + k))), .val (.long (RR V k)), .second] [(.int (Int32.ofNat (o + k)))])
      refine go_st (fun _ kq => XT.iconstV X11.here hx rfl (1 : Int32) (hb hby d1_56) (by decide) kq) ?_
      show Go p e below s _ _ _ T11 (mkF m 57 #[.val (.ref a), .val (.int (Int32.ofNat o)), .val (.long V), .second, .val (.int (Int32.ofNat (o + k))), .val (.long (RR V k)), .second] [(.int (1 : Int32)), (.int (Int32.ofNat (o + k)))])
      refine go_st (fun _ kq => XS.iadd X11.here hx rfl (hb hby d1_57) rfl kq) ?_
      show Go p e below s _ _ _ T11 (mkF m 58 #[.val (.ref a), .val (.int (Int32.ofNat o)), .val (.long V), .second, .val (.int (Int32.ofNat (o + k))), .val (.long (RR V k)), .second] [(.int ((Int32.ofNat (o + k)) + (1 : Int32)))])
      rw [own_next ho hk]
      show Go p e below s _ _ _ T11 (mkF m 58 #[.val (.ref a), .val (.int (Int32.ofNat o)), .val (.long V), .second, .val (.int (Int32.ofNat (o + k))), .val (.long (RR V k)), .second] [(.int (Int32.ofNat (o + (k + 1))))])
      exact go_retI X11 hx hlk hret (hb hby d1_58) (by decide) (by decide) (by rw [e11]; exact ⟨k, rfl, N11, Keep.wr K0 W11 (Or.inl (by simp)), by omega, hall, own_small hc10, A11⟩)
    · refine go_st (fun _ kq => XS.ifNo X0.here hx rfl (hb hby d1_14) rfl (XT.ll_eq_f hc10) kq) ?_
      show Go p e below s _ _ _ T0 (mkF m 17 #[.val (.ref a), .val (.int (Int32.ofNat o)), .val (.long V), .second, .val (.int (Int32.ofNat (o + k))), .val (.long (RR V k)), .second] [])
      refine go_st (fun _ kq => XS.aloadN X0.here hx rfl (hb hby d1_17) rfl rfl kq) ?_
      show Go p e below s _ _ _ T0 (mkF m 18 #[.val (.ref a), .val (.int (Int32.ofNat o)), .val (.long V), .second, .val (.int (Int32.ofNat (o + k))), .val (.long (RR V k)), .second] [(.ref a)])
      refine go_st (fun _ kq => XS.iload X0.here hx rfl (hb hby d1_18) rfl kq) ?_
      show Go p e below s _ _ _ T0 (mkF m 20 #[.val (.ref a), .val (.int (Int32.ofNat o)), .val (.long V), .second, .val (.int (Int32.ofNat (o + k))), .val (.long (RR V k)), .second] [(.int (Int32.ofNat (o + k))), (.ref a)])
      refine go_st (fun _ kq => XT.lload X0.here hx rfl (hb hby d1_20) rfl kq) ?_
      show Go p e below s _ _ _ T0 (mkF m 22 #[.val (.ref a), .val (.int (Int32.ofNat o)), .val (.long V), .second, .val (.int (Int32.ofNat (o + k))), .val (.long (RR V k)), .second] [(.long (RR V k)), (.int (Int32.ofNat (o + k))), (.ref a)])
      refine go_st (fun _ kq => Jvm.Stand.ldc2J X0 hx hown (mvT hZ (hw _ (List.mem_of_getElem? (i := 14) rfl))) rfl (hb hby d1_22) kq) ?_
      show Go p e below s _ _ _ T0 (mkF m 25 #[.val (.ref a), .val (.int (Int32.ofNat o)), .val (.long V), .second, .val (.int (Int32.ofNat (o + k))), .val (.long (RR V k)), .second] [(.long (127 : Int64)), (.long (RR V k)), (.int (Int32.ofNat (o + k))), (.ref a)])
      refine go_st (fun _ kq => XT.land X0.here hx rfl (hb hby d1_25) rfl kq) ?_
      show Go p e below s _ _ _ T0 (mkF m 26 #[.val (.ref a), .val (.int (Int32.ofNat o)), .val (.long V), .second, .val (.int (Int32.ofNat (o + k))), .val (.long (RR V k)), .second] [(.long ((RR V k) &&& (127 : Int64))), (.int (Int32.ofNat (o + k))), (.ref a)])
      refine go_st (fun _ kq => Jvm.Stand.ldc2J X0 hx hown (mvT hZ (hw _ (List.mem_of_getElem? (i := 15) rfl))) rfl (hb hby d1_26) kq) ?_
      show Go p e below s _ _ _ T0 (mkF m 29 #[.val (.ref a), .val (.int (Int32.ofNat o)), .val (.long V), .second, .val (.int (Int32.ofNat (o + k))), .val (.long (RR V k)), .second] [(.long (128 : Int64)), (.long ((RR V k) &&& (127 : Int64))), (.int (Int32.ofNat (o + k))), (.ref a)])
      refine go_st (fun _ kq => XT.lor X0.here hx rfl (hb hby d1_29) rfl kq) ?_
      show Go p e below s _ _ _ T0 (mkF m 30 #[.val (.ref a), .val (.int (Int32.ofNat o)), .val (.long V), .second, .val (.int (Int32.ofNat (o + k))), .val (.long (RR V k)), .second] [(.long (((RR V k) &&& (127 : Int64)) ||| (128 : Int64))), (.int (Int32.ofNat (o + k))), (.ref a)])
      refine go_st (fun _ kq => XT.l2i X0.here hx rfl (hb hby d1_30) rfl kq) ?_
      show Go p e below s _ _ _ T0 (mkF m 31 #[.val (.ref a), .val (.int (Int32.ofNat o)), .val (.long V), .second, .val (.int (Int32.ofNat (o + k))), .val (.long (RR V k)), .second] [(.int (((RR V k) &&& (127 : Int64)) ||| (128 : Int64)).toInt32), (.int (Int32.ofNat (o + k))), (.ref a)])
      refine go_st (fun _ kq => XT.i2b X0.here hx rfl (hb hby d1_31) rfl kq) ?_
      show Go p e below s _ _ _ T0 (mkF m 32 #[.val (.ref a), .val (.int (Int32.ofNat o)), .val (.long V), .second, .val (.int (Int32.ofNat (o + k))), .val (.long (RR V k)), .second] [(.int (((RR V k) &&& (127 : Int64)) ||| (128 : Int64)).toInt32.toInt8.toInt32), (.int (Int32.ofNat (o + k))), (.ref a)])
      refine go_bast X0 hx hZ e0 G (hb hby d1_32) rfl rfl (own_inb ho hk) ?_
      intro T12 h12 X12 e12 W12 G12
      have N12 := Fr.snoc X12 N0 hnew
      have A12 : GA Z h12 a .byte 16 (fun j => .int (FF f o V (k + 1) j)) := (own_st1 ho hk G12)
      show Go p e below s _ _ _ T12 (mkF m 33 #[.val (.ref a), .val (.int (Int32.ofNat o)), .val (.long V), .second, .val (.int (Int32.ofNat (o + k))), .val (.long (RR V k)), .second] [])
      refine go_st (fun _ kq => XT.iincV X12.here hx rfl (1 : Int32) (hb hby d1_33) (by decide) rfl (l' := #[.val (.ref a), .val (.int (Int32.ofNat o)), .val (.long V), .second, .val (.int ((Int32.ofNat (o + k)) + (1 : Int32))), .val (.long (RR V k)), .second]) rfl kq) ?_
      show Go p e below s _ _ _ T12 (mkF m 36 #[.val (.ref a), .val (.int (Int32.ofNat o)), .val (.long V), .second, .val (.int ((Int32.ofNat (o + k)) + (1 : Int32))), .val (.long (RR V k)), .second] [])
      rw [own_next ho hk]
      show Go p e below s _ _ _ T12 (mkF m 36 #[.val (.ref a), .val (.int (Int32.ofNat o)), .val (.long V), .second, .val (.int (Int32.ofNat (o + (k + 1)))), .val (.long (RR V k)), .second] [])
      refine go_st (fun _ kq => XT.lload X12.here hx rfl (hb hby d1_36) rfl kq) ?_
      show Go p e below s _ _ _ T12 (mkF m 38 #[.val (.ref a), .val (.int (Int32.ofNat o)), .val (.long V), .second, .val (.int (Int32.ofNat (o + (k + 1)))), .val (.long (RR V k)), .second] [(.long (RR V k))])
      refine go_st (fun _ kq => XT.bipushV X12.here hx rfl (7 : Int32) (hb hby d1_38) (by decide) kq) ?_
      show Go p e below s _ _ _ T12 (mkF m 40 #[.val (.ref a), .val (.int (Int32.ofNat o)), .val (.long V), .second, .val (.int (Int32.ofNat (o + (k + 1)))), .val (.long (RR V k)), .second] [(.int (7 : Int32)), (.long (RR V k))])
      refine go_st (fun _ kq => XT.lushr X12.here hx rfl (hb hby d1_40) rfl kq) ?_
      show Go p e below s _ _ _ T12 (mkF m 41 #[.val (.ref a), .val (.int (Int32.ofNat o)), .val (.long V), .second, .val (.int (Int32.ofNat (o + (k + 1)))), .val (.long (RR V k)), .second] [(.long (XT.ushrL (RR V k) (7 : Int32)))])
      refine go_st (fun _ kq => XT.lstore X12.here hx rfl (hb hby d1_41) rfl (l' := #[.val (.ref a), .val (.int (Int32.ofNat o)), .val (.long V), .second, .val (.int (Int32.ofNat (o + (k + 1)))), .val (.long (XT.ushrL (RR V k) (7 : Int32))), .second]) rfl kq) ?_
      show Go p e below s _ _ _ T12 (mkF m 43 #[.val (.ref a), .val (.int (Int32.ofNat o)), .val (.long V), .second, .val (.int (Int32.ofNat (o + (k + 1)))), .val (.long (XT.ushrL (RR V k) (7 : Int32))), .second] [])
      show Go p e below s _ _ _ T12 (mkF m 43 #[.val (.ref a), .val (.int (Int32.ofNat o)), .val (.long V), .second, .val (.int (Int32.ofNat (o + (k + 1)))), .val (.long (RR V (k + 1))), .second] [])
      refine go_st (fun _ kq => XS.goto X12.here hx rfl (pc0 := 43) (pc' := 6) rfl (hb hby d1_43) (by decide) (by decide) kq) ?_
      show Go p e below s _ _ _ T12 (mkF m 6 #[.val (.ref a), .val (.int (Int32.ofNat o)), .val (.long V), .second, .val (.int (Int32.ofNat (o + (k + 1)))), .val (.long (RR V (k + 1))), .second] [])
      have hb := own_big hc10
      exact put_loop l Z a0 hw ct0 hnew ho d (k + 1) (by have := own_k9 hall hb; omega) (by omega) (own_all2 hall hb) X12 e12 N12 A12 (Keep.wr K0 W12 (Or.inl (by simp)))
set_option maxRecDepth 65536 in
set_option maxHeartbeats 4000000 in
theorem met_put (l : Launch) (Z : State) (a0 : Array Value) (hw : ∀ d ∈ tables_1, d.before a0 Z = true) (a : Addr) (o : Nat) (V : Int64) (f : Nat → Int32) (h0 : Heap) (n0 : Nat) (Z0 : n0 ≤ h0.size) (P0 : GA Z h0 a .byte 16 (fun j => .int (f j))) (P1 : o < 4) (P2 : n0 ≤ a) :
    Met l (⟨"com/example/query_likelihood_ranker/querylikelihoodranker/index/IndexFormat", "putNumber", "([BIJ)I"⟩ : MethodName) prog_27_method_5_code 7 (some FieldType.int) [] rm_put Z #[(.ref a), (.int (Int32.ofNat o)), (.long V)] h0 (Q_put Z a o V f h0 n0) rm_put.cells rm_put.slots := by
  refine own_body pn1 ?_
  intro p e s m below meth c s₁ ct X0 e0
  have ct0 := ct
  obtain ⟨hx, hZ, hown, hby, hml, hret, hlk, hnm⟩ := ct
  have lt_a : a < h0.size := P0.lt
  have N0 := Fr.nil n0
  refine castGo (ef_put m a o V f) ?_
  show Go p e below s _ _ _ s₁ (mkF m 0 #[.val (.ref a), .val (.int (Int32.ofNat o)), .val (.long V), .second, .unset, .unset, .unset] [])
  refine go_st (fun _ kq => XS.iloadN X0.here hx rfl (hb hby d1_0) rfl kq) ?_
  show Go p e below s _ _ _ s₁ (mkF m 1 #[.val (.ref a), .val (.int (Int32.ofNat o)), .val (.long V), .second, .unset, .unset, .unset] [(.int (Int32.ofNat o))])
  refine go_st (fun _ kq => XS.istore X0.here hx rfl (hb hby d1_1) rfl (l' := #[.val (.ref a), .val (.int (Int32.ofNat o)), .val (.long V), .second, .val (.int (Int32.ofNat o)), .unset, .unset]) rfl kq) ?_
  show Go p e below s _ _ _ s₁ (mkF m 3 #[.val (.ref a), .val (.int (Int32.ofNat o)), .val (.long V), .second, .val (.int (Int32.ofNat o)), .unset, .unset] [])
  refine go_st (fun _ kq => XT.lloadN X0.here hx rfl (hb hby d1_3) rfl kq) ?_
  show Go p e below s _ _ _ s₁ (mkF m 4 #[.val (.ref a), .val (.int (Int32.ofNat o)), .val (.long V), .second, .val (.int (Int32.ofNat o)), .unset, .unset] [(.long V)])
  refine go_st (fun _ kq => XT.lstore X0.here hx rfl (hb hby d1_4) rfl (l' := #[.val (.ref a), .val (.int (Int32.ofNat o)), .val (.long V), .second, .val (.int (Int32.ofNat o)), .val (.long V), .second]) rfl kq) ?_
  show Go p e below s _ _ _ s₁ (mkF m 6 #[.val (.ref a), .val (.int (Int32.ofNat o)), .val (.long V), .second, .val (.int (Int32.ofNat o)), .val (.long V), .second] [])
  exact put_loop l Z a0 hw ct0 P2 P1 10 0 (by decide) (by decide) (fun i hi => absurd hi (Nat.not_lt_zero _)) X0 e0 N0 (own_F0 P0) (Keep.refl _ _)
theorem d3_0 : decode method_4_code 0 = .ok (.iload_n 1, 1) := by decide +kernel
theorem d3_1 : decode method_4_code 1 = .ok (.iload_n 2, 1) := by decide +kernel
theorem d3_2 : decode method_4_code 2 = .ok (.isub, 1) := by decide +kernel
theorem d3_3 : decode method_4_code 3 = .ok (.istore 7, 2) := by decide +kernel
theorem d3_5 : decode method_4_code 5 = .ok (.iload 7, 2) := by decide +kernel
theorem d3_7 : decode method_4_code 7 = .ok (.ifCond .lt 9, 3) := by decide +kernel
theorem d3_10 : decode method_4_code 10 = .ok (.iload 7, 2) := by decide +kernel
theorem d3_12 : decode method_4_code 12 = .ok (.iload_n 3, 1) := by decide +kernel
theorem d3_13 : decode method_4_code 13 = .ok (.if_icmp .lt 10, 3) := by decide +kernel
theorem d3_16 : decode method_4_code 16 = .ok (.iload 6, 2) := by decide +kernel
theorem d3_18 : decode method_4_code 18 = .ok (.istore 8, 2) := by decide +kernel
theorem d3_20 : decode method_4_code 20 = .ok (.goto 40, 3) := by decide +kernel
theorem d3_23 : decode method_4_code 23 = .ok (.lload 4, 2) := by decide +kernel
theorem d3_25 : decode method_4_code 25 = .ok (.bipush 7, 2) := by decide +kernel
theorem d3_27 : decode method_4_code 27 = .ok (.iload 7, 2) := by decide +kernel
theorem d3_29 : decode method_4_code 29 = .ok (.imul, 1) := by decide +kernel
theorem d3_30 : decode method_4_code 30 = .ok (.lushr, 1) := by decide +kernel
theorem d3_31 : decode method_4_code 31 = .ok (.ldc2_w 23, 3) := by decide +kernel
theorem d3_34 : decode method_4_code 34 = .ok (.land, 1) := by decide +kernel
theorem d3_35 : decode method_4_code 35 = .ok (.l2i, 1) := by decide +kernel
theorem d3_36 : decode method_4_code 36 = .ok (.istore 9, 2) := by decide +kernel
theorem d3_38 : decode method_4_code 38 = .ok (.iload 7, 2) := by decide +kernel
theorem d3_40 : decode method_4_code 40 = .ok (.iload_n 3, 1) := by decide +kernel
theorem d3_41 : decode method_4_code 41 = .ok (.iconst 1, 1) := by decide +kernel
theorem d3_42 : decode method_4_code 42 = .ok (.isub, 1) := by decide +kernel
theorem d3_43 : decode method_4_code 43 = .ok (.if_icmp .ge 12, 3) := by decide +kernel
theorem d3_46 : decode method_4_code 46 = .ok (.iload 9, 2) := by decide +kernel
theorem d3_48 : decode method_4_code 48 = .ok (.sipush 128, 3) := by decide +kernel
theorem d3_51 : decode method_4_code 51 = .ok (.ior, 1) := by decide +kernel
theorem d3_52 : decode method_4_code 52 = .ok (.goto 5, 3) := by decide +kernel
theorem d3_55 : decode method_4_code 55 = .ok (.iload 9, 2) := by decide +kernel
theorem d3_57 : decode method_4_code 57 = .ok (.i2b, 1) := by decide +kernel
theorem d3_58 : decode method_4_code 58 = .ok (.istore 8, 2) := by decide +kernel
theorem d3_60 : decode method_4_code 60 = .ok (.aload_n 0, 1) := by decide +kernel
theorem d3_61 : decode method_4_code 61 = .ok (.iload_n 1, 1) := by decide +kernel
theorem d3_62 : decode method_4_code 62 = .ok (.baload, 1) := by decide +kernel
theorem d3_63 : decode method_4_code 63 = .ok (.iload 8, 2) := by decide +kernel
theorem d3_65 : decode method_4_code 65 = .ok (.if_icmp .ne 7, 3) := by decide +kernel
theorem d3_68 : decode method_4_code 68 = .ok (.iconst 1, 1) := by decide +kernel
theorem d3_69 : decode method_4_code 69 = .ok (.goto 4, 3) := by decide +kernel
theorem d3_72 : decode method_4_code 72 = .ok (.iconst 0, 1) := by decide +kernel
theorem d3_73 : decode method_4_code 73 = .ok (.ireturn, 1) := by decide +kernel
theorem pn2 : plainFor (⟨"com/example/query_likelihood_ranker/querylikelihoodranker/index/IndexFormatPutNumberPinLaw", "at", "([BIIIJB)Z"⟩ : MethodName) = true := by first | (refine plainFor_of_name ?_; simp [plainName, overriddenIn]; done) | (refine plainFor_of_name ?_; decide +kernel) | decide +kernel
def fAt (j : Int32) (o : Int32) (n : Int32) (V : Int64) (fi : Int32) (u : Int32) : Int32 := (if (j - o) < (0 : Int32) then (if u = fi then (1 : Int32) else (0 : Int32)) else (if (j - o) < n then (if (j - o) < (n - (1 : Int32)) then (if u = (((XT.ushrL V ((7 : Int32) * (j - o))) &&& (127 : Int64)).toInt32 ||| (128 : Int32)).toInt8.toInt32 then (1 : Int32) else (0 : Int32)) else (if u = ((XT.ushrL V ((7 : Int32) * (j - o))) &&& (127 : Int64)).toInt32.toInt8.toInt32 then (1 : Int32) else (0 : Int32))) else (if u = fi then (1 : Int32) else (0 : Int32))))
theorem ef_3 (m : MethodId) (a : Addr) (j : Int32) (o : Int32) (n : Int32) (V : Int64) (fi : Int32) (g : Nat → Value) (u : Int32) : entryFrame m #[(.ref a), (.int j), (.int o), (.int n), (.long V), (.int fi)] 10 = mkF m 0 #[.val (.ref a), .val (.int j), .val (.int o), .val (.int n), .val (.long V), .second, .val (.int fi), .unset, .unset, .unset] [] := by first | (simp [entryFrame, mkF, argsToLocals, Value.category]; done) | rfl
abbrev rm_3 : Room := ({ frames := 0, cells := 0, slots := 0, locals := 0 } : Room)
set_option maxRecDepth 65536 in
set_option maxHeartbeats 4000000 in
theorem met_3 (l : Launch) (Z : State) (a0 : Array Value) (hw : ∀ d ∈ tables_1, d.before a0 Z = true) (a : Addr) (j : Int32) (o : Int32) (n : Int32) (V : Int64) (fi : Int32) (g : Nat → Value) (u : Int32) (h0 : Heap) (n0 : Nat) (Z0 : n0 ≤ h0.size) (P0 : GA Z h0 a .byte 16 g) (P1 : 0 ≤ j.toInt ∧ j.toInt < (16 : Nat)) (P2 : g j.toNatClampNeg = .int u) :
    Met l (⟨"com/example/query_likelihood_ranker/querylikelihoodranker/index/IndexFormatPutNumberPinLaw", "at", "([BIIIJB)Z"⟩ : MethodName) method_4_code 10 (some FieldType.boolean) [] rm_3 Z #[(.ref a), (.int j), (.int o), (.int n), (.long V), (.int fi)] h0 (QV (some (.int (fAt j o n V fi u))) h0 n0) 0 0 := by
  refine own_body pn2 ?_
  intro p e s m below meth c s₁ ct X0 e0
  have ct0 := ct
  obtain ⟨hx, hZ, hown, hby, hml, hret, hlk, hnm⟩ := ct
  have N0 := Fr.nil n0
  refine castGo (ef_3 m a j o n V fi g u) ?_
  unfold fAt
  show Go p e below s _ _ _ s₁ (mkF m 0 #[.val (.ref a), .val (.int j), .val (.int o), .val (.int n), .val (.long V), .second, .val (.int fi), .unset, .unset, .unset] [])
  refine go_st (fun _ kq => XS.iloadN X0.here hx rfl (hb hby d3_0) rfl kq) ?_
  show Go p e below s _ _ _ s₁ (mkF m 1 #[.val (.ref a), .val (.int j), .val (.int o), .val (.int n), .val (.long V), .second, .val (.int fi), .unset, .unset, .unset] [(.int j)])
  refine go_st (fun _ kq => XS.iloadN X0.here hx rfl (hb hby d3_1) rfl kq) ?_
  show Go p e below s _ _ _ s₁ (mkF m 2 #[.val (.ref a), .val (.int j), .val (.int o), .val (.int n), .val (.long V), .second, .val (.int fi), .unset, .unset, .unset] [(.int o), (.int j)])
  refine go_st (fun _ kq => XS.isub X0.here hx rfl (hb hby d3_2) rfl kq) ?_
  show Go p e below s _ _ _ s₁ (mkF m 3 #[.val (.ref a), .val (.int j), .val (.int o), .val (.int n), .val (.long V), .second, .val (.int fi), .unset, .unset, .unset] [(.int (j - o))])
  refine go_st (fun _ kq => XS.istore X0.here hx rfl (hb hby d3_3) rfl (l' := #[.val (.ref a), .val (.int j), .val (.int o), .val (.int n), .val (.long V), .second, .val (.int fi), .val (.int (j - o)), .unset, .unset]) rfl kq) ?_
  show Go p e below s _ _ _ s₁ (mkF m 5 #[.val (.ref a), .val (.int j), .val (.int o), .val (.int n), .val (.long V), .second, .val (.int fi), .val (.int (j - o)), .unset, .unset] [])
  refine go_st (fun _ kq => XS.iload X0.here hx rfl (hb hby d3_5) rfl kq) ?_
  show Go p e below s _ _ _ s₁ (mkF m 7 #[.val (.ref a), .val (.int j), .val (.int o), .val (.int n), .val (.long V), .second, .val (.int fi), .val (.int (j - o)), .unset, .unset] [(.int (j - o))])
  by_cases hc13 : (j - o) < (0 : Int32)
  · rw [if_pos hc13]
    refine go_st (fun _ kq => XS.ifYes X0.here hx rfl (pc0 := 7) (pc' := 16) rfl (hb hby d3_7) rfl (XT.i0_lt_t hc13) (by decide) (by decide) kq) ?_
    show Go p e below s _ _ _ s₁ (mkF m 16 #[.val (.ref a), .val (.int j), .val (.int o), .val (.int n), .val (.long V), .second, .val (.int fi), .val (.int (j - o)), .unset, .unset] [])
    refine go_st (fun _ kq => XS.iload X0.here hx rfl (hb hby d3_16) rfl kq) ?_
    show Go p e below s _ _ _ s₁ (mkF m 18 #[.val (.ref a), .val (.int j), .val (.int o), .val (.int n), .val (.long V), .second, .val (.int fi), .val (.int (j - o)), .unset, .unset] [(.int fi)])
    refine go_st (fun _ kq => XS.istore X0.here hx rfl (hb hby d3_18) rfl (l' := #[.val (.ref a), .val (.int j), .val (.int o), .val (.int n), .val (.long V), .second, .val (.int fi), .val (.int (j - o)), .val (.int fi), .unset]) rfl kq) ?_
    show Go p e below s _ _ _ s₁ (mkF m 20 #[.val (.ref a), .val (.int j), .val (.int o), .val (.int n), .val (.long V), .second, .val (.int fi), .val (.int (j - o)), .val (.int fi), .unset] [])
    refine go_st (fun _ kq => XS.goto X0.here hx rfl (pc0 := 20) (pc' := 60) rfl (hb hby d3_20) (by decide) (by decide) kq) ?_
    show Go p e below s _ _ _ s₁ (mkF m 60 #[.val (.ref a), .val (.int j), .val (.int o), .val (.int n), .val (.long V), .second, .val (.int fi), .val (.int (j - o)), .val (.int fi), .unset] [])
    refine go_st (fun _ kq => XS.aloadN X0.here hx rfl (hb hby d3_60) rfl rfl kq) ?_
    show Go p e below s _ _ _ s₁ (mkF m 61 #[.val (.ref a), .val (.int j), .val (.int o), .val (.int n), .val (.long V), .second, .val (.int fi), .val (.int (j - o)), .val (.int fi), .unset] [(.ref a)])
    refine go_st (fun _ kq => XS.iloadN X0.here hx rfl (hb hby d3_61) rfl kq) ?_
    show Go p e below s _ _ _ s₁ (mkF m 62 #[.val (.ref a), .val (.int j), .val (.int o), .val (.int n), .val (.long V), .second, .val (.int fi), .val (.int (j - o)), .val (.int fi), .unset] [(.int j), (.ref a)])
    refine go_bald X0 hx hZ e0 P0 (hb hby d3_62) rfl rfl P1 (.int u) P2 ?_
    show Go p e below s _ _ _ s₁ (mkF m 63 #[.val (.ref a), .val (.int j), .val (.int o), .val (.int n), .val (.long V), .second, .val (.int fi), .val (.int (j - o)), .val (.int fi), .unset] [(.int u)])
    refine go_st (fun _ kq => XS.iload X0.here hx rfl (hb hby d3_63) rfl kq) ?_
    show Go p e below s _ _ _ s₁ (mkF m 65 #[.val (.ref a), .val (.int j), .val (.int o), .val (.int n), .val (.long V), .second, .val (.int fi), .val (.int (j - o)), .val (.int fi), .unset] [(.int fi), (.int u)])
    by_cases hc14 : u = fi
    · rw [if_pos hc14]
      refine go_st (fun _ kq => XS.icmpNo X0.here hx rfl (hb hby d3_65) rfl (XT.ii_ne_f hc14) kq) ?_
      show Go p e below s _ _ _ s₁ (mkF m 68 #[.val (.ref a), .val (.int j), .val (.int o), .val (.int n), .val (.long V), .second, .val (.int fi), .val (.int (j - o)), .val (.int fi), .unset] [])
      refine go_st (fun _ kq => XT.iconstV X0.here hx rfl (1 : Int32) (hb hby d3_68) (by decide) kq) ?_
      show Go p e below s _ _ _ s₁ (mkF m 69 #[.val (.ref a), .val (.int j), .val (.int o), .val (.int n), .val (.long V), .second, .val (.int fi), .val (.int (j - o)), .val (.int fi), .unset] [(.int (1 : Int32))])
      refine go_st (fun _ kq => XS.goto X0.here hx rfl (pc0 := 69) (pc' := 73) rfl (hb hby d3_69) (by decide) (by decide) kq) ?_
      show Go p e below s _ _ _ s₁ (mkF m 73 #[.val (.ref a), .val (.int j), .val (.int o), .val (.int n), .val (.long V), .second, .val (.int fi), .val (.int (j - o)), .val (.int fi), .unset] [(.int (1 : Int32))])
      exact go_retB (w := (1 : Int32)) X0 hx hlk hret (hb hby d3_73) (by decide) (by decide) (by decide) ⟨rfl, N0, e0⟩
    · rw [if_neg hc14]
      refine go_st (fun _ kq => XS.icmpYes X0.here hx rfl (pc0 := 65) (pc' := 72) rfl (hb hby d3_65) rfl (XT.ii_ne_t hc14) (by decide) (by decide) kq) ?_
      show Go p e below s _ _ _ s₁ (mkF m 72 #[.val (.ref a), .val (.int j), .val (.int o), .val (.int n), .val (.long V), .second, .val (.int fi), .val (.int (j - o)), .val (.int fi), .unset] [])
      refine go_st (fun _ kq => XT.iconstV X0.here hx rfl (0 : Int32) (hb hby d3_72) (by decide) kq) ?_
      show Go p e below s _ _ _ s₁ (mkF m 73 #[.val (.ref a), .val (.int j), .val (.int o), .val (.int n), .val (.long V), .second, .val (.int fi), .val (.int (j - o)), .val (.int fi), .unset] [(.int (0 : Int32))])
      exact go_retB (w := (0 : Int32)) X0 hx hlk hret (hb hby d3_73) (by decide) (by decide) (by decide) ⟨rfl, N0, e0⟩
  · rw [if_neg hc13]
    refine go_st (fun _ kq => XS.ifNo X0.here hx rfl (hb hby d3_7) rfl (XT.i0_lt_f hc13) kq) ?_
    show Go p e below s _ _ _ s₁ (mkF m 10 #[.val (.ref a), .val (.int j), .val (.int o), .val (.int n), .val (.long V), .second, .val (.int fi), .val (.int (j - o)), .unset, .unset] [])
    refine go_st (fun _ kq => XS.iload X0.here hx rfl (hb hby d3_10) rfl kq) ?_
    show Go p e below s _ _ _ s₁ (mkF m 12 #[.val (.ref a), .val (.int j), .val (.int o), .val (.int n), .val (.long V), .second, .val (.int fi), .val (.int (j - o)), .unset, .unset] [(.int (j - o))])
    refine go_st (fun _ kq => XS.iloadN X0.here hx rfl (hb hby d3_12) rfl kq) ?_
    show Go p e below s _ _ _ s₁ (mkF m 13 #[.val (.ref a), .val (.int j), .val (.int o), .val (.int n), .val (.long V), .second, .val (.int fi), .val (.int (j - o)), .unset, .unset] [(.int n), (.int (j - o))])
    by_cases hc15 : (j - o) < n
    · rw [if_pos hc15]
      refine go_st (fun _ kq => XS.icmpYes X0.here hx rfl (pc0 := 13) (pc' := 23) rfl (hb hby d3_13) rfl (XT.ii_lt_t hc15) (by decide) (by decide) kq) ?_
      show Go p e below s _ _ _ s₁ (mkF m 23 #[.val (.ref a), .val (.int j), .val (.int o), .val (.int n), .val (.long V), .second, .val (.int fi), .val (.int (j - o)), .unset, .unset] [])
      refine go_st (fun _ kq => XT.lload X0.here hx rfl (hb hby d3_23) rfl kq) ?_
      show Go p e below s _ _ _ s₁ (mkF m 25 #[.val (.ref a), .val (.int j), .val (.int o), .val (.int n), .val (.long V), .second, .val (.int fi), .val (.int (j - o)), .unset, .unset] [(.long V)])
      refine go_st (fun _ kq => XT.bipushV X0.here hx rfl (7 : Int32) (hb hby d3_25) (by decide) kq) ?_
      show Go p e below s _ _ _ s₁ (mkF m 27 #[.val (.ref a), .val (.int j), .val (.int o), .val (.int n), .val (.long V), .second, .val (.int fi), .val (.int (j - o)), .unset, .unset] [(.int (7 : Int32)), (.long V)])
      refine go_st (fun _ kq => XS.iload X0.here hx rfl (hb hby d3_27) rfl kq) ?_
      show Go p e below s _ _ _ s₁ (mkF m 29 #[.val (.ref a), .val (.int j), .val (.int o), .val (.int n), .val (.long V), .second, .val (.int fi), .val (.int (j - o)), .unset, .unset] [(.int (j - o)), (.int (7 : Int32)), (.long V)])
      refine go_st (fun _ kq => XS.imul X0.here hx rfl (hb hby d3_29) rfl kq) ?_
      show Go p e below s _ _ _ s₁ (mkF m 30 #[.val (.ref a), .val (.int j), .val (.int o), .val (.int n), .val (.long V), .second, .val (.int fi), .val (.int (j - o)), .unset, .unset] [(.int ((7 : Int32) * (j - o))), (.long V)])
      refine go_st (fun _ kq => XT.lushr X0.here hx rfl (hb hby d3_30) rfl kq) ?_
      show Go p e below s _ _ _ s₁ (mkF m 31 #[.val (.ref a), .val (.int j), .val (.int o), .val (.int n), .val (.long V), .second, .val (.int fi), .val (.int (j - o)), .unset, .unset] [(.long (XT.ushrL V ((7 : Int32) * (j - o))))])
      refine go_st (fun _ kq => Jvm.Stand.ldc2J X0 hx hown (mvT hZ (hw _ (List.mem_of_getElem? (i := 13) rfl))) rfl (hb hby d3_31) kq) ?_
      show Go p e below s _ _ _ s₁ (mkF m 34 #[.val (.ref a), .val (.int j), .val (.int o), .val (.int n), .val (.long V), .second, .val (.int fi), .val (.int (j - o)), .unset, .unset] [(.long (127 : Int64)), (.long (XT.ushrL V ((7 : Int32) * (j - o))))])
      refine go_st (fun _ kq => XT.land X0.here hx rfl (hb hby d3_34) rfl kq) ?_
      show Go p e below s _ _ _ s₁ (mkF m 35 #[.val (.ref a), .val (.int j), .val (.int o), .val (.int n), .val (.long V), .second, .val (.int fi), .val (.int (j - o)), .unset, .unset] [(.long ((XT.ushrL V ((7 : Int32) * (j - o))) &&& (127 : Int64)))])
      refine go_st (fun _ kq => XT.l2i X0.here hx rfl (hb hby d3_35) rfl kq) ?_
      show Go p e below s _ _ _ s₁ (mkF m 36 #[.val (.ref a), .val (.int j), .val (.int o), .val (.int n), .val (.long V), .second, .val (.int fi), .val (.int (j - o)), .unset, .unset] [(.int ((XT.ushrL V ((7 : Int32) * (j - o))) &&& (127 : Int64)).toInt32)])
      refine go_st (fun _ kq => XS.istore X0.here hx rfl (hb hby d3_36) rfl (l' := #[.val (.ref a), .val (.int j), .val (.int o), .val (.int n), .val (.long V), .second, .val (.int fi), .val (.int (j - o)), .unset, .val (.int ((XT.ushrL V ((7 : Int32) * (j - o))) &&& (127 : Int64)).toInt32)]) rfl kq) ?_
      show Go p e below s _ _ _ s₁ (mkF m 38 #[.val (.ref a), .val (.int j), .val (.int o), .val (.int n), .val (.long V), .second, .val (.int fi), .val (.int (j - o)), .unset, .val (.int ((XT.ushrL V ((7 : Int32) * (j - o))) &&& (127 : Int64)).toInt32)] [])
      refine go_st (fun _ kq => XS.iload X0.here hx rfl (hb hby d3_38) rfl kq) ?_
      show Go p e below s _ _ _ s₁ (mkF m 40 #[.val (.ref a), .val (.int j), .val (.int o), .val (.int n), .val (.long V), .second, .val (.int fi), .val (.int (j - o)), .unset, .val (.int ((XT.ushrL V ((7 : Int32) * (j - o))) &&& (127 : Int64)).toInt32)] [(.int (j - o))])
      refine go_st (fun _ kq => XS.iloadN X0.here hx rfl (hb hby d3_40) rfl kq) ?_
      show Go p e below s _ _ _ s₁ (mkF m 41 #[.val (.ref a), .val (.int j), .val (.int o), .val (.int n), .val (.long V), .second, .val (.int fi), .val (.int (j - o)), .unset, .val (.int ((XT.ushrL V ((7 : Int32) * (j - o))) &&& (127 : Int64)).toInt32)] [(.int n), (.int (j - o))])
      refine go_st (fun _ kq => XT.iconstV X0.here hx rfl (1 : Int32) (hb hby d3_41) (by decide) kq) ?_
      show Go p e below s _ _ _ s₁ (mkF m 42 #[.val (.ref a), .val (.int j), .val (.int o), .val (.int n), .val (.long V), .second, .val (.int fi), .val (.int (j - o)), .unset, .val (.int ((XT.ushrL V ((7 : Int32) * (j - o))) &&& (127 : Int64)).toInt32)] [(.int (1 : Int32)), (.int n), (.int (j - o))])
      refine go_st (fun _ kq => XS.isub X0.here hx rfl (hb hby d3_42) rfl kq) ?_
      show Go p e below s _ _ _ s₁ (mkF m 43 #[.val (.ref a), .val (.int j), .val (.int o), .val (.int n), .val (.long V), .second, .val (.int fi), .val (.int (j - o)), .unset, .val (.int ((XT.ushrL V ((7 : Int32) * (j - o))) &&& (127 : Int64)).toInt32)] [(.int (n - (1 : Int32))), (.int (j - o))])
      by_cases hc16 : (j - o) < (n - (1 : Int32))
      · rw [if_pos hc16]
        refine go_st (fun _ kq => XS.icmpNo X0.here hx rfl (hb hby d3_43) rfl (XT.ii_ge_f hc16) kq) ?_
        show Go p e below s _ _ _ s₁ (mkF m 46 #[.val (.ref a), .val (.int j), .val (.int o), .val (.int n), .val (.long V), .second, .val (.int fi), .val (.int (j - o)), .unset, .val (.int ((XT.ushrL V ((7 : Int32) * (j - o))) &&& (127 : Int64)).toInt32)] [])
        refine go_st (fun _ kq => XS.iload X0.here hx rfl (hb hby d3_46) rfl kq) ?_
        show Go p e below s _ _ _ s₁ (mkF m 48 #[.val (.ref a), .val (.int j), .val (.int o), .val (.int n), .val (.long V), .second, .val (.int fi), .val (.int (j - o)), .unset, .val (.int ((XT.ushrL V ((7 : Int32) * (j - o))) &&& (127 : Int64)).toInt32)] [(.int ((XT.ushrL V ((7 : Int32) * (j - o))) &&& (127 : Int64)).toInt32)])
        refine go_st (fun _ kq => XT.sipushV X0.here hx rfl (128 : Int32) (hb hby d3_48) (by decide) kq) ?_
        show Go p e below s _ _ _ s₁ (mkF m 51 #[.val (.ref a), .val (.int j), .val (.int o), .val (.int n), .val (.long V), .second, .val (.int fi), .val (.int (j - o)), .unset, .val (.int ((XT.ushrL V ((7 : Int32) * (j - o))) &&& (127 : Int64)).toInt32)] [(.int (128 : Int32)), (.int ((XT.ushrL V ((7 : Int32) * (j - o))) &&& (127 : Int64)).toInt32)])
        refine go_st (fun _ kq => XT.ior X0.here hx rfl (hb hby d3_51) rfl kq) ?_
        show Go p e below s _ _ _ s₁ (mkF m 52 #[.val (.ref a), .val (.int j), .val (.int o), .val (.int n), .val (.long V), .second, .val (.int fi), .val (.int (j - o)), .unset, .val (.int ((XT.ushrL V ((7 : Int32) * (j - o))) &&& (127 : Int64)).toInt32)] [(.int (((XT.ushrL V ((7 : Int32) * (j - o))) &&& (127 : Int64)).toInt32 ||| (128 : Int32)))])
        refine go_st (fun _ kq => XS.goto X0.here hx rfl (pc0 := 52) (pc' := 57) rfl (hb hby d3_52) (by decide) (by decide) kq) ?_
        show Go p e below s _ _ _ s₁ (mkF m 57 #[.val (.ref a), .val (.int j), .val (.int o), .val (.int n), .val (.long V), .second, .val (.int fi), .val (.int (j - o)), .unset, .val (.int ((XT.ushrL V ((7 : Int32) * (j - o))) &&& (127 : Int64)).toInt32)] [(.int (((XT.ushrL V ((7 : Int32) * (j - o))) &&& (127 : Int64)).toInt32 ||| (128 : Int32)))])
        refine go_st (fun _ kq => XT.i2b X0.here hx rfl (hb hby d3_57) rfl kq) ?_
        show Go p e below s _ _ _ s₁ (mkF m 58 #[.val (.ref a), .val (.int j), .val (.int o), .val (.int n), .val (.long V), .second, .val (.int fi), .val (.int (j - o)), .unset, .val (.int ((XT.ushrL V ((7 : Int32) * (j - o))) &&& (127 : Int64)).toInt32)] [(.int (((XT.ushrL V ((7 : Int32) * (j - o))) &&& (127 : Int64)).toInt32 ||| (128 : Int32)).toInt8.toInt32)])
        refine go_st (fun _ kq => XS.istore X0.here hx rfl (hb hby d3_58) rfl (l' := #[.val (.ref a), .val (.int j), .val (.int o), .val (.int n), .val (.long V), .second, .val (.int fi), .val (.int (j - o)), .val (.int (((XT.ushrL V ((7 : Int32) * (j - o))) &&& (127 : Int64)).toInt32 ||| (128 : Int32)).toInt8.toInt32), .val (.int ((XT.ushrL V ((7 : Int32) * (j - o))) &&& (127 : Int64)).toInt32)]) rfl kq) ?_
        show Go p e below s _ _ _ s₁ (mkF m 60 #[.val (.ref a), .val (.int j), .val (.int o), .val (.int n), .val (.long V), .second, .val (.int fi), .val (.int (j - o)), .val (.int (((XT.ushrL V ((7 : Int32) * (j - o))) &&& (127 : Int64)).toInt32 ||| (128 : Int32)).toInt8.toInt32), .val (.int ((XT.ushrL V ((7 : Int32) * (j - o))) &&& (127 : Int64)).toInt32)] [])
        refine go_st (fun _ kq => XS.aloadN X0.here hx rfl (hb hby d3_60) rfl rfl kq) ?_
        show Go p e below s _ _ _ s₁ (mkF m 61 #[.val (.ref a), .val (.int j), .val (.int o), .val (.int n), .val (.long V), .second, .val (.int fi), .val (.int (j - o)), .val (.int (((XT.ushrL V ((7 : Int32) * (j - o))) &&& (127 : Int64)).toInt32 ||| (128 : Int32)).toInt8.toInt32), .val (.int ((XT.ushrL V ((7 : Int32) * (j - o))) &&& (127 : Int64)).toInt32)] [(.ref a)])
        refine go_st (fun _ kq => XS.iloadN X0.here hx rfl (hb hby d3_61) rfl kq) ?_
        show Go p e below s _ _ _ s₁ (mkF m 62 #[.val (.ref a), .val (.int j), .val (.int o), .val (.int n), .val (.long V), .second, .val (.int fi), .val (.int (j - o)), .val (.int (((XT.ushrL V ((7 : Int32) * (j - o))) &&& (127 : Int64)).toInt32 ||| (128 : Int32)).toInt8.toInt32), .val (.int ((XT.ushrL V ((7 : Int32) * (j - o))) &&& (127 : Int64)).toInt32)] [(.int j), (.ref a)])
        refine go_bald X0 hx hZ e0 P0 (hb hby d3_62) rfl rfl P1 (.int u) P2 ?_
        show Go p e below s _ _ _ s₁ (mkF m 63 #[.val (.ref a), .val (.int j), .val (.int o), .val (.int n), .val (.long V), .second, .val (.int fi), .val (.int (j - o)), .val (.int (((XT.ushrL V ((7 : Int32) * (j - o))) &&& (127 : Int64)).toInt32 ||| (128 : Int32)).toInt8.toInt32), .val (.int ((XT.ushrL V ((7 : Int32) * (j - o))) &&& (127 : Int64)).toInt32)] [(.int u)])
        refine go_st (fun _ kq => XS.iload X0.here hx rfl (hb hby d3_63) rfl kq) ?_
        show Go p e below s _ _ _ s₁ (mkF m 65 #[.val (.ref a), .val (.int j), .val (.int o), .val (.int n), .val (.long V), .second, .val (.int fi), .val (.int (j - o)), .val (.int (((XT.ushrL V ((7 : Int32) * (j - o))) &&& (127 : Int64)).toInt32 ||| (128 : Int32)).toInt8.toInt32), .val (.int ((XT.ushrL V ((7 : Int32) * (j - o))) &&& (127 : Int64)).toInt32)] [(.int (((XT.ushrL V ((7 : Int32) * (j - o))) &&& (127 : Int64)).toInt32 ||| (128 : Int32)).toInt8.toInt32), (.int u)])
        by_cases hc17 : u = (((XT.ushrL V ((7 : Int32) * (j - o))) &&& (127 : Int64)).toInt32 ||| (128 : Int32)).toInt8.toInt32
        · rw [if_pos hc17]
          refine go_st (fun _ kq => XS.icmpNo X0.here hx rfl (hb hby d3_65) rfl (XT.ii_ne_f hc17) kq) ?_
          show Go p e below s _ _ _ s₁ (mkF m 68 #[.val (.ref a), .val (.int j), .val (.int o), .val (.int n), .val (.long V), .second, .val (.int fi), .val (.int (j - o)), .val (.int (((XT.ushrL V ((7 : Int32) * (j - o))) &&& (127 : Int64)).toInt32 ||| (128 : Int32)).toInt8.toInt32), .val (.int ((XT.ushrL V ((7 : Int32) * (j - o))) &&& (127 : Int64)).toInt32)] [])
          refine go_st (fun _ kq => XT.iconstV X0.here hx rfl (1 : Int32) (hb hby d3_68) (by decide) kq) ?_
          show Go p e below s _ _ _ s₁ (mkF m 69 #[.val (.ref a), .val (.int j), .val (.int o), .val (.int n), .val (.long V), .second, .val (.int fi), .val (.int (j - o)), .val (.int (((XT.ushrL V ((7 : Int32) * (j - o))) &&& (127 : Int64)).toInt32 ||| (128 : Int32)).toInt8.toInt32), .val (.int ((XT.ushrL V ((7 : Int32) * (j - o))) &&& (127 : Int64)).toInt32)] [(.int (1 : Int32))])
          refine go_st (fun _ kq => XS.goto X0.here hx rfl (pc0 := 69) (pc' := 73) rfl (hb hby d3_69) (by decide) (by decide) kq) ?_
          show Go p e below s _ _ _ s₁ (mkF m 73 #[.val (.ref a), .val (.int j), .val (.int o), .val (.int n), .val (.long V), .second, .val (.int fi), .val (.int (j - o)), .val (.int (((XT.ushrL V ((7 : Int32) * (j - o))) &&& (127 : Int64)).toInt32 ||| (128 : Int32)).toInt8.toInt32), .val (.int ((XT.ushrL V ((7 : Int32) * (j - o))) &&& (127 : Int64)).toInt32)] [(.int (1 : Int32))])
          exact go_retB (w := (1 : Int32)) X0 hx hlk hret (hb hby d3_73) (by decide) (by decide) (by decide) ⟨rfl, N0, e0⟩
        · rw [if_neg hc17]
          refine go_st (fun _ kq => XS.icmpYes X0.here hx rfl (pc0 := 65) (pc' := 72) rfl (hb hby d3_65) rfl (XT.ii_ne_t hc17) (by decide) (by decide) kq) ?_
          show Go p e below s _ _ _ s₁ (mkF m 72 #[.val (.ref a), .val (.int j), .val (.int o), .val (.int n), .val (.long V), .second, .val (.int fi), .val (.int (j - o)), .val (.int (((XT.ushrL V ((7 : Int32) * (j - o))) &&& (127 : Int64)).toInt32 ||| (128 : Int32)).toInt8.toInt32), .val (.int ((XT.ushrL V ((7 : Int32) * (j - o))) &&& (127 : Int64)).toInt32)] [])
          refine go_st (fun _ kq => XT.iconstV X0.here hx rfl (0 : Int32) (hb hby d3_72) (by decide) kq) ?_
          show Go p e below s _ _ _ s₁ (mkF m 73 #[.val (.ref a), .val (.int j), .val (.int o), .val (.int n), .val (.long V), .second, .val (.int fi), .val (.int (j - o)), .val (.int (((XT.ushrL V ((7 : Int32) * (j - o))) &&& (127 : Int64)).toInt32 ||| (128 : Int32)).toInt8.toInt32), .val (.int ((XT.ushrL V ((7 : Int32) * (j - o))) &&& (127 : Int64)).toInt32)] [(.int (0 : Int32))])
          exact go_retB (w := (0 : Int32)) X0 hx hlk hret (hb hby d3_73) (by decide) (by decide) (by decide) ⟨rfl, N0, e0⟩
      · rw [if_neg hc16]
        refine go_st (fun _ kq => XS.icmpYes X0.here hx rfl (pc0 := 43) (pc' := 55) rfl (hb hby d3_43) rfl (XT.ii_ge_t hc16) (by decide) (by decide) kq) ?_
        show Go p e below s _ _ _ s₁ (mkF m 55 #[.val (.ref a), .val (.int j), .val (.int o), .val (.int n), .val (.long V), .second, .val (.int fi), .val (.int (j - o)), .unset, .val (.int ((XT.ushrL V ((7 : Int32) * (j - o))) &&& (127 : Int64)).toInt32)] [])
        refine go_st (fun _ kq => XS.iload X0.here hx rfl (hb hby d3_55) rfl kq) ?_
        show Go p e below s _ _ _ s₁ (mkF m 57 #[.val (.ref a), .val (.int j), .val (.int o), .val (.int n), .val (.long V), .second, .val (.int fi), .val (.int (j - o)), .unset, .val (.int ((XT.ushrL V ((7 : Int32) * (j - o))) &&& (127 : Int64)).toInt32)] [(.int ((XT.ushrL V ((7 : Int32) * (j - o))) &&& (127 : Int64)).toInt32)])
        refine go_st (fun _ kq => XT.i2b X0.here hx rfl (hb hby d3_57) rfl kq) ?_
        show Go p e below s _ _ _ s₁ (mkF m 58 #[.val (.ref a), .val (.int j), .val (.int o), .val (.int n), .val (.long V), .second, .val (.int fi), .val (.int (j - o)), .unset, .val (.int ((XT.ushrL V ((7 : Int32) * (j - o))) &&& (127 : Int64)).toInt32)] [(.int ((XT.ushrL V ((7 : Int32) * (j - o))) &&& (127 : Int64)).toInt32.toInt8.toInt32)])
        refine go_st (fun _ kq => XS.istore X0.here hx rfl (hb hby d3_58) rfl (l' := #[.val (.ref a), .val (.int j), .val (.int o), .val (.int n), .val (.long V), .second, .val (.int fi), .val (.int (j - o)), .val (.int ((XT.ushrL V ((7 : Int32) * (j - o))) &&& (127 : Int64)).toInt32.toInt8.toInt32), .val (.int ((XT.ushrL V ((7 : Int32) * (j - o))) &&& (127 : Int64)).toInt32)]) rfl kq) ?_
        show Go p e below s _ _ _ s₁ (mkF m 60 #[.val (.ref a), .val (.int j), .val (.int o), .val (.int n), .val (.long V), .second, .val (.int fi), .val (.int (j - o)), .val (.int ((XT.ushrL V ((7 : Int32) * (j - o))) &&& (127 : Int64)).toInt32.toInt8.toInt32), .val (.int ((XT.ushrL V ((7 : Int32) * (j - o))) &&& (127 : Int64)).toInt32)] [])
        refine go_st (fun _ kq => XS.aloadN X0.here hx rfl (hb hby d3_60) rfl rfl kq) ?_
        show Go p e below s _ _ _ s₁ (mkF m 61 #[.val (.ref a), .val (.int j), .val (.int o), .val (.int n), .val (.long V), .second, .val (.int fi), .val (.int (j - o)), .val (.int ((XT.ushrL V ((7 : Int32) * (j - o))) &&& (127 : Int64)).toInt32.toInt8.toInt32), .val (.int ((XT.ushrL V ((7 : Int32) * (j - o))) &&& (127 : Int64)).toInt32)] [(.ref a)])
        refine go_st (fun _ kq => XS.iloadN X0.here hx rfl (hb hby d3_61) rfl kq) ?_
        show Go p e below s _ _ _ s₁ (mkF m 62 #[.val (.ref a), .val (.int j), .val (.int o), .val (.int n), .val (.long V), .second, .val (.int fi), .val (.int (j - o)), .val (.int ((XT.ushrL V ((7 : Int32) * (j - o))) &&& (127 : Int64)).toInt32.toInt8.toInt32), .val (.int ((XT.ushrL V ((7 : Int32) * (j - o))) &&& (127 : Int64)).toInt32)] [(.int j), (.ref a)])
        refine go_bald X0 hx hZ e0 P0 (hb hby d3_62) rfl rfl P1 (.int u) P2 ?_
        show Go p e below s _ _ _ s₁ (mkF m 63 #[.val (.ref a), .val (.int j), .val (.int o), .val (.int n), .val (.long V), .second, .val (.int fi), .val (.int (j - o)), .val (.int ((XT.ushrL V ((7 : Int32) * (j - o))) &&& (127 : Int64)).toInt32.toInt8.toInt32), .val (.int ((XT.ushrL V ((7 : Int32) * (j - o))) &&& (127 : Int64)).toInt32)] [(.int u)])
        refine go_st (fun _ kq => XS.iload X0.here hx rfl (hb hby d3_63) rfl kq) ?_
        show Go p e below s _ _ _ s₁ (mkF m 65 #[.val (.ref a), .val (.int j), .val (.int o), .val (.int n), .val (.long V), .second, .val (.int fi), .val (.int (j - o)), .val (.int ((XT.ushrL V ((7 : Int32) * (j - o))) &&& (127 : Int64)).toInt32.toInt8.toInt32), .val (.int ((XT.ushrL V ((7 : Int32) * (j - o))) &&& (127 : Int64)).toInt32)] [(.int ((XT.ushrL V ((7 : Int32) * (j - o))) &&& (127 : Int64)).toInt32.toInt8.toInt32), (.int u)])
        by_cases hc18 : u = ((XT.ushrL V ((7 : Int32) * (j - o))) &&& (127 : Int64)).toInt32.toInt8.toInt32
        · rw [if_pos hc18]
          refine go_st (fun _ kq => XS.icmpNo X0.here hx rfl (hb hby d3_65) rfl (XT.ii_ne_f hc18) kq) ?_
          show Go p e below s _ _ _ s₁ (mkF m 68 #[.val (.ref a), .val (.int j), .val (.int o), .val (.int n), .val (.long V), .second, .val (.int fi), .val (.int (j - o)), .val (.int ((XT.ushrL V ((7 : Int32) * (j - o))) &&& (127 : Int64)).toInt32.toInt8.toInt32), .val (.int ((XT.ushrL V ((7 : Int32) * (j - o))) &&& (127 : Int64)).toInt32)] [])
          refine go_st (fun _ kq => XT.iconstV X0.here hx rfl (1 : Int32) (hb hby d3_68) (by decide) kq) ?_
          show Go p e below s _ _ _ s₁ (mkF m 69 #[.val (.ref a), .val (.int j), .val (.int o), .val (.int n), .val (.long V), .second, .val (.int fi), .val (.int (j - o)), .val (.int ((XT.ushrL V ((7 : Int32) * (j - o))) &&& (127 : Int64)).toInt32.toInt8.toInt32), .val (.int ((XT.ushrL V ((7 : Int32) * (j - o))) &&& (127 : Int64)).toInt32)] [(.int (1 : Int32))])
          refine go_st (fun _ kq => XS.goto X0.here hx rfl (pc0 := 69) (pc' := 73) rfl (hb hby d3_69) (by decide) (by decide) kq) ?_
          show Go p e below s _ _ _ s₁ (mkF m 73 #[.val (.ref a), .val (.int j), .val (.int o), .val (.int n), .val (.long V), .second, .val (.int fi), .val (.int (j - o)), .val (.int ((XT.ushrL V ((7 : Int32) * (j - o))) &&& (127 : Int64)).toInt32.toInt8.toInt32), .val (.int ((XT.ushrL V ((7 : Int32) * (j - o))) &&& (127 : Int64)).toInt32)] [(.int (1 : Int32))])
          exact go_retB (w := (1 : Int32)) X0 hx hlk hret (hb hby d3_73) (by decide) (by decide) (by decide) ⟨rfl, N0, e0⟩
        · rw [if_neg hc18]
          refine go_st (fun _ kq => XS.icmpYes X0.here hx rfl (pc0 := 65) (pc' := 72) rfl (hb hby d3_65) rfl (XT.ii_ne_t hc18) (by decide) (by decide) kq) ?_
          show Go p e below s _ _ _ s₁ (mkF m 72 #[.val (.ref a), .val (.int j), .val (.int o), .val (.int n), .val (.long V), .second, .val (.int fi), .val (.int (j - o)), .val (.int ((XT.ushrL V ((7 : Int32) * (j - o))) &&& (127 : Int64)).toInt32.toInt8.toInt32), .val (.int ((XT.ushrL V ((7 : Int32) * (j - o))) &&& (127 : Int64)).toInt32)] [])
          refine go_st (fun _ kq => XT.iconstV X0.here hx rfl (0 : Int32) (hb hby d3_72) (by decide) kq) ?_
          show Go p e below s _ _ _ s₁ (mkF m 73 #[.val (.ref a), .val (.int j), .val (.int o), .val (.int n), .val (.long V), .second, .val (.int fi), .val (.int (j - o)), .val (.int ((XT.ushrL V ((7 : Int32) * (j - o))) &&& (127 : Int64)).toInt32.toInt8.toInt32), .val (.int ((XT.ushrL V ((7 : Int32) * (j - o))) &&& (127 : Int64)).toInt32)] [(.int (0 : Int32))])
          exact go_retB (w := (0 : Int32)) X0 hx hlk hret (hb hby d3_73) (by decide) (by decide) (by decide) ⟨rfl, N0, e0⟩
    · rw [if_neg hc15]
      refine go_st (fun _ kq => XS.icmpNo X0.here hx rfl (hb hby d3_13) rfl (XT.ii_lt_f hc15) kq) ?_
      show Go p e below s _ _ _ s₁ (mkF m 16 #[.val (.ref a), .val (.int j), .val (.int o), .val (.int n), .val (.long V), .second, .val (.int fi), .val (.int (j - o)), .unset, .unset] [])
      refine go_st (fun _ kq => XS.iload X0.here hx rfl (hb hby d3_16) rfl kq) ?_
      show Go p e below s _ _ _ s₁ (mkF m 18 #[.val (.ref a), .val (.int j), .val (.int o), .val (.int n), .val (.long V), .second, .val (.int fi), .val (.int (j - o)), .unset, .unset] [(.int fi)])
      refine go_st (fun _ kq => XS.istore X0.here hx rfl (hb hby d3_18) rfl (l' := #[.val (.ref a), .val (.int j), .val (.int o), .val (.int n), .val (.long V), .second, .val (.int fi), .val (.int (j - o)), .val (.int fi), .unset]) rfl kq) ?_
      show Go p e below s _ _ _ s₁ (mkF m 20 #[.val (.ref a), .val (.int j), .val (.int o), .val (.int n), .val (.long V), .second, .val (.int fi), .val (.int (j - o)), .val (.int fi), .unset] [])
      refine go_st (fun _ kq => XS.goto X0.here hx rfl (pc0 := 20) (pc' := 60) rfl (hb hby d3_20) (by decide) (by decide) kq) ?_
      show Go p e below s _ _ _ s₁ (mkF m 60 #[.val (.ref a), .val (.int j), .val (.int o), .val (.int n), .val (.long V), .second, .val (.int fi), .val (.int (j - o)), .val (.int fi), .unset] [])
      refine go_st (fun _ kq => XS.aloadN X0.here hx rfl (hb hby d3_60) rfl rfl kq) ?_
      show Go p e below s _ _ _ s₁ (mkF m 61 #[.val (.ref a), .val (.int j), .val (.int o), .val (.int n), .val (.long V), .second, .val (.int fi), .val (.int (j - o)), .val (.int fi), .unset] [(.ref a)])
      refine go_st (fun _ kq => XS.iloadN X0.here hx rfl (hb hby d3_61) rfl kq) ?_
      show Go p e below s _ _ _ s₁ (mkF m 62 #[.val (.ref a), .val (.int j), .val (.int o), .val (.int n), .val (.long V), .second, .val (.int fi), .val (.int (j - o)), .val (.int fi), .unset] [(.int j), (.ref a)])
      refine go_bald X0 hx hZ e0 P0 (hb hby d3_62) rfl rfl P1 (.int u) P2 ?_
      show Go p e below s _ _ _ s₁ (mkF m 63 #[.val (.ref a), .val (.int j), .val (.int o), .val (.int n), .val (.long V), .second, .val (.int fi), .val (.int (j - o)), .val (.int fi), .unset] [(.int u)])
      refine go_st (fun _ kq => XS.iload X0.here hx rfl (hb hby d3_63) rfl kq) ?_
      show Go p e below s _ _ _ s₁ (mkF m 65 #[.val (.ref a), .val (.int j), .val (.int o), .val (.int n), .val (.long V), .second, .val (.int fi), .val (.int (j - o)), .val (.int fi), .unset] [(.int fi), (.int u)])
      by_cases hc19 : u = fi
      · rw [if_pos hc19]
        refine go_st (fun _ kq => XS.icmpNo X0.here hx rfl (hb hby d3_65) rfl (XT.ii_ne_f hc19) kq) ?_
        show Go p e below s _ _ _ s₁ (mkF m 68 #[.val (.ref a), .val (.int j), .val (.int o), .val (.int n), .val (.long V), .second, .val (.int fi), .val (.int (j - o)), .val (.int fi), .unset] [])
        refine go_st (fun _ kq => XT.iconstV X0.here hx rfl (1 : Int32) (hb hby d3_68) (by decide) kq) ?_
        show Go p e below s _ _ _ s₁ (mkF m 69 #[.val (.ref a), .val (.int j), .val (.int o), .val (.int n), .val (.long V), .second, .val (.int fi), .val (.int (j - o)), .val (.int fi), .unset] [(.int (1 : Int32))])
        refine go_st (fun _ kq => XS.goto X0.here hx rfl (pc0 := 69) (pc' := 73) rfl (hb hby d3_69) (by decide) (by decide) kq) ?_
        show Go p e below s _ _ _ s₁ (mkF m 73 #[.val (.ref a), .val (.int j), .val (.int o), .val (.int n), .val (.long V), .second, .val (.int fi), .val (.int (j - o)), .val (.int fi), .unset] [(.int (1 : Int32))])
        exact go_retB (w := (1 : Int32)) X0 hx hlk hret (hb hby d3_73) (by decide) (by decide) (by decide) ⟨rfl, N0, e0⟩
      · rw [if_neg hc19]
        refine go_st (fun _ kq => XS.icmpYes X0.here hx rfl (pc0 := 65) (pc' := 72) rfl (hb hby d3_65) rfl (XT.ii_ne_t hc19) (by decide) (by decide) kq) ?_
        show Go p e below s _ _ _ s₁ (mkF m 72 #[.val (.ref a), .val (.int j), .val (.int o), .val (.int n), .val (.long V), .second, .val (.int fi), .val (.int (j - o)), .val (.int fi), .unset] [])
        refine go_st (fun _ kq => XT.iconstV X0.here hx rfl (0 : Int32) (hb hby d3_72) (by decide) kq) ?_
        show Go p e below s _ _ _ s₁ (mkF m 73 #[.val (.ref a), .val (.int j), .val (.int o), .val (.int n), .val (.long V), .second, .val (.int fi), .val (.int (j - o)), .val (.int fi), .unset] [(.int (0 : Int32))])
        exact go_retB (w := (0 : Int32)) X0 hx hlk hret (hb hby d3_73) (by decide) (by decide) (by decide) ⟨rfl, N0, e0⟩
theorem own_z (V : Int64) (y : Int32) (k c : Nat) (hs : (y.toInt64.toUInt64 &&& Int64.toUInt64 63) = UInt64.ofNat k) (hk : k < 64) (hc : 2 ^ k = c) : XT.ushrL V y = 0 ↔ UU V < c := by
  have h := UU_ushrK V y k hs hk
  rw [hc] at h
  have hp : 0 < c := by rw [← hc]; exact Nat.pos_of_ne_zero (by simp)
  have e0 : UU 0 = 0 := by decide
  constructor
  · intro q
    rw [q, e0] at h
    have := (Nat.div_eq_zero_iff).mp h.symm
    omega
  · intro q
    apply UU_inj
    rw [h, e0]
    exact Nat.div_eq_of_lt q
theorem own_len {V : Int64} {k : Nat} (hk : k < 10) (hall : ∀ i, i < k → 128 ≤ UU (RR V i)) (hsm : UU (RR V k) < 128) : fLen V = Int32.ofNat (k + 1) := by
  have hv := UU_lt V
  have hlo : ∀ j, j + 1 = k → 128 ≤ UU V / 128 ^ j := fun j hj => by
    have := hall j (by omega)
    rw [UU_RR] at this
    exact this
  rw [UU_RR] at hsm
  unfold fLen
  have z1 := own_z V 7 7 128 (by decide) (by decide) (by decide)
  have z2 := own_z V 14 14 16384 (by decide) (by decide) (by decide)
  have z3 := own_z V 21 21 2097152 (by decide) (by decide) (by decide)
  have z4 := own_z V 28 28 268435456 (by decide) (by decide) (by decide)
  have z5 := own_z V 35 35 34359738368 (by decide) (by decide) (by decide)
  have z6 := own_z V 42 42 4398046511104 (by decide) (by decide) (by decide)
  have z7 := own_z V 49 49 562949953421312 (by decide) (by decide) (by decide)
  have z8 := own_z V 56 56 72057594037927936 (by decide) (by decide) (by decide)
  have z9 := own_z V 63 63 9223372036854775808 (by decide) (by decide) (by decide)
  have hc : k = 0 ∨ k = 1 ∨ k = 2 ∨ k = 3 ∨ k = 4 ∨ k = 5 ∨ k = 6 ∨ k = 7 ∨ k = 8 ∨ k = 9 := by omega
  generalize UU V = v at *
  clear hall
  rcases hc with rfl | rfl | rfl | rfl | rfl | rfl | rfl | rfl | rfl | rfl
  · have e1 : (128 : Nat) ^ 0 = 1 := by decide
    have q1 : v < 128 := by
      rw [e1] at hsm
      omega
    clear hlo hsm
    rw [if_pos (z1.mpr (by omega))]
    rfl
  · have e1 : (128 : Nat) ^ 1 = 128 := by decide
    have q1 : v < 16384 := by
      rw [e1] at hsm
      omega
    have e2 : (128 : Nat) ^ 0 = 1 := by decide
    have q2 : 128 ≤ v := by
      have := hlo 0 rfl
      rw [e2] at this
      omega
    clear hlo hsm
    rw [if_neg (fun h => by have := z1.mp h; omega), if_pos (z2.mpr (by omega))]
    rfl
  · have e1 : (128 : Nat) ^ 2 = 16384 := by decide
    have q1 : v < 2097152 := by
      rw [e1] at hsm
      omega
    have e2 : (128 : Nat) ^ 1 = 128 := by decide
    have q2 : 16384 ≤ v := by
      have := hlo 1 rfl
      rw [e2] at this
      omega
    clear hlo hsm
    rw [if_neg (fun h => by have := z1.mp h; omega), if_neg (fun h => by have := z2.mp h; omega), if_pos (z3.mpr (by omega))]
    rfl
  · have e1 : (128 : Nat) ^ 3 = 2097152 := by decide
    have q1 : v < 268435456 := by
      rw [e1] at hsm
      omega
    have e2 : (128 : Nat) ^ 2 = 16384 := by decide
    have q2 : 2097152 ≤ v := by
      have := hlo 2 rfl
      rw [e2] at this
      omega
    clear hlo hsm
    rw [if_neg (fun h => by have := z1.mp h; omega), if_neg (fun h => by have := z2.mp h; omega), if_neg (fun h => by have := z3.mp h; omega), if_pos (z4.mpr (by omega))]
    rfl
  · have e1 : (128 : Nat) ^ 4 = 268435456 := by decide
    have q1 : v < 34359738368 := by
      rw [e1] at hsm
      omega
    have e2 : (128 : Nat) ^ 3 = 2097152 := by decide
    have q2 : 268435456 ≤ v := by
      have := hlo 3 rfl
      rw [e2] at this
      omega
    clear hlo hsm
    rw [if_neg (fun h => by have := z1.mp h; omega), if_neg (fun h => by have := z2.mp h; omega), if_neg (fun h => by have := z3.mp h; omega), if_neg (fun h => by have := z4.mp h; omega), if_pos (z5.mpr (by omega))]
    rfl
  · have e1 : (128 : Nat) ^ 5 = 34359738368 := by decide
    have q1 : v < 4398046511104 := by
      rw [e1] at hsm
      omega
    have e2 : (128 : Nat) ^ 4 = 268435456 := by decide
    have q2 : 34359738368 ≤ v := by
      have := hlo 4 rfl
      rw [e2] at this
      omega
    clear hlo hsm
    rw [if_neg (fun h => by have := z1.mp h; omega), if_neg (fun h => by have := z2.mp h; omega), if_neg (fun h => by have := z3.mp h; omega), if_neg (fun h => by have := z4.mp h; omega), if_neg (fun h => by have := z5.mp h; omega), if_pos (z6.mpr (by omega))]
    rfl
  · have e1 : (128 : Nat) ^ 6 = 4398046511104 := by decide
    have q1 : v < 562949953421312 := by
      rw [e1] at hsm
      omega
    have e2 : (128 : Nat) ^ 5 = 34359738368 := by decide
    have q2 : 4398046511104 ≤ v := by
      have := hlo 5 rfl
      rw [e2] at this
      omega
    clear hlo hsm
    rw [if_neg (fun h => by have := z1.mp h; omega), if_neg (fun h => by have := z2.mp h; omega), if_neg (fun h => by have := z3.mp h; omega), if_neg (fun h => by have := z4.mp h; omega), if_neg (fun h => by have := z5.mp h; omega), if_neg (fun h => by have := z6.mp h; omega), if_pos (z7.mpr (by omega))]
    rfl
  · have e1 : (128 : Nat) ^ 7 = 562949953421312 := by decide
    have q1 : v < 72057594037927936 := by
      rw [e1] at hsm
      omega
    have e2 : (128 : Nat) ^ 6 = 4398046511104 := by decide
    have q2 : 562949953421312 ≤ v := by
      have := hlo 6 rfl
      rw [e2] at this
      omega
    clear hlo hsm
    rw [if_neg (fun h => by have := z1.mp h; omega), if_neg (fun h => by have := z2.mp h; omega), if_neg (fun h => by have := z3.mp h; omega), if_neg (fun h => by have := z4.mp h; omega), if_neg (fun h => by have := z5.mp h; omega), if_neg (fun h => by have := z6.mp h; omega), if_neg (fun h => by have := z7.mp h; omega), if_pos (z8.mpr (by omega))]
    rfl
  · have e1 : (128 : Nat) ^ 8 = 72057594037927936 := by decide
    have q1 : v < 9223372036854775808 := by
      rw [e1] at hsm
      omega
    have e2 : (128 : Nat) ^ 7 = 562949953421312 := by decide
    have q2 : 72057594037927936 ≤ v := by
      have := hlo 7 rfl
      rw [e2] at this
      omega
    clear hlo hsm
    rw [if_neg (fun h => by have := z1.mp h; omega), if_neg (fun h => by have := z2.mp h; omega), if_neg (fun h => by have := z3.mp h; omega), if_neg (fun h => by have := z4.mp h; omega), if_neg (fun h => by have := z5.mp h; omega), if_neg (fun h => by have := z6.mp h; omega), if_neg (fun h => by have := z7.mp h; omega), if_neg (fun h => by have := z8.mp h; omega), if_pos (z9.mpr (by omega))]
    rfl
  · have e1 : (128 : Nat) ^ 9 = 9223372036854775808 := by decide
    have q1 : v < 1180591620717411303424 := by
      rw [e1] at hsm
      omega
    have e2 : (128 : Nat) ^ 8 = 72057594037927936 := by decide
    have q2 : 9223372036854775808 ≤ v := by
      have := hlo 8 rfl
      rw [e2] at this
      omega
    clear hlo hsm
    rw [if_neg (fun h => by have := z1.mp h; omega), if_neg (fun h => by have := z2.mp h; omega), if_neg (fun h => by have := z3.mp h; omega), if_neg (fun h => by have := z4.mp h; omega), if_neg (fun h => by have := z5.mp h; omega), if_neg (fun h => by have := z6.mp h; omega), if_neg (fun h => by have := z7.mp h; omega), if_neg (fun h => by have := z8.mp h; omega), if_neg (fun h => by have := z9.mp h; omega)]
    rfl
theorem own_RR (V : Int64) {i : Nat} (hi : i < 10) : XT.ushrL V ((7 : Int32) * Int32.ofNat i) = RR V i := by
  apply UU_inj
  rw [UU_RR]
  have hc : i = 0 ∨ i = 1 ∨ i = 2 ∨ i = 3 ∨ i = 4 ∨ i = 5 ∨ i = 6 ∨ i = 7 ∨ i = 8 ∨ i = 9 := by omega
  rcases hc with rfl | rfl | rfl | rfl | rfl | rfl | rfl | rfl | rfl | rfl
  · rw [UU_ushrK V _ 0 (by decide) (by decide)]
  · rw [UU_ushrK V _ 7 (by decide) (by decide)]
  · rw [UU_ushrK V _ 14 (by decide) (by decide)]
  · rw [UU_ushrK V _ 21 (by decide) (by decide)]
  · rw [UU_ushrK V _ 28 (by decide) (by decide)]
  · rw [UU_ushrK V _ 35 (by decide) (by decide)]
  · rw [UU_ushrK V _ 42 (by decide) (by decide)]
  · rw [UU_ushrK V _ 49 (by decide) (by decide)]
  · rw [UU_ushrK V _ 56 (by decide) (by decide)]
  · rw [UU_ushrK V _ 63 (by decide) (by decide)]
theorem own_sub {j o : Nat} (hj : j < 16) (ho : o ≤ j) : Int32.ofNat j - Int32.ofNat o = Int32.ofNat (j - o) := by
  rw [← Int32.toInt_inj, own_n16 (by omega)]
  have h1 := c_isub (Int32.ofNat j) (Int32.ofNat o)
  have h2 := rng32 (Int32.ofNat j - Int32.ofNat o)
  rw [own_n16 (by omega), own_n16 (by omega)] at h1
  omega
theorem own_or (x : Int64) : (x ||| (128 : Int64)).toInt32 = x.toInt32 ||| (128 : Int32) := by
  apply Int32.toBitVec_inj.mp
  simp [Int64.toInt32_or]
theorem own_127 {x : Int64} (h : UU x < 128) : x &&& (127 : Int64) = x := by
  apply UU_inj
  unfold UU at *
  rw [Int64.toBitVec_and, BitVec.toNat_and]
  have e : (127 : Int64).toBitVec.toNat = 2 ^ 7 - 1 := by decide
  rw [e, Nat.and_two_pow_sub_one_eq_mod]
  omega
theorem own_at {o k j : Nat} {V : Int64} {fi : Int32} (ho : o < 4) (hk : k < 10) (hall : ∀ i, i < k → 128 ≤ UU (RR V i)) (hsm : UU (RR V k) < 128) (hj : j < 16) : fAt (Int32.ofNat j) (Int32.ofNat o) (Int32.ofNat (k + 1)) V fi (FE (fun _ => fi) o V k j) = 1 := by
  have e0 : (0 : Int32).toInt = 0 := rfl
  have e1 : (1 : Int32).toInt = 1 := rfl
  unfold fAt FE FF
  rcases Nat.lt_or_ge j o with hlt | hge
  · have n1 : Int32.ofNat j - Int32.ofNat o < 0 := by
      rw [Int32.lt_iff_toInt_lt]
      have h1 := c_isub (Int32.ofNat j) (Int32.ofNat o)
      have h2 := rng32 (Int32.ofNat j - Int32.ofNat o)
      rw [own_n16 (by omega), own_n16 (by omega)] at h1
      omega
    rw [if_pos n1, if_neg (show ¬ j = o + k by omega), if_neg (show ¬ (o ≤ j ∧ j < o + k) by omega), if_pos rfl]
  · rw [own_sub hj hge]
    have hk1 : Int32.ofNat (k + 1) - 1 = Int32.ofNat k := by
      rw [← Int32.toInt_inj, own_n16 (by omega)]
      have h1 := c_isub (Int32.ofNat (k + 1)) 1
      have h2 := rng32 (Int32.ofNat (k + 1) - 1)
      rw [own_n16 (by omega)] at h1
      omega
    have hlt : ∀ {a b : Nat}, a < 100 → b < 100 → (Int32.ofNat a < Int32.ofNat b ↔ a < b) := fun ha hb => by
      rw [Int32.lt_iff_toInt_lt, own_n16 ha, own_n16 hb]
      omega
    rw [hk1, if_neg (by rw [Int32.lt_iff_toInt_lt, own_n16 (by omega)]; omega)]
    rcases Nat.lt_trichotomy (j - o) k with z | z | z
    · rw [if_pos ((hlt (by omega) (by omega)).mpr (by omega)), if_pos ((hlt (by omega) (by omega)).mpr z), if_neg (show ¬ j = o + k by omega), if_pos (show o ≤ j ∧ j < o + k by omega), own_RR V (by omega), own_or, if_pos rfl]
    · rw [if_pos ((hlt (by omega) (by omega)).mpr (by omega)), if_neg (fun h => by have := (hlt (by omega) (by omega)).mp h; omega), if_pos (show j = o + k by omega), z, own_RR V hk, own_127 hsm, if_pos rfl]
    · rw [if_neg (fun h => by have := (hlt (by omega) (by omega)).mp h; omega), if_neg (show ¬ j = o + k by omega), if_neg (show ¬ (o ≤ j ∧ j < o + k) by omega), if_pos rfl]

theorem pn3 : plainFor x = true := by first | (refine plainFor_of_name ?_; simp [plainName, overriddenIn]; done) | (refine plainFor_of_name ?_; decide +kernel) | decide +kernel
theorem pd0 : parseMethodDescriptor "([BIJ)I" = some ⟨[(.array .byte), .int, .long], (some .int)⟩ := by decide +kernel
theorem pd1 : parseMethodDescriptor "(J)I" = some ⟨[.long], (some .int)⟩ := by decide +kernel
theorem pd2 : parseMethodDescriptor "([BIIIJB)Z" = some ⟨[(.array .byte), .int, .int, .int, .long, .byte], (some .boolean)⟩ := by decide +kernel
theorem ef_law (m : MethodId) (x0 : Int64) (x1 : Int32) (x2 : Int32) (x3 : Int32) : entryFrame m #[(.long x0), (.int x1), (.int x2), (.int x3)] maxLocals = mkF m 0 #[.val (.long x0), .second, .val (.int x1), .val (.int x2), .val (.int x3), .unset, .unset, .unset, .unset, .unset, .unset, .unset, .unset] [] := by first | (simp [entryFrame, mkF, argsToLocals, Value.category, maxLocals]; done) | rfl
set_option maxRecDepth 65536 in
set_option maxHeartbeats 4000000 in
theorem met_law (l : Launch) (Z : State) (a0 : Array Value) (hw : ∀ d ∈ tables_1, d.before a0 Z = true) (x0 : Int64) (x1 : Int32) (x2 : Int32) (x3 : Int32) (h0 : Heap) (n0 : Nat) (Z0 : n0 ≤ h0.size) :
    Met l x code maxLocals ret tables_1 room_1 Z #[(.long x0), (.int x1), (.int x2), (.int x3)] h0 (QF (some (.int (1 : Int32))) n0) 16 128 := by
  refine own_body pn3 ?_
  intro p e s m below meth c s₁ ct X0 e0
  have ct0 := ct
  obtain ⟨hx, hZ, hown, hby, hml, hret, hlk, hnm⟩ := ct
  have N0 := Fr.nil n0
  refine castGo (ef_law m x0 x1 x2 x3) ?_
  show Go p e below s _ _ _ s₁ (mkF m 0 #[.val (.long x0), .second, .val (.int x1), .val (.int x2), .val (.int x3), .unset, .unset, .unset, .unset, .unset, .unset, .unset, .unset] [])
  refine go_st (fun _ kq => XT.lloadN X0.here hx rfl (hb hby at_0) rfl kq) ?_
  show Go p e below s _ _ _ s₁ (mkF m 1 #[.val (.long x0), .second, .val (.int x1), .val (.int x2), .val (.int x3), .unset, .unset, .unset, .unset, .unset, .unset, .unset, .unset] [(.long x0)])
  refine go_st (fun _ kq => XS.iloadN X0.here hx rfl (hb hby at_1) rfl kq) ?_
  show Go p e below s _ _ _ s₁ (mkF m 2 #[.val (.long x0), .second, .val (.int x1), .val (.int x2), .val (.int x3), .unset, .unset, .unset, .unset, .unset, .unset, .unset, .unset] [(.int x1), (.long x0)])
  refine go_st (fun _ kq => XT.bipushV X0.here hx rfl (63 : Int32) (hb hby at_2) (by decide) kq) ?_
  show Go p e below s _ _ _ s₁ (mkF m 4 #[.val (.long x0), .second, .val (.int x1), .val (.int x2), .val (.int x3), .unset, .unset, .unset, .unset, .unset, .unset, .unset, .unset] [(.int (63 : Int32)), (.int x1), (.long x0)])
  refine go_st (fun _ kq => XS.iand X0.here hx rfl (hb hby at_4) rfl kq) ?_
  show Go p e below s _ _ _ s₁ (mkF m 5 #[.val (.long x0), .second, .val (.int x1), .val (.int x2), .val (.int x3), .unset, .unset, .unset, .unset, .unset, .unset, .unset, .unset] [(.int (x1 &&& (63 : Int32))), (.long x0)])
  refine go_st (fun _ kq => XT.lushr X0.here hx rfl (hb hby at_5) rfl kq) ?_
  show Go p e below s _ _ _ s₁ (mkF m 6 #[.val (.long x0), .second, .val (.int x1), .val (.int x2), .val (.int x3), .unset, .unset, .unset, .unset, .unset, .unset, .unset, .unset] [(.long (XT.ushrL x0 (x1 &&& (63 : Int32))))])
  refine go_st (fun _ kq => XT.lstore X0.here hx rfl (hb hby at_6) rfl (l' := #[.val (.long x0), .second, .val (.int x1), .val (.int x2), .val (.int x3), .val (.long (XT.ushrL x0 (x1 &&& (63 : Int32)))), .second, .unset, .unset, .unset, .unset, .unset, .unset]) rfl kq) ?_
  show Go p e below s _ _ _ s₁ (mkF m 8 #[.val (.long x0), .second, .val (.int x1), .val (.int x2), .val (.int x3), .val (.long (XT.ushrL x0 (x1 &&& (63 : Int32)))), .second, .unset, .unset, .unset, .unset, .unset, .unset] [])
  refine go_st (fun _ kq => XS.iloadN X0.here hx rfl (hb hby at_8) rfl kq) ?_
  show Go p e below s _ _ _ s₁ (mkF m 9 #[.val (.long x0), .second, .val (.int x1), .val (.int x2), .val (.int x3), .val (.long (XT.ushrL x0 (x1 &&& (63 : Int32)))), .second, .unset, .unset, .unset, .unset, .unset, .unset] [(.int x2)])
  refine go_st (fun _ kq => XT.iconstV X0.here hx rfl (3 : Int32) (hb hby at_9) (by decide) kq) ?_
  show Go p e below s _ _ _ s₁ (mkF m 10 #[.val (.long x0), .second, .val (.int x1), .val (.int x2), .val (.int x3), .val (.long (XT.ushrL x0 (x1 &&& (63 : Int32)))), .second, .unset, .unset, .unset, .unset, .unset, .unset] [(.int (3 : Int32)), (.int x2)])
  refine go_st (fun _ kq => XS.iand X0.here hx rfl (hb hby at_10) rfl kq) ?_
  show Go p e below s _ _ _ s₁ (mkF m 11 #[.val (.long x0), .second, .val (.int x1), .val (.int x2), .val (.int x3), .val (.long (XT.ushrL x0 (x1 &&& (63 : Int32)))), .second, .unset, .unset, .unset, .unset, .unset, .unset] [(.int (x2 &&& (3 : Int32)))])
  refine go_st (fun _ kq => XS.istore X0.here hx rfl (hb hby at_11) rfl (l' := #[.val (.long x0), .second, .val (.int x1), .val (.int x2), .val (.int x3), .val (.long (XT.ushrL x0 (x1 &&& (63 : Int32)))), .second, .val (.int (x2 &&& (3 : Int32))), .unset, .unset, .unset, .unset, .unset]) rfl kq) ?_
  show Go p e below s _ _ _ s₁ (mkF m 13 #[.val (.long x0), .second, .val (.int x1), .val (.int x2), .val (.int x3), .val (.long (XT.ushrL x0 (x1 &&& (63 : Int32)))), .second, .val (.int (x2 &&& (3 : Int32))), .unset, .unset, .unset, .unset, .unset] [])
  refine go_st (fun _ kq => XS.iload X0.here hx rfl (hb hby at_13) rfl kq) ?_
  show Go p e below s _ _ _ s₁ (mkF m 15 #[.val (.long x0), .second, .val (.int x1), .val (.int x2), .val (.int x3), .val (.long (XT.ushrL x0 (x1 &&& (63 : Int32)))), .second, .val (.int (x2 &&& (3 : Int32))), .unset, .unset, .unset, .unset, .unset] [(.int x3)])
  refine go_st (fun _ kq => XT.i2b X0.here hx rfl (hb hby at_15) rfl kq) ?_
  show Go p e below s _ _ _ s₁ (mkF m 16 #[.val (.long x0), .second, .val (.int x1), .val (.int x2), .val (.int x3), .val (.long (XT.ushrL x0 (x1 &&& (63 : Int32)))), .second, .val (.int (x2 &&& (3 : Int32))), .unset, .unset, .unset, .unset, .unset] [(.int x3.toInt8.toInt32)])
  refine go_st (fun _ kq => XS.istore X0.here hx rfl (hb hby at_16) rfl (l' := #[.val (.long x0), .second, .val (.int x1), .val (.int x2), .val (.int x3), .val (.long (XT.ushrL x0 (x1 &&& (63 : Int32)))), .second, .val (.int (x2 &&& (3 : Int32))), .val (.int x3.toInt8.toInt32), .unset, .unset, .unset, .unset]) rfl kq) ?_
  show Go p e below s _ _ _ s₁ (mkF m 18 #[.val (.long x0), .second, .val (.int x1), .val (.int x2), .val (.int x3), .val (.long (XT.ushrL x0 (x1 &&& (63 : Int32)))), .second, .val (.int (x2 &&& (3 : Int32))), .val (.int x3.toInt8.toInt32), .unset, .unset, .unset, .unset] [])
  refine go_st (fun _ kq => XT.bipushV X0.here hx rfl (16 : Int32) (hb hby at_18) (by decide) kq) ?_
  show Go p e below s _ _ _ s₁ (mkF m 20 #[.val (.long x0), .second, .val (.int x1), .val (.int x2), .val (.int x3), .val (.long (XT.ushrL x0 (x1 &&& (63 : Int32)))), .second, .val (.int (x2 &&& (3 : Int32))), .val (.int x3.toInt8.toInt32), .unset, .unset, .unset, .unset] [(.int (16 : Int32))])
  refine go_newP X0 hx hZ (hw _ (List.mem_of_getElem? (i := 0) rfl)) e0 (hb hby at_20) rfl rfl 16 (by decide) 16 (Nat.le_refl _) (by decide) (by decide) (by decide) ?_
  intro T20 h20 a20 g20 X20 e20 E20 G20
  have nw_a20 : n0 ≤ a20 := Nat.le_trans Z0 (Nat.le_of_eq g20.symm)
  have lt_a20 : a20 < h20.size := G20.lt
  have A20 : GA Z h20 a20 .byte 16 (fun j => .int ((fun _ => (0 : Int32)) j)) := G20
  show Go p e below s _ _ _ T20 (mkF m 22 #[.val (.long x0), .second, .val (.int x1), .val (.int x2), .val (.int x3), .val (.long (XT.ushrL x0 (x1 &&& (63 : Int32)))), .second, .val (.int (x2 &&& (3 : Int32))), .val (.int x3.toInt8.toInt32), .unset, .unset, .unset, .unset] [(.ref a20)])
  refine go_st (fun _ kq => XS.dup X20.here hx rfl (hb hby at_22) rfl rfl kq) ?_
  show Go p e below s _ _ _ T20 (mkF m 23 #[.val (.long x0), .second, .val (.int x1), .val (.int x2), .val (.int x3), .val (.long (XT.ushrL x0 (x1 &&& (63 : Int32)))), .second, .val (.int (x2 &&& (3 : Int32))), .val (.int x3.toInt8.toInt32), .unset, .unset, .unset, .unset] [(.ref a20), (.ref a20)])
  refine go_st (fun _ kq => XT.iconstV X20.here hx rfl (0 : Int32) (hb hby at_23) (by decide) kq) ?_
  show Go p e below s _ _ _ T20 (mkF m 24 #[.val (.long x0), .second, .val (.int x1), .val (.int x2), .val (.int x3), .val (.long (XT.ushrL x0 (x1 &&& (63 : Int32)))), .second, .val (.int (x2 &&& (3 : Int32))), .val (.int x3.toInt8.toInt32), .unset, .unset, .unset, .unset] [(.int (0 : Int32)), (.ref a20), (.ref a20)])
  refine go_st (fun _ kq => XS.iload X20.here hx rfl (hb hby at_24) rfl kq) ?_
  show Go p e below s _ _ _ T20 (mkF m 26 #[.val (.long x0), .second, .val (.int x1), .val (.int x2), .val (.int x3), .val (.long (XT.ushrL x0 (x1 &&& (63 : Int32)))), .second, .val (.int (x2 &&& (3 : Int32))), .val (.int x3.toInt8.toInt32), .unset, .unset, .unset, .unset] [(.int x3.toInt8.toInt32), (.int (0 : Int32)), (.ref a20), (.ref a20)])
  refine go_bast X20 hx hZ e20 A20 (hb hby at_26) rfl rfl (by decide) ?_
  intro T21 h21 X21 e21 W21 G21
  have N21 := Fr.snoc X21 N0 nw_a20
  have A21 : GA Z h21 a20 .byte 16 (fun j => .int ((fun i => if i < 1 then x3.toInt8.toInt32 else 0) j)) := (own_fill (k := 0) (own_b8 _) rfl G21)
  show Go p e below s _ _ _ T21 (mkF m 27 #[.val (.long x0), .second, .val (.int x1), .val (.int x2), .val (.int x3), .val (.long (XT.ushrL x0 (x1 &&& (63 : Int32)))), .second, .val (.int (x2 &&& (3 : Int32))), .val (.int x3.toInt8.toInt32), .unset, .unset, .unset, .unset] [(.ref a20)])
  refine go_st (fun _ kq => XS.dup X21.here hx rfl (hb hby at_27) rfl rfl kq) ?_
  show Go p e below s _ _ _ T21 (mkF m 28 #[.val (.long x0), .second, .val (.int x1), .val (.int x2), .val (.int x3), .val (.long (XT.ushrL x0 (x1 &&& (63 : Int32)))), .second, .val (.int (x2 &&& (3 : Int32))), .val (.int x3.toInt8.toInt32), .unset, .unset, .unset, .unset] [(.ref a20), (.ref a20)])
  refine go_st (fun _ kq => XT.iconstV X21.here hx rfl (1 : Int32) (hb hby at_28) (by decide) kq) ?_
  show Go p e below s _ _ _ T21 (mkF m 29 #[.val (.long x0), .second, .val (.int x1), .val (.int x2), .val (.int x3), .val (.long (XT.ushrL x0 (x1 &&& (63 : Int32)))), .second, .val (.int (x2 &&& (3 : Int32))), .val (.int x3.toInt8.toInt32), .unset, .unset, .unset, .unset] [(.int (1 : Int32)), (.ref a20), (.ref a20)])
  refine go_st (fun _ kq => XS.iload X21.here hx rfl (hb hby at_29) rfl kq) ?_
  show Go p e below s _ _ _ T21 (mkF m 31 #[.val (.long x0), .second, .val (.int x1), .val (.int x2), .val (.int x3), .val (.long (XT.ushrL x0 (x1 &&& (63 : Int32)))), .second, .val (.int (x2 &&& (3 : Int32))), .val (.int x3.toInt8.toInt32), .unset, .unset, .unset, .unset] [(.int x3.toInt8.toInt32), (.int (1 : Int32)), (.ref a20), (.ref a20)])
  refine go_bast X21 hx hZ e21 A21 (hb hby at_31) rfl rfl (by decide) ?_
  intro T22 h22 X22 e22 W22 G22
  have N22 := Fr.snoc X22 N21 nw_a20
  have A22 : GA Z h22 a20 .byte 16 (fun j => .int ((fun i => if i < 2 then x3.toInt8.toInt32 else 0) j)) := (own_fill (k := 1) (own_b8 _) rfl G22)
  show Go p e below s _ _ _ T22 (mkF m 32 #[.val (.long x0), .second, .val (.int x1), .val (.int x2), .val (.int x3), .val (.long (XT.ushrL x0 (x1 &&& (63 : Int32)))), .second, .val (.int (x2 &&& (3 : Int32))), .val (.int x3.toInt8.toInt32), .unset, .unset, .unset, .unset] [(.ref a20)])
  refine go_st (fun _ kq => XS.dup X22.here hx rfl (hb hby at_32) rfl rfl kq) ?_
  show Go p e below s _ _ _ T22 (mkF m 33 #[.val (.long x0), .second, .val (.int x1), .val (.int x2), .val (.int x3), .val (.long (XT.ushrL x0 (x1 &&& (63 : Int32)))), .second, .val (.int (x2 &&& (3 : Int32))), .val (.int x3.toInt8.toInt32), .unset, .unset, .unset, .unset] [(.ref a20), (.ref a20)])
  refine go_st (fun _ kq => XT.iconstV X22.here hx rfl (2 : Int32) (hb hby at_33) (by decide) kq) ?_
  show Go p e below s _ _ _ T22 (mkF m 34 #[.val (.long x0), .second, .val (.int x1), .val (.int x2), .val (.int x3), .val (.long (XT.ushrL x0 (x1 &&& (63 : Int32)))), .second, .val (.int (x2 &&& (3 : Int32))), .val (.int x3.toInt8.toInt32), .unset, .unset, .unset, .unset] [(.int (2 : Int32)), (.ref a20), (.ref a20)])
  refine go_st (fun _ kq => XS.iload X22.here hx rfl (hb hby at_34) rfl kq) ?_
  show Go p e below s _ _ _ T22 (mkF m 36 #[.val (.long x0), .second, .val (.int x1), .val (.int x2), .val (.int x3), .val (.long (XT.ushrL x0 (x1 &&& (63 : Int32)))), .second, .val (.int (x2 &&& (3 : Int32))), .val (.int x3.toInt8.toInt32), .unset, .unset, .unset, .unset] [(.int x3.toInt8.toInt32), (.int (2 : Int32)), (.ref a20), (.ref a20)])
  refine go_bast X22 hx hZ e22 A22 (hb hby at_36) rfl rfl (by decide) ?_
  intro T23 h23 X23 e23 W23 G23
  have N23 := Fr.snoc X23 N22 nw_a20
  have A23 : GA Z h23 a20 .byte 16 (fun j => .int ((fun i => if i < 3 then x3.toInt8.toInt32 else 0) j)) := (own_fill (k := 2) (own_b8 _) rfl G23)
  show Go p e below s _ _ _ T23 (mkF m 37 #[.val (.long x0), .second, .val (.int x1), .val (.int x2), .val (.int x3), .val (.long (XT.ushrL x0 (x1 &&& (63 : Int32)))), .second, .val (.int (x2 &&& (3 : Int32))), .val (.int x3.toInt8.toInt32), .unset, .unset, .unset, .unset] [(.ref a20)])
  refine go_st (fun _ kq => XS.dup X23.here hx rfl (hb hby at_37) rfl rfl kq) ?_
  show Go p e below s _ _ _ T23 (mkF m 38 #[.val (.long x0), .second, .val (.int x1), .val (.int x2), .val (.int x3), .val (.long (XT.ushrL x0 (x1 &&& (63 : Int32)))), .second, .val (.int (x2 &&& (3 : Int32))), .val (.int x3.toInt8.toInt32), .unset, .unset, .unset, .unset] [(.ref a20), (.ref a20)])
  refine go_st (fun _ kq => XT.iconstV X23.here hx rfl (3 : Int32) (hb hby at_38) (by decide) kq) ?_
  show Go p e below s _ _ _ T23 (mkF m 39 #[.val (.long x0), .second, .val (.int x1), .val (.int x2), .val (.int x3), .val (.long (XT.ushrL x0 (x1 &&& (63 : Int32)))), .second, .val (.int (x2 &&& (3 : Int32))), .val (.int x3.toInt8.toInt32), .unset, .unset, .unset, .unset] [(.int (3 : Int32)), (.ref a20), (.ref a20)])
  refine go_st (fun _ kq => XS.iload X23.here hx rfl (hb hby at_39) rfl kq) ?_
  show Go p e below s _ _ _ T23 (mkF m 41 #[.val (.long x0), .second, .val (.int x1), .val (.int x2), .val (.int x3), .val (.long (XT.ushrL x0 (x1 &&& (63 : Int32)))), .second, .val (.int (x2 &&& (3 : Int32))), .val (.int x3.toInt8.toInt32), .unset, .unset, .unset, .unset] [(.int x3.toInt8.toInt32), (.int (3 : Int32)), (.ref a20), (.ref a20)])
  refine go_bast X23 hx hZ e23 A23 (hb hby at_41) rfl rfl (by decide) ?_
  intro T24 h24 X24 e24 W24 G24
  have N24 := Fr.snoc X24 N23 nw_a20
  have A24 : GA Z h24 a20 .byte 16 (fun j => .int ((fun i => if i < 4 then x3.toInt8.toInt32 else 0) j)) := (own_fill (k := 3) (own_b8 _) rfl G24)
  show Go p e below s _ _ _ T24 (mkF m 42 #[.val (.long x0), .second, .val (.int x1), .val (.int x2), .val (.int x3), .val (.long (XT.ushrL x0 (x1 &&& (63 : Int32)))), .second, .val (.int (x2 &&& (3 : Int32))), .val (.int x3.toInt8.toInt32), .unset, .unset, .unset, .unset] [(.ref a20)])
  refine go_st (fun _ kq => XS.dup X24.here hx rfl (hb hby at_42) rfl rfl kq) ?_
  show Go p e below s _ _ _ T24 (mkF m 43 #[.val (.long x0), .second, .val (.int x1), .val (.int x2), .val (.int x3), .val (.long (XT.ushrL x0 (x1 &&& (63 : Int32)))), .second, .val (.int (x2 &&& (3 : Int32))), .val (.int x3.toInt8.toInt32), .unset, .unset, .unset, .unset] [(.ref a20), (.ref a20)])
  refine go_st (fun _ kq => XT.iconstV X24.here hx rfl (4 : Int32) (hb hby at_43) (by decide) kq) ?_
  show Go p e below s _ _ _ T24 (mkF m 44 #[.val (.long x0), .second, .val (.int x1), .val (.int x2), .val (.int x3), .val (.long (XT.ushrL x0 (x1 &&& (63 : Int32)))), .second, .val (.int (x2 &&& (3 : Int32))), .val (.int x3.toInt8.toInt32), .unset, .unset, .unset, .unset] [(.int (4 : Int32)), (.ref a20), (.ref a20)])
  refine go_st (fun _ kq => XS.iload X24.here hx rfl (hb hby at_44) rfl kq) ?_
  show Go p e below s _ _ _ T24 (mkF m 46 #[.val (.long x0), .second, .val (.int x1), .val (.int x2), .val (.int x3), .val (.long (XT.ushrL x0 (x1 &&& (63 : Int32)))), .second, .val (.int (x2 &&& (3 : Int32))), .val (.int x3.toInt8.toInt32), .unset, .unset, .unset, .unset] [(.int x3.toInt8.toInt32), (.int (4 : Int32)), (.ref a20), (.ref a20)])
  refine go_bast X24 hx hZ e24 A24 (hb hby at_46) rfl rfl (by decide) ?_
  intro T25 h25 X25 e25 W25 G25
  have N25 := Fr.snoc X25 N24 nw_a20
  have A25 : GA Z h25 a20 .byte 16 (fun j => .int ((fun i => if i < 5 then x3.toInt8.toInt32 else 0) j)) := (own_fill (k := 4) (own_b8 _) rfl G25)
  show Go p e below s _ _ _ T25 (mkF m 47 #[.val (.long x0), .second, .val (.int x1), .val (.int x2), .val (.int x3), .val (.long (XT.ushrL x0 (x1 &&& (63 : Int32)))), .second, .val (.int (x2 &&& (3 : Int32))), .val (.int x3.toInt8.toInt32), .unset, .unset, .unset, .unset] [(.ref a20)])
  refine go_st (fun _ kq => XS.dup X25.here hx rfl (hb hby at_47) rfl rfl kq) ?_
  show Go p e below s _ _ _ T25 (mkF m 48 #[.val (.long x0), .second, .val (.int x1), .val (.int x2), .val (.int x3), .val (.long (XT.ushrL x0 (x1 &&& (63 : Int32)))), .second, .val (.int (x2 &&& (3 : Int32))), .val (.int x3.toInt8.toInt32), .unset, .unset, .unset, .unset] [(.ref a20), (.ref a20)])
  refine go_st (fun _ kq => XT.iconstV X25.here hx rfl (5 : Int32) (hb hby at_48) (by decide) kq) ?_
  show Go p e below s _ _ _ T25 (mkF m 49 #[.val (.long x0), .second, .val (.int x1), .val (.int x2), .val (.int x3), .val (.long (XT.ushrL x0 (x1 &&& (63 : Int32)))), .second, .val (.int (x2 &&& (3 : Int32))), .val (.int x3.toInt8.toInt32), .unset, .unset, .unset, .unset] [(.int (5 : Int32)), (.ref a20), (.ref a20)])
  refine go_st (fun _ kq => XS.iload X25.here hx rfl (hb hby at_49) rfl kq) ?_
  show Go p e below s _ _ _ T25 (mkF m 51 #[.val (.long x0), .second, .val (.int x1), .val (.int x2), .val (.int x3), .val (.long (XT.ushrL x0 (x1 &&& (63 : Int32)))), .second, .val (.int (x2 &&& (3 : Int32))), .val (.int x3.toInt8.toInt32), .unset, .unset, .unset, .unset] [(.int x3.toInt8.toInt32), (.int (5 : Int32)), (.ref a20), (.ref a20)])
  refine go_bast X25 hx hZ e25 A25 (hb hby at_51) rfl rfl (by decide) ?_
  intro T26 h26 X26 e26 W26 G26
  have N26 := Fr.snoc X26 N25 nw_a20
  have A26 : GA Z h26 a20 .byte 16 (fun j => .int ((fun i => if i < 6 then x3.toInt8.toInt32 else 0) j)) := (own_fill (k := 5) (own_b8 _) rfl G26)
  show Go p e below s _ _ _ T26 (mkF m 52 #[.val (.long x0), .second, .val (.int x1), .val (.int x2), .val (.int x3), .val (.long (XT.ushrL x0 (x1 &&& (63 : Int32)))), .second, .val (.int (x2 &&& (3 : Int32))), .val (.int x3.toInt8.toInt32), .unset, .unset, .unset, .unset] [(.ref a20)])
  refine go_st (fun _ kq => XS.dup X26.here hx rfl (hb hby at_52) rfl rfl kq) ?_
  show Go p e below s _ _ _ T26 (mkF m 53 #[.val (.long x0), .second, .val (.int x1), .val (.int x2), .val (.int x3), .val (.long (XT.ushrL x0 (x1 &&& (63 : Int32)))), .second, .val (.int (x2 &&& (3 : Int32))), .val (.int x3.toInt8.toInt32), .unset, .unset, .unset, .unset] [(.ref a20), (.ref a20)])
  refine go_st (fun _ kq => XT.bipushV X26.here hx rfl (6 : Int32) (hb hby at_53) (by decide) kq) ?_
  show Go p e below s _ _ _ T26 (mkF m 55 #[.val (.long x0), .second, .val (.int x1), .val (.int x2), .val (.int x3), .val (.long (XT.ushrL x0 (x1 &&& (63 : Int32)))), .second, .val (.int (x2 &&& (3 : Int32))), .val (.int x3.toInt8.toInt32), .unset, .unset, .unset, .unset] [(.int (6 : Int32)), (.ref a20), (.ref a20)])
  refine go_st (fun _ kq => XS.iload X26.here hx rfl (hb hby at_55) rfl kq) ?_
  show Go p e below s _ _ _ T26 (mkF m 57 #[.val (.long x0), .second, .val (.int x1), .val (.int x2), .val (.int x3), .val (.long (XT.ushrL x0 (x1 &&& (63 : Int32)))), .second, .val (.int (x2 &&& (3 : Int32))), .val (.int x3.toInt8.toInt32), .unset, .unset, .unset, .unset] [(.int x3.toInt8.toInt32), (.int (6 : Int32)), (.ref a20), (.ref a20)])
  refine go_bast X26 hx hZ e26 A26 (hb hby at_57) rfl rfl (by decide) ?_
  intro T27 h27 X27 e27 W27 G27
  have N27 := Fr.snoc X27 N26 nw_a20
  have A27 : GA Z h27 a20 .byte 16 (fun j => .int ((fun i => if i < 7 then x3.toInt8.toInt32 else 0) j)) := (own_fill (k := 6) (own_b8 _) rfl G27)
  show Go p e below s _ _ _ T27 (mkF m 58 #[.val (.long x0), .second, .val (.int x1), .val (.int x2), .val (.int x3), .val (.long (XT.ushrL x0 (x1 &&& (63 : Int32)))), .second, .val (.int (x2 &&& (3 : Int32))), .val (.int x3.toInt8.toInt32), .unset, .unset, .unset, .unset] [(.ref a20)])
  refine go_st (fun _ kq => XS.dup X27.here hx rfl (hb hby at_58) rfl rfl kq) ?_
  show Go p e below s _ _ _ T27 (mkF m 59 #[.val (.long x0), .second, .val (.int x1), .val (.int x2), .val (.int x3), .val (.long (XT.ushrL x0 (x1 &&& (63 : Int32)))), .second, .val (.int (x2 &&& (3 : Int32))), .val (.int x3.toInt8.toInt32), .unset, .unset, .unset, .unset] [(.ref a20), (.ref a20)])
  refine go_st (fun _ kq => XT.bipushV X27.here hx rfl (7 : Int32) (hb hby at_59) (by decide) kq) ?_
  show Go p e below s _ _ _ T27 (mkF m 61 #[.val (.long x0), .second, .val (.int x1), .val (.int x2), .val (.int x3), .val (.long (XT.ushrL x0 (x1 &&& (63 : Int32)))), .second, .val (.int (x2 &&& (3 : Int32))), .val (.int x3.toInt8.toInt32), .unset, .unset, .unset, .unset] [(.int (7 : Int32)), (.ref a20), (.ref a20)])
  refine go_st (fun _ kq => XS.iload X27.here hx rfl (hb hby at_61) rfl kq) ?_
  show Go p e below s _ _ _ T27 (mkF m 63 #[.val (.long x0), .second, .val (.int x1), .val (.int x2), .val (.int x3), .val (.long (XT.ushrL x0 (x1 &&& (63 : Int32)))), .second, .val (.int (x2 &&& (3 : Int32))), .val (.int x3.toInt8.toInt32), .unset, .unset, .unset, .unset] [(.int x3.toInt8.toInt32), (.int (7 : Int32)), (.ref a20), (.ref a20)])
  refine go_bast X27 hx hZ e27 A27 (hb hby at_63) rfl rfl (by decide) ?_
  intro T28 h28 X28 e28 W28 G28
  have N28 := Fr.snoc X28 N27 nw_a20
  have A28 : GA Z h28 a20 .byte 16 (fun j => .int ((fun i => if i < 8 then x3.toInt8.toInt32 else 0) j)) := (own_fill (k := 7) (own_b8 _) rfl G28)
  show Go p e below s _ _ _ T28 (mkF m 64 #[.val (.long x0), .second, .val (.int x1), .val (.int x2), .val (.int x3), .val (.long (XT.ushrL x0 (x1 &&& (63 : Int32)))), .second, .val (.int (x2 &&& (3 : Int32))), .val (.int x3.toInt8.toInt32), .unset, .unset, .unset, .unset] [(.ref a20)])
  refine go_st (fun _ kq => XS.dup X28.here hx rfl (hb hby at_64) rfl rfl kq) ?_
  show Go p e below s _ _ _ T28 (mkF m 65 #[.val (.long x0), .second, .val (.int x1), .val (.int x2), .val (.int x3), .val (.long (XT.ushrL x0 (x1 &&& (63 : Int32)))), .second, .val (.int (x2 &&& (3 : Int32))), .val (.int x3.toInt8.toInt32), .unset, .unset, .unset, .unset] [(.ref a20), (.ref a20)])
  refine go_st (fun _ kq => XT.bipushV X28.here hx rfl (8 : Int32) (hb hby at_65) (by decide) kq) ?_
  show Go p e below s _ _ _ T28 (mkF m 67 #[.val (.long x0), .second, .val (.int x1), .val (.int x2), .val (.int x3), .val (.long (XT.ushrL x0 (x1 &&& (63 : Int32)))), .second, .val (.int (x2 &&& (3 : Int32))), .val (.int x3.toInt8.toInt32), .unset, .unset, .unset, .unset] [(.int (8 : Int32)), (.ref a20), (.ref a20)])
  refine go_st (fun _ kq => XS.iload X28.here hx rfl (hb hby at_67) rfl kq) ?_
  show Go p e below s _ _ _ T28 (mkF m 69 #[.val (.long x0), .second, .val (.int x1), .val (.int x2), .val (.int x3), .val (.long (XT.ushrL x0 (x1 &&& (63 : Int32)))), .second, .val (.int (x2 &&& (3 : Int32))), .val (.int x3.toInt8.toInt32), .unset, .unset, .unset, .unset] [(.int x3.toInt8.toInt32), (.int (8 : Int32)), (.ref a20), (.ref a20)])
  refine go_bast X28 hx hZ e28 A28 (hb hby at_69) rfl rfl (by decide) ?_
  intro T29 h29 X29 e29 W29 G29
  have N29 := Fr.snoc X29 N28 nw_a20
  have A29 : GA Z h29 a20 .byte 16 (fun j => .int ((fun i => if i < 9 then x3.toInt8.toInt32 else 0) j)) := (own_fill (k := 8) (own_b8 _) rfl G29)
  show Go p e below s _ _ _ T29 (mkF m 70 #[.val (.long x0), .second, .val (.int x1), .val (.int x2), .val (.int x3), .val (.long (XT.ushrL x0 (x1 &&& (63 : Int32)))), .second, .val (.int (x2 &&& (3 : Int32))), .val (.int x3.toInt8.toInt32), .unset, .unset, .unset, .unset] [(.ref a20)])
  refine go_st (fun _ kq => XS.dup X29.here hx rfl (hb hby at_70) rfl rfl kq) ?_
  show Go p e below s _ _ _ T29 (mkF m 71 #[.val (.long x0), .second, .val (.int x1), .val (.int x2), .val (.int x3), .val (.long (XT.ushrL x0 (x1 &&& (63 : Int32)))), .second, .val (.int (x2 &&& (3 : Int32))), .val (.int x3.toInt8.toInt32), .unset, .unset, .unset, .unset] [(.ref a20), (.ref a20)])
  refine go_st (fun _ kq => XT.bipushV X29.here hx rfl (9 : Int32) (hb hby at_71) (by decide) kq) ?_
  show Go p e below s _ _ _ T29 (mkF m 73 #[.val (.long x0), .second, .val (.int x1), .val (.int x2), .val (.int x3), .val (.long (XT.ushrL x0 (x1 &&& (63 : Int32)))), .second, .val (.int (x2 &&& (3 : Int32))), .val (.int x3.toInt8.toInt32), .unset, .unset, .unset, .unset] [(.int (9 : Int32)), (.ref a20), (.ref a20)])
  refine go_st (fun _ kq => XS.iload X29.here hx rfl (hb hby at_73) rfl kq) ?_
  show Go p e below s _ _ _ T29 (mkF m 75 #[.val (.long x0), .second, .val (.int x1), .val (.int x2), .val (.int x3), .val (.long (XT.ushrL x0 (x1 &&& (63 : Int32)))), .second, .val (.int (x2 &&& (3 : Int32))), .val (.int x3.toInt8.toInt32), .unset, .unset, .unset, .unset] [(.int x3.toInt8.toInt32), (.int (9 : Int32)), (.ref a20), (.ref a20)])
  refine go_bast X29 hx hZ e29 A29 (hb hby at_75) rfl rfl (by decide) ?_
  intro T30 h30 X30 e30 W30 G30
  have N30 := Fr.snoc X30 N29 nw_a20
  have A30 : GA Z h30 a20 .byte 16 (fun j => .int ((fun i => if i < 10 then x3.toInt8.toInt32 else 0) j)) := (own_fill (k := 9) (own_b8 _) rfl G30)
  show Go p e below s _ _ _ T30 (mkF m 76 #[.val (.long x0), .second, .val (.int x1), .val (.int x2), .val (.int x3), .val (.long (XT.ushrL x0 (x1 &&& (63 : Int32)))), .second, .val (.int (x2 &&& (3 : Int32))), .val (.int x3.toInt8.toInt32), .unset, .unset, .unset, .unset] [(.ref a20)])
  refine go_st (fun _ kq => XS.dup X30.here hx rfl (hb hby at_76) rfl rfl kq) ?_
  show Go p e below s _ _ _ T30 (mkF m 77 #[.val (.long x0), .second, .val (.int x1), .val (.int x2), .val (.int x3), .val (.long (XT.ushrL x0 (x1 &&& (63 : Int32)))), .second, .val (.int (x2 &&& (3 : Int32))), .val (.int x3.toInt8.toInt32), .unset, .unset, .unset, .unset] [(.ref a20), (.ref a20)])
  refine go_st (fun _ kq => XT.bipushV X30.here hx rfl (10 : Int32) (hb hby at_77) (by decide) kq) ?_
  show Go p e below s _ _ _ T30 (mkF m 79 #[.val (.long x0), .second, .val (.int x1), .val (.int x2), .val (.int x3), .val (.long (XT.ushrL x0 (x1 &&& (63 : Int32)))), .second, .val (.int (x2 &&& (3 : Int32))), .val (.int x3.toInt8.toInt32), .unset, .unset, .unset, .unset] [(.int (10 : Int32)), (.ref a20), (.ref a20)])
  refine go_st (fun _ kq => XS.iload X30.here hx rfl (hb hby at_79) rfl kq) ?_
  show Go p e below s _ _ _ T30 (mkF m 81 #[.val (.long x0), .second, .val (.int x1), .val (.int x2), .val (.int x3), .val (.long (XT.ushrL x0 (x1 &&& (63 : Int32)))), .second, .val (.int (x2 &&& (3 : Int32))), .val (.int x3.toInt8.toInt32), .unset, .unset, .unset, .unset] [(.int x3.toInt8.toInt32), (.int (10 : Int32)), (.ref a20), (.ref a20)])
  refine go_bast X30 hx hZ e30 A30 (hb hby at_81) rfl rfl (by decide) ?_
  intro T31 h31 X31 e31 W31 G31
  have N31 := Fr.snoc X31 N30 nw_a20
  have A31 : GA Z h31 a20 .byte 16 (fun j => .int ((fun i => if i < 11 then x3.toInt8.toInt32 else 0) j)) := (own_fill (k := 10) (own_b8 _) rfl G31)
  show Go p e below s _ _ _ T31 (mkF m 82 #[.val (.long x0), .second, .val (.int x1), .val (.int x2), .val (.int x3), .val (.long (XT.ushrL x0 (x1 &&& (63 : Int32)))), .second, .val (.int (x2 &&& (3 : Int32))), .val (.int x3.toInt8.toInt32), .unset, .unset, .unset, .unset] [(.ref a20)])
  refine go_st (fun _ kq => XS.dup X31.here hx rfl (hb hby at_82) rfl rfl kq) ?_
  show Go p e below s _ _ _ T31 (mkF m 83 #[.val (.long x0), .second, .val (.int x1), .val (.int x2), .val (.int x3), .val (.long (XT.ushrL x0 (x1 &&& (63 : Int32)))), .second, .val (.int (x2 &&& (3 : Int32))), .val (.int x3.toInt8.toInt32), .unset, .unset, .unset, .unset] [(.ref a20), (.ref a20)])
  refine go_st (fun _ kq => XT.bipushV X31.here hx rfl (11 : Int32) (hb hby at_83) (by decide) kq) ?_
  show Go p e below s _ _ _ T31 (mkF m 85 #[.val (.long x0), .second, .val (.int x1), .val (.int x2), .val (.int x3), .val (.long (XT.ushrL x0 (x1 &&& (63 : Int32)))), .second, .val (.int (x2 &&& (3 : Int32))), .val (.int x3.toInt8.toInt32), .unset, .unset, .unset, .unset] [(.int (11 : Int32)), (.ref a20), (.ref a20)])
  refine go_st (fun _ kq => XS.iload X31.here hx rfl (hb hby at_85) rfl kq) ?_
  show Go p e below s _ _ _ T31 (mkF m 87 #[.val (.long x0), .second, .val (.int x1), .val (.int x2), .val (.int x3), .val (.long (XT.ushrL x0 (x1 &&& (63 : Int32)))), .second, .val (.int (x2 &&& (3 : Int32))), .val (.int x3.toInt8.toInt32), .unset, .unset, .unset, .unset] [(.int x3.toInt8.toInt32), (.int (11 : Int32)), (.ref a20), (.ref a20)])
  refine go_bast X31 hx hZ e31 A31 (hb hby at_87) rfl rfl (by decide) ?_
  intro T32 h32 X32 e32 W32 G32
  have N32 := Fr.snoc X32 N31 nw_a20
  have A32 : GA Z h32 a20 .byte 16 (fun j => .int ((fun i => if i < 12 then x3.toInt8.toInt32 else 0) j)) := (own_fill (k := 11) (own_b8 _) rfl G32)
  show Go p e below s _ _ _ T32 (mkF m 88 #[.val (.long x0), .second, .val (.int x1), .val (.int x2), .val (.int x3), .val (.long (XT.ushrL x0 (x1 &&& (63 : Int32)))), .second, .val (.int (x2 &&& (3 : Int32))), .val (.int x3.toInt8.toInt32), .unset, .unset, .unset, .unset] [(.ref a20)])
  refine go_st (fun _ kq => XS.dup X32.here hx rfl (hb hby at_88) rfl rfl kq) ?_
  show Go p e below s _ _ _ T32 (mkF m 89 #[.val (.long x0), .second, .val (.int x1), .val (.int x2), .val (.int x3), .val (.long (XT.ushrL x0 (x1 &&& (63 : Int32)))), .second, .val (.int (x2 &&& (3 : Int32))), .val (.int x3.toInt8.toInt32), .unset, .unset, .unset, .unset] [(.ref a20), (.ref a20)])
  refine go_st (fun _ kq => XT.bipushV X32.here hx rfl (12 : Int32) (hb hby at_89) (by decide) kq) ?_
  show Go p e below s _ _ _ T32 (mkF m 91 #[.val (.long x0), .second, .val (.int x1), .val (.int x2), .val (.int x3), .val (.long (XT.ushrL x0 (x1 &&& (63 : Int32)))), .second, .val (.int (x2 &&& (3 : Int32))), .val (.int x3.toInt8.toInt32), .unset, .unset, .unset, .unset] [(.int (12 : Int32)), (.ref a20), (.ref a20)])
  refine go_st (fun _ kq => XS.iload X32.here hx rfl (hb hby at_91) rfl kq) ?_
  show Go p e below s _ _ _ T32 (mkF m 93 #[.val (.long x0), .second, .val (.int x1), .val (.int x2), .val (.int x3), .val (.long (XT.ushrL x0 (x1 &&& (63 : Int32)))), .second, .val (.int (x2 &&& (3 : Int32))), .val (.int x3.toInt8.toInt32), .unset, .unset, .unset, .unset] [(.int x3.toInt8.toInt32), (.int (12 : Int32)), (.ref a20), (.ref a20)])
  refine go_bast X32 hx hZ e32 A32 (hb hby at_93) rfl rfl (by decide) ?_
  intro T33 h33 X33 e33 W33 G33
  have N33 := Fr.snoc X33 N32 nw_a20
  have A33 : GA Z h33 a20 .byte 16 (fun j => .int ((fun i => if i < 13 then x3.toInt8.toInt32 else 0) j)) := (own_fill (k := 12) (own_b8 _) rfl G33)
  show Go p e below s _ _ _ T33 (mkF m 94 #[.val (.long x0), .second, .val (.int x1), .val (.int x2), .val (.int x3), .val (.long (XT.ushrL x0 (x1 &&& (63 : Int32)))), .second, .val (.int (x2 &&& (3 : Int32))), .val (.int x3.toInt8.toInt32), .unset, .unset, .unset, .unset] [(.ref a20)])
  refine go_st (fun _ kq => XS.dup X33.here hx rfl (hb hby at_94) rfl rfl kq) ?_
  show Go p e below s _ _ _ T33 (mkF m 95 #[.val (.long x0), .second, .val (.int x1), .val (.int x2), .val (.int x3), .val (.long (XT.ushrL x0 (x1 &&& (63 : Int32)))), .second, .val (.int (x2 &&& (3 : Int32))), .val (.int x3.toInt8.toInt32), .unset, .unset, .unset, .unset] [(.ref a20), (.ref a20)])
  refine go_st (fun _ kq => XT.bipushV X33.here hx rfl (13 : Int32) (hb hby at_95) (by decide) kq) ?_
  show Go p e below s _ _ _ T33 (mkF m 97 #[.val (.long x0), .second, .val (.int x1), .val (.int x2), .val (.int x3), .val (.long (XT.ushrL x0 (x1 &&& (63 : Int32)))), .second, .val (.int (x2 &&& (3 : Int32))), .val (.int x3.toInt8.toInt32), .unset, .unset, .unset, .unset] [(.int (13 : Int32)), (.ref a20), (.ref a20)])
  refine go_st (fun _ kq => XS.iload X33.here hx rfl (hb hby at_97) rfl kq) ?_
  show Go p e below s _ _ _ T33 (mkF m 99 #[.val (.long x0), .second, .val (.int x1), .val (.int x2), .val (.int x3), .val (.long (XT.ushrL x0 (x1 &&& (63 : Int32)))), .second, .val (.int (x2 &&& (3 : Int32))), .val (.int x3.toInt8.toInt32), .unset, .unset, .unset, .unset] [(.int x3.toInt8.toInt32), (.int (13 : Int32)), (.ref a20), (.ref a20)])
  refine go_bast X33 hx hZ e33 A33 (hb hby at_99) rfl rfl (by decide) ?_
  intro T34 h34 X34 e34 W34 G34
  have N34 := Fr.snoc X34 N33 nw_a20
  have A34 : GA Z h34 a20 .byte 16 (fun j => .int ((fun i => if i < 14 then x3.toInt8.toInt32 else 0) j)) := (own_fill (k := 13) (own_b8 _) rfl G34)
  show Go p e below s _ _ _ T34 (mkF m 100 #[.val (.long x0), .second, .val (.int x1), .val (.int x2), .val (.int x3), .val (.long (XT.ushrL x0 (x1 &&& (63 : Int32)))), .second, .val (.int (x2 &&& (3 : Int32))), .val (.int x3.toInt8.toInt32), .unset, .unset, .unset, .unset] [(.ref a20)])
  refine go_st (fun _ kq => XS.dup X34.here hx rfl (hb hby at_100) rfl rfl kq) ?_
  show Go p e below s _ _ _ T34 (mkF m 101 #[.val (.long x0), .second, .val (.int x1), .val (.int x2), .val (.int x3), .val (.long (XT.ushrL x0 (x1 &&& (63 : Int32)))), .second, .val (.int (x2 &&& (3 : Int32))), .val (.int x3.toInt8.toInt32), .unset, .unset, .unset, .unset] [(.ref a20), (.ref a20)])
  refine go_st (fun _ kq => XT.bipushV X34.here hx rfl (14 : Int32) (hb hby at_101) (by decide) kq) ?_
  show Go p e below s _ _ _ T34 (mkF m 103 #[.val (.long x0), .second, .val (.int x1), .val (.int x2), .val (.int x3), .val (.long (XT.ushrL x0 (x1 &&& (63 : Int32)))), .second, .val (.int (x2 &&& (3 : Int32))), .val (.int x3.toInt8.toInt32), .unset, .unset, .unset, .unset] [(.int (14 : Int32)), (.ref a20), (.ref a20)])
  refine go_st (fun _ kq => XS.iload X34.here hx rfl (hb hby at_103) rfl kq) ?_
  show Go p e below s _ _ _ T34 (mkF m 105 #[.val (.long x0), .second, .val (.int x1), .val (.int x2), .val (.int x3), .val (.long (XT.ushrL x0 (x1 &&& (63 : Int32)))), .second, .val (.int (x2 &&& (3 : Int32))), .val (.int x3.toInt8.toInt32), .unset, .unset, .unset, .unset] [(.int x3.toInt8.toInt32), (.int (14 : Int32)), (.ref a20), (.ref a20)])
  refine go_bast X34 hx hZ e34 A34 (hb hby at_105) rfl rfl (by decide) ?_
  intro T35 h35 X35 e35 W35 G35
  have N35 := Fr.snoc X35 N34 nw_a20
  have A35 : GA Z h35 a20 .byte 16 (fun j => .int ((fun i => if i < 15 then x3.toInt8.toInt32 else 0) j)) := (own_fill (k := 14) (own_b8 _) rfl G35)
  show Go p e below s _ _ _ T35 (mkF m 106 #[.val (.long x0), .second, .val (.int x1), .val (.int x2), .val (.int x3), .val (.long (XT.ushrL x0 (x1 &&& (63 : Int32)))), .second, .val (.int (x2 &&& (3 : Int32))), .val (.int x3.toInt8.toInt32), .unset, .unset, .unset, .unset] [(.ref a20)])
  refine go_st (fun _ kq => XS.dup X35.here hx rfl (hb hby at_106) rfl rfl kq) ?_
  show Go p e below s _ _ _ T35 (mkF m 107 #[.val (.long x0), .second, .val (.int x1), .val (.int x2), .val (.int x3), .val (.long (XT.ushrL x0 (x1 &&& (63 : Int32)))), .second, .val (.int (x2 &&& (3 : Int32))), .val (.int x3.toInt8.toInt32), .unset, .unset, .unset, .unset] [(.ref a20), (.ref a20)])
  refine go_st (fun _ kq => XT.bipushV X35.here hx rfl (15 : Int32) (hb hby at_107) (by decide) kq) ?_
  show Go p e below s _ _ _ T35 (mkF m 109 #[.val (.long x0), .second, .val (.int x1), .val (.int x2), .val (.int x3), .val (.long (XT.ushrL x0 (x1 &&& (63 : Int32)))), .second, .val (.int (x2 &&& (3 : Int32))), .val (.int x3.toInt8.toInt32), .unset, .unset, .unset, .unset] [(.int (15 : Int32)), (.ref a20), (.ref a20)])
  refine go_st (fun _ kq => XS.iload X35.here hx rfl (hb hby at_109) rfl kq) ?_
  show Go p e below s _ _ _ T35 (mkF m 111 #[.val (.long x0), .second, .val (.int x1), .val (.int x2), .val (.int x3), .val (.long (XT.ushrL x0 (x1 &&& (63 : Int32)))), .second, .val (.int (x2 &&& (3 : Int32))), .val (.int x3.toInt8.toInt32), .unset, .unset, .unset, .unset] [(.int x3.toInt8.toInt32), (.int (15 : Int32)), (.ref a20), (.ref a20)])
  refine go_bast X35 hx hZ e35 A35 (hb hby at_111) rfl rfl (by decide) ?_
  intro T36 h36 X36 e36 W36 G36
  have N36 := Fr.snoc X36 N35 nw_a20
  have A36 : GA Z h36 a20 .byte 16 (fun j => .int ((fun i => if i < 16 then x3.toInt8.toInt32 else 0) j)) := (own_fill (k := 15) (own_b8 _) rfl G36)
  show Go p e below s _ _ _ T36 (mkF m 112 #[.val (.long x0), .second, .val (.int x1), .val (.int x2), .val (.int x3), .val (.long (XT.ushrL x0 (x1 &&& (63 : Int32)))), .second, .val (.int (x2 &&& (3 : Int32))), .val (.int x3.toInt8.toInt32), .unset, .unset, .unset, .unset] [(.ref a20)])
  refine go_st (fun _ kq => XS.astore X36.here hx rfl (hb hby at_112) rfl rfl (l' := #[.val (.long x0), .second, .val (.int x1), .val (.int x2), .val (.int x3), .val (.long (XT.ushrL x0 (x1 &&& (63 : Int32)))), .second, .val (.int (x2 &&& (3 : Int32))), .val (.int x3.toInt8.toInt32), .val (.ref a20), .unset, .unset, .unset]) rfl kq) ?_
  show Go p e below s _ _ _ T36 (mkF m 114 #[.val (.long x0), .second, .val (.int x1), .val (.int x2), .val (.int x3), .val (.long (XT.ushrL x0 (x1 &&& (63 : Int32)))), .second, .val (.int (x2 &&& (3 : Int32))), .val (.int x3.toInt8.toInt32), .val (.ref a20), .unset, .unset, .unset] [])
  have G0 : GA Z h36 a20 .byte 16 (fun j => .int ((fun _ => x3.toInt8.toInt32) j)) := GA.congr A36 (fun i hi => by simp [hi])
  obtain ⟨o, ho, eo⟩ := own_and3 x2
  rw [eo]
  generalize hV : (XT.ushrL x0 (x1 &&& (63 : Int32))) = V
  show Go p e below s _ _ _ T36 (mkF m 114 #[.val (.long x0), .second, .val (.int x1), .val (.int x2), .val (.int x3), .val (.long V), .second, .val (.int (Int32.ofNat o)), .val (.int x3.toInt8.toInt32), .val (.ref a20), .unset, .unset, .unset] [])
  refine go_st (fun _ kq => XS.aload X36.here hx rfl (hb hby at_114) rfl rfl kq) ?_
  show Go p e below s _ _ _ T36 (mkF m 116 #[.val (.long x0), .second, .val (.int x1), .val (.int x2), .val (.int x3), .val (.long V), .second, .val (.int (Int32.ofNat o)), .val (.int x3.toInt8.toInt32), .val (.ref a20), .unset, .unset, .unset] [(.ref a20)])
  refine go_st (fun _ kq => XS.iload X36.here hx rfl (hb hby at_116) rfl kq) ?_
  show Go p e below s _ _ _ T36 (mkF m 118 #[.val (.long x0), .second, .val (.int x1), .val (.int x2), .val (.int x3), .val (.long V), .second, .val (.int (Int32.ofNat o)), .val (.int x3.toInt8.toInt32), .val (.ref a20), .unset, .unset, .unset] [(.int (Int32.ofNat o)), (.ref a20)])
  refine go_st (fun _ kq => XT.lload X36.here hx rfl (hb hby at_118) rfl kq) ?_
  show Go p e below s _ _ _ T36 (mkF m 120 #[.val (.long x0), .second, .val (.int x1), .val (.int x2), .val (.int x3), .val (.long V), .second, .val (.int (Int32.ofNat o)), .val (.int x3.toInt8.toInt32), .val (.ref a20), .unset, .unset, .unset] [(.long V), (.int (Int32.ofNat o)), (.ref a20)])
  have z38 : n0 ≤ h20.size := Nat.le_trans Z0 E20.1
  have z39 : n0 ≤ h21.size := (Wr.size W21).symm ▸ z38
  have z40 : n0 ≤ h22.size := (Wr.size W22).symm ▸ z39
  have z41 : n0 ≤ h23.size := (Wr.size W23).symm ▸ z40
  have z42 : n0 ≤ h24.size := (Wr.size W24).symm ▸ z41
  have z43 : n0 ≤ h25.size := (Wr.size W25).symm ▸ z42
  have z44 : n0 ≤ h26.size := (Wr.size W26).symm ▸ z43
  have z45 : n0 ≤ h27.size := (Wr.size W27).symm ▸ z44
  have z46 : n0 ≤ h28.size := (Wr.size W28).symm ▸ z45
  have z47 : n0 ≤ h29.size := (Wr.size W29).symm ▸ z46
  have z48 : n0 ≤ h30.size := (Wr.size W30).symm ▸ z47
  have z49 : n0 ≤ h31.size := (Wr.size W31).symm ▸ z48
  have z50 : n0 ≤ h32.size := (Wr.size W32).symm ▸ z49
  have z51 : n0 ≤ h33.size := (Wr.size W33).symm ▸ z50
  have z52 : n0 ≤ h34.size := (Wr.size W34).symm ▸ z51
  have z53 : n0 ≤ h35.size := (Wr.size W35).symm ▸ z52
  have z54 : n0 ≤ h36.size := (Wr.size W36).symm ▸ z53
  refine go_callS X36 hx hZ hml hown (hw _ (List.mem_of_getElem? (i := 1) rfl)) (hw _ (List.mem_of_getElem? (i := 2) rfl)) (hw _ (List.mem_of_getElem? (i := 3) rfl)) (hw _ (List.mem_of_getElem? (i := 4) rfl)) e36 (argsL := [(.ref a20), (.int (Int32.ofNat o)), (.long V)]) (rest := []) (W := 0) (met_put l Z a0 hw a20 o V (fun _ => x3.toInt8.toInt32) h36 n0 z54 G0 ho nw_a20) (hb hby at_120) rfl rfl rfl (lenOf pd0 rfl) (by show 2 * 0 + _ ≤ _; exact Nat.le_of_eq rfl) (by decide) (by decide) (by decide) (by decide) (by decide) ?_
  intro T37 v37 L37 X37 q37
  obtain ⟨k_37, rfl, M37, K37, p37_0, p37_1, p37_2, f37_0⟩ := q37
  have N37 := Fr.app N36 M37
  show Go p e below s _ _ _ T37 (mkF m 123 #[.val (.long x0), .second, .val (.int x1), .val (.int x2), .val (.int x3), .val (.long V), .second, .val (.int (Int32.ofNat o)), .val (.int x3.toInt8.toInt32), .val (.ref a20), .unset, .unset, .unset] [(.int (Int32.ofNat (o + (k_37 + 1))))])
  have hk := p37_0
  have hall := p37_1
  have hsm := p37_2
  refine go_st (fun _ kq => XS.istore X37.here hx rfl (hb hby at_123) rfl (l' := #[.val (.long x0), .second, .val (.int x1), .val (.int x2), .val (.int x3), .val (.long V), .second, .val (.int (Int32.ofNat o)), .val (.int x3.toInt8.toInt32), .val (.ref a20), .val (.int (Int32.ofNat (o + (k_37 + 1)))), .unset, .unset]) rfl kq) ?_
  show Go p e below s _ _ _ T37 (mkF m 125 #[.val (.long x0), .second, .val (.int x1), .val (.int x2), .val (.int x3), .val (.long V), .second, .val (.int (Int32.ofNat o)), .val (.int x3.toInt8.toInt32), .val (.ref a20), .val (.int (Int32.ofNat (o + (k_37 + 1)))), .unset, .unset] [])
  refine go_st (fun _ kq => XT.lload X37.here hx rfl (hb hby at_125) rfl kq) ?_
  show Go p e below s _ _ _ T37 (mkF m 127 #[.val (.long x0), .second, .val (.int x1), .val (.int x2), .val (.int x3), .val (.long V), .second, .val (.int (Int32.ofNat o)), .val (.int x3.toInt8.toInt32), .val (.ref a20), .val (.int (Int32.ofNat (o + (k_37 + 1)))), .unset, .unset] [(.long V)])
  refine go_callS X37 hx hZ hml hown (hw _ (List.mem_of_getElem? (i := 6) rfl)) (hw _ (List.mem_of_getElem? (i := 7) rfl)) (hw _ (List.mem_of_getElem? (i := 8) rfl)) (hw _ (List.mem_of_getElem? (i := 9) rfl)) rfl (argsL := [(.long V)]) (rest := []) (W := 0) (met_2 l Z a0 hw V T37.heap n0) (hb hby at_127) rfl rfl rfl (lenOf pd1 rfl) (by show 2 * 0 + _ ≤ _; exact Nat.le_of_eq rfl) (by decide) (by decide) (by decide) (by decide) (by decide) ?_
  intro T55 v55 L55 X55 q55
  obtain ⟨rfl, M55, e55⟩ := q55
  have N55 := Fr.app N37 M55
  show Go p e below s _ _ _ T55 (mkF m 130 #[.val (.long x0), .second, .val (.int x1), .val (.int x2), .val (.int x3), .val (.long V), .second, .val (.int (Int32.ofNat o)), .val (.int x3.toInt8.toInt32), .val (.ref a20), .val (.int (Int32.ofNat (o + (k_37 + 1)))), .unset, .unset] [(.int (fLen V))])
  rw [own_len hk hall hsm]
  show Go p e below s _ _ _ T55 (mkF m 130 #[.val (.long x0), .second, .val (.int x1), .val (.int x2), .val (.int x3), .val (.long V), .second, .val (.int (Int32.ofNat o)), .val (.int x3.toInt8.toInt32), .val (.ref a20), .val (.int (Int32.ofNat (o + (k_37 + 1)))), .unset, .unset] [(.int (Int32.ofNat (k_37 + 1)))])
  refine go_st (fun _ kq => XS.istore X55.here hx rfl (hb hby at_130) rfl (l' := #[.val (.long x0), .second, .val (.int x1), .val (.int x2), .val (.int x3), .val (.long V), .second, .val (.int (Int32.ofNat o)), .val (.int x3.toInt8.toInt32), .val (.ref a20), .val (.int (Int32.ofNat (o + (k_37 + 1)))), .val (.int (Int32.ofNat (k_37 + 1))), .unset]) rfl kq) ?_
  show Go p e below s _ _ _ T55 (mkF m 132 #[.val (.long x0), .second, .val (.int x1), .val (.int x2), .val (.int x3), .val (.long V), .second, .val (.int (Int32.ofNat o)), .val (.int x3.toInt8.toInt32), .val (.ref a20), .val (.int (Int32.ofNat (o + (k_37 + 1)))), .val (.int (Int32.ofNat (k_37 + 1))), .unset] [])
  refine go_st (fun _ kq => XS.iload X55.here hx rfl (hb hby at_132) rfl kq) ?_
  show Go p e below s _ _ _ T55 (mkF m 134 #[.val (.long x0), .second, .val (.int x1), .val (.int x2), .val (.int x3), .val (.long V), .second, .val (.int (Int32.ofNat o)), .val (.int x3.toInt8.toInt32), .val (.ref a20), .val (.int (Int32.ofNat (o + (k_37 + 1)))), .val (.int (Int32.ofNat (k_37 + 1))), .unset] [(.int (Int32.ofNat (o + (k_37 + 1))))])
  refine go_st (fun _ kq => XS.iload X55.here hx rfl (hb hby at_134) rfl kq) ?_
  show Go p e below s _ _ _ T55 (mkF m 136 #[.val (.long x0), .second, .val (.int x1), .val (.int x2), .val (.int x3), .val (.long V), .second, .val (.int (Int32.ofNat o)), .val (.int x3.toInt8.toInt32), .val (.ref a20), .val (.int (Int32.ofNat (o + (k_37 + 1)))), .val (.int (Int32.ofNat (k_37 + 1))), .unset] [(.int (Int32.ofNat o)), (.int (Int32.ofNat (o + (k_37 + 1))))])
  refine go_st (fun _ kq => XS.iload X55.here hx rfl (hb hby at_136) rfl kq) ?_
  show Go p e below s _ _ _ T55 (mkF m 138 #[.val (.long x0), .second, .val (.int x1), .val (.int x2), .val (.int x3), .val (.long V), .second, .val (.int (Int32.ofNat o)), .val (.int x3.toInt8.toInt32), .val (.ref a20), .val (.int (Int32.ofNat (o + (k_37 + 1)))), .val (.int (Int32.ofNat (k_37 + 1))), .unset] [(.int (Int32.ofNat (k_37 + 1))), (.int (Int32.ofNat o)), (.int (Int32.ofNat (o + (k_37 + 1))))])
  refine go_st (fun _ kq => XS.iadd X55.here hx rfl (hb hby at_138) rfl kq) ?_
  show Go p e below s _ _ _ T55 (mkF m 139 #[.val (.long x0), .second, .val (.int x1), .val (.int x2), .val (.int x3), .val (.long V), .second, .val (.int (Int32.ofNat o)), .val (.int x3.toInt8.toInt32), .val (.ref a20), .val (.int (Int32.ofNat (o + (k_37 + 1)))), .val (.int (Int32.ofNat (k_37 + 1))), .unset] [(.int ((Int32.ofNat o) + (Int32.ofNat (k_37 + 1)))), (.int (Int32.ofNat (o + (k_37 + 1))))])
  have hb56 : (Int32.ofNat (o + (k_37 + 1))) = ((Int32.ofNat o) + (Int32.ofNat (k_37 + 1))) := by exact own_end ho hk
  refine go_st (fun _ kq => XS.icmpYes X55.here hx rfl (pc0 := 139) (pc' := 144) rfl (hb hby at_139) rfl (XT.ii_eq_t hb56) (by decide) (by decide) kq) ?_
  show Go p e below s _ _ _ T55 (mkF m 144 #[.val (.long x0), .second, .val (.int x1), .val (.int x2), .val (.int x3), .val (.long V), .second, .val (.int (Int32.ofNat o)), .val (.int x3.toInt8.toInt32), .val (.ref a20), .val (.int (Int32.ofNat (o + (k_37 + 1)))), .val (.int (Int32.ofNat (k_37 + 1))), .unset] [])
  refine go_st (fun _ kq => XT.iconstV X55.here hx rfl (1 : Int32) (hb hby at_144) (by decide) kq) ?_
  show Go p e below s _ _ _ T55 (mkF m 145 #[.val (.long x0), .second, .val (.int x1), .val (.int x2), .val (.int x3), .val (.long V), .second, .val (.int (Int32.ofNat o)), .val (.int x3.toInt8.toInt32), .val (.ref a20), .val (.int (Int32.ofNat (o + (k_37 + 1)))), .val (.int (Int32.ofNat (k_37 + 1))), .unset] [(.int (1 : Int32))])
  refine go_st (fun _ kq => XS.istore X55.here hx rfl (hb hby at_145) rfl (l' := #[.val (.long x0), .second, .val (.int x1), .val (.int x2), .val (.int x3), .val (.long V), .second, .val (.int (Int32.ofNat o)), .val (.int x3.toInt8.toInt32), .val (.ref a20), .val (.int (Int32.ofNat (o + (k_37 + 1)))), .val (.int (Int32.ofNat (k_37 + 1))), .val (.int (1 : Int32))]) rfl kq) ?_
  show Go p e below s _ _ _ T55 (mkF m 147 #[.val (.long x0), .second, .val (.int x1), .val (.int x2), .val (.int x3), .val (.long V), .second, .val (.int (Int32.ofNat o)), .val (.int x3.toInt8.toInt32), .val (.ref a20), .val (.int (Int32.ofNat (o + (k_37 + 1)))), .val (.int (Int32.ofNat (k_37 + 1))), .val (.int (1 : Int32))] [])
  refine go_st (fun _ kq => XS.iload X55.here hx rfl (hb hby at_147) rfl kq) ?_
  show Go p e below s _ _ _ T55 (mkF m 149 #[.val (.long x0), .second, .val (.int x1), .val (.int x2), .val (.int x3), .val (.long V), .second, .val (.int (Int32.ofNat o)), .val (.int x3.toInt8.toInt32), .val (.ref a20), .val (.int (Int32.ofNat (o + (k_37 + 1)))), .val (.int (Int32.ofNat (k_37 + 1))), .val (.int (1 : Int32))] [(.int (1 : Int32))])
  refine go_st (fun _ kq => XS.aload X55.here hx rfl (hb hby at_149) rfl rfl kq) ?_
  show Go p e below s _ _ _ T55 (mkF m 151 #[.val (.long x0), .second, .val (.int x1), .val (.int x2), .val (.int x3), .val (.long V), .second, .val (.int (Int32.ofNat o)), .val (.int x3.toInt8.toInt32), .val (.ref a20), .val (.int (Int32.ofNat (o + (k_37 + 1)))), .val (.int (Int32.ofNat (k_37 + 1))), .val (.int (1 : Int32))] [(.ref a20), (.int (1 : Int32))])
  refine go_st (fun _ kq => XT.iconstV X55.here hx rfl (0 : Int32) (hb hby at_151) (by decide) kq) ?_
  show Go p e below s _ _ _ T55 (mkF m 152 #[.val (.long x0), .second, .val (.int x1), .val (.int x2), .val (.int x3), .val (.long V), .second, .val (.int (Int32.ofNat o)), .val (.int x3.toInt8.toInt32), .val (.ref a20), .val (.int (Int32.ofNat (o + (k_37 + 1)))), .val (.int (Int32.ofNat (k_37 + 1))), .val (.int (1 : Int32))] [(.int (0 : Int32)), (.ref a20), (.int (1 : Int32))])
  refine go_st (fun _ kq => XS.iload X55.here hx rfl (hb hby at_152) rfl kq) ?_
  show Go p e below s _ _ _ T55 (mkF m 154 #[.val (.long x0), .second, .val (.int x1), .val (.int x2), .val (.int x3), .val (.long V), .second, .val (.int (Int32.ofNat o)), .val (.int x3.toInt8.toInt32), .val (.ref a20), .val (.int (Int32.ofNat (o + (k_37 + 1)))), .val (.int (Int32.ofNat (k_37 + 1))), .val (.int (1 : Int32))] [(.int (Int32.ofNat o)), (.int (0 : Int32)), (.ref a20), (.int (1 : Int32))])
  refine go_st (fun _ kq => XS.iload X55.here hx rfl (hb hby at_154) rfl kq) ?_
  show Go p e below s _ _ _ T55 (mkF m 156 #[.val (.long x0), .second, .val (.int x1), .val (.int x2), .val (.int x3), .val (.long V), .second, .val (.int (Int32.ofNat o)), .val (.int x3.toInt8.toInt32), .val (.ref a20), .val (.int (Int32.ofNat (o + (k_37 + 1)))), .val (.int (Int32.ofNat (k_37 + 1))), .val (.int (1 : Int32))] [(.int (Int32.ofNat (k_37 + 1))), (.int (Int32.ofNat o)), (.int (0 : Int32)), (.ref a20), (.int (1 : Int32))])
  refine go_st (fun _ kq => XT.lload X55.here hx rfl (hb hby at_156) rfl kq) ?_
  show Go p e below s _ _ _ T55 (mkF m 158 #[.val (.long x0), .second, .val (.int x1), .val (.int x2), .val (.int x3), .val (.long V), .second, .val (.int (Int32.ofNat o)), .val (.int x3.toInt8.toInt32), .val (.ref a20), .val (.int (Int32.ofNat (o + (k_37 + 1)))), .val (.int (Int32.ofNat (k_37 + 1))), .val (.int (1 : Int32))] [(.long V), (.int (Int32.ofNat (k_37 + 1))), (.int (Int32.ofNat o)), (.int (0 : Int32)), (.ref a20), (.int (1 : Int32))])
  refine go_st (fun _ kq => XS.iload X55.here hx rfl (hb hby at_158) rfl kq) ?_
  show Go p e below s _ _ _ T55 (mkF m 160 #[.val (.long x0), .second, .val (.int x1), .val (.int x2), .val (.int x3), .val (.long V), .second, .val (.int (Int32.ofNat o)), .val (.int x3.toInt8.toInt32), .val (.ref a20), .val (.int (Int32.ofNat (o + (k_37 + 1)))), .val (.int (Int32.ofNat (k_37 + 1))), .val (.int (1 : Int32))] [(.int x3.toInt8.toInt32), (.long V), (.int (Int32.ofNat (k_37 + 1))), (.int (Int32.ofNat o)), (.int (0 : Int32)), (.ref a20), (.int (1 : Int32))])
  have z58 : n0 ≤ T37.heap.size := Nat.le_trans z54 K37.1
  refine go_callS X55 hx hZ hml hown (hw _ (List.mem_of_getElem? (i := 10) rfl)) (hw _ (List.mem_of_getElem? (i := 11) rfl)) (hw _ (List.mem_of_getElem? (i := 8) rfl)) (hw _ (List.mem_of_getElem? (i := 12) rfl)) e55 (argsL := [(.ref a20), (.int (0 : Int32)), (.int (Int32.ofNat o)), (.int (Int32.ofNat (k_37 + 1))), (.long V), (.int x3.toInt8.toInt32)]) (rest := [(.int (1 : Int32))]) (W := 1) (met_3 l Z a0 hw a20 (0 : Int32) (Int32.ofNat o) (Int32.ofNat (k_37 + 1)) V x3.toInt8.toInt32 (fun j => .int (FE (fun _ => x3.toInt8.toInt32) o V k_37 j)) (FE (fun _ => x3.toInt8.toInt32) o V k_37 0) T37.heap n0 z58 f37_0 (by decide) rfl) (hb hby at_160) rfl rfl rfl (lenOf pd2 rfl) (by show 2 * 0 + _ ≤ _; exact Nat.le_of_eq rfl) (by decide) (by decide) (by decide) (by decide) (by decide) ?_
  intro T57 v57 L57 X57 q57
  obtain ⟨rfl, M57, e57⟩ := q57
  have N57 := Fr.app N55 M57
  have ra57 : (fAt (0 : Int32) (Int32.ofNat o) (Int32.ofNat (k_37 + 1)) V x3.toInt8.toInt32 (FE (fun _ => x3.toInt8.toInt32) o V k_37 0)) = 1 := own_at (j := 0) ho hk hall hsm (by decide)
  rw [ra57]
  show Go p e below s _ _ _ T57 (mkF m 163 #[.val (.long x0), .second, .val (.int x1), .val (.int x2), .val (.int x3), .val (.long V), .second, .val (.int (Int32.ofNat o)), .val (.int x3.toInt8.toInt32), .val (.ref a20), .val (.int (Int32.ofNat (o + (k_37 + 1)))), .val (.int (Int32.ofNat (k_37 + 1))), .val (.int (1 : Int32))] [(.int (1 : Int32)), (.int (1 : Int32))])
  refine go_st (fun _ kq => XS.iand X57.here hx rfl (hb hby at_163) rfl kq) ?_
  rw [show ((1 : Int32) &&& (1 : Int32)) = (1 : Int32) from by decide +kernel]
  show Go p e below s _ _ _ T57 (mkF m 164 #[.val (.long x0), .second, .val (.int x1), .val (.int x2), .val (.int x3), .val (.long V), .second, .val (.int (Int32.ofNat o)), .val (.int x3.toInt8.toInt32), .val (.ref a20), .val (.int (Int32.ofNat (o + (k_37 + 1)))), .val (.int (Int32.ofNat (k_37 + 1))), .val (.int (1 : Int32))] [(.int (1 : Int32))])
  refine go_st (fun _ kq => XS.istore X57.here hx rfl (hb hby at_164) rfl (l' := #[.val (.long x0), .second, .val (.int x1), .val (.int x2), .val (.int x3), .val (.long V), .second, .val (.int (Int32.ofNat o)), .val (.int x3.toInt8.toInt32), .val (.ref a20), .val (.int (Int32.ofNat (o + (k_37 + 1)))), .val (.int (Int32.ofNat (k_37 + 1))), .val (.int (1 : Int32))]) rfl kq) ?_
  show Go p e below s _ _ _ T57 (mkF m 166 #[.val (.long x0), .second, .val (.int x1), .val (.int x2), .val (.int x3), .val (.long V), .second, .val (.int (Int32.ofNat o)), .val (.int x3.toInt8.toInt32), .val (.ref a20), .val (.int (Int32.ofNat (o + (k_37 + 1)))), .val (.int (Int32.ofNat (k_37 + 1))), .val (.int (1 : Int32))] [])
  refine go_st (fun _ kq => XS.iload X57.here hx rfl (hb hby at_166) rfl kq) ?_
  show Go p e below s _ _ _ T57 (mkF m 168 #[.val (.long x0), .second, .val (.int x1), .val (.int x2), .val (.int x3), .val (.long V), .second, .val (.int (Int32.ofNat o)), .val (.int x3.toInt8.toInt32), .val (.ref a20), .val (.int (Int32.ofNat (o + (k_37 + 1)))), .val (.int (Int32.ofNat (k_37 + 1))), .val (.int (1 : Int32))] [(.int (1 : Int32))])
  refine go_st (fun _ kq => XS.aload X57.here hx rfl (hb hby at_168) rfl rfl kq) ?_
  show Go p e below s _ _ _ T57 (mkF m 170 #[.val (.long x0), .second, .val (.int x1), .val (.int x2), .val (.int x3), .val (.long V), .second, .val (.int (Int32.ofNat o)), .val (.int x3.toInt8.toInt32), .val (.ref a20), .val (.int (Int32.ofNat (o + (k_37 + 1)))), .val (.int (Int32.ofNat (k_37 + 1))), .val (.int (1 : Int32))] [(.ref a20), (.int (1 : Int32))])
  refine go_st (fun _ kq => XT.iconstV X57.here hx rfl (1 : Int32) (hb hby at_170) (by decide) kq) ?_
  show Go p e below s _ _ _ T57 (mkF m 171 #[.val (.long x0), .second, .val (.int x1), .val (.int x2), .val (.int x3), .val (.long V), .second, .val (.int (Int32.ofNat o)), .val (.int x3.toInt8.toInt32), .val (.ref a20), .val (.int (Int32.ofNat (o + (k_37 + 1)))), .val (.int (Int32.ofNat (k_37 + 1))), .val (.int (1 : Int32))] [(.int (1 : Int32)), (.ref a20), (.int (1 : Int32))])
  refine go_st (fun _ kq => XS.iload X57.here hx rfl (hb hby at_171) rfl kq) ?_
  show Go p e below s _ _ _ T57 (mkF m 173 #[.val (.long x0), .second, .val (.int x1), .val (.int x2), .val (.int x3), .val (.long V), .second, .val (.int (Int32.ofNat o)), .val (.int x3.toInt8.toInt32), .val (.ref a20), .val (.int (Int32.ofNat (o + (k_37 + 1)))), .val (.int (Int32.ofNat (k_37 + 1))), .val (.int (1 : Int32))] [(.int (Int32.ofNat o)), (.int (1 : Int32)), (.ref a20), (.int (1 : Int32))])
  refine go_st (fun _ kq => XS.iload X57.here hx rfl (hb hby at_173) rfl kq) ?_
  show Go p e below s _ _ _ T57 (mkF m 175 #[.val (.long x0), .second, .val (.int x1), .val (.int x2), .val (.int x3), .val (.long V), .second, .val (.int (Int32.ofNat o)), .val (.int x3.toInt8.toInt32), .val (.ref a20), .val (.int (Int32.ofNat (o + (k_37 + 1)))), .val (.int (Int32.ofNat (k_37 + 1))), .val (.int (1 : Int32))] [(.int (Int32.ofNat (k_37 + 1))), (.int (Int32.ofNat o)), (.int (1 : Int32)), (.ref a20), (.int (1 : Int32))])
  refine go_st (fun _ kq => XT.lload X57.here hx rfl (hb hby at_175) rfl kq) ?_
  show Go p e below s _ _ _ T57 (mkF m 177 #[.val (.long x0), .second, .val (.int x1), .val (.int x2), .val (.int x3), .val (.long V), .second, .val (.int (Int32.ofNat o)), .val (.int x3.toInt8.toInt32), .val (.ref a20), .val (.int (Int32.ofNat (o + (k_37 + 1)))), .val (.int (Int32.ofNat (k_37 + 1))), .val (.int (1 : Int32))] [(.long V), (.int (Int32.ofNat (k_37 + 1))), (.int (Int32.ofNat o)), (.int (1 : Int32)), (.ref a20), (.int (1 : Int32))])
  refine go_st (fun _ kq => XS.iload X57.here hx rfl (hb hby at_177) rfl kq) ?_
  show Go p e below s _ _ _ T57 (mkF m 179 #[.val (.long x0), .second, .val (.int x1), .val (.int x2), .val (.int x3), .val (.long V), .second, .val (.int (Int32.ofNat o)), .val (.int x3.toInt8.toInt32), .val (.ref a20), .val (.int (Int32.ofNat (o + (k_37 + 1)))), .val (.int (Int32.ofNat (k_37 + 1))), .val (.int (1 : Int32))] [(.int x3.toInt8.toInt32), (.long V), (.int (Int32.ofNat (k_37 + 1))), (.int (Int32.ofNat o)), (.int (1 : Int32)), (.ref a20), (.int (1 : Int32))])
  refine go_callS X57 hx hZ hml hown (hw _ (List.mem_of_getElem? (i := 10) rfl)) (hw _ (List.mem_of_getElem? (i := 11) rfl)) (hw _ (List.mem_of_getElem? (i := 8) rfl)) (hw _ (List.mem_of_getElem? (i := 12) rfl)) e57 (argsL := [(.ref a20), (.int (1 : Int32)), (.int (Int32.ofNat o)), (.int (Int32.ofNat (k_37 + 1))), (.long V), (.int x3.toInt8.toInt32)]) (rest := [(.int (1 : Int32))]) (W := 1) (met_3 l Z a0 hw a20 (1 : Int32) (Int32.ofNat o) (Int32.ofNat (k_37 + 1)) V x3.toInt8.toInt32 (fun j => .int (FE (fun _ => x3.toInt8.toInt32) o V k_37 j)) (FE (fun _ => x3.toInt8.toInt32) o V k_37 1) T37.heap n0 z58 f37_0 (by decide) rfl) (hb hby at_179) rfl rfl rfl (lenOf pd2 rfl) (by show 2 * 0 + _ ≤ _; exact Nat.le_of_eq rfl) (by decide) (by decide) (by decide) (by decide) (by decide) ?_
  intro T59 v59 L59 X59 q59
  obtain ⟨rfl, M59, e59⟩ := q59
  have N59 := Fr.app N57 M59
  have ra59 : (fAt (1 : Int32) (Int32.ofNat o) (Int32.ofNat (k_37 + 1)) V x3.toInt8.toInt32 (FE (fun _ => x3.toInt8.toInt32) o V k_37 1)) = 1 := own_at (j := 1) ho hk hall hsm (by decide)
  rw [ra59]
  show Go p e below s _ _ _ T59 (mkF m 182 #[.val (.long x0), .second, .val (.int x1), .val (.int x2), .val (.int x3), .val (.long V), .second, .val (.int (Int32.ofNat o)), .val (.int x3.toInt8.toInt32), .val (.ref a20), .val (.int (Int32.ofNat (o + (k_37 + 1)))), .val (.int (Int32.ofNat (k_37 + 1))), .val (.int (1 : Int32))] [(.int (1 : Int32)), (.int (1 : Int32))])
  refine go_st (fun _ kq => XS.iand X59.here hx rfl (hb hby at_182) rfl kq) ?_
  rw [show ((1 : Int32) &&& (1 : Int32)) = (1 : Int32) from by decide +kernel]
  show Go p e below s _ _ _ T59 (mkF m 183 #[.val (.long x0), .second, .val (.int x1), .val (.int x2), .val (.int x3), .val (.long V), .second, .val (.int (Int32.ofNat o)), .val (.int x3.toInt8.toInt32), .val (.ref a20), .val (.int (Int32.ofNat (o + (k_37 + 1)))), .val (.int (Int32.ofNat (k_37 + 1))), .val (.int (1 : Int32))] [(.int (1 : Int32))])
  refine go_st (fun _ kq => XS.istore X59.here hx rfl (hb hby at_183) rfl (l' := #[.val (.long x0), .second, .val (.int x1), .val (.int x2), .val (.int x3), .val (.long V), .second, .val (.int (Int32.ofNat o)), .val (.int x3.toInt8.toInt32), .val (.ref a20), .val (.int (Int32.ofNat (o + (k_37 + 1)))), .val (.int (Int32.ofNat (k_37 + 1))), .val (.int (1 : Int32))]) rfl kq) ?_
  show Go p e below s _ _ _ T59 (mkF m 185 #[.val (.long x0), .second, .val (.int x1), .val (.int x2), .val (.int x3), .val (.long V), .second, .val (.int (Int32.ofNat o)), .val (.int x3.toInt8.toInt32), .val (.ref a20), .val (.int (Int32.ofNat (o + (k_37 + 1)))), .val (.int (Int32.ofNat (k_37 + 1))), .val (.int (1 : Int32))] [])
  refine go_st (fun _ kq => XS.iload X59.here hx rfl (hb hby at_185) rfl kq) ?_
  show Go p e below s _ _ _ T59 (mkF m 187 #[.val (.long x0), .second, .val (.int x1), .val (.int x2), .val (.int x3), .val (.long V), .second, .val (.int (Int32.ofNat o)), .val (.int x3.toInt8.toInt32), .val (.ref a20), .val (.int (Int32.ofNat (o + (k_37 + 1)))), .val (.int (Int32.ofNat (k_37 + 1))), .val (.int (1 : Int32))] [(.int (1 : Int32))])
  refine go_st (fun _ kq => XS.aload X59.here hx rfl (hb hby at_187) rfl rfl kq) ?_
  show Go p e below s _ _ _ T59 (mkF m 189 #[.val (.long x0), .second, .val (.int x1), .val (.int x2), .val (.int x3), .val (.long V), .second, .val (.int (Int32.ofNat o)), .val (.int x3.toInt8.toInt32), .val (.ref a20), .val (.int (Int32.ofNat (o + (k_37 + 1)))), .val (.int (Int32.ofNat (k_37 + 1))), .val (.int (1 : Int32))] [(.ref a20), (.int (1 : Int32))])
  refine go_st (fun _ kq => XT.iconstV X59.here hx rfl (2 : Int32) (hb hby at_189) (by decide) kq) ?_
  show Go p e below s _ _ _ T59 (mkF m 190 #[.val (.long x0), .second, .val (.int x1), .val (.int x2), .val (.int x3), .val (.long V), .second, .val (.int (Int32.ofNat o)), .val (.int x3.toInt8.toInt32), .val (.ref a20), .val (.int (Int32.ofNat (o + (k_37 + 1)))), .val (.int (Int32.ofNat (k_37 + 1))), .val (.int (1 : Int32))] [(.int (2 : Int32)), (.ref a20), (.int (1 : Int32))])
  refine go_st (fun _ kq => XS.iload X59.here hx rfl (hb hby at_190) rfl kq) ?_
  show Go p e below s _ _ _ T59 (mkF m 192 #[.val (.long x0), .second, .val (.int x1), .val (.int x2), .val (.int x3), .val (.long V), .second, .val (.int (Int32.ofNat o)), .val (.int x3.toInt8.toInt32), .val (.ref a20), .val (.int (Int32.ofNat (o + (k_37 + 1)))), .val (.int (Int32.ofNat (k_37 + 1))), .val (.int (1 : Int32))] [(.int (Int32.ofNat o)), (.int (2 : Int32)), (.ref a20), (.int (1 : Int32))])
  refine go_st (fun _ kq => XS.iload X59.here hx rfl (hb hby at_192) rfl kq) ?_
  show Go p e below s _ _ _ T59 (mkF m 194 #[.val (.long x0), .second, .val (.int x1), .val (.int x2), .val (.int x3), .val (.long V), .second, .val (.int (Int32.ofNat o)), .val (.int x3.toInt8.toInt32), .val (.ref a20), .val (.int (Int32.ofNat (o + (k_37 + 1)))), .val (.int (Int32.ofNat (k_37 + 1))), .val (.int (1 : Int32))] [(.int (Int32.ofNat (k_37 + 1))), (.int (Int32.ofNat o)), (.int (2 : Int32)), (.ref a20), (.int (1 : Int32))])
  refine go_st (fun _ kq => XT.lload X59.here hx rfl (hb hby at_194) rfl kq) ?_
  show Go p e below s _ _ _ T59 (mkF m 196 #[.val (.long x0), .second, .val (.int x1), .val (.int x2), .val (.int x3), .val (.long V), .second, .val (.int (Int32.ofNat o)), .val (.int x3.toInt8.toInt32), .val (.ref a20), .val (.int (Int32.ofNat (o + (k_37 + 1)))), .val (.int (Int32.ofNat (k_37 + 1))), .val (.int (1 : Int32))] [(.long V), (.int (Int32.ofNat (k_37 + 1))), (.int (Int32.ofNat o)), (.int (2 : Int32)), (.ref a20), (.int (1 : Int32))])
  refine go_st (fun _ kq => XS.iload X59.here hx rfl (hb hby at_196) rfl kq) ?_
  show Go p e below s _ _ _ T59 (mkF m 198 #[.val (.long x0), .second, .val (.int x1), .val (.int x2), .val (.int x3), .val (.long V), .second, .val (.int (Int32.ofNat o)), .val (.int x3.toInt8.toInt32), .val (.ref a20), .val (.int (Int32.ofNat (o + (k_37 + 1)))), .val (.int (Int32.ofNat (k_37 + 1))), .val (.int (1 : Int32))] [(.int x3.toInt8.toInt32), (.long V), (.int (Int32.ofNat (k_37 + 1))), (.int (Int32.ofNat o)), (.int (2 : Int32)), (.ref a20), (.int (1 : Int32))])
  refine go_callS X59 hx hZ hml hown (hw _ (List.mem_of_getElem? (i := 10) rfl)) (hw _ (List.mem_of_getElem? (i := 11) rfl)) (hw _ (List.mem_of_getElem? (i := 8) rfl)) (hw _ (List.mem_of_getElem? (i := 12) rfl)) e59 (argsL := [(.ref a20), (.int (2 : Int32)), (.int (Int32.ofNat o)), (.int (Int32.ofNat (k_37 + 1))), (.long V), (.int x3.toInt8.toInt32)]) (rest := [(.int (1 : Int32))]) (W := 1) (met_3 l Z a0 hw a20 (2 : Int32) (Int32.ofNat o) (Int32.ofNat (k_37 + 1)) V x3.toInt8.toInt32 (fun j => .int (FE (fun _ => x3.toInt8.toInt32) o V k_37 j)) (FE (fun _ => x3.toInt8.toInt32) o V k_37 2) T37.heap n0 z58 f37_0 (by decide) rfl) (hb hby at_198) rfl rfl rfl (lenOf pd2 rfl) (by show 2 * 0 + _ ≤ _; exact Nat.le_of_eq rfl) (by decide) (by decide) (by decide) (by decide) (by decide) ?_
  intro T60 v60 L60 X60 q60
  obtain ⟨rfl, M60, e60⟩ := q60
  have N60 := Fr.app N59 M60
  have ra60 : (fAt (2 : Int32) (Int32.ofNat o) (Int32.ofNat (k_37 + 1)) V x3.toInt8.toInt32 (FE (fun _ => x3.toInt8.toInt32) o V k_37 2)) = 1 := own_at (j := 2) ho hk hall hsm (by decide)
  rw [ra60]
  show Go p e below s _ _ _ T60 (mkF m 201 #[.val (.long x0), .second, .val (.int x1), .val (.int x2), .val (.int x3), .val (.long V), .second, .val (.int (Int32.ofNat o)), .val (.int x3.toInt8.toInt32), .val (.ref a20), .val (.int (Int32.ofNat (o + (k_37 + 1)))), .val (.int (Int32.ofNat (k_37 + 1))), .val (.int (1 : Int32))] [(.int (1 : Int32)), (.int (1 : Int32))])
  refine go_st (fun _ kq => XS.iand X60.here hx rfl (hb hby at_201) rfl kq) ?_
  rw [show ((1 : Int32) &&& (1 : Int32)) = (1 : Int32) from by decide +kernel]
  show Go p e below s _ _ _ T60 (mkF m 202 #[.val (.long x0), .second, .val (.int x1), .val (.int x2), .val (.int x3), .val (.long V), .second, .val (.int (Int32.ofNat o)), .val (.int x3.toInt8.toInt32), .val (.ref a20), .val (.int (Int32.ofNat (o + (k_37 + 1)))), .val (.int (Int32.ofNat (k_37 + 1))), .val (.int (1 : Int32))] [(.int (1 : Int32))])
  refine go_st (fun _ kq => XS.istore X60.here hx rfl (hb hby at_202) rfl (l' := #[.val (.long x0), .second, .val (.int x1), .val (.int x2), .val (.int x3), .val (.long V), .second, .val (.int (Int32.ofNat o)), .val (.int x3.toInt8.toInt32), .val (.ref a20), .val (.int (Int32.ofNat (o + (k_37 + 1)))), .val (.int (Int32.ofNat (k_37 + 1))), .val (.int (1 : Int32))]) rfl kq) ?_
  show Go p e below s _ _ _ T60 (mkF m 204 #[.val (.long x0), .second, .val (.int x1), .val (.int x2), .val (.int x3), .val (.long V), .second, .val (.int (Int32.ofNat o)), .val (.int x3.toInt8.toInt32), .val (.ref a20), .val (.int (Int32.ofNat (o + (k_37 + 1)))), .val (.int (Int32.ofNat (k_37 + 1))), .val (.int (1 : Int32))] [])
  refine go_st (fun _ kq => XS.iload X60.here hx rfl (hb hby at_204) rfl kq) ?_
  show Go p e below s _ _ _ T60 (mkF m 206 #[.val (.long x0), .second, .val (.int x1), .val (.int x2), .val (.int x3), .val (.long V), .second, .val (.int (Int32.ofNat o)), .val (.int x3.toInt8.toInt32), .val (.ref a20), .val (.int (Int32.ofNat (o + (k_37 + 1)))), .val (.int (Int32.ofNat (k_37 + 1))), .val (.int (1 : Int32))] [(.int (1 : Int32))])
  refine go_st (fun _ kq => XS.aload X60.here hx rfl (hb hby at_206) rfl rfl kq) ?_
  show Go p e below s _ _ _ T60 (mkF m 208 #[.val (.long x0), .second, .val (.int x1), .val (.int x2), .val (.int x3), .val (.long V), .second, .val (.int (Int32.ofNat o)), .val (.int x3.toInt8.toInt32), .val (.ref a20), .val (.int (Int32.ofNat (o + (k_37 + 1)))), .val (.int (Int32.ofNat (k_37 + 1))), .val (.int (1 : Int32))] [(.ref a20), (.int (1 : Int32))])
  refine go_st (fun _ kq => XT.iconstV X60.here hx rfl (3 : Int32) (hb hby at_208) (by decide) kq) ?_
  show Go p e below s _ _ _ T60 (mkF m 209 #[.val (.long x0), .second, .val (.int x1), .val (.int x2), .val (.int x3), .val (.long V), .second, .val (.int (Int32.ofNat o)), .val (.int x3.toInt8.toInt32), .val (.ref a20), .val (.int (Int32.ofNat (o + (k_37 + 1)))), .val (.int (Int32.ofNat (k_37 + 1))), .val (.int (1 : Int32))] [(.int (3 : Int32)), (.ref a20), (.int (1 : Int32))])
  refine go_st (fun _ kq => XS.iload X60.here hx rfl (hb hby at_209) rfl kq) ?_
  show Go p e below s _ _ _ T60 (mkF m 211 #[.val (.long x0), .second, .val (.int x1), .val (.int x2), .val (.int x3), .val (.long V), .second, .val (.int (Int32.ofNat o)), .val (.int x3.toInt8.toInt32), .val (.ref a20), .val (.int (Int32.ofNat (o + (k_37 + 1)))), .val (.int (Int32.ofNat (k_37 + 1))), .val (.int (1 : Int32))] [(.int (Int32.ofNat o)), (.int (3 : Int32)), (.ref a20), (.int (1 : Int32))])
  refine go_st (fun _ kq => XS.iload X60.here hx rfl (hb hby at_211) rfl kq) ?_
  show Go p e below s _ _ _ T60 (mkF m 213 #[.val (.long x0), .second, .val (.int x1), .val (.int x2), .val (.int x3), .val (.long V), .second, .val (.int (Int32.ofNat o)), .val (.int x3.toInt8.toInt32), .val (.ref a20), .val (.int (Int32.ofNat (o + (k_37 + 1)))), .val (.int (Int32.ofNat (k_37 + 1))), .val (.int (1 : Int32))] [(.int (Int32.ofNat (k_37 + 1))), (.int (Int32.ofNat o)), (.int (3 : Int32)), (.ref a20), (.int (1 : Int32))])
  refine go_st (fun _ kq => XT.lload X60.here hx rfl (hb hby at_213) rfl kq) ?_
  show Go p e below s _ _ _ T60 (mkF m 215 #[.val (.long x0), .second, .val (.int x1), .val (.int x2), .val (.int x3), .val (.long V), .second, .val (.int (Int32.ofNat o)), .val (.int x3.toInt8.toInt32), .val (.ref a20), .val (.int (Int32.ofNat (o + (k_37 + 1)))), .val (.int (Int32.ofNat (k_37 + 1))), .val (.int (1 : Int32))] [(.long V), (.int (Int32.ofNat (k_37 + 1))), (.int (Int32.ofNat o)), (.int (3 : Int32)), (.ref a20), (.int (1 : Int32))])
  refine go_st (fun _ kq => XS.iload X60.here hx rfl (hb hby at_215) rfl kq) ?_
  show Go p e below s _ _ _ T60 (mkF m 217 #[.val (.long x0), .second, .val (.int x1), .val (.int x2), .val (.int x3), .val (.long V), .second, .val (.int (Int32.ofNat o)), .val (.int x3.toInt8.toInt32), .val (.ref a20), .val (.int (Int32.ofNat (o + (k_37 + 1)))), .val (.int (Int32.ofNat (k_37 + 1))), .val (.int (1 : Int32))] [(.int x3.toInt8.toInt32), (.long V), (.int (Int32.ofNat (k_37 + 1))), (.int (Int32.ofNat o)), (.int (3 : Int32)), (.ref a20), (.int (1 : Int32))])
  refine go_callS X60 hx hZ hml hown (hw _ (List.mem_of_getElem? (i := 10) rfl)) (hw _ (List.mem_of_getElem? (i := 11) rfl)) (hw _ (List.mem_of_getElem? (i := 8) rfl)) (hw _ (List.mem_of_getElem? (i := 12) rfl)) e60 (argsL := [(.ref a20), (.int (3 : Int32)), (.int (Int32.ofNat o)), (.int (Int32.ofNat (k_37 + 1))), (.long V), (.int x3.toInt8.toInt32)]) (rest := [(.int (1 : Int32))]) (W := 1) (met_3 l Z a0 hw a20 (3 : Int32) (Int32.ofNat o) (Int32.ofNat (k_37 + 1)) V x3.toInt8.toInt32 (fun j => .int (FE (fun _ => x3.toInt8.toInt32) o V k_37 j)) (FE (fun _ => x3.toInt8.toInt32) o V k_37 3) T37.heap n0 z58 f37_0 (by decide) rfl) (hb hby at_217) rfl rfl rfl (lenOf pd2 rfl) (by show 2 * 0 + _ ≤ _; exact Nat.le_of_eq rfl) (by decide) (by decide) (by decide) (by decide) (by decide) ?_
  intro T61 v61 L61 X61 q61
  obtain ⟨rfl, M61, e61⟩ := q61
  have N61 := Fr.app N60 M61
  have ra61 : (fAt (3 : Int32) (Int32.ofNat o) (Int32.ofNat (k_37 + 1)) V x3.toInt8.toInt32 (FE (fun _ => x3.toInt8.toInt32) o V k_37 3)) = 1 := own_at (j := 3) ho hk hall hsm (by decide)
  rw [ra61]
  show Go p e below s _ _ _ T61 (mkF m 220 #[.val (.long x0), .second, .val (.int x1), .val (.int x2), .val (.int x3), .val (.long V), .second, .val (.int (Int32.ofNat o)), .val (.int x3.toInt8.toInt32), .val (.ref a20), .val (.int (Int32.ofNat (o + (k_37 + 1)))), .val (.int (Int32.ofNat (k_37 + 1))), .val (.int (1 : Int32))] [(.int (1 : Int32)), (.int (1 : Int32))])
  refine go_st (fun _ kq => XS.iand X61.here hx rfl (hb hby at_220) rfl kq) ?_
  rw [show ((1 : Int32) &&& (1 : Int32)) = (1 : Int32) from by decide +kernel]
  show Go p e below s _ _ _ T61 (mkF m 221 #[.val (.long x0), .second, .val (.int x1), .val (.int x2), .val (.int x3), .val (.long V), .second, .val (.int (Int32.ofNat o)), .val (.int x3.toInt8.toInt32), .val (.ref a20), .val (.int (Int32.ofNat (o + (k_37 + 1)))), .val (.int (Int32.ofNat (k_37 + 1))), .val (.int (1 : Int32))] [(.int (1 : Int32))])
  refine go_st (fun _ kq => XS.istore X61.here hx rfl (hb hby at_221) rfl (l' := #[.val (.long x0), .second, .val (.int x1), .val (.int x2), .val (.int x3), .val (.long V), .second, .val (.int (Int32.ofNat o)), .val (.int x3.toInt8.toInt32), .val (.ref a20), .val (.int (Int32.ofNat (o + (k_37 + 1)))), .val (.int (Int32.ofNat (k_37 + 1))), .val (.int (1 : Int32))]) rfl kq) ?_
  show Go p e below s _ _ _ T61 (mkF m 223 #[.val (.long x0), .second, .val (.int x1), .val (.int x2), .val (.int x3), .val (.long V), .second, .val (.int (Int32.ofNat o)), .val (.int x3.toInt8.toInt32), .val (.ref a20), .val (.int (Int32.ofNat (o + (k_37 + 1)))), .val (.int (Int32.ofNat (k_37 + 1))), .val (.int (1 : Int32))] [])
  refine go_st (fun _ kq => XS.iload X61.here hx rfl (hb hby at_223) rfl kq) ?_
  show Go p e below s _ _ _ T61 (mkF m 225 #[.val (.long x0), .second, .val (.int x1), .val (.int x2), .val (.int x3), .val (.long V), .second, .val (.int (Int32.ofNat o)), .val (.int x3.toInt8.toInt32), .val (.ref a20), .val (.int (Int32.ofNat (o + (k_37 + 1)))), .val (.int (Int32.ofNat (k_37 + 1))), .val (.int (1 : Int32))] [(.int (1 : Int32))])
  refine go_st (fun _ kq => XS.aload X61.here hx rfl (hb hby at_225) rfl rfl kq) ?_
  show Go p e below s _ _ _ T61 (mkF m 227 #[.val (.long x0), .second, .val (.int x1), .val (.int x2), .val (.int x3), .val (.long V), .second, .val (.int (Int32.ofNat o)), .val (.int x3.toInt8.toInt32), .val (.ref a20), .val (.int (Int32.ofNat (o + (k_37 + 1)))), .val (.int (Int32.ofNat (k_37 + 1))), .val (.int (1 : Int32))] [(.ref a20), (.int (1 : Int32))])
  refine go_st (fun _ kq => XT.iconstV X61.here hx rfl (4 : Int32) (hb hby at_227) (by decide) kq) ?_
  show Go p e below s _ _ _ T61 (mkF m 228 #[.val (.long x0), .second, .val (.int x1), .val (.int x2), .val (.int x3), .val (.long V), .second, .val (.int (Int32.ofNat o)), .val (.int x3.toInt8.toInt32), .val (.ref a20), .val (.int (Int32.ofNat (o + (k_37 + 1)))), .val (.int (Int32.ofNat (k_37 + 1))), .val (.int (1 : Int32))] [(.int (4 : Int32)), (.ref a20), (.int (1 : Int32))])
  refine go_st (fun _ kq => XS.iload X61.here hx rfl (hb hby at_228) rfl kq) ?_
  show Go p e below s _ _ _ T61 (mkF m 230 #[.val (.long x0), .second, .val (.int x1), .val (.int x2), .val (.int x3), .val (.long V), .second, .val (.int (Int32.ofNat o)), .val (.int x3.toInt8.toInt32), .val (.ref a20), .val (.int (Int32.ofNat (o + (k_37 + 1)))), .val (.int (Int32.ofNat (k_37 + 1))), .val (.int (1 : Int32))] [(.int (Int32.ofNat o)), (.int (4 : Int32)), (.ref a20), (.int (1 : Int32))])
  refine go_st (fun _ kq => XS.iload X61.here hx rfl (hb hby at_230) rfl kq) ?_
  show Go p e below s _ _ _ T61 (mkF m 232 #[.val (.long x0), .second, .val (.int x1), .val (.int x2), .val (.int x3), .val (.long V), .second, .val (.int (Int32.ofNat o)), .val (.int x3.toInt8.toInt32), .val (.ref a20), .val (.int (Int32.ofNat (o + (k_37 + 1)))), .val (.int (Int32.ofNat (k_37 + 1))), .val (.int (1 : Int32))] [(.int (Int32.ofNat (k_37 + 1))), (.int (Int32.ofNat o)), (.int (4 : Int32)), (.ref a20), (.int (1 : Int32))])
  refine go_st (fun _ kq => XT.lload X61.here hx rfl (hb hby at_232) rfl kq) ?_
  show Go p e below s _ _ _ T61 (mkF m 234 #[.val (.long x0), .second, .val (.int x1), .val (.int x2), .val (.int x3), .val (.long V), .second, .val (.int (Int32.ofNat o)), .val (.int x3.toInt8.toInt32), .val (.ref a20), .val (.int (Int32.ofNat (o + (k_37 + 1)))), .val (.int (Int32.ofNat (k_37 + 1))), .val (.int (1 : Int32))] [(.long V), (.int (Int32.ofNat (k_37 + 1))), (.int (Int32.ofNat o)), (.int (4 : Int32)), (.ref a20), (.int (1 : Int32))])
  refine go_st (fun _ kq => XS.iload X61.here hx rfl (hb hby at_234) rfl kq) ?_
  show Go p e below s _ _ _ T61 (mkF m 236 #[.val (.long x0), .second, .val (.int x1), .val (.int x2), .val (.int x3), .val (.long V), .second, .val (.int (Int32.ofNat o)), .val (.int x3.toInt8.toInt32), .val (.ref a20), .val (.int (Int32.ofNat (o + (k_37 + 1)))), .val (.int (Int32.ofNat (k_37 + 1))), .val (.int (1 : Int32))] [(.int x3.toInt8.toInt32), (.long V), (.int (Int32.ofNat (k_37 + 1))), (.int (Int32.ofNat o)), (.int (4 : Int32)), (.ref a20), (.int (1 : Int32))])
  refine go_callS X61 hx hZ hml hown (hw _ (List.mem_of_getElem? (i := 10) rfl)) (hw _ (List.mem_of_getElem? (i := 11) rfl)) (hw _ (List.mem_of_getElem? (i := 8) rfl)) (hw _ (List.mem_of_getElem? (i := 12) rfl)) e61 (argsL := [(.ref a20), (.int (4 : Int32)), (.int (Int32.ofNat o)), (.int (Int32.ofNat (k_37 + 1))), (.long V), (.int x3.toInt8.toInt32)]) (rest := [(.int (1 : Int32))]) (W := 1) (met_3 l Z a0 hw a20 (4 : Int32) (Int32.ofNat o) (Int32.ofNat (k_37 + 1)) V x3.toInt8.toInt32 (fun j => .int (FE (fun _ => x3.toInt8.toInt32) o V k_37 j)) (FE (fun _ => x3.toInt8.toInt32) o V k_37 4) T37.heap n0 z58 f37_0 (by decide) rfl) (hb hby at_236) rfl rfl rfl (lenOf pd2 rfl) (by show 2 * 0 + _ ≤ _; exact Nat.le_of_eq rfl) (by decide) (by decide) (by decide) (by decide) (by decide) ?_
  intro T62 v62 L62 X62 q62
  obtain ⟨rfl, M62, e62⟩ := q62
  have N62 := Fr.app N61 M62
  have ra62 : (fAt (4 : Int32) (Int32.ofNat o) (Int32.ofNat (k_37 + 1)) V x3.toInt8.toInt32 (FE (fun _ => x3.toInt8.toInt32) o V k_37 4)) = 1 := own_at (j := 4) ho hk hall hsm (by decide)
  rw [ra62]
  show Go p e below s _ _ _ T62 (mkF m 239 #[.val (.long x0), .second, .val (.int x1), .val (.int x2), .val (.int x3), .val (.long V), .second, .val (.int (Int32.ofNat o)), .val (.int x3.toInt8.toInt32), .val (.ref a20), .val (.int (Int32.ofNat (o + (k_37 + 1)))), .val (.int (Int32.ofNat (k_37 + 1))), .val (.int (1 : Int32))] [(.int (1 : Int32)), (.int (1 : Int32))])
  refine go_st (fun _ kq => XS.iand X62.here hx rfl (hb hby at_239) rfl kq) ?_
  rw [show ((1 : Int32) &&& (1 : Int32)) = (1 : Int32) from by decide +kernel]
  show Go p e below s _ _ _ T62 (mkF m 240 #[.val (.long x0), .second, .val (.int x1), .val (.int x2), .val (.int x3), .val (.long V), .second, .val (.int (Int32.ofNat o)), .val (.int x3.toInt8.toInt32), .val (.ref a20), .val (.int (Int32.ofNat (o + (k_37 + 1)))), .val (.int (Int32.ofNat (k_37 + 1))), .val (.int (1 : Int32))] [(.int (1 : Int32))])
  refine go_st (fun _ kq => XS.istore X62.here hx rfl (hb hby at_240) rfl (l' := #[.val (.long x0), .second, .val (.int x1), .val (.int x2), .val (.int x3), .val (.long V), .second, .val (.int (Int32.ofNat o)), .val (.int x3.toInt8.toInt32), .val (.ref a20), .val (.int (Int32.ofNat (o + (k_37 + 1)))), .val (.int (Int32.ofNat (k_37 + 1))), .val (.int (1 : Int32))]) rfl kq) ?_
  show Go p e below s _ _ _ T62 (mkF m 242 #[.val (.long x0), .second, .val (.int x1), .val (.int x2), .val (.int x3), .val (.long V), .second, .val (.int (Int32.ofNat o)), .val (.int x3.toInt8.toInt32), .val (.ref a20), .val (.int (Int32.ofNat (o + (k_37 + 1)))), .val (.int (Int32.ofNat (k_37 + 1))), .val (.int (1 : Int32))] [])
  refine go_st (fun _ kq => XS.iload X62.here hx rfl (hb hby at_242) rfl kq) ?_
  show Go p e below s _ _ _ T62 (mkF m 244 #[.val (.long x0), .second, .val (.int x1), .val (.int x2), .val (.int x3), .val (.long V), .second, .val (.int (Int32.ofNat o)), .val (.int x3.toInt8.toInt32), .val (.ref a20), .val (.int (Int32.ofNat (o + (k_37 + 1)))), .val (.int (Int32.ofNat (k_37 + 1))), .val (.int (1 : Int32))] [(.int (1 : Int32))])
  refine go_st (fun _ kq => XS.aload X62.here hx rfl (hb hby at_244) rfl rfl kq) ?_
  show Go p e below s _ _ _ T62 (mkF m 246 #[.val (.long x0), .second, .val (.int x1), .val (.int x2), .val (.int x3), .val (.long V), .second, .val (.int (Int32.ofNat o)), .val (.int x3.toInt8.toInt32), .val (.ref a20), .val (.int (Int32.ofNat (o + (k_37 + 1)))), .val (.int (Int32.ofNat (k_37 + 1))), .val (.int (1 : Int32))] [(.ref a20), (.int (1 : Int32))])
  refine go_st (fun _ kq => XT.iconstV X62.here hx rfl (5 : Int32) (hb hby at_246) (by decide) kq) ?_
  show Go p e below s _ _ _ T62 (mkF m 247 #[.val (.long x0), .second, .val (.int x1), .val (.int x2), .val (.int x3), .val (.long V), .second, .val (.int (Int32.ofNat o)), .val (.int x3.toInt8.toInt32), .val (.ref a20), .val (.int (Int32.ofNat (o + (k_37 + 1)))), .val (.int (Int32.ofNat (k_37 + 1))), .val (.int (1 : Int32))] [(.int (5 : Int32)), (.ref a20), (.int (1 : Int32))])
  refine go_st (fun _ kq => XS.iload X62.here hx rfl (hb hby at_247) rfl kq) ?_
  show Go p e below s _ _ _ T62 (mkF m 249 #[.val (.long x0), .second, .val (.int x1), .val (.int x2), .val (.int x3), .val (.long V), .second, .val (.int (Int32.ofNat o)), .val (.int x3.toInt8.toInt32), .val (.ref a20), .val (.int (Int32.ofNat (o + (k_37 + 1)))), .val (.int (Int32.ofNat (k_37 + 1))), .val (.int (1 : Int32))] [(.int (Int32.ofNat o)), (.int (5 : Int32)), (.ref a20), (.int (1 : Int32))])
  refine go_st (fun _ kq => XS.iload X62.here hx rfl (hb hby at_249) rfl kq) ?_
  show Go p e below s _ _ _ T62 (mkF m 251 #[.val (.long x0), .second, .val (.int x1), .val (.int x2), .val (.int x3), .val (.long V), .second, .val (.int (Int32.ofNat o)), .val (.int x3.toInt8.toInt32), .val (.ref a20), .val (.int (Int32.ofNat (o + (k_37 + 1)))), .val (.int (Int32.ofNat (k_37 + 1))), .val (.int (1 : Int32))] [(.int (Int32.ofNat (k_37 + 1))), (.int (Int32.ofNat o)), (.int (5 : Int32)), (.ref a20), (.int (1 : Int32))])
  refine go_st (fun _ kq => XT.lload X62.here hx rfl (hb hby at_251) rfl kq) ?_
  show Go p e below s _ _ _ T62 (mkF m 253 #[.val (.long x0), .second, .val (.int x1), .val (.int x2), .val (.int x3), .val (.long V), .second, .val (.int (Int32.ofNat o)), .val (.int x3.toInt8.toInt32), .val (.ref a20), .val (.int (Int32.ofNat (o + (k_37 + 1)))), .val (.int (Int32.ofNat (k_37 + 1))), .val (.int (1 : Int32))] [(.long V), (.int (Int32.ofNat (k_37 + 1))), (.int (Int32.ofNat o)), (.int (5 : Int32)), (.ref a20), (.int (1 : Int32))])
  refine go_st (fun _ kq => XS.iload X62.here hx rfl (hb hby at_253) rfl kq) ?_
  show Go p e below s _ _ _ T62 (mkF m 255 #[.val (.long x0), .second, .val (.int x1), .val (.int x2), .val (.int x3), .val (.long V), .second, .val (.int (Int32.ofNat o)), .val (.int x3.toInt8.toInt32), .val (.ref a20), .val (.int (Int32.ofNat (o + (k_37 + 1)))), .val (.int (Int32.ofNat (k_37 + 1))), .val (.int (1 : Int32))] [(.int x3.toInt8.toInt32), (.long V), (.int (Int32.ofNat (k_37 + 1))), (.int (Int32.ofNat o)), (.int (5 : Int32)), (.ref a20), (.int (1 : Int32))])
  refine go_callS X62 hx hZ hml hown (hw _ (List.mem_of_getElem? (i := 10) rfl)) (hw _ (List.mem_of_getElem? (i := 11) rfl)) (hw _ (List.mem_of_getElem? (i := 8) rfl)) (hw _ (List.mem_of_getElem? (i := 12) rfl)) e62 (argsL := [(.ref a20), (.int (5 : Int32)), (.int (Int32.ofNat o)), (.int (Int32.ofNat (k_37 + 1))), (.long V), (.int x3.toInt8.toInt32)]) (rest := [(.int (1 : Int32))]) (W := 1) (met_3 l Z a0 hw a20 (5 : Int32) (Int32.ofNat o) (Int32.ofNat (k_37 + 1)) V x3.toInt8.toInt32 (fun j => .int (FE (fun _ => x3.toInt8.toInt32) o V k_37 j)) (FE (fun _ => x3.toInt8.toInt32) o V k_37 5) T37.heap n0 z58 f37_0 (by decide) rfl) (hb hby at_255) rfl rfl rfl (lenOf pd2 rfl) (by show 2 * 0 + _ ≤ _; exact Nat.le_of_eq rfl) (by decide) (by decide) (by decide) (by decide) (by decide) ?_
  intro T63 v63 L63 X63 q63
  obtain ⟨rfl, M63, e63⟩ := q63
  have N63 := Fr.app N62 M63
  have ra63 : (fAt (5 : Int32) (Int32.ofNat o) (Int32.ofNat (k_37 + 1)) V x3.toInt8.toInt32 (FE (fun _ => x3.toInt8.toInt32) o V k_37 5)) = 1 := own_at (j := 5) ho hk hall hsm (by decide)
  rw [ra63]
  show Go p e below s _ _ _ T63 (mkF m 258 #[.val (.long x0), .second, .val (.int x1), .val (.int x2), .val (.int x3), .val (.long V), .second, .val (.int (Int32.ofNat o)), .val (.int x3.toInt8.toInt32), .val (.ref a20), .val (.int (Int32.ofNat (o + (k_37 + 1)))), .val (.int (Int32.ofNat (k_37 + 1))), .val (.int (1 : Int32))] [(.int (1 : Int32)), (.int (1 : Int32))])
  refine go_st (fun _ kq => XS.iand X63.here hx rfl (hb hby at_258) rfl kq) ?_
  rw [show ((1 : Int32) &&& (1 : Int32)) = (1 : Int32) from by decide +kernel]
  show Go p e below s _ _ _ T63 (mkF m 259 #[.val (.long x0), .second, .val (.int x1), .val (.int x2), .val (.int x3), .val (.long V), .second, .val (.int (Int32.ofNat o)), .val (.int x3.toInt8.toInt32), .val (.ref a20), .val (.int (Int32.ofNat (o + (k_37 + 1)))), .val (.int (Int32.ofNat (k_37 + 1))), .val (.int (1 : Int32))] [(.int (1 : Int32))])
  refine go_st (fun _ kq => XS.istore X63.here hx rfl (hb hby at_259) rfl (l' := #[.val (.long x0), .second, .val (.int x1), .val (.int x2), .val (.int x3), .val (.long V), .second, .val (.int (Int32.ofNat o)), .val (.int x3.toInt8.toInt32), .val (.ref a20), .val (.int (Int32.ofNat (o + (k_37 + 1)))), .val (.int (Int32.ofNat (k_37 + 1))), .val (.int (1 : Int32))]) rfl kq) ?_
  show Go p e below s _ _ _ T63 (mkF m 261 #[.val (.long x0), .second, .val (.int x1), .val (.int x2), .val (.int x3), .val (.long V), .second, .val (.int (Int32.ofNat o)), .val (.int x3.toInt8.toInt32), .val (.ref a20), .val (.int (Int32.ofNat (o + (k_37 + 1)))), .val (.int (Int32.ofNat (k_37 + 1))), .val (.int (1 : Int32))] [])
  refine go_st (fun _ kq => XS.iload X63.here hx rfl (hb hby at_261) rfl kq) ?_
  show Go p e below s _ _ _ T63 (mkF m 263 #[.val (.long x0), .second, .val (.int x1), .val (.int x2), .val (.int x3), .val (.long V), .second, .val (.int (Int32.ofNat o)), .val (.int x3.toInt8.toInt32), .val (.ref a20), .val (.int (Int32.ofNat (o + (k_37 + 1)))), .val (.int (Int32.ofNat (k_37 + 1))), .val (.int (1 : Int32))] [(.int (1 : Int32))])
  refine go_st (fun _ kq => XS.aload X63.here hx rfl (hb hby at_263) rfl rfl kq) ?_
  show Go p e below s _ _ _ T63 (mkF m 265 #[.val (.long x0), .second, .val (.int x1), .val (.int x2), .val (.int x3), .val (.long V), .second, .val (.int (Int32.ofNat o)), .val (.int x3.toInt8.toInt32), .val (.ref a20), .val (.int (Int32.ofNat (o + (k_37 + 1)))), .val (.int (Int32.ofNat (k_37 + 1))), .val (.int (1 : Int32))] [(.ref a20), (.int (1 : Int32))])
  refine go_st (fun _ kq => XT.bipushV X63.here hx rfl (6 : Int32) (hb hby at_265) (by decide) kq) ?_
  show Go p e below s _ _ _ T63 (mkF m 267 #[.val (.long x0), .second, .val (.int x1), .val (.int x2), .val (.int x3), .val (.long V), .second, .val (.int (Int32.ofNat o)), .val (.int x3.toInt8.toInt32), .val (.ref a20), .val (.int (Int32.ofNat (o + (k_37 + 1)))), .val (.int (Int32.ofNat (k_37 + 1))), .val (.int (1 : Int32))] [(.int (6 : Int32)), (.ref a20), (.int (1 : Int32))])
  refine go_st (fun _ kq => XS.iload X63.here hx rfl (hb hby at_267) rfl kq) ?_
  show Go p e below s _ _ _ T63 (mkF m 269 #[.val (.long x0), .second, .val (.int x1), .val (.int x2), .val (.int x3), .val (.long V), .second, .val (.int (Int32.ofNat o)), .val (.int x3.toInt8.toInt32), .val (.ref a20), .val (.int (Int32.ofNat (o + (k_37 + 1)))), .val (.int (Int32.ofNat (k_37 + 1))), .val (.int (1 : Int32))] [(.int (Int32.ofNat o)), (.int (6 : Int32)), (.ref a20), (.int (1 : Int32))])
  refine go_st (fun _ kq => XS.iload X63.here hx rfl (hb hby at_269) rfl kq) ?_
  show Go p e below s _ _ _ T63 (mkF m 271 #[.val (.long x0), .second, .val (.int x1), .val (.int x2), .val (.int x3), .val (.long V), .second, .val (.int (Int32.ofNat o)), .val (.int x3.toInt8.toInt32), .val (.ref a20), .val (.int (Int32.ofNat (o + (k_37 + 1)))), .val (.int (Int32.ofNat (k_37 + 1))), .val (.int (1 : Int32))] [(.int (Int32.ofNat (k_37 + 1))), (.int (Int32.ofNat o)), (.int (6 : Int32)), (.ref a20), (.int (1 : Int32))])
  refine go_st (fun _ kq => XT.lload X63.here hx rfl (hb hby at_271) rfl kq) ?_
  show Go p e below s _ _ _ T63 (mkF m 273 #[.val (.long x0), .second, .val (.int x1), .val (.int x2), .val (.int x3), .val (.long V), .second, .val (.int (Int32.ofNat o)), .val (.int x3.toInt8.toInt32), .val (.ref a20), .val (.int (Int32.ofNat (o + (k_37 + 1)))), .val (.int (Int32.ofNat (k_37 + 1))), .val (.int (1 : Int32))] [(.long V), (.int (Int32.ofNat (k_37 + 1))), (.int (Int32.ofNat o)), (.int (6 : Int32)), (.ref a20), (.int (1 : Int32))])
  refine go_st (fun _ kq => XS.iload X63.here hx rfl (hb hby at_273) rfl kq) ?_
  show Go p e below s _ _ _ T63 (mkF m 275 #[.val (.long x0), .second, .val (.int x1), .val (.int x2), .val (.int x3), .val (.long V), .second, .val (.int (Int32.ofNat o)), .val (.int x3.toInt8.toInt32), .val (.ref a20), .val (.int (Int32.ofNat (o + (k_37 + 1)))), .val (.int (Int32.ofNat (k_37 + 1))), .val (.int (1 : Int32))] [(.int x3.toInt8.toInt32), (.long V), (.int (Int32.ofNat (k_37 + 1))), (.int (Int32.ofNat o)), (.int (6 : Int32)), (.ref a20), (.int (1 : Int32))])
  refine go_callS X63 hx hZ hml hown (hw _ (List.mem_of_getElem? (i := 10) rfl)) (hw _ (List.mem_of_getElem? (i := 11) rfl)) (hw _ (List.mem_of_getElem? (i := 8) rfl)) (hw _ (List.mem_of_getElem? (i := 12) rfl)) e63 (argsL := [(.ref a20), (.int (6 : Int32)), (.int (Int32.ofNat o)), (.int (Int32.ofNat (k_37 + 1))), (.long V), (.int x3.toInt8.toInt32)]) (rest := [(.int (1 : Int32))]) (W := 1) (met_3 l Z a0 hw a20 (6 : Int32) (Int32.ofNat o) (Int32.ofNat (k_37 + 1)) V x3.toInt8.toInt32 (fun j => .int (FE (fun _ => x3.toInt8.toInt32) o V k_37 j)) (FE (fun _ => x3.toInt8.toInt32) o V k_37 6) T37.heap n0 z58 f37_0 (by decide) rfl) (hb hby at_275) rfl rfl rfl (lenOf pd2 rfl) (by show 2 * 0 + _ ≤ _; exact Nat.le_of_eq rfl) (by decide) (by decide) (by decide) (by decide) (by decide) ?_
  intro T64 v64 L64 X64 q64
  obtain ⟨rfl, M64, e64⟩ := q64
  have N64 := Fr.app N63 M64
  have ra64 : (fAt (6 : Int32) (Int32.ofNat o) (Int32.ofNat (k_37 + 1)) V x3.toInt8.toInt32 (FE (fun _ => x3.toInt8.toInt32) o V k_37 6)) = 1 := own_at (j := 6) ho hk hall hsm (by decide)
  rw [ra64]
  show Go p e below s _ _ _ T64 (mkF m 278 #[.val (.long x0), .second, .val (.int x1), .val (.int x2), .val (.int x3), .val (.long V), .second, .val (.int (Int32.ofNat o)), .val (.int x3.toInt8.toInt32), .val (.ref a20), .val (.int (Int32.ofNat (o + (k_37 + 1)))), .val (.int (Int32.ofNat (k_37 + 1))), .val (.int (1 : Int32))] [(.int (1 : Int32)), (.int (1 : Int32))])
  refine go_st (fun _ kq => XS.iand X64.here hx rfl (hb hby at_278) rfl kq) ?_
  rw [show ((1 : Int32) &&& (1 : Int32)) = (1 : Int32) from by decide +kernel]
  show Go p e below s _ _ _ T64 (mkF m 279 #[.val (.long x0), .second, .val (.int x1), .val (.int x2), .val (.int x3), .val (.long V), .second, .val (.int (Int32.ofNat o)), .val (.int x3.toInt8.toInt32), .val (.ref a20), .val (.int (Int32.ofNat (o + (k_37 + 1)))), .val (.int (Int32.ofNat (k_37 + 1))), .val (.int (1 : Int32))] [(.int (1 : Int32))])
  refine go_st (fun _ kq => XS.istore X64.here hx rfl (hb hby at_279) rfl (l' := #[.val (.long x0), .second, .val (.int x1), .val (.int x2), .val (.int x3), .val (.long V), .second, .val (.int (Int32.ofNat o)), .val (.int x3.toInt8.toInt32), .val (.ref a20), .val (.int (Int32.ofNat (o + (k_37 + 1)))), .val (.int (Int32.ofNat (k_37 + 1))), .val (.int (1 : Int32))]) rfl kq) ?_
  show Go p e below s _ _ _ T64 (mkF m 281 #[.val (.long x0), .second, .val (.int x1), .val (.int x2), .val (.int x3), .val (.long V), .second, .val (.int (Int32.ofNat o)), .val (.int x3.toInt8.toInt32), .val (.ref a20), .val (.int (Int32.ofNat (o + (k_37 + 1)))), .val (.int (Int32.ofNat (k_37 + 1))), .val (.int (1 : Int32))] [])
  refine go_st (fun _ kq => XS.iload X64.here hx rfl (hb hby at_281) rfl kq) ?_
  show Go p e below s _ _ _ T64 (mkF m 283 #[.val (.long x0), .second, .val (.int x1), .val (.int x2), .val (.int x3), .val (.long V), .second, .val (.int (Int32.ofNat o)), .val (.int x3.toInt8.toInt32), .val (.ref a20), .val (.int (Int32.ofNat (o + (k_37 + 1)))), .val (.int (Int32.ofNat (k_37 + 1))), .val (.int (1 : Int32))] [(.int (1 : Int32))])
  refine go_st (fun _ kq => XS.aload X64.here hx rfl (hb hby at_283) rfl rfl kq) ?_
  show Go p e below s _ _ _ T64 (mkF m 285 #[.val (.long x0), .second, .val (.int x1), .val (.int x2), .val (.int x3), .val (.long V), .second, .val (.int (Int32.ofNat o)), .val (.int x3.toInt8.toInt32), .val (.ref a20), .val (.int (Int32.ofNat (o + (k_37 + 1)))), .val (.int (Int32.ofNat (k_37 + 1))), .val (.int (1 : Int32))] [(.ref a20), (.int (1 : Int32))])
  refine go_st (fun _ kq => XT.bipushV X64.here hx rfl (7 : Int32) (hb hby at_285) (by decide) kq) ?_
  show Go p e below s _ _ _ T64 (mkF m 287 #[.val (.long x0), .second, .val (.int x1), .val (.int x2), .val (.int x3), .val (.long V), .second, .val (.int (Int32.ofNat o)), .val (.int x3.toInt8.toInt32), .val (.ref a20), .val (.int (Int32.ofNat (o + (k_37 + 1)))), .val (.int (Int32.ofNat (k_37 + 1))), .val (.int (1 : Int32))] [(.int (7 : Int32)), (.ref a20), (.int (1 : Int32))])
  refine go_st (fun _ kq => XS.iload X64.here hx rfl (hb hby at_287) rfl kq) ?_
  show Go p e below s _ _ _ T64 (mkF m 289 #[.val (.long x0), .second, .val (.int x1), .val (.int x2), .val (.int x3), .val (.long V), .second, .val (.int (Int32.ofNat o)), .val (.int x3.toInt8.toInt32), .val (.ref a20), .val (.int (Int32.ofNat (o + (k_37 + 1)))), .val (.int (Int32.ofNat (k_37 + 1))), .val (.int (1 : Int32))] [(.int (Int32.ofNat o)), (.int (7 : Int32)), (.ref a20), (.int (1 : Int32))])
  refine go_st (fun _ kq => XS.iload X64.here hx rfl (hb hby at_289) rfl kq) ?_
  show Go p e below s _ _ _ T64 (mkF m 291 #[.val (.long x0), .second, .val (.int x1), .val (.int x2), .val (.int x3), .val (.long V), .second, .val (.int (Int32.ofNat o)), .val (.int x3.toInt8.toInt32), .val (.ref a20), .val (.int (Int32.ofNat (o + (k_37 + 1)))), .val (.int (Int32.ofNat (k_37 + 1))), .val (.int (1 : Int32))] [(.int (Int32.ofNat (k_37 + 1))), (.int (Int32.ofNat o)), (.int (7 : Int32)), (.ref a20), (.int (1 : Int32))])
  refine go_st (fun _ kq => XT.lload X64.here hx rfl (hb hby at_291) rfl kq) ?_
  show Go p e below s _ _ _ T64 (mkF m 293 #[.val (.long x0), .second, .val (.int x1), .val (.int x2), .val (.int x3), .val (.long V), .second, .val (.int (Int32.ofNat o)), .val (.int x3.toInt8.toInt32), .val (.ref a20), .val (.int (Int32.ofNat (o + (k_37 + 1)))), .val (.int (Int32.ofNat (k_37 + 1))), .val (.int (1 : Int32))] [(.long V), (.int (Int32.ofNat (k_37 + 1))), (.int (Int32.ofNat o)), (.int (7 : Int32)), (.ref a20), (.int (1 : Int32))])
  refine go_st (fun _ kq => XS.iload X64.here hx rfl (hb hby at_293) rfl kq) ?_
  show Go p e below s _ _ _ T64 (mkF m 295 #[.val (.long x0), .second, .val (.int x1), .val (.int x2), .val (.int x3), .val (.long V), .second, .val (.int (Int32.ofNat o)), .val (.int x3.toInt8.toInt32), .val (.ref a20), .val (.int (Int32.ofNat (o + (k_37 + 1)))), .val (.int (Int32.ofNat (k_37 + 1))), .val (.int (1 : Int32))] [(.int x3.toInt8.toInt32), (.long V), (.int (Int32.ofNat (k_37 + 1))), (.int (Int32.ofNat o)), (.int (7 : Int32)), (.ref a20), (.int (1 : Int32))])
  refine go_callS X64 hx hZ hml hown (hw _ (List.mem_of_getElem? (i := 10) rfl)) (hw _ (List.mem_of_getElem? (i := 11) rfl)) (hw _ (List.mem_of_getElem? (i := 8) rfl)) (hw _ (List.mem_of_getElem? (i := 12) rfl)) e64 (argsL := [(.ref a20), (.int (7 : Int32)), (.int (Int32.ofNat o)), (.int (Int32.ofNat (k_37 + 1))), (.long V), (.int x3.toInt8.toInt32)]) (rest := [(.int (1 : Int32))]) (W := 1) (met_3 l Z a0 hw a20 (7 : Int32) (Int32.ofNat o) (Int32.ofNat (k_37 + 1)) V x3.toInt8.toInt32 (fun j => .int (FE (fun _ => x3.toInt8.toInt32) o V k_37 j)) (FE (fun _ => x3.toInt8.toInt32) o V k_37 7) T37.heap n0 z58 f37_0 (by decide) rfl) (hb hby at_295) rfl rfl rfl (lenOf pd2 rfl) (by show 2 * 0 + _ ≤ _; exact Nat.le_of_eq rfl) (by decide) (by decide) (by decide) (by decide) (by decide) ?_
  intro T65 v65 L65 X65 q65
  obtain ⟨rfl, M65, e65⟩ := q65
  have N65 := Fr.app N64 M65
  have ra65 : (fAt (7 : Int32) (Int32.ofNat o) (Int32.ofNat (k_37 + 1)) V x3.toInt8.toInt32 (FE (fun _ => x3.toInt8.toInt32) o V k_37 7)) = 1 := own_at (j := 7) ho hk hall hsm (by decide)
  rw [ra65]
  show Go p e below s _ _ _ T65 (mkF m 298 #[.val (.long x0), .second, .val (.int x1), .val (.int x2), .val (.int x3), .val (.long V), .second, .val (.int (Int32.ofNat o)), .val (.int x3.toInt8.toInt32), .val (.ref a20), .val (.int (Int32.ofNat (o + (k_37 + 1)))), .val (.int (Int32.ofNat (k_37 + 1))), .val (.int (1 : Int32))] [(.int (1 : Int32)), (.int (1 : Int32))])
  refine go_st (fun _ kq => XS.iand X65.here hx rfl (hb hby at_298) rfl kq) ?_
  rw [show ((1 : Int32) &&& (1 : Int32)) = (1 : Int32) from by decide +kernel]
  show Go p e below s _ _ _ T65 (mkF m 299 #[.val (.long x0), .second, .val (.int x1), .val (.int x2), .val (.int x3), .val (.long V), .second, .val (.int (Int32.ofNat o)), .val (.int x3.toInt8.toInt32), .val (.ref a20), .val (.int (Int32.ofNat (o + (k_37 + 1)))), .val (.int (Int32.ofNat (k_37 + 1))), .val (.int (1 : Int32))] [(.int (1 : Int32))])
  refine go_st (fun _ kq => XS.istore X65.here hx rfl (hb hby at_299) rfl (l' := #[.val (.long x0), .second, .val (.int x1), .val (.int x2), .val (.int x3), .val (.long V), .second, .val (.int (Int32.ofNat o)), .val (.int x3.toInt8.toInt32), .val (.ref a20), .val (.int (Int32.ofNat (o + (k_37 + 1)))), .val (.int (Int32.ofNat (k_37 + 1))), .val (.int (1 : Int32))]) rfl kq) ?_
  show Go p e below s _ _ _ T65 (mkF m 301 #[.val (.long x0), .second, .val (.int x1), .val (.int x2), .val (.int x3), .val (.long V), .second, .val (.int (Int32.ofNat o)), .val (.int x3.toInt8.toInt32), .val (.ref a20), .val (.int (Int32.ofNat (o + (k_37 + 1)))), .val (.int (Int32.ofNat (k_37 + 1))), .val (.int (1 : Int32))] [])
  refine go_st (fun _ kq => XS.iload X65.here hx rfl (hb hby at_301) rfl kq) ?_
  show Go p e below s _ _ _ T65 (mkF m 303 #[.val (.long x0), .second, .val (.int x1), .val (.int x2), .val (.int x3), .val (.long V), .second, .val (.int (Int32.ofNat o)), .val (.int x3.toInt8.toInt32), .val (.ref a20), .val (.int (Int32.ofNat (o + (k_37 + 1)))), .val (.int (Int32.ofNat (k_37 + 1))), .val (.int (1 : Int32))] [(.int (1 : Int32))])
  refine go_st (fun _ kq => XS.aload X65.here hx rfl (hb hby at_303) rfl rfl kq) ?_
  show Go p e below s _ _ _ T65 (mkF m 305 #[.val (.long x0), .second, .val (.int x1), .val (.int x2), .val (.int x3), .val (.long V), .second, .val (.int (Int32.ofNat o)), .val (.int x3.toInt8.toInt32), .val (.ref a20), .val (.int (Int32.ofNat (o + (k_37 + 1)))), .val (.int (Int32.ofNat (k_37 + 1))), .val (.int (1 : Int32))] [(.ref a20), (.int (1 : Int32))])
  refine go_st (fun _ kq => XT.bipushV X65.here hx rfl (8 : Int32) (hb hby at_305) (by decide) kq) ?_
  show Go p e below s _ _ _ T65 (mkF m 307 #[.val (.long x0), .second, .val (.int x1), .val (.int x2), .val (.int x3), .val (.long V), .second, .val (.int (Int32.ofNat o)), .val (.int x3.toInt8.toInt32), .val (.ref a20), .val (.int (Int32.ofNat (o + (k_37 + 1)))), .val (.int (Int32.ofNat (k_37 + 1))), .val (.int (1 : Int32))] [(.int (8 : Int32)), (.ref a20), (.int (1 : Int32))])
  refine go_st (fun _ kq => XS.iload X65.here hx rfl (hb hby at_307) rfl kq) ?_
  show Go p e below s _ _ _ T65 (mkF m 309 #[.val (.long x0), .second, .val (.int x1), .val (.int x2), .val (.int x3), .val (.long V), .second, .val (.int (Int32.ofNat o)), .val (.int x3.toInt8.toInt32), .val (.ref a20), .val (.int (Int32.ofNat (o + (k_37 + 1)))), .val (.int (Int32.ofNat (k_37 + 1))), .val (.int (1 : Int32))] [(.int (Int32.ofNat o)), (.int (8 : Int32)), (.ref a20), (.int (1 : Int32))])
  refine go_st (fun _ kq => XS.iload X65.here hx rfl (hb hby at_309) rfl kq) ?_
  show Go p e below s _ _ _ T65 (mkF m 311 #[.val (.long x0), .second, .val (.int x1), .val (.int x2), .val (.int x3), .val (.long V), .second, .val (.int (Int32.ofNat o)), .val (.int x3.toInt8.toInt32), .val (.ref a20), .val (.int (Int32.ofNat (o + (k_37 + 1)))), .val (.int (Int32.ofNat (k_37 + 1))), .val (.int (1 : Int32))] [(.int (Int32.ofNat (k_37 + 1))), (.int (Int32.ofNat o)), (.int (8 : Int32)), (.ref a20), (.int (1 : Int32))])
  refine go_st (fun _ kq => XT.lload X65.here hx rfl (hb hby at_311) rfl kq) ?_
  show Go p e below s _ _ _ T65 (mkF m 313 #[.val (.long x0), .second, .val (.int x1), .val (.int x2), .val (.int x3), .val (.long V), .second, .val (.int (Int32.ofNat o)), .val (.int x3.toInt8.toInt32), .val (.ref a20), .val (.int (Int32.ofNat (o + (k_37 + 1)))), .val (.int (Int32.ofNat (k_37 + 1))), .val (.int (1 : Int32))] [(.long V), (.int (Int32.ofNat (k_37 + 1))), (.int (Int32.ofNat o)), (.int (8 : Int32)), (.ref a20), (.int (1 : Int32))])
  refine go_st (fun _ kq => XS.iload X65.here hx rfl (hb hby at_313) rfl kq) ?_
  show Go p e below s _ _ _ T65 (mkF m 315 #[.val (.long x0), .second, .val (.int x1), .val (.int x2), .val (.int x3), .val (.long V), .second, .val (.int (Int32.ofNat o)), .val (.int x3.toInt8.toInt32), .val (.ref a20), .val (.int (Int32.ofNat (o + (k_37 + 1)))), .val (.int (Int32.ofNat (k_37 + 1))), .val (.int (1 : Int32))] [(.int x3.toInt8.toInt32), (.long V), (.int (Int32.ofNat (k_37 + 1))), (.int (Int32.ofNat o)), (.int (8 : Int32)), (.ref a20), (.int (1 : Int32))])
  refine go_callS X65 hx hZ hml hown (hw _ (List.mem_of_getElem? (i := 10) rfl)) (hw _ (List.mem_of_getElem? (i := 11) rfl)) (hw _ (List.mem_of_getElem? (i := 8) rfl)) (hw _ (List.mem_of_getElem? (i := 12) rfl)) e65 (argsL := [(.ref a20), (.int (8 : Int32)), (.int (Int32.ofNat o)), (.int (Int32.ofNat (k_37 + 1))), (.long V), (.int x3.toInt8.toInt32)]) (rest := [(.int (1 : Int32))]) (W := 1) (met_3 l Z a0 hw a20 (8 : Int32) (Int32.ofNat o) (Int32.ofNat (k_37 + 1)) V x3.toInt8.toInt32 (fun j => .int (FE (fun _ => x3.toInt8.toInt32) o V k_37 j)) (FE (fun _ => x3.toInt8.toInt32) o V k_37 8) T37.heap n0 z58 f37_0 (by decide) rfl) (hb hby at_315) rfl rfl rfl (lenOf pd2 rfl) (by show 2 * 0 + _ ≤ _; exact Nat.le_of_eq rfl) (by decide) (by decide) (by decide) (by decide) (by decide) ?_
  intro T66 v66 L66 X66 q66
  obtain ⟨rfl, M66, e66⟩ := q66
  have N66 := Fr.app N65 M66
  have ra66 : (fAt (8 : Int32) (Int32.ofNat o) (Int32.ofNat (k_37 + 1)) V x3.toInt8.toInt32 (FE (fun _ => x3.toInt8.toInt32) o V k_37 8)) = 1 := own_at (j := 8) ho hk hall hsm (by decide)
  rw [ra66]
  show Go p e below s _ _ _ T66 (mkF m 318 #[.val (.long x0), .second, .val (.int x1), .val (.int x2), .val (.int x3), .val (.long V), .second, .val (.int (Int32.ofNat o)), .val (.int x3.toInt8.toInt32), .val (.ref a20), .val (.int (Int32.ofNat (o + (k_37 + 1)))), .val (.int (Int32.ofNat (k_37 + 1))), .val (.int (1 : Int32))] [(.int (1 : Int32)), (.int (1 : Int32))])
  refine go_st (fun _ kq => XS.iand X66.here hx rfl (hb hby at_318) rfl kq) ?_
  rw [show ((1 : Int32) &&& (1 : Int32)) = (1 : Int32) from by decide +kernel]
  show Go p e below s _ _ _ T66 (mkF m 319 #[.val (.long x0), .second, .val (.int x1), .val (.int x2), .val (.int x3), .val (.long V), .second, .val (.int (Int32.ofNat o)), .val (.int x3.toInt8.toInt32), .val (.ref a20), .val (.int (Int32.ofNat (o + (k_37 + 1)))), .val (.int (Int32.ofNat (k_37 + 1))), .val (.int (1 : Int32))] [(.int (1 : Int32))])
  refine go_st (fun _ kq => XS.istore X66.here hx rfl (hb hby at_319) rfl (l' := #[.val (.long x0), .second, .val (.int x1), .val (.int x2), .val (.int x3), .val (.long V), .second, .val (.int (Int32.ofNat o)), .val (.int x3.toInt8.toInt32), .val (.ref a20), .val (.int (Int32.ofNat (o + (k_37 + 1)))), .val (.int (Int32.ofNat (k_37 + 1))), .val (.int (1 : Int32))]) rfl kq) ?_
  show Go p e below s _ _ _ T66 (mkF m 321 #[.val (.long x0), .second, .val (.int x1), .val (.int x2), .val (.int x3), .val (.long V), .second, .val (.int (Int32.ofNat o)), .val (.int x3.toInt8.toInt32), .val (.ref a20), .val (.int (Int32.ofNat (o + (k_37 + 1)))), .val (.int (Int32.ofNat (k_37 + 1))), .val (.int (1 : Int32))] [])
  refine go_st (fun _ kq => XS.iload X66.here hx rfl (hb hby at_321) rfl kq) ?_
  show Go p e below s _ _ _ T66 (mkF m 323 #[.val (.long x0), .second, .val (.int x1), .val (.int x2), .val (.int x3), .val (.long V), .second, .val (.int (Int32.ofNat o)), .val (.int x3.toInt8.toInt32), .val (.ref a20), .val (.int (Int32.ofNat (o + (k_37 + 1)))), .val (.int (Int32.ofNat (k_37 + 1))), .val (.int (1 : Int32))] [(.int (1 : Int32))])
  refine go_st (fun _ kq => XS.aload X66.here hx rfl (hb hby at_323) rfl rfl kq) ?_
  show Go p e below s _ _ _ T66 (mkF m 325 #[.val (.long x0), .second, .val (.int x1), .val (.int x2), .val (.int x3), .val (.long V), .second, .val (.int (Int32.ofNat o)), .val (.int x3.toInt8.toInt32), .val (.ref a20), .val (.int (Int32.ofNat (o + (k_37 + 1)))), .val (.int (Int32.ofNat (k_37 + 1))), .val (.int (1 : Int32))] [(.ref a20), (.int (1 : Int32))])
  refine go_st (fun _ kq => XT.bipushV X66.here hx rfl (9 : Int32) (hb hby at_325) (by decide) kq) ?_
  show Go p e below s _ _ _ T66 (mkF m 327 #[.val (.long x0), .second, .val (.int x1), .val (.int x2), .val (.int x3), .val (.long V), .second, .val (.int (Int32.ofNat o)), .val (.int x3.toInt8.toInt32), .val (.ref a20), .val (.int (Int32.ofNat (o + (k_37 + 1)))), .val (.int (Int32.ofNat (k_37 + 1))), .val (.int (1 : Int32))] [(.int (9 : Int32)), (.ref a20), (.int (1 : Int32))])
  refine go_st (fun _ kq => XS.iload X66.here hx rfl (hb hby at_327) rfl kq) ?_
  show Go p e below s _ _ _ T66 (mkF m 329 #[.val (.long x0), .second, .val (.int x1), .val (.int x2), .val (.int x3), .val (.long V), .second, .val (.int (Int32.ofNat o)), .val (.int x3.toInt8.toInt32), .val (.ref a20), .val (.int (Int32.ofNat (o + (k_37 + 1)))), .val (.int (Int32.ofNat (k_37 + 1))), .val (.int (1 : Int32))] [(.int (Int32.ofNat o)), (.int (9 : Int32)), (.ref a20), (.int (1 : Int32))])
  refine go_st (fun _ kq => XS.iload X66.here hx rfl (hb hby at_329) rfl kq) ?_
  show Go p e below s _ _ _ T66 (mkF m 331 #[.val (.long x0), .second, .val (.int x1), .val (.int x2), .val (.int x3), .val (.long V), .second, .val (.int (Int32.ofNat o)), .val (.int x3.toInt8.toInt32), .val (.ref a20), .val (.int (Int32.ofNat (o + (k_37 + 1)))), .val (.int (Int32.ofNat (k_37 + 1))), .val (.int (1 : Int32))] [(.int (Int32.ofNat (k_37 + 1))), (.int (Int32.ofNat o)), (.int (9 : Int32)), (.ref a20), (.int (1 : Int32))])
  refine go_st (fun _ kq => XT.lload X66.here hx rfl (hb hby at_331) rfl kq) ?_
  show Go p e below s _ _ _ T66 (mkF m 333 #[.val (.long x0), .second, .val (.int x1), .val (.int x2), .val (.int x3), .val (.long V), .second, .val (.int (Int32.ofNat o)), .val (.int x3.toInt8.toInt32), .val (.ref a20), .val (.int (Int32.ofNat (o + (k_37 + 1)))), .val (.int (Int32.ofNat (k_37 + 1))), .val (.int (1 : Int32))] [(.long V), (.int (Int32.ofNat (k_37 + 1))), (.int (Int32.ofNat o)), (.int (9 : Int32)), (.ref a20), (.int (1 : Int32))])
  refine go_st (fun _ kq => XS.iload X66.here hx rfl (hb hby at_333) rfl kq) ?_
  show Go p e below s _ _ _ T66 (mkF m 335 #[.val (.long x0), .second, .val (.int x1), .val (.int x2), .val (.int x3), .val (.long V), .second, .val (.int (Int32.ofNat o)), .val (.int x3.toInt8.toInt32), .val (.ref a20), .val (.int (Int32.ofNat (o + (k_37 + 1)))), .val (.int (Int32.ofNat (k_37 + 1))), .val (.int (1 : Int32))] [(.int x3.toInt8.toInt32), (.long V), (.int (Int32.ofNat (k_37 + 1))), (.int (Int32.ofNat o)), (.int (9 : Int32)), (.ref a20), (.int (1 : Int32))])
  refine go_callS X66 hx hZ hml hown (hw _ (List.mem_of_getElem? (i := 10) rfl)) (hw _ (List.mem_of_getElem? (i := 11) rfl)) (hw _ (List.mem_of_getElem? (i := 8) rfl)) (hw _ (List.mem_of_getElem? (i := 12) rfl)) e66 (argsL := [(.ref a20), (.int (9 : Int32)), (.int (Int32.ofNat o)), (.int (Int32.ofNat (k_37 + 1))), (.long V), (.int x3.toInt8.toInt32)]) (rest := [(.int (1 : Int32))]) (W := 1) (met_3 l Z a0 hw a20 (9 : Int32) (Int32.ofNat o) (Int32.ofNat (k_37 + 1)) V x3.toInt8.toInt32 (fun j => .int (FE (fun _ => x3.toInt8.toInt32) o V k_37 j)) (FE (fun _ => x3.toInt8.toInt32) o V k_37 9) T37.heap n0 z58 f37_0 (by decide) rfl) (hb hby at_335) rfl rfl rfl (lenOf pd2 rfl) (by show 2 * 0 + _ ≤ _; exact Nat.le_of_eq rfl) (by decide) (by decide) (by decide) (by decide) (by decide) ?_
  intro T67 v67 L67 X67 q67
  obtain ⟨rfl, M67, e67⟩ := q67
  have N67 := Fr.app N66 M67
  have ra67 : (fAt (9 : Int32) (Int32.ofNat o) (Int32.ofNat (k_37 + 1)) V x3.toInt8.toInt32 (FE (fun _ => x3.toInt8.toInt32) o V k_37 9)) = 1 := own_at (j := 9) ho hk hall hsm (by decide)
  rw [ra67]
  show Go p e below s _ _ _ T67 (mkF m 338 #[.val (.long x0), .second, .val (.int x1), .val (.int x2), .val (.int x3), .val (.long V), .second, .val (.int (Int32.ofNat o)), .val (.int x3.toInt8.toInt32), .val (.ref a20), .val (.int (Int32.ofNat (o + (k_37 + 1)))), .val (.int (Int32.ofNat (k_37 + 1))), .val (.int (1 : Int32))] [(.int (1 : Int32)), (.int (1 : Int32))])
  refine go_st (fun _ kq => XS.iand X67.here hx rfl (hb hby at_338) rfl kq) ?_
  rw [show ((1 : Int32) &&& (1 : Int32)) = (1 : Int32) from by decide +kernel]
  show Go p e below s _ _ _ T67 (mkF m 339 #[.val (.long x0), .second, .val (.int x1), .val (.int x2), .val (.int x3), .val (.long V), .second, .val (.int (Int32.ofNat o)), .val (.int x3.toInt8.toInt32), .val (.ref a20), .val (.int (Int32.ofNat (o + (k_37 + 1)))), .val (.int (Int32.ofNat (k_37 + 1))), .val (.int (1 : Int32))] [(.int (1 : Int32))])
  refine go_st (fun _ kq => XS.istore X67.here hx rfl (hb hby at_339) rfl (l' := #[.val (.long x0), .second, .val (.int x1), .val (.int x2), .val (.int x3), .val (.long V), .second, .val (.int (Int32.ofNat o)), .val (.int x3.toInt8.toInt32), .val (.ref a20), .val (.int (Int32.ofNat (o + (k_37 + 1)))), .val (.int (Int32.ofNat (k_37 + 1))), .val (.int (1 : Int32))]) rfl kq) ?_
  show Go p e below s _ _ _ T67 (mkF m 341 #[.val (.long x0), .second, .val (.int x1), .val (.int x2), .val (.int x3), .val (.long V), .second, .val (.int (Int32.ofNat o)), .val (.int x3.toInt8.toInt32), .val (.ref a20), .val (.int (Int32.ofNat (o + (k_37 + 1)))), .val (.int (Int32.ofNat (k_37 + 1))), .val (.int (1 : Int32))] [])
  refine go_st (fun _ kq => XS.iload X67.here hx rfl (hb hby at_341) rfl kq) ?_
  show Go p e below s _ _ _ T67 (mkF m 343 #[.val (.long x0), .second, .val (.int x1), .val (.int x2), .val (.int x3), .val (.long V), .second, .val (.int (Int32.ofNat o)), .val (.int x3.toInt8.toInt32), .val (.ref a20), .val (.int (Int32.ofNat (o + (k_37 + 1)))), .val (.int (Int32.ofNat (k_37 + 1))), .val (.int (1 : Int32))] [(.int (1 : Int32))])
  refine go_st (fun _ kq => XS.aload X67.here hx rfl (hb hby at_343) rfl rfl kq) ?_
  show Go p e below s _ _ _ T67 (mkF m 345 #[.val (.long x0), .second, .val (.int x1), .val (.int x2), .val (.int x3), .val (.long V), .second, .val (.int (Int32.ofNat o)), .val (.int x3.toInt8.toInt32), .val (.ref a20), .val (.int (Int32.ofNat (o + (k_37 + 1)))), .val (.int (Int32.ofNat (k_37 + 1))), .val (.int (1 : Int32))] [(.ref a20), (.int (1 : Int32))])
  refine go_st (fun _ kq => XT.bipushV X67.here hx rfl (10 : Int32) (hb hby at_345) (by decide) kq) ?_
  show Go p e below s _ _ _ T67 (mkF m 347 #[.val (.long x0), .second, .val (.int x1), .val (.int x2), .val (.int x3), .val (.long V), .second, .val (.int (Int32.ofNat o)), .val (.int x3.toInt8.toInt32), .val (.ref a20), .val (.int (Int32.ofNat (o + (k_37 + 1)))), .val (.int (Int32.ofNat (k_37 + 1))), .val (.int (1 : Int32))] [(.int (10 : Int32)), (.ref a20), (.int (1 : Int32))])
  refine go_st (fun _ kq => XS.iload X67.here hx rfl (hb hby at_347) rfl kq) ?_
  show Go p e below s _ _ _ T67 (mkF m 349 #[.val (.long x0), .second, .val (.int x1), .val (.int x2), .val (.int x3), .val (.long V), .second, .val (.int (Int32.ofNat o)), .val (.int x3.toInt8.toInt32), .val (.ref a20), .val (.int (Int32.ofNat (o + (k_37 + 1)))), .val (.int (Int32.ofNat (k_37 + 1))), .val (.int (1 : Int32))] [(.int (Int32.ofNat o)), (.int (10 : Int32)), (.ref a20), (.int (1 : Int32))])
  refine go_st (fun _ kq => XS.iload X67.here hx rfl (hb hby at_349) rfl kq) ?_
  show Go p e below s _ _ _ T67 (mkF m 351 #[.val (.long x0), .second, .val (.int x1), .val (.int x2), .val (.int x3), .val (.long V), .second, .val (.int (Int32.ofNat o)), .val (.int x3.toInt8.toInt32), .val (.ref a20), .val (.int (Int32.ofNat (o + (k_37 + 1)))), .val (.int (Int32.ofNat (k_37 + 1))), .val (.int (1 : Int32))] [(.int (Int32.ofNat (k_37 + 1))), (.int (Int32.ofNat o)), (.int (10 : Int32)), (.ref a20), (.int (1 : Int32))])
  refine go_st (fun _ kq => XT.lload X67.here hx rfl (hb hby at_351) rfl kq) ?_
  show Go p e below s _ _ _ T67 (mkF m 353 #[.val (.long x0), .second, .val (.int x1), .val (.int x2), .val (.int x3), .val (.long V), .second, .val (.int (Int32.ofNat o)), .val (.int x3.toInt8.toInt32), .val (.ref a20), .val (.int (Int32.ofNat (o + (k_37 + 1)))), .val (.int (Int32.ofNat (k_37 + 1))), .val (.int (1 : Int32))] [(.long V), (.int (Int32.ofNat (k_37 + 1))), (.int (Int32.ofNat o)), (.int (10 : Int32)), (.ref a20), (.int (1 : Int32))])
  refine go_st (fun _ kq => XS.iload X67.here hx rfl (hb hby at_353) rfl kq) ?_
  show Go p e below s _ _ _ T67 (mkF m 355 #[.val (.long x0), .second, .val (.int x1), .val (.int x2), .val (.int x3), .val (.long V), .second, .val (.int (Int32.ofNat o)), .val (.int x3.toInt8.toInt32), .val (.ref a20), .val (.int (Int32.ofNat (o + (k_37 + 1)))), .val (.int (Int32.ofNat (k_37 + 1))), .val (.int (1 : Int32))] [(.int x3.toInt8.toInt32), (.long V), (.int (Int32.ofNat (k_37 + 1))), (.int (Int32.ofNat o)), (.int (10 : Int32)), (.ref a20), (.int (1 : Int32))])
  refine go_callS X67 hx hZ hml hown (hw _ (List.mem_of_getElem? (i := 10) rfl)) (hw _ (List.mem_of_getElem? (i := 11) rfl)) (hw _ (List.mem_of_getElem? (i := 8) rfl)) (hw _ (List.mem_of_getElem? (i := 12) rfl)) e67 (argsL := [(.ref a20), (.int (10 : Int32)), (.int (Int32.ofNat o)), (.int (Int32.ofNat (k_37 + 1))), (.long V), (.int x3.toInt8.toInt32)]) (rest := [(.int (1 : Int32))]) (W := 1) (met_3 l Z a0 hw a20 (10 : Int32) (Int32.ofNat o) (Int32.ofNat (k_37 + 1)) V x3.toInt8.toInt32 (fun j => .int (FE (fun _ => x3.toInt8.toInt32) o V k_37 j)) (FE (fun _ => x3.toInt8.toInt32) o V k_37 10) T37.heap n0 z58 f37_0 (by decide) rfl) (hb hby at_355) rfl rfl rfl (lenOf pd2 rfl) (by show 2 * 0 + _ ≤ _; exact Nat.le_of_eq rfl) (by decide) (by decide) (by decide) (by decide) (by decide) ?_
  intro T68 v68 L68 X68 q68
  obtain ⟨rfl, M68, e68⟩ := q68
  have N68 := Fr.app N67 M68
  have ra68 : (fAt (10 : Int32) (Int32.ofNat o) (Int32.ofNat (k_37 + 1)) V x3.toInt8.toInt32 (FE (fun _ => x3.toInt8.toInt32) o V k_37 10)) = 1 := own_at (j := 10) ho hk hall hsm (by decide)
  rw [ra68]
  show Go p e below s _ _ _ T68 (mkF m 358 #[.val (.long x0), .second, .val (.int x1), .val (.int x2), .val (.int x3), .val (.long V), .second, .val (.int (Int32.ofNat o)), .val (.int x3.toInt8.toInt32), .val (.ref a20), .val (.int (Int32.ofNat (o + (k_37 + 1)))), .val (.int (Int32.ofNat (k_37 + 1))), .val (.int (1 : Int32))] [(.int (1 : Int32)), (.int (1 : Int32))])
  refine go_st (fun _ kq => XS.iand X68.here hx rfl (hb hby at_358) rfl kq) ?_
  rw [show ((1 : Int32) &&& (1 : Int32)) = (1 : Int32) from by decide +kernel]
  show Go p e below s _ _ _ T68 (mkF m 359 #[.val (.long x0), .second, .val (.int x1), .val (.int x2), .val (.int x3), .val (.long V), .second, .val (.int (Int32.ofNat o)), .val (.int x3.toInt8.toInt32), .val (.ref a20), .val (.int (Int32.ofNat (o + (k_37 + 1)))), .val (.int (Int32.ofNat (k_37 + 1))), .val (.int (1 : Int32))] [(.int (1 : Int32))])
  refine go_st (fun _ kq => XS.istore X68.here hx rfl (hb hby at_359) rfl (l' := #[.val (.long x0), .second, .val (.int x1), .val (.int x2), .val (.int x3), .val (.long V), .second, .val (.int (Int32.ofNat o)), .val (.int x3.toInt8.toInt32), .val (.ref a20), .val (.int (Int32.ofNat (o + (k_37 + 1)))), .val (.int (Int32.ofNat (k_37 + 1))), .val (.int (1 : Int32))]) rfl kq) ?_
  show Go p e below s _ _ _ T68 (mkF m 361 #[.val (.long x0), .second, .val (.int x1), .val (.int x2), .val (.int x3), .val (.long V), .second, .val (.int (Int32.ofNat o)), .val (.int x3.toInt8.toInt32), .val (.ref a20), .val (.int (Int32.ofNat (o + (k_37 + 1)))), .val (.int (Int32.ofNat (k_37 + 1))), .val (.int (1 : Int32))] [])
  refine go_st (fun _ kq => XS.iload X68.here hx rfl (hb hby at_361) rfl kq) ?_
  show Go p e below s _ _ _ T68 (mkF m 363 #[.val (.long x0), .second, .val (.int x1), .val (.int x2), .val (.int x3), .val (.long V), .second, .val (.int (Int32.ofNat o)), .val (.int x3.toInt8.toInt32), .val (.ref a20), .val (.int (Int32.ofNat (o + (k_37 + 1)))), .val (.int (Int32.ofNat (k_37 + 1))), .val (.int (1 : Int32))] [(.int (1 : Int32))])
  refine go_st (fun _ kq => XS.aload X68.here hx rfl (hb hby at_363) rfl rfl kq) ?_
  show Go p e below s _ _ _ T68 (mkF m 365 #[.val (.long x0), .second, .val (.int x1), .val (.int x2), .val (.int x3), .val (.long V), .second, .val (.int (Int32.ofNat o)), .val (.int x3.toInt8.toInt32), .val (.ref a20), .val (.int (Int32.ofNat (o + (k_37 + 1)))), .val (.int (Int32.ofNat (k_37 + 1))), .val (.int (1 : Int32))] [(.ref a20), (.int (1 : Int32))])
  refine go_st (fun _ kq => XT.bipushV X68.here hx rfl (11 : Int32) (hb hby at_365) (by decide) kq) ?_
  show Go p e below s _ _ _ T68 (mkF m 367 #[.val (.long x0), .second, .val (.int x1), .val (.int x2), .val (.int x3), .val (.long V), .second, .val (.int (Int32.ofNat o)), .val (.int x3.toInt8.toInt32), .val (.ref a20), .val (.int (Int32.ofNat (o + (k_37 + 1)))), .val (.int (Int32.ofNat (k_37 + 1))), .val (.int (1 : Int32))] [(.int (11 : Int32)), (.ref a20), (.int (1 : Int32))])
  refine go_st (fun _ kq => XS.iload X68.here hx rfl (hb hby at_367) rfl kq) ?_
  show Go p e below s _ _ _ T68 (mkF m 369 #[.val (.long x0), .second, .val (.int x1), .val (.int x2), .val (.int x3), .val (.long V), .second, .val (.int (Int32.ofNat o)), .val (.int x3.toInt8.toInt32), .val (.ref a20), .val (.int (Int32.ofNat (o + (k_37 + 1)))), .val (.int (Int32.ofNat (k_37 + 1))), .val (.int (1 : Int32))] [(.int (Int32.ofNat o)), (.int (11 : Int32)), (.ref a20), (.int (1 : Int32))])
  refine go_st (fun _ kq => XS.iload X68.here hx rfl (hb hby at_369) rfl kq) ?_
  show Go p e below s _ _ _ T68 (mkF m 371 #[.val (.long x0), .second, .val (.int x1), .val (.int x2), .val (.int x3), .val (.long V), .second, .val (.int (Int32.ofNat o)), .val (.int x3.toInt8.toInt32), .val (.ref a20), .val (.int (Int32.ofNat (o + (k_37 + 1)))), .val (.int (Int32.ofNat (k_37 + 1))), .val (.int (1 : Int32))] [(.int (Int32.ofNat (k_37 + 1))), (.int (Int32.ofNat o)), (.int (11 : Int32)), (.ref a20), (.int (1 : Int32))])
  refine go_st (fun _ kq => XT.lload X68.here hx rfl (hb hby at_371) rfl kq) ?_
  show Go p e below s _ _ _ T68 (mkF m 373 #[.val (.long x0), .second, .val (.int x1), .val (.int x2), .val (.int x3), .val (.long V), .second, .val (.int (Int32.ofNat o)), .val (.int x3.toInt8.toInt32), .val (.ref a20), .val (.int (Int32.ofNat (o + (k_37 + 1)))), .val (.int (Int32.ofNat (k_37 + 1))), .val (.int (1 : Int32))] [(.long V), (.int (Int32.ofNat (k_37 + 1))), (.int (Int32.ofNat o)), (.int (11 : Int32)), (.ref a20), (.int (1 : Int32))])
  refine go_st (fun _ kq => XS.iload X68.here hx rfl (hb hby at_373) rfl kq) ?_
  show Go p e below s _ _ _ T68 (mkF m 375 #[.val (.long x0), .second, .val (.int x1), .val (.int x2), .val (.int x3), .val (.long V), .second, .val (.int (Int32.ofNat o)), .val (.int x3.toInt8.toInt32), .val (.ref a20), .val (.int (Int32.ofNat (o + (k_37 + 1)))), .val (.int (Int32.ofNat (k_37 + 1))), .val (.int (1 : Int32))] [(.int x3.toInt8.toInt32), (.long V), (.int (Int32.ofNat (k_37 + 1))), (.int (Int32.ofNat o)), (.int (11 : Int32)), (.ref a20), (.int (1 : Int32))])
  refine go_callS X68 hx hZ hml hown (hw _ (List.mem_of_getElem? (i := 10) rfl)) (hw _ (List.mem_of_getElem? (i := 11) rfl)) (hw _ (List.mem_of_getElem? (i := 8) rfl)) (hw _ (List.mem_of_getElem? (i := 12) rfl)) e68 (argsL := [(.ref a20), (.int (11 : Int32)), (.int (Int32.ofNat o)), (.int (Int32.ofNat (k_37 + 1))), (.long V), (.int x3.toInt8.toInt32)]) (rest := [(.int (1 : Int32))]) (W := 1) (met_3 l Z a0 hw a20 (11 : Int32) (Int32.ofNat o) (Int32.ofNat (k_37 + 1)) V x3.toInt8.toInt32 (fun j => .int (FE (fun _ => x3.toInt8.toInt32) o V k_37 j)) (FE (fun _ => x3.toInt8.toInt32) o V k_37 11) T37.heap n0 z58 f37_0 (by decide) rfl) (hb hby at_375) rfl rfl rfl (lenOf pd2 rfl) (by show 2 * 0 + _ ≤ _; exact Nat.le_of_eq rfl) (by decide) (by decide) (by decide) (by decide) (by decide) ?_
  intro T69 v69 L69 X69 q69
  obtain ⟨rfl, M69, e69⟩ := q69
  have N69 := Fr.app N68 M69
  have ra69 : (fAt (11 : Int32) (Int32.ofNat o) (Int32.ofNat (k_37 + 1)) V x3.toInt8.toInt32 (FE (fun _ => x3.toInt8.toInt32) o V k_37 11)) = 1 := own_at (j := 11) ho hk hall hsm (by decide)
  rw [ra69]
  show Go p e below s _ _ _ T69 (mkF m 378 #[.val (.long x0), .second, .val (.int x1), .val (.int x2), .val (.int x3), .val (.long V), .second, .val (.int (Int32.ofNat o)), .val (.int x3.toInt8.toInt32), .val (.ref a20), .val (.int (Int32.ofNat (o + (k_37 + 1)))), .val (.int (Int32.ofNat (k_37 + 1))), .val (.int (1 : Int32))] [(.int (1 : Int32)), (.int (1 : Int32))])
  refine go_st (fun _ kq => XS.iand X69.here hx rfl (hb hby at_378) rfl kq) ?_
  rw [show ((1 : Int32) &&& (1 : Int32)) = (1 : Int32) from by decide +kernel]
  show Go p e below s _ _ _ T69 (mkF m 379 #[.val (.long x0), .second, .val (.int x1), .val (.int x2), .val (.int x3), .val (.long V), .second, .val (.int (Int32.ofNat o)), .val (.int x3.toInt8.toInt32), .val (.ref a20), .val (.int (Int32.ofNat (o + (k_37 + 1)))), .val (.int (Int32.ofNat (k_37 + 1))), .val (.int (1 : Int32))] [(.int (1 : Int32))])
  refine go_st (fun _ kq => XS.istore X69.here hx rfl (hb hby at_379) rfl (l' := #[.val (.long x0), .second, .val (.int x1), .val (.int x2), .val (.int x3), .val (.long V), .second, .val (.int (Int32.ofNat o)), .val (.int x3.toInt8.toInt32), .val (.ref a20), .val (.int (Int32.ofNat (o + (k_37 + 1)))), .val (.int (Int32.ofNat (k_37 + 1))), .val (.int (1 : Int32))]) rfl kq) ?_
  show Go p e below s _ _ _ T69 (mkF m 381 #[.val (.long x0), .second, .val (.int x1), .val (.int x2), .val (.int x3), .val (.long V), .second, .val (.int (Int32.ofNat o)), .val (.int x3.toInt8.toInt32), .val (.ref a20), .val (.int (Int32.ofNat (o + (k_37 + 1)))), .val (.int (Int32.ofNat (k_37 + 1))), .val (.int (1 : Int32))] [])
  refine go_st (fun _ kq => XS.iload X69.here hx rfl (hb hby at_381) rfl kq) ?_
  show Go p e below s _ _ _ T69 (mkF m 383 #[.val (.long x0), .second, .val (.int x1), .val (.int x2), .val (.int x3), .val (.long V), .second, .val (.int (Int32.ofNat o)), .val (.int x3.toInt8.toInt32), .val (.ref a20), .val (.int (Int32.ofNat (o + (k_37 + 1)))), .val (.int (Int32.ofNat (k_37 + 1))), .val (.int (1 : Int32))] [(.int (1 : Int32))])
  refine go_st (fun _ kq => XS.aload X69.here hx rfl (hb hby at_383) rfl rfl kq) ?_
  show Go p e below s _ _ _ T69 (mkF m 385 #[.val (.long x0), .second, .val (.int x1), .val (.int x2), .val (.int x3), .val (.long V), .second, .val (.int (Int32.ofNat o)), .val (.int x3.toInt8.toInt32), .val (.ref a20), .val (.int (Int32.ofNat (o + (k_37 + 1)))), .val (.int (Int32.ofNat (k_37 + 1))), .val (.int (1 : Int32))] [(.ref a20), (.int (1 : Int32))])
  refine go_st (fun _ kq => XT.bipushV X69.here hx rfl (12 : Int32) (hb hby at_385) (by decide) kq) ?_
  show Go p e below s _ _ _ T69 (mkF m 387 #[.val (.long x0), .second, .val (.int x1), .val (.int x2), .val (.int x3), .val (.long V), .second, .val (.int (Int32.ofNat o)), .val (.int x3.toInt8.toInt32), .val (.ref a20), .val (.int (Int32.ofNat (o + (k_37 + 1)))), .val (.int (Int32.ofNat (k_37 + 1))), .val (.int (1 : Int32))] [(.int (12 : Int32)), (.ref a20), (.int (1 : Int32))])
  refine go_st (fun _ kq => XS.iload X69.here hx rfl (hb hby at_387) rfl kq) ?_
  show Go p e below s _ _ _ T69 (mkF m 389 #[.val (.long x0), .second, .val (.int x1), .val (.int x2), .val (.int x3), .val (.long V), .second, .val (.int (Int32.ofNat o)), .val (.int x3.toInt8.toInt32), .val (.ref a20), .val (.int (Int32.ofNat (o + (k_37 + 1)))), .val (.int (Int32.ofNat (k_37 + 1))), .val (.int (1 : Int32))] [(.int (Int32.ofNat o)), (.int (12 : Int32)), (.ref a20), (.int (1 : Int32))])
  refine go_st (fun _ kq => XS.iload X69.here hx rfl (hb hby at_389) rfl kq) ?_
  show Go p e below s _ _ _ T69 (mkF m 391 #[.val (.long x0), .second, .val (.int x1), .val (.int x2), .val (.int x3), .val (.long V), .second, .val (.int (Int32.ofNat o)), .val (.int x3.toInt8.toInt32), .val (.ref a20), .val (.int (Int32.ofNat (o + (k_37 + 1)))), .val (.int (Int32.ofNat (k_37 + 1))), .val (.int (1 : Int32))] [(.int (Int32.ofNat (k_37 + 1))), (.int (Int32.ofNat o)), (.int (12 : Int32)), (.ref a20), (.int (1 : Int32))])
  refine go_st (fun _ kq => XT.lload X69.here hx rfl (hb hby at_391) rfl kq) ?_
  show Go p e below s _ _ _ T69 (mkF m 393 #[.val (.long x0), .second, .val (.int x1), .val (.int x2), .val (.int x3), .val (.long V), .second, .val (.int (Int32.ofNat o)), .val (.int x3.toInt8.toInt32), .val (.ref a20), .val (.int (Int32.ofNat (o + (k_37 + 1)))), .val (.int (Int32.ofNat (k_37 + 1))), .val (.int (1 : Int32))] [(.long V), (.int (Int32.ofNat (k_37 + 1))), (.int (Int32.ofNat o)), (.int (12 : Int32)), (.ref a20), (.int (1 : Int32))])
  refine go_st (fun _ kq => XS.iload X69.here hx rfl (hb hby at_393) rfl kq) ?_
  show Go p e below s _ _ _ T69 (mkF m 395 #[.val (.long x0), .second, .val (.int x1), .val (.int x2), .val (.int x3), .val (.long V), .second, .val (.int (Int32.ofNat o)), .val (.int x3.toInt8.toInt32), .val (.ref a20), .val (.int (Int32.ofNat (o + (k_37 + 1)))), .val (.int (Int32.ofNat (k_37 + 1))), .val (.int (1 : Int32))] [(.int x3.toInt8.toInt32), (.long V), (.int (Int32.ofNat (k_37 + 1))), (.int (Int32.ofNat o)), (.int (12 : Int32)), (.ref a20), (.int (1 : Int32))])
  refine go_callS X69 hx hZ hml hown (hw _ (List.mem_of_getElem? (i := 10) rfl)) (hw _ (List.mem_of_getElem? (i := 11) rfl)) (hw _ (List.mem_of_getElem? (i := 8) rfl)) (hw _ (List.mem_of_getElem? (i := 12) rfl)) e69 (argsL := [(.ref a20), (.int (12 : Int32)), (.int (Int32.ofNat o)), (.int (Int32.ofNat (k_37 + 1))), (.long V), (.int x3.toInt8.toInt32)]) (rest := [(.int (1 : Int32))]) (W := 1) (met_3 l Z a0 hw a20 (12 : Int32) (Int32.ofNat o) (Int32.ofNat (k_37 + 1)) V x3.toInt8.toInt32 (fun j => .int (FE (fun _ => x3.toInt8.toInt32) o V k_37 j)) (FE (fun _ => x3.toInt8.toInt32) o V k_37 12) T37.heap n0 z58 f37_0 (by decide) rfl) (hb hby at_395) rfl rfl rfl (lenOf pd2 rfl) (by show 2 * 0 + _ ≤ _; exact Nat.le_of_eq rfl) (by decide) (by decide) (by decide) (by decide) (by decide) ?_
  intro T70 v70 L70 X70 q70
  obtain ⟨rfl, M70, e70⟩ := q70
  have N70 := Fr.app N69 M70
  have ra70 : (fAt (12 : Int32) (Int32.ofNat o) (Int32.ofNat (k_37 + 1)) V x3.toInt8.toInt32 (FE (fun _ => x3.toInt8.toInt32) o V k_37 12)) = 1 := own_at (j := 12) ho hk hall hsm (by decide)
  rw [ra70]
  show Go p e below s _ _ _ T70 (mkF m 398 #[.val (.long x0), .second, .val (.int x1), .val (.int x2), .val (.int x3), .val (.long V), .second, .val (.int (Int32.ofNat o)), .val (.int x3.toInt8.toInt32), .val (.ref a20), .val (.int (Int32.ofNat (o + (k_37 + 1)))), .val (.int (Int32.ofNat (k_37 + 1))), .val (.int (1 : Int32))] [(.int (1 : Int32)), (.int (1 : Int32))])
  refine go_st (fun _ kq => XS.iand X70.here hx rfl (hb hby at_398) rfl kq) ?_
  rw [show ((1 : Int32) &&& (1 : Int32)) = (1 : Int32) from by decide +kernel]
  show Go p e below s _ _ _ T70 (mkF m 399 #[.val (.long x0), .second, .val (.int x1), .val (.int x2), .val (.int x3), .val (.long V), .second, .val (.int (Int32.ofNat o)), .val (.int x3.toInt8.toInt32), .val (.ref a20), .val (.int (Int32.ofNat (o + (k_37 + 1)))), .val (.int (Int32.ofNat (k_37 + 1))), .val (.int (1 : Int32))] [(.int (1 : Int32))])
  refine go_st (fun _ kq => XS.istore X70.here hx rfl (hb hby at_399) rfl (l' := #[.val (.long x0), .second, .val (.int x1), .val (.int x2), .val (.int x3), .val (.long V), .second, .val (.int (Int32.ofNat o)), .val (.int x3.toInt8.toInt32), .val (.ref a20), .val (.int (Int32.ofNat (o + (k_37 + 1)))), .val (.int (Int32.ofNat (k_37 + 1))), .val (.int (1 : Int32))]) rfl kq) ?_
  show Go p e below s _ _ _ T70 (mkF m 401 #[.val (.long x0), .second, .val (.int x1), .val (.int x2), .val (.int x3), .val (.long V), .second, .val (.int (Int32.ofNat o)), .val (.int x3.toInt8.toInt32), .val (.ref a20), .val (.int (Int32.ofNat (o + (k_37 + 1)))), .val (.int (Int32.ofNat (k_37 + 1))), .val (.int (1 : Int32))] [])
  refine go_st (fun _ kq => XS.iload X70.here hx rfl (hb hby at_401) rfl kq) ?_
  show Go p e below s _ _ _ T70 (mkF m 403 #[.val (.long x0), .second, .val (.int x1), .val (.int x2), .val (.int x3), .val (.long V), .second, .val (.int (Int32.ofNat o)), .val (.int x3.toInt8.toInt32), .val (.ref a20), .val (.int (Int32.ofNat (o + (k_37 + 1)))), .val (.int (Int32.ofNat (k_37 + 1))), .val (.int (1 : Int32))] [(.int (1 : Int32))])
  refine go_st (fun _ kq => XS.aload X70.here hx rfl (hb hby at_403) rfl rfl kq) ?_
  show Go p e below s _ _ _ T70 (mkF m 405 #[.val (.long x0), .second, .val (.int x1), .val (.int x2), .val (.int x3), .val (.long V), .second, .val (.int (Int32.ofNat o)), .val (.int x3.toInt8.toInt32), .val (.ref a20), .val (.int (Int32.ofNat (o + (k_37 + 1)))), .val (.int (Int32.ofNat (k_37 + 1))), .val (.int (1 : Int32))] [(.ref a20), (.int (1 : Int32))])
  refine go_st (fun _ kq => XT.bipushV X70.here hx rfl (13 : Int32) (hb hby at_405) (by decide) kq) ?_
  show Go p e below s _ _ _ T70 (mkF m 407 #[.val (.long x0), .second, .val (.int x1), .val (.int x2), .val (.int x3), .val (.long V), .second, .val (.int (Int32.ofNat o)), .val (.int x3.toInt8.toInt32), .val (.ref a20), .val (.int (Int32.ofNat (o + (k_37 + 1)))), .val (.int (Int32.ofNat (k_37 + 1))), .val (.int (1 : Int32))] [(.int (13 : Int32)), (.ref a20), (.int (1 : Int32))])
  refine go_st (fun _ kq => XS.iload X70.here hx rfl (hb hby at_407) rfl kq) ?_
  show Go p e below s _ _ _ T70 (mkF m 409 #[.val (.long x0), .second, .val (.int x1), .val (.int x2), .val (.int x3), .val (.long V), .second, .val (.int (Int32.ofNat o)), .val (.int x3.toInt8.toInt32), .val (.ref a20), .val (.int (Int32.ofNat (o + (k_37 + 1)))), .val (.int (Int32.ofNat (k_37 + 1))), .val (.int (1 : Int32))] [(.int (Int32.ofNat o)), (.int (13 : Int32)), (.ref a20), (.int (1 : Int32))])
  refine go_st (fun _ kq => XS.iload X70.here hx rfl (hb hby at_409) rfl kq) ?_
  show Go p e below s _ _ _ T70 (mkF m 411 #[.val (.long x0), .second, .val (.int x1), .val (.int x2), .val (.int x3), .val (.long V), .second, .val (.int (Int32.ofNat o)), .val (.int x3.toInt8.toInt32), .val (.ref a20), .val (.int (Int32.ofNat (o + (k_37 + 1)))), .val (.int (Int32.ofNat (k_37 + 1))), .val (.int (1 : Int32))] [(.int (Int32.ofNat (k_37 + 1))), (.int (Int32.ofNat o)), (.int (13 : Int32)), (.ref a20), (.int (1 : Int32))])
  refine go_st (fun _ kq => XT.lload X70.here hx rfl (hb hby at_411) rfl kq) ?_
  show Go p e below s _ _ _ T70 (mkF m 413 #[.val (.long x0), .second, .val (.int x1), .val (.int x2), .val (.int x3), .val (.long V), .second, .val (.int (Int32.ofNat o)), .val (.int x3.toInt8.toInt32), .val (.ref a20), .val (.int (Int32.ofNat (o + (k_37 + 1)))), .val (.int (Int32.ofNat (k_37 + 1))), .val (.int (1 : Int32))] [(.long V), (.int (Int32.ofNat (k_37 + 1))), (.int (Int32.ofNat o)), (.int (13 : Int32)), (.ref a20), (.int (1 : Int32))])
  refine go_st (fun _ kq => XS.iload X70.here hx rfl (hb hby at_413) rfl kq) ?_
  show Go p e below s _ _ _ T70 (mkF m 415 #[.val (.long x0), .second, .val (.int x1), .val (.int x2), .val (.int x3), .val (.long V), .second, .val (.int (Int32.ofNat o)), .val (.int x3.toInt8.toInt32), .val (.ref a20), .val (.int (Int32.ofNat (o + (k_37 + 1)))), .val (.int (Int32.ofNat (k_37 + 1))), .val (.int (1 : Int32))] [(.int x3.toInt8.toInt32), (.long V), (.int (Int32.ofNat (k_37 + 1))), (.int (Int32.ofNat o)), (.int (13 : Int32)), (.ref a20), (.int (1 : Int32))])
  refine go_callS X70 hx hZ hml hown (hw _ (List.mem_of_getElem? (i := 10) rfl)) (hw _ (List.mem_of_getElem? (i := 11) rfl)) (hw _ (List.mem_of_getElem? (i := 8) rfl)) (hw _ (List.mem_of_getElem? (i := 12) rfl)) e70 (argsL := [(.ref a20), (.int (13 : Int32)), (.int (Int32.ofNat o)), (.int (Int32.ofNat (k_37 + 1))), (.long V), (.int x3.toInt8.toInt32)]) (rest := [(.int (1 : Int32))]) (W := 1) (met_3 l Z a0 hw a20 (13 : Int32) (Int32.ofNat o) (Int32.ofNat (k_37 + 1)) V x3.toInt8.toInt32 (fun j => .int (FE (fun _ => x3.toInt8.toInt32) o V k_37 j)) (FE (fun _ => x3.toInt8.toInt32) o V k_37 13) T37.heap n0 z58 f37_0 (by decide) rfl) (hb hby at_415) rfl rfl rfl (lenOf pd2 rfl) (by show 2 * 0 + _ ≤ _; exact Nat.le_of_eq rfl) (by decide) (by decide) (by decide) (by decide) (by decide) ?_
  intro T71 v71 L71 X71 q71
  obtain ⟨rfl, M71, e71⟩ := q71
  have N71 := Fr.app N70 M71
  have ra71 : (fAt (13 : Int32) (Int32.ofNat o) (Int32.ofNat (k_37 + 1)) V x3.toInt8.toInt32 (FE (fun _ => x3.toInt8.toInt32) o V k_37 13)) = 1 := own_at (j := 13) ho hk hall hsm (by decide)
  rw [ra71]
  show Go p e below s _ _ _ T71 (mkF m 418 #[.val (.long x0), .second, .val (.int x1), .val (.int x2), .val (.int x3), .val (.long V), .second, .val (.int (Int32.ofNat o)), .val (.int x3.toInt8.toInt32), .val (.ref a20), .val (.int (Int32.ofNat (o + (k_37 + 1)))), .val (.int (Int32.ofNat (k_37 + 1))), .val (.int (1 : Int32))] [(.int (1 : Int32)), (.int (1 : Int32))])
  refine go_st (fun _ kq => XS.iand X71.here hx rfl (hb hby at_418) rfl kq) ?_
  rw [show ((1 : Int32) &&& (1 : Int32)) = (1 : Int32) from by decide +kernel]
  show Go p e below s _ _ _ T71 (mkF m 419 #[.val (.long x0), .second, .val (.int x1), .val (.int x2), .val (.int x3), .val (.long V), .second, .val (.int (Int32.ofNat o)), .val (.int x3.toInt8.toInt32), .val (.ref a20), .val (.int (Int32.ofNat (o + (k_37 + 1)))), .val (.int (Int32.ofNat (k_37 + 1))), .val (.int (1 : Int32))] [(.int (1 : Int32))])
  refine go_st (fun _ kq => XS.istore X71.here hx rfl (hb hby at_419) rfl (l' := #[.val (.long x0), .second, .val (.int x1), .val (.int x2), .val (.int x3), .val (.long V), .second, .val (.int (Int32.ofNat o)), .val (.int x3.toInt8.toInt32), .val (.ref a20), .val (.int (Int32.ofNat (o + (k_37 + 1)))), .val (.int (Int32.ofNat (k_37 + 1))), .val (.int (1 : Int32))]) rfl kq) ?_
  show Go p e below s _ _ _ T71 (mkF m 421 #[.val (.long x0), .second, .val (.int x1), .val (.int x2), .val (.int x3), .val (.long V), .second, .val (.int (Int32.ofNat o)), .val (.int x3.toInt8.toInt32), .val (.ref a20), .val (.int (Int32.ofNat (o + (k_37 + 1)))), .val (.int (Int32.ofNat (k_37 + 1))), .val (.int (1 : Int32))] [])
  refine go_st (fun _ kq => XS.iload X71.here hx rfl (hb hby at_421) rfl kq) ?_
  show Go p e below s _ _ _ T71 (mkF m 423 #[.val (.long x0), .second, .val (.int x1), .val (.int x2), .val (.int x3), .val (.long V), .second, .val (.int (Int32.ofNat o)), .val (.int x3.toInt8.toInt32), .val (.ref a20), .val (.int (Int32.ofNat (o + (k_37 + 1)))), .val (.int (Int32.ofNat (k_37 + 1))), .val (.int (1 : Int32))] [(.int (1 : Int32))])
  refine go_st (fun _ kq => XS.aload X71.here hx rfl (hb hby at_423) rfl rfl kq) ?_
  show Go p e below s _ _ _ T71 (mkF m 425 #[.val (.long x0), .second, .val (.int x1), .val (.int x2), .val (.int x3), .val (.long V), .second, .val (.int (Int32.ofNat o)), .val (.int x3.toInt8.toInt32), .val (.ref a20), .val (.int (Int32.ofNat (o + (k_37 + 1)))), .val (.int (Int32.ofNat (k_37 + 1))), .val (.int (1 : Int32))] [(.ref a20), (.int (1 : Int32))])
  refine go_st (fun _ kq => XT.bipushV X71.here hx rfl (14 : Int32) (hb hby at_425) (by decide) kq) ?_
  show Go p e below s _ _ _ T71 (mkF m 427 #[.val (.long x0), .second, .val (.int x1), .val (.int x2), .val (.int x3), .val (.long V), .second, .val (.int (Int32.ofNat o)), .val (.int x3.toInt8.toInt32), .val (.ref a20), .val (.int (Int32.ofNat (o + (k_37 + 1)))), .val (.int (Int32.ofNat (k_37 + 1))), .val (.int (1 : Int32))] [(.int (14 : Int32)), (.ref a20), (.int (1 : Int32))])
  refine go_st (fun _ kq => XS.iload X71.here hx rfl (hb hby at_427) rfl kq) ?_
  show Go p e below s _ _ _ T71 (mkF m 429 #[.val (.long x0), .second, .val (.int x1), .val (.int x2), .val (.int x3), .val (.long V), .second, .val (.int (Int32.ofNat o)), .val (.int x3.toInt8.toInt32), .val (.ref a20), .val (.int (Int32.ofNat (o + (k_37 + 1)))), .val (.int (Int32.ofNat (k_37 + 1))), .val (.int (1 : Int32))] [(.int (Int32.ofNat o)), (.int (14 : Int32)), (.ref a20), (.int (1 : Int32))])
  refine go_st (fun _ kq => XS.iload X71.here hx rfl (hb hby at_429) rfl kq) ?_
  show Go p e below s _ _ _ T71 (mkF m 431 #[.val (.long x0), .second, .val (.int x1), .val (.int x2), .val (.int x3), .val (.long V), .second, .val (.int (Int32.ofNat o)), .val (.int x3.toInt8.toInt32), .val (.ref a20), .val (.int (Int32.ofNat (o + (k_37 + 1)))), .val (.int (Int32.ofNat (k_37 + 1))), .val (.int (1 : Int32))] [(.int (Int32.ofNat (k_37 + 1))), (.int (Int32.ofNat o)), (.int (14 : Int32)), (.ref a20), (.int (1 : Int32))])
  refine go_st (fun _ kq => XT.lload X71.here hx rfl (hb hby at_431) rfl kq) ?_
  show Go p e below s _ _ _ T71 (mkF m 433 #[.val (.long x0), .second, .val (.int x1), .val (.int x2), .val (.int x3), .val (.long V), .second, .val (.int (Int32.ofNat o)), .val (.int x3.toInt8.toInt32), .val (.ref a20), .val (.int (Int32.ofNat (o + (k_37 + 1)))), .val (.int (Int32.ofNat (k_37 + 1))), .val (.int (1 : Int32))] [(.long V), (.int (Int32.ofNat (k_37 + 1))), (.int (Int32.ofNat o)), (.int (14 : Int32)), (.ref a20), (.int (1 : Int32))])
  refine go_st (fun _ kq => XS.iload X71.here hx rfl (hb hby at_433) rfl kq) ?_
  show Go p e below s _ _ _ T71 (mkF m 435 #[.val (.long x0), .second, .val (.int x1), .val (.int x2), .val (.int x3), .val (.long V), .second, .val (.int (Int32.ofNat o)), .val (.int x3.toInt8.toInt32), .val (.ref a20), .val (.int (Int32.ofNat (o + (k_37 + 1)))), .val (.int (Int32.ofNat (k_37 + 1))), .val (.int (1 : Int32))] [(.int x3.toInt8.toInt32), (.long V), (.int (Int32.ofNat (k_37 + 1))), (.int (Int32.ofNat o)), (.int (14 : Int32)), (.ref a20), (.int (1 : Int32))])
  refine go_callS X71 hx hZ hml hown (hw _ (List.mem_of_getElem? (i := 10) rfl)) (hw _ (List.mem_of_getElem? (i := 11) rfl)) (hw _ (List.mem_of_getElem? (i := 8) rfl)) (hw _ (List.mem_of_getElem? (i := 12) rfl)) e71 (argsL := [(.ref a20), (.int (14 : Int32)), (.int (Int32.ofNat o)), (.int (Int32.ofNat (k_37 + 1))), (.long V), (.int x3.toInt8.toInt32)]) (rest := [(.int (1 : Int32))]) (W := 1) (met_3 l Z a0 hw a20 (14 : Int32) (Int32.ofNat o) (Int32.ofNat (k_37 + 1)) V x3.toInt8.toInt32 (fun j => .int (FE (fun _ => x3.toInt8.toInt32) o V k_37 j)) (FE (fun _ => x3.toInt8.toInt32) o V k_37 14) T37.heap n0 z58 f37_0 (by decide) rfl) (hb hby at_435) rfl rfl rfl (lenOf pd2 rfl) (by show 2 * 0 + _ ≤ _; exact Nat.le_of_eq rfl) (by decide) (by decide) (by decide) (by decide) (by decide) ?_
  intro T72 v72 L72 X72 q72
  obtain ⟨rfl, M72, e72⟩ := q72
  have N72 := Fr.app N71 M72
  have ra72 : (fAt (14 : Int32) (Int32.ofNat o) (Int32.ofNat (k_37 + 1)) V x3.toInt8.toInt32 (FE (fun _ => x3.toInt8.toInt32) o V k_37 14)) = 1 := own_at (j := 14) ho hk hall hsm (by decide)
  rw [ra72]
  show Go p e below s _ _ _ T72 (mkF m 438 #[.val (.long x0), .second, .val (.int x1), .val (.int x2), .val (.int x3), .val (.long V), .second, .val (.int (Int32.ofNat o)), .val (.int x3.toInt8.toInt32), .val (.ref a20), .val (.int (Int32.ofNat (o + (k_37 + 1)))), .val (.int (Int32.ofNat (k_37 + 1))), .val (.int (1 : Int32))] [(.int (1 : Int32)), (.int (1 : Int32))])
  refine go_st (fun _ kq => XS.iand X72.here hx rfl (hb hby at_438) rfl kq) ?_
  rw [show ((1 : Int32) &&& (1 : Int32)) = (1 : Int32) from by decide +kernel]
  show Go p e below s _ _ _ T72 (mkF m 439 #[.val (.long x0), .second, .val (.int x1), .val (.int x2), .val (.int x3), .val (.long V), .second, .val (.int (Int32.ofNat o)), .val (.int x3.toInt8.toInt32), .val (.ref a20), .val (.int (Int32.ofNat (o + (k_37 + 1)))), .val (.int (Int32.ofNat (k_37 + 1))), .val (.int (1 : Int32))] [(.int (1 : Int32))])
  refine go_st (fun _ kq => XS.istore X72.here hx rfl (hb hby at_439) rfl (l' := #[.val (.long x0), .second, .val (.int x1), .val (.int x2), .val (.int x3), .val (.long V), .second, .val (.int (Int32.ofNat o)), .val (.int x3.toInt8.toInt32), .val (.ref a20), .val (.int (Int32.ofNat (o + (k_37 + 1)))), .val (.int (Int32.ofNat (k_37 + 1))), .val (.int (1 : Int32))]) rfl kq) ?_
  show Go p e below s _ _ _ T72 (mkF m 441 #[.val (.long x0), .second, .val (.int x1), .val (.int x2), .val (.int x3), .val (.long V), .second, .val (.int (Int32.ofNat o)), .val (.int x3.toInt8.toInt32), .val (.ref a20), .val (.int (Int32.ofNat (o + (k_37 + 1)))), .val (.int (Int32.ofNat (k_37 + 1))), .val (.int (1 : Int32))] [])
  refine go_st (fun _ kq => XS.iload X72.here hx rfl (hb hby at_441) rfl kq) ?_
  show Go p e below s _ _ _ T72 (mkF m 443 #[.val (.long x0), .second, .val (.int x1), .val (.int x2), .val (.int x3), .val (.long V), .second, .val (.int (Int32.ofNat o)), .val (.int x3.toInt8.toInt32), .val (.ref a20), .val (.int (Int32.ofNat (o + (k_37 + 1)))), .val (.int (Int32.ofNat (k_37 + 1))), .val (.int (1 : Int32))] [(.int (1 : Int32))])
  refine go_st (fun _ kq => XS.aload X72.here hx rfl (hb hby at_443) rfl rfl kq) ?_
  show Go p e below s _ _ _ T72 (mkF m 445 #[.val (.long x0), .second, .val (.int x1), .val (.int x2), .val (.int x3), .val (.long V), .second, .val (.int (Int32.ofNat o)), .val (.int x3.toInt8.toInt32), .val (.ref a20), .val (.int (Int32.ofNat (o + (k_37 + 1)))), .val (.int (Int32.ofNat (k_37 + 1))), .val (.int (1 : Int32))] [(.ref a20), (.int (1 : Int32))])
  refine go_st (fun _ kq => XT.bipushV X72.here hx rfl (15 : Int32) (hb hby at_445) (by decide) kq) ?_
  show Go p e below s _ _ _ T72 (mkF m 447 #[.val (.long x0), .second, .val (.int x1), .val (.int x2), .val (.int x3), .val (.long V), .second, .val (.int (Int32.ofNat o)), .val (.int x3.toInt8.toInt32), .val (.ref a20), .val (.int (Int32.ofNat (o + (k_37 + 1)))), .val (.int (Int32.ofNat (k_37 + 1))), .val (.int (1 : Int32))] [(.int (15 : Int32)), (.ref a20), (.int (1 : Int32))])
  refine go_st (fun _ kq => XS.iload X72.here hx rfl (hb hby at_447) rfl kq) ?_
  show Go p e below s _ _ _ T72 (mkF m 449 #[.val (.long x0), .second, .val (.int x1), .val (.int x2), .val (.int x3), .val (.long V), .second, .val (.int (Int32.ofNat o)), .val (.int x3.toInt8.toInt32), .val (.ref a20), .val (.int (Int32.ofNat (o + (k_37 + 1)))), .val (.int (Int32.ofNat (k_37 + 1))), .val (.int (1 : Int32))] [(.int (Int32.ofNat o)), (.int (15 : Int32)), (.ref a20), (.int (1 : Int32))])
  refine go_st (fun _ kq => XS.iload X72.here hx rfl (hb hby at_449) rfl kq) ?_
  show Go p e below s _ _ _ T72 (mkF m 451 #[.val (.long x0), .second, .val (.int x1), .val (.int x2), .val (.int x3), .val (.long V), .second, .val (.int (Int32.ofNat o)), .val (.int x3.toInt8.toInt32), .val (.ref a20), .val (.int (Int32.ofNat (o + (k_37 + 1)))), .val (.int (Int32.ofNat (k_37 + 1))), .val (.int (1 : Int32))] [(.int (Int32.ofNat (k_37 + 1))), (.int (Int32.ofNat o)), (.int (15 : Int32)), (.ref a20), (.int (1 : Int32))])
  refine go_st (fun _ kq => XT.lload X72.here hx rfl (hb hby at_451) rfl kq) ?_
  show Go p e below s _ _ _ T72 (mkF m 453 #[.val (.long x0), .second, .val (.int x1), .val (.int x2), .val (.int x3), .val (.long V), .second, .val (.int (Int32.ofNat o)), .val (.int x3.toInt8.toInt32), .val (.ref a20), .val (.int (Int32.ofNat (o + (k_37 + 1)))), .val (.int (Int32.ofNat (k_37 + 1))), .val (.int (1 : Int32))] [(.long V), (.int (Int32.ofNat (k_37 + 1))), (.int (Int32.ofNat o)), (.int (15 : Int32)), (.ref a20), (.int (1 : Int32))])
  refine go_st (fun _ kq => XS.iload X72.here hx rfl (hb hby at_453) rfl kq) ?_
  show Go p e below s _ _ _ T72 (mkF m 455 #[.val (.long x0), .second, .val (.int x1), .val (.int x2), .val (.int x3), .val (.long V), .second, .val (.int (Int32.ofNat o)), .val (.int x3.toInt8.toInt32), .val (.ref a20), .val (.int (Int32.ofNat (o + (k_37 + 1)))), .val (.int (Int32.ofNat (k_37 + 1))), .val (.int (1 : Int32))] [(.int x3.toInt8.toInt32), (.long V), (.int (Int32.ofNat (k_37 + 1))), (.int (Int32.ofNat o)), (.int (15 : Int32)), (.ref a20), (.int (1 : Int32))])
  refine go_callS X72 hx hZ hml hown (hw _ (List.mem_of_getElem? (i := 10) rfl)) (hw _ (List.mem_of_getElem? (i := 11) rfl)) (hw _ (List.mem_of_getElem? (i := 8) rfl)) (hw _ (List.mem_of_getElem? (i := 12) rfl)) e72 (argsL := [(.ref a20), (.int (15 : Int32)), (.int (Int32.ofNat o)), (.int (Int32.ofNat (k_37 + 1))), (.long V), (.int x3.toInt8.toInt32)]) (rest := [(.int (1 : Int32))]) (W := 1) (met_3 l Z a0 hw a20 (15 : Int32) (Int32.ofNat o) (Int32.ofNat (k_37 + 1)) V x3.toInt8.toInt32 (fun j => .int (FE (fun _ => x3.toInt8.toInt32) o V k_37 j)) (FE (fun _ => x3.toInt8.toInt32) o V k_37 15) T37.heap n0 z58 f37_0 (by decide) rfl) (hb hby at_455) rfl rfl rfl (lenOf pd2 rfl) (by show 2 * 0 + _ ≤ _; exact Nat.le_of_eq rfl) (by decide) (by decide) (by decide) (by decide) (by decide) ?_
  intro T73 v73 L73 X73 q73
  obtain ⟨rfl, M73, e73⟩ := q73
  have N73 := Fr.app N72 M73
  have ra73 : (fAt (15 : Int32) (Int32.ofNat o) (Int32.ofNat (k_37 + 1)) V x3.toInt8.toInt32 (FE (fun _ => x3.toInt8.toInt32) o V k_37 15)) = 1 := own_at (j := 15) ho hk hall hsm (by decide)
  rw [ra73]
  show Go p e below s _ _ _ T73 (mkF m 458 #[.val (.long x0), .second, .val (.int x1), .val (.int x2), .val (.int x3), .val (.long V), .second, .val (.int (Int32.ofNat o)), .val (.int x3.toInt8.toInt32), .val (.ref a20), .val (.int (Int32.ofNat (o + (k_37 + 1)))), .val (.int (Int32.ofNat (k_37 + 1))), .val (.int (1 : Int32))] [(.int (1 : Int32)), (.int (1 : Int32))])
  refine go_st (fun _ kq => XS.iand X73.here hx rfl (hb hby at_458) rfl kq) ?_
  rw [show ((1 : Int32) &&& (1 : Int32)) = (1 : Int32) from by decide +kernel]
  show Go p e below s _ _ _ T73 (mkF m 459 #[.val (.long x0), .second, .val (.int x1), .val (.int x2), .val (.int x3), .val (.long V), .second, .val (.int (Int32.ofNat o)), .val (.int x3.toInt8.toInt32), .val (.ref a20), .val (.int (Int32.ofNat (o + (k_37 + 1)))), .val (.int (Int32.ofNat (k_37 + 1))), .val (.int (1 : Int32))] [(.int (1 : Int32))])
  refine go_st (fun _ kq => XS.istore X73.here hx rfl (hb hby at_459) rfl (l' := #[.val (.long x0), .second, .val (.int x1), .val (.int x2), .val (.int x3), .val (.long V), .second, .val (.int (Int32.ofNat o)), .val (.int x3.toInt8.toInt32), .val (.ref a20), .val (.int (Int32.ofNat (o + (k_37 + 1)))), .val (.int (Int32.ofNat (k_37 + 1))), .val (.int (1 : Int32))]) rfl kq) ?_
  show Go p e below s _ _ _ T73 (mkF m 461 #[.val (.long x0), .second, .val (.int x1), .val (.int x2), .val (.int x3), .val (.long V), .second, .val (.int (Int32.ofNat o)), .val (.int x3.toInt8.toInt32), .val (.ref a20), .val (.int (Int32.ofNat (o + (k_37 + 1)))), .val (.int (Int32.ofNat (k_37 + 1))), .val (.int (1 : Int32))] [])
  refine go_st (fun _ kq => XS.iload X73.here hx rfl (hb hby at_461) rfl kq) ?_
  show Go p e below s _ _ _ T73 (mkF m 463 #[.val (.long x0), .second, .val (.int x1), .val (.int x2), .val (.int x3), .val (.long V), .second, .val (.int (Int32.ofNat o)), .val (.int x3.toInt8.toInt32), .val (.ref a20), .val (.int (Int32.ofNat (o + (k_37 + 1)))), .val (.int (Int32.ofNat (k_37 + 1))), .val (.int (1 : Int32))] [(.int (1 : Int32))])
  exact go_retB (w := (1 : Int32)) X73 hx hlk hret (hb hby at_463) (by decide) (by decide) (by decide) ⟨rfl, N73⟩
set_option maxRecDepth 65536 in
set_option maxHeartbeats 4000000 in
theorem comes_1 {Post : Tables → Env → Array Value → State → Outcome → State → Prop} (hpost : ∀ tb e args s v u, (limb_1_1.after args s (.returned v) u = true ∧ limb_1_2.after args s (.returned v) u = true ∧ True) → FrameEnd s (.returned v) u (Jvm.fieldLocs frame_1_writes args s ++ Jvm.arrayLocs frame_1_arrays args s ++ Jvm.staticLocs frame_1_statics s) 16 128 → Post tb e args s (.returned v) u) :
    ArmFor flags0 classFile x code maxLocals ret World_1 tables_1 room_1 Calls_1 rest_1 Pre_1 Post := by
  intro l hfl _ _ p e ha hc hk s m args below hf hA hF happ hP
  obtain ⟨hcalls, hrest, hpre⟩ := hP
  obtain ⟨-, -, -, hnamed, -, -, -, hat⟩ := (Spec.applies_iff hf).mp happ
  obtain ⟨hg, hn⟩ := and_e (Cond.before_iff.mp (show (Jvm.Cond.and given_1 narrow_1).before args s = true from hpre))
  obtain ⟨k1, r1⟩ := and_e hg
  obtain ⟨g0, r2⟩ := and_e r1
  obtain ⟨g1, r3⟩ := and_e r2
  obtain ⟨g2, r4⟩ := and_e r3
  have g3 := r4
  obtain ⟨w0, w1, w2, w3, rfl⟩ : ∃ w0 w1 w2 w3 : Value, args = #[w0, w1, w2, w3] := by
    have hs : args.size = 4 := by simpa [Cond.value, given_1] using k1
    obtain ⟨L⟩ := args
    match L, hs with
    | [w0, w1, w2, w3], _ => exact ⟨w0, w1, w2, w3, rfl⟩
  have hw := fun d (hd : d ∈ tables_1) => atoms_spec (ws := Jvm.Cond.code x code maxLocals ret :: tables_1) hat d (List.mem_cons_of_mem _ hd)
  have hfit : Fit s := fun {y c} hc i hi => by
    obtain ⟨ha, rfl⟩ := Array.getElem?_eq_some_iff.mp hc
    have q := List.all_eq_true.mp ((Array.all_eq_true_iff_forall_mem.mp hF) _ (Array.getElem_mem ha)) i (List.mem_range.mpr hi)
    simpa [Array.getElem?_eq_getElem hi] using q
  obtain ⟨i0, f0⟩ := isL_v g0
  obtain rfl : w0 = (.long i0) := Option.some.inj f0
  obtain ⟨i1, f1⟩ := is_v g1
  obtain rfl : w1 = (.int i1) := Option.some.inj f1
  obtain ⟨i2, f2⟩ := is_v g2
  obtain rfl : w2 = (.int i2) := Option.some.inj f2
  obtain ⟨i3, f3⟩ := is_v g3
  obtain rfl : w3 = (.int i3) := Option.some.inj f3
  have hm := met_law l s _ hw i0 i1 i2 i3 s.heap s.heap.size (Nat.le_refl _)
  obtain ⟨n, o, h1, h2, h3, _, L, rfl, ⟨rfl, N⟩, hq⟩ := hm p e ha hc hk s m _ below hf ((Spec.applies_iff_loose hf).mp happ).1 ⟨rfl, State.Warmed39.refl s, rfl⟩ trivial
  refine ⟨n, _, h1, h2, h3, hpost _ _ _ _ _ _ ⟨Cond.after_iff.mpr rfl, Cond.after_iff.mpr (eq_i res_at (Term.int_eval (1)) rfl), trivial⟩ ⟨hq.1, hq.2.1, (hq.2.2.sift fun y hy => Or.inr (N y hy)).mono (by decide) (by decide)⟩⟩
theorem main_1_1 : Claimed_1_1 := comes_1 fun _ _ _ _ _ _ h hF => ⟨h.1, hF⟩
theorem main_1_2 : Claimed_1_2 := comes_1 fun _ _ _ _ _ _ h hF => ⟨h.2.1, hF⟩
end Jvm.Pilot.@@N@@
namespace Jvm.Pilot.@@N@@
open Jvm Jvm.ClassFile Sem Op Lib Jvm.Free Jvm.Stand Jvm.Pilot.@@N@@.Jvm.D
/-! MADE BY PROGRAM (witnessworld.py) out of the Statement's table words and the real class files: 9 classes; the members and pool entries that the words name. The judged class is class 1, her method 1. -/
namespace start1
open Jvm.ClassFile
def u (s : String) : CpInfo := .utf8 (stringToUtf16 s)
/-- a pool by its gaps: so many unusable entries, then the entry; so many at the end -/
def gap : Nat → List CpInfo → List CpInfo
  | 0, r => r
  | n + 1, r => .unusable :: gap n r
def poolList (es : List (Nat × CpInfo)) (last : Nat) : List CpInfo := es.foldr (fun e r => gap e.1 (e.2 :: r)) (gap last [])
def pool (es : List (Nat × CpInfo)) (last : Nat) : Array CpInfo := ⟨poolList es last⟩
def fileOf (pool : Array CpInfo) (this : Nat) (attrs : Array Attribute := #[]) (ms : Array MethodInfo := #[]) (fl : Nat := 33) (sup : Nat := 0) (ifs : Array Nat := #[]) (fds : Array FieldInfo := #[]) : ClassFile where
  minorVersion := 0
  majorVersion := 65
  constantPool := pool
  accessFlags := fl
  thisClass := this
  superClass := sup
  interfaces := ifs
  fields := fds
  methods := ms
  attributes := attrs
def plain (name : String) (sup : Option ClassId) : Class where
  name := name
  kind := .ordinary
  loader := none
  accessFlags := 33
  super := sup
  interfaces := #[]
  cf := none
  fields := #[]
  methods := #[]
  instanceTypes := #[]
  staticTypes := #[]
  resolved := #[]
  callSites := []
  init := .initialized
  statics := none
  mirror := none

def pool0 : Array CpInfo := pool [(5, u "<init>"), (0, u "()V"), (1, .class_ 10), (1, u "java/lang/Object")] 113

def k0m0 : Method := { name := "<init>", desc := "()V", sig := { parameters := [], returnType := none }, accessFlags := 1, code := none }
/-- java/lang/Object -/
def k0 : Class := { plain "java/lang/Object" none with
  accessFlags := 33
  interfaces := #[]
  cf := some (fileOf pool0 8 #[] #[{ accessFlags := 1, nameIndex := 5, descriptorIndex := 6, attributes := #[] }] 33 0 #[] #[])
  fields := #[]
  methods := #[k0m0]
  instanceTypes := #[]
  staticTypes := #[]
  resolved := Array.replicate 124 none
  statics := none }

def pool1 : Array CpInfo := pool [(2, .class_ 4), (1, u "java/lang/Object"), (0, u "<init>"), (0, u "()V"), (0, .methodref 8 9), (0, .class_ 10), (0, .nameAndType 11 12), (0, u "com/example/query_likelihood_ranker/querylikelihoodranker/index/IndexFormat"), (0, u "putNumber"), (0, u "([BIJ)I"), (0, .methodref 14 15), (0, .class_ 16), (0, .nameAndType 17 18), (0, u "com/example/query_likelihood_ranker/querylikelihoodranker/index/IndexFormatPutNumberPinLaw"), (0, u "length"), (0, u "(J)I"), (0, .methodref 14 20), (0, .nameAndType 21 22), (0, u "at"), (0, u "([BIIIJB)Z"), (0, .long 127), (3, u "law"), (0, u "(JIII)Z")] 5

def k1m0 : Method := { name := "<init>", desc := "()V", sig := { parameters := [], returnType := none }, accessFlags := 1, code := none }
def k1c1 : Code := { maxStack := 8, maxLocals := 13, code := code, exceptionTable := #[], attributes := #[] }
def k1m1 : Method := { name := "law", desc := "(JIII)Z", sig := { parameters := [.long, .int, .int, .int], returnType := some .boolean }, accessFlags := 9, code := some k1c1 }
def k1c2 : Code := { maxStack := 4, maxLocals := 2, code := method_3_code, exceptionTable := #[], attributes := #[] }
def k1m2 : Method := { name := "length", desc := "(J)I", sig := { parameters := [.long], returnType := some .int }, accessFlags := 10, code := some k1c2 }
def k1c3 : Code := { maxStack := 4, maxLocals := 10, code := method_4_code, exceptionTable := #[], attributes := #[] }
def k1m3 : Method := { name := "at", desc := "([BIIIJB)Z", sig := { parameters := [(.array .byte), .int, .int, .int, .long, .byte], returnType := some .boolean }, accessFlags := 10, code := some k1c3 }
/-- com/example/query_likelihood_ranker/querylikelihoodranker/index/IndexFormatPutNumberPinLaw -/
def k1 : Class := { plain "com/example/query_likelihood_ranker/querylikelihoodranker/index/IndexFormatPutNumberPinLaw" (some 0) with
  accessFlags := 49
  interfaces := #[]
  cf := some (fileOf pool1 14 #[] #[{ accessFlags := 1, nameIndex := 5, descriptorIndex := 6, attributes := #[] }, { accessFlags := 9, nameIndex := 27, descriptorIndex := 28, attributes := #[] }, { accessFlags := 10, nameIndex := 17, descriptorIndex := 18, attributes := #[] }, { accessFlags := 10, nameIndex := 21, descriptorIndex := 22, attributes := #[] }] 49 2 #[] #[])
  fields := #[]
  methods := #[k1m0, k1m1, k1m2, k1m3]
  instanceTypes := #[]
  staticTypes := #[]
  resolved := Array.replicate 34 none
  statics := none }

def pool2 : Array CpInfo := pool [(6, .class_ 8), (1, u "java/lang/Object"), (0, u "<init>"), (0, u "()V"), (0, .class_ 12), (0, u "com/example/query_likelihood_ranker/querylikelihoodranker/index/IndexFormat"), (57, u "putNumber"), (0, u "([BIJ)I"), (5, .long 18446744073709551488), (1, .long 127), (1, .long 128), (69, u "FILE_NAME"), (0, u "Ljava/lang/String;"), (3, u "VERSION"), (0, u "I"), (1, u "HEADER_LENGTH"), (1, u "TRAILER_LENGTH"), (0, u "NOT_AN_INDEX"), (0, u "MIN_DOCUMENT_ENTRY_LENGTH"), (1, u "MIN_TERM_ENTRY_LENGTH"), (1, u "MAGIC"), (0, u "MAX_NUMBER_LENGTH"), (22, .class_ 192), (0, u "com/example/query_likelihood_ranker/querylikelihoodranker/index/IndexFormat$Reader"), (0, .class_ 194), (0, u "com/example/query_likelihood_ranker/querylikelihoodranker/index/IndexFormat$PostingsReader")] 19

def k2m0 : Method := { name := "<init>", desc := "()V", sig := { parameters := [], returnType := none }, accessFlags := 2, code := none }
def k2c1 : Code := { maxStack := 6, maxLocals := 7, code := prog_27_method_5_code, exceptionTable := #[], attributes := #[] }
def k2m1 : Method := { name := "putNumber", desc := "([BIJ)I", sig := { parameters := [(.array .byte), .int, .long], returnType := some .int }, accessFlags := 8, code := some k2c1 }
/-- com/example/query_likelihood_ranker/querylikelihoodranker/index/IndexFormat -/
def k2 : Class := { plain "com/example/query_likelihood_ranker/querylikelihoodranker/index/IndexFormat" (some 0) with
  accessFlags := 48
  interfaces := #[]
  cf := some (fileOf pool2 11 #[.nestMembers #[191, 193]] #[{ accessFlags := 2, nameIndex := 9, descriptorIndex := 10, attributes := #[] }, { accessFlags := 8, nameIndex := 70, descriptorIndex := 71, attributes := #[] }] 48 6 #[] #[{ accessFlags := 24, nameIndex := 151, descriptorIndex := 152, attributes := #[] }, { accessFlags := 24, nameIndex := 156, descriptorIndex := 157, attributes := #[] }, { accessFlags := 24, nameIndex := 159, descriptorIndex := 157, attributes := #[] }, { accessFlags := 24, nameIndex := 161, descriptorIndex := 157, attributes := #[] }, { accessFlags := 24, nameIndex := 162, descriptorIndex := 152, attributes := #[] }, { accessFlags := 24, nameIndex := 163, descriptorIndex := 157, attributes := #[] }, { accessFlags := 24, nameIndex := 165, descriptorIndex := 157, attributes := #[] }, { accessFlags := 26, nameIndex := 167, descriptorIndex := 152, attributes := #[] }, { accessFlags := 26, nameIndex := 168, descriptorIndex := 157, attributes := #[] }])
  fields := #[{ name := "FILE_NAME", type := (.object "java/lang/String"), accessFlags := 24, slot := 0, constantValue := 0 }, { name := "VERSION", type := .int, accessFlags := 24, slot := 1, constantValue := 0 }, { name := "HEADER_LENGTH", type := .int, accessFlags := 24, slot := 2, constantValue := 0 }, { name := "TRAILER_LENGTH", type := .int, accessFlags := 24, slot := 3, constantValue := 0 }, { name := "NOT_AN_INDEX", type := (.object "java/lang/String"), accessFlags := 24, slot := 4, constantValue := 0 }, { name := "MIN_DOCUMENT_ENTRY_LENGTH", type := .int, accessFlags := 24, slot := 5, constantValue := 0 }, { name := "MIN_TERM_ENTRY_LENGTH", type := .int, accessFlags := 24, slot := 6, constantValue := 0 }, { name := "MAGIC", type := (.object "java/lang/String"), accessFlags := 26, slot := 7, constantValue := 0 }, { name := "MAX_NUMBER_LENGTH", type := .int, accessFlags := 26, slot := 8, constantValue := 0 }]
  methods := #[k2m0, k2m1]
  instanceTypes := #[]
  staticTypes := #[(.object "java/lang/String"), .int, .int, .int, (.object "java/lang/String"), .int, .int, (.object "java/lang/String"), .int]
  resolved := Array.replicate 214 none
  statics := none }

def pool3 : Array CpInfo := pool [(1, u "java/lang/Cloneable"), (0, .class_ 1), (0, u "java/lang/Object"), (0, .class_ 3)] 3

/-- java/lang/Cloneable -/
def k3 : Class := { plain "java/lang/Cloneable" (some 0) with
  accessFlags := 1537
  interfaces := #[]
  cf := some (fileOf pool3 2 #[] #[] 1537 4 #[] #[])
  fields := #[]
  methods := #[]
  instanceTypes := #[]
  staticTypes := #[]
  resolved := Array.replicate 8 none
  statics := none }

def pool4 : Array CpInfo := pool [(1, u "java/io/Serializable"), (0, .class_ 1), (0, u "java/lang/Object"), (0, .class_ 3)] 3

/-- java/io/Serializable -/
def k4 : Class := { plain "java/io/Serializable" (some 0) with
  accessFlags := 1537
  interfaces := #[]
  cf := some (fileOf pool4 2 #[] #[] 1537 4 #[] #[])
  fields := #[]
  methods := #[]
  instanceTypes := #[]
  staticTypes := #[]
  resolved := Array.replicate 8 none
  statics := none }

/-- the primitive byte -/
def k5 : Class := { plain "byte" none with kind := .primitive 'B', accessFlags := 0x411 }
/-- [B -/
def k6 : Class := { plain "[B" (some 0) with kind := .array 5 .byte, interfaces := #[3, 4], accessFlags := 1041 }

/-- the primitive int -/
def k7 : Class := { plain "int" none with kind := .primitive 'I', accessFlags := 0x411 }
/-- [I -/
def k8 : Class := { plain "[I" (some 0) with kind := .array 7 .int, interfaces := #[3, 4], accessFlags := 1041 }

def heap : Heap := #[]
def classes : Array Class := #[k0, k1, k2, k3, k4, k5, k6, k7, k8]
def interned : List (Array UInt16 × Addr) := []
def slotsUsed : Nat := 0
def theMethod : MethodId := ⟨1, 1⟩
def args0 : Array Value := #[.long 5, .int 1, .int 6, .int 3]
def aboutOver (below : List Frame) : State where
  vm := { classes := classes, interned := interned.toArray }
  heap := heap
  slotsUsed := slotsUsed
  threads := #[{ frames := .invoking theMethod args0 :: below }]
def below0 : List Frame := [.native { method := ⟨0, 0⟩, args := #[] }]
def about1 : State := aboutOver below0
def p0 : Program := .bare "" "" ""
def e0 : Env := launch0.env 0 0 0
theorem w_frames : about1.frames = Frame.invoking theMethod args0 :: below0 := rfl
set_option maxRecDepth 65536 in
theorem w_args : argsFit about1.vm theMethod args0 = true := by decide +kernel
set_option maxRecDepth 65536 in
theorem w_heap : heapFits about1 = true := by decide +kernel
set_option maxRecDepth 65536 in
theorem w_runnable : about1.curStatus? = some .runnable := by decide +kernel
set_option maxRecDepth 65536 in
theorem w_alone : about1.alone = true := by decide +kernel
set_option maxRecDepth 65536 in
theorem w_named : about1.methodNamed? x = some theMethod := by decide +kernel
set_option maxRecDepth 65536 in
theorem w_hears : about1.hears theMethod below0 = true := by decide +kernel
set_option maxRecDepth 65536 in
theorem w_ripe : about1.ripe theMethod args0 below0 = true := by decide +kernel
theorem w_running : about1.status = .running := rfl
set_option maxRecDepth 65536 in
theorem w_room : about1.hasRoom e0.platform room_1 = true :=
  launch0.hasRoom_least _ room_1 (by decide +kernel) (by decide +kernel) (by decide +kernel) (by decide +kernel) (by decide +kernel) (by decide +kernel)
theorem allAtoms_all (ts : List Jvm.Cond) (a : Array Jvm.Value) (st : Jvm.State) : (allAtoms ts).before a st = ts.all (fun c => c.before a st) := by
  induction ts with
  | nil => rfl
  | cons c t ih =>
    show (Jvm.Cond.and c (allAtoms t)).before a st = _
    rw [Jvm.Cond.before_and, ih, List.all_cons]
def words1 : List Jvm.Cond := Jvm.Cond.code x code maxLocals ret :: tables_1
/-- a 'code' word, met by the world's own term for the bytes: nothing is compared byte by byte -/
theorem code_word {y : MethodName} {bytes : ByteArray} {mx : Nat} {rt : Option FieldType} {a : Array Value} {s : State} {m : MethodId} {meth : Method} {c : Code} (h1 : s.methodNamed? y = some m) (h2 : s.vm.method? m = some meth) (h3 : meth.code = some c) (h4 : c.code = bytes)
    (h5 : (c.maxLocals == mx && c.exceptionTable.isEmpty && decide (c.maxStack ≤ mostOperands) && decide (meth.sig.returnType = rt) && !meth.locks && decide (parseMethodDescriptor y.desc = some meth.sig)) = true) : (Jvm.Cond.code y bytes mx rt).before a s = true := by
  simp only [Bool.and_eq_true, beq_iff_eq, Bool.not_eq_true', decide_eq_true_eq] at h5
  obtain ⟨⟨⟨⟨⟨g1, g2⟩, g3⟩, g4⟩, g5⟩, g6⟩ := h5
  simp [Cond.before, Cond.holds, Cond.value, h1, h2, h3, h4, g1, g2, g3, g4, g5, g6]
def isCode : Jvm.Cond → Bool
  | .code _ _ _ _ => true
  | _ => false
theorem all_split {L : List Jvm.Cond} {P : Jvm.Cond → Bool} (h1 : L.all (fun c => isCode c || P c) = true) (h2 : ∀ c ∈ L.filter isCode, P c = true) : L.all P = true := by
  refine List.all_eq_true.mpr fun c hc => ?_
  have h := List.all_eq_true.mp h1 c hc
  rcases Bool.eq_false_or_eq_true (isCode c) with hi | hi
  · exact h2 c (List.mem_filter.mpr ⟨hc, hi⟩)
  · simpa [hi] using h
set_option maxRecDepth 65536 in
theorem w_c0 : (Jvm.Cond.code x code maxLocals ret).before args0 about1 = true := code_word (m := ⟨1, 1⟩) (meth := k1m1) (c := k1c1) (by decide +kernel) rfl rfl rfl (by decide +kernel)
set_option maxRecDepth 65536 in
theorem w_c1 : (Jvm.Cond.code ({ cls := "com/example/query_likelihood_ranker/querylikelihoodranker/index/IndexFormat", name := "putNumber", desc := "([BIJ)I" } : Jvm.MethodName) prog_27_method_5_code (7 : Nat) (Option.some Jvm.ClassFile.FieldType.int)).before args0 about1 = true := code_word (m := ⟨2, 1⟩) (meth := k2m1) (c := k2c1) (by decide +kernel) rfl rfl rfl (by decide +kernel)
set_option maxRecDepth 65536 in
theorem w_c2 : (Jvm.Cond.code ({ cls := "com/example/query_likelihood_ranker/querylikelihoodranker/index/IndexFormatPutNumberPinLaw", name := "length", desc := "(J)I" } : Jvm.MethodName) method_3_code (2 : Nat) (Option.some Jvm.ClassFile.FieldType.int)).before args0 about1 = true := code_word (m := ⟨1, 2⟩) (meth := k1m2) (c := k1c2) (by decide +kernel) rfl rfl rfl (by decide +kernel)
set_option maxRecDepth 65536 in
theorem w_c3 : (Jvm.Cond.code ({ cls := "com/example/query_likelihood_ranker/querylikelihoodranker/index/IndexFormatPutNumberPinLaw", name := "at", desc := "([BIIIJB)Z" } : Jvm.MethodName) method_4_code (10 : Nat) (Option.some Jvm.ClassFile.FieldType.boolean)).before args0 about1 = true := code_word (m := ⟨1, 3⟩) (meth := k1m3) (c := k1c3) (by decide +kernel) rfl rfl rfl (by decide +kernel)
def codes1 : List Jvm.Cond := [Jvm.Cond.code x code maxLocals ret, Jvm.Cond.code ({ cls := "com/example/query_likelihood_ranker/querylikelihoodranker/index/IndexFormat", name := "putNumber", desc := "([BIJ)I" } : Jvm.MethodName) prog_27_method_5_code (7 : Nat) (Option.some Jvm.ClassFile.FieldType.int), Jvm.Cond.code ({ cls := "com/example/query_likelihood_ranker/querylikelihoodranker/index/IndexFormatPutNumberPinLaw", name := "length", desc := "(J)I" } : Jvm.MethodName) method_3_code (2 : Nat) (Option.some Jvm.ClassFile.FieldType.int), Jvm.Cond.code ({ cls := "com/example/query_likelihood_ranker/querylikelihoodranker/index/IndexFormatPutNumberPinLaw", name := "at", desc := "([BIIIJB)Z" } : Jvm.MethodName) method_4_code (10 : Nat) (Option.some Jvm.ClassFile.FieldType.boolean)]
set_option maxRecDepth 65536 in
theorem codes_eq : words1.filter isCode = codes1 := rfl
theorem w_codes : ∀ c ∈ words1.filter isCode, c.before args0 about1 = true := by
  rw [codes_eq]
  intro c hc
  simp only [codes1, List.mem_cons, List.not_mem_nil, or_false] at hc
  rcases hc with rfl | rfl | rfl | rfl
  · exact w_c0
  · exact w_c1
  · exact w_c2
  · exact w_c3
set_option maxRecDepth 65536 in
theorem w_t1 : words1.all (fun c => isCode c || c.before args0 about1) = true := by decide +kernel
theorem w_tables : (allAtoms (Jvm.Cond.code x code maxLocals ret :: tables_1)).before args0 about1 = true := by
  rw [allAtoms_all]
  show words1.all (fun c => c.before args0 about1) = true
  refine all_split ?_ w_codes
  rw [w_t1]
set_option maxRecDepth 65536 in
theorem w_case : (Jvm.Cond.and given_1 narrow_1).before args0 about1 = true := by decide +kernel
theorem w_applies : (headSpec (Jvm.Cond.code x code maxLocals ret :: tables_1) room_1).applies x e0.platform about1 = true :=
  (Spec.applies_iff w_frames).mpr ⟨w_running, w_runnable, w_alone, w_named, w_hears, w_ripe, w_room, w_tables⟩
theorem atStart : AtStart classFile x code maxLocals ret World_1 tables_1 room_1 Calls_1 rest_1 Pre_1 launch0 p0 e0 about1 theMethod args0 below0 :=
  ⟨lists_1, trivial, launch0.admits_env _ _ _, launch0.least_env, fairChoices_fair.cas, fairChoices_fair.clock, w_frames, w_args, w_heap, w_applies, trivial, trivial, w_case⟩
end start1
theorem witness_1 : WitnessClaimed_1 := ⟨start1.p0, start1.e0, start1.about1, start1.theMethod, start1.args0, start1.below0, start1.atStart⟩
end Jvm.Pilot.@@N@@
